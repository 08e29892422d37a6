import JvmDerived
import JvmDerived.Pilot.@@N@@Statement
import JvmDerived.Pilot.@@N@@Code
set_option linter.unusedVariables false
set_option linter.unusedSimpArgs false
@@BLOCK:NumsL.lean.txt@@
namespace Jvm.Pilot.@@N@@
open Jvm Jvm.ClassFile Sem Op Lib Jvm.Free Jvm.Stand Jvm.LawKit Jvm.RoadKit Bundle Jvm.Pilot.@@N@@.Jvm.D
/-! the walk in continuation form: what is left to be shown of a state on the road -/
def own_Gl (p : Program) (e : Env) (below : List Frame) (P : Outcome → State → Prop) (S : State) : Prop := ∃ s₂ o, Steps p.tables e below S s₂ ∧ s₂.status = .running ∧ Ended s₂ below o ∧ P o s₂
theorem own_go {p : Program} {e : Env} {below : List Frame} {P : Outcome → State → Prop} {S S' : State} (k : ∀ t, Steps p.tables e below S' t → Steps p.tables e below S t) (h : own_Gl p e below P S') : own_Gl p e below P S := by
  obtain ⟨u, o, h1, h2⟩ := h
  exact ⟨u, o, k u h1, h2⟩
theorem own_ext {h0 h : Heap} (K : Keep h0 h []) : Ext h0 h := ⟨K.1, fun a c q => K.2.1 a c q nin0⟩
theorem own_jn {p : Program} {e : Env} {below : List Frame} {P : Outcome → State → Prop} {S S' : State} (h : own_Gl p e below P S) (k : own_Gl p e below P S → own_Gl p e below P S') : own_Gl p e below P S' := k h
theorem own_ind {p : Program} {e : Env} {below : List Frame} {P : Outcome → State → Prop} (I : Nat → State → Prop) (step : ∀ n S, (∀ n', n' < n → ∀ S', I n' S' → own_Gl p e below P S') → I n S → own_Gl p e below P S) {n : Nat} {S : State} (h : I n S) : own_Gl p e below P S := by
  induction n using Nat.strongRecOn generalizing S with
  | ind n ih => exact step n S (fun n' hn S' hI => ih n' hn hI) h
theorem own_fin {p : Program} {e : Env} {below : List Frame} {P : Outcome → State → Prop} {S u : State} {o : Outcome} (h1 : Steps p.tables e below S u) (h2 : u.status = .running) (h3 : Ended u below o) (h4 : P o u) : own_Gl p e below P S := ⟨u, o, h1, h2, h3, h4⟩
theorem d2_0 : decode jdk_30_method_1_code 0 = .ok (.aload_n 0, 1) := by decide +kernel
theorem d2_1 : decode jdk_30_method_1_code 1 = .ok (.invokespecial 1, 3) := by decide +kernel
theorem d2_4 : decode jdk_30_method_1_code 4 = .ok (.return_, 1) := by decide +kernel
theorem pn_java_lang_Record : plainName "java/lang/Record" = true := by first | (simp [plainName, overriddenIn]; done) | decide +kernel
theorem ef_2 (m : MethodId) (r0 : Addr) : entryFrame m #[(.ref r0)] 1 = mkF m 0 #[.val (.ref r0)] [] := by first | (simp [entryFrame, mkF, argsToLocals, Value.category]; done) | rfl
def Q2 (Z : State) (r0 : Addr) (h0 : Heap) (n0 : Nat) (v : Option Value) (h : Heap) (L : List Loc) : Prop := Fr n0 L ∧ v = none ∧ h = h0
set_option maxRecDepth 65536 in
set_option maxHeartbeats 40000000 in
theorem rm2 (l : Launch) (Z : State) (a0 : Array Value) (hw : ∀ d ∈ tables_1, d.before a0 Z = true) (ws : List Jvm.Cond) (r0 : Addr) (h0 : Heap) (n0 : Nat) (Z0 : n0 ≤ h0.size)  :
    MetFree l (⟨"java/lang/Record", "<init>", "()V"⟩ : MethodName) (head1 (Jvm.Cond.code (⟨"java/lang/Record", "<init>", "()V"⟩ : MethodName) jdk_30_method_1_code 1 none :: ws) ({ frames := 1, cells := 0, slots := 0, locals := 12 } : Room)) (fun a U => a = #[(.ref r0)] ∧ Z.Warmed39 U.vm ∧ U.heap = h0) (fun _ _ _ _ _ => True) (fun _ U o U' => ∃ v L, o = .returned v ∧ Q2 Z r0 h0 n0 v U'.heap L ∧ FrameEnd U o U' L ({ frames := 1, cells := 0, slots := 0, locals := 12 } : Room).cells ({ frames := 1, cells := 0, slots := 0, locals := 12 } : Room).slots) := by
  refine MetFree.of_bodySF (plainFor_of_name pn_java_lang_Record) hisR ?_
  intro p e s m args below meth c s₁ Bd hml0 hP hK
  obtain ⟨rfl, hZ, hh⟩ := hP
  have hx := Bd.exec
  have hby := Bd.bytes
  have hml : c.maxLocals = 1 := hml0
  have hown : s.vm.findClass "java/lang/Record" = some m.cls := findClass_of_methodNamed Bd.named
  have hnm := (name_of_methodNamed Bd.named Bd.method).1
  have X0 : Stand p l e ({ frames := 1, cells := 0, slots := 0, locals := 12 } : Room) s m #[(.ref r0)] below meth c s₁ [] 0 0 := Stand.of_body Bd
  have e0 : s₁.heap = h0 := by rw [← hh, Bd.state]; rfl
  have N0 := Fr.nil n0
  show own_Gl p e below (fun o U' => ∃ v L, o = .returned v ∧ Q2 Z r0 h0 n0 v U'.heap L ∧ FrameEnd s o U' L ({ frames := 1, cells := 0, slots := 0, locals := 12 } : Room).cells ({ frames := 1, cells := 0, slots := 0, locals := 12 } : Room).slots) (s₁.setTop (entryFrame m #[(.ref r0)] 1))
  refine own_go (fun t k => castTop (ef_2 m r0) k) ?_
  show own_Gl _ _ _ _ (s₁.setTop (mkF m 0 #[.val (.ref r0)] []))
  refine own_go (fun t k => XS.aloadN X0.here hx rfl (hb hby d2_0) rfl rfl k) ?_
  show own_Gl _ _ _ _ (s₁.setTop (mkF m 1 #[.val (.ref r0)] [(.ref r0)]))
  obtain ⟨T1, X1, e1, st1⟩ := initO X0 hx hZ hown (hw _ (List.mem_of_getElem? (i := 11) rfl)) (hw _ (List.mem_of_getElem? (i := 12) rfl)) (hw _ (List.mem_of_getElem? (i := 13) rfl)) e0 (g := (mkF m 1 #[.val (.ref r0)] [(.ref r0)])) rfl (by rw [hml]; rfl) rfl (hb hby d2_1) (by decide) (W := 0) (by show 2 * 0 + _ ≤ _; exact Nat.le_of_eq rfl) (by decide)
  refine own_go (fun t k => st1 _ k) ?_
  show own_Gl _ _ _ _ (T1.setTop (mkF m 4 #[.val (.ref r0)] []))
  obtain ⟨fs, hr, hrun, hended, hW, hsame⟩ := X1.leave (v := none) (fun _ => rfl)
  refine own_fin (X1.returnOut hx Bd.returns (hb hby d2_4) hr) hrun hended ⟨_, _, rfl, ?_, ⟨_, rfl⟩, hW, hsame.mono (by decide) (by decide)⟩
  show Q2 Z r0 h0 n0 _ T1.heap _
  rw [e1]
  exact ⟨N0, rfl, rfl⟩
theorem d1_0 : decode prog_4_method_1_code 0 = .ok (.aload_n 0, 1) := by decide +kernel
theorem d1_1 : decode prog_4_method_1_code 1 = .ok (.invokespecial 1, 3) := by decide +kernel
theorem d1_4 : decode prog_4_method_1_code 4 = .ok (.aload_n 0, 1) := by decide +kernel
theorem d1_5 : decode prog_4_method_1_code 5 = .ok (.lload_n 1, 1) := by decide +kernel
theorem d1_6 : decode prog_4_method_1_code 6 = .ok (.putfield 7, 3) := by decide +kernel
theorem d1_9 : decode prog_4_method_1_code 9 = .ok (.aload_n 0, 1) := by decide +kernel
theorem d1_10 : decode prog_4_method_1_code 10 = .ok (.lload_n 3, 1) := by decide +kernel
theorem d1_11 : decode prog_4_method_1_code 11 = .ok (.putfield 13, 3) := by decide +kernel
theorem d1_14 : decode prog_4_method_1_code 14 = .ok (.return_, 1) := by decide +kernel
theorem pn_com_example_omphale_omphale_KeyRange : plainName "com/example/omphale/omphale/KeyRange" = true := by first | (simp [plainName, overriddenIn]; done) | decide +kernel
theorem ef_1 (m : MethodId) (r0 : Addr) (q0 : Int64) (q1 : Int64) : entryFrame m #[(.ref r0), (.long q0), (.long q1)] 5 = mkF m 0 #[.val (.ref r0), .val (.long q0), .second, .val (.long q1), .second] [] := by first | (simp [entryFrame, mkF, argsToLocals, Value.category]; done) | rfl
theorem pd_0 : parseMethodDescriptor "()V" = some ⟨[], none⟩ := by decide +kernel
def Q1 (Z : State) (r0 : Addr) (q0 : Int64) (q1 : Int64) (h0 : Heap) (n0 : Nat) (v : Option Value) (h : Heap) (L : List Loc) : Prop := Fr n0 L ∧ v = none ∧ Keep h0 h [r0] ∧ Fld Z h r0 "com/example/omphale/omphale/KeyRange" "startExclusive" "J" (.long q0) ∧ Fld Z h r0 "com/example/omphale/omphale/KeyRange" "endInclusive" "J" (.long q1)
set_option maxRecDepth 65536 in
set_option maxHeartbeats 40000000 in
theorem rm1 (l : Launch) (Z : State) (a0 : Array Value) (hw : ∀ d ∈ tables_1, d.before a0 Z = true) (ws : List Jvm.Cond) (r0 : Addr) (q0 : Int64) (q1 : Int64) (h0 : Heap) (n0 : Nat) (Z0 : n0 ≤ h0.size) (P0 : Exa Z h0 r0 "com/example/omphale/omphale/KeyRange") (P1 : Fld Z h0 r0 "com/example/omphale/omphale/KeyRange" "startExclusive" "J" (.long (0 : Int64))) (P2 : Fld Z h0 r0 "com/example/omphale/omphale/KeyRange" "endInclusive" "J" (.long (0 : Int64))) (ge_r0 : n0 ≤ r0) :
    MetFree l (⟨"com/example/omphale/omphale/KeyRange", "<init>", "(JJ)V"⟩ : MethodName) (head1 (Jvm.Cond.code (⟨"com/example/omphale/omphale/KeyRange", "<init>", "(JJ)V"⟩ : MethodName) prog_4_method_1_code 5 none :: ws) ({ frames := 2, cells := 0, slots := 0, locals := 24 } : Room)) (fun a U => a = #[(.ref r0), (.long q0), (.long q1)] ∧ Z.Warmed39 U.vm ∧ U.heap = h0) (fun _ _ _ _ _ => True) (fun _ U o U' => ∃ v L, o = .returned v ∧ Q1 Z r0 q0 q1 h0 n0 v U'.heap L ∧ FrameEnd U o U' L ({ frames := 2, cells := 0, slots := 0, locals := 24 } : Room).cells ({ frames := 2, cells := 0, slots := 0, locals := 24 } : Room).slots) := by
  refine MetFree.of_bodySF (plainFor_of_name pn_com_example_omphale_omphale_KeyRange) hisR ?_
  intro p e s m args below meth c s₁ Bd hml0 hP hK
  obtain ⟨rfl, hZ, hh⟩ := hP
  have hx := Bd.exec
  have hby := Bd.bytes
  have hml : c.maxLocals = 5 := hml0
  have hown : s.vm.findClass "com/example/omphale/omphale/KeyRange" = some m.cls := findClass_of_methodNamed Bd.named
  have hnm := (name_of_methodNamed Bd.named Bd.method).1
  have X0 : Stand p l e ({ frames := 2, cells := 0, slots := 0, locals := 24 } : Room) s m #[(.ref r0), (.long q0), (.long q1)] below meth c s₁ [] 0 0 := Stand.of_body Bd
  have e0 : s₁.heap = h0 := by rw [← hh, Bd.state]; rfl
  have N0 := Fr.nil n0
  show own_Gl p e below (fun o U' => ∃ v L, o = .returned v ∧ Q1 Z r0 q0 q1 h0 n0 v U'.heap L ∧ FrameEnd s o U' L ({ frames := 2, cells := 0, slots := 0, locals := 24 } : Room).cells ({ frames := 2, cells := 0, slots := 0, locals := 24 } : Room).slots) (s₁.setTop (entryFrame m #[(.ref r0), (.long q0), (.long q1)] 5))
  refine own_go (fun t k => castTop (ef_1 m r0 q0 q1) k) ?_
  show own_Gl _ _ _ _ (s₁.setTop (mkF m 0 #[.val (.ref r0), .val (.long q0), .second, .val (.long q1), .second] []))
  refine own_go (fun t k => XS.aloadN X0.here hx rfl (hb hby d1_0) rfl rfl k) ?_
  show own_Gl _ _ _ _ (s₁.setTop (mkF m 1 #[.val (.ref r0), .val (.long q0), .second, .val (.long q1), .second] [(.ref r0)]))
  obtain ⟨_, _, ⟨T2, L2, kk2, nn2⟩, -, X2, ⟨Lc2, hQ2, l2, y2, z2⟩, st2⟩ := X0.specialBack hx (y := (⟨"java/lang/Record", "<init>", "()V"⟩ : MethodName)) rfl hown (mvT hZ (hw _ (List.mem_of_getElem? (i := 6) rfl))) (mvT hZ (hw _ (List.mem_of_getElem? (i := 7) rfl))) (mvT hZ (hw _ (List.mem_of_getElem? (i := 10) rfl))) (by decide) (backOf (W := 0) (rm2 l Z a0 hw [] r0 h0 n0 Z0 ) hZ (hw _ (List.mem_of_getElem? (i := 10) rfl)) (hw _ (List.mem_of_getElem? (i := 9) rfl)) (by decide) (by decide)) (g := (mkF m 1 #[.val (.ref r0), .val (.long q0), .second, .val (.long q1), .second] [(.ref r0)])) rfl (by rw [hml]; rfl) (Steps.refl _) (a := r0) (argsL := []) (rest := []) (lenOf pd_0 rfl) rfl (by show 2 * 0 + _ ≤ _; exact Nat.le_of_eq rfl) (hb hby d1_1) (fun _ _ => ⟨rfl, e0, (by decide : 0 + 0 ≤ _), (by decide : 0 + 0 ≤ _)⟩)
  dsimp only [Pt.U, Pt.locs, Pt.cells, Pt.slots] at X2 l2 y2 z2 st2 hQ2
  subst l2 y2 z2
  obtain ⟨N2q, rfl, hq2⟩ := hQ2
  have N2 := Fr.app N0 N2q
  refine own_go (fun t k => st2.trans k) ?_
  show own_Gl _ _ _ _ (T2.setTop (mkF m 4 #[.val (.ref r0), .val (.long q0), .second, .val (.long q1), .second] []))
  refine own_go (fun t k => XS.aloadN X2.here hx rfl (hb hby d1_4) rfl rfl k) ?_
  show own_Gl _ _ _ _ (T2.setTop (mkF m 5 #[.val (.ref r0), .val (.long q0), .second, .val (.long q1), .second] [(.ref r0)]))
  refine own_go (fun t k => XS.lloadN X2.here hx rfl (hb hby d1_5) rfl k) ?_
  show own_Gl _ _ _ _ (T2.setTop (mkF m 6 #[.val (.ref r0), .val (.long q0), .second, .val (.long q1), .second] [(.long q0), (.ref r0)]))
  obtain ⟨T3, h3, X3, e3, W3, st3⟩ := putF X2 hx hZ hown (host := "") (Or.inl (hw _ (List.mem_of_getElem? (i := 14) rfl))) Via.refl hq2 P1 P0 (Or.inr ⟨(hw _ (List.mem_of_getElem? (i := 15) rfl)), rfl, hnm⟩) (hw _ (List.mem_of_getElem? (i := 1) rfl)) (ty := .long) (by decide) rfl rfl (g := (mkF m 6 #[.val (.ref r0), .val (.long q0), .second, .val (.long q1), .second] [(.long q0), (.ref r0)])) rfl rfl (hb hby d1_6)
  refine own_go (fun t k => st3 _ k) ?_
  have Fw3 : Fld Z h3 r0 "com/example/omphale/omphale/KeyRange" "startExclusive" "J" (.long q0) := P1.same W3
  have K3 : Keep h0 h3 [r0] := (Keep.refl h0 [r0]).wr W3 (Or.inl (List.mem_of_getElem? (i := 0) rfl))
  have N3 := Fr.snoc X3 N2 ge_r0
  have Z3 : n0 ≤ h3.size := Nat.le_trans Z0 (Keep.of_wr W3).1
  show own_Gl _ _ _ _ (T3.setTop (mkF m 9 #[.val (.ref r0), .val (.long q0), .second, .val (.long q1), .second] []))
  refine own_go (fun t k => XS.aloadN X3.here hx rfl (hb hby d1_9) rfl rfl k) ?_
  show own_Gl _ _ _ _ (T3.setTop (mkF m 10 #[.val (.ref r0), .val (.long q0), .second, .val (.long q1), .second] [(.ref r0)]))
  refine own_go (fun t k => XS.lloadN X3.here hx rfl (hb hby d1_10) rfl k) ?_
  show own_Gl _ _ _ _ (T3.setTop (mkF m 11 #[.val (.ref r0), .val (.long q0), .second, .val (.long q1), .second] [(.long q1), (.ref r0)]))
  have f_4 : Fld Z h3 r0 "com/example/omphale/omphale/KeyRange" "endInclusive" "J" (.long (0 : Int64)) := (P2.other W3 (Or.inr (slot_ne (Or.inr (hw _ (List.mem_of_getElem? (i := 17) rfl))) (Or.inr (hw _ (List.mem_of_getElem? (i := 15) rfl))) (by decide) (t := .long) (t' := .long) (by decide) (by decide))))
  have f_5 : Exa Z h3 r0 "com/example/omphale/omphale/KeyRange" := (P0.wr W3)
  obtain ⟨T6, h6, X6, e6, W6, st6⟩ := putF X3 hx hZ hown (host := "") (Or.inl (hw _ (List.mem_of_getElem? (i := 16) rfl))) Via.refl e3 f_4 f_5 (Or.inr ⟨(hw _ (List.mem_of_getElem? (i := 17) rfl)), rfl, hnm⟩) (hw _ (List.mem_of_getElem? (i := 1) rfl)) (ty := .long) (by decide) rfl rfl (g := (mkF m 11 #[.val (.ref r0), .val (.long q0), .second, .val (.long q1), .second] [(.long q1), (.ref r0)])) rfl rfl (hb hby d1_11)
  refine own_go (fun t k => st6 _ k) ?_
  have Fw6 : Fld Z h6 r0 "com/example/omphale/omphale/KeyRange" "endInclusive" "J" (.long q1) := f_4.same W6
  have K6 : Keep h0 h6 [r0] := K3.wr W6 (Or.inl (List.mem_of_getElem? (i := 0) rfl))
  have N6 := Fr.snoc X6 N3 ge_r0
  have Z6 : n0 ≤ h6.size := Nat.le_trans Z3 (Keep.of_wr W6).1
  show own_Gl _ _ _ _ (T6.setTop (mkF m 14 #[.val (.ref r0), .val (.long q0), .second, .val (.long q1), .second] []))
  obtain ⟨fs, hr, hrun, hended, hW, hsame⟩ := X6.leave (v := none) (fun _ => rfl)
  have f_7 : Fld Z h6 r0 "com/example/omphale/omphale/KeyRange" "startExclusive" "J" (.long q0) := (Fw3.other W6 (Or.inr (slot_ne (Or.inr (hw _ (List.mem_of_getElem? (i := 15) rfl))) (Or.inr (hw _ (List.mem_of_getElem? (i := 17) rfl))) (by decide) (t := .long) (t' := .long) (by decide) (by decide))))
  refine own_fin (X6.returnOut hx Bd.returns (hb hby d1_14) hr) hrun hended ⟨_, _, rfl, ?_, ⟨_, rfl⟩, hW, hsame.mono (by decide) (by decide)⟩
  show Q1 Z r0 q0 q1 h0 n0 _ T6.heap _
  rw [e6]
  exact ⟨N6, rfl, K6, f_7, Fw6⟩
theorem d7_0 : decode jdk_18_method_1_code 0 = .ok (.aload_n 0, 1) := by decide +kernel
theorem d7_1 : decode jdk_18_method_1_code 1 = .ok (.invokespecial 1, 3) := by decide +kernel
theorem d7_4 : decode jdk_18_method_1_code 4 = .ok (.return_, 1) := by decide +kernel
theorem pn_java_lang_Number : plainName "java/lang/Number" = true := by first | (simp [plainName, overriddenIn]; done) | decide +kernel
theorem ef_7 (m : MethodId) (r0 : Addr) : entryFrame m #[(.ref r0)] 1 = mkF m 0 #[.val (.ref r0)] [] := by first | (simp [entryFrame, mkF, argsToLocals, Value.category]; done) | rfl
def Q7 (Z : State) (r0 : Addr) (h0 : Heap) (n0 : Nat) (v : Option Value) (h : Heap) (L : List Loc) : Prop := Fr n0 L ∧ v = none ∧ h = h0
set_option maxRecDepth 65536 in
set_option maxHeartbeats 40000000 in
theorem rm7 (l : Launch) (Z : State) (a0 : Array Value) (hw : ∀ d ∈ tables_1, d.before a0 Z = true) (ws : List Jvm.Cond) (r0 : Addr) (h0 : Heap) (n0 : Nat) (Z0 : n0 ≤ h0.size)  :
    MetFree l (⟨"java/lang/Number", "<init>", "()V"⟩ : MethodName) (head1 (Jvm.Cond.code (⟨"java/lang/Number", "<init>", "()V"⟩ : MethodName) jdk_18_method_1_code 1 none :: ws) ({ frames := 1, cells := 0, slots := 0, locals := 12 } : Room)) (fun a U => a = #[(.ref r0)] ∧ Z.Warmed39 U.vm ∧ U.heap = h0) (fun _ _ _ _ _ => True) (fun _ U o U' => ∃ v L, o = .returned v ∧ Q7 Z r0 h0 n0 v U'.heap L ∧ FrameEnd U o U' L ({ frames := 1, cells := 0, slots := 0, locals := 12 } : Room).cells ({ frames := 1, cells := 0, slots := 0, locals := 12 } : Room).slots) := by
  refine MetFree.of_bodySF (plainFor_of_name pn_java_lang_Number) hisR ?_
  intro p e s m args below meth c s₁ Bd hml0 hP hK
  obtain ⟨rfl, hZ, hh⟩ := hP
  have hx := Bd.exec
  have hby := Bd.bytes
  have hml : c.maxLocals = 1 := hml0
  have hown : s.vm.findClass "java/lang/Number" = some m.cls := findClass_of_methodNamed Bd.named
  have hnm := (name_of_methodNamed Bd.named Bd.method).1
  have X0 : Stand p l e ({ frames := 1, cells := 0, slots := 0, locals := 12 } : Room) s m #[(.ref r0)] below meth c s₁ [] 0 0 := Stand.of_body Bd
  have e0 : s₁.heap = h0 := by rw [← hh, Bd.state]; rfl
  have N0 := Fr.nil n0
  show own_Gl p e below (fun o U' => ∃ v L, o = .returned v ∧ Q7 Z r0 h0 n0 v U'.heap L ∧ FrameEnd s o U' L ({ frames := 1, cells := 0, slots := 0, locals := 12 } : Room).cells ({ frames := 1, cells := 0, slots := 0, locals := 12 } : Room).slots) (s₁.setTop (entryFrame m #[(.ref r0)] 1))
  refine own_go (fun t k => castTop (ef_7 m r0) k) ?_
  show own_Gl _ _ _ _ (s₁.setTop (mkF m 0 #[.val (.ref r0)] []))
  refine own_go (fun t k => XS.aloadN X0.here hx rfl (hb hby d7_0) rfl rfl k) ?_
  show own_Gl _ _ _ _ (s₁.setTop (mkF m 1 #[.val (.ref r0)] [(.ref r0)]))
  obtain ⟨T8, X8, e8, st8⟩ := initO X0 hx hZ hown (hw _ (List.mem_of_getElem? (i := 42) rfl)) (hw _ (List.mem_of_getElem? (i := 12) rfl)) (hw _ (List.mem_of_getElem? (i := 13) rfl)) e0 (g := (mkF m 1 #[.val (.ref r0)] [(.ref r0)])) rfl (by rw [hml]; rfl) rfl (hb hby d7_1) (by decide) (W := 0) (by show 2 * 0 + _ ≤ _; exact Nat.le_of_eq rfl) (by decide)
  refine own_go (fun t k => st8 _ k) ?_
  show own_Gl _ _ _ _ (T8.setTop (mkF m 4 #[.val (.ref r0)] []))
  obtain ⟨fs, hr, hrun, hended, hW, hsame⟩ := X8.leave (v := none) (fun _ => rfl)
  refine own_fin (X8.returnOut hx Bd.returns (hb hby d7_4) hr) hrun hended ⟨_, _, rfl, ?_, ⟨_, rfl⟩, hW, hsame.mono (by decide) (by decide)⟩
  show Q7 Z r0 h0 n0 _ T8.heap _
  rw [e8]
  exact ⟨N0, rfl, rfl⟩
theorem d6_0 : decode jdk_35_method_26_code 0 = .ok (.aload_n 0, 1) := by decide +kernel
theorem d6_1 : decode jdk_35_method_26_code 1 = .ok (.invokespecial 270, 3) := by decide +kernel
theorem d6_4 : decode jdk_35_method_26_code 4 = .ok (.aload_n 0, 1) := by decide +kernel
theorem d6_5 : decode jdk_35_method_26_code 5 = .ok (.lload_n 1, 1) := by decide +kernel
theorem d6_6 : decode jdk_35_method_26_code 6 = .ok (.putfield 273, 3) := by decide +kernel
theorem d6_9 : decode jdk_35_method_26_code 9 = .ok (.return_, 1) := by decide +kernel
theorem pn_java_lang_Long : plainName "java/lang/Long" = true := by first | (simp [plainName, overriddenIn]; done) | decide +kernel
theorem ef_6 (m : MethodId) (r0 : Addr) (q0 : Int64) : entryFrame m #[(.ref r0), (.long q0)] 3 = mkF m 0 #[.val (.ref r0), .val (.long q0), .second] [] := by first | (simp [entryFrame, mkF, argsToLocals, Value.category]; done) | rfl
def Q6 (Z : State) (r0 : Addr) (q0 : Int64) (h0 : Heap) (n0 : Nat) (v : Option Value) (h : Heap) (L : List Loc) : Prop := Fr n0 L ∧ v = none ∧ Keep h0 h [r0] ∧ Fld Z h r0 "java/lang/Long" "value" "J" (.long q0)
set_option maxRecDepth 65536 in
set_option maxHeartbeats 40000000 in
theorem rm6 (l : Launch) (Z : State) (a0 : Array Value) (hw : ∀ d ∈ tables_1, d.before a0 Z = true) (ws : List Jvm.Cond) (r0 : Addr) (q0 : Int64) (h0 : Heap) (n0 : Nat) (Z0 : n0 ≤ h0.size) (P0 : Exa Z h0 r0 "java/lang/Long") (P1 : Fld Z h0 r0 "java/lang/Long" "value" "J" (.long (0 : Int64))) (ge_r0 : n0 ≤ r0) :
    MetFree l (⟨"java/lang/Long", "<init>", "(J)V"⟩ : MethodName) (head1 (Jvm.Cond.code (⟨"java/lang/Long", "<init>", "(J)V"⟩ : MethodName) jdk_35_method_26_code 3 none :: ws) ({ frames := 2, cells := 0, slots := 0, locals := 24 } : Room)) (fun a U => a = #[(.ref r0), (.long q0)] ∧ Z.Warmed39 U.vm ∧ U.heap = h0) (fun _ _ _ _ _ => True) (fun _ U o U' => ∃ v L, o = .returned v ∧ Q6 Z r0 q0 h0 n0 v U'.heap L ∧ FrameEnd U o U' L ({ frames := 2, cells := 0, slots := 0, locals := 24 } : Room).cells ({ frames := 2, cells := 0, slots := 0, locals := 24 } : Room).slots) := by
  refine MetFree.of_bodySF (plainFor_of_name pn_java_lang_Long) hisR ?_
  intro p e s m args below meth c s₁ Bd hml0 hP hK
  obtain ⟨rfl, hZ, hh⟩ := hP
  have hx := Bd.exec
  have hby := Bd.bytes
  have hml : c.maxLocals = 3 := hml0
  have hown : s.vm.findClass "java/lang/Long" = some m.cls := findClass_of_methodNamed Bd.named
  have hnm := (name_of_methodNamed Bd.named Bd.method).1
  have X0 : Stand p l e ({ frames := 2, cells := 0, slots := 0, locals := 24 } : Room) s m #[(.ref r0), (.long q0)] below meth c s₁ [] 0 0 := Stand.of_body Bd
  have e0 : s₁.heap = h0 := by rw [← hh, Bd.state]; rfl
  have N0 := Fr.nil n0
  show own_Gl p e below (fun o U' => ∃ v L, o = .returned v ∧ Q6 Z r0 q0 h0 n0 v U'.heap L ∧ FrameEnd s o U' L ({ frames := 2, cells := 0, slots := 0, locals := 24 } : Room).cells ({ frames := 2, cells := 0, slots := 0, locals := 24 } : Room).slots) (s₁.setTop (entryFrame m #[(.ref r0), (.long q0)] 3))
  refine own_go (fun t k => castTop (ef_6 m r0 q0) k) ?_
  show own_Gl _ _ _ _ (s₁.setTop (mkF m 0 #[.val (.ref r0), .val (.long q0), .second] []))
  refine own_go (fun t k => XS.aloadN X0.here hx rfl (hb hby d6_0) rfl rfl k) ?_
  show own_Gl _ _ _ _ (s₁.setTop (mkF m 1 #[.val (.ref r0), .val (.long q0), .second] [(.ref r0)]))
  obtain ⟨_, _, ⟨T9, L9, kk9, nn9⟩, -, X9, ⟨Lc9, hQ9, l9, y9, z9⟩, st9⟩ := X0.specialBack hx (y := (⟨"java/lang/Number", "<init>", "()V"⟩ : MethodName)) rfl hown (mvT hZ (hw _ (List.mem_of_getElem? (i := 36) rfl))) (mvT hZ (hw _ (List.mem_of_getElem? (i := 37) rfl))) (mvT hZ (hw _ (List.mem_of_getElem? (i := 41) rfl))) (by decide) (backOf (W := 0) (rm7 l Z a0 hw [] r0 h0 n0 Z0 ) hZ (hw _ (List.mem_of_getElem? (i := 41) rfl)) (hw _ (List.mem_of_getElem? (i := 40) rfl)) (by decide) (by decide)) (g := (mkF m 1 #[.val (.ref r0), .val (.long q0), .second] [(.ref r0)])) rfl (by rw [hml]; rfl) (Steps.refl _) (a := r0) (argsL := []) (rest := []) (lenOf pd_0 rfl) rfl (by show 2 * 0 + _ ≤ _; exact Nat.le_of_eq rfl) (hb hby d6_1) (fun _ _ => ⟨rfl, e0, (by decide : 0 + 0 ≤ _), (by decide : 0 + 0 ≤ _)⟩)
  dsimp only [Pt.U, Pt.locs, Pt.cells, Pt.slots] at X9 l9 y9 z9 st9 hQ9
  subst l9 y9 z9
  obtain ⟨N9q, rfl, hq9⟩ := hQ9
  have N9 := Fr.app N0 N9q
  refine own_go (fun t k => st9.trans k) ?_
  show own_Gl _ _ _ _ (T9.setTop (mkF m 4 #[.val (.ref r0), .val (.long q0), .second] []))
  refine own_go (fun t k => XS.aloadN X9.here hx rfl (hb hby d6_4) rfl rfl k) ?_
  show own_Gl _ _ _ _ (T9.setTop (mkF m 5 #[.val (.ref r0), .val (.long q0), .second] [(.ref r0)]))
  refine own_go (fun t k => XS.lloadN X9.here hx rfl (hb hby d6_5) rfl k) ?_
  show own_Gl _ _ _ _ (T9.setTop (mkF m 6 #[.val (.ref r0), .val (.long q0), .second] [(.long q0), (.ref r0)]))
  obtain ⟨T10, h10, X10, e10, W10, st10⟩ := putF X9 hx hZ hown (host := "") (Or.inl (hw _ (List.mem_of_getElem? (i := 43) rfl))) Via.refl hq9 P1 P0 (Or.inr ⟨(hw _ (List.mem_of_getElem? (i := 44) rfl)), rfl, hnm⟩) (hw _ (List.mem_of_getElem? (i := 31) rfl)) (ty := .long) (by decide) rfl rfl (g := (mkF m 6 #[.val (.ref r0), .val (.long q0), .second] [(.long q0), (.ref r0)])) rfl rfl (hb hby d6_6)
  refine own_go (fun t k => st10 _ k) ?_
  have Fw10 : Fld Z h10 r0 "java/lang/Long" "value" "J" (.long q0) := P1.same W10
  have K10 : Keep h0 h10 [r0] := (Keep.refl h0 [r0]).wr W10 (Or.inl (List.mem_of_getElem? (i := 0) rfl))
  have N10 := Fr.snoc X10 N9 ge_r0
  have Z10 : n0 ≤ h10.size := Nat.le_trans Z0 (Keep.of_wr W10).1
  show own_Gl _ _ _ _ (T10.setTop (mkF m 9 #[.val (.ref r0), .val (.long q0), .second] []))
  obtain ⟨fs, hr, hrun, hended, hW, hsame⟩ := X10.leave (v := none) (fun _ => rfl)
  refine own_fin (X10.returnOut hx Bd.returns (hb hby d6_9) hr) hrun hended ⟨_, _, rfl, ?_, ⟨_, rfl⟩, hW, hsame.mono (by decide) (by decide)⟩
  show Q6 Z r0 q0 h0 n0 _ T10.heap _
  rw [e10]
  exact ⟨N10, rfl, K10, Fw10⟩
theorem d5_0 : decode jdk_35_method_24_code 0 = .ok (.sipush 128, 3) := by decide +kernel
theorem d5_3 : decode jdk_35_method_24_code 3 = .ok (.istore_n 2, 1) := by decide +kernel
theorem d5_4 : decode jdk_35_method_24_code 4 = .ok (.lload_n 0, 1) := by decide +kernel
theorem d5_5 : decode jdk_35_method_24_code 5 = .ok (.ldc2_w 230, 3) := by decide +kernel
theorem d5_8 : decode jdk_35_method_24_code 8 = .ok (.lcmp, 1) := by decide +kernel
theorem d5_9 : decode jdk_35_method_24_code 9 = .ok (.ifCond .lt 22, 3) := by decide +kernel
theorem d5_12 : decode jdk_35_method_24_code 12 = .ok (.lload_n 0, 1) := by decide +kernel
theorem d5_13 : decode jdk_35_method_24_code 13 = .ok (.ldc2_w 232, 3) := by decide +kernel
theorem d5_16 : decode jdk_35_method_24_code 16 = .ok (.lcmp, 1) := by decide +kernel
theorem d5_17 : decode jdk_35_method_24_code 17 = .ok (.ifCond .gt 14, 3) := by decide +kernel
theorem d5_20 : decode jdk_35_method_24_code 20 = .ok (.getstatic 234, 3) := by decide +kernel
theorem d5_23 : decode jdk_35_method_24_code 23 = .ok (.lload_n 0, 1) := by decide +kernel
theorem d5_24 : decode jdk_35_method_24_code 24 = .ok (.l2i, 1) := by decide +kernel
theorem d5_25 : decode jdk_35_method_24_code 25 = .ok (.sipush 128, 3) := by decide +kernel
theorem d5_28 : decode jdk_35_method_24_code 28 = .ok (.iadd, 1) := by decide +kernel
theorem d5_29 : decode jdk_35_method_24_code 29 = .ok (.aaload, 1) := by decide +kernel
theorem d5_30 : decode jdk_35_method_24_code 30 = .ok (.areturn, 1) := by decide +kernel
theorem d5_31 : decode jdk_35_method_24_code 31 = .ok (.new 1, 3) := by decide +kernel
theorem d5_34 : decode jdk_35_method_24_code 34 = .ok (.dup, 1) := by decide +kernel
theorem d5_35 : decode jdk_35_method_24_code 35 = .ok (.lload_n 0, 1) := by decide +kernel
theorem d5_36 : decode jdk_35_method_24_code 36 = .ok (.invokespecial 240, 3) := by decide +kernel
theorem d5_39 : decode jdk_35_method_24_code 39 = .ok (.areturn, 1) := by decide +kernel
theorem ef_von (m : MethodId) (q0 : Int64) : entryFrame m #[(.long q0)] 3 = mkF m 0 #[.val (.long q0), .second, .unset] [] := by first | (simp [entryFrame, mkF, argsToLocals, Value.category]; done) | rfl
theorem pd_1 : parseMethodDescriptor "(J)V" = some ⟨[.long], none⟩ := by decide +kernel
def Qvon (Z : State) (q0 : Int64) (h0 : Heap) (n0 : Nat) (v : Option Value) (h : Heap) (L : List Loc) : Prop := Fr n0 L ∧ ∃ (w : Addr), n0 ≤ w ∧ h0.size ≤ w ∧ v = some (.ref w) ∧ Keep h0 h [] ∧ Exa Z h w "java/lang/Long"
set_option maxRecDepth 65536 in
set_option maxHeartbeats 40000000 in
theorem rmvon (l : Launch) (Z : State) (a0 : Array Value) (hw : ∀ d ∈ tables_1, d.before a0 Z = true) (ws : List Jvm.Cond) (q0 : Int64) (h0 : Heap) (n0 : Nat) (Z0 : n0 ≤ h0.size) (hN : q0 < (-128 : Int64) ∨ (127 : Int64) < q0) :
    MetFree l (⟨"java/lang/Long", "valueOf", "(J)Ljava/lang/Long;"⟩ : MethodName) (head1 (Jvm.Cond.code (⟨"java/lang/Long", "valueOf", "(J)Ljava/lang/Long;"⟩ : MethodName) jdk_35_method_24_code 3 (some (.object "java/lang/Long")) :: ws) ({ frames := 3, cells := 1, slots := 1, locals := 39 } : Room)) (fun a U => a = #[(.long q0)] ∧ Z.Warmed39 U.vm ∧ U.heap = h0) (fun _ _ _ _ _ => True) (fun _ U o U' => ∃ v L, o = .returned v ∧ Qvon Z q0 h0 n0 v U'.heap L ∧ FrameEnd U o U' L ({ frames := 3, cells := 1, slots := 1, locals := 39 } : Room).cells ({ frames := 3, cells := 1, slots := 1, locals := 39 } : Room).slots) := by
  refine MetFree.of_bodySF (plainFor_of_name pn_java_lang_Long) hisR ?_
  intro p e s m args below meth c s₁ Bd hml0 hP hK
  obtain ⟨rfl, hZ, hh⟩ := hP
  have hx := Bd.exec
  have hby := Bd.bytes
  have hml : c.maxLocals = 3 := hml0
  have hown : s.vm.findClass "java/lang/Long" = some m.cls := findClass_of_methodNamed Bd.named
  have hnm := (name_of_methodNamed Bd.named Bd.method).1
  have X0 : Stand p l e ({ frames := 3, cells := 1, slots := 1, locals := 39 } : Room) s m #[(.long q0)] below meth c s₁ [] 0 0 := Stand.of_body Bd
  have e0 : s₁.heap = h0 := by rw [← hh, Bd.state]; rfl
  have N0 := Fr.nil n0
  show own_Gl p e below (fun o U' => ∃ v L, o = .returned v ∧ Qvon Z q0 h0 n0 v U'.heap L ∧ FrameEnd s o U' L ({ frames := 3, cells := 1, slots := 1, locals := 39 } : Room).cells ({ frames := 3, cells := 1, slots := 1, locals := 39 } : Room).slots) (s₁.setTop (entryFrame m #[(.long q0)] 3))
  refine own_go (fun t k => castTop (ef_von m q0) k) ?_
  show own_Gl _ _ _ _ (s₁.setTop (mkF m 0 #[.val (.long q0), .second, .unset] []))
  refine own_go (fun t k => XS.sipush X0.here hx rfl (hb hby d5_0) k) ?_
  show own_Gl _ _ _ _ (s₁.setTop (mkF m 3 #[.val (.long q0), .second, .unset] [(.int (128 : Int32))]))
  refine own_go (fun t k => XS.istoreN X0.here hx rfl (hb hby d5_3) rfl (l' := #[.val (.long q0), .second, .val (.int (128 : Int32))]) rfl k) ?_
  show own_Gl _ _ _ _ (s₁.setTop (mkF m 4 #[.val (.long q0), .second, .val (.int (128 : Int32))] []))
  refine own_go (fun t k => XS.lloadN X0.here hx rfl (hb hby d5_4) rfl k) ?_
  show own_Gl _ _ _ _ (s₁.setTop (mkF m 5 #[.val (.long q0), .second, .val (.int (128 : Int32))] [(.long q0)]))
  refine own_go (fun t k => X0.ldc2Long hx hown (mvT hZ (hw _ (List.mem_of_getElem? (i := 29) rfl))) (g := (mkF m 5 #[.val (.long q0), .second, .val (.int (128 : Int32))] [(.long q0)])) rfl (hb hby d5_5) _ k) ?_
  show own_Gl _ _ _ _ (s₁.setTop (mkF m 8 #[.val (.long q0), .second, .val (.int (128 : Int32))] [(.long (-128 : Int64)), (.long q0)]))
  refine own_go (fun t k => XS.lcmp X0.here hx rfl (hb hby d5_8) rfl k) ?_
  show own_Gl _ _ _ _ (s₁.setTop (mkF m 9 #[.val (.long q0), .second, .val (.int (128 : Int32))] [(.int (lcmpW q0 (-128 : Int64)))]))
  by_cases hc9_11 : q0 < (-128 : Int64)
  · refine own_go (fun t k => XS.ifYes X0.here hx rfl (pc0 := 9) (pc' := 31) rfl (hb hby d5_9) rfl ((if0 _ _).trans (tlt ((lw_lt q0 (-128 : Int64)).mpr hc9_11)).1) (by decide) (by decide) k) ?_
    show own_Gl _ _ _ _ (s₁.setTop (mkF m 31 #[.val (.long q0), .second, .val (.int (128 : Int32))] []))
    obtain ⟨T12, h12, X12, e12, E12, A12, D12, -, st12⟩ := newO X0 hx hZ hown (hw _ (List.mem_of_getElem? (i := 30) rfl)) (hw _ (List.mem_of_getElem? (i := 31) rfl)) (hw _ (List.mem_of_getElem? (i := 27) rfl)) e0 (g := (mkF m 31 #[.val (.long q0), .second, .val (.int (128 : Int32))] [])) rfl (hb hby d5_31) (by decide) (by decide)
    obtain ⟨b12, g12⟩ : ∃ z, z = h0.size := ⟨_, rfl⟩
    rw [← g12] at A12 D12 st12
    have ge_b12 : n0 ≤ b12 := Nat.le_trans Z0 (Nat.le_of_eq g12.symm)
    have sz_b12 : h0.size ≤ b12 := Nat.le_trans (Keep.refl h0 []).1 (Nat.le_of_eq g12.symm)
    refine own_go (fun t k => st12 _ k) ?_
    have K12 : Keep h0 h12 [] := (Keep.refl h0 []).ext E12
    have Z12 : n0 ≤ h12.size := Nat.le_trans Z0 E12.1
    have F12_44 : Fld Z h12 b12 "java/lang/Long" "value" "J" (.long (0 : Int64)) := D12 (Or.inr (hw _ (List.mem_of_getElem? (i := 44) rfl))) (ty := .long) (by decide)
    show own_Gl _ _ _ _ (T12.setTop (mkF m 34 #[.val (.long q0), .second, .val (.int (128 : Int32))] [(.ref b12)]))
    refine own_go (fun t k => XS.dup X12.here hx rfl (hb hby d5_34) rfl rfl k) ?_
    show own_Gl _ _ _ _ (T12.setTop (mkF m 35 #[.val (.long q0), .second, .val (.int (128 : Int32))] [(.ref b12), (.ref b12)]))
    refine own_go (fun t k => XS.lloadN X12.here hx rfl (hb hby d5_35) rfl k) ?_
    show own_Gl _ _ _ _ (T12.setTop (mkF m 36 #[.val (.long q0), .second, .val (.int (128 : Int32))] [(.long q0), (.ref b12), (.ref b12)]))
    obtain ⟨_, _, ⟨T13, L13, kk13, nn13⟩, -, X13, ⟨Lc13, hQ13, l13, y13, z13⟩, st13⟩ := X12.specialBack hx (y := (⟨"java/lang/Long", "<init>", "(J)V"⟩ : MethodName)) rfl hown (mvT hZ (hw _ (List.mem_of_getElem? (i := 32) rfl))) (mvT hZ (hw _ (List.mem_of_getElem? (i := 33) rfl))) (mvT hZ (hw _ (List.mem_of_getElem? (i := 35) rfl))) (by decide) (backOf (W := 1) (rm6 l Z a0 hw [] b12 q0 h12 n0 Z12 A12 F12_44 ge_b12) hZ (hw _ (List.mem_of_getElem? (i := 35) rfl)) (hw _ (List.mem_of_getElem? (i := 27) rfl)) (by decide) (by decide)) (g := (mkF m 36 #[.val (.long q0), .second, .val (.int (128 : Int32))] [(.long q0), (.ref b12), (.ref b12)])) rfl (by rw [hml]; rfl) (Steps.refl _) (a := b12) (argsL := [(.long q0)]) (rest := [(.ref b12)]) (lenOf pd_1 rfl) rfl (by show 2 * 0 + _ ≤ _; exact Nat.le_of_eq rfl) (hb hby d5_36) (fun _ _ => ⟨rfl, e12, (by decide : 1 + 0 ≤ _), (by decide : 1 + 0 ≤ _)⟩)
    dsimp only [Pt.U, Pt.locs, Pt.cells, Pt.slots] at X13 l13 y13 z13 st13 hQ13
    subst l13 y13 z13
    obtain ⟨N13q, rfl, K13q, po13_0⟩ := hQ13
    have N13 := Fr.app N0 N13q
    have K13 : Keep h0 T13.heap [] := K12.trans K13q (allS (Or.inr sz_b12) all0)
    have Z13 : n0 ≤ T13.heap.size := Nat.le_trans Z12 K13q.1
    refine own_go (fun t k => st13.trans k) ?_
    show own_Gl _ _ _ _ (T13.setTop (mkF m 39 #[.val (.long q0), .second, .val (.int (128 : Int32))] [(.ref b12)]))
    obtain ⟨fs, hr, hrun, hended, hW, hsame⟩ := X13.leave (v := some (.ref b12)) (fun h => by rw [Bd.returns] at h; cases h)
    have f_14 : Exa Z T13.heap b12 "java/lang/Long" := (A12.keep K13q)
    refine own_fin (Jvm.RoadKit.retOut X13 hx Bd.returns rfl (Or.inr (Or.inr (Or.inr (Or.inr ⟨rfl, rfl, rfl⟩)))) (hb hby d5_39) hr) hrun hended ⟨_, _, rfl, ?_, ⟨_, rfl⟩, hW, hsame.mono (by decide) (by decide)⟩
    show Qvon Z q0 h0 n0 _ T13.heap _
    exact ⟨N13, b12, ge_b12, sz_b12, rfl, K13, f_14⟩
  · refine own_go (fun t k => XS.ifNo X0.here hx rfl (hb hby d5_9) rfl ((if0 _ _).trans (flt (fun q => hc9_11 ((lw_lt q0 (-128 : Int64)).mp q))).1) k) ?_
    show own_Gl _ _ _ _ (s₁.setTop (mkF m 12 #[.val (.long q0), .second, .val (.int (128 : Int32))] []))
    refine own_go (fun t k => XS.lloadN X0.here hx rfl (hb hby d5_12) rfl k) ?_
    show own_Gl _ _ _ _ (s₁.setTop (mkF m 13 #[.val (.long q0), .second, .val (.int (128 : Int32))] [(.long q0)]))
    refine own_go (fun t k => X0.ldc2Long hx hown (mvT hZ (hw _ (List.mem_of_getElem? (i := 48) rfl))) (g := (mkF m 13 #[.val (.long q0), .second, .val (.int (128 : Int32))] [(.long q0)])) rfl (hb hby d5_13) _ k) ?_
    show own_Gl _ _ _ _ (s₁.setTop (mkF m 16 #[.val (.long q0), .second, .val (.int (128 : Int32))] [(.long (127 : Int64)), (.long q0)]))
    refine own_go (fun t k => XS.lcmp X0.here hx rfl (hb hby d5_16) rfl k) ?_
    show own_Gl _ _ _ _ (s₁.setTop (mkF m 17 #[.val (.long q0), .second, .val (.int (128 : Int32))] [(.int (lcmpW q0 (127 : Int64)))]))
    have hp15 : (127 : Int64) < q0 := hN.resolve_left hc9_11
    refine own_go (fun t k => XS.ifYes X0.here hx rfl (pc0 := 17) (pc' := 31) rfl (hb hby d5_17) rfl ((if0 _ _).trans (tlt ((lw_gt q0 (127 : Int64)).mpr hp15)).2.2.1) (by decide) (by decide) k) ?_
    show own_Gl _ _ _ _ (s₁.setTop (mkF m 31 #[.val (.long q0), .second, .val (.int (128 : Int32))] []))
    obtain ⟨T16, h16, X16, e16, E16, A16, D16, -, st16⟩ := newO X0 hx hZ hown (hw _ (List.mem_of_getElem? (i := 30) rfl)) (hw _ (List.mem_of_getElem? (i := 31) rfl)) (hw _ (List.mem_of_getElem? (i := 27) rfl)) e0 (g := (mkF m 31 #[.val (.long q0), .second, .val (.int (128 : Int32))] [])) rfl (hb hby d5_31) (by decide) (by decide)
    obtain ⟨b16, g16⟩ : ∃ z, z = h0.size := ⟨_, rfl⟩
    rw [← g16] at A16 D16 st16
    have ge_b16 : n0 ≤ b16 := Nat.le_trans Z0 (Nat.le_of_eq g16.symm)
    have sz_b16 : h0.size ≤ b16 := Nat.le_trans (Keep.refl h0 []).1 (Nat.le_of_eq g16.symm)
    refine own_go (fun t k => st16 _ k) ?_
    have K16 : Keep h0 h16 [] := (Keep.refl h0 []).ext E16
    have Z16 : n0 ≤ h16.size := Nat.le_trans Z0 E16.1
    have F16_44 : Fld Z h16 b16 "java/lang/Long" "value" "J" (.long (0 : Int64)) := D16 (Or.inr (hw _ (List.mem_of_getElem? (i := 44) rfl))) (ty := .long) (by decide)
    show own_Gl _ _ _ _ (T16.setTop (mkF m 34 #[.val (.long q0), .second, .val (.int (128 : Int32))] [(.ref b16)]))
    refine own_go (fun t k => XS.dup X16.here hx rfl (hb hby d5_34) rfl rfl k) ?_
    show own_Gl _ _ _ _ (T16.setTop (mkF m 35 #[.val (.long q0), .second, .val (.int (128 : Int32))] [(.ref b16), (.ref b16)]))
    refine own_go (fun t k => XS.lloadN X16.here hx rfl (hb hby d5_35) rfl k) ?_
    show own_Gl _ _ _ _ (T16.setTop (mkF m 36 #[.val (.long q0), .second, .val (.int (128 : Int32))] [(.long q0), (.ref b16), (.ref b16)]))
    obtain ⟨_, _, ⟨T17, L17, kk17, nn17⟩, -, X17, ⟨Lc17, hQ17, l17, y17, z17⟩, st17⟩ := X16.specialBack hx (y := (⟨"java/lang/Long", "<init>", "(J)V"⟩ : MethodName)) rfl hown (mvT hZ (hw _ (List.mem_of_getElem? (i := 32) rfl))) (mvT hZ (hw _ (List.mem_of_getElem? (i := 33) rfl))) (mvT hZ (hw _ (List.mem_of_getElem? (i := 35) rfl))) (by decide) (backOf (W := 1) (rm6 l Z a0 hw [] b16 q0 h16 n0 Z16 A16 F16_44 ge_b16) hZ (hw _ (List.mem_of_getElem? (i := 35) rfl)) (hw _ (List.mem_of_getElem? (i := 27) rfl)) (by decide) (by decide)) (g := (mkF m 36 #[.val (.long q0), .second, .val (.int (128 : Int32))] [(.long q0), (.ref b16), (.ref b16)])) rfl (by rw [hml]; rfl) (Steps.refl _) (a := b16) (argsL := [(.long q0)]) (rest := [(.ref b16)]) (lenOf pd_1 rfl) rfl (by show 2 * 0 + _ ≤ _; exact Nat.le_of_eq rfl) (hb hby d5_36) (fun _ _ => ⟨rfl, e16, (by decide : 1 + 0 ≤ _), (by decide : 1 + 0 ≤ _)⟩)
    dsimp only [Pt.U, Pt.locs, Pt.cells, Pt.slots] at X17 l17 y17 z17 st17 hQ17
    subst l17 y17 z17
    obtain ⟨N17q, rfl, K17q, po17_0⟩ := hQ17
    have N17 := Fr.app N0 N17q
    have K17 : Keep h0 T17.heap [] := K16.trans K17q (allS (Or.inr sz_b16) all0)
    have Z17 : n0 ≤ T17.heap.size := Nat.le_trans Z16 K17q.1
    refine own_go (fun t k => st17.trans k) ?_
    show own_Gl _ _ _ _ (T17.setTop (mkF m 39 #[.val (.long q0), .second, .val (.int (128 : Int32))] [(.ref b16)]))
    obtain ⟨fs, hr, hrun, hended, hW, hsame⟩ := X17.leave (v := some (.ref b16)) (fun h => by rw [Bd.returns] at h; cases h)
    have f_18 : Exa Z T17.heap b16 "java/lang/Long" := (A16.keep K17q)
    refine own_fin (Jvm.RoadKit.retOut X17 hx Bd.returns rfl (Or.inr (Or.inr (Or.inr (Or.inr ⟨rfl, rfl, rfl⟩)))) (hb hby d5_39) hr) hrun hended ⟨_, _, rfl, ?_, ⟨_, rfl⟩, hW, hsame.mono (by decide) (by decide)⟩
    show Qvon Z q0 h0 n0 _ T17.heap _
    exact ⟨N17, b16, ge_b16, sz_b16, rfl, K17, f_18⟩
theorem ef_voc (m : MethodId) (q0 : Int64) : entryFrame m #[(.long q0)] 3 = mkF m 0 #[.val (.long q0), .second, .unset] [] := by first | (simp [entryFrame, mkF, argsToLocals, Value.category]; done) | rfl
def Qvoc (Z : State) (q0 : Int64) (ca : Addr) (kA : ClassId) (vs : List Value) (w : Addr) (h0 : Heap) (n0 : Nat) (v : Option Value) (h : Heap) (L : List Loc) : Prop := Fr n0 L ∧ v = some (.ref w) ∧ h = h0
set_option maxRecDepth 65536 in
set_option maxHeartbeats 40000000 in
theorem rmvoc (l : Launch) (Z : State) (a0 : Array Value) (hw : ∀ d ∈ tables_1, d.before a0 Z = true) (ws : List Jvm.Cond) (q0 : Int64) (ca : Addr) (kA : ClassId) (vs : List Value) (w : Addr) (h0 : Heap) (n0 : Nat) (Z0 : n0 ≤ h0.size) (P0 : Sta Z h0 "java/lang/Long$LongCache" "cache" "[Ljava/lang/Long;" (.ref ca)) (P1 : Arv Z h0 ca kA (.object "java/lang/Long") (256 : Int32) vs .null) (c1 : ¬ (q0 < (-128 : Int64))) (c2 : ¬ ((127 : Int64) < q0)) (c3 : ¬ (q0.toInt32 + (128 : Int32)) < 0 ∧ (q0.toInt32 + (128 : Int32)) < (256 : Int32)) (c4 : vs.getD (q0.toInt32 + (128 : Int32)).toNatClampNeg .null = .ref w) :
    MetFree l (⟨"java/lang/Long", "valueOf", "(J)Ljava/lang/Long;"⟩ : MethodName) (head1 (Jvm.Cond.code (⟨"java/lang/Long", "valueOf", "(J)Ljava/lang/Long;"⟩ : MethodName) jdk_35_method_24_code 3 (some (.object "java/lang/Long")) :: ws) ({ frames := 0, cells := 0, slots := 0, locals := 0 } : Room)) (fun a U => a = #[(.long q0)] ∧ Z.Warmed39 U.vm ∧ U.heap = h0) (fun _ _ _ _ _ => True) (fun _ U o U' => ∃ v L, o = .returned v ∧ Qvoc Z q0 ca kA vs w h0 n0 v U'.heap L ∧ FrameEnd U o U' L ({ frames := 0, cells := 0, slots := 0, locals := 0 } : Room).cells ({ frames := 0, cells := 0, slots := 0, locals := 0 } : Room).slots) := by
  refine MetFree.of_bodySF (plainFor_of_name pn_java_lang_Long) hisR ?_
  intro p e s m args below meth c s₁ Bd hml0 hP hK
  obtain ⟨rfl, hZ, hh⟩ := hP
  have hx := Bd.exec
  have hby := Bd.bytes
  have hml : c.maxLocals = 3 := hml0
  have hown : s.vm.findClass "java/lang/Long" = some m.cls := findClass_of_methodNamed Bd.named
  have hnm := (name_of_methodNamed Bd.named Bd.method).1
  have X0 : Stand p l e ({ frames := 0, cells := 0, slots := 0, locals := 0 } : Room) s m #[(.long q0)] below meth c s₁ [] 0 0 := Stand.of_body Bd
  have e0 : s₁.heap = h0 := by rw [← hh, Bd.state]; rfl
  have N0 := Fr.nil n0
  show own_Gl p e below (fun o U' => ∃ v L, o = .returned v ∧ Qvoc Z q0 ca kA vs w h0 n0 v U'.heap L ∧ FrameEnd s o U' L ({ frames := 0, cells := 0, slots := 0, locals := 0 } : Room).cells ({ frames := 0, cells := 0, slots := 0, locals := 0 } : Room).slots) (s₁.setTop (entryFrame m #[(.long q0)] 3))
  refine own_go (fun t k => castTop (ef_voc m q0) k) ?_
  show own_Gl _ _ _ _ (s₁.setTop (mkF m 0 #[.val (.long q0), .second, .unset] []))
  refine own_go (fun t k => XS.sipush X0.here hx rfl (hb hby d5_0) k) ?_
  show own_Gl _ _ _ _ (s₁.setTop (mkF m 3 #[.val (.long q0), .second, .unset] [(.int (128 : Int32))]))
  refine own_go (fun t k => XS.istoreN X0.here hx rfl (hb hby d5_3) rfl (l' := #[.val (.long q0), .second, .val (.int (128 : Int32))]) rfl k) ?_
  show own_Gl _ _ _ _ (s₁.setTop (mkF m 4 #[.val (.long q0), .second, .val (.int (128 : Int32))] []))
  refine own_go (fun t k => XS.lloadN X0.here hx rfl (hb hby d5_4) rfl k) ?_
  show own_Gl _ _ _ _ (s₁.setTop (mkF m 5 #[.val (.long q0), .second, .val (.int (128 : Int32))] [(.long q0)]))
  refine own_go (fun t k => X0.ldc2Long hx hown (mvT hZ (hw _ (List.mem_of_getElem? (i := 29) rfl))) (g := (mkF m 5 #[.val (.long q0), .second, .val (.int (128 : Int32))] [(.long q0)])) rfl (hb hby d5_5) _ k) ?_
  show own_Gl _ _ _ _ (s₁.setTop (mkF m 8 #[.val (.long q0), .second, .val (.int (128 : Int32))] [(.long (-128 : Int64)), (.long q0)]))
  refine own_go (fun t k => XS.lcmp X0.here hx rfl (hb hby d5_8) rfl k) ?_
  show own_Gl _ _ _ _ (s₁.setTop (mkF m 9 #[.val (.long q0), .second, .val (.int (128 : Int32))] [(.int (lcmpW q0 (-128 : Int64)))]))
  refine own_go (fun t k => XS.ifNo X0.here hx rfl (hb hby d5_9) rfl ((if0 _ _).trans (flt (fun q => c1 ((lw_lt q0 (-128 : Int64)).mp q))).1) k) ?_
  show own_Gl _ _ _ _ (s₁.setTop (mkF m 12 #[.val (.long q0), .second, .val (.int (128 : Int32))] []))
  refine own_go (fun t k => XS.lloadN X0.here hx rfl (hb hby d5_12) rfl k) ?_
  show own_Gl _ _ _ _ (s₁.setTop (mkF m 13 #[.val (.long q0), .second, .val (.int (128 : Int32))] [(.long q0)]))
  refine own_go (fun t k => X0.ldc2Long hx hown (mvT hZ (hw _ (List.mem_of_getElem? (i := 48) rfl))) (g := (mkF m 13 #[.val (.long q0), .second, .val (.int (128 : Int32))] [(.long q0)])) rfl (hb hby d5_13) _ k) ?_
  show own_Gl _ _ _ _ (s₁.setTop (mkF m 16 #[.val (.long q0), .second, .val (.int (128 : Int32))] [(.long (127 : Int64)), (.long q0)]))
  refine own_go (fun t k => XS.lcmp X0.here hx rfl (hb hby d5_16) rfl k) ?_
  show own_Gl _ _ _ _ (s₁.setTop (mkF m 17 #[.val (.long q0), .second, .val (.int (128 : Int32))] [(.int (lcmpW q0 (127 : Int64)))]))
  refine own_go (fun t k => XS.ifNo X0.here hx rfl (hb hby d5_17) rfl ((if0 _ _).trans (flt (fun q => c2 ((lw_gt q0 (127 : Int64)).mp q))).2.2.1) k) ?_
  show own_Gl _ _ _ _ (s₁.setTop (mkF m 20 #[.val (.long q0), .second, .val (.int (128 : Int32))] []))
  obtain ⟨T19, X19, e19, st19⟩ := getS2 X0 hx hZ hown (host := "") (Or.inl (hw _ (List.mem_of_getElem? (i := 49) rfl))) Via.refl e0 P0 (g := (mkF m 20 #[.val (.long q0), .second, .val (.int (128 : Int32))] [])) rfl (hb hby d5_20)
  refine own_go (fun t k => st19 _ k) ?_
  show own_Gl _ _ _ _ (T19.setTop (mkF m 23 #[.val (.long q0), .second, .val (.int (128 : Int32))] [(.ref ca)]))
  refine own_go (fun t k => XS.lloadN X19.here hx rfl (hb hby d5_23) rfl k) ?_
  show own_Gl _ _ _ _ (T19.setTop (mkF m 24 #[.val (.long q0), .second, .val (.int (128 : Int32))] [(.long q0), (.ref ca)]))
  refine own_go (fun t k => XS.l2i X19.here hx rfl (hb hby d5_24) rfl k) ?_
  show own_Gl _ _ _ _ (T19.setTop (mkF m 25 #[.val (.long q0), .second, .val (.int (128 : Int32))] [(.int (q0.toInt32)), (.ref ca)]))
  refine own_go (fun t k => XS.sipush X19.here hx rfl (hb hby d5_25) k) ?_
  show own_Gl _ _ _ _ (T19.setTop (mkF m 28 #[.val (.long q0), .second, .val (.int (128 : Int32))] [(.int (128 : Int32)), (.int (q0.toInt32)), (.ref ca)]))
  refine own_go (fun t k => XS.iadd X19.here hx rfl (hb hby d5_28) rfl k) ?_
  show own_Gl _ _ _ _ (T19.setTop (mkF m 29 #[.val (.long q0), .second, .val (.int (128 : Int32))] [(.int ((q0.toInt32) + (128 : Int32))), (.ref ca)]))
  obtain ⟨cl20, Ar20, qk20, S20, M20, H20, G20⟩ := id P1
  have hin20 : ¬ (((q0.toInt32) + (128 : Int32)) < 0 ∨ cl20.slots.size ≤ (((q0.toInt32) + (128 : Int32))).toNatClampNeg) := inb_of S20 c3
  have hat20 : cl20.slots[(((q0.toInt32) + (128 : Int32))).toNatClampNeg]? = some (.ref w) := H20.at hin20 c4
  refine own_go (fun t k => X19.aaload hx (j := ((q0.toInt32) + (128 : Int32))) (v := (.ref w)) (by rw [e19]; exact Ar20.1) (State.isArrayOf_alike hZ.alike Ar20.2.1) rfl Ar20.2.2 hin20 hat20 (g := (mkF m 29 #[.val (.long q0), .second, .val (.int (128 : Int32))] [(.int ((q0.toInt32) + (128 : Int32))), (.ref ca)])) rfl rfl (hb hby d5_29) _ k) ?_
  show own_Gl _ _ _ _ (T19.setTop (mkF m 30 #[.val (.long q0), .second, .val (.int (128 : Int32))] [(.ref w)]))
  obtain ⟨fs, hr, hrun, hended, hW, hsame⟩ := X19.leave (v := some (.ref w)) (fun h => by rw [Bd.returns] at h; cases h)
  refine own_fin (Jvm.RoadKit.retOut X19 hx Bd.returns rfl (Or.inr (Or.inr (Or.inr (Or.inr ⟨rfl, rfl, rfl⟩)))) (hb hby d5_30) hr) hrun hended ⟨_, _, rfl, ?_, ⟨_, rfl⟩, hW, hsame.mono (by decide) (by decide)⟩
  show Qvoc Z q0 ca kA vs w h0 n0 _ T19.heap _
  rw [e19]
  exact ⟨N0, rfl, rfl⟩
theorem d4_0 : decode prog_4_method_6_code 0 = .ok (.aload_n 1, 1) := by decide +kernel
theorem d4_1 : decode prog_4_method_6_code 1 = .ok (.instanceof 8, 3) := by decide +kernel
theorem d4_4 : decode prog_4_method_6_code 4 = .ok (.ifCond .eq 36, 3) := by decide +kernel
theorem d4_7 : decode prog_4_method_6_code 7 = .ok (.aload_n 1, 1) := by decide +kernel
theorem d4_8 : decode prog_4_method_6_code 8 = .ok (.checkcast 8, 3) := by decide +kernel
theorem d4_11 : decode prog_4_method_6_code 11 = .ok (.astore_n 2, 1) := by decide +kernel
theorem d4_12 : decode prog_4_method_6_code 12 = .ok (.aload_n 2, 1) := by decide +kernel
theorem d4_13 : decode prog_4_method_6_code 13 = .ok (.getfield 7, 3) := by decide +kernel
theorem d4_16 : decode prog_4_method_6_code 16 = .ok (.aload_n 0, 1) := by decide +kernel
theorem d4_17 : decode prog_4_method_6_code 17 = .ok (.getfield 7, 3) := by decide +kernel
theorem d4_20 : decode prog_4_method_6_code 20 = .ok (.lcmp, 1) := by decide +kernel
theorem d4_21 : decode prog_4_method_6_code 21 = .ok (.ifCond .ne 19, 3) := by decide +kernel
theorem d4_24 : decode prog_4_method_6_code 24 = .ok (.aload_n 2, 1) := by decide +kernel
theorem d4_25 : decode prog_4_method_6_code 25 = .ok (.getfield 13, 3) := by decide +kernel
theorem d4_28 : decode prog_4_method_6_code 28 = .ok (.aload_n 0, 1) := by decide +kernel
theorem d4_29 : decode prog_4_method_6_code 29 = .ok (.getfield 13, 3) := by decide +kernel
theorem d4_32 : decode prog_4_method_6_code 32 = .ok (.lcmp, 1) := by decide +kernel
theorem d4_33 : decode prog_4_method_6_code 33 = .ok (.ifCond .ne 7, 3) := by decide +kernel
theorem d4_36 : decode prog_4_method_6_code 36 = .ok (.iconst 1, 1) := by decide +kernel
theorem d4_37 : decode prog_4_method_6_code 37 = .ok (.goto 4, 3) := by decide +kernel
theorem d4_40 : decode prog_4_method_6_code 40 = .ok (.iconst 0, 1) := by decide +kernel
theorem d4_41 : decode prog_4_method_6_code 41 = .ok (.ireturn, 1) := by decide +kernel
theorem ef_eqk (m : MethodId) (r0 : Addr) (r1 : Addr) : entryFrame m #[(.ref r0), (.ref r1)] 3 = mkF m 0 #[.val (.ref r0), .val (.ref r1), .unset] [] := by first | (simp [entryFrame, mkF, argsToLocals, Value.category]; done) | rfl
def feqk (u0 : Int64) (u1 : Int64) (u2 : Int64) (u3 : Int64) : Int32 := (if u2 = u0 then (if u3 = u1 then (1 : Int32) else (0 : Int32)) else (0 : Int32))
def Qeqk (Z : State) (r0 : Addr) (r1 : Addr) (u0 : Int64) (u1 : Int64) (u2 : Int64) (u3 : Int64) (h0 : Heap) (n0 : Nat) (v : Option Value) (h : Heap) (L : List Loc) : Prop := Fr n0 L ∧ v = some (.int (feqk u0 u1 u2 u3)) ∧ h = h0
set_option maxRecDepth 65536 in
set_option maxHeartbeats 40000000 in
theorem rmeqk (l : Launch) (Z : State) (a0 : Array Value) (hw : ∀ d ∈ tables_1, d.before a0 Z = true) (ws : List Jvm.Cond) (r0 : Addr) (r1 : Addr) (u0 : Int64) (u1 : Int64) (u2 : Int64) (u3 : Int64) (h0 : Heap) (n0 : Nat) (Z0 : n0 ≤ h0.size) (P0 : Fld Z h0 r0 "com/example/omphale/omphale/KeyRange" "startExclusive" "J" (.long u0)) (P1 : Fld Z h0 r0 "com/example/omphale/omphale/KeyRange" "endInclusive" "J" (.long u1)) (P2 : Exa Z h0 r1 "com/example/omphale/omphale/KeyRange") (P3 : Fld Z h0 r1 "com/example/omphale/omphale/KeyRange" "startExclusive" "J" (.long u2)) (P4 : Fld Z h0 r1 "com/example/omphale/omphale/KeyRange" "endInclusive" "J" (.long u3)) :
    MetFree l (⟨"com/example/omphale/omphale/KeyRange", "equals", "(Ljava/lang/Object;)Z"⟩ : MethodName) (head1 (Jvm.Cond.code (⟨"com/example/omphale/omphale/KeyRange", "equals", "(Ljava/lang/Object;)Z"⟩ : MethodName) prog_4_method_6_code 3 (some .boolean) :: ws) ({ frames := 0, cells := 0, slots := 0, locals := 0 } : Room)) (fun a U => a = #[(.ref r0), (.ref r1)] ∧ Z.Warmed39 U.vm ∧ U.heap = h0) (fun _ _ _ _ _ => True) (fun _ U o U' => ∃ v L, o = .returned v ∧ Qeqk Z r0 r1 u0 u1 u2 u3 h0 n0 v U'.heap L ∧ FrameEnd U o U' L ({ frames := 0, cells := 0, slots := 0, locals := 0 } : Room).cells ({ frames := 0, cells := 0, slots := 0, locals := 0 } : Room).slots) := by
  refine MetFree.of_bodySF (plainFor_of_name pn_com_example_omphale_omphale_KeyRange) hisR ?_
  intro p e s m args below meth c s₁ Bd hml0 hP hK
  obtain ⟨rfl, hZ, hh⟩ := hP
  have hx := Bd.exec
  have hby := Bd.bytes
  have hml : c.maxLocals = 3 := hml0
  have hown : s.vm.findClass "com/example/omphale/omphale/KeyRange" = some m.cls := findClass_of_methodNamed Bd.named
  have hnm := (name_of_methodNamed Bd.named Bd.method).1
  have X0 : Stand p l e ({ frames := 0, cells := 0, slots := 0, locals := 0 } : Room) s m #[(.ref r0), (.ref r1)] below meth c s₁ [] 0 0 := Stand.of_body Bd
  have e0 : s₁.heap = h0 := by rw [← hh, Bd.state]; rfl
  have N0 := Fr.nil n0
  show own_Gl p e below (fun o U' => ∃ v L, o = .returned v ∧ Qeqk Z r0 r1 u0 u1 u2 u3 h0 n0 v U'.heap L ∧ FrameEnd s o U' L ({ frames := 0, cells := 0, slots := 0, locals := 0 } : Room).cells ({ frames := 0, cells := 0, slots := 0, locals := 0 } : Room).slots) (s₁.setTop (entryFrame m #[(.ref r0), (.ref r1)] 3))
  refine own_go (fun t k => castTop (ef_eqk m r0 r1) k) ?_
  show own_Gl _ _ _ _ (s₁.setTop (mkF m 0 #[.val (.ref r0), .val (.ref r1), .unset] []))
  refine own_go (fun t k => XS.aloadN X0.here hx rfl (hb hby d4_0) rfl rfl k) ?_
  show own_Gl _ _ _ _ (s₁.setTop (mkF m 1 #[.val (.ref r0), .val (.ref r1), .unset] [(.ref r1)]))
  obtain ⟨T21, X21, e21, st21⟩ := instY X0 hx hZ hown (hw _ (List.mem_of_getElem? (i := 23) rfl)) e0 (Ins.self P2) (g := (mkF m 1 #[.val (.ref r0), .val (.ref r1), .unset] [(.ref r1)])) rfl rfl (hb hby d4_1)
  refine own_go (fun t k => st21 _ k) ?_
  show own_Gl _ _ _ _ (T21.setTop (mkF m 4 #[.val (.ref r0), .val (.ref r1), .unset] [(.int (1 : Int32))]))
  refine own_go (fun t k => XS.ifNo X21.here hx rfl (hb hby d4_4) rfl ((if0 _ _).trans (feq (by decide : ¬ ((1 : Int32) = (0 : Int32)))).1) k) ?_
  show own_Gl _ _ _ _ (T21.setTop (mkF m 7 #[.val (.ref r0), .val (.ref r1), .unset] []))
  refine own_go (fun t k => XS.aloadN X21.here hx rfl (hb hby d4_7) rfl rfl k) ?_
  show own_Gl _ _ _ _ (T21.setTop (mkF m 8 #[.val (.ref r0), .val (.ref r1), .unset] [(.ref r1)]))
  obtain ⟨T22, X22, e22, st22⟩ := castY X21 hx hZ hown (hw _ (List.mem_of_getElem? (i := 23) rfl)) e21 (Ins.self P2) (g := (mkF m 8 #[.val (.ref r0), .val (.ref r1), .unset] [(.ref r1)])) rfl rfl (hb hby d4_8)
  refine own_go (fun t k => st22 _ k) ?_
  show own_Gl _ _ _ _ (T22.setTop (mkF m 11 #[.val (.ref r0), .val (.ref r1), .unset] [(.ref r1)]))
  refine own_go (fun t k => XS.astoreN X22.here hx rfl (hb hby d4_11) rfl rfl (l' := #[.val (.ref r0), .val (.ref r1), .val (.ref r1)]) rfl k) ?_
  show own_Gl _ _ _ _ (T22.setTop (mkF m 12 #[.val (.ref r0), .val (.ref r1), .val (.ref r1)] []))
  refine own_go (fun t k => XS.aloadN X22.here hx rfl (hb hby d4_12) rfl rfl k) ?_
  show own_Gl _ _ _ _ (T22.setTop (mkF m 13 #[.val (.ref r0), .val (.ref r1), .val (.ref r1)] [(.ref r1)]))
  obtain ⟨T23, X23, e23, st23⟩ := getF X22 hx hZ hown (host := "") (Or.inl (hw _ (List.mem_of_getElem? (i := 14) rfl))) Via.refl e22 P3 (g := (mkF m 13 #[.val (.ref r0), .val (.ref r1), .val (.ref r1)] [(.ref r1)])) rfl rfl (hb hby d4_13)
  refine own_go (fun t k => st23 _ k) ?_
  show own_Gl _ _ _ _ (T23.setTop (mkF m 16 #[.val (.ref r0), .val (.ref r1), .val (.ref r1)] [(.long u2)]))
  refine own_go (fun t k => XS.aloadN X23.here hx rfl (hb hby d4_16) rfl rfl k) ?_
  show own_Gl _ _ _ _ (T23.setTop (mkF m 17 #[.val (.ref r0), .val (.ref r1), .val (.ref r1)] [(.ref r0), (.long u2)]))
  obtain ⟨T24, X24, e24, st24⟩ := getF X23 hx hZ hown (host := "") (Or.inl (hw _ (List.mem_of_getElem? (i := 14) rfl))) Via.refl e23 P0 (g := (mkF m 17 #[.val (.ref r0), .val (.ref r1), .val (.ref r1)] [(.ref r0), (.long u2)])) rfl rfl (hb hby d4_17)
  refine own_go (fun t k => st24 _ k) ?_
  show own_Gl _ _ _ _ (T24.setTop (mkF m 20 #[.val (.ref r0), .val (.ref r1), .val (.ref r1)] [(.long u0), (.long u2)]))
  refine own_go (fun t k => XS.lcmp X24.here hx rfl (hb hby d4_20) rfl k) ?_
  show own_Gl _ _ _ _ (T24.setTop (mkF m 21 #[.val (.ref r0), .val (.ref r1), .val (.ref r1)] [(.int (lcmpW u2 u0))]))
  by_cases hc21_25 : u2 = u0
  · refine own_go (fun t k => XS.ifNo X24.here hx rfl (hb hby d4_21) rfl ((if0 _ _).trans (teq ((lw_eq u2 u0).mpr hc21_25)).2) k) ?_
    show own_Gl _ _ _ _ (T24.setTop (mkF m 24 #[.val (.ref r0), .val (.ref r1), .val (.ref r1)] []))
    refine own_go (fun t k => XS.aloadN X24.here hx rfl (hb hby d4_24) rfl rfl k) ?_
    show own_Gl _ _ _ _ (T24.setTop (mkF m 25 #[.val (.ref r0), .val (.ref r1), .val (.ref r1)] [(.ref r1)]))
    obtain ⟨T26, X26, e26, st26⟩ := getF X24 hx hZ hown (host := "") (Or.inl (hw _ (List.mem_of_getElem? (i := 16) rfl))) Via.refl e24 P4 (g := (mkF m 25 #[.val (.ref r0), .val (.ref r1), .val (.ref r1)] [(.ref r1)])) rfl rfl (hb hby d4_25)
    refine own_go (fun t k => st26 _ k) ?_
    show own_Gl _ _ _ _ (T26.setTop (mkF m 28 #[.val (.ref r0), .val (.ref r1), .val (.ref r1)] [(.long u3)]))
    refine own_go (fun t k => XS.aloadN X26.here hx rfl (hb hby d4_28) rfl rfl k) ?_
    show own_Gl _ _ _ _ (T26.setTop (mkF m 29 #[.val (.ref r0), .val (.ref r1), .val (.ref r1)] [(.ref r0), (.long u3)]))
    obtain ⟨T27, X27, e27, st27⟩ := getF X26 hx hZ hown (host := "") (Or.inl (hw _ (List.mem_of_getElem? (i := 16) rfl))) Via.refl e26 P1 (g := (mkF m 29 #[.val (.ref r0), .val (.ref r1), .val (.ref r1)] [(.ref r0), (.long u3)])) rfl rfl (hb hby d4_29)
    refine own_go (fun t k => st27 _ k) ?_
    show own_Gl _ _ _ _ (T27.setTop (mkF m 32 #[.val (.ref r0), .val (.ref r1), .val (.ref r1)] [(.long u1), (.long u3)]))
    refine own_go (fun t k => XS.lcmp X27.here hx rfl (hb hby d4_32) rfl k) ?_
    show own_Gl _ _ _ _ (T27.setTop (mkF m 33 #[.val (.ref r0), .val (.ref r1), .val (.ref r1)] [(.int (lcmpW u3 u1))]))
    by_cases hc33_28 : u3 = u1
    · refine own_go (fun t k => XS.ifNo X27.here hx rfl (hb hby d4_33) rfl ((if0 _ _).trans (teq ((lw_eq u3 u1).mpr hc33_28)).2) k) ?_
      show own_Gl _ _ _ _ (T27.setTop (mkF m 36 #[.val (.ref r0), .val (.ref r1), .val (.ref r1)] []))
      refine own_go (fun t k => XS.iconst X27.here hx rfl (hb hby d4_36) k) ?_
      show own_Gl _ _ _ _ (T27.setTop (mkF m 37 #[.val (.ref r0), .val (.ref r1), .val (.ref r1)] [(.int (1 : Int32))]))
      refine own_go (fun t k => XS.goto X27.here hx rfl (pc0 := 37) (pc' := 41) rfl (hb hby d4_37) (by decide) (by decide) k) ?_
      show own_Gl _ _ _ _ (T27.setTop (mkF m 41 #[.val (.ref r0), .val (.ref r1), .val (.ref r1)] [(.int (1 : Int32))]))
      obtain ⟨fs, hr, hrun, hended, hW, hsame⟩ := X27.leave (v := some (.int (1 : Int32))) (fun h => by rw [Bd.returns] at h; cases h)
      refine own_fin (retN X27 hx (t := .boolean) Bd.returns (by simp) (hb hby d4_41) hr) hrun hended ⟨_, _, rfl, ?_, ⟨_, rfl⟩, hW, hsame.mono (by decide) (by decide)⟩
      show Qeqk Z r0 r1 u0 u1 u2 u3 h0 n0 _ T27.heap _
      rw [e27]
      exact ⟨N0, by rw [feqk, if_pos hc21_25, if_pos hc33_28], rfl⟩
    · refine own_go (fun t k => XS.ifYes X27.here hx rfl (pc0 := 33) (pc' := 40) rfl (hb hby d4_33) rfl ((if0 _ _).trans (feq (fun q => hc33_28 ((lw_eq u3 u1).mp q))).2) (by decide) (by decide) k) ?_
      show own_Gl _ _ _ _ (T27.setTop (mkF m 40 #[.val (.ref r0), .val (.ref r1), .val (.ref r1)] []))
      refine own_go (fun t k => XS.iconst X27.here hx rfl (hb hby d4_40) k) ?_
      show own_Gl _ _ _ _ (T27.setTop (mkF m 41 #[.val (.ref r0), .val (.ref r1), .val (.ref r1)] [(.int (0 : Int32))]))
      obtain ⟨fs, hr, hrun, hended, hW, hsame⟩ := X27.leave (v := some (.int (0 : Int32))) (fun h => by rw [Bd.returns] at h; cases h)
      refine own_fin (retN X27 hx (t := .boolean) Bd.returns (by simp) (hb hby d4_41) hr) hrun hended ⟨_, _, rfl, ?_, ⟨_, rfl⟩, hW, hsame.mono (by decide) (by decide)⟩
      show Qeqk Z r0 r1 u0 u1 u2 u3 h0 n0 _ T27.heap _
      rw [e27]
      exact ⟨N0, by rw [feqk, if_pos hc21_25, if_neg hc33_28], rfl⟩
  · refine own_go (fun t k => XS.ifYes X24.here hx rfl (pc0 := 21) (pc' := 40) rfl (hb hby d4_21) rfl ((if0 _ _).trans (feq (fun q => hc21_25 ((lw_eq u2 u0).mp q))).2) (by decide) (by decide) k) ?_
    show own_Gl _ _ _ _ (T24.setTop (mkF m 40 #[.val (.ref r0), .val (.ref r1), .val (.ref r1)] []))
    refine own_go (fun t k => XS.iconst X24.here hx rfl (hb hby d4_40) k) ?_
    show own_Gl _ _ _ _ (T24.setTop (mkF m 41 #[.val (.ref r0), .val (.ref r1), .val (.ref r1)] [(.int (0 : Int32))]))
    obtain ⟨fs, hr, hrun, hended, hW, hsame⟩ := X24.leave (v := some (.int (0 : Int32))) (fun h => by rw [Bd.returns] at h; cases h)
    refine own_fin (retN X24 hx (t := .boolean) Bd.returns (by simp) (hb hby d4_41) hr) hrun hended ⟨_, _, rfl, ?_, ⟨_, rfl⟩, hW, hsame.mono (by decide) (by decide)⟩
    show Qeqk Z r0 r1 u0 u1 u2 u3 h0 n0 _ T24.heap _
    rw [e24]
    exact ⟨N0, by rw [feqk, if_neg hc21_25], rfl⟩
theorem ef_eqn (m : MethodId) (r0 : Addr) : entryFrame m #[(.ref r0), .null] 3 = mkF m 0 #[.val (.ref r0), .val .null, .unset] [] := by first | (simp [entryFrame, mkF, argsToLocals, Value.category]; done) | rfl
def Qeqn (Z : State) (r0 : Addr) (h0 : Heap) (n0 : Nat) (v : Option Value) (h : Heap) (L : List Loc) : Prop := Fr n0 L ∧ v = some (.int (0 : Int32)) ∧ h = h0
set_option maxRecDepth 65536 in
set_option maxHeartbeats 40000000 in
theorem rmeqn (l : Launch) (Z : State) (a0 : Array Value) (hw : ∀ d ∈ tables_1, d.before a0 Z = true) (ws : List Jvm.Cond) (r0 : Addr) (h0 : Heap) (n0 : Nat) (Z0 : n0 ≤ h0.size)  :
    MetFree l (⟨"com/example/omphale/omphale/KeyRange", "equals", "(Ljava/lang/Object;)Z"⟩ : MethodName) (head1 (Jvm.Cond.code (⟨"com/example/omphale/omphale/KeyRange", "equals", "(Ljava/lang/Object;)Z"⟩ : MethodName) prog_4_method_6_code 3 (some .boolean) :: ws) ({ frames := 0, cells := 0, slots := 0, locals := 0 } : Room)) (fun a U => a = #[(.ref r0), .null] ∧ Z.Warmed39 U.vm ∧ U.heap = h0) (fun _ _ _ _ _ => True) (fun _ U o U' => ∃ v L, o = .returned v ∧ Qeqn Z r0 h0 n0 v U'.heap L ∧ FrameEnd U o U' L ({ frames := 0, cells := 0, slots := 0, locals := 0 } : Room).cells ({ frames := 0, cells := 0, slots := 0, locals := 0 } : Room).slots) := by
  refine MetFree.of_bodySF (plainFor_of_name pn_com_example_omphale_omphale_KeyRange) hisR ?_
  intro p e s m args below meth c s₁ Bd hml0 hP hK
  obtain ⟨rfl, hZ, hh⟩ := hP
  have hx := Bd.exec
  have hby := Bd.bytes
  have hml : c.maxLocals = 3 := hml0
  have hown : s.vm.findClass "com/example/omphale/omphale/KeyRange" = some m.cls := findClass_of_methodNamed Bd.named
  have hnm := (name_of_methodNamed Bd.named Bd.method).1
  have X0 : Stand p l e ({ frames := 0, cells := 0, slots := 0, locals := 0 } : Room) s m #[(.ref r0), .null] below meth c s₁ [] 0 0 := Stand.of_body Bd
  have e0 : s₁.heap = h0 := by rw [← hh, Bd.state]; rfl
  have N0 := Fr.nil n0
  show own_Gl p e below (fun o U' => ∃ v L, o = .returned v ∧ Qeqn Z r0 h0 n0 v U'.heap L ∧ FrameEnd s o U' L ({ frames := 0, cells := 0, slots := 0, locals := 0 } : Room).cells ({ frames := 0, cells := 0, slots := 0, locals := 0 } : Room).slots) (s₁.setTop (entryFrame m #[(.ref r0), .null] 3))
  refine own_go (fun t k => castTop (ef_eqn m r0) k) ?_
  show own_Gl _ _ _ _ (s₁.setTop (mkF m 0 #[.val (.ref r0), .val .null, .unset] []))
  refine own_go (fun t k => XS.aloadN X0.here hx rfl (hb hby d4_0) rfl rfl k) ?_
  show own_Gl _ _ _ _ (s₁.setTop (mkF m 1 #[.val (.ref r0), .val .null, .unset] [.null]))
  refine own_go (fun t k => X0.instanceofNull hx (g := (mkF m 1 #[.val (.ref r0), .val .null, .unset] [.null])) rfl rfl (hb hby d4_1) _ k) ?_
  show own_Gl _ _ _ _ (s₁.setTop (mkF m 4 #[.val (.ref r0), .val .null, .unset] [(.int (0 : Int32))]))
  refine own_go (fun t k => XS.ifYes X0.here hx rfl (pc0 := 4) (pc' := 40) rfl (hb hby d4_4) rfl ((if0 _ _).trans (teq (by decide : (0 : Int32) = (0 : Int32))).1) (by decide) (by decide) k) ?_
  show own_Gl _ _ _ _ (s₁.setTop (mkF m 40 #[.val (.ref r0), .val .null, .unset] []))
  refine own_go (fun t k => XS.iconst X0.here hx rfl (hb hby d4_40) k) ?_
  show own_Gl _ _ _ _ (s₁.setTop (mkF m 41 #[.val (.ref r0), .val .null, .unset] [(.int (0 : Int32))]))
  obtain ⟨fs, hr, hrun, hended, hW, hsame⟩ := X0.leave (v := some (.int (0 : Int32))) (fun h => by rw [Bd.returns] at h; cases h)
  refine own_fin (retN X0 hx (t := .boolean) Bd.returns (by simp) (hb hby d4_41) hr) hrun hended ⟨_, _, rfl, ?_, ⟨_, rfl⟩, hW, hsame.mono (by decide) (by decide)⟩
  show Qeqn Z r0 h0 n0 _ s₁.heap _
  rw [e0]
  exact ⟨N0, rfl, rfl⟩
theorem own_root {Z : State} {a0 : Array Value} {O K : String} {n : Nat} (w : (Jvm.Cond.noSuperclass O).before a0 Z = true) (wk : (Jvm.Cond.instantiable K n).before a0 Z = true) (hn : O ≠ K) : NS Z O K := by
  obtain ⟨c, k, h1, h2, h3, -, -⟩ := Cond.noSuperclass_spec w
  obtain ⟨t, kt, g1, -⟩ := Cond.instantiable_spec wk
  have ne := ids_ne h1 g1 hn
  refine ⟨c, t, h1, g1, fun fuel => ?_⟩
  cases fuel with
  | zero => rfl
  | succ f => simp [Vm.isSubclassAux, ne, h2, h3]
theorem own_not {Z : State} {a0 : Array Value} {C S K : String} {n : Nat} (w : (Jvm.Cond.superclass C S).before a0 Z = true) (wk : (Jvm.Cond.instantiable K n).before a0 Z = true) (N : NS Z C K) (hn : C ≠ K) : ∃ c t, Z.vm.findClass C = some c ∧ Z.vm.findClass K = some t ∧ Z.vm.assignable c t = false := by
  obtain ⟨c, t, h0, g0, n3⟩ := N
  obtain ⟨p, k, kp, h1, h2, h3, h4, h5, -, h7⟩ := Cond.superclass_spec h0 w
  obtain ⟨t', k', g1, g2, g3, g4, -⟩ := Cond.instantiable_spec wk
  cases g0.symm.trans g1
  have g5 : k'.isInterface = false := by
    cases q : k'.isInterface
    · rfl
    · simp [q] at g4
  have ne := ids_ne h0 g0 hn
  refine ⟨c, t, h0, g0, ?_⟩
  show Z.vm.assignableAux (255 + 1) c t = false
  simp [Vm.assignableAux, ne, h2, g2, h5, g3, g5, Vm.isSubclass, n3]
theorem ef_eql (m : MethodId) (r0 : Addr) (r1 : Addr) : entryFrame m #[(.ref r0), (.ref r1)] 3 = mkF m 0 #[.val (.ref r0), .val (.ref r1), .unset] [] := by first | (simp [entryFrame, mkF, argsToLocals, Value.category]; done) | rfl
def Qeql (Z : State) (r0 : Addr) (r1 : Addr) (h0 : Heap) (n0 : Nat) (v : Option Value) (h : Heap) (L : List Loc) : Prop := Fr n0 L ∧ v = some (.int (0 : Int32)) ∧ h = h0
set_option maxRecDepth 65536 in
set_option maxHeartbeats 40000000 in
theorem rmeql (l : Launch) (Z : State) (a0 : Array Value) (hw : ∀ d ∈ tables_1, d.before a0 Z = true) (ws : List Jvm.Cond) (r0 : Addr) (r1 : Addr) (h0 : Heap) (n0 : Nat) (Z0 : n0 ≤ h0.size) (P0 : Exa Z h0 r1 "java/lang/Long") :
    MetFree l (⟨"com/example/omphale/omphale/KeyRange", "equals", "(Ljava/lang/Object;)Z"⟩ : MethodName) (head1 (Jvm.Cond.code (⟨"com/example/omphale/omphale/KeyRange", "equals", "(Ljava/lang/Object;)Z"⟩ : MethodName) prog_4_method_6_code 3 (some .boolean) :: ws) ({ frames := 0, cells := 0, slots := 0, locals := 0 } : Room)) (fun a U => a = #[(.ref r0), (.ref r1)] ∧ Z.Warmed39 U.vm ∧ U.heap = h0) (fun _ _ _ _ _ => True) (fun _ U o U' => ∃ v L, o = .returned v ∧ Qeql Z r0 r1 h0 n0 v U'.heap L ∧ FrameEnd U o U' L ({ frames := 0, cells := 0, slots := 0, locals := 0 } : Room).cells ({ frames := 0, cells := 0, slots := 0, locals := 0 } : Room).slots) := by
  refine MetFree.of_bodySF (plainFor_of_name pn_com_example_omphale_omphale_KeyRange) hisR ?_
  intro p e s m args below meth c s₁ Bd hml0 hP hK
  obtain ⟨rfl, hZ, hh⟩ := hP
  have hx := Bd.exec
  have hby := Bd.bytes
  have hml : c.maxLocals = 3 := hml0
  have hown : s.vm.findClass "com/example/omphale/omphale/KeyRange" = some m.cls := findClass_of_methodNamed Bd.named
  have hnm := (name_of_methodNamed Bd.named Bd.method).1
  have X0 : Stand p l e ({ frames := 0, cells := 0, slots := 0, locals := 0 } : Room) s m #[(.ref r0), (.ref r1)] below meth c s₁ [] 0 0 := Stand.of_body Bd
  have e0 : s₁.heap = h0 := by rw [← hh, Bd.state]; rfl
  have N0 := Fr.nil n0
  show own_Gl p e below (fun o U' => ∃ v L, o = .returned v ∧ Qeql Z r0 r1 h0 n0 v U'.heap L ∧ FrameEnd s o U' L ({ frames := 0, cells := 0, slots := 0, locals := 0 } : Room).cells ({ frames := 0, cells := 0, slots := 0, locals := 0 } : Room).slots) (s₁.setTop (entryFrame m #[(.ref r0), (.ref r1)] 3))
  refine own_go (fun t k => castTop (ef_eql m r0 r1) k) ?_
  show own_Gl _ _ _ _ (s₁.setTop (mkF m 0 #[.val (.ref r0), .val (.ref r1), .unset] []))
  refine own_go (fun t k => XS.aloadN X0.here hx rfl (hb hby d4_0) rfl rfl k) ?_
  show own_Gl _ _ _ _ (s₁.setTop (mkF m 1 #[.val (.ref r0), .val (.ref r1), .unset] [(.ref r1)]))
  obtain ⟨T29, X29, e29, st29⟩ := instNo X0 hx hZ hown (hw _ (List.mem_of_getElem? (i := 23) rfl)) e0 P0 (own_not (hw _ (List.mem_of_getElem? (i := 45) rfl)) (hw _ (List.mem_of_getElem? (i := 1) rfl)) (NS.step (hw _ (List.mem_of_getElem? (i := 45) rfl)) (NS.step (hw _ (List.mem_of_getElem? (i := 46) rfl)) (own_root (hw _ (List.mem_of_getElem? (i := 47) rfl)) (hw _ (List.mem_of_getElem? (i := 1) rfl)) (by decide)) (by decide)) (by decide)) (by decide)) (g := (mkF m 1 #[.val (.ref r0), .val (.ref r1), .unset] [(.ref r1)])) rfl rfl (hb hby d4_1)
  refine own_go (fun t k => st29 _ k) ?_
  show own_Gl _ _ _ _ (T29.setTop (mkF m 4 #[.val (.ref r0), .val (.ref r1), .unset] [(.int (0 : Int32))]))
  refine own_go (fun t k => XS.ifYes X29.here hx rfl (pc0 := 4) (pc' := 40) rfl (hb hby d4_4) rfl ((if0 _ _).trans (teq (by decide : (0 : Int32) = (0 : Int32))).1) (by decide) (by decide) k) ?_
  show own_Gl _ _ _ _ (T29.setTop (mkF m 40 #[.val (.ref r0), .val (.ref r1), .unset] []))
  refine own_go (fun t k => XS.iconst X29.here hx rfl (hb hby d4_40) k) ?_
  show own_Gl _ _ _ _ (T29.setTop (mkF m 41 #[.val (.ref r0), .val (.ref r1), .unset] [(.int (0 : Int32))]))
  obtain ⟨fs, hr, hrun, hended, hW, hsame⟩ := X29.leave (v := some (.int (0 : Int32))) (fun h => by rw [Bd.returns] at h; cases h)
  refine own_fin (retN X29 hx (t := .boolean) Bd.returns (by simp) (hb hby d4_41) hr) hrun hended ⟨_, _, rfl, ?_, ⟨_, rfl⟩, hW, hsame.mono (by decide) (by decide)⟩
  show Qeql Z r0 r1 h0 n0 _ T29.heap _
  rw [e29]
  exact ⟨N0, rfl, rfl⟩
theorem own_idx {q : Int64} (h1 : ¬ (q < (-128 : Int64))) (h2 : ¬ ((127 : Int64) < q)) : ¬ (q.toInt32 + (128 : Int32)) < 0 ∧ (q.toInt32 + (128 : Int32)) < (256 : Int32) := by
  have z1 : (-128 : Int64).toInt = -128 := rfl
  have z2 : (127 : Int64).toInt = 127 := rfl
  have z3 : (128 : Int32).toInt = 128 := rfl
  have z4 : (256 : Int32).toInt = 256 := rfl
  have z5 : (0 : Int32).toInt = 0 := rfl
  simp only [Int64.lt_iff_toInt_lt] at h1 h2
  have e1 : q.toInt32.toInt = q.toInt := Jvm.Kit.i32_of_i64 (by omega) (by omega)
  have e2 : (q.toInt32 + (128 : Int32)).toInt = q.toInt32.toInt + (128 : Int32).toInt := Jvm.Kit.i32_add (by omega) (by omega)
  simp only [Int32.lt_iff_toInt_lt]; omega
theorem own_idn {j : Int32} (h : ¬ j < 0 ∧ j < (256 : Int32)) : j.toNatClampNeg < 256 := by
  have z4 : (256 : Int32).toInt = 256 := rfl
  have z5 : (0 : Int32).toInt = 0 := rfl
  simp only [Int32.lt_iff_toInt_lt] at h
  simp only [Int32.toNatClampNeg]; omega
theorem pn_com_example_omphale_omphale_KeyRangeEqualsPinLaw : plainName "com/example/omphale/omphale/KeyRangeEqualsPinLaw" = true := by first | (simp [plainName, overriddenIn]; done) | decide +kernel
theorem ef_0 (m : MethodId) (q0 : Int64) (q1 : Int64) (q2 : Int64) (q3 : Int64) (p0 : Int32) : entryFrame m #[(.long q0), (.long q1), (.long q2), (.long q3), (.int p0)] maxLocals = mkF m 0 #[.val (.long q0), .second, .val (.long q1), .second, .val (.long q2), .second, .val (.long q3), .second, .val (.int p0), .unset, .unset, .unset, .unset, .unset, .unset, .unset, .unset, .unset, .unset] [] := by first | (simp [entryFrame, mkF, argsToLocals, Value.category, maxLocals]; done) | rfl
theorem pd_2 : parseMethodDescriptor "(JJ)V" = some ⟨[.long, .long], none⟩ := by decide +kernel
theorem pd_3 : parseMethodDescriptor "(Ljava/lang/Object;)Z" = some ⟨[(.object "java/lang/Object")], some .boolean⟩ := by decide +kernel
theorem pd_4 : parseMethodDescriptor "(J)Ljava/lang/Long;" = some ⟨[.long], some (.object "java/lang/Long")⟩ := by decide +kernel
def f0 (q0 : Int64) (q1 : Int64) (q2 : Int64) (q3 : Int64) (p0 : Int32) : Int32 := (if (((p0.toUInt32 >>> ((2 : Int32) &&& 31).toUInt32).toInt32) &&& (3 : Int32)) = (0 : Int32) then (if (feqk q0 q1 (if (p0 &&& (1 : Int32)) = (0 : Int32) then q2 else q0) (if (p0 &&& (2 : Int32)) = (0 : Int32) then q3 else q1)) = (if q0 = (if (p0 &&& (1 : Int32)) = (0 : Int32) then q2 else q0) then (if q1 = (if (p0 &&& (2 : Int32)) = (0 : Int32) then q3 else q1) then (1 : Int32) else (0 : Int32)) else (0 : Int32)) then (if (feqk (if (p0 &&& (1 : Int32)) = (0 : Int32) then q2 else q0) (if (p0 &&& (2 : Int32)) = (0 : Int32) then q3 else q1) q0 q1) = (if q0 = (if (p0 &&& (1 : Int32)) = (0 : Int32) then q2 else q0) then (if q1 = (if (p0 &&& (2 : Int32)) = (0 : Int32) then q3 else q1) then (1 : Int32) else (0 : Int32)) else (0 : Int32)) then (1 : Int32) else (0 : Int32)) else (0 : Int32)) else (if (((p0.toUInt32 >>> ((2 : Int32) &&& 31).toUInt32).toInt32) &&& (3 : Int32)) = (1 : Int32) then (1 : Int32) else (if (((p0.toUInt32 >>> ((2 : Int32) &&& 31).toUInt32).toInt32) &&& (3 : Int32)) = (2 : Int32) then (if q0 < (-128 : Int64) then (1 : Int32) else (if (127 : Int64) < q0 then (1 : Int32) else (1 : Int32))) else (if (feqk q0 q1 q0 q1) = (1 : Int32) then (1 : Int32) else (0 : Int32)))))
def Q0 (Z : State) (q0 : Int64) (q1 : Int64) (q2 : Int64) (q3 : Int64) (p0 : Int32) (ca : Addr) (kA : ClassId) (vs : List Value) (h0 : Heap) (n0 : Nat) (v : Option Value) (h : Heap) (L : List Loc) : Prop := Fr n0 L ∧ v = some (.int (f0 q0 q1 q2 q3 p0))
set_option maxRecDepth 65536 in
set_option maxHeartbeats 40000000 in
theorem rm0 (l : Launch) (Z : State) (a0 : Array Value) (hw : ∀ d ∈ tables_1, d.before a0 Z = true) (ws : List Jvm.Cond) (q0 : Int64) (q1 : Int64) (q2 : Int64) (q3 : Int64) (p0 : Int32) (ca : Addr) (kA : ClassId) (vs : List Value) (h0 : Heap) (n0 : Nat) (Z0 : n0 ≤ h0.size) (P0 : Sta Z h0 "java/lang/Long$LongCache" "cache" "[Ljava/lang/Long;" (.ref ca)) (P1 : Arv Z h0 ca kA (.object "java/lang/Long") (256 : Int32) vs .null) (hall : ∀ j, j < 256 → ∃ w, vs.getD j .null = .ref w ∧ Exa Z h0 w "java/lang/Long") :
    MetFree l x (head1 (Jvm.Cond.code x code maxLocals ret :: ws) room_1) (fun a U => a = #[(.long q0), (.long q1), (.long q2), (.long q3), (.int p0)] ∧ Z.Warmed39 U.vm ∧ U.heap = h0) (fun _ _ _ _ _ => True) (fun _ U o U' => ∃ v L, o = .returned v ∧ Q0 Z q0 q1 q2 q3 p0 ca kA vs h0 n0 v U'.heap L ∧ FrameEnd U o U' L room_1.cells room_1.slots) := by
  refine MetFree.of_bodySF (plainFor_of_name pn_com_example_omphale_omphale_KeyRangeEqualsPinLaw) hisR ?_
  intro p e s m args below meth c s₁ Bd hml0 hP hK
  obtain ⟨rfl, hZ, hh⟩ := hP
  have hx := Bd.exec
  have hby := Bd.bytes
  have hml : c.maxLocals = 19 := hml0
  have hown : s.vm.findClass "com/example/omphale/omphale/KeyRangeEqualsPinLaw" = some m.cls := findClass_of_methodNamed Bd.named
  have hnm := (name_of_methodNamed Bd.named Bd.method).1
  have X0 : Stand p l e room_1 s m #[(.long q0), (.long q1), (.long q2), (.long q3), (.int p0)] below meth c s₁ [] 0 0 := Stand.of_body Bd
  have e0 : s₁.heap = h0 := by rw [← hh, Bd.state]; rfl
  have N0 := Fr.nil n0
  show own_Gl p e below (fun o U' => ∃ v L, o = .returned v ∧ Q0 Z q0 q1 q2 q3 p0 ca kA vs h0 n0 v U'.heap L ∧ FrameEnd s o U' L room_1.cells room_1.slots) (s₁.setTop (entryFrame m #[(.long q0), (.long q1), (.long q2), (.long q3), (.int p0)] maxLocals))
  refine own_go (fun t k => castTop (ef_0 m q0 q1 q2 q3 p0) k) ?_
  show own_Gl _ _ _ _ (s₁.setTop (mkF m 0 #[.val (.long q0), .second, .val (.long q1), .second, .val (.long q2), .second, .val (.long q3), .second, .val (.int p0), .unset, .unset, .unset, .unset, .unset, .unset, .unset, .unset, .unset, .unset] []))
  refine own_go (fun t k => XS.iload X0.here hx rfl (hb hby at_0) rfl k) ?_
  show own_Gl _ _ _ _ (s₁.setTop (mkF m 2 #[.val (.long q0), .second, .val (.long q1), .second, .val (.long q2), .second, .val (.long q3), .second, .val (.int p0), .unset, .unset, .unset, .unset, .unset, .unset, .unset, .unset, .unset, .unset] [(.int p0)]))
  refine own_go (fun t k => XS.iconst X0.here hx rfl (hb hby at_2) k) ?_
  show own_Gl _ _ _ _ (s₁.setTop (mkF m 3 #[.val (.long q0), .second, .val (.long q1), .second, .val (.long q2), .second, .val (.long q3), .second, .val (.int p0), .unset, .unset, .unset, .unset, .unset, .unset, .unset, .unset, .unset, .unset] [(.int (1 : Int32)), (.int p0)]))
  refine own_go (fun t k => XS.iand X0.here hx rfl (hb hby at_3) rfl k) ?_
  show own_Gl _ _ _ _ (s₁.setTop (mkF m 4 #[.val (.long q0), .second, .val (.long q1), .second, .val (.long q2), .second, .val (.long q3), .second, .val (.int p0), .unset, .unset, .unset, .unset, .unset, .unset, .unset, .unset, .unset, .unset] [(.int (p0 &&& (1 : Int32)))]))
  refine own_jn (S := (s₁.setTop (mkF m 13 #[.val (.long q0), .second, .val (.long q1), .second, .val (.long q2), .second, .val (.long q3), .second, .val (.int p0), .unset, .unset, .unset, .unset, .unset, .unset, .unset, .unset, .unset, .unset] [(.long (if (p0 &&& (1 : Int32)) = (0 : Int32) then q2 else q0))]))) ?_ (fun J30 => ?_)
  · show own_Gl _ _ _ _ (s₁.setTop (mkF m 13 #[.val (.long q0), .second, .val (.long q1), .second, .val (.long q2), .second, .val (.long q3), .second, .val (.int p0), .unset, .unset, .unset, .unset, .unset, .unset, .unset, .unset, .unset, .unset] [(.long (if (p0 &&& (1 : Int32)) = (0 : Int32) then q2 else q0))]))
    refine own_go (fun t k => XS.lstore X0.here hx rfl (hb hby at_13) rfl (l' := #[.val (.long q0), .second, .val (.long q1), .second, .val (.long q2), .second, .val (.long q3), .second, .val (.int p0), .val (.long (if (p0 &&& (1 : Int32)) = (0 : Int32) then q2 else q0)), .second, .unset, .unset, .unset, .unset, .unset, .unset, .unset, .unset]) rfl k) ?_
    show own_Gl _ _ _ _ (s₁.setTop (mkF m 15 #[.val (.long q0), .second, .val (.long q1), .second, .val (.long q2), .second, .val (.long q3), .second, .val (.int p0), .val (.long (if (p0 &&& (1 : Int32)) = (0 : Int32) then q2 else q0)), .second, .unset, .unset, .unset, .unset, .unset, .unset, .unset, .unset] []))
    refine own_go (fun t k => XS.iload X0.here hx rfl (hb hby at_15) rfl k) ?_
    show own_Gl _ _ _ _ (s₁.setTop (mkF m 17 #[.val (.long q0), .second, .val (.long q1), .second, .val (.long q2), .second, .val (.long q3), .second, .val (.int p0), .val (.long (if (p0 &&& (1 : Int32)) = (0 : Int32) then q2 else q0)), .second, .unset, .unset, .unset, .unset, .unset, .unset, .unset, .unset] [(.int p0)]))
    refine own_go (fun t k => XS.iconst X0.here hx rfl (hb hby at_17) k) ?_
    show own_Gl _ _ _ _ (s₁.setTop (mkF m 18 #[.val (.long q0), .second, .val (.long q1), .second, .val (.long q2), .second, .val (.long q3), .second, .val (.int p0), .val (.long (if (p0 &&& (1 : Int32)) = (0 : Int32) then q2 else q0)), .second, .unset, .unset, .unset, .unset, .unset, .unset, .unset, .unset] [(.int (2 : Int32)), (.int p0)]))
    refine own_go (fun t k => XS.iand X0.here hx rfl (hb hby at_18) rfl k) ?_
    show own_Gl _ _ _ _ (s₁.setTop (mkF m 19 #[.val (.long q0), .second, .val (.long q1), .second, .val (.long q2), .second, .val (.long q3), .second, .val (.int p0), .val (.long (if (p0 &&& (1 : Int32)) = (0 : Int32) then q2 else q0)), .second, .unset, .unset, .unset, .unset, .unset, .unset, .unset, .unset] [(.int (p0 &&& (2 : Int32)))]))
    refine own_jn (S := (s₁.setTop (mkF m 28 #[.val (.long q0), .second, .val (.long q1), .second, .val (.long q2), .second, .val (.long q3), .second, .val (.int p0), .val (.long (if (p0 &&& (1 : Int32)) = (0 : Int32) then q2 else q0)), .second, .unset, .unset, .unset, .unset, .unset, .unset, .unset, .unset] [(.long (if (p0 &&& (2 : Int32)) = (0 : Int32) then q3 else q1))]))) ?_ (fun J31 => ?_)
    · show own_Gl _ _ _ _ (s₁.setTop (mkF m 28 #[.val (.long q0), .second, .val (.long q1), .second, .val (.long q2), .second, .val (.long q3), .second, .val (.int p0), .val (.long (if (p0 &&& (1 : Int32)) = (0 : Int32) then q2 else q0)), .second, .unset, .unset, .unset, .unset, .unset, .unset, .unset, .unset] [(.long (if (p0 &&& (2 : Int32)) = (0 : Int32) then q3 else q1))]))
      refine own_go (fun t k => XS.lstore X0.here hx rfl (hb hby at_28) rfl (l' := #[.val (.long q0), .second, .val (.long q1), .second, .val (.long q2), .second, .val (.long q3), .second, .val (.int p0), .val (.long (if (p0 &&& (1 : Int32)) = (0 : Int32) then q2 else q0)), .second, .val (.long (if (p0 &&& (2 : Int32)) = (0 : Int32) then q3 else q1)), .second, .unset, .unset, .unset, .unset, .unset, .unset]) rfl k) ?_
      show own_Gl _ _ _ _ (s₁.setTop (mkF m 30 #[.val (.long q0), .second, .val (.long q1), .second, .val (.long q2), .second, .val (.long q3), .second, .val (.int p0), .val (.long (if (p0 &&& (1 : Int32)) = (0 : Int32) then q2 else q0)), .second, .val (.long (if (p0 &&& (2 : Int32)) = (0 : Int32) then q3 else q1)), .second, .unset, .unset, .unset, .unset, .unset, .unset] []))
      refine own_go (fun t k => XS.iload X0.here hx rfl (hb hby at_30) rfl k) ?_
      show own_Gl _ _ _ _ (s₁.setTop (mkF m 32 #[.val (.long q0), .second, .val (.long q1), .second, .val (.long q2), .second, .val (.long q3), .second, .val (.int p0), .val (.long (if (p0 &&& (1 : Int32)) = (0 : Int32) then q2 else q0)), .second, .val (.long (if (p0 &&& (2 : Int32)) = (0 : Int32) then q3 else q1)), .second, .unset, .unset, .unset, .unset, .unset, .unset] [(.int p0)]))
      refine own_go (fun t k => XS.iconst X0.here hx rfl (hb hby at_32) k) ?_
      show own_Gl _ _ _ _ (s₁.setTop (mkF m 33 #[.val (.long q0), .second, .val (.long q1), .second, .val (.long q2), .second, .val (.long q3), .second, .val (.int p0), .val (.long (if (p0 &&& (1 : Int32)) = (0 : Int32) then q2 else q0)), .second, .val (.long (if (p0 &&& (2 : Int32)) = (0 : Int32) then q3 else q1)), .second, .unset, .unset, .unset, .unset, .unset, .unset] [(.int (2 : Int32)), (.int p0)]))
      refine own_go (fun t k => XS.iushr X0.here hx rfl (hb hby at_33) rfl k) ?_
      show own_Gl _ _ _ _ (s₁.setTop (mkF m 34 #[.val (.long q0), .second, .val (.long q1), .second, .val (.long q2), .second, .val (.long q3), .second, .val (.int p0), .val (.long (if (p0 &&& (1 : Int32)) = (0 : Int32) then q2 else q0)), .second, .val (.long (if (p0 &&& (2 : Int32)) = (0 : Int32) then q3 else q1)), .second, .unset, .unset, .unset, .unset, .unset, .unset] [(.int ((p0.toUInt32 >>> ((2 : Int32) &&& 31).toUInt32).toInt32))]))
      refine own_go (fun t k => XS.iconst X0.here hx rfl (hb hby at_34) k) ?_
      show own_Gl _ _ _ _ (s₁.setTop (mkF m 35 #[.val (.long q0), .second, .val (.long q1), .second, .val (.long q2), .second, .val (.long q3), .second, .val (.int p0), .val (.long (if (p0 &&& (1 : Int32)) = (0 : Int32) then q2 else q0)), .second, .val (.long (if (p0 &&& (2 : Int32)) = (0 : Int32) then q3 else q1)), .second, .unset, .unset, .unset, .unset, .unset, .unset] [(.int (3 : Int32)), (.int ((p0.toUInt32 >>> ((2 : Int32) &&& 31).toUInt32).toInt32))]))
      refine own_go (fun t k => XS.iand X0.here hx rfl (hb hby at_35) rfl k) ?_
      show own_Gl _ _ _ _ (s₁.setTop (mkF m 36 #[.val (.long q0), .second, .val (.long q1), .second, .val (.long q2), .second, .val (.long q3), .second, .val (.int p0), .val (.long (if (p0 &&& (1 : Int32)) = (0 : Int32) then q2 else q0)), .second, .val (.long (if (p0 &&& (2 : Int32)) = (0 : Int32) then q3 else q1)), .second, .unset, .unset, .unset, .unset, .unset, .unset] [(.int (((p0.toUInt32 >>> ((2 : Int32) &&& 31).toUInt32).toInt32) &&& (3 : Int32)))]))
      refine own_go (fun t k => XS.istore X0.here hx rfl (hb hby at_36) rfl (l' := #[.val (.long q0), .second, .val (.long q1), .second, .val (.long q2), .second, .val (.long q3), .second, .val (.int p0), .val (.long (if (p0 &&& (1 : Int32)) = (0 : Int32) then q2 else q0)), .second, .val (.long (if (p0 &&& (2 : Int32)) = (0 : Int32) then q3 else q1)), .second, .val (.int (((p0.toUInt32 >>> ((2 : Int32) &&& 31).toUInt32).toInt32) &&& (3 : Int32))), .unset, .unset, .unset, .unset, .unset]) rfl k) ?_
      show own_Gl _ _ _ _ (s₁.setTop (mkF m 38 #[.val (.long q0), .second, .val (.long q1), .second, .val (.long q2), .second, .val (.long q3), .second, .val (.int p0), .val (.long (if (p0 &&& (1 : Int32)) = (0 : Int32) then q2 else q0)), .second, .val (.long (if (p0 &&& (2 : Int32)) = (0 : Int32) then q3 else q1)), .second, .val (.int (((p0.toUInt32 >>> ((2 : Int32) &&& 31).toUInt32).toInt32) &&& (3 : Int32))), .unset, .unset, .unset, .unset, .unset] []))
      obtain ⟨T32, h32, X32, e32, E32, A32, D32, -, st32⟩ := newO X0 hx hZ hown (hw _ (List.mem_of_getElem? (i := 0) rfl)) (hw _ (List.mem_of_getElem? (i := 1) rfl)) (hw _ (List.mem_of_getElem? (i := 2) rfl)) e0 (g := (mkF m 38 #[.val (.long q0), .second, .val (.long q1), .second, .val (.long q2), .second, .val (.long q3), .second, .val (.int p0), .val (.long (if (p0 &&& (1 : Int32)) = (0 : Int32) then q2 else q0)), .second, .val (.long (if (p0 &&& (2 : Int32)) = (0 : Int32) then q3 else q1)), .second, .val (.int (((p0.toUInt32 >>> ((2 : Int32) &&& 31).toUInt32).toInt32) &&& (3 : Int32))), .unset, .unset, .unset, .unset, .unset] [])) rfl (hb hby at_38) (by decide) (by decide)
      obtain ⟨b32, g32⟩ : ∃ z, z = h0.size := ⟨_, rfl⟩
      rw [← g32] at A32 D32 st32
      have ne_ca_b32 : ca ≠ b32 := Nat.ne_of_lt (Nat.lt_of_lt_of_le P1.lt (Nat.le_of_eq g32.symm))
      have ge_b32 : n0 ≤ b32 := Nat.le_trans Z0 (Nat.le_of_eq g32.symm)
      have sz_b32 : h0.size ≤ b32 := Nat.le_trans (Keep.refl h0 []).1 (Nat.le_of_eq g32.symm)
      refine own_go (fun t k => st32 _ k) ?_
      have K32 : Keep h0 h32 [] := (Keep.refl h0 []).ext E32
      have Z32 : n0 ≤ h32.size := Nat.le_trans Z0 E32.1
      have F32_15 : Fld Z h32 b32 "com/example/omphale/omphale/KeyRange" "startExclusive" "J" (.long (0 : Int64)) := D32 (Or.inr (hw _ (List.mem_of_getElem? (i := 15) rfl))) (ty := .long) (by decide)
      have F32_17 : Fld Z h32 b32 "com/example/omphale/omphale/KeyRange" "endInclusive" "J" (.long (0 : Int64)) := D32 (Or.inr (hw _ (List.mem_of_getElem? (i := 17) rfl))) (ty := .long) (by decide)
      show own_Gl _ _ _ _ (T32.setTop (mkF m 41 #[.val (.long q0), .second, .val (.long q1), .second, .val (.long q2), .second, .val (.long q3), .second, .val (.int p0), .val (.long (if (p0 &&& (1 : Int32)) = (0 : Int32) then q2 else q0)), .second, .val (.long (if (p0 &&& (2 : Int32)) = (0 : Int32) then q3 else q1)), .second, .val (.int (((p0.toUInt32 >>> ((2 : Int32) &&& 31).toUInt32).toInt32) &&& (3 : Int32))), .unset, .unset, .unset, .unset, .unset] [(.ref b32)]))
      refine own_go (fun t k => XS.dup X32.here hx rfl (hb hby at_41) rfl rfl k) ?_
      show own_Gl _ _ _ _ (T32.setTop (mkF m 42 #[.val (.long q0), .second, .val (.long q1), .second, .val (.long q2), .second, .val (.long q3), .second, .val (.int p0), .val (.long (if (p0 &&& (1 : Int32)) = (0 : Int32) then q2 else q0)), .second, .val (.long (if (p0 &&& (2 : Int32)) = (0 : Int32) then q3 else q1)), .second, .val (.int (((p0.toUInt32 >>> ((2 : Int32) &&& 31).toUInt32).toInt32) &&& (3 : Int32))), .unset, .unset, .unset, .unset, .unset] [(.ref b32), (.ref b32)]))
      refine own_go (fun t k => XS.lloadN X32.here hx rfl (hb hby at_42) rfl k) ?_
      show own_Gl _ _ _ _ (T32.setTop (mkF m 43 #[.val (.long q0), .second, .val (.long q1), .second, .val (.long q2), .second, .val (.long q3), .second, .val (.int p0), .val (.long (if (p0 &&& (1 : Int32)) = (0 : Int32) then q2 else q0)), .second, .val (.long (if (p0 &&& (2 : Int32)) = (0 : Int32) then q3 else q1)), .second, .val (.int (((p0.toUInt32 >>> ((2 : Int32) &&& 31).toUInt32).toInt32) &&& (3 : Int32))), .unset, .unset, .unset, .unset, .unset] [(.long q0), (.ref b32), (.ref b32)]))
      refine own_go (fun t k => XS.lloadN X32.here hx rfl (hb hby at_43) rfl k) ?_
      show own_Gl _ _ _ _ (T32.setTop (mkF m 44 #[.val (.long q0), .second, .val (.long q1), .second, .val (.long q2), .second, .val (.long q3), .second, .val (.int p0), .val (.long (if (p0 &&& (1 : Int32)) = (0 : Int32) then q2 else q0)), .second, .val (.long (if (p0 &&& (2 : Int32)) = (0 : Int32) then q3 else q1)), .second, .val (.int (((p0.toUInt32 >>> ((2 : Int32) &&& 31).toUInt32).toInt32) &&& (3 : Int32))), .unset, .unset, .unset, .unset, .unset] [(.long q1), (.long q0), (.ref b32), (.ref b32)]))
      obtain ⟨_, _, ⟨T33, L33, kk33, nn33⟩, -, X33, ⟨Lc33, hQ33, l33, y33, z33⟩, st33⟩ := X32.specialBack hx (y := (⟨"com/example/omphale/omphale/KeyRange", "<init>", "(JJ)V"⟩ : MethodName)) rfl hown (mvT hZ (hw _ (List.mem_of_getElem? (i := 3) rfl))) (mvT hZ (hw _ (List.mem_of_getElem? (i := 4) rfl))) (mvT hZ (hw _ (List.mem_of_getElem? (i := 5) rfl))) (by decide) (backOf (W := 1) (rm1 l Z a0 hw [] b32 q0 q1 h32 n0 Z32 A32 F32_15 F32_17 ge_b32) hZ (hw _ (List.mem_of_getElem? (i := 5) rfl)) (hw _ (List.mem_of_getElem? (i := 2) rfl)) (by decide) (by decide)) (g := (mkF m 44 #[.val (.long q0), .second, .val (.long q1), .second, .val (.long q2), .second, .val (.long q3), .second, .val (.int p0), .val (.long (if (p0 &&& (1 : Int32)) = (0 : Int32) then q2 else q0)), .second, .val (.long (if (p0 &&& (2 : Int32)) = (0 : Int32) then q3 else q1)), .second, .val (.int (((p0.toUInt32 >>> ((2 : Int32) &&& 31).toUInt32).toInt32) &&& (3 : Int32))), .unset, .unset, .unset, .unset, .unset] [(.long q1), (.long q0), (.ref b32), (.ref b32)])) rfl (by rw [hml]; rfl) (Steps.refl _) (a := b32) (argsL := [(.long q0), (.long q1)]) (rest := [(.ref b32)]) (lenOf pd_2 rfl) rfl (by show 2 * 0 + _ ≤ _; exact Nat.le_of_eq rfl) (hb hby at_44) (fun _ _ => ⟨rfl, e32, (by decide : 1 + 0 ≤ _), (by decide : 2 + 0 ≤ _)⟩)
      dsimp only [Pt.U, Pt.locs, Pt.cells, Pt.slots] at X33 l33 y33 z33 st33 hQ33
      subst l33 y33 z33
      obtain ⟨N33q, rfl, K33q, po33_0, po33_1⟩ := hQ33
      have N33 := Fr.app N0 N33q
      have K33 : Keep h0 T33.heap [] := K32.trans K33q (allS (Or.inr sz_b32) all0)
      have Z33 : n0 ≤ T33.heap.size := Nat.le_trans Z32 K33q.1
      refine own_go (fun t k => st33.trans k) ?_
      show own_Gl _ _ _ _ (T33.setTop (mkF m 47 #[.val (.long q0), .second, .val (.long q1), .second, .val (.long q2), .second, .val (.long q3), .second, .val (.int p0), .val (.long (if (p0 &&& (1 : Int32)) = (0 : Int32) then q2 else q0)), .second, .val (.long (if (p0 &&& (2 : Int32)) = (0 : Int32) then q3 else q1)), .second, .val (.int (((p0.toUInt32 >>> ((2 : Int32) &&& 31).toUInt32).toInt32) &&& (3 : Int32))), .unset, .unset, .unset, .unset, .unset] [(.ref b32)]))
      refine own_go (fun t k => XS.astore X33.here hx rfl (hb hby at_47) rfl rfl (l' := #[.val (.long q0), .second, .val (.long q1), .second, .val (.long q2), .second, .val (.long q3), .second, .val (.int p0), .val (.long (if (p0 &&& (1 : Int32)) = (0 : Int32) then q2 else q0)), .second, .val (.long (if (p0 &&& (2 : Int32)) = (0 : Int32) then q3 else q1)), .second, .val (.int (((p0.toUInt32 >>> ((2 : Int32) &&& 31).toUInt32).toInt32) &&& (3 : Int32))), .val (.ref b32), .unset, .unset, .unset, .unset]) rfl k) ?_
      show own_Gl _ _ _ _ (T33.setTop (mkF m 49 #[.val (.long q0), .second, .val (.long q1), .second, .val (.long q2), .second, .val (.long q3), .second, .val (.int p0), .val (.long (if (p0 &&& (1 : Int32)) = (0 : Int32) then q2 else q0)), .second, .val (.long (if (p0 &&& (2 : Int32)) = (0 : Int32) then q3 else q1)), .second, .val (.int (((p0.toUInt32 >>> ((2 : Int32) &&& 31).toUInt32).toInt32) &&& (3 : Int32))), .val (.ref b32), .unset, .unset, .unset, .unset] []))
      obtain ⟨T34, h34, X34, e34, E34, A34, D34, -, st34⟩ := newO X33 hx hZ hown (hw _ (List.mem_of_getElem? (i := 0) rfl)) (hw _ (List.mem_of_getElem? (i := 1) rfl)) (hw _ (List.mem_of_getElem? (i := 2) rfl)) rfl (g := (mkF m 49 #[.val (.long q0), .second, .val (.long q1), .second, .val (.long q2), .second, .val (.long q3), .second, .val (.int p0), .val (.long (if (p0 &&& (1 : Int32)) = (0 : Int32) then q2 else q0)), .second, .val (.long (if (p0 &&& (2 : Int32)) = (0 : Int32) then q3 else q1)), .second, .val (.int (((p0.toUInt32 >>> ((2 : Int32) &&& 31).toUInt32).toInt32) &&& (3 : Int32))), .val (.ref b32), .unset, .unset, .unset, .unset] [])) rfl (hb hby at_49) (by decide) (by decide)
      obtain ⟨b34, g34⟩ : ∃ z, z = T33.heap.size := ⟨_, rfl⟩
      rw [← g34] at A34 D34 st34
      have f_35 : Arv Z T33.heap ca kA (.object "java/lang/Long") (256 : Int32) vs .null := (P1.ext (own_ext K33))
      have ne_ca_b34 : ca ≠ b34 := Nat.ne_of_lt (Nat.lt_of_lt_of_le f_35.lt (Nat.le_of_eq g34.symm))
      have f_36 : Exa Z T33.heap b32 "com/example/omphale/omphale/KeyRange" := (A32.keep K33q)
      have ne_b32_b34 : b32 ≠ b34 := Nat.ne_of_lt (Nat.lt_of_lt_of_le f_36.lt (Nat.le_of_eq g34.symm))
      have ge_b34 : n0 ≤ b34 := Nat.le_trans Z33 (Nat.le_of_eq g34.symm)
      have sz_b34 : h0.size ≤ b34 := Nat.le_trans K33.1 (Nat.le_of_eq g34.symm)
      refine own_go (fun t k => st34 _ k) ?_
      have K34 : Keep h0 h34 [] := K33.ext E34
      have Z34 : n0 ≤ h34.size := Nat.le_trans Z33 E34.1
      have F34_15 : Fld Z h34 b34 "com/example/omphale/omphale/KeyRange" "startExclusive" "J" (.long (0 : Int64)) := D34 (Or.inr (hw _ (List.mem_of_getElem? (i := 15) rfl))) (ty := .long) (by decide)
      have F34_17 : Fld Z h34 b34 "com/example/omphale/omphale/KeyRange" "endInclusive" "J" (.long (0 : Int64)) := D34 (Or.inr (hw _ (List.mem_of_getElem? (i := 17) rfl))) (ty := .long) (by decide)
      show own_Gl _ _ _ _ (T34.setTop (mkF m 52 #[.val (.long q0), .second, .val (.long q1), .second, .val (.long q2), .second, .val (.long q3), .second, .val (.int p0), .val (.long (if (p0 &&& (1 : Int32)) = (0 : Int32) then q2 else q0)), .second, .val (.long (if (p0 &&& (2 : Int32)) = (0 : Int32) then q3 else q1)), .second, .val (.int (((p0.toUInt32 >>> ((2 : Int32) &&& 31).toUInt32).toInt32) &&& (3 : Int32))), .val (.ref b32), .unset, .unset, .unset, .unset] [(.ref b34)]))
      refine own_go (fun t k => XS.dup X34.here hx rfl (hb hby at_52) rfl rfl k) ?_
      show own_Gl _ _ _ _ (T34.setTop (mkF m 53 #[.val (.long q0), .second, .val (.long q1), .second, .val (.long q2), .second, .val (.long q3), .second, .val (.int p0), .val (.long (if (p0 &&& (1 : Int32)) = (0 : Int32) then q2 else q0)), .second, .val (.long (if (p0 &&& (2 : Int32)) = (0 : Int32) then q3 else q1)), .second, .val (.int (((p0.toUInt32 >>> ((2 : Int32) &&& 31).toUInt32).toInt32) &&& (3 : Int32))), .val (.ref b32), .unset, .unset, .unset, .unset] [(.ref b34), (.ref b34)]))
      refine own_go (fun t k => XS.lload X34.here hx rfl (hb hby at_53) rfl k) ?_
      show own_Gl _ _ _ _ (T34.setTop (mkF m 55 #[.val (.long q0), .second, .val (.long q1), .second, .val (.long q2), .second, .val (.long q3), .second, .val (.int p0), .val (.long (if (p0 &&& (1 : Int32)) = (0 : Int32) then q2 else q0)), .second, .val (.long (if (p0 &&& (2 : Int32)) = (0 : Int32) then q3 else q1)), .second, .val (.int (((p0.toUInt32 >>> ((2 : Int32) &&& 31).toUInt32).toInt32) &&& (3 : Int32))), .val (.ref b32), .unset, .unset, .unset, .unset] [(.long (if (p0 &&& (1 : Int32)) = (0 : Int32) then q2 else q0)), (.ref b34), (.ref b34)]))
      refine own_go (fun t k => XS.lload X34.here hx rfl (hb hby at_55) rfl k) ?_
      show own_Gl _ _ _ _ (T34.setTop (mkF m 57 #[.val (.long q0), .second, .val (.long q1), .second, .val (.long q2), .second, .val (.long q3), .second, .val (.int p0), .val (.long (if (p0 &&& (1 : Int32)) = (0 : Int32) then q2 else q0)), .second, .val (.long (if (p0 &&& (2 : Int32)) = (0 : Int32) then q3 else q1)), .second, .val (.int (((p0.toUInt32 >>> ((2 : Int32) &&& 31).toUInt32).toInt32) &&& (3 : Int32))), .val (.ref b32), .unset, .unset, .unset, .unset] [(.long (if (p0 &&& (2 : Int32)) = (0 : Int32) then q3 else q1)), (.long (if (p0 &&& (1 : Int32)) = (0 : Int32) then q2 else q0)), (.ref b34), (.ref b34)]))
      obtain ⟨_, _, ⟨T37, L37, kk37, nn37⟩, -, X37, ⟨Lc37, hQ37, l37, y37, z37⟩, st37⟩ := X34.specialBack hx (y := (⟨"com/example/omphale/omphale/KeyRange", "<init>", "(JJ)V"⟩ : MethodName)) rfl hown (mvT hZ (hw _ (List.mem_of_getElem? (i := 3) rfl))) (mvT hZ (hw _ (List.mem_of_getElem? (i := 4) rfl))) (mvT hZ (hw _ (List.mem_of_getElem? (i := 5) rfl))) (by decide) (backOf (W := 1) (rm1 l Z a0 hw [] b34 (if (p0 &&& (1 : Int32)) = (0 : Int32) then q2 else q0) (if (p0 &&& (2 : Int32)) = (0 : Int32) then q3 else q1) h34 n0 Z34 A34 F34_15 F34_17 ge_b34) hZ (hw _ (List.mem_of_getElem? (i := 5) rfl)) (hw _ (List.mem_of_getElem? (i := 2) rfl)) (by decide) (by decide)) (g := (mkF m 57 #[.val (.long q0), .second, .val (.long q1), .second, .val (.long q2), .second, .val (.long q3), .second, .val (.int p0), .val (.long (if (p0 &&& (1 : Int32)) = (0 : Int32) then q2 else q0)), .second, .val (.long (if (p0 &&& (2 : Int32)) = (0 : Int32) then q3 else q1)), .second, .val (.int (((p0.toUInt32 >>> ((2 : Int32) &&& 31).toUInt32).toInt32) &&& (3 : Int32))), .val (.ref b32), .unset, .unset, .unset, .unset] [(.long (if (p0 &&& (2 : Int32)) = (0 : Int32) then q3 else q1)), (.long (if (p0 &&& (1 : Int32)) = (0 : Int32) then q2 else q0)), (.ref b34), (.ref b34)])) rfl (by rw [hml]; rfl) (Steps.refl _) (a := b34) (argsL := [(.long (if (p0 &&& (1 : Int32)) = (0 : Int32) then q2 else q0)), (.long (if (p0 &&& (2 : Int32)) = (0 : Int32) then q3 else q1))]) (rest := [(.ref b34)]) (lenOf pd_2 rfl) rfl (by show 2 * 0 + _ ≤ _; exact Nat.le_of_eq rfl) (hb hby at_57) (fun _ _ => ⟨rfl, e34, (by decide : 2 + 0 ≤ _), (by decide : 4 + 0 ≤ _)⟩)
      dsimp only [Pt.U, Pt.locs, Pt.cells, Pt.slots] at X37 l37 y37 z37 st37 hQ37
      subst l37 y37 z37
      obtain ⟨N37q, rfl, K37q, po37_0, po37_1⟩ := hQ37
      have N37 := Fr.app N33 N37q
      have K37 : Keep h0 T37.heap [] := K34.trans K37q (allS (Or.inr sz_b34) all0)
      have Z37 : n0 ≤ T37.heap.size := Nat.le_trans Z34 K37q.1
      refine own_go (fun t k => st37.trans k) ?_
      show own_Gl _ _ _ _ (T37.setTop (mkF m 60 #[.val (.long q0), .second, .val (.long q1), .second, .val (.long q2), .second, .val (.long q3), .second, .val (.int p0), .val (.long (if (p0 &&& (1 : Int32)) = (0 : Int32) then q2 else q0)), .second, .val (.long (if (p0 &&& (2 : Int32)) = (0 : Int32) then q3 else q1)), .second, .val (.int (((p0.toUInt32 >>> ((2 : Int32) &&& 31).toUInt32).toInt32) &&& (3 : Int32))), .val (.ref b32), .unset, .unset, .unset, .unset] [(.ref b34)]))
      refine own_go (fun t k => XS.astore X37.here hx rfl (hb hby at_60) rfl rfl (l' := #[.val (.long q0), .second, .val (.long q1), .second, .val (.long q2), .second, .val (.long q3), .second, .val (.int p0), .val (.long (if (p0 &&& (1 : Int32)) = (0 : Int32) then q2 else q0)), .second, .val (.long (if (p0 &&& (2 : Int32)) = (0 : Int32) then q3 else q1)), .second, .val (.int (((p0.toUInt32 >>> ((2 : Int32) &&& 31).toUInt32).toInt32) &&& (3 : Int32))), .val (.ref b32), .val (.ref b34), .unset, .unset, .unset]) rfl k) ?_
      show own_Gl _ _ _ _ (T37.setTop (mkF m 62 #[.val (.long q0), .second, .val (.long q1), .second, .val (.long q2), .second, .val (.long q3), .second, .val (.int p0), .val (.long (if (p0 &&& (1 : Int32)) = (0 : Int32) then q2 else q0)), .second, .val (.long (if (p0 &&& (2 : Int32)) = (0 : Int32) then q3 else q1)), .second, .val (.int (((p0.toUInt32 >>> ((2 : Int32) &&& 31).toUInt32).toInt32) &&& (3 : Int32))), .val (.ref b32), .val (.ref b34), .unset, .unset, .unset] []))
      refine own_go (fun t k => XS.iload X37.here hx rfl (hb hby at_62) rfl k) ?_
      show own_Gl _ _ _ _ (T37.setTop (mkF m 64 #[.val (.long q0), .second, .val (.long q1), .second, .val (.long q2), .second, .val (.long q3), .second, .val (.int p0), .val (.long (if (p0 &&& (1 : Int32)) = (0 : Int32) then q2 else q0)), .second, .val (.long (if (p0 &&& (2 : Int32)) = (0 : Int32) then q3 else q1)), .second, .val (.int (((p0.toUInt32 >>> ((2 : Int32) &&& 31).toUInt32).toInt32) &&& (3 : Int32))), .val (.ref b32), .val (.ref b34), .unset, .unset, .unset] [(.int (((p0.toUInt32 >>> ((2 : Int32) &&& 31).toUInt32).toInt32) &&& (3 : Int32)))]))
      by_cases hc64_38 : (((p0.toUInt32 >>> ((2 : Int32) &&& 31).toUInt32).toInt32) &&& (3 : Int32)) = (0 : Int32)
      · refine own_go (fun t k => XS.ifNo X37.here hx rfl (hb hby at_64) rfl ((if0 _ _).trans (teq hc64_38).2) k) ?_
        show own_Gl _ _ _ _ (T37.setTop (mkF m 67 #[.val (.long q0), .second, .val (.long q1), .second, .val (.long q2), .second, .val (.long q3), .second, .val (.int p0), .val (.long (if (p0 &&& (1 : Int32)) = (0 : Int32) then q2 else q0)), .second, .val (.long (if (p0 &&& (2 : Int32)) = (0 : Int32) then q3 else q1)), .second, .val (.int (((p0.toUInt32 >>> ((2 : Int32) &&& 31).toUInt32).toInt32) &&& (3 : Int32))), .val (.ref b32), .val (.ref b34), .unset, .unset, .unset] []))
        refine own_go (fun t k => XS.aload X37.here hx rfl (hb hby at_67) rfl rfl k) ?_
        show own_Gl _ _ _ _ (T37.setTop (mkF m 69 #[.val (.long q0), .second, .val (.long q1), .second, .val (.long q2), .second, .val (.long q3), .second, .val (.int p0), .val (.long (if (p0 &&& (1 : Int32)) = (0 : Int32) then q2 else q0)), .second, .val (.long (if (p0 &&& (2 : Int32)) = (0 : Int32) then q3 else q1)), .second, .val (.int (((p0.toUInt32 >>> ((2 : Int32) &&& 31).toUInt32).toInt32) &&& (3 : Int32))), .val (.ref b32), .val (.ref b34), .unset, .unset, .unset] [(.ref b34)]))
        refine own_go (fun t k => XS.astore X37.here hx rfl (hb hby at_69) rfl rfl (l' := #[.val (.long q0), .second, .val (.long q1), .second, .val (.long q2), .second, .val (.long q3), .second, .val (.int p0), .val (.long (if (p0 &&& (1 : Int32)) = (0 : Int32) then q2 else q0)), .second, .val (.long (if (p0 &&& (2 : Int32)) = (0 : Int32) then q3 else q1)), .second, .val (.int (((p0.toUInt32 >>> ((2 : Int32) &&& 31).toUInt32).toInt32) &&& (3 : Int32))), .val (.ref b32), .val (.ref b34), .val (.ref b34), .unset, .unset]) rfl k) ?_
        show own_Gl _ _ _ _ (T37.setTop (mkF m 71 #[.val (.long q0), .second, .val (.long q1), .second, .val (.long q2), .second, .val (.long q3), .second, .val (.int p0), .val (.long (if (p0 &&& (1 : Int32)) = (0 : Int32) then q2 else q0)), .second, .val (.long (if (p0 &&& (2 : Int32)) = (0 : Int32) then q3 else q1)), .second, .val (.int (((p0.toUInt32 >>> ((2 : Int32) &&& 31).toUInt32).toInt32) &&& (3 : Int32))), .val (.ref b32), .val (.ref b34), .val (.ref b34), .unset, .unset] []))
        refine own_go (fun t k => XS.lloadN X37.here hx rfl (hb hby at_71) rfl k) ?_
        show own_Gl _ _ _ _ (T37.setTop (mkF m 72 #[.val (.long q0), .second, .val (.long q1), .second, .val (.long q2), .second, .val (.long q3), .second, .val (.int p0), .val (.long (if (p0 &&& (1 : Int32)) = (0 : Int32) then q2 else q0)), .second, .val (.long (if (p0 &&& (2 : Int32)) = (0 : Int32) then q3 else q1)), .second, .val (.int (((p0.toUInt32 >>> ((2 : Int32) &&& 31).toUInt32).toInt32) &&& (3 : Int32))), .val (.ref b32), .val (.ref b34), .val (.ref b34), .unset, .unset] [(.long q0)]))
        refine own_go (fun t k => XS.lload X37.here hx rfl (hb hby at_72) rfl k) ?_
        show own_Gl _ _ _ _ (T37.setTop (mkF m 74 #[.val (.long q0), .second, .val (.long q1), .second, .val (.long q2), .second, .val (.long q3), .second, .val (.int p0), .val (.long (if (p0 &&& (1 : Int32)) = (0 : Int32) then q2 else q0)), .second, .val (.long (if (p0 &&& (2 : Int32)) = (0 : Int32) then q3 else q1)), .second, .val (.int (((p0.toUInt32 >>> ((2 : Int32) &&& 31).toUInt32).toInt32) &&& (3 : Int32))), .val (.ref b32), .val (.ref b34), .val (.ref b34), .unset, .unset] [(.long (if (p0 &&& (1 : Int32)) = (0 : Int32) then q2 else q0)), (.long q0)]))
        refine own_go (fun t k => XS.lcmp X37.here hx rfl (hb hby at_74) rfl k) ?_
        show own_Gl _ _ _ _ (T37.setTop (mkF m 75 #[.val (.long q0), .second, .val (.long q1), .second, .val (.long q2), .second, .val (.long q3), .second, .val (.int p0), .val (.long (if (p0 &&& (1 : Int32)) = (0 : Int32) then q2 else q0)), .second, .val (.long (if (p0 &&& (2 : Int32)) = (0 : Int32) then q3 else q1)), .second, .val (.int (((p0.toUInt32 >>> ((2 : Int32) &&& 31).toUInt32).toInt32) &&& (3 : Int32))), .val (.ref b32), .val (.ref b34), .val (.ref b34), .unset, .unset] [(.int (lcmpW q0 (if (p0 &&& (1 : Int32)) = (0 : Int32) then q2 else q0)))]))
        refine own_jn (S := (T37.setTop (mkF m 90 #[.val (.long q0), .second, .val (.long q1), .second, .val (.long q2), .second, .val (.long q3), .second, .val (.int p0), .val (.long (if (p0 &&& (1 : Int32)) = (0 : Int32) then q2 else q0)), .second, .val (.long (if (p0 &&& (2 : Int32)) = (0 : Int32) then q3 else q1)), .second, .val (.int (((p0.toUInt32 >>> ((2 : Int32) &&& 31).toUInt32).toInt32) &&& (3 : Int32))), .val (.ref b32), .val (.ref b34), .val (.ref b34), .unset, .unset] [(.int (if q0 = (if (p0 &&& (1 : Int32)) = (0 : Int32) then q2 else q0) then (if q1 = (if (p0 &&& (2 : Int32)) = (0 : Int32) then q3 else q1) then (1 : Int32) else (0 : Int32)) else (0 : Int32)))]))) ?_ (fun J39 => ?_)
        · show own_Gl _ _ _ _ (T37.setTop (mkF m 90 #[.val (.long q0), .second, .val (.long q1), .second, .val (.long q2), .second, .val (.long q3), .second, .val (.int p0), .val (.long (if (p0 &&& (1 : Int32)) = (0 : Int32) then q2 else q0)), .second, .val (.long (if (p0 &&& (2 : Int32)) = (0 : Int32) then q3 else q1)), .second, .val (.int (((p0.toUInt32 >>> ((2 : Int32) &&& 31).toUInt32).toInt32) &&& (3 : Int32))), .val (.ref b32), .val (.ref b34), .val (.ref b34), .unset, .unset] [(.int (if q0 = (if (p0 &&& (1 : Int32)) = (0 : Int32) then q2 else q0) then (if q1 = (if (p0 &&& (2 : Int32)) = (0 : Int32) then q3 else q1) then (1 : Int32) else (0 : Int32)) else (0 : Int32)))]))
          refine own_go (fun t k => XS.istore X37.here hx rfl (hb hby at_90) rfl (l' := #[.val (.long q0), .second, .val (.long q1), .second, .val (.long q2), .second, .val (.long q3), .second, .val (.int p0), .val (.long (if (p0 &&& (1 : Int32)) = (0 : Int32) then q2 else q0)), .second, .val (.long (if (p0 &&& (2 : Int32)) = (0 : Int32) then q3 else q1)), .second, .val (.int (((p0.toUInt32 >>> ((2 : Int32) &&& 31).toUInt32).toInt32) &&& (3 : Int32))), .val (.ref b32), .val (.ref b34), .val (.ref b34), .val (.int (if q0 = (if (p0 &&& (1 : Int32)) = (0 : Int32) then q2 else q0) then (if q1 = (if (p0 &&& (2 : Int32)) = (0 : Int32) then q3 else q1) then (1 : Int32) else (0 : Int32)) else (0 : Int32))), .unset]) rfl k) ?_
          show own_Gl _ _ _ _ (T37.setTop (mkF m 92 #[.val (.long q0), .second, .val (.long q1), .second, .val (.long q2), .second, .val (.long q3), .second, .val (.int p0), .val (.long (if (p0 &&& (1 : Int32)) = (0 : Int32) then q2 else q0)), .second, .val (.long (if (p0 &&& (2 : Int32)) = (0 : Int32) then q3 else q1)), .second, .val (.int (((p0.toUInt32 >>> ((2 : Int32) &&& 31).toUInt32).toInt32) &&& (3 : Int32))), .val (.ref b32), .val (.ref b34), .val (.ref b34), .val (.int (if q0 = (if (p0 &&& (1 : Int32)) = (0 : Int32) then q2 else q0) then (if q1 = (if (p0 &&& (2 : Int32)) = (0 : Int32) then q3 else q1) then (1 : Int32) else (0 : Int32)) else (0 : Int32))), .unset] []))
          refine own_go (fun t k => XS.goto X37.here hx rfl (pc0 := 92) (pc' := 135) rfl (hb hby at_92) (by decide) (by decide) k) ?_
          show own_Gl _ _ _ _ (T37.setTop (mkF m 135 #[.val (.long q0), .second, .val (.long q1), .second, .val (.long q2), .second, .val (.long q3), .second, .val (.int p0), .val (.long (if (p0 &&& (1 : Int32)) = (0 : Int32) then q2 else q0)), .second, .val (.long (if (p0 &&& (2 : Int32)) = (0 : Int32) then q3 else q1)), .second, .val (.int (((p0.toUInt32 >>> ((2 : Int32) &&& 31).toUInt32).toInt32) &&& (3 : Int32))), .val (.ref b32), .val (.ref b34), .val (.ref b34), .val (.int (if q0 = (if (p0 &&& (1 : Int32)) = (0 : Int32) then q2 else q0) then (if q1 = (if (p0 &&& (2 : Int32)) = (0 : Int32) then q3 else q1) then (1 : Int32) else (0 : Int32)) else (0 : Int32))), .unset] []))
          refine own_go (fun t k => XS.aload X37.here hx rfl (hb hby at_135) rfl rfl k) ?_
          show own_Gl _ _ _ _ (T37.setTop (mkF m 137 #[.val (.long q0), .second, .val (.long q1), .second, .val (.long q2), .second, .val (.long q3), .second, .val (.int p0), .val (.long (if (p0 &&& (1 : Int32)) = (0 : Int32) then q2 else q0)), .second, .val (.long (if (p0 &&& (2 : Int32)) = (0 : Int32) then q3 else q1)), .second, .val (.int (((p0.toUInt32 >>> ((2 : Int32) &&& 31).toUInt32).toInt32) &&& (3 : Int32))), .val (.ref b32), .val (.ref b34), .val (.ref b34), .val (.int (if q0 = (if (p0 &&& (1 : Int32)) = (0 : Int32) then q2 else q0) then (if q1 = (if (p0 &&& (2 : Int32)) = (0 : Int32) then q3 else q1) then (1 : Int32) else (0 : Int32)) else (0 : Int32))), .unset] [(.ref b32)]))
          refine own_go (fun t k => XS.aload X37.here hx rfl (hb hby at_137) rfl rfl k) ?_
          show own_Gl _ _ _ _ (T37.setTop (mkF m 139 #[.val (.long q0), .second, .val (.long q1), .second, .val (.long q2), .second, .val (.long q3), .second, .val (.int p0), .val (.long (if (p0 &&& (1 : Int32)) = (0 : Int32) then q2 else q0)), .second, .val (.long (if (p0 &&& (2 : Int32)) = (0 : Int32) then q3 else q1)), .second, .val (.int (((p0.toUInt32 >>> ((2 : Int32) &&& 31).toUInt32).toInt32) &&& (3 : Int32))), .val (.ref b32), .val (.ref b34), .val (.ref b34), .val (.int (if q0 = (if (p0 &&& (1 : Int32)) = (0 : Int32) then q2 else q0) then (if q1 = (if (p0 &&& (2 : Int32)) = (0 : Int32) then q3 else q1) then (1 : Int32) else (0 : Int32)) else (0 : Int32))), .unset] [(.ref b34), (.ref b32)]))
          have f_40 : Fld Z T37.heap b32 "com/example/omphale/omphale/KeyRange" "startExclusive" "J" (.long q0) := ((po33_0.ext E34).keep K37q (ninS ne_b32_b34 nin0))
          have f_41 : Fld Z T37.heap b32 "com/example/omphale/omphale/KeyRange" "endInclusive" "J" (.long q1) := ((po33_1.ext E34).keep K37q (ninS ne_b32_b34 nin0))
          have f_42 : Exa Z T37.heap b34 "com/example/omphale/omphale/KeyRange" := (A34.keep K37q)
          have f_44 : Exa Z T37.heap b32 "com/example/omphale/omphale/KeyRange" := ((f_36.ext E34).keep K37q)
          obtain ⟨cq43, kq43, q43a, q43b, q43c⟩ := isOf hZ rfl f_44
          obtain ⟨_, _, ⟨T43, L43, kk43, nn43⟩, -, X43, ⟨Lc43, hQ43, l43, y43, z43⟩, st43⟩ := X37.virtualBack hx (y := (⟨"com/example/omphale/omphale/KeyRange", "equals", "(Ljava/lang/Object;)Z"⟩ : MethodName)) (z := (⟨"com/example/omphale/omphale/KeyRange", "equals", "(Ljava/lang/Object;)Z"⟩ : MethodName)) hown (mvT hZ (hw _ (List.mem_of_getElem? (i := 18) rfl))) (mvT hZ (hw _ (List.mem_of_getElem? (i := 19) rfl))) (notFace_of_selects (args := #[]) (mvT hZ (hw _ (List.mem_of_getElem? (i := 21) rfl)))) (mvT hZ (hw _ (List.mem_of_getElem? (i := 21) rfl))) (mvT hZ (hw _ (List.mem_of_getElem? (i := 20) rfl))) (by decide) (backOf (W := 0) (rmeqk l Z a0 hw [] b32 b34 q0 q1 (if (p0 &&& (1 : Int32)) = (0 : Int32) then q2 else q0) (if (p0 &&& (2 : Int32)) = (0 : Int32) then q3 else q1) T37.heap n0 Z37 f_40 f_41 f_42 po37_0 po37_1) hZ (hw _ (List.mem_of_getElem? (i := 22) rfl)) (hw _ (List.mem_of_getElem? (i := 2) rfl)) (by decide) (by decide)) q43a q43c (g := (mkF m 139 #[.val (.long q0), .second, .val (.long q1), .second, .val (.long q2), .second, .val (.long q3), .second, .val (.int p0), .val (.long (if (p0 &&& (1 : Int32)) = (0 : Int32) then q2 else q0)), .second, .val (.long (if (p0 &&& (2 : Int32)) = (0 : Int32) then q3 else q1)), .second, .val (.int (((p0.toUInt32 >>> ((2 : Int32) &&& 31).toUInt32).toInt32) &&& (3 : Int32))), .val (.ref b32), .val (.ref b34), .val (.ref b34), .val (.int (if q0 = (if (p0 &&& (1 : Int32)) = (0 : Int32) then q2 else q0) then (if q1 = (if (p0 &&& (2 : Int32)) = (0 : Int32) then q3 else q1) then (1 : Int32) else (0 : Int32)) else (0 : Int32))), .unset] [(.ref b34), (.ref b32)])) rfl (by rw [hml]; rfl) (Steps.refl _) (argsL := [(.ref b34)]) (rest := []) (lenOf pd_3 rfl) rfl (by show 2 * 0 + _ ≤ _; exact Nat.le_of_eq rfl) (hb hby at_139) (fun _ _ => ⟨rfl, rfl, (by decide : 2 + 0 ≤ _), (by decide : 4 + 0 ≤ _)⟩)
          dsimp only [Pt.U, Pt.locs, Pt.cells, Pt.slots] at X43 l43 y43 z43 st43 hQ43
          subst l43 y43 z43
          obtain ⟨N43q, rfl, hq43⟩ := hQ43
          have N43 := Fr.app N37 N43q
          refine own_go (fun t k => st43.trans k) ?_
          show own_Gl _ _ _ _ (T43.setTop (mkF m 142 #[.val (.long q0), .second, .val (.long q1), .second, .val (.long q2), .second, .val (.long q3), .second, .val (.int p0), .val (.long (if (p0 &&& (1 : Int32)) = (0 : Int32) then q2 else q0)), .second, .val (.long (if (p0 &&& (2 : Int32)) = (0 : Int32) then q3 else q1)), .second, .val (.int (((p0.toUInt32 >>> ((2 : Int32) &&& 31).toUInt32).toInt32) &&& (3 : Int32))), .val (.ref b32), .val (.ref b34), .val (.ref b34), .val (.int (if q0 = (if (p0 &&& (1 : Int32)) = (0 : Int32) then q2 else q0) then (if q1 = (if (p0 &&& (2 : Int32)) = (0 : Int32) then q3 else q1) then (1 : Int32) else (0 : Int32)) else (0 : Int32))), .unset] [(.int (feqk q0 q1 (if (p0 &&& (1 : Int32)) = (0 : Int32) then q2 else q0) (if (p0 &&& (2 : Int32)) = (0 : Int32) then q3 else q1)))]))
          refine own_go (fun t k => XS.istore X43.here hx rfl (hb hby at_142) rfl (l' := #[.val (.long q0), .second, .val (.long q1), .second, .val (.long q2), .second, .val (.long q3), .second, .val (.int p0), .val (.long (if (p0 &&& (1 : Int32)) = (0 : Int32) then q2 else q0)), .second, .val (.long (if (p0 &&& (2 : Int32)) = (0 : Int32) then q3 else q1)), .second, .val (.int (((p0.toUInt32 >>> ((2 : Int32) &&& 31).toUInt32).toInt32) &&& (3 : Int32))), .val (.ref b32), .val (.ref b34), .val (.ref b34), .val (.int (if q0 = (if (p0 &&& (1 : Int32)) = (0 : Int32) then q2 else q0) then (if q1 = (if (p0 &&& (2 : Int32)) = (0 : Int32) then q3 else q1) then (1 : Int32) else (0 : Int32)) else (0 : Int32))), .val (.int (feqk q0 q1 (if (p0 &&& (1 : Int32)) = (0 : Int32) then q2 else q0) (if (p0 &&& (2 : Int32)) = (0 : Int32) then q3 else q1)))]) rfl k) ?_
          show own_Gl _ _ _ _ (T43.setTop (mkF m 144 #[.val (.long q0), .second, .val (.long q1), .second, .val (.long q2), .second, .val (.long q3), .second, .val (.int p0), .val (.long (if (p0 &&& (1 : Int32)) = (0 : Int32) then q2 else q0)), .second, .val (.long (if (p0 &&& (2 : Int32)) = (0 : Int32) then q3 else q1)), .second, .val (.int (((p0.toUInt32 >>> ((2 : Int32) &&& 31).toUInt32).toInt32) &&& (3 : Int32))), .val (.ref b32), .val (.ref b34), .val (.ref b34), .val (.int (if q0 = (if (p0 &&& (1 : Int32)) = (0 : Int32) then q2 else q0) then (if q1 = (if (p0 &&& (2 : Int32)) = (0 : Int32) then q3 else q1) then (1 : Int32) else (0 : Int32)) else (0 : Int32))), .val (.int (feqk q0 q1 (if (p0 &&& (1 : Int32)) = (0 : Int32) then q2 else q0) (if (p0 &&& (2 : Int32)) = (0 : Int32) then q3 else q1)))] []))
          refine own_go (fun t k => XS.iload X43.here hx rfl (hb hby at_144) rfl k) ?_
          show own_Gl _ _ _ _ (T43.setTop (mkF m 146 #[.val (.long q0), .second, .val (.long q1), .second, .val (.long q2), .second, .val (.long q3), .second, .val (.int p0), .val (.long (if (p0 &&& (1 : Int32)) = (0 : Int32) then q2 else q0)), .second, .val (.long (if (p0 &&& (2 : Int32)) = (0 : Int32) then q3 else q1)), .second, .val (.int (((p0.toUInt32 >>> ((2 : Int32) &&& 31).toUInt32).toInt32) &&& (3 : Int32))), .val (.ref b32), .val (.ref b34), .val (.ref b34), .val (.int (if q0 = (if (p0 &&& (1 : Int32)) = (0 : Int32) then q2 else q0) then (if q1 = (if (p0 &&& (2 : Int32)) = (0 : Int32) then q3 else q1) then (1 : Int32) else (0 : Int32)) else (0 : Int32))), .val (.int (feqk q0 q1 (if (p0 &&& (1 : Int32)) = (0 : Int32) then q2 else q0) (if (p0 &&& (2 : Int32)) = (0 : Int32) then q3 else q1)))] [(.int (feqk q0 q1 (if (p0 &&& (1 : Int32)) = (0 : Int32) then q2 else q0) (if (p0 &&& (2 : Int32)) = (0 : Int32) then q3 else q1)))]))
          refine own_go (fun t k => XS.iload X43.here hx rfl (hb hby at_146) rfl k) ?_
          show own_Gl _ _ _ _ (T43.setTop (mkF m 148 #[.val (.long q0), .second, .val (.long q1), .second, .val (.long q2), .second, .val (.long q3), .second, .val (.int p0), .val (.long (if (p0 &&& (1 : Int32)) = (0 : Int32) then q2 else q0)), .second, .val (.long (if (p0 &&& (2 : Int32)) = (0 : Int32) then q3 else q1)), .second, .val (.int (((p0.toUInt32 >>> ((2 : Int32) &&& 31).toUInt32).toInt32) &&& (3 : Int32))), .val (.ref b32), .val (.ref b34), .val (.ref b34), .val (.int (if q0 = (if (p0 &&& (1 : Int32)) = (0 : Int32) then q2 else q0) then (if q1 = (if (p0 &&& (2 : Int32)) = (0 : Int32) then q3 else q1) then (1 : Int32) else (0 : Int32)) else (0 : Int32))), .val (.int (feqk q0 q1 (if (p0 &&& (1 : Int32)) = (0 : Int32) then q2 else q0) (if (p0 &&& (2 : Int32)) = (0 : Int32) then q3 else q1)))] [(.int (if q0 = (if (p0 &&& (1 : Int32)) = (0 : Int32) then q2 else q0) then (if q1 = (if (p0 &&& (2 : Int32)) = (0 : Int32) then q3 else q1) then (1 : Int32) else (0 : Int32)) else (0 : Int32))), (.int (feqk q0 q1 (if (p0 &&& (1 : Int32)) = (0 : Int32) then q2 else q0) (if (p0 &&& (2 : Int32)) = (0 : Int32) then q3 else q1)))]))
          by_cases hc148_45 : (feqk q0 q1 (if (p0 &&& (1 : Int32)) = (0 : Int32) then q2 else q0) (if (p0 &&& (2 : Int32)) = (0 : Int32) then q3 else q1)) = (if q0 = (if (p0 &&& (1 : Int32)) = (0 : Int32) then q2 else q0) then (if q1 = (if (p0 &&& (2 : Int32)) = (0 : Int32) then q3 else q1) then (1 : Int32) else (0 : Int32)) else (0 : Int32))
          · refine own_go (fun t k => XS.icmpYes X43.here hx rfl (pc0 := 148) (pc' := 153) rfl (hb hby at_148) rfl (teq hc148_45).1 (by decide) (by decide) k) ?_
            show own_Gl _ _ _ _ (T43.setTop (mkF m 153 #[.val (.long q0), .second, .val (.long q1), .second, .val (.long q2), .second, .val (.long q3), .second, .val (.int p0), .val (.long (if (p0 &&& (1 : Int32)) = (0 : Int32) then q2 else q0)), .second, .val (.long (if (p0 &&& (2 : Int32)) = (0 : Int32) then q3 else q1)), .second, .val (.int (((p0.toUInt32 >>> ((2 : Int32) &&& 31).toUInt32).toInt32) &&& (3 : Int32))), .val (.ref b32), .val (.ref b34), .val (.ref b34), .val (.int (if q0 = (if (p0 &&& (1 : Int32)) = (0 : Int32) then q2 else q0) then (if q1 = (if (p0 &&& (2 : Int32)) = (0 : Int32) then q3 else q1) then (1 : Int32) else (0 : Int32)) else (0 : Int32))), .val (.int (feqk q0 q1 (if (p0 &&& (1 : Int32)) = (0 : Int32) then q2 else q0) (if (p0 &&& (2 : Int32)) = (0 : Int32) then q3 else q1)))] []))
            refine own_go (fun t k => XS.iload X43.here hx rfl (hb hby at_153) rfl k) ?_
            show own_Gl _ _ _ _ (T43.setTop (mkF m 155 #[.val (.long q0), .second, .val (.long q1), .second, .val (.long q2), .second, .val (.long q3), .second, .val (.int p0), .val (.long (if (p0 &&& (1 : Int32)) = (0 : Int32) then q2 else q0)), .second, .val (.long (if (p0 &&& (2 : Int32)) = (0 : Int32) then q3 else q1)), .second, .val (.int (((p0.toUInt32 >>> ((2 : Int32) &&& 31).toUInt32).toInt32) &&& (3 : Int32))), .val (.ref b32), .val (.ref b34), .val (.ref b34), .val (.int (if q0 = (if (p0 &&& (1 : Int32)) = (0 : Int32) then q2 else q0) then (if q1 = (if (p0 &&& (2 : Int32)) = (0 : Int32) then q3 else q1) then (1 : Int32) else (0 : Int32)) else (0 : Int32))), .val (.int (feqk q0 q1 (if (p0 &&& (1 : Int32)) = (0 : Int32) then q2 else q0) (if (p0 &&& (2 : Int32)) = (0 : Int32) then q3 else q1)))] [(.int (((p0.toUInt32 >>> ((2 : Int32) &&& 31).toUInt32).toInt32) &&& (3 : Int32)))]))
            refine own_go (fun t k => XS.ifNo X43.here hx rfl (hb hby at_155) rfl ((if0 _ _).trans (teq hc64_38).2) k) ?_
            show own_Gl _ _ _ _ (T43.setTop (mkF m 158 #[.val (.long q0), .second, .val (.long q1), .second, .val (.long q2), .second, .val (.long q3), .second, .val (.int p0), .val (.long (if (p0 &&& (1 : Int32)) = (0 : Int32) then q2 else q0)), .second, .val (.long (if (p0 &&& (2 : Int32)) = (0 : Int32) then q3 else q1)), .second, .val (.int (((p0.toUInt32 >>> ((2 : Int32) &&& 31).toUInt32).toInt32) &&& (3 : Int32))), .val (.ref b32), .val (.ref b34), .val (.ref b34), .val (.int (if q0 = (if (p0 &&& (1 : Int32)) = (0 : Int32) then q2 else q0) then (if q1 = (if (p0 &&& (2 : Int32)) = (0 : Int32) then q3 else q1) then (1 : Int32) else (0 : Int32)) else (0 : Int32))), .val (.int (feqk q0 q1 (if (p0 &&& (1 : Int32)) = (0 : Int32) then q2 else q0) (if (p0 &&& (2 : Int32)) = (0 : Int32) then q3 else q1)))] []))
            refine own_go (fun t k => XS.aload X43.here hx rfl (hb hby at_158) rfl rfl k) ?_
            show own_Gl _ _ _ _ (T43.setTop (mkF m 160 #[.val (.long q0), .second, .val (.long q1), .second, .val (.long q2), .second, .val (.long q3), .second, .val (.int p0), .val (.long (if (p0 &&& (1 : Int32)) = (0 : Int32) then q2 else q0)), .second, .val (.long (if (p0 &&& (2 : Int32)) = (0 : Int32) then q3 else q1)), .second, .val (.int (((p0.toUInt32 >>> ((2 : Int32) &&& 31).toUInt32).toInt32) &&& (3 : Int32))), .val (.ref b32), .val (.ref b34), .val (.ref b34), .val (.int (if q0 = (if (p0 &&& (1 : Int32)) = (0 : Int32) then q2 else q0) then (if q1 = (if (p0 &&& (2 : Int32)) = (0 : Int32) then q3 else q1) then (1 : Int32) else (0 : Int32)) else (0 : Int32))), .val (.int (feqk q0 q1 (if (p0 &&& (1 : Int32)) = (0 : Int32) then q2 else q0) (if (p0 &&& (2 : Int32)) = (0 : Int32) then q3 else q1)))] [(.ref b34)]))
            refine own_go (fun t k => XS.aload X43.here hx rfl (hb hby at_160) rfl rfl k) ?_
            show own_Gl _ _ _ _ (T43.setTop (mkF m 162 #[.val (.long q0), .second, .val (.long q1), .second, .val (.long q2), .second, .val (.long q3), .second, .val (.int p0), .val (.long (if (p0 &&& (1 : Int32)) = (0 : Int32) then q2 else q0)), .second, .val (.long (if (p0 &&& (2 : Int32)) = (0 : Int32) then q3 else q1)), .second, .val (.int (((p0.toUInt32 >>> ((2 : Int32) &&& 31).toUInt32).toInt32) &&& (3 : Int32))), .val (.ref b32), .val (.ref b34), .val (.ref b34), .val (.int (if q0 = (if (p0 &&& (1 : Int32)) = (0 : Int32) then q2 else q0) then (if q1 = (if (p0 &&& (2 : Int32)) = (0 : Int32) then q3 else q1) then (1 : Int32) else (0 : Int32)) else (0 : Int32))), .val (.int (feqk q0 q1 (if (p0 &&& (1 : Int32)) = (0 : Int32) then q2 else q0) (if (p0 &&& (2 : Int32)) = (0 : Int32) then q3 else q1)))] [(.ref b32), (.ref b34)]))
            obtain ⟨cq46, kq46, q46a, q46b, q46c⟩ := isOf hZ hq43 f_42
            obtain ⟨_, _, ⟨T46, L46, kk46, nn46⟩, -, X46, ⟨Lc46, hQ46, l46, y46, z46⟩, st46⟩ := X43.virtualBack hx (y := (⟨"com/example/omphale/omphale/KeyRange", "equals", "(Ljava/lang/Object;)Z"⟩ : MethodName)) (z := (⟨"com/example/omphale/omphale/KeyRange", "equals", "(Ljava/lang/Object;)Z"⟩ : MethodName)) hown (mvT hZ (hw _ (List.mem_of_getElem? (i := 18) rfl))) (mvT hZ (hw _ (List.mem_of_getElem? (i := 19) rfl))) (notFace_of_selects (args := #[]) (mvT hZ (hw _ (List.mem_of_getElem? (i := 21) rfl)))) (mvT hZ (hw _ (List.mem_of_getElem? (i := 21) rfl))) (mvT hZ (hw _ (List.mem_of_getElem? (i := 20) rfl))) (by decide) (backOf (W := 0) (rmeqk l Z a0 hw [] b34 b32 (if (p0 &&& (1 : Int32)) = (0 : Int32) then q2 else q0) (if (p0 &&& (2 : Int32)) = (0 : Int32) then q3 else q1) q0 q1 T37.heap n0 Z37 po37_0 po37_1 f_44 f_40 f_41) hZ (hw _ (List.mem_of_getElem? (i := 22) rfl)) (hw _ (List.mem_of_getElem? (i := 2) rfl)) (by decide) (by decide)) q46a q46c (g := (mkF m 162 #[.val (.long q0), .second, .val (.long q1), .second, .val (.long q2), .second, .val (.long q3), .second, .val (.int p0), .val (.long (if (p0 &&& (1 : Int32)) = (0 : Int32) then q2 else q0)), .second, .val (.long (if (p0 &&& (2 : Int32)) = (0 : Int32) then q3 else q1)), .second, .val (.int (((p0.toUInt32 >>> ((2 : Int32) &&& 31).toUInt32).toInt32) &&& (3 : Int32))), .val (.ref b32), .val (.ref b34), .val (.ref b34), .val (.int (if q0 = (if (p0 &&& (1 : Int32)) = (0 : Int32) then q2 else q0) then (if q1 = (if (p0 &&& (2 : Int32)) = (0 : Int32) then q3 else q1) then (1 : Int32) else (0 : Int32)) else (0 : Int32))), .val (.int (feqk q0 q1 (if (p0 &&& (1 : Int32)) = (0 : Int32) then q2 else q0) (if (p0 &&& (2 : Int32)) = (0 : Int32) then q3 else q1)))] [(.ref b32), (.ref b34)])) rfl (by rw [hml]; rfl) (Steps.refl _) (argsL := [(.ref b32)]) (rest := []) (lenOf pd_3 rfl) rfl (by show 2 * 0 + _ ≤ _; exact Nat.le_of_eq rfl) (hb hby at_162) (fun _ _ => ⟨rfl, hq43, (by decide : 2 + 0 ≤ _), (by decide : 4 + 0 ≤ _)⟩)
            dsimp only [Pt.U, Pt.locs, Pt.cells, Pt.slots] at X46 l46 y46 z46 st46 hQ46
            subst l46 y46 z46
            obtain ⟨N46q, rfl, hq46⟩ := hQ46
            have N46 := Fr.app N43 N46q
            refine own_go (fun t k => st46.trans k) ?_
            show own_Gl _ _ _ _ (T46.setTop (mkF m 165 #[.val (.long q0), .second, .val (.long q1), .second, .val (.long q2), .second, .val (.long q3), .second, .val (.int p0), .val (.long (if (p0 &&& (1 : Int32)) = (0 : Int32) then q2 else q0)), .second, .val (.long (if (p0 &&& (2 : Int32)) = (0 : Int32) then q3 else q1)), .second, .val (.int (((p0.toUInt32 >>> ((2 : Int32) &&& 31).toUInt32).toInt32) &&& (3 : Int32))), .val (.ref b32), .val (.ref b34), .val (.ref b34), .val (.int (if q0 = (if (p0 &&& (1 : Int32)) = (0 : Int32) then q2 else q0) then (if q1 = (if (p0 &&& (2 : Int32)) = (0 : Int32) then q3 else q1) then (1 : Int32) else (0 : Int32)) else (0 : Int32))), .val (.int (feqk q0 q1 (if (p0 &&& (1 : Int32)) = (0 : Int32) then q2 else q0) (if (p0 &&& (2 : Int32)) = (0 : Int32) then q3 else q1)))] [(.int (feqk (if (p0 &&& (1 : Int32)) = (0 : Int32) then q2 else q0) (if (p0 &&& (2 : Int32)) = (0 : Int32) then q3 else q1) q0 q1))]))
            refine own_go (fun t k => XS.iload X46.here hx rfl (hb hby at_165) rfl k) ?_
            show own_Gl _ _ _ _ (T46.setTop (mkF m 167 #[.val (.long q0), .second, .val (.long q1), .second, .val (.long q2), .second, .val (.long q3), .second, .val (.int p0), .val (.long (if (p0 &&& (1 : Int32)) = (0 : Int32) then q2 else q0)), .second, .val (.long (if (p0 &&& (2 : Int32)) = (0 : Int32) then q3 else q1)), .second, .val (.int (((p0.toUInt32 >>> ((2 : Int32) &&& 31).toUInt32).toInt32) &&& (3 : Int32))), .val (.ref b32), .val (.ref b34), .val (.ref b34), .val (.int (if q0 = (if (p0 &&& (1 : Int32)) = (0 : Int32) then q2 else q0) then (if q1 = (if (p0 &&& (2 : Int32)) = (0 : Int32) then q3 else q1) then (1 : Int32) else (0 : Int32)) else (0 : Int32))), .val (.int (feqk q0 q1 (if (p0 &&& (1 : Int32)) = (0 : Int32) then q2 else q0) (if (p0 &&& (2 : Int32)) = (0 : Int32) then q3 else q1)))] [(.int (if q0 = (if (p0 &&& (1 : Int32)) = (0 : Int32) then q2 else q0) then (if q1 = (if (p0 &&& (2 : Int32)) = (0 : Int32) then q3 else q1) then (1 : Int32) else (0 : Int32)) else (0 : Int32))), (.int (feqk (if (p0 &&& (1 : Int32)) = (0 : Int32) then q2 else q0) (if (p0 &&& (2 : Int32)) = (0 : Int32) then q3 else q1) q0 q1))]))
            by_cases hc167_47 : (feqk (if (p0 &&& (1 : Int32)) = (0 : Int32) then q2 else q0) (if (p0 &&& (2 : Int32)) = (0 : Int32) then q3 else q1) q0 q1) = (if q0 = (if (p0 &&& (1 : Int32)) = (0 : Int32) then q2 else q0) then (if q1 = (if (p0 &&& (2 : Int32)) = (0 : Int32) then q3 else q1) then (1 : Int32) else (0 : Int32)) else (0 : Int32))
            · refine own_go (fun t k => XS.icmpNo X46.here hx rfl (hb hby at_167) rfl (teq hc167_47).2 k) ?_
              show own_Gl _ _ _ _ (T46.setTop (mkF m 170 #[.val (.long q0), .second, .val (.long q1), .second, .val (.long q2), .second, .val (.long q3), .second, .val (.int p0), .val (.long (if (p0 &&& (1 : Int32)) = (0 : Int32) then q2 else q0)), .second, .val (.long (if (p0 &&& (2 : Int32)) = (0 : Int32) then q3 else q1)), .second, .val (.int (((p0.toUInt32 >>> ((2 : Int32) &&& 31).toUInt32).toInt32) &&& (3 : Int32))), .val (.ref b32), .val (.ref b34), .val (.ref b34), .val (.int (if q0 = (if (p0 &&& (1 : Int32)) = (0 : Int32) then q2 else q0) then (if q1 = (if (p0 &&& (2 : Int32)) = (0 : Int32) then q3 else q1) then (1 : Int32) else (0 : Int32)) else (0 : Int32))), .val (.int (feqk q0 q1 (if (p0 &&& (1 : Int32)) = (0 : Int32) then q2 else q0) (if (p0 &&& (2 : Int32)) = (0 : Int32) then q3 else q1)))] []))
              refine own_go (fun t k => XS.iconst X46.here hx rfl (hb hby at_170) k) ?_
              show own_Gl _ _ _ _ (T46.setTop (mkF m 171 #[.val (.long q0), .second, .val (.long q1), .second, .val (.long q2), .second, .val (.long q3), .second, .val (.int p0), .val (.long (if (p0 &&& (1 : Int32)) = (0 : Int32) then q2 else q0)), .second, .val (.long (if (p0 &&& (2 : Int32)) = (0 : Int32) then q3 else q1)), .second, .val (.int (((p0.toUInt32 >>> ((2 : Int32) &&& 31).toUInt32).toInt32) &&& (3 : Int32))), .val (.ref b32), .val (.ref b34), .val (.ref b34), .val (.int (if q0 = (if (p0 &&& (1 : Int32)) = (0 : Int32) then q2 else q0) then (if q1 = (if (p0 &&& (2 : Int32)) = (0 : Int32) then q3 else q1) then (1 : Int32) else (0 : Int32)) else (0 : Int32))), .val (.int (feqk q0 q1 (if (p0 &&& (1 : Int32)) = (0 : Int32) then q2 else q0) (if (p0 &&& (2 : Int32)) = (0 : Int32) then q3 else q1)))] [(.int (1 : Int32))]))
              refine own_go (fun t k => XS.goto X46.here hx rfl (pc0 := 171) (pc' := 175) rfl (hb hby at_171) (by decide) (by decide) k) ?_
              show own_Gl _ _ _ _ (T46.setTop (mkF m 175 #[.val (.long q0), .second, .val (.long q1), .second, .val (.long q2), .second, .val (.long q3), .second, .val (.int p0), .val (.long (if (p0 &&& (1 : Int32)) = (0 : Int32) then q2 else q0)), .second, .val (.long (if (p0 &&& (2 : Int32)) = (0 : Int32) then q3 else q1)), .second, .val (.int (((p0.toUInt32 >>> ((2 : Int32) &&& 31).toUInt32).toInt32) &&& (3 : Int32))), .val (.ref b32), .val (.ref b34), .val (.ref b34), .val (.int (if q0 = (if (p0 &&& (1 : Int32)) = (0 : Int32) then q2 else q0) then (if q1 = (if (p0 &&& (2 : Int32)) = (0 : Int32) then q3 else q1) then (1 : Int32) else (0 : Int32)) else (0 : Int32))), .val (.int (feqk q0 q1 (if (p0 &&& (1 : Int32)) = (0 : Int32) then q2 else q0) (if (p0 &&& (2 : Int32)) = (0 : Int32) then q3 else q1)))] [(.int (1 : Int32))]))
              obtain ⟨fs, hr, hrun, hended, hW, hsame⟩ := X46.leave (v := some (.int (1 : Int32))) (fun h => by rw [Bd.returns] at h; cases h)
              refine own_fin (retN X46 hx (t := .boolean) Bd.returns (by simp) (hb hby at_175) hr) hrun hended ⟨_, _, rfl, ?_, ⟨_, rfl⟩, hW, hsame.mono (by decide) (by decide)⟩
              show Q0 Z q0 q1 q2 q3 p0 ca kA vs h0 n0 _ T46.heap _
              rw [hq46]
              exact ⟨N46, by rw [f0, if_pos hc64_38, if_pos hc148_45, if_pos hc167_47]⟩
            · refine own_go (fun t k => XS.icmpYes X46.here hx rfl (pc0 := 167) (pc' := 174) rfl (hb hby at_167) rfl (feq hc167_47).2 (by decide) (by decide) k) ?_
              show own_Gl _ _ _ _ (T46.setTop (mkF m 174 #[.val (.long q0), .second, .val (.long q1), .second, .val (.long q2), .second, .val (.long q3), .second, .val (.int p0), .val (.long (if (p0 &&& (1 : Int32)) = (0 : Int32) then q2 else q0)), .second, .val (.long (if (p0 &&& (2 : Int32)) = (0 : Int32) then q3 else q1)), .second, .val (.int (((p0.toUInt32 >>> ((2 : Int32) &&& 31).toUInt32).toInt32) &&& (3 : Int32))), .val (.ref b32), .val (.ref b34), .val (.ref b34), .val (.int (if q0 = (if (p0 &&& (1 : Int32)) = (0 : Int32) then q2 else q0) then (if q1 = (if (p0 &&& (2 : Int32)) = (0 : Int32) then q3 else q1) then (1 : Int32) else (0 : Int32)) else (0 : Int32))), .val (.int (feqk q0 q1 (if (p0 &&& (1 : Int32)) = (0 : Int32) then q2 else q0) (if (p0 &&& (2 : Int32)) = (0 : Int32) then q3 else q1)))] []))
              refine own_go (fun t k => XS.iconst X46.here hx rfl (hb hby at_174) k) ?_
              show own_Gl _ _ _ _ (T46.setTop (mkF m 175 #[.val (.long q0), .second, .val (.long q1), .second, .val (.long q2), .second, .val (.long q3), .second, .val (.int p0), .val (.long (if (p0 &&& (1 : Int32)) = (0 : Int32) then q2 else q0)), .second, .val (.long (if (p0 &&& (2 : Int32)) = (0 : Int32) then q3 else q1)), .second, .val (.int (((p0.toUInt32 >>> ((2 : Int32) &&& 31).toUInt32).toInt32) &&& (3 : Int32))), .val (.ref b32), .val (.ref b34), .val (.ref b34), .val (.int (if q0 = (if (p0 &&& (1 : Int32)) = (0 : Int32) then q2 else q0) then (if q1 = (if (p0 &&& (2 : Int32)) = (0 : Int32) then q3 else q1) then (1 : Int32) else (0 : Int32)) else (0 : Int32))), .val (.int (feqk q0 q1 (if (p0 &&& (1 : Int32)) = (0 : Int32) then q2 else q0) (if (p0 &&& (2 : Int32)) = (0 : Int32) then q3 else q1)))] [(.int (0 : Int32))]))
              obtain ⟨fs, hr, hrun, hended, hW, hsame⟩ := X46.leave (v := some (.int (0 : Int32))) (fun h => by rw [Bd.returns] at h; cases h)
              refine own_fin (retN X46 hx (t := .boolean) Bd.returns (by simp) (hb hby at_175) hr) hrun hended ⟨_, _, rfl, ?_, ⟨_, rfl⟩, hW, hsame.mono (by decide) (by decide)⟩
              show Q0 Z q0 q1 q2 q3 p0 ca kA vs h0 n0 _ T46.heap _
              rw [hq46]
              exact ⟨N46, by rw [f0, if_pos hc64_38, if_pos hc148_45, if_neg hc167_47]⟩
          · refine own_go (fun t k => XS.icmpNo X43.here hx rfl (hb hby at_148) rfl (feq hc148_45).1 k) ?_
            show own_Gl _ _ _ _ (T43.setTop (mkF m 151 #[.val (.long q0), .second, .val (.long q1), .second, .val (.long q2), .second, .val (.long q3), .second, .val (.int p0), .val (.long (if (p0 &&& (1 : Int32)) = (0 : Int32) then q2 else q0)), .second, .val (.long (if (p0 &&& (2 : Int32)) = (0 : Int32) then q3 else q1)), .second, .val (.int (((p0.toUInt32 >>> ((2 : Int32) &&& 31).toUInt32).toInt32) &&& (3 : Int32))), .val (.ref b32), .val (.ref b34), .val (.ref b34), .val (.int (if q0 = (if (p0 &&& (1 : Int32)) = (0 : Int32) then q2 else q0) then (if q1 = (if (p0 &&& (2 : Int32)) = (0 : Int32) then q3 else q1) then (1 : Int32) else (0 : Int32)) else (0 : Int32))), .val (.int (feqk q0 q1 (if (p0 &&& (1 : Int32)) = (0 : Int32) then q2 else q0) (if (p0 &&& (2 : Int32)) = (0 : Int32) then q3 else q1)))] []))
            refine own_go (fun t k => XS.iconst X43.here hx rfl (hb hby at_151) k) ?_
            show own_Gl _ _ _ _ (T43.setTop (mkF m 152 #[.val (.long q0), .second, .val (.long q1), .second, .val (.long q2), .second, .val (.long q3), .second, .val (.int p0), .val (.long (if (p0 &&& (1 : Int32)) = (0 : Int32) then q2 else q0)), .second, .val (.long (if (p0 &&& (2 : Int32)) = (0 : Int32) then q3 else q1)), .second, .val (.int (((p0.toUInt32 >>> ((2 : Int32) &&& 31).toUInt32).toInt32) &&& (3 : Int32))), .val (.ref b32), .val (.ref b34), .val (.ref b34), .val (.int (if q0 = (if (p0 &&& (1 : Int32)) = (0 : Int32) then q2 else q0) then (if q1 = (if (p0 &&& (2 : Int32)) = (0 : Int32) then q3 else q1) then (1 : Int32) else (0 : Int32)) else (0 : Int32))), .val (.int (feqk q0 q1 (if (p0 &&& (1 : Int32)) = (0 : Int32) then q2 else q0) (if (p0 &&& (2 : Int32)) = (0 : Int32) then q3 else q1)))] [(.int (0 : Int32))]))
            obtain ⟨fs, hr, hrun, hended, hW, hsame⟩ := X43.leave (v := some (.int (0 : Int32))) (fun h => by rw [Bd.returns] at h; cases h)
            refine own_fin (retN X43 hx (t := .boolean) Bd.returns (by simp) (hb hby at_152) hr) hrun hended ⟨_, _, rfl, ?_, ⟨_, rfl⟩, hW, hsame.mono (by decide) (by decide)⟩
            show Q0 Z q0 q1 q2 q3 p0 ca kA vs h0 n0 _ T43.heap _
            rw [hq43]
            exact ⟨N43, by rw [f0, if_pos hc64_38, if_neg hc148_45]⟩
        · by_cases hc75_48 : q0 = (if (p0 &&& (1 : Int32)) = (0 : Int32) then q2 else q0)
          · refine own_go (fun t k => XS.ifNo X37.here hx rfl (hb hby at_75) rfl ((if0 _ _).trans (teq ((lw_eq q0 (if (p0 &&& (1 : Int32)) = (0 : Int32) then q2 else q0)).mpr hc75_48)).2) k) ?_
            show own_Gl _ _ _ _ (T37.setTop (mkF m 78 #[.val (.long q0), .second, .val (.long q1), .second, .val (.long q2), .second, .val (.long q3), .second, .val (.int p0), .val (.long (if (p0 &&& (1 : Int32)) = (0 : Int32) then q2 else q0)), .second, .val (.long (if (p0 &&& (2 : Int32)) = (0 : Int32) then q3 else q1)), .second, .val (.int (((p0.toUInt32 >>> ((2 : Int32) &&& 31).toUInt32).toInt32) &&& (3 : Int32))), .val (.ref b32), .val (.ref b34), .val (.ref b34), .unset, .unset] []))
            refine own_go (fun t k => XS.lloadN X37.here hx rfl (hb hby at_78) rfl k) ?_
            show own_Gl _ _ _ _ (T37.setTop (mkF m 79 #[.val (.long q0), .second, .val (.long q1), .second, .val (.long q2), .second, .val (.long q3), .second, .val (.int p0), .val (.long (if (p0 &&& (1 : Int32)) = (0 : Int32) then q2 else q0)), .second, .val (.long (if (p0 &&& (2 : Int32)) = (0 : Int32) then q3 else q1)), .second, .val (.int (((p0.toUInt32 >>> ((2 : Int32) &&& 31).toUInt32).toInt32) &&& (3 : Int32))), .val (.ref b32), .val (.ref b34), .val (.ref b34), .unset, .unset] [(.long q1)]))
            refine own_go (fun t k => XS.lload X37.here hx rfl (hb hby at_79) rfl k) ?_
            show own_Gl _ _ _ _ (T37.setTop (mkF m 81 #[.val (.long q0), .second, .val (.long q1), .second, .val (.long q2), .second, .val (.long q3), .second, .val (.int p0), .val (.long (if (p0 &&& (1 : Int32)) = (0 : Int32) then q2 else q0)), .second, .val (.long (if (p0 &&& (2 : Int32)) = (0 : Int32) then q3 else q1)), .second, .val (.int (((p0.toUInt32 >>> ((2 : Int32) &&& 31).toUInt32).toInt32) &&& (3 : Int32))), .val (.ref b32), .val (.ref b34), .val (.ref b34), .unset, .unset] [(.long (if (p0 &&& (2 : Int32)) = (0 : Int32) then q3 else q1)), (.long q1)]))
            refine own_go (fun t k => XS.lcmp X37.here hx rfl (hb hby at_81) rfl k) ?_
            show own_Gl _ _ _ _ (T37.setTop (mkF m 82 #[.val (.long q0), .second, .val (.long q1), .second, .val (.long q2), .second, .val (.long q3), .second, .val (.int p0), .val (.long (if (p0 &&& (1 : Int32)) = (0 : Int32) then q2 else q0)), .second, .val (.long (if (p0 &&& (2 : Int32)) = (0 : Int32) then q3 else q1)), .second, .val (.int (((p0.toUInt32 >>> ((2 : Int32) &&& 31).toUInt32).toInt32) &&& (3 : Int32))), .val (.ref b32), .val (.ref b34), .val (.ref b34), .unset, .unset] [(.int (lcmpW q1 (if (p0 &&& (2 : Int32)) = (0 : Int32) then q3 else q1)))]))
            by_cases hc82_49 : q1 = (if (p0 &&& (2 : Int32)) = (0 : Int32) then q3 else q1)
            · refine own_go (fun t k => XS.ifNo X37.here hx rfl (hb hby at_82) rfl ((if0 _ _).trans (teq ((lw_eq q1 (if (p0 &&& (2 : Int32)) = (0 : Int32) then q3 else q1)).mpr hc82_49)).2) k) ?_
              show own_Gl _ _ _ _ (T37.setTop (mkF m 85 #[.val (.long q0), .second, .val (.long q1), .second, .val (.long q2), .second, .val (.long q3), .second, .val (.int p0), .val (.long (if (p0 &&& (1 : Int32)) = (0 : Int32) then q2 else q0)), .second, .val (.long (if (p0 &&& (2 : Int32)) = (0 : Int32) then q3 else q1)), .second, .val (.int (((p0.toUInt32 >>> ((2 : Int32) &&& 31).toUInt32).toInt32) &&& (3 : Int32))), .val (.ref b32), .val (.ref b34), .val (.ref b34), .unset, .unset] []))
              refine own_go (fun t k => XS.iconst X37.here hx rfl (hb hby at_85) k) ?_
              show own_Gl _ _ _ _ (T37.setTop (mkF m 86 #[.val (.long q0), .second, .val (.long q1), .second, .val (.long q2), .second, .val (.long q3), .second, .val (.int p0), .val (.long (if (p0 &&& (1 : Int32)) = (0 : Int32) then q2 else q0)), .second, .val (.long (if (p0 &&& (2 : Int32)) = (0 : Int32) then q3 else q1)), .second, .val (.int (((p0.toUInt32 >>> ((2 : Int32) &&& 31).toUInt32).toInt32) &&& (3 : Int32))), .val (.ref b32), .val (.ref b34), .val (.ref b34), .unset, .unset] [(.int (1 : Int32))]))
              refine own_go (fun t k => XS.goto X37.here hx rfl (pc0 := 86) (pc' := 90) rfl (hb hby at_86) (by decide) (by decide) k) ?_
              show own_Gl _ _ _ _ (T37.setTop (mkF m 90 #[.val (.long q0), .second, .val (.long q1), .second, .val (.long q2), .second, .val (.long q3), .second, .val (.int p0), .val (.long (if (p0 &&& (1 : Int32)) = (0 : Int32) then q2 else q0)), .second, .val (.long (if (p0 &&& (2 : Int32)) = (0 : Int32) then q3 else q1)), .second, .val (.int (((p0.toUInt32 >>> ((2 : Int32) &&& 31).toUInt32).toInt32) &&& (3 : Int32))), .val (.ref b32), .val (.ref b34), .val (.ref b34), .unset, .unset] [(.int (1 : Int32))]))
              simp only [if_pos hc75_48, if_pos hc82_49] at J39
              exact J39
            · refine own_go (fun t k => XS.ifYes X37.here hx rfl (pc0 := 82) (pc' := 89) rfl (hb hby at_82) rfl ((if0 _ _).trans (feq (fun q => hc82_49 ((lw_eq q1 (if (p0 &&& (2 : Int32)) = (0 : Int32) then q3 else q1)).mp q))).2) (by decide) (by decide) k) ?_
              show own_Gl _ _ _ _ (T37.setTop (mkF m 89 #[.val (.long q0), .second, .val (.long q1), .second, .val (.long q2), .second, .val (.long q3), .second, .val (.int p0), .val (.long (if (p0 &&& (1 : Int32)) = (0 : Int32) then q2 else q0)), .second, .val (.long (if (p0 &&& (2 : Int32)) = (0 : Int32) then q3 else q1)), .second, .val (.int (((p0.toUInt32 >>> ((2 : Int32) &&& 31).toUInt32).toInt32) &&& (3 : Int32))), .val (.ref b32), .val (.ref b34), .val (.ref b34), .unset, .unset] []))
              refine own_go (fun t k => XS.iconst X37.here hx rfl (hb hby at_89) k) ?_
              show own_Gl _ _ _ _ (T37.setTop (mkF m 90 #[.val (.long q0), .second, .val (.long q1), .second, .val (.long q2), .second, .val (.long q3), .second, .val (.int p0), .val (.long (if (p0 &&& (1 : Int32)) = (0 : Int32) then q2 else q0)), .second, .val (.long (if (p0 &&& (2 : Int32)) = (0 : Int32) then q3 else q1)), .second, .val (.int (((p0.toUInt32 >>> ((2 : Int32) &&& 31).toUInt32).toInt32) &&& (3 : Int32))), .val (.ref b32), .val (.ref b34), .val (.ref b34), .unset, .unset] [(.int (0 : Int32))]))
              simp only [if_pos hc75_48, if_neg hc82_49] at J39
              exact J39
          · refine own_go (fun t k => XS.ifYes X37.here hx rfl (pc0 := 75) (pc' := 89) rfl (hb hby at_75) rfl ((if0 _ _).trans (feq (fun q => hc75_48 ((lw_eq q0 (if (p0 &&& (1 : Int32)) = (0 : Int32) then q2 else q0)).mp q))).2) (by decide) (by decide) k) ?_
            show own_Gl _ _ _ _ (T37.setTop (mkF m 89 #[.val (.long q0), .second, .val (.long q1), .second, .val (.long q2), .second, .val (.long q3), .second, .val (.int p0), .val (.long (if (p0 &&& (1 : Int32)) = (0 : Int32) then q2 else q0)), .second, .val (.long (if (p0 &&& (2 : Int32)) = (0 : Int32) then q3 else q1)), .second, .val (.int (((p0.toUInt32 >>> ((2 : Int32) &&& 31).toUInt32).toInt32) &&& (3 : Int32))), .val (.ref b32), .val (.ref b34), .val (.ref b34), .unset, .unset] []))
            refine own_go (fun t k => XS.iconst X37.here hx rfl (hb hby at_89) k) ?_
            show own_Gl _ _ _ _ (T37.setTop (mkF m 90 #[.val (.long q0), .second, .val (.long q1), .second, .val (.long q2), .second, .val (.long q3), .second, .val (.int p0), .val (.long (if (p0 &&& (1 : Int32)) = (0 : Int32) then q2 else q0)), .second, .val (.long (if (p0 &&& (2 : Int32)) = (0 : Int32) then q3 else q1)), .second, .val (.int (((p0.toUInt32 >>> ((2 : Int32) &&& 31).toUInt32).toInt32) &&& (3 : Int32))), .val (.ref b32), .val (.ref b34), .val (.ref b34), .unset, .unset] [(.int (0 : Int32))]))
            simp only [if_neg hc75_48] at J39
            exact J39
      · refine own_go (fun t k => XS.ifYes X37.here hx rfl (pc0 := 64) (pc' := 95) rfl (hb hby at_64) rfl ((if0 _ _).trans (feq hc64_38).2) (by decide) (by decide) k) ?_
        show own_Gl _ _ _ _ (T37.setTop (mkF m 95 #[.val (.long q0), .second, .val (.long q1), .second, .val (.long q2), .second, .val (.long q3), .second, .val (.int p0), .val (.long (if (p0 &&& (1 : Int32)) = (0 : Int32) then q2 else q0)), .second, .val (.long (if (p0 &&& (2 : Int32)) = (0 : Int32) then q3 else q1)), .second, .val (.int (((p0.toUInt32 >>> ((2 : Int32) &&& 31).toUInt32).toInt32) &&& (3 : Int32))), .val (.ref b32), .val (.ref b34), .unset, .unset, .unset] []))
        refine own_go (fun t k => XS.iload X37.here hx rfl (hb hby at_95) rfl k) ?_
        show own_Gl _ _ _ _ (T37.setTop (mkF m 97 #[.val (.long q0), .second, .val (.long q1), .second, .val (.long q2), .second, .val (.long q3), .second, .val (.int p0), .val (.long (if (p0 &&& (1 : Int32)) = (0 : Int32) then q2 else q0)), .second, .val (.long (if (p0 &&& (2 : Int32)) = (0 : Int32) then q3 else q1)), .second, .val (.int (((p0.toUInt32 >>> ((2 : Int32) &&& 31).toUInt32).toInt32) &&& (3 : Int32))), .val (.ref b32), .val (.ref b34), .unset, .unset, .unset] [(.int (((p0.toUInt32 >>> ((2 : Int32) &&& 31).toUInt32).toInt32) &&& (3 : Int32)))]))
        refine own_go (fun t k => XS.iconst X37.here hx rfl (hb hby at_97) k) ?_
        show own_Gl _ _ _ _ (T37.setTop (mkF m 98 #[.val (.long q0), .second, .val (.long q1), .second, .val (.long q2), .second, .val (.long q3), .second, .val (.int p0), .val (.long (if (p0 &&& (1 : Int32)) = (0 : Int32) then q2 else q0)), .second, .val (.long (if (p0 &&& (2 : Int32)) = (0 : Int32) then q3 else q1)), .second, .val (.int (((p0.toUInt32 >>> ((2 : Int32) &&& 31).toUInt32).toInt32) &&& (3 : Int32))), .val (.ref b32), .val (.ref b34), .unset, .unset, .unset] [(.int (1 : Int32)), (.int (((p0.toUInt32 >>> ((2 : Int32) &&& 31).toUInt32).toInt32) &&& (3 : Int32)))]))
        by_cases hc98_50 : (((p0.toUInt32 >>> ((2 : Int32) &&& 31).toUInt32).toInt32) &&& (3 : Int32)) = (1 : Int32)
        · refine own_go (fun t k => XS.icmpNo X37.here hx rfl (hb hby at_98) rfl (teq hc98_50).2 k) ?_
          show own_Gl _ _ _ _ (T37.setTop (mkF m 101 #[.val (.long q0), .second, .val (.long q1), .second, .val (.long q2), .second, .val (.long q3), .second, .val (.int p0), .val (.long (if (p0 &&& (1 : Int32)) = (0 : Int32) then q2 else q0)), .second, .val (.long (if (p0 &&& (2 : Int32)) = (0 : Int32) then q3 else q1)), .second, .val (.int (((p0.toUInt32 >>> ((2 : Int32) &&& 31).toUInt32).toInt32) &&& (3 : Int32))), .val (.ref b32), .val (.ref b34), .unset, .unset, .unset] []))
          refine own_go (fun t k => XS.aconstNull X37.here hx rfl (hb hby at_101) k) ?_
          show own_Gl _ _ _ _ (T37.setTop (mkF m 102 #[.val (.long q0), .second, .val (.long q1), .second, .val (.long q2), .second, .val (.long q3), .second, .val (.int p0), .val (.long (if (p0 &&& (1 : Int32)) = (0 : Int32) then q2 else q0)), .second, .val (.long (if (p0 &&& (2 : Int32)) = (0 : Int32) then q3 else q1)), .second, .val (.int (((p0.toUInt32 >>> ((2 : Int32) &&& 31).toUInt32).toInt32) &&& (3 : Int32))), .val (.ref b32), .val (.ref b34), .unset, .unset, .unset] [.null]))
          refine own_go (fun t k => XS.astore X37.here hx rfl (hb hby at_102) rfl rfl (l' := #[.val (.long q0), .second, .val (.long q1), .second, .val (.long q2), .second, .val (.long q3), .second, .val (.int p0), .val (.long (if (p0 &&& (1 : Int32)) = (0 : Int32) then q2 else q0)), .second, .val (.long (if (p0 &&& (2 : Int32)) = (0 : Int32) then q3 else q1)), .second, .val (.int (((p0.toUInt32 >>> ((2 : Int32) &&& 31).toUInt32).toInt32) &&& (3 : Int32))), .val (.ref b32), .val (.ref b34), .val .null, .unset, .unset]) rfl k) ?_
          show own_Gl _ _ _ _ (T37.setTop (mkF m 104 #[.val (.long q0), .second, .val (.long q1), .second, .val (.long q2), .second, .val (.long q3), .second, .val (.int p0), .val (.long (if (p0 &&& (1 : Int32)) = (0 : Int32) then q2 else q0)), .second, .val (.long (if (p0 &&& (2 : Int32)) = (0 : Int32) then q3 else q1)), .second, .val (.int (((p0.toUInt32 >>> ((2 : Int32) &&& 31).toUInt32).toInt32) &&& (3 : Int32))), .val (.ref b32), .val (.ref b34), .val .null, .unset, .unset] []))
          refine own_go (fun t k => XS.iconst X37.here hx rfl (hb hby at_104) k) ?_
          show own_Gl _ _ _ _ (T37.setTop (mkF m 105 #[.val (.long q0), .second, .val (.long q1), .second, .val (.long q2), .second, .val (.long q3), .second, .val (.int p0), .val (.long (if (p0 &&& (1 : Int32)) = (0 : Int32) then q2 else q0)), .second, .val (.long (if (p0 &&& (2 : Int32)) = (0 : Int32) then q3 else q1)), .second, .val (.int (((p0.toUInt32 >>> ((2 : Int32) &&& 31).toUInt32).toInt32) &&& (3 : Int32))), .val (.ref b32), .val (.ref b34), .val .null, .unset, .unset] [(.int (0 : Int32))]))
          refine own_go (fun t k => XS.istore X37.here hx rfl (hb hby at_105) rfl (l' := #[.val (.long q0), .second, .val (.long q1), .second, .val (.long q2), .second, .val (.long q3), .second, .val (.int p0), .val (.long (if (p0 &&& (1 : Int32)) = (0 : Int32) then q2 else q0)), .second, .val (.long (if (p0 &&& (2 : Int32)) = (0 : Int32) then q3 else q1)), .second, .val (.int (((p0.toUInt32 >>> ((2 : Int32) &&& 31).toUInt32).toInt32) &&& (3 : Int32))), .val (.ref b32), .val (.ref b34), .val .null, .val (.int (0 : Int32)), .unset]) rfl k) ?_
          show own_Gl _ _ _ _ (T37.setTop (mkF m 107 #[.val (.long q0), .second, .val (.long q1), .second, .val (.long q2), .second, .val (.long q3), .second, .val (.int p0), .val (.long (if (p0 &&& (1 : Int32)) = (0 : Int32) then q2 else q0)), .second, .val (.long (if (p0 &&& (2 : Int32)) = (0 : Int32) then q3 else q1)), .second, .val (.int (((p0.toUInt32 >>> ((2 : Int32) &&& 31).toUInt32).toInt32) &&& (3 : Int32))), .val (.ref b32), .val (.ref b34), .val .null, .val (.int (0 : Int32)), .unset] []))
          refine own_go (fun t k => XS.goto X37.here hx rfl (pc0 := 107) (pc' := 135) rfl (hb hby at_107) (by decide) (by decide) k) ?_
          show own_Gl _ _ _ _ (T37.setTop (mkF m 135 #[.val (.long q0), .second, .val (.long q1), .second, .val (.long q2), .second, .val (.long q3), .second, .val (.int p0), .val (.long (if (p0 &&& (1 : Int32)) = (0 : Int32) then q2 else q0)), .second, .val (.long (if (p0 &&& (2 : Int32)) = (0 : Int32) then q3 else q1)), .second, .val (.int (((p0.toUInt32 >>> ((2 : Int32) &&& 31).toUInt32).toInt32) &&& (3 : Int32))), .val (.ref b32), .val (.ref b34), .val .null, .val (.int (0 : Int32)), .unset] []))
          refine own_go (fun t k => XS.aload X37.here hx rfl (hb hby at_135) rfl rfl k) ?_
          show own_Gl _ _ _ _ (T37.setTop (mkF m 137 #[.val (.long q0), .second, .val (.long q1), .second, .val (.long q2), .second, .val (.long q3), .second, .val (.int p0), .val (.long (if (p0 &&& (1 : Int32)) = (0 : Int32) then q2 else q0)), .second, .val (.long (if (p0 &&& (2 : Int32)) = (0 : Int32) then q3 else q1)), .second, .val (.int (((p0.toUInt32 >>> ((2 : Int32) &&& 31).toUInt32).toInt32) &&& (3 : Int32))), .val (.ref b32), .val (.ref b34), .val .null, .val (.int (0 : Int32)), .unset] [(.ref b32)]))
          refine own_go (fun t k => XS.aload X37.here hx rfl (hb hby at_137) rfl rfl k) ?_
          show own_Gl _ _ _ _ (T37.setTop (mkF m 139 #[.val (.long q0), .second, .val (.long q1), .second, .val (.long q2), .second, .val (.long q3), .second, .val (.int p0), .val (.long (if (p0 &&& (1 : Int32)) = (0 : Int32) then q2 else q0)), .second, .val (.long (if (p0 &&& (2 : Int32)) = (0 : Int32) then q3 else q1)), .second, .val (.int (((p0.toUInt32 >>> ((2 : Int32) &&& 31).toUInt32).toInt32) &&& (3 : Int32))), .val (.ref b32), .val (.ref b34), .val .null, .val (.int (0 : Int32)), .unset] [.null, (.ref b32)]))
          have f_52 : Exa Z T37.heap b32 "com/example/omphale/omphale/KeyRange" := ((f_36.ext E34).keep K37q)
          obtain ⟨cq51, kq51, q51a, q51b, q51c⟩ := isOf hZ rfl f_52
          obtain ⟨_, _, ⟨T51, L51, kk51, nn51⟩, -, X51, ⟨Lc51, hQ51, l51, y51, z51⟩, st51⟩ := X37.virtualBack hx (y := (⟨"com/example/omphale/omphale/KeyRange", "equals", "(Ljava/lang/Object;)Z"⟩ : MethodName)) (z := (⟨"com/example/omphale/omphale/KeyRange", "equals", "(Ljava/lang/Object;)Z"⟩ : MethodName)) hown (mvT hZ (hw _ (List.mem_of_getElem? (i := 18) rfl))) (mvT hZ (hw _ (List.mem_of_getElem? (i := 19) rfl))) (notFace_of_selects (args := #[]) (mvT hZ (hw _ (List.mem_of_getElem? (i := 21) rfl)))) (mvT hZ (hw _ (List.mem_of_getElem? (i := 21) rfl))) (mvT hZ (hw _ (List.mem_of_getElem? (i := 20) rfl))) (by decide) (backOf (W := 0) (rmeqn l Z a0 hw [] b32 T37.heap n0 Z37 ) hZ (hw _ (List.mem_of_getElem? (i := 22) rfl)) (hw _ (List.mem_of_getElem? (i := 2) rfl)) (by decide) (by decide)) q51a q51c (g := (mkF m 139 #[.val (.long q0), .second, .val (.long q1), .second, .val (.long q2), .second, .val (.long q3), .second, .val (.int p0), .val (.long (if (p0 &&& (1 : Int32)) = (0 : Int32) then q2 else q0)), .second, .val (.long (if (p0 &&& (2 : Int32)) = (0 : Int32) then q3 else q1)), .second, .val (.int (((p0.toUInt32 >>> ((2 : Int32) &&& 31).toUInt32).toInt32) &&& (3 : Int32))), .val (.ref b32), .val (.ref b34), .val .null, .val (.int (0 : Int32)), .unset] [.null, (.ref b32)])) rfl (by rw [hml]; rfl) (Steps.refl _) (argsL := [.null]) (rest := []) (lenOf pd_3 rfl) rfl (by show 2 * 0 + _ ≤ _; exact Nat.le_of_eq rfl) (hb hby at_139) (fun _ _ => ⟨rfl, rfl, (by decide : 2 + 0 ≤ _), (by decide : 4 + 0 ≤ _)⟩)
          dsimp only [Pt.U, Pt.locs, Pt.cells, Pt.slots] at X51 l51 y51 z51 st51 hQ51
          subst l51 y51 z51
          obtain ⟨N51q, rfl, hq51⟩ := hQ51
          have N51 := Fr.app N37 N51q
          refine own_go (fun t k => st51.trans k) ?_
          show own_Gl _ _ _ _ (T51.setTop (mkF m 142 #[.val (.long q0), .second, .val (.long q1), .second, .val (.long q2), .second, .val (.long q3), .second, .val (.int p0), .val (.long (if (p0 &&& (1 : Int32)) = (0 : Int32) then q2 else q0)), .second, .val (.long (if (p0 &&& (2 : Int32)) = (0 : Int32) then q3 else q1)), .second, .val (.int (((p0.toUInt32 >>> ((2 : Int32) &&& 31).toUInt32).toInt32) &&& (3 : Int32))), .val (.ref b32), .val (.ref b34), .val .null, .val (.int (0 : Int32)), .unset] [(.int (0 : Int32))]))
          refine own_go (fun t k => XS.istore X51.here hx rfl (hb hby at_142) rfl (l' := #[.val (.long q0), .second, .val (.long q1), .second, .val (.long q2), .second, .val (.long q3), .second, .val (.int p0), .val (.long (if (p0 &&& (1 : Int32)) = (0 : Int32) then q2 else q0)), .second, .val (.long (if (p0 &&& (2 : Int32)) = (0 : Int32) then q3 else q1)), .second, .val (.int (((p0.toUInt32 >>> ((2 : Int32) &&& 31).toUInt32).toInt32) &&& (3 : Int32))), .val (.ref b32), .val (.ref b34), .val .null, .val (.int (0 : Int32)), .val (.int (0 : Int32))]) rfl k) ?_
          show own_Gl _ _ _ _ (T51.setTop (mkF m 144 #[.val (.long q0), .second, .val (.long q1), .second, .val (.long q2), .second, .val (.long q3), .second, .val (.int p0), .val (.long (if (p0 &&& (1 : Int32)) = (0 : Int32) then q2 else q0)), .second, .val (.long (if (p0 &&& (2 : Int32)) = (0 : Int32) then q3 else q1)), .second, .val (.int (((p0.toUInt32 >>> ((2 : Int32) &&& 31).toUInt32).toInt32) &&& (3 : Int32))), .val (.ref b32), .val (.ref b34), .val .null, .val (.int (0 : Int32)), .val (.int (0 : Int32))] []))
          refine own_go (fun t k => XS.iload X51.here hx rfl (hb hby at_144) rfl k) ?_
          show own_Gl _ _ _ _ (T51.setTop (mkF m 146 #[.val (.long q0), .second, .val (.long q1), .second, .val (.long q2), .second, .val (.long q3), .second, .val (.int p0), .val (.long (if (p0 &&& (1 : Int32)) = (0 : Int32) then q2 else q0)), .second, .val (.long (if (p0 &&& (2 : Int32)) = (0 : Int32) then q3 else q1)), .second, .val (.int (((p0.toUInt32 >>> ((2 : Int32) &&& 31).toUInt32).toInt32) &&& (3 : Int32))), .val (.ref b32), .val (.ref b34), .val .null, .val (.int (0 : Int32)), .val (.int (0 : Int32))] [(.int (0 : Int32))]))
          refine own_go (fun t k => XS.iload X51.here hx rfl (hb hby at_146) rfl k) ?_
          show own_Gl _ _ _ _ (T51.setTop (mkF m 148 #[.val (.long q0), .second, .val (.long q1), .second, .val (.long q2), .second, .val (.long q3), .second, .val (.int p0), .val (.long (if (p0 &&& (1 : Int32)) = (0 : Int32) then q2 else q0)), .second, .val (.long (if (p0 &&& (2 : Int32)) = (0 : Int32) then q3 else q1)), .second, .val (.int (((p0.toUInt32 >>> ((2 : Int32) &&& 31).toUInt32).toInt32) &&& (3 : Int32))), .val (.ref b32), .val (.ref b34), .val .null, .val (.int (0 : Int32)), .val (.int (0 : Int32))] [(.int (0 : Int32)), (.int (0 : Int32))]))
          refine own_go (fun t k => XS.icmpYes X51.here hx rfl (pc0 := 148) (pc' := 153) rfl (hb hby at_148) rfl (teq (by decide : (0 : Int32) = (0 : Int32))).1 (by decide) (by decide) k) ?_
          show own_Gl _ _ _ _ (T51.setTop (mkF m 153 #[.val (.long q0), .second, .val (.long q1), .second, .val (.long q2), .second, .val (.long q3), .second, .val (.int p0), .val (.long (if (p0 &&& (1 : Int32)) = (0 : Int32) then q2 else q0)), .second, .val (.long (if (p0 &&& (2 : Int32)) = (0 : Int32) then q3 else q1)), .second, .val (.int (((p0.toUInt32 >>> ((2 : Int32) &&& 31).toUInt32).toInt32) &&& (3 : Int32))), .val (.ref b32), .val (.ref b34), .val .null, .val (.int (0 : Int32)), .val (.int (0 : Int32))] []))
          refine own_go (fun t k => XS.iload X51.here hx rfl (hb hby at_153) rfl k) ?_
          show own_Gl _ _ _ _ (T51.setTop (mkF m 155 #[.val (.long q0), .second, .val (.long q1), .second, .val (.long q2), .second, .val (.long q3), .second, .val (.int p0), .val (.long (if (p0 &&& (1 : Int32)) = (0 : Int32) then q2 else q0)), .second, .val (.long (if (p0 &&& (2 : Int32)) = (0 : Int32) then q3 else q1)), .second, .val (.int (((p0.toUInt32 >>> ((2 : Int32) &&& 31).toUInt32).toInt32) &&& (3 : Int32))), .val (.ref b32), .val (.ref b34), .val .null, .val (.int (0 : Int32)), .val (.int (0 : Int32))] [(.int (((p0.toUInt32 >>> ((2 : Int32) &&& 31).toUInt32).toInt32) &&& (3 : Int32)))]))
          refine own_go (fun t k => XS.ifYes X51.here hx rfl (pc0 := 155) (pc' := 176) rfl (hb hby at_155) rfl ((if0 _ _).trans (feq hc64_38).2) (by decide) (by decide) k) ?_
          show own_Gl _ _ _ _ (T51.setTop (mkF m 176 #[.val (.long q0), .second, .val (.long q1), .second, .val (.long q2), .second, .val (.long q3), .second, .val (.int p0), .val (.long (if (p0 &&& (1 : Int32)) = (0 : Int32) then q2 else q0)), .second, .val (.long (if (p0 &&& (2 : Int32)) = (0 : Int32) then q3 else q1)), .second, .val (.int (((p0.toUInt32 >>> ((2 : Int32) &&& 31).toUInt32).toInt32) &&& (3 : Int32))), .val (.ref b32), .val (.ref b34), .val .null, .val (.int (0 : Int32)), .val (.int (0 : Int32))] []))
          refine own_go (fun t k => XS.iconst X51.here hx rfl (hb hby at_176) k) ?_
          show own_Gl _ _ _ _ (T51.setTop (mkF m 177 #[.val (.long q0), .second, .val (.long q1), .second, .val (.long q2), .second, .val (.long q3), .second, .val (.int p0), .val (.long (if (p0 &&& (1 : Int32)) = (0 : Int32) then q2 else q0)), .second, .val (.long (if (p0 &&& (2 : Int32)) = (0 : Int32) then q3 else q1)), .second, .val (.int (((p0.toUInt32 >>> ((2 : Int32) &&& 31).toUInt32).toInt32) &&& (3 : Int32))), .val (.ref b32), .val (.ref b34), .val .null, .val (.int (0 : Int32)), .val (.int (0 : Int32))] [(.int (1 : Int32))]))
          obtain ⟨fs, hr, hrun, hended, hW, hsame⟩ := X51.leave (v := some (.int (1 : Int32))) (fun h => by rw [Bd.returns] at h; cases h)
          refine own_fin (retN X51 hx (t := .boolean) Bd.returns (by simp) (hb hby at_177) hr) hrun hended ⟨_, _, rfl, ?_, ⟨_, rfl⟩, hW, hsame.mono (by decide) (by decide)⟩
          show Q0 Z q0 q1 q2 q3 p0 ca kA vs h0 n0 _ T51.heap _
          rw [hq51]
          exact ⟨N51, by rw [f0, if_neg hc64_38, if_pos hc98_50]⟩
        · refine own_go (fun t k => XS.icmpYes X37.here hx rfl (pc0 := 98) (pc' := 110) rfl (hb hby at_98) rfl (feq hc98_50).2 (by decide) (by decide) k) ?_
          show own_Gl _ _ _ _ (T37.setTop (mkF m 110 #[.val (.long q0), .second, .val (.long q1), .second, .val (.long q2), .second, .val (.long q3), .second, .val (.int p0), .val (.long (if (p0 &&& (1 : Int32)) = (0 : Int32) then q2 else q0)), .second, .val (.long (if (p0 &&& (2 : Int32)) = (0 : Int32) then q3 else q1)), .second, .val (.int (((p0.toUInt32 >>> ((2 : Int32) &&& 31).toUInt32).toInt32) &&& (3 : Int32))), .val (.ref b32), .val (.ref b34), .unset, .unset, .unset] []))
          refine own_go (fun t k => XS.iload X37.here hx rfl (hb hby at_110) rfl k) ?_
          show own_Gl _ _ _ _ (T37.setTop (mkF m 112 #[.val (.long q0), .second, .val (.long q1), .second, .val (.long q2), .second, .val (.long q3), .second, .val (.int p0), .val (.long (if (p0 &&& (1 : Int32)) = (0 : Int32) then q2 else q0)), .second, .val (.long (if (p0 &&& (2 : Int32)) = (0 : Int32) then q3 else q1)), .second, .val (.int (((p0.toUInt32 >>> ((2 : Int32) &&& 31).toUInt32).toInt32) &&& (3 : Int32))), .val (.ref b32), .val (.ref b34), .unset, .unset, .unset] [(.int (((p0.toUInt32 >>> ((2 : Int32) &&& 31).toUInt32).toInt32) &&& (3 : Int32)))]))
          refine own_go (fun t k => XS.iconst X37.here hx rfl (hb hby at_112) k) ?_
          show own_Gl _ _ _ _ (T37.setTop (mkF m 113 #[.val (.long q0), .second, .val (.long q1), .second, .val (.long q2), .second, .val (.long q3), .second, .val (.int p0), .val (.long (if (p0 &&& (1 : Int32)) = (0 : Int32) then q2 else q0)), .second, .val (.long (if (p0 &&& (2 : Int32)) = (0 : Int32) then q3 else q1)), .second, .val (.int (((p0.toUInt32 >>> ((2 : Int32) &&& 31).toUInt32).toInt32) &&& (3 : Int32))), .val (.ref b32), .val (.ref b34), .unset, .unset, .unset] [(.int (2 : Int32)), (.int (((p0.toUInt32 >>> ((2 : Int32) &&& 31).toUInt32).toInt32) &&& (3 : Int32)))]))
          by_cases hc113_53 : (((p0.toUInt32 >>> ((2 : Int32) &&& 31).toUInt32).toInt32) &&& (3 : Int32)) = (2 : Int32)
          · refine own_go (fun t k => XS.icmpNo X37.here hx rfl (hb hby at_113) rfl (teq hc113_53).2 k) ?_
            show own_Gl _ _ _ _ (T37.setTop (mkF m 116 #[.val (.long q0), .second, .val (.long q1), .second, .val (.long q2), .second, .val (.long q3), .second, .val (.int p0), .val (.long (if (p0 &&& (1 : Int32)) = (0 : Int32) then q2 else q0)), .second, .val (.long (if (p0 &&& (2 : Int32)) = (0 : Int32) then q3 else q1)), .second, .val (.int (((p0.toUInt32 >>> ((2 : Int32) &&& 31).toUInt32).toInt32) &&& (3 : Int32))), .val (.ref b32), .val (.ref b34), .unset, .unset, .unset] []))
            refine own_go (fun t k => XS.lloadN X37.here hx rfl (hb hby at_116) rfl k) ?_
            show own_Gl _ _ _ _ (T37.setTop (mkF m 117 #[.val (.long q0), .second, .val (.long q1), .second, .val (.long q2), .second, .val (.long q3), .second, .val (.int p0), .val (.long (if (p0 &&& (1 : Int32)) = (0 : Int32) then q2 else q0)), .second, .val (.long (if (p0 &&& (2 : Int32)) = (0 : Int32) then q3 else q1)), .second, .val (.int (((p0.toUInt32 >>> ((2 : Int32) &&& 31).toUInt32).toInt32) &&& (3 : Int32))), .val (.ref b32), .val (.ref b34), .unset, .unset, .unset] [(.long q0)]))
            by_cases hc117_54 : q0 < (-128 : Int64)
            · show own_Gl _ _ _ _ (T37.setTop (mkF m 117 #[.val (.long q0), .second, .val (.long q1), .second, .val (.long q2), .second, .val (.long q3), .second, .val (.int p0), .val (.long (if (p0 &&& (1 : Int32)) = (0 : Int32) then q2 else q0)), .second, .val (.long (if (p0 &&& (2 : Int32)) = (0 : Int32) then q3 else q1)), .second, .val (.int (((p0.toUInt32 >>> ((2 : Int32) &&& 31).toUInt32).toInt32) &&& (3 : Int32))), .val (.ref b32), .val (.ref b34), .unset, .unset, .unset] [(.long q0)]))
              obtain ⟨_, _, ⟨T55, L55, kk55, nn55⟩, -, X55, ⟨Lc55, hQ55, l55, y55, z55⟩, st55⟩ := Jvm.LawKit.callS X37 hx (y := (⟨"java/lang/Long", "valueOf", "(J)Ljava/lang/Long;"⟩ : MethodName)) hown (mvT hZ (hw _ (List.mem_of_getElem? (i := 25) rfl))) (mvT hZ (hw _ (List.mem_of_getElem? (i := 26) rfl))) (mvT hZ (hw _ (List.mem_of_getElem? (i := 27) rfl))) (mvT hZ (hw _ (List.mem_of_getElem? (i := 28) rfl))) (by decide) (backOf (W := 0) (rmvon l Z a0 hw [] q0 T37.heap n0 Z37 (Or.inl hc117_54)) hZ (hw _ (List.mem_of_getElem? (i := 28) rfl)) (hw _ (List.mem_of_getElem? (i := 27) rfl)) (by decide) (by decide)) (g := (mkF m 117 #[.val (.long q0), .second, .val (.long q1), .second, .val (.long q2), .second, .val (.long q3), .second, .val (.int p0), .val (.long (if (p0 &&& (1 : Int32)) = (0 : Int32) then q2 else q0)), .second, .val (.long (if (p0 &&& (2 : Int32)) = (0 : Int32) then q3 else q1)), .second, .val (.int (((p0.toUInt32 >>> ((2 : Int32) &&& 31).toUInt32).toInt32) &&& (3 : Int32))), .val (.ref b32), .val (.ref b34), .unset, .unset, .unset] [(.long q0)])) rfl (by rw [hml]; rfl) (argsL := [(.long q0)]) (rest := []) (lenOf pd_4 rfl) rfl (by show 2 * 0 + _ ≤ _; exact Nat.le_of_eq rfl) (hb hby at_117) (fun _ _ => ⟨rfl, rfl, (by decide : 2 + 1 ≤ _), (by decide : 4 + 1 ≤ _)⟩)
              dsimp only [Pt.U, Pt.locs, Pt.cells, Pt.slots] at X55 l55 y55 z55 st55 hQ55
              subst l55 y55 z55
              obtain ⟨N55q, w55_w, gn_w55_w, sz0_w55_w, rfl, K55q, po55_0⟩ := hQ55
              have N55 := Fr.app N37 N55q
              have f_56 : Arv Z T37.heap ca kA (.object "java/lang/Long") (256 : Int32) vs .null := (P1.ext (own_ext K37))
              have ne_ca_w55_w : ca ≠ w55_w := Nat.ne_of_lt (Nat.lt_of_lt_of_le f_56.lt sz0_w55_w)
              have f_57 : Exa Z T37.heap b32 "com/example/omphale/omphale/KeyRange" := ((f_36.ext E34).keep K37q)
              have ne_b32_w55_w : b32 ≠ w55_w := Nat.ne_of_lt (Nat.lt_of_lt_of_le f_57.lt sz0_w55_w)
              have f_58 : Exa Z T37.heap b34 "com/example/omphale/omphale/KeyRange" := (A34.keep K37q)
              have ne_b34_w55_w : b34 ≠ w55_w := Nat.ne_of_lt (Nat.lt_of_lt_of_le f_58.lt sz0_w55_w)
              have sz_w55_w : h0.size ≤ w55_w := Nat.le_trans K37.1 sz0_w55_w
              have K55 : Keep h0 T55.heap [] := K37.trans K55q all0
              have Z55 : n0 ≤ T55.heap.size := Nat.le_trans Z37 K55q.1
              refine own_go (fun t k => st55 _ k) ?_
              show own_Gl _ _ _ _ (T55.setTop (mkF m 120 #[.val (.long q0), .second, .val (.long q1), .second, .val (.long q2), .second, .val (.long q3), .second, .val (.int p0), .val (.long (if (p0 &&& (1 : Int32)) = (0 : Int32) then q2 else q0)), .second, .val (.long (if (p0 &&& (2 : Int32)) = (0 : Int32) then q3 else q1)), .second, .val (.int (((p0.toUInt32 >>> ((2 : Int32) &&& 31).toUInt32).toInt32) &&& (3 : Int32))), .val (.ref b32), .val (.ref b34), .unset, .unset, .unset] [(.ref w55_w)]))
              refine own_go (fun t k => XS.astore X55.here hx rfl (hb hby at_120) rfl rfl (l' := #[.val (.long q0), .second, .val (.long q1), .second, .val (.long q2), .second, .val (.long q3), .second, .val (.int p0), .val (.long (if (p0 &&& (1 : Int32)) = (0 : Int32) then q2 else q0)), .second, .val (.long (if (p0 &&& (2 : Int32)) = (0 : Int32) then q3 else q1)), .second, .val (.int (((p0.toUInt32 >>> ((2 : Int32) &&& 31).toUInt32).toInt32) &&& (3 : Int32))), .val (.ref b32), .val (.ref b34), .val (.ref w55_w), .unset, .unset]) rfl k) ?_
              show own_Gl _ _ _ _ (T55.setTop (mkF m 122 #[.val (.long q0), .second, .val (.long q1), .second, .val (.long q2), .second, .val (.long q3), .second, .val (.int p0), .val (.long (if (p0 &&& (1 : Int32)) = (0 : Int32) then q2 else q0)), .second, .val (.long (if (p0 &&& (2 : Int32)) = (0 : Int32) then q3 else q1)), .second, .val (.int (((p0.toUInt32 >>> ((2 : Int32) &&& 31).toUInt32).toInt32) &&& (3 : Int32))), .val (.ref b32), .val (.ref b34), .val (.ref w55_w), .unset, .unset] []))
              refine own_go (fun t k => XS.iconst X55.here hx rfl (hb hby at_122) k) ?_
              show own_Gl _ _ _ _ (T55.setTop (mkF m 123 #[.val (.long q0), .second, .val (.long q1), .second, .val (.long q2), .second, .val (.long q3), .second, .val (.int p0), .val (.long (if (p0 &&& (1 : Int32)) = (0 : Int32) then q2 else q0)), .second, .val (.long (if (p0 &&& (2 : Int32)) = (0 : Int32) then q3 else q1)), .second, .val (.int (((p0.toUInt32 >>> ((2 : Int32) &&& 31).toUInt32).toInt32) &&& (3 : Int32))), .val (.ref b32), .val (.ref b34), .val (.ref w55_w), .unset, .unset] [(.int (0 : Int32))]))
              refine own_go (fun t k => XS.istore X55.here hx rfl (hb hby at_123) rfl (l' := #[.val (.long q0), .second, .val (.long q1), .second, .val (.long q2), .second, .val (.long q3), .second, .val (.int p0), .val (.long (if (p0 &&& (1 : Int32)) = (0 : Int32) then q2 else q0)), .second, .val (.long (if (p0 &&& (2 : Int32)) = (0 : Int32) then q3 else q1)), .second, .val (.int (((p0.toUInt32 >>> ((2 : Int32) &&& 31).toUInt32).toInt32) &&& (3 : Int32))), .val (.ref b32), .val (.ref b34), .val (.ref w55_w), .val (.int (0 : Int32)), .unset]) rfl k) ?_
              show own_Gl _ _ _ _ (T55.setTop (mkF m 125 #[.val (.long q0), .second, .val (.long q1), .second, .val (.long q2), .second, .val (.long q3), .second, .val (.int p0), .val (.long (if (p0 &&& (1 : Int32)) = (0 : Int32) then q2 else q0)), .second, .val (.long (if (p0 &&& (2 : Int32)) = (0 : Int32) then q3 else q1)), .second, .val (.int (((p0.toUInt32 >>> ((2 : Int32) &&& 31).toUInt32).toInt32) &&& (3 : Int32))), .val (.ref b32), .val (.ref b34), .val (.ref w55_w), .val (.int (0 : Int32)), .unset] []))
              refine own_go (fun t k => XS.goto X55.here hx rfl (pc0 := 125) (pc' := 135) rfl (hb hby at_125) (by decide) (by decide) k) ?_
              show own_Gl _ _ _ _ (T55.setTop (mkF m 135 #[.val (.long q0), .second, .val (.long q1), .second, .val (.long q2), .second, .val (.long q3), .second, .val (.int p0), .val (.long (if (p0 &&& (1 : Int32)) = (0 : Int32) then q2 else q0)), .second, .val (.long (if (p0 &&& (2 : Int32)) = (0 : Int32) then q3 else q1)), .second, .val (.int (((p0.toUInt32 >>> ((2 : Int32) &&& 31).toUInt32).toInt32) &&& (3 : Int32))), .val (.ref b32), .val (.ref b34), .val (.ref w55_w), .val (.int (0 : Int32)), .unset] []))
              refine own_go (fun t k => XS.aload X55.here hx rfl (hb hby at_135) rfl rfl k) ?_
              show own_Gl _ _ _ _ (T55.setTop (mkF m 137 #[.val (.long q0), .second, .val (.long q1), .second, .val (.long q2), .second, .val (.long q3), .second, .val (.int p0), .val (.long (if (p0 &&& (1 : Int32)) = (0 : Int32) then q2 else q0)), .second, .val (.long (if (p0 &&& (2 : Int32)) = (0 : Int32) then q3 else q1)), .second, .val (.int (((p0.toUInt32 >>> ((2 : Int32) &&& 31).toUInt32).toInt32) &&& (3 : Int32))), .val (.ref b32), .val (.ref b34), .val (.ref w55_w), .val (.int (0 : Int32)), .unset] [(.ref b32)]))
              refine own_go (fun t k => XS.aload X55.here hx rfl (hb hby at_137) rfl rfl k) ?_
              show own_Gl _ _ _ _ (T55.setTop (mkF m 139 #[.val (.long q0), .second, .val (.long q1), .second, .val (.long q2), .second, .val (.long q3), .second, .val (.int p0), .val (.long (if (p0 &&& (1 : Int32)) = (0 : Int32) then q2 else q0)), .second, .val (.long (if (p0 &&& (2 : Int32)) = (0 : Int32) then q3 else q1)), .second, .val (.int (((p0.toUInt32 >>> ((2 : Int32) &&& 31).toUInt32).toInt32) &&& (3 : Int32))), .val (.ref b32), .val (.ref b34), .val (.ref w55_w), .val (.int (0 : Int32)), .unset] [(.ref w55_w), (.ref b32)]))
              have f_60 : Exa Z T55.heap b32 "com/example/omphale/omphale/KeyRange" := (f_57.keep K55q)
              obtain ⟨cq59, kq59, q59a, q59b, q59c⟩ := isOf hZ rfl f_60
              obtain ⟨_, _, ⟨T59, L59, kk59, nn59⟩, -, X59, ⟨Lc59, hQ59, l59, y59, z59⟩, st59⟩ := X55.virtualBack hx (y := (⟨"com/example/omphale/omphale/KeyRange", "equals", "(Ljava/lang/Object;)Z"⟩ : MethodName)) (z := (⟨"com/example/omphale/omphale/KeyRange", "equals", "(Ljava/lang/Object;)Z"⟩ : MethodName)) hown (mvT hZ (hw _ (List.mem_of_getElem? (i := 18) rfl))) (mvT hZ (hw _ (List.mem_of_getElem? (i := 19) rfl))) (notFace_of_selects (args := #[]) (mvT hZ (hw _ (List.mem_of_getElem? (i := 21) rfl)))) (mvT hZ (hw _ (List.mem_of_getElem? (i := 21) rfl))) (mvT hZ (hw _ (List.mem_of_getElem? (i := 20) rfl))) (by decide) (backOf (W := 0) (rmeql l Z a0 hw [] b32 w55_w T55.heap n0 Z55 po55_0) hZ (hw _ (List.mem_of_getElem? (i := 22) rfl)) (hw _ (List.mem_of_getElem? (i := 2) rfl)) (by decide) (by decide)) q59a q59c (g := (mkF m 139 #[.val (.long q0), .second, .val (.long q1), .second, .val (.long q2), .second, .val (.long q3), .second, .val (.int p0), .val (.long (if (p0 &&& (1 : Int32)) = (0 : Int32) then q2 else q0)), .second, .val (.long (if (p0 &&& (2 : Int32)) = (0 : Int32) then q3 else q1)), .second, .val (.int (((p0.toUInt32 >>> ((2 : Int32) &&& 31).toUInt32).toInt32) &&& (3 : Int32))), .val (.ref b32), .val (.ref b34), .val (.ref w55_w), .val (.int (0 : Int32)), .unset] [(.ref w55_w), (.ref b32)])) rfl (by rw [hml]; rfl) (Steps.refl _) (argsL := [(.ref w55_w)]) (rest := []) (lenOf pd_3 rfl) rfl (by show 2 * 0 + _ ≤ _; exact Nat.le_of_eq rfl) (hb hby at_139) (fun _ _ => ⟨rfl, rfl, (by decide : 3 + 0 ≤ _), (by decide : 5 + 0 ≤ _)⟩)
              dsimp only [Pt.U, Pt.locs, Pt.cells, Pt.slots] at X59 l59 y59 z59 st59 hQ59
              subst l59 y59 z59
              obtain ⟨N59q, rfl, hq59⟩ := hQ59
              have N59 := Fr.app N55 N59q
              refine own_go (fun t k => st59.trans k) ?_
              show own_Gl _ _ _ _ (T59.setTop (mkF m 142 #[.val (.long q0), .second, .val (.long q1), .second, .val (.long q2), .second, .val (.long q3), .second, .val (.int p0), .val (.long (if (p0 &&& (1 : Int32)) = (0 : Int32) then q2 else q0)), .second, .val (.long (if (p0 &&& (2 : Int32)) = (0 : Int32) then q3 else q1)), .second, .val (.int (((p0.toUInt32 >>> ((2 : Int32) &&& 31).toUInt32).toInt32) &&& (3 : Int32))), .val (.ref b32), .val (.ref b34), .val (.ref w55_w), .val (.int (0 : Int32)), .unset] [(.int (0 : Int32))]))
              refine own_go (fun t k => XS.istore X59.here hx rfl (hb hby at_142) rfl (l' := #[.val (.long q0), .second, .val (.long q1), .second, .val (.long q2), .second, .val (.long q3), .second, .val (.int p0), .val (.long (if (p0 &&& (1 : Int32)) = (0 : Int32) then q2 else q0)), .second, .val (.long (if (p0 &&& (2 : Int32)) = (0 : Int32) then q3 else q1)), .second, .val (.int (((p0.toUInt32 >>> ((2 : Int32) &&& 31).toUInt32).toInt32) &&& (3 : Int32))), .val (.ref b32), .val (.ref b34), .val (.ref w55_w), .val (.int (0 : Int32)), .val (.int (0 : Int32))]) rfl k) ?_
              show own_Gl _ _ _ _ (T59.setTop (mkF m 144 #[.val (.long q0), .second, .val (.long q1), .second, .val (.long q2), .second, .val (.long q3), .second, .val (.int p0), .val (.long (if (p0 &&& (1 : Int32)) = (0 : Int32) then q2 else q0)), .second, .val (.long (if (p0 &&& (2 : Int32)) = (0 : Int32) then q3 else q1)), .second, .val (.int (((p0.toUInt32 >>> ((2 : Int32) &&& 31).toUInt32).toInt32) &&& (3 : Int32))), .val (.ref b32), .val (.ref b34), .val (.ref w55_w), .val (.int (0 : Int32)), .val (.int (0 : Int32))] []))
              refine own_go (fun t k => XS.iload X59.here hx rfl (hb hby at_144) rfl k) ?_
              show own_Gl _ _ _ _ (T59.setTop (mkF m 146 #[.val (.long q0), .second, .val (.long q1), .second, .val (.long q2), .second, .val (.long q3), .second, .val (.int p0), .val (.long (if (p0 &&& (1 : Int32)) = (0 : Int32) then q2 else q0)), .second, .val (.long (if (p0 &&& (2 : Int32)) = (0 : Int32) then q3 else q1)), .second, .val (.int (((p0.toUInt32 >>> ((2 : Int32) &&& 31).toUInt32).toInt32) &&& (3 : Int32))), .val (.ref b32), .val (.ref b34), .val (.ref w55_w), .val (.int (0 : Int32)), .val (.int (0 : Int32))] [(.int (0 : Int32))]))
              refine own_go (fun t k => XS.iload X59.here hx rfl (hb hby at_146) rfl k) ?_
              show own_Gl _ _ _ _ (T59.setTop (mkF m 148 #[.val (.long q0), .second, .val (.long q1), .second, .val (.long q2), .second, .val (.long q3), .second, .val (.int p0), .val (.long (if (p0 &&& (1 : Int32)) = (0 : Int32) then q2 else q0)), .second, .val (.long (if (p0 &&& (2 : Int32)) = (0 : Int32) then q3 else q1)), .second, .val (.int (((p0.toUInt32 >>> ((2 : Int32) &&& 31).toUInt32).toInt32) &&& (3 : Int32))), .val (.ref b32), .val (.ref b34), .val (.ref w55_w), .val (.int (0 : Int32)), .val (.int (0 : Int32))] [(.int (0 : Int32)), (.int (0 : Int32))]))
              refine own_go (fun t k => XS.icmpYes X59.here hx rfl (pc0 := 148) (pc' := 153) rfl (hb hby at_148) rfl (teq (by decide : (0 : Int32) = (0 : Int32))).1 (by decide) (by decide) k) ?_
              show own_Gl _ _ _ _ (T59.setTop (mkF m 153 #[.val (.long q0), .second, .val (.long q1), .second, .val (.long q2), .second, .val (.long q3), .second, .val (.int p0), .val (.long (if (p0 &&& (1 : Int32)) = (0 : Int32) then q2 else q0)), .second, .val (.long (if (p0 &&& (2 : Int32)) = (0 : Int32) then q3 else q1)), .second, .val (.int (((p0.toUInt32 >>> ((2 : Int32) &&& 31).toUInt32).toInt32) &&& (3 : Int32))), .val (.ref b32), .val (.ref b34), .val (.ref w55_w), .val (.int (0 : Int32)), .val (.int (0 : Int32))] []))
              refine own_go (fun t k => XS.iload X59.here hx rfl (hb hby at_153) rfl k) ?_
              show own_Gl _ _ _ _ (T59.setTop (mkF m 155 #[.val (.long q0), .second, .val (.long q1), .second, .val (.long q2), .second, .val (.long q3), .second, .val (.int p0), .val (.long (if (p0 &&& (1 : Int32)) = (0 : Int32) then q2 else q0)), .second, .val (.long (if (p0 &&& (2 : Int32)) = (0 : Int32) then q3 else q1)), .second, .val (.int (((p0.toUInt32 >>> ((2 : Int32) &&& 31).toUInt32).toInt32) &&& (3 : Int32))), .val (.ref b32), .val (.ref b34), .val (.ref w55_w), .val (.int (0 : Int32)), .val (.int (0 : Int32))] [(.int (((p0.toUInt32 >>> ((2 : Int32) &&& 31).toUInt32).toInt32) &&& (3 : Int32)))]))
              refine own_go (fun t k => XS.ifYes X59.here hx rfl (pc0 := 155) (pc' := 176) rfl (hb hby at_155) rfl ((if0 _ _).trans (feq hc64_38).2) (by decide) (by decide) k) ?_
              show own_Gl _ _ _ _ (T59.setTop (mkF m 176 #[.val (.long q0), .second, .val (.long q1), .second, .val (.long q2), .second, .val (.long q3), .second, .val (.int p0), .val (.long (if (p0 &&& (1 : Int32)) = (0 : Int32) then q2 else q0)), .second, .val (.long (if (p0 &&& (2 : Int32)) = (0 : Int32) then q3 else q1)), .second, .val (.int (((p0.toUInt32 >>> ((2 : Int32) &&& 31).toUInt32).toInt32) &&& (3 : Int32))), .val (.ref b32), .val (.ref b34), .val (.ref w55_w), .val (.int (0 : Int32)), .val (.int (0 : Int32))] []))
              refine own_go (fun t k => XS.iconst X59.here hx rfl (hb hby at_176) k) ?_
              show own_Gl _ _ _ _ (T59.setTop (mkF m 177 #[.val (.long q0), .second, .val (.long q1), .second, .val (.long q2), .second, .val (.long q3), .second, .val (.int p0), .val (.long (if (p0 &&& (1 : Int32)) = (0 : Int32) then q2 else q0)), .second, .val (.long (if (p0 &&& (2 : Int32)) = (0 : Int32) then q3 else q1)), .second, .val (.int (((p0.toUInt32 >>> ((2 : Int32) &&& 31).toUInt32).toInt32) &&& (3 : Int32))), .val (.ref b32), .val (.ref b34), .val (.ref w55_w), .val (.int (0 : Int32)), .val (.int (0 : Int32))] [(.int (1 : Int32))]))
              obtain ⟨fs, hr, hrun, hended, hW, hsame⟩ := X59.leave (v := some (.int (1 : Int32))) (fun h => by rw [Bd.returns] at h; cases h)
              refine own_fin (retN X59 hx (t := .boolean) Bd.returns (by simp) (hb hby at_177) hr) hrun hended ⟨_, _, rfl, ?_, ⟨_, rfl⟩, hW, hsame.mono (by decide) (by decide)⟩
              show Q0 Z q0 q1 q2 q3 p0 ca kA vs h0 n0 _ T59.heap _
              rw [hq59]
              exact ⟨N59, by rw [f0, if_neg hc64_38, if_neg hc98_50, if_pos hc113_53, if_pos hc117_54]⟩
            · by_cases hc117_61 : (127 : Int64) < q0
              · show own_Gl _ _ _ _ (T37.setTop (mkF m 117 #[.val (.long q0), .second, .val (.long q1), .second, .val (.long q2), .second, .val (.long q3), .second, .val (.int p0), .val (.long (if (p0 &&& (1 : Int32)) = (0 : Int32) then q2 else q0)), .second, .val (.long (if (p0 &&& (2 : Int32)) = (0 : Int32) then q3 else q1)), .second, .val (.int (((p0.toUInt32 >>> ((2 : Int32) &&& 31).toUInt32).toInt32) &&& (3 : Int32))), .val (.ref b32), .val (.ref b34), .unset, .unset, .unset] [(.long q0)]))
                obtain ⟨_, _, ⟨T62, L62, kk62, nn62⟩, -, X62, ⟨Lc62, hQ62, l62, y62, z62⟩, st62⟩ := Jvm.LawKit.callS X37 hx (y := (⟨"java/lang/Long", "valueOf", "(J)Ljava/lang/Long;"⟩ : MethodName)) hown (mvT hZ (hw _ (List.mem_of_getElem? (i := 25) rfl))) (mvT hZ (hw _ (List.mem_of_getElem? (i := 26) rfl))) (mvT hZ (hw _ (List.mem_of_getElem? (i := 27) rfl))) (mvT hZ (hw _ (List.mem_of_getElem? (i := 28) rfl))) (by decide) (backOf (W := 0) (rmvon l Z a0 hw [] q0 T37.heap n0 Z37 (Or.inr hc117_61)) hZ (hw _ (List.mem_of_getElem? (i := 28) rfl)) (hw _ (List.mem_of_getElem? (i := 27) rfl)) (by decide) (by decide)) (g := (mkF m 117 #[.val (.long q0), .second, .val (.long q1), .second, .val (.long q2), .second, .val (.long q3), .second, .val (.int p0), .val (.long (if (p0 &&& (1 : Int32)) = (0 : Int32) then q2 else q0)), .second, .val (.long (if (p0 &&& (2 : Int32)) = (0 : Int32) then q3 else q1)), .second, .val (.int (((p0.toUInt32 >>> ((2 : Int32) &&& 31).toUInt32).toInt32) &&& (3 : Int32))), .val (.ref b32), .val (.ref b34), .unset, .unset, .unset] [(.long q0)])) rfl (by rw [hml]; rfl) (argsL := [(.long q0)]) (rest := []) (lenOf pd_4 rfl) rfl (by show 2 * 0 + _ ≤ _; exact Nat.le_of_eq rfl) (hb hby at_117) (fun _ _ => ⟨rfl, rfl, (by decide : 2 + 1 ≤ _), (by decide : 4 + 1 ≤ _)⟩)
                dsimp only [Pt.U, Pt.locs, Pt.cells, Pt.slots] at X62 l62 y62 z62 st62 hQ62
                subst l62 y62 z62
                obtain ⟨N62q, w62_w, gn_w62_w, sz0_w62_w, rfl, K62q, po62_0⟩ := hQ62
                have N62 := Fr.app N37 N62q
                have f_63 : Arv Z T37.heap ca kA (.object "java/lang/Long") (256 : Int32) vs .null := (P1.ext (own_ext K37))
                have ne_ca_w62_w : ca ≠ w62_w := Nat.ne_of_lt (Nat.lt_of_lt_of_le f_63.lt sz0_w62_w)
                have f_64 : Exa Z T37.heap b32 "com/example/omphale/omphale/KeyRange" := ((f_36.ext E34).keep K37q)
                have ne_b32_w62_w : b32 ≠ w62_w := Nat.ne_of_lt (Nat.lt_of_lt_of_le f_64.lt sz0_w62_w)
                have f_65 : Exa Z T37.heap b34 "com/example/omphale/omphale/KeyRange" := (A34.keep K37q)
                have ne_b34_w62_w : b34 ≠ w62_w := Nat.ne_of_lt (Nat.lt_of_lt_of_le f_65.lt sz0_w62_w)
                have sz_w62_w : h0.size ≤ w62_w := Nat.le_trans K37.1 sz0_w62_w
                have K62 : Keep h0 T62.heap [] := K37.trans K62q all0
                have Z62 : n0 ≤ T62.heap.size := Nat.le_trans Z37 K62q.1
                refine own_go (fun t k => st62 _ k) ?_
                show own_Gl _ _ _ _ (T62.setTop (mkF m 120 #[.val (.long q0), .second, .val (.long q1), .second, .val (.long q2), .second, .val (.long q3), .second, .val (.int p0), .val (.long (if (p0 &&& (1 : Int32)) = (0 : Int32) then q2 else q0)), .second, .val (.long (if (p0 &&& (2 : Int32)) = (0 : Int32) then q3 else q1)), .second, .val (.int (((p0.toUInt32 >>> ((2 : Int32) &&& 31).toUInt32).toInt32) &&& (3 : Int32))), .val (.ref b32), .val (.ref b34), .unset, .unset, .unset] [(.ref w62_w)]))
                refine own_go (fun t k => XS.astore X62.here hx rfl (hb hby at_120) rfl rfl (l' := #[.val (.long q0), .second, .val (.long q1), .second, .val (.long q2), .second, .val (.long q3), .second, .val (.int p0), .val (.long (if (p0 &&& (1 : Int32)) = (0 : Int32) then q2 else q0)), .second, .val (.long (if (p0 &&& (2 : Int32)) = (0 : Int32) then q3 else q1)), .second, .val (.int (((p0.toUInt32 >>> ((2 : Int32) &&& 31).toUInt32).toInt32) &&& (3 : Int32))), .val (.ref b32), .val (.ref b34), .val (.ref w62_w), .unset, .unset]) rfl k) ?_
                show own_Gl _ _ _ _ (T62.setTop (mkF m 122 #[.val (.long q0), .second, .val (.long q1), .second, .val (.long q2), .second, .val (.long q3), .second, .val (.int p0), .val (.long (if (p0 &&& (1 : Int32)) = (0 : Int32) then q2 else q0)), .second, .val (.long (if (p0 &&& (2 : Int32)) = (0 : Int32) then q3 else q1)), .second, .val (.int (((p0.toUInt32 >>> ((2 : Int32) &&& 31).toUInt32).toInt32) &&& (3 : Int32))), .val (.ref b32), .val (.ref b34), .val (.ref w62_w), .unset, .unset] []))
                refine own_go (fun t k => XS.iconst X62.here hx rfl (hb hby at_122) k) ?_
                show own_Gl _ _ _ _ (T62.setTop (mkF m 123 #[.val (.long q0), .second, .val (.long q1), .second, .val (.long q2), .second, .val (.long q3), .second, .val (.int p0), .val (.long (if (p0 &&& (1 : Int32)) = (0 : Int32) then q2 else q0)), .second, .val (.long (if (p0 &&& (2 : Int32)) = (0 : Int32) then q3 else q1)), .second, .val (.int (((p0.toUInt32 >>> ((2 : Int32) &&& 31).toUInt32).toInt32) &&& (3 : Int32))), .val (.ref b32), .val (.ref b34), .val (.ref w62_w), .unset, .unset] [(.int (0 : Int32))]))
                refine own_go (fun t k => XS.istore X62.here hx rfl (hb hby at_123) rfl (l' := #[.val (.long q0), .second, .val (.long q1), .second, .val (.long q2), .second, .val (.long q3), .second, .val (.int p0), .val (.long (if (p0 &&& (1 : Int32)) = (0 : Int32) then q2 else q0)), .second, .val (.long (if (p0 &&& (2 : Int32)) = (0 : Int32) then q3 else q1)), .second, .val (.int (((p0.toUInt32 >>> ((2 : Int32) &&& 31).toUInt32).toInt32) &&& (3 : Int32))), .val (.ref b32), .val (.ref b34), .val (.ref w62_w), .val (.int (0 : Int32)), .unset]) rfl k) ?_
                show own_Gl _ _ _ _ (T62.setTop (mkF m 125 #[.val (.long q0), .second, .val (.long q1), .second, .val (.long q2), .second, .val (.long q3), .second, .val (.int p0), .val (.long (if (p0 &&& (1 : Int32)) = (0 : Int32) then q2 else q0)), .second, .val (.long (if (p0 &&& (2 : Int32)) = (0 : Int32) then q3 else q1)), .second, .val (.int (((p0.toUInt32 >>> ((2 : Int32) &&& 31).toUInt32).toInt32) &&& (3 : Int32))), .val (.ref b32), .val (.ref b34), .val (.ref w62_w), .val (.int (0 : Int32)), .unset] []))
                refine own_go (fun t k => XS.goto X62.here hx rfl (pc0 := 125) (pc' := 135) rfl (hb hby at_125) (by decide) (by decide) k) ?_
                show own_Gl _ _ _ _ (T62.setTop (mkF m 135 #[.val (.long q0), .second, .val (.long q1), .second, .val (.long q2), .second, .val (.long q3), .second, .val (.int p0), .val (.long (if (p0 &&& (1 : Int32)) = (0 : Int32) then q2 else q0)), .second, .val (.long (if (p0 &&& (2 : Int32)) = (0 : Int32) then q3 else q1)), .second, .val (.int (((p0.toUInt32 >>> ((2 : Int32) &&& 31).toUInt32).toInt32) &&& (3 : Int32))), .val (.ref b32), .val (.ref b34), .val (.ref w62_w), .val (.int (0 : Int32)), .unset] []))
                refine own_go (fun t k => XS.aload X62.here hx rfl (hb hby at_135) rfl rfl k) ?_
                show own_Gl _ _ _ _ (T62.setTop (mkF m 137 #[.val (.long q0), .second, .val (.long q1), .second, .val (.long q2), .second, .val (.long q3), .second, .val (.int p0), .val (.long (if (p0 &&& (1 : Int32)) = (0 : Int32) then q2 else q0)), .second, .val (.long (if (p0 &&& (2 : Int32)) = (0 : Int32) then q3 else q1)), .second, .val (.int (((p0.toUInt32 >>> ((2 : Int32) &&& 31).toUInt32).toInt32) &&& (3 : Int32))), .val (.ref b32), .val (.ref b34), .val (.ref w62_w), .val (.int (0 : Int32)), .unset] [(.ref b32)]))
                refine own_go (fun t k => XS.aload X62.here hx rfl (hb hby at_137) rfl rfl k) ?_
                show own_Gl _ _ _ _ (T62.setTop (mkF m 139 #[.val (.long q0), .second, .val (.long q1), .second, .val (.long q2), .second, .val (.long q3), .second, .val (.int p0), .val (.long (if (p0 &&& (1 : Int32)) = (0 : Int32) then q2 else q0)), .second, .val (.long (if (p0 &&& (2 : Int32)) = (0 : Int32) then q3 else q1)), .second, .val (.int (((p0.toUInt32 >>> ((2 : Int32) &&& 31).toUInt32).toInt32) &&& (3 : Int32))), .val (.ref b32), .val (.ref b34), .val (.ref w62_w), .val (.int (0 : Int32)), .unset] [(.ref w62_w), (.ref b32)]))
                have f_67 : Exa Z T62.heap b32 "com/example/omphale/omphale/KeyRange" := (f_64.keep K62q)
                obtain ⟨cq66, kq66, q66a, q66b, q66c⟩ := isOf hZ rfl f_67
                obtain ⟨_, _, ⟨T66, L66, kk66, nn66⟩, -, X66, ⟨Lc66, hQ66, l66, y66, z66⟩, st66⟩ := X62.virtualBack hx (y := (⟨"com/example/omphale/omphale/KeyRange", "equals", "(Ljava/lang/Object;)Z"⟩ : MethodName)) (z := (⟨"com/example/omphale/omphale/KeyRange", "equals", "(Ljava/lang/Object;)Z"⟩ : MethodName)) hown (mvT hZ (hw _ (List.mem_of_getElem? (i := 18) rfl))) (mvT hZ (hw _ (List.mem_of_getElem? (i := 19) rfl))) (notFace_of_selects (args := #[]) (mvT hZ (hw _ (List.mem_of_getElem? (i := 21) rfl)))) (mvT hZ (hw _ (List.mem_of_getElem? (i := 21) rfl))) (mvT hZ (hw _ (List.mem_of_getElem? (i := 20) rfl))) (by decide) (backOf (W := 0) (rmeql l Z a0 hw [] b32 w62_w T62.heap n0 Z62 po62_0) hZ (hw _ (List.mem_of_getElem? (i := 22) rfl)) (hw _ (List.mem_of_getElem? (i := 2) rfl)) (by decide) (by decide)) q66a q66c (g := (mkF m 139 #[.val (.long q0), .second, .val (.long q1), .second, .val (.long q2), .second, .val (.long q3), .second, .val (.int p0), .val (.long (if (p0 &&& (1 : Int32)) = (0 : Int32) then q2 else q0)), .second, .val (.long (if (p0 &&& (2 : Int32)) = (0 : Int32) then q3 else q1)), .second, .val (.int (((p0.toUInt32 >>> ((2 : Int32) &&& 31).toUInt32).toInt32) &&& (3 : Int32))), .val (.ref b32), .val (.ref b34), .val (.ref w62_w), .val (.int (0 : Int32)), .unset] [(.ref w62_w), (.ref b32)])) rfl (by rw [hml]; rfl) (Steps.refl _) (argsL := [(.ref w62_w)]) (rest := []) (lenOf pd_3 rfl) rfl (by show 2 * 0 + _ ≤ _; exact Nat.le_of_eq rfl) (hb hby at_139) (fun _ _ => ⟨rfl, rfl, (by decide : 3 + 0 ≤ _), (by decide : 5 + 0 ≤ _)⟩)
                dsimp only [Pt.U, Pt.locs, Pt.cells, Pt.slots] at X66 l66 y66 z66 st66 hQ66
                subst l66 y66 z66
                obtain ⟨N66q, rfl, hq66⟩ := hQ66
                have N66 := Fr.app N62 N66q
                refine own_go (fun t k => st66.trans k) ?_
                show own_Gl _ _ _ _ (T66.setTop (mkF m 142 #[.val (.long q0), .second, .val (.long q1), .second, .val (.long q2), .second, .val (.long q3), .second, .val (.int p0), .val (.long (if (p0 &&& (1 : Int32)) = (0 : Int32) then q2 else q0)), .second, .val (.long (if (p0 &&& (2 : Int32)) = (0 : Int32) then q3 else q1)), .second, .val (.int (((p0.toUInt32 >>> ((2 : Int32) &&& 31).toUInt32).toInt32) &&& (3 : Int32))), .val (.ref b32), .val (.ref b34), .val (.ref w62_w), .val (.int (0 : Int32)), .unset] [(.int (0 : Int32))]))
                refine own_go (fun t k => XS.istore X66.here hx rfl (hb hby at_142) rfl (l' := #[.val (.long q0), .second, .val (.long q1), .second, .val (.long q2), .second, .val (.long q3), .second, .val (.int p0), .val (.long (if (p0 &&& (1 : Int32)) = (0 : Int32) then q2 else q0)), .second, .val (.long (if (p0 &&& (2 : Int32)) = (0 : Int32) then q3 else q1)), .second, .val (.int (((p0.toUInt32 >>> ((2 : Int32) &&& 31).toUInt32).toInt32) &&& (3 : Int32))), .val (.ref b32), .val (.ref b34), .val (.ref w62_w), .val (.int (0 : Int32)), .val (.int (0 : Int32))]) rfl k) ?_
                show own_Gl _ _ _ _ (T66.setTop (mkF m 144 #[.val (.long q0), .second, .val (.long q1), .second, .val (.long q2), .second, .val (.long q3), .second, .val (.int p0), .val (.long (if (p0 &&& (1 : Int32)) = (0 : Int32) then q2 else q0)), .second, .val (.long (if (p0 &&& (2 : Int32)) = (0 : Int32) then q3 else q1)), .second, .val (.int (((p0.toUInt32 >>> ((2 : Int32) &&& 31).toUInt32).toInt32) &&& (3 : Int32))), .val (.ref b32), .val (.ref b34), .val (.ref w62_w), .val (.int (0 : Int32)), .val (.int (0 : Int32))] []))
                refine own_go (fun t k => XS.iload X66.here hx rfl (hb hby at_144) rfl k) ?_
                show own_Gl _ _ _ _ (T66.setTop (mkF m 146 #[.val (.long q0), .second, .val (.long q1), .second, .val (.long q2), .second, .val (.long q3), .second, .val (.int p0), .val (.long (if (p0 &&& (1 : Int32)) = (0 : Int32) then q2 else q0)), .second, .val (.long (if (p0 &&& (2 : Int32)) = (0 : Int32) then q3 else q1)), .second, .val (.int (((p0.toUInt32 >>> ((2 : Int32) &&& 31).toUInt32).toInt32) &&& (3 : Int32))), .val (.ref b32), .val (.ref b34), .val (.ref w62_w), .val (.int (0 : Int32)), .val (.int (0 : Int32))] [(.int (0 : Int32))]))
                refine own_go (fun t k => XS.iload X66.here hx rfl (hb hby at_146) rfl k) ?_
                show own_Gl _ _ _ _ (T66.setTop (mkF m 148 #[.val (.long q0), .second, .val (.long q1), .second, .val (.long q2), .second, .val (.long q3), .second, .val (.int p0), .val (.long (if (p0 &&& (1 : Int32)) = (0 : Int32) then q2 else q0)), .second, .val (.long (if (p0 &&& (2 : Int32)) = (0 : Int32) then q3 else q1)), .second, .val (.int (((p0.toUInt32 >>> ((2 : Int32) &&& 31).toUInt32).toInt32) &&& (3 : Int32))), .val (.ref b32), .val (.ref b34), .val (.ref w62_w), .val (.int (0 : Int32)), .val (.int (0 : Int32))] [(.int (0 : Int32)), (.int (0 : Int32))]))
                refine own_go (fun t k => XS.icmpYes X66.here hx rfl (pc0 := 148) (pc' := 153) rfl (hb hby at_148) rfl (teq (by decide : (0 : Int32) = (0 : Int32))).1 (by decide) (by decide) k) ?_
                show own_Gl _ _ _ _ (T66.setTop (mkF m 153 #[.val (.long q0), .second, .val (.long q1), .second, .val (.long q2), .second, .val (.long q3), .second, .val (.int p0), .val (.long (if (p0 &&& (1 : Int32)) = (0 : Int32) then q2 else q0)), .second, .val (.long (if (p0 &&& (2 : Int32)) = (0 : Int32) then q3 else q1)), .second, .val (.int (((p0.toUInt32 >>> ((2 : Int32) &&& 31).toUInt32).toInt32) &&& (3 : Int32))), .val (.ref b32), .val (.ref b34), .val (.ref w62_w), .val (.int (0 : Int32)), .val (.int (0 : Int32))] []))
                refine own_go (fun t k => XS.iload X66.here hx rfl (hb hby at_153) rfl k) ?_
                show own_Gl _ _ _ _ (T66.setTop (mkF m 155 #[.val (.long q0), .second, .val (.long q1), .second, .val (.long q2), .second, .val (.long q3), .second, .val (.int p0), .val (.long (if (p0 &&& (1 : Int32)) = (0 : Int32) then q2 else q0)), .second, .val (.long (if (p0 &&& (2 : Int32)) = (0 : Int32) then q3 else q1)), .second, .val (.int (((p0.toUInt32 >>> ((2 : Int32) &&& 31).toUInt32).toInt32) &&& (3 : Int32))), .val (.ref b32), .val (.ref b34), .val (.ref w62_w), .val (.int (0 : Int32)), .val (.int (0 : Int32))] [(.int (((p0.toUInt32 >>> ((2 : Int32) &&& 31).toUInt32).toInt32) &&& (3 : Int32)))]))
                refine own_go (fun t k => XS.ifYes X66.here hx rfl (pc0 := 155) (pc' := 176) rfl (hb hby at_155) rfl ((if0 _ _).trans (feq hc64_38).2) (by decide) (by decide) k) ?_
                show own_Gl _ _ _ _ (T66.setTop (mkF m 176 #[.val (.long q0), .second, .val (.long q1), .second, .val (.long q2), .second, .val (.long q3), .second, .val (.int p0), .val (.long (if (p0 &&& (1 : Int32)) = (0 : Int32) then q2 else q0)), .second, .val (.long (if (p0 &&& (2 : Int32)) = (0 : Int32) then q3 else q1)), .second, .val (.int (((p0.toUInt32 >>> ((2 : Int32) &&& 31).toUInt32).toInt32) &&& (3 : Int32))), .val (.ref b32), .val (.ref b34), .val (.ref w62_w), .val (.int (0 : Int32)), .val (.int (0 : Int32))] []))
                refine own_go (fun t k => XS.iconst X66.here hx rfl (hb hby at_176) k) ?_
                show own_Gl _ _ _ _ (T66.setTop (mkF m 177 #[.val (.long q0), .second, .val (.long q1), .second, .val (.long q2), .second, .val (.long q3), .second, .val (.int p0), .val (.long (if (p0 &&& (1 : Int32)) = (0 : Int32) then q2 else q0)), .second, .val (.long (if (p0 &&& (2 : Int32)) = (0 : Int32) then q3 else q1)), .second, .val (.int (((p0.toUInt32 >>> ((2 : Int32) &&& 31).toUInt32).toInt32) &&& (3 : Int32))), .val (.ref b32), .val (.ref b34), .val (.ref w62_w), .val (.int (0 : Int32)), .val (.int (0 : Int32))] [(.int (1 : Int32))]))
                obtain ⟨fs, hr, hrun, hended, hW, hsame⟩ := X66.leave (v := some (.int (1 : Int32))) (fun h => by rw [Bd.returns] at h; cases h)
                refine own_fin (retN X66 hx (t := .boolean) Bd.returns (by simp) (hb hby at_177) hr) hrun hended ⟨_, _, rfl, ?_, ⟨_, rfl⟩, hW, hsame.mono (by decide) (by decide)⟩
                show Q0 Z q0 q1 q2 q3 p0 ca kA vs h0 n0 _ T66.heap _
                rw [hq66]
                exact ⟨N66, by rw [f0, if_neg hc64_38, if_neg hc98_50, if_pos hc113_53, if_neg hc117_54, if_pos hc117_61]⟩
              · obtain ⟨wL68, hvwL68, hEwL68⟩ := hall _ (own_idn (own_idx hc117_54 hc117_61))
                show own_Gl _ _ _ _ (T37.setTop (mkF m 117 #[.val (.long q0), .second, .val (.long q1), .second, .val (.long q2), .second, .val (.long q3), .second, .val (.int p0), .val (.long (if (p0 &&& (1 : Int32)) = (0 : Int32) then q2 else q0)), .second, .val (.long (if (p0 &&& (2 : Int32)) = (0 : Int32) then q3 else q1)), .second, .val (.int (((p0.toUInt32 >>> ((2 : Int32) &&& 31).toUInt32).toInt32) &&& (3 : Int32))), .val (.ref b32), .val (.ref b34), .unset, .unset, .unset] [(.long q0)]))
                have f_69 : Sta Z T37.heap "java/lang/Long$LongCache" "cache" "[Ljava/lang/Long;" (.ref ca) := (P0.ext (own_ext K37))
                have f_70 : Arv Z T37.heap ca kA (.object "java/lang/Long") (256 : Int32) vs .null := (P1.ext (own_ext K37))
                obtain ⟨_, _, ⟨T71, L71, kk71, nn71⟩, -, X71, ⟨Lc71, hQ71, l71, y71, z71⟩, st71⟩ := Jvm.LawKit.callS X37 hx (y := (⟨"java/lang/Long", "valueOf", "(J)Ljava/lang/Long;"⟩ : MethodName)) hown (mvT hZ (hw _ (List.mem_of_getElem? (i := 25) rfl))) (mvT hZ (hw _ (List.mem_of_getElem? (i := 26) rfl))) (mvT hZ (hw _ (List.mem_of_getElem? (i := 27) rfl))) (mvT hZ (hw _ (List.mem_of_getElem? (i := 28) rfl))) (by decide) (backOf (W := 0) (rmvoc l Z a0 hw [] q0 ca kA vs wL68 T37.heap n0 Z37 f_69 f_70 hc117_54 hc117_61 (own_idx hc117_54 hc117_61) hvwL68) hZ (hw _ (List.mem_of_getElem? (i := 28) rfl)) (hw _ (List.mem_of_getElem? (i := 27) rfl)) (by decide) (by decide)) (g := (mkF m 117 #[.val (.long q0), .second, .val (.long q1), .second, .val (.long q2), .second, .val (.long q3), .second, .val (.int p0), .val (.long (if (p0 &&& (1 : Int32)) = (0 : Int32) then q2 else q0)), .second, .val (.long (if (p0 &&& (2 : Int32)) = (0 : Int32) then q3 else q1)), .second, .val (.int (((p0.toUInt32 >>> ((2 : Int32) &&& 31).toUInt32).toInt32) &&& (3 : Int32))), .val (.ref b32), .val (.ref b34), .unset, .unset, .unset] [(.long q0)])) rfl (by rw [hml]; rfl) (argsL := [(.long q0)]) (rest := []) (lenOf pd_4 rfl) rfl (by show 2 * 0 + _ ≤ _; exact Nat.le_of_eq rfl) (hb hby at_117) (fun _ _ => ⟨rfl, rfl, (by decide : 2 + 0 ≤ _), (by decide : 4 + 0 ≤ _)⟩)
                dsimp only [Pt.U, Pt.locs, Pt.cells, Pt.slots] at X71 l71 y71 z71 st71 hQ71
                subst l71 y71 z71
                obtain ⟨N71q, rfl, hq71⟩ := hQ71
                have N71 := Fr.app N37 N71q
                refine own_go (fun t k => st71 _ k) ?_
                show own_Gl _ _ _ _ (T71.setTop (mkF m 120 #[.val (.long q0), .second, .val (.long q1), .second, .val (.long q2), .second, .val (.long q3), .second, .val (.int p0), .val (.long (if (p0 &&& (1 : Int32)) = (0 : Int32) then q2 else q0)), .second, .val (.long (if (p0 &&& (2 : Int32)) = (0 : Int32) then q3 else q1)), .second, .val (.int (((p0.toUInt32 >>> ((2 : Int32) &&& 31).toUInt32).toInt32) &&& (3 : Int32))), .val (.ref b32), .val (.ref b34), .unset, .unset, .unset] [(.ref wL68)]))
                refine own_go (fun t k => XS.astore X71.here hx rfl (hb hby at_120) rfl rfl (l' := #[.val (.long q0), .second, .val (.long q1), .second, .val (.long q2), .second, .val (.long q3), .second, .val (.int p0), .val (.long (if (p0 &&& (1 : Int32)) = (0 : Int32) then q2 else q0)), .second, .val (.long (if (p0 &&& (2 : Int32)) = (0 : Int32) then q3 else q1)), .second, .val (.int (((p0.toUInt32 >>> ((2 : Int32) &&& 31).toUInt32).toInt32) &&& (3 : Int32))), .val (.ref b32), .val (.ref b34), .val (.ref wL68), .unset, .unset]) rfl k) ?_
                show own_Gl _ _ _ _ (T71.setTop (mkF m 122 #[.val (.long q0), .second, .val (.long q1), .second, .val (.long q2), .second, .val (.long q3), .second, .val (.int p0), .val (.long (if (p0 &&& (1 : Int32)) = (0 : Int32) then q2 else q0)), .second, .val (.long (if (p0 &&& (2 : Int32)) = (0 : Int32) then q3 else q1)), .second, .val (.int (((p0.toUInt32 >>> ((2 : Int32) &&& 31).toUInt32).toInt32) &&& (3 : Int32))), .val (.ref b32), .val (.ref b34), .val (.ref wL68), .unset, .unset] []))
                refine own_go (fun t k => XS.iconst X71.here hx rfl (hb hby at_122) k) ?_
                show own_Gl _ _ _ _ (T71.setTop (mkF m 123 #[.val (.long q0), .second, .val (.long q1), .second, .val (.long q2), .second, .val (.long q3), .second, .val (.int p0), .val (.long (if (p0 &&& (1 : Int32)) = (0 : Int32) then q2 else q0)), .second, .val (.long (if (p0 &&& (2 : Int32)) = (0 : Int32) then q3 else q1)), .second, .val (.int (((p0.toUInt32 >>> ((2 : Int32) &&& 31).toUInt32).toInt32) &&& (3 : Int32))), .val (.ref b32), .val (.ref b34), .val (.ref wL68), .unset, .unset] [(.int (0 : Int32))]))
                refine own_go (fun t k => XS.istore X71.here hx rfl (hb hby at_123) rfl (l' := #[.val (.long q0), .second, .val (.long q1), .second, .val (.long q2), .second, .val (.long q3), .second, .val (.int p0), .val (.long (if (p0 &&& (1 : Int32)) = (0 : Int32) then q2 else q0)), .second, .val (.long (if (p0 &&& (2 : Int32)) = (0 : Int32) then q3 else q1)), .second, .val (.int (((p0.toUInt32 >>> ((2 : Int32) &&& 31).toUInt32).toInt32) &&& (3 : Int32))), .val (.ref b32), .val (.ref b34), .val (.ref wL68), .val (.int (0 : Int32)), .unset]) rfl k) ?_
                show own_Gl _ _ _ _ (T71.setTop (mkF m 125 #[.val (.long q0), .second, .val (.long q1), .second, .val (.long q2), .second, .val (.long q3), .second, .val (.int p0), .val (.long (if (p0 &&& (1 : Int32)) = (0 : Int32) then q2 else q0)), .second, .val (.long (if (p0 &&& (2 : Int32)) = (0 : Int32) then q3 else q1)), .second, .val (.int (((p0.toUInt32 >>> ((2 : Int32) &&& 31).toUInt32).toInt32) &&& (3 : Int32))), .val (.ref b32), .val (.ref b34), .val (.ref wL68), .val (.int (0 : Int32)), .unset] []))
                refine own_go (fun t k => XS.goto X71.here hx rfl (pc0 := 125) (pc' := 135) rfl (hb hby at_125) (by decide) (by decide) k) ?_
                show own_Gl _ _ _ _ (T71.setTop (mkF m 135 #[.val (.long q0), .second, .val (.long q1), .second, .val (.long q2), .second, .val (.long q3), .second, .val (.int p0), .val (.long (if (p0 &&& (1 : Int32)) = (0 : Int32) then q2 else q0)), .second, .val (.long (if (p0 &&& (2 : Int32)) = (0 : Int32) then q3 else q1)), .second, .val (.int (((p0.toUInt32 >>> ((2 : Int32) &&& 31).toUInt32).toInt32) &&& (3 : Int32))), .val (.ref b32), .val (.ref b34), .val (.ref wL68), .val (.int (0 : Int32)), .unset] []))
                refine own_go (fun t k => XS.aload X71.here hx rfl (hb hby at_135) rfl rfl k) ?_
                show own_Gl _ _ _ _ (T71.setTop (mkF m 137 #[.val (.long q0), .second, .val (.long q1), .second, .val (.long q2), .second, .val (.long q3), .second, .val (.int p0), .val (.long (if (p0 &&& (1 : Int32)) = (0 : Int32) then q2 else q0)), .second, .val (.long (if (p0 &&& (2 : Int32)) = (0 : Int32) then q3 else q1)), .second, .val (.int (((p0.toUInt32 >>> ((2 : Int32) &&& 31).toUInt32).toInt32) &&& (3 : Int32))), .val (.ref b32), .val (.ref b34), .val (.ref wL68), .val (.int (0 : Int32)), .unset] [(.ref b32)]))
                refine own_go (fun t k => XS.aload X71.here hx rfl (hb hby at_137) rfl rfl k) ?_
                show own_Gl _ _ _ _ (T71.setTop (mkF m 139 #[.val (.long q0), .second, .val (.long q1), .second, .val (.long q2), .second, .val (.long q3), .second, .val (.int p0), .val (.long (if (p0 &&& (1 : Int32)) = (0 : Int32) then q2 else q0)), .second, .val (.long (if (p0 &&& (2 : Int32)) = (0 : Int32) then q3 else q1)), .second, .val (.int (((p0.toUInt32 >>> ((2 : Int32) &&& 31).toUInt32).toInt32) &&& (3 : Int32))), .val (.ref b32), .val (.ref b34), .val (.ref wL68), .val (.int (0 : Int32)), .unset] [(.ref wL68), (.ref b32)]))
                have f_72 : Exa Z T37.heap wL68 "java/lang/Long" := (hEwL68.ext (own_ext K37))
                have f_74 : Exa Z T37.heap b32 "com/example/omphale/omphale/KeyRange" := ((f_36.ext E34).keep K37q)
                obtain ⟨cq73, kq73, q73a, q73b, q73c⟩ := isOf hZ hq71 f_74
                obtain ⟨_, _, ⟨T73, L73, kk73, nn73⟩, -, X73, ⟨Lc73, hQ73, l73, y73, z73⟩, st73⟩ := X71.virtualBack hx (y := (⟨"com/example/omphale/omphale/KeyRange", "equals", "(Ljava/lang/Object;)Z"⟩ : MethodName)) (z := (⟨"com/example/omphale/omphale/KeyRange", "equals", "(Ljava/lang/Object;)Z"⟩ : MethodName)) hown (mvT hZ (hw _ (List.mem_of_getElem? (i := 18) rfl))) (mvT hZ (hw _ (List.mem_of_getElem? (i := 19) rfl))) (notFace_of_selects (args := #[]) (mvT hZ (hw _ (List.mem_of_getElem? (i := 21) rfl)))) (mvT hZ (hw _ (List.mem_of_getElem? (i := 21) rfl))) (mvT hZ (hw _ (List.mem_of_getElem? (i := 20) rfl))) (by decide) (backOf (W := 0) (rmeql l Z a0 hw [] b32 wL68 T37.heap n0 Z37 f_72) hZ (hw _ (List.mem_of_getElem? (i := 22) rfl)) (hw _ (List.mem_of_getElem? (i := 2) rfl)) (by decide) (by decide)) q73a q73c (g := (mkF m 139 #[.val (.long q0), .second, .val (.long q1), .second, .val (.long q2), .second, .val (.long q3), .second, .val (.int p0), .val (.long (if (p0 &&& (1 : Int32)) = (0 : Int32) then q2 else q0)), .second, .val (.long (if (p0 &&& (2 : Int32)) = (0 : Int32) then q3 else q1)), .second, .val (.int (((p0.toUInt32 >>> ((2 : Int32) &&& 31).toUInt32).toInt32) &&& (3 : Int32))), .val (.ref b32), .val (.ref b34), .val (.ref wL68), .val (.int (0 : Int32)), .unset] [(.ref wL68), (.ref b32)])) rfl (by rw [hml]; rfl) (Steps.refl _) (argsL := [(.ref wL68)]) (rest := []) (lenOf pd_3 rfl) rfl (by show 2 * 0 + _ ≤ _; exact Nat.le_of_eq rfl) (hb hby at_139) (fun _ _ => ⟨rfl, hq71, (by decide : 2 + 0 ≤ _), (by decide : 4 + 0 ≤ _)⟩)
                dsimp only [Pt.U, Pt.locs, Pt.cells, Pt.slots] at X73 l73 y73 z73 st73 hQ73
                subst l73 y73 z73
                obtain ⟨N73q, rfl, hq73⟩ := hQ73
                have N73 := Fr.app N71 N73q
                refine own_go (fun t k => st73.trans k) ?_
                show own_Gl _ _ _ _ (T73.setTop (mkF m 142 #[.val (.long q0), .second, .val (.long q1), .second, .val (.long q2), .second, .val (.long q3), .second, .val (.int p0), .val (.long (if (p0 &&& (1 : Int32)) = (0 : Int32) then q2 else q0)), .second, .val (.long (if (p0 &&& (2 : Int32)) = (0 : Int32) then q3 else q1)), .second, .val (.int (((p0.toUInt32 >>> ((2 : Int32) &&& 31).toUInt32).toInt32) &&& (3 : Int32))), .val (.ref b32), .val (.ref b34), .val (.ref wL68), .val (.int (0 : Int32)), .unset] [(.int (0 : Int32))]))
                refine own_go (fun t k => XS.istore X73.here hx rfl (hb hby at_142) rfl (l' := #[.val (.long q0), .second, .val (.long q1), .second, .val (.long q2), .second, .val (.long q3), .second, .val (.int p0), .val (.long (if (p0 &&& (1 : Int32)) = (0 : Int32) then q2 else q0)), .second, .val (.long (if (p0 &&& (2 : Int32)) = (0 : Int32) then q3 else q1)), .second, .val (.int (((p0.toUInt32 >>> ((2 : Int32) &&& 31).toUInt32).toInt32) &&& (3 : Int32))), .val (.ref b32), .val (.ref b34), .val (.ref wL68), .val (.int (0 : Int32)), .val (.int (0 : Int32))]) rfl k) ?_
                show own_Gl _ _ _ _ (T73.setTop (mkF m 144 #[.val (.long q0), .second, .val (.long q1), .second, .val (.long q2), .second, .val (.long q3), .second, .val (.int p0), .val (.long (if (p0 &&& (1 : Int32)) = (0 : Int32) then q2 else q0)), .second, .val (.long (if (p0 &&& (2 : Int32)) = (0 : Int32) then q3 else q1)), .second, .val (.int (((p0.toUInt32 >>> ((2 : Int32) &&& 31).toUInt32).toInt32) &&& (3 : Int32))), .val (.ref b32), .val (.ref b34), .val (.ref wL68), .val (.int (0 : Int32)), .val (.int (0 : Int32))] []))
                refine own_go (fun t k => XS.iload X73.here hx rfl (hb hby at_144) rfl k) ?_
                show own_Gl _ _ _ _ (T73.setTop (mkF m 146 #[.val (.long q0), .second, .val (.long q1), .second, .val (.long q2), .second, .val (.long q3), .second, .val (.int p0), .val (.long (if (p0 &&& (1 : Int32)) = (0 : Int32) then q2 else q0)), .second, .val (.long (if (p0 &&& (2 : Int32)) = (0 : Int32) then q3 else q1)), .second, .val (.int (((p0.toUInt32 >>> ((2 : Int32) &&& 31).toUInt32).toInt32) &&& (3 : Int32))), .val (.ref b32), .val (.ref b34), .val (.ref wL68), .val (.int (0 : Int32)), .val (.int (0 : Int32))] [(.int (0 : Int32))]))
                refine own_go (fun t k => XS.iload X73.here hx rfl (hb hby at_146) rfl k) ?_
                show own_Gl _ _ _ _ (T73.setTop (mkF m 148 #[.val (.long q0), .second, .val (.long q1), .second, .val (.long q2), .second, .val (.long q3), .second, .val (.int p0), .val (.long (if (p0 &&& (1 : Int32)) = (0 : Int32) then q2 else q0)), .second, .val (.long (if (p0 &&& (2 : Int32)) = (0 : Int32) then q3 else q1)), .second, .val (.int (((p0.toUInt32 >>> ((2 : Int32) &&& 31).toUInt32).toInt32) &&& (3 : Int32))), .val (.ref b32), .val (.ref b34), .val (.ref wL68), .val (.int (0 : Int32)), .val (.int (0 : Int32))] [(.int (0 : Int32)), (.int (0 : Int32))]))
                refine own_go (fun t k => XS.icmpYes X73.here hx rfl (pc0 := 148) (pc' := 153) rfl (hb hby at_148) rfl (teq (by decide : (0 : Int32) = (0 : Int32))).1 (by decide) (by decide) k) ?_
                show own_Gl _ _ _ _ (T73.setTop (mkF m 153 #[.val (.long q0), .second, .val (.long q1), .second, .val (.long q2), .second, .val (.long q3), .second, .val (.int p0), .val (.long (if (p0 &&& (1 : Int32)) = (0 : Int32) then q2 else q0)), .second, .val (.long (if (p0 &&& (2 : Int32)) = (0 : Int32) then q3 else q1)), .second, .val (.int (((p0.toUInt32 >>> ((2 : Int32) &&& 31).toUInt32).toInt32) &&& (3 : Int32))), .val (.ref b32), .val (.ref b34), .val (.ref wL68), .val (.int (0 : Int32)), .val (.int (0 : Int32))] []))
                refine own_go (fun t k => XS.iload X73.here hx rfl (hb hby at_153) rfl k) ?_
                show own_Gl _ _ _ _ (T73.setTop (mkF m 155 #[.val (.long q0), .second, .val (.long q1), .second, .val (.long q2), .second, .val (.long q3), .second, .val (.int p0), .val (.long (if (p0 &&& (1 : Int32)) = (0 : Int32) then q2 else q0)), .second, .val (.long (if (p0 &&& (2 : Int32)) = (0 : Int32) then q3 else q1)), .second, .val (.int (((p0.toUInt32 >>> ((2 : Int32) &&& 31).toUInt32).toInt32) &&& (3 : Int32))), .val (.ref b32), .val (.ref b34), .val (.ref wL68), .val (.int (0 : Int32)), .val (.int (0 : Int32))] [(.int (((p0.toUInt32 >>> ((2 : Int32) &&& 31).toUInt32).toInt32) &&& (3 : Int32)))]))
                refine own_go (fun t k => XS.ifYes X73.here hx rfl (pc0 := 155) (pc' := 176) rfl (hb hby at_155) rfl ((if0 _ _).trans (feq hc64_38).2) (by decide) (by decide) k) ?_
                show own_Gl _ _ _ _ (T73.setTop (mkF m 176 #[.val (.long q0), .second, .val (.long q1), .second, .val (.long q2), .second, .val (.long q3), .second, .val (.int p0), .val (.long (if (p0 &&& (1 : Int32)) = (0 : Int32) then q2 else q0)), .second, .val (.long (if (p0 &&& (2 : Int32)) = (0 : Int32) then q3 else q1)), .second, .val (.int (((p0.toUInt32 >>> ((2 : Int32) &&& 31).toUInt32).toInt32) &&& (3 : Int32))), .val (.ref b32), .val (.ref b34), .val (.ref wL68), .val (.int (0 : Int32)), .val (.int (0 : Int32))] []))
                refine own_go (fun t k => XS.iconst X73.here hx rfl (hb hby at_176) k) ?_
                show own_Gl _ _ _ _ (T73.setTop (mkF m 177 #[.val (.long q0), .second, .val (.long q1), .second, .val (.long q2), .second, .val (.long q3), .second, .val (.int p0), .val (.long (if (p0 &&& (1 : Int32)) = (0 : Int32) then q2 else q0)), .second, .val (.long (if (p0 &&& (2 : Int32)) = (0 : Int32) then q3 else q1)), .second, .val (.int (((p0.toUInt32 >>> ((2 : Int32) &&& 31).toUInt32).toInt32) &&& (3 : Int32))), .val (.ref b32), .val (.ref b34), .val (.ref wL68), .val (.int (0 : Int32)), .val (.int (0 : Int32))] [(.int (1 : Int32))]))
                obtain ⟨fs, hr, hrun, hended, hW, hsame⟩ := X73.leave (v := some (.int (1 : Int32))) (fun h => by rw [Bd.returns] at h; cases h)
                refine own_fin (retN X73 hx (t := .boolean) Bd.returns (by simp) (hb hby at_177) hr) hrun hended ⟨_, _, rfl, ?_, ⟨_, rfl⟩, hW, hsame.mono (by decide) (by decide)⟩
                show Q0 Z q0 q1 q2 q3 p0 ca kA vs h0 n0 _ T73.heap _
                rw [hq73]
                exact ⟨N73, by rw [f0, if_neg hc64_38, if_neg hc98_50, if_pos hc113_53, if_neg hc117_54, if_neg hc117_61]⟩
          · refine own_go (fun t k => XS.icmpYes X37.here hx rfl (pc0 := 113) (pc' := 128) rfl (hb hby at_113) rfl (feq hc113_53).2 (by decide) (by decide) k) ?_
            show own_Gl _ _ _ _ (T37.setTop (mkF m 128 #[.val (.long q0), .second, .val (.long q1), .second, .val (.long q2), .second, .val (.long q3), .second, .val (.int p0), .val (.long (if (p0 &&& (1 : Int32)) = (0 : Int32) then q2 else q0)), .second, .val (.long (if (p0 &&& (2 : Int32)) = (0 : Int32) then q3 else q1)), .second, .val (.int (((p0.toUInt32 >>> ((2 : Int32) &&& 31).toUInt32).toInt32) &&& (3 : Int32))), .val (.ref b32), .val (.ref b34), .unset, .unset, .unset] []))
            refine own_go (fun t k => XS.aload X37.here hx rfl (hb hby at_128) rfl rfl k) ?_
            show own_Gl _ _ _ _ (T37.setTop (mkF m 130 #[.val (.long q0), .second, .val (.long q1), .second, .val (.long q2), .second, .val (.long q3), .second, .val (.int p0), .val (.long (if (p0 &&& (1 : Int32)) = (0 : Int32) then q2 else q0)), .second, .val (.long (if (p0 &&& (2 : Int32)) = (0 : Int32) then q3 else q1)), .second, .val (.int (((p0.toUInt32 >>> ((2 : Int32) &&& 31).toUInt32).toInt32) &&& (3 : Int32))), .val (.ref b32), .val (.ref b34), .unset, .unset, .unset] [(.ref b32)]))
            refine own_go (fun t k => XS.astore X37.here hx rfl (hb hby at_130) rfl rfl (l' := #[.val (.long q0), .second, .val (.long q1), .second, .val (.long q2), .second, .val (.long q3), .second, .val (.int p0), .val (.long (if (p0 &&& (1 : Int32)) = (0 : Int32) then q2 else q0)), .second, .val (.long (if (p0 &&& (2 : Int32)) = (0 : Int32) then q3 else q1)), .second, .val (.int (((p0.toUInt32 >>> ((2 : Int32) &&& 31).toUInt32).toInt32) &&& (3 : Int32))), .val (.ref b32), .val (.ref b34), .val (.ref b32), .unset, .unset]) rfl k) ?_
            show own_Gl _ _ _ _ (T37.setTop (mkF m 132 #[.val (.long q0), .second, .val (.long q1), .second, .val (.long q2), .second, .val (.long q3), .second, .val (.int p0), .val (.long (if (p0 &&& (1 : Int32)) = (0 : Int32) then q2 else q0)), .second, .val (.long (if (p0 &&& (2 : Int32)) = (0 : Int32) then q3 else q1)), .second, .val (.int (((p0.toUInt32 >>> ((2 : Int32) &&& 31).toUInt32).toInt32) &&& (3 : Int32))), .val (.ref b32), .val (.ref b34), .val (.ref b32), .unset, .unset] []))
            refine own_go (fun t k => XS.iconst X37.here hx rfl (hb hby at_132) k) ?_
            show own_Gl _ _ _ _ (T37.setTop (mkF m 133 #[.val (.long q0), .second, .val (.long q1), .second, .val (.long q2), .second, .val (.long q3), .second, .val (.int p0), .val (.long (if (p0 &&& (1 : Int32)) = (0 : Int32) then q2 else q0)), .second, .val (.long (if (p0 &&& (2 : Int32)) = (0 : Int32) then q3 else q1)), .second, .val (.int (((p0.toUInt32 >>> ((2 : Int32) &&& 31).toUInt32).toInt32) &&& (3 : Int32))), .val (.ref b32), .val (.ref b34), .val (.ref b32), .unset, .unset] [(.int (1 : Int32))]))
            refine own_go (fun t k => XS.istore X37.here hx rfl (hb hby at_133) rfl (l' := #[.val (.long q0), .second, .val (.long q1), .second, .val (.long q2), .second, .val (.long q3), .second, .val (.int p0), .val (.long (if (p0 &&& (1 : Int32)) = (0 : Int32) then q2 else q0)), .second, .val (.long (if (p0 &&& (2 : Int32)) = (0 : Int32) then q3 else q1)), .second, .val (.int (((p0.toUInt32 >>> ((2 : Int32) &&& 31).toUInt32).toInt32) &&& (3 : Int32))), .val (.ref b32), .val (.ref b34), .val (.ref b32), .val (.int (1 : Int32)), .unset]) rfl k) ?_
            show own_Gl _ _ _ _ (T37.setTop (mkF m 135 #[.val (.long q0), .second, .val (.long q1), .second, .val (.long q2), .second, .val (.long q3), .second, .val (.int p0), .val (.long (if (p0 &&& (1 : Int32)) = (0 : Int32) then q2 else q0)), .second, .val (.long (if (p0 &&& (2 : Int32)) = (0 : Int32) then q3 else q1)), .second, .val (.int (((p0.toUInt32 >>> ((2 : Int32) &&& 31).toUInt32).toInt32) &&& (3 : Int32))), .val (.ref b32), .val (.ref b34), .val (.ref b32), .val (.int (1 : Int32)), .unset] []))
            refine own_go (fun t k => XS.aload X37.here hx rfl (hb hby at_135) rfl rfl k) ?_
            show own_Gl _ _ _ _ (T37.setTop (mkF m 137 #[.val (.long q0), .second, .val (.long q1), .second, .val (.long q2), .second, .val (.long q3), .second, .val (.int p0), .val (.long (if (p0 &&& (1 : Int32)) = (0 : Int32) then q2 else q0)), .second, .val (.long (if (p0 &&& (2 : Int32)) = (0 : Int32) then q3 else q1)), .second, .val (.int (((p0.toUInt32 >>> ((2 : Int32) &&& 31).toUInt32).toInt32) &&& (3 : Int32))), .val (.ref b32), .val (.ref b34), .val (.ref b32), .val (.int (1 : Int32)), .unset] [(.ref b32)]))
            refine own_go (fun t k => XS.aload X37.here hx rfl (hb hby at_137) rfl rfl k) ?_
            show own_Gl _ _ _ _ (T37.setTop (mkF m 139 #[.val (.long q0), .second, .val (.long q1), .second, .val (.long q2), .second, .val (.long q3), .second, .val (.int p0), .val (.long (if (p0 &&& (1 : Int32)) = (0 : Int32) then q2 else q0)), .second, .val (.long (if (p0 &&& (2 : Int32)) = (0 : Int32) then q3 else q1)), .second, .val (.int (((p0.toUInt32 >>> ((2 : Int32) &&& 31).toUInt32).toInt32) &&& (3 : Int32))), .val (.ref b32), .val (.ref b34), .val (.ref b32), .val (.int (1 : Int32)), .unset] [(.ref b32), (.ref b32)]))
            have f_75 : Fld Z T37.heap b32 "com/example/omphale/omphale/KeyRange" "startExclusive" "J" (.long q0) := ((po33_0.ext E34).keep K37q (ninS ne_b32_b34 nin0))
            have f_76 : Fld Z T37.heap b32 "com/example/omphale/omphale/KeyRange" "endInclusive" "J" (.long q1) := ((po33_1.ext E34).keep K37q (ninS ne_b32_b34 nin0))
            have f_77 : Exa Z T37.heap b32 "com/example/omphale/omphale/KeyRange" := ((f_36.ext E34).keep K37q)
            obtain ⟨cq78, kq78, q78a, q78b, q78c⟩ := isOf hZ rfl f_77
            obtain ⟨_, _, ⟨T78, L78, kk78, nn78⟩, -, X78, ⟨Lc78, hQ78, l78, y78, z78⟩, st78⟩ := X37.virtualBack hx (y := (⟨"com/example/omphale/omphale/KeyRange", "equals", "(Ljava/lang/Object;)Z"⟩ : MethodName)) (z := (⟨"com/example/omphale/omphale/KeyRange", "equals", "(Ljava/lang/Object;)Z"⟩ : MethodName)) hown (mvT hZ (hw _ (List.mem_of_getElem? (i := 18) rfl))) (mvT hZ (hw _ (List.mem_of_getElem? (i := 19) rfl))) (notFace_of_selects (args := #[]) (mvT hZ (hw _ (List.mem_of_getElem? (i := 21) rfl)))) (mvT hZ (hw _ (List.mem_of_getElem? (i := 21) rfl))) (mvT hZ (hw _ (List.mem_of_getElem? (i := 20) rfl))) (by decide) (backOf (W := 0) (rmeqk l Z a0 hw [] b32 b32 q0 q1 q0 q1 T37.heap n0 Z37 f_75 f_76 f_77 f_75 f_76) hZ (hw _ (List.mem_of_getElem? (i := 22) rfl)) (hw _ (List.mem_of_getElem? (i := 2) rfl)) (by decide) (by decide)) q78a q78c (g := (mkF m 139 #[.val (.long q0), .second, .val (.long q1), .second, .val (.long q2), .second, .val (.long q3), .second, .val (.int p0), .val (.long (if (p0 &&& (1 : Int32)) = (0 : Int32) then q2 else q0)), .second, .val (.long (if (p0 &&& (2 : Int32)) = (0 : Int32) then q3 else q1)), .second, .val (.int (((p0.toUInt32 >>> ((2 : Int32) &&& 31).toUInt32).toInt32) &&& (3 : Int32))), .val (.ref b32), .val (.ref b34), .val (.ref b32), .val (.int (1 : Int32)), .unset] [(.ref b32), (.ref b32)])) rfl (by rw [hml]; rfl) (Steps.refl _) (argsL := [(.ref b32)]) (rest := []) (lenOf pd_3 rfl) rfl (by show 2 * 0 + _ ≤ _; exact Nat.le_of_eq rfl) (hb hby at_139) (fun _ _ => ⟨rfl, rfl, (by decide : 2 + 0 ≤ _), (by decide : 4 + 0 ≤ _)⟩)
            dsimp only [Pt.U, Pt.locs, Pt.cells, Pt.slots] at X78 l78 y78 z78 st78 hQ78
            subst l78 y78 z78
            obtain ⟨N78q, rfl, hq78⟩ := hQ78
            have N78 := Fr.app N37 N78q
            refine own_go (fun t k => st78.trans k) ?_
            show own_Gl _ _ _ _ (T78.setTop (mkF m 142 #[.val (.long q0), .second, .val (.long q1), .second, .val (.long q2), .second, .val (.long q3), .second, .val (.int p0), .val (.long (if (p0 &&& (1 : Int32)) = (0 : Int32) then q2 else q0)), .second, .val (.long (if (p0 &&& (2 : Int32)) = (0 : Int32) then q3 else q1)), .second, .val (.int (((p0.toUInt32 >>> ((2 : Int32) &&& 31).toUInt32).toInt32) &&& (3 : Int32))), .val (.ref b32), .val (.ref b34), .val (.ref b32), .val (.int (1 : Int32)), .unset] [(.int (feqk q0 q1 q0 q1))]))
            refine own_go (fun t k => XS.istore X78.here hx rfl (hb hby at_142) rfl (l' := #[.val (.long q0), .second, .val (.long q1), .second, .val (.long q2), .second, .val (.long q3), .second, .val (.int p0), .val (.long (if (p0 &&& (1 : Int32)) = (0 : Int32) then q2 else q0)), .second, .val (.long (if (p0 &&& (2 : Int32)) = (0 : Int32) then q3 else q1)), .second, .val (.int (((p0.toUInt32 >>> ((2 : Int32) &&& 31).toUInt32).toInt32) &&& (3 : Int32))), .val (.ref b32), .val (.ref b34), .val (.ref b32), .val (.int (1 : Int32)), .val (.int (feqk q0 q1 q0 q1))]) rfl k) ?_
            show own_Gl _ _ _ _ (T78.setTop (mkF m 144 #[.val (.long q0), .second, .val (.long q1), .second, .val (.long q2), .second, .val (.long q3), .second, .val (.int p0), .val (.long (if (p0 &&& (1 : Int32)) = (0 : Int32) then q2 else q0)), .second, .val (.long (if (p0 &&& (2 : Int32)) = (0 : Int32) then q3 else q1)), .second, .val (.int (((p0.toUInt32 >>> ((2 : Int32) &&& 31).toUInt32).toInt32) &&& (3 : Int32))), .val (.ref b32), .val (.ref b34), .val (.ref b32), .val (.int (1 : Int32)), .val (.int (feqk q0 q1 q0 q1))] []))
            refine own_go (fun t k => XS.iload X78.here hx rfl (hb hby at_144) rfl k) ?_
            show own_Gl _ _ _ _ (T78.setTop (mkF m 146 #[.val (.long q0), .second, .val (.long q1), .second, .val (.long q2), .second, .val (.long q3), .second, .val (.int p0), .val (.long (if (p0 &&& (1 : Int32)) = (0 : Int32) then q2 else q0)), .second, .val (.long (if (p0 &&& (2 : Int32)) = (0 : Int32) then q3 else q1)), .second, .val (.int (((p0.toUInt32 >>> ((2 : Int32) &&& 31).toUInt32).toInt32) &&& (3 : Int32))), .val (.ref b32), .val (.ref b34), .val (.ref b32), .val (.int (1 : Int32)), .val (.int (feqk q0 q1 q0 q1))] [(.int (feqk q0 q1 q0 q1))]))
            refine own_go (fun t k => XS.iload X78.here hx rfl (hb hby at_146) rfl k) ?_
            show own_Gl _ _ _ _ (T78.setTop (mkF m 148 #[.val (.long q0), .second, .val (.long q1), .second, .val (.long q2), .second, .val (.long q3), .second, .val (.int p0), .val (.long (if (p0 &&& (1 : Int32)) = (0 : Int32) then q2 else q0)), .second, .val (.long (if (p0 &&& (2 : Int32)) = (0 : Int32) then q3 else q1)), .second, .val (.int (((p0.toUInt32 >>> ((2 : Int32) &&& 31).toUInt32).toInt32) &&& (3 : Int32))), .val (.ref b32), .val (.ref b34), .val (.ref b32), .val (.int (1 : Int32)), .val (.int (feqk q0 q1 q0 q1))] [(.int (1 : Int32)), (.int (feqk q0 q1 q0 q1))]))
            by_cases hc148_79 : (feqk q0 q1 q0 q1) = (1 : Int32)
            · refine own_go (fun t k => XS.icmpYes X78.here hx rfl (pc0 := 148) (pc' := 153) rfl (hb hby at_148) rfl (teq hc148_79).1 (by decide) (by decide) k) ?_
              show own_Gl _ _ _ _ (T78.setTop (mkF m 153 #[.val (.long q0), .second, .val (.long q1), .second, .val (.long q2), .second, .val (.long q3), .second, .val (.int p0), .val (.long (if (p0 &&& (1 : Int32)) = (0 : Int32) then q2 else q0)), .second, .val (.long (if (p0 &&& (2 : Int32)) = (0 : Int32) then q3 else q1)), .second, .val (.int (((p0.toUInt32 >>> ((2 : Int32) &&& 31).toUInt32).toInt32) &&& (3 : Int32))), .val (.ref b32), .val (.ref b34), .val (.ref b32), .val (.int (1 : Int32)), .val (.int (feqk q0 q1 q0 q1))] []))
              refine own_go (fun t k => XS.iload X78.here hx rfl (hb hby at_153) rfl k) ?_
              show own_Gl _ _ _ _ (T78.setTop (mkF m 155 #[.val (.long q0), .second, .val (.long q1), .second, .val (.long q2), .second, .val (.long q3), .second, .val (.int p0), .val (.long (if (p0 &&& (1 : Int32)) = (0 : Int32) then q2 else q0)), .second, .val (.long (if (p0 &&& (2 : Int32)) = (0 : Int32) then q3 else q1)), .second, .val (.int (((p0.toUInt32 >>> ((2 : Int32) &&& 31).toUInt32).toInt32) &&& (3 : Int32))), .val (.ref b32), .val (.ref b34), .val (.ref b32), .val (.int (1 : Int32)), .val (.int (feqk q0 q1 q0 q1))] [(.int (((p0.toUInt32 >>> ((2 : Int32) &&& 31).toUInt32).toInt32) &&& (3 : Int32)))]))
              refine own_go (fun t k => XS.ifYes X78.here hx rfl (pc0 := 155) (pc' := 176) rfl (hb hby at_155) rfl ((if0 _ _).trans (feq hc64_38).2) (by decide) (by decide) k) ?_
              show own_Gl _ _ _ _ (T78.setTop (mkF m 176 #[.val (.long q0), .second, .val (.long q1), .second, .val (.long q2), .second, .val (.long q3), .second, .val (.int p0), .val (.long (if (p0 &&& (1 : Int32)) = (0 : Int32) then q2 else q0)), .second, .val (.long (if (p0 &&& (2 : Int32)) = (0 : Int32) then q3 else q1)), .second, .val (.int (((p0.toUInt32 >>> ((2 : Int32) &&& 31).toUInt32).toInt32) &&& (3 : Int32))), .val (.ref b32), .val (.ref b34), .val (.ref b32), .val (.int (1 : Int32)), .val (.int (feqk q0 q1 q0 q1))] []))
              refine own_go (fun t k => XS.iconst X78.here hx rfl (hb hby at_176) k) ?_
              show own_Gl _ _ _ _ (T78.setTop (mkF m 177 #[.val (.long q0), .second, .val (.long q1), .second, .val (.long q2), .second, .val (.long q3), .second, .val (.int p0), .val (.long (if (p0 &&& (1 : Int32)) = (0 : Int32) then q2 else q0)), .second, .val (.long (if (p0 &&& (2 : Int32)) = (0 : Int32) then q3 else q1)), .second, .val (.int (((p0.toUInt32 >>> ((2 : Int32) &&& 31).toUInt32).toInt32) &&& (3 : Int32))), .val (.ref b32), .val (.ref b34), .val (.ref b32), .val (.int (1 : Int32)), .val (.int (feqk q0 q1 q0 q1))] [(.int (1 : Int32))]))
              obtain ⟨fs, hr, hrun, hended, hW, hsame⟩ := X78.leave (v := some (.int (1 : Int32))) (fun h => by rw [Bd.returns] at h; cases h)
              refine own_fin (retN X78 hx (t := .boolean) Bd.returns (by simp) (hb hby at_177) hr) hrun hended ⟨_, _, rfl, ?_, ⟨_, rfl⟩, hW, hsame.mono (by decide) (by decide)⟩
              show Q0 Z q0 q1 q2 q3 p0 ca kA vs h0 n0 _ T78.heap _
              rw [hq78]
              exact ⟨N78, by rw [f0, if_neg hc64_38, if_neg hc98_50, if_neg hc113_53, if_pos hc148_79]⟩
            · refine own_go (fun t k => XS.icmpNo X78.here hx rfl (hb hby at_148) rfl (feq hc148_79).1 k) ?_
              show own_Gl _ _ _ _ (T78.setTop (mkF m 151 #[.val (.long q0), .second, .val (.long q1), .second, .val (.long q2), .second, .val (.long q3), .second, .val (.int p0), .val (.long (if (p0 &&& (1 : Int32)) = (0 : Int32) then q2 else q0)), .second, .val (.long (if (p0 &&& (2 : Int32)) = (0 : Int32) then q3 else q1)), .second, .val (.int (((p0.toUInt32 >>> ((2 : Int32) &&& 31).toUInt32).toInt32) &&& (3 : Int32))), .val (.ref b32), .val (.ref b34), .val (.ref b32), .val (.int (1 : Int32)), .val (.int (feqk q0 q1 q0 q1))] []))
              refine own_go (fun t k => XS.iconst X78.here hx rfl (hb hby at_151) k) ?_
              show own_Gl _ _ _ _ (T78.setTop (mkF m 152 #[.val (.long q0), .second, .val (.long q1), .second, .val (.long q2), .second, .val (.long q3), .second, .val (.int p0), .val (.long (if (p0 &&& (1 : Int32)) = (0 : Int32) then q2 else q0)), .second, .val (.long (if (p0 &&& (2 : Int32)) = (0 : Int32) then q3 else q1)), .second, .val (.int (((p0.toUInt32 >>> ((2 : Int32) &&& 31).toUInt32).toInt32) &&& (3 : Int32))), .val (.ref b32), .val (.ref b34), .val (.ref b32), .val (.int (1 : Int32)), .val (.int (feqk q0 q1 q0 q1))] [(.int (0 : Int32))]))
              obtain ⟨fs, hr, hrun, hended, hW, hsame⟩ := X78.leave (v := some (.int (0 : Int32))) (fun h => by rw [Bd.returns] at h; cases h)
              refine own_fin (retN X78 hx (t := .boolean) Bd.returns (by simp) (hb hby at_152) hr) hrun hended ⟨_, _, rfl, ?_, ⟨_, rfl⟩, hW, hsame.mono (by decide) (by decide)⟩
              show Q0 Z q0 q1 q2 q3 p0 ca kA vs h0 n0 _ T78.heap _
              rw [hq78]
              exact ⟨N78, by rw [f0, if_neg hc64_38, if_neg hc98_50, if_neg hc113_53, if_neg hc148_79]⟩
    · by_cases hc19_80 : (p0 &&& (2 : Int32)) = (0 : Int32)
      · refine own_go (fun t k => XS.ifYes X0.here hx rfl (pc0 := 19) (pc' := 26) rfl (hb hby at_19) rfl ((if0 _ _).trans (teq hc19_80).1) (by decide) (by decide) k) ?_
        show own_Gl _ _ _ _ (s₁.setTop (mkF m 26 #[.val (.long q0), .second, .val (.long q1), .second, .val (.long q2), .second, .val (.long q3), .second, .val (.int p0), .val (.long (if (p0 &&& (1 : Int32)) = (0 : Int32) then q2 else q0)), .second, .unset, .unset, .unset, .unset, .unset, .unset, .unset, .unset] []))
        refine own_go (fun t k => XS.lload X0.here hx rfl (hb hby at_26) rfl k) ?_
        show own_Gl _ _ _ _ (s₁.setTop (mkF m 28 #[.val (.long q0), .second, .val (.long q1), .second, .val (.long q2), .second, .val (.long q3), .second, .val (.int p0), .val (.long (if (p0 &&& (1 : Int32)) = (0 : Int32) then q2 else q0)), .second, .unset, .unset, .unset, .unset, .unset, .unset, .unset, .unset] [(.long q3)]))
        simp only [if_pos hc19_80] at J31
        exact J31
      · refine own_go (fun t k => XS.ifNo X0.here hx rfl (hb hby at_19) rfl ((if0 _ _).trans (feq hc19_80).1) k) ?_
        show own_Gl _ _ _ _ (s₁.setTop (mkF m 22 #[.val (.long q0), .second, .val (.long q1), .second, .val (.long q2), .second, .val (.long q3), .second, .val (.int p0), .val (.long (if (p0 &&& (1 : Int32)) = (0 : Int32) then q2 else q0)), .second, .unset, .unset, .unset, .unset, .unset, .unset, .unset, .unset] []))
        refine own_go (fun t k => XS.lloadN X0.here hx rfl (hb hby at_22) rfl k) ?_
        show own_Gl _ _ _ _ (s₁.setTop (mkF m 23 #[.val (.long q0), .second, .val (.long q1), .second, .val (.long q2), .second, .val (.long q3), .second, .val (.int p0), .val (.long (if (p0 &&& (1 : Int32)) = (0 : Int32) then q2 else q0)), .second, .unset, .unset, .unset, .unset, .unset, .unset, .unset, .unset] [(.long q1)]))
        refine own_go (fun t k => XS.goto X0.here hx rfl (pc0 := 23) (pc' := 28) rfl (hb hby at_23) (by decide) (by decide) k) ?_
        show own_Gl _ _ _ _ (s₁.setTop (mkF m 28 #[.val (.long q0), .second, .val (.long q1), .second, .val (.long q2), .second, .val (.long q3), .second, .val (.int p0), .val (.long (if (p0 &&& (1 : Int32)) = (0 : Int32) then q2 else q0)), .second, .unset, .unset, .unset, .unset, .unset, .unset, .unset, .unset] [(.long q1)]))
        simp only [if_neg hc19_80] at J31
        exact J31
  · by_cases hc4_81 : (p0 &&& (1 : Int32)) = (0 : Int32)
    · refine own_go (fun t k => XS.ifYes X0.here hx rfl (pc0 := 4) (pc' := 11) rfl (hb hby at_4) rfl ((if0 _ _).trans (teq hc4_81).1) (by decide) (by decide) k) ?_
      show own_Gl _ _ _ _ (s₁.setTop (mkF m 11 #[.val (.long q0), .second, .val (.long q1), .second, .val (.long q2), .second, .val (.long q3), .second, .val (.int p0), .unset, .unset, .unset, .unset, .unset, .unset, .unset, .unset, .unset, .unset] []))
      refine own_go (fun t k => XS.lload X0.here hx rfl (hb hby at_11) rfl k) ?_
      show own_Gl _ _ _ _ (s₁.setTop (mkF m 13 #[.val (.long q0), .second, .val (.long q1), .second, .val (.long q2), .second, .val (.long q3), .second, .val (.int p0), .unset, .unset, .unset, .unset, .unset, .unset, .unset, .unset, .unset, .unset] [(.long q2)]))
      simp only [if_pos hc4_81] at J30
      exact J30
    · refine own_go (fun t k => XS.ifNo X0.here hx rfl (hb hby at_4) rfl ((if0 _ _).trans (feq hc4_81).1) k) ?_
      show own_Gl _ _ _ _ (s₁.setTop (mkF m 7 #[.val (.long q0), .second, .val (.long q1), .second, .val (.long q2), .second, .val (.long q3), .second, .val (.int p0), .unset, .unset, .unset, .unset, .unset, .unset, .unset, .unset, .unset, .unset] []))
      refine own_go (fun t k => XS.lloadN X0.here hx rfl (hb hby at_7) rfl k) ?_
      show own_Gl _ _ _ _ (s₁.setTop (mkF m 8 #[.val (.long q0), .second, .val (.long q1), .second, .val (.long q2), .second, .val (.long q3), .second, .val (.int p0), .unset, .unset, .unset, .unset, .unset, .unset, .unset, .unset, .unset, .unset] [(.long q0)]))
      refine own_go (fun t k => XS.goto X0.here hx rfl (pc0 := 8) (pc' := 13) rfl (hb hby at_8) (by decide) (by decide) k) ?_
      show own_Gl _ _ _ _ (s₁.setTop (mkF m 13 #[.val (.long q0), .second, .val (.long q1), .second, .val (.long q2), .second, .val (.long q3), .second, .val (.int p0), .unset, .unset, .unset, .unset, .unset, .unset, .unset, .unset, .unset, .unset] [(.long q0)]))
      simp only [if_neg hc4_81] at J30
      exact J30
theorem own_law (q0 q1 q2 q3 : Int64) (p0 : Int32) : f0 q0 q1 q2 q3 p0 = 1 := by
  unfold f0 feqk
  generalize (if (p0 &&& (1 : Int32)) = (0 : Int32) then q2 else q0) = c
  generalize (if (p0 &&& (2 : Int32)) = (0 : Int32) then q3 else q1) = d
  by_cases h1 : q0 = c
  · by_cases h2 : q1 = d
    · subst h1 h2; simp
    · have h3 : ¬ d = q1 := fun q => h2 q.symm
      subst h1; simp [h2, h3]
  · have h3 : ¬ c = q0 := fun q => h1 q.symm
    simp [h1, h3]
theorem own_arv {Z : State} {h : Heap} {a : Addr} {c : Cell} {K : String} {z : Int32} (A : Arr Z h a c (.object K)) (S : c.slots.size = z.toNatClampNeg) (hz : ¬ z < 0) (H : ∀ i, i < c.slots.size → ∃ b, c.slots[i]? = some (.ref b)) : Arv Z h a c.cls (.object K) z c.slots.toList .null := by
  have e : ∀ i, i < c.slots.size → c.slots[i]? = some (c.slots.toList.getD i .null) := fun i hi => by
    simp [List.getD_eq_getElem?_getD, hi]
  refine ⟨c, A, rfl, S, hz, e, fun i hi => ?_⟩
  obtain ⟨b, hb⟩ := H i hi
  have q := (e i hi).symm.trans hb
  rw [Option.some.inj q]; rfl
theorem own_lenv {Z : State} {args : Array Value} {t : Term} {a : Addr} {cl : Cell} {z : Int32} (ev : t.eval args Z none [] Z = some (.ref a)) (ha : Z.arrayAt? a = some cl) (h : (Term.length t).eval args Z none [] Z = some (.int z)) : cl.slots.size < 2 ^ 31 ∧ cl.slots.size.toInt32 = z := by
  by_cases q : cl.slots.size < 2 ^ 31
  · rw [len_f ev ha q] at h
    exact ⟨q, by injection (Option.some.inj h)⟩
  · exfalso
    simp only [Term.eval, ev, Option.bind_eq_bind, Option.bind_some, ha] at h
    simp [q] at h
theorem own_nat {j : Nat} (h : j < 256) : ((Nat.toInt32 j).toNatClampNeg = j) ∧ ¬ (Nat.toInt32 j) < 0 := by
  have e := len_toInt (n := j) (by omega)
  have z : (0 : Int32).toInt = 0 := rfl
  refine ⟨by simp only [Int32.toNatClampNeg, e]; rfl, ?_⟩
  rw [Int32.lt_iff_toInt_lt, e]; omega
set_option maxRecDepth 65536 in
set_option maxHeartbeats 40000000 in
theorem comes_1 {Post : Tables → Env → Array Value → State → Outcome → State → Prop} (hpost : ∀ tb e args s v u, (limb_1_1.after args s (.returned v) u = true ∧ limb_1_2.after args s (.returned v) u = true ∧ True) → FrameEnd s (.returned v) u (Jvm.fieldLocs frame_1_writes args s ++ Jvm.arrayLocs frame_1_arrays args s ++ Jvm.staticLocs frame_1_statics s) 16 128 → Post tb e args s (.returned v) u) :
    ArmFor flags0 classFile x code maxLocals ret World_1 tables_1 room_1 Calls_1 rest_1 Pre_1 Post := by
  intro l hfl _ _ p e ha hc hk s m args below hf hA hF happ hP
  obtain ⟨hcalls, hrest, hpre⟩ := hP
  obtain ⟨-, -, -, hnamed, -, -, -, hat⟩ := (Spec.applies_iff hf).mp happ
  obtain ⟨hg, hn⟩ := and_e (Cond.before_iff.mp (show (Jvm.Cond.and given_1 narrow_1).before args s = true from hpre))
  obtain ⟨g1, g2⟩ := and_e hg
  obtain ⟨g3, g4⟩ := and_e g2
  obtain ⟨g5, g6⟩ := and_e g4
  obtain ⟨g7, g8⟩ := and_e g6
  obtain ⟨g9, g10⟩ := and_e g8
  obtain ⟨w0, w1, w2, w3, w4, rfl⟩ : ∃ w0 w1 w2 w3 w4 : Value, args = #[w0, w1, w2, w3, w4] := by
    have hs : args.size = 5 := by simpa [Cond.value, given_1] using g1
    obtain ⟨L⟩ := args
    match L, hs with
    | [w0, w1, w2, w3, w4], _ => exact ⟨w0, w1, w2, w3, w4, rfl⟩
  have hw := fun d (hd : d ∈ tables_1) => atoms_spec (ws := Jvm.Cond.code x code maxLocals ret :: tables_1) hat d (List.mem_cons_of_mem _ hd)
  have hfit : Fit s := fun {y c} hc i hi => by
    obtain ⟨ha, rfl⟩ := Array.getElem?_eq_some_iff.mp hc
    have q := List.all_eq_true.mp ((Array.all_eq_true_iff_forall_mem.mp hF) _ (Array.getElem_mem ha)) i (List.mem_range.mpr hi)
    simpa [Array.getElem?_eq_getElem hi] using q
  obtain ⟨hsets, hown0⟩ := atoms_of _ (rest_1_c_eq ▸ (show rest_1_c.before _ s = true from hrest))
  have hr0 := Cond.before_iff.mp hown0
  obtain ⟨i0, ei0⟩ := isL_v g3
  obtain rfl : w0 = (.long i0) := Option.some.inj ei0
  obtain ⟨i1, ei1⟩ := isL_v g5
  obtain rfl : w1 = (.long i1) := Option.some.inj ei1
  obtain ⟨i2, ei2⟩ := isL_v g7
  obtain rfl : w2 = (.long i2) := Option.some.inj ei2
  obtain ⟨i3, ei3⟩ := isL_v g9
  obtain rfl : w3 = (.long i3) := Option.some.inj ei3
  obtain ⟨i4, ei4⟩ := is_v g10
  obtain rfl : w4 = (.int i4) := Option.some.inj ei4
  obtain ⟨ca, ev⟩ := arr_v (Cond.before_iff.mp (hsets _ (List.mem_of_getElem? (i := 2) rfl)))
  obtain ⟨cl, Acl⟩ := Arr.start ev (Cond.before_iff.mp (hsets _ (List.mem_of_getElem? (i := 2) rfl)))
  have Sca := Sta.start ev (Or.inl (hsets _ (List.mem_of_getElem? (i := 1) rfl)))
  have h4 := eqv_i (Term.int_eval (256)) (Cond.before_iff.mp (hsets _ (List.mem_of_getElem? (i := 4) rfl)))
  have hfin : s.arrayAt? ca = some cl := Acl.fin (Vm.Alike.refl _)
  have hsz : cl.slots.size < 2 ^ 31 ∧ cl.slots.size.toInt32 = 256 := own_lenv ev hfin h4
  have B := Bxs.start (val := fun j => .long (j - 128).toInt64) (fun _ => ev) Acl hsz.1 hsz.2 (by decide) (Cond.before_iff.mp (hsets _ (List.mem_of_getElem? (i := 5) rfl))) (fun X j hj hX => eqv_l (i2l_at (by simp [Term.eval, (back32 hj).1])) hX)
  have hsize : cl.slots.size = 256 := B.2.1.trans rfl
  have hel : ∀ i, i < 256 → ∃ b, cl.slots[i]? = some (.ref b) ∧ Exa s s.heap b "java/lang/Long" := fun i hi => by
    obtain ⟨b, h1, h2, -⟩ := B.2.2.2 (Nat.toInt32 i) (by rw [(own_nat hi).1]; intro q; rcases q with q | q; exact (own_nat hi).2 q; omega)
    rw [(own_nat hi).1] at h1; exact ⟨b, h1, h2⟩
  have hV := own_arv Acl B.2.1 B.2.2.1 (fun i hi => by obtain ⟨b, h, -⟩ := hel i (by omega); exact ⟨b, h⟩)
  have hall : ∀ j, j < 256 → ∃ w, cl.slots.toList.getD j .null = .ref w ∧ Exa s s.heap w "java/lang/Long" := fun j hj => by
    obtain ⟨b, h, hE⟩ := hel j hj
    exact ⟨b, by simp [List.getD_eq_getElem?_getD, h], hE⟩
  obtain ⟨n, o, h1, h2, h3, _, L, rfl, ⟨N, hv⟩, hq⟩ := rm0 l s _ hw tables_1 i0 i1 i2 i3 i4 ca cl.cls cl.slots.toList s.heap s.heap.size (Nat.le_refl _) Sca hV hall p e ha hc hk s m _ below hf ((Spec.applies_iff_loose hf).mp happ).1 ⟨rfl, State.Warmed39.refl s, rfl⟩ trivial
  rw [own_law] at hv
  subst hv
  refine ⟨n, _, h1, h2, h3, hpost _ _ _ _ _ _ ⟨Cond.after_iff.mpr rfl, Cond.after_iff.mpr (eq_i res_at (Term.int_eval (1)) rfl), trivial⟩ ⟨hq.1, hq.2.1, (hq.2.2.sift fun y hy => Or.inr (N y hy)).mono (by decide) (by decide)⟩⟩
theorem main_1_1 : Claimed_1_1 := comes_1 fun _ _ _ _ _ _ h hF => ⟨h.1, hF⟩
theorem main_1_2 : Claimed_1_2 := comes_1 fun _ _ _ _ _ _ h hF => ⟨h.2.1, hF⟩
end Jvm.Pilot.@@N@@
namespace Jvm.Pilot.@@N@@
open Jvm Jvm.ClassFile Sem Op Lib Jvm.Free Jvm.Stand Jvm.Pilot.@@N@@.Jvm.D
/-! MADE BY PROGRAM (witnessworld.py) out of the Statement's table words and the real class files: 17 classes; the members and pool entries that the words name. The judged class is class 1, her method 1. -/
namespace start1
open Jvm.ClassFile
def u (s : String) : CpInfo := .utf8 (stringToUtf16 s)
/-- a pool by its gaps: so many unusable entries, then the entry; so many at the end -/
def gap : Nat → List CpInfo → List CpInfo
  | 0, r => r
  | n + 1, r => .unusable :: gap n r
def poolList (es : List (Nat × CpInfo)) (last : Nat) : List CpInfo := es.foldr (fun e r => gap e.1 (e.2 :: r)) (gap last [])
def pool (es : List (Nat × CpInfo)) (last : Nat) : Array CpInfo := ⟨poolList es last⟩
def fileOf (pool : Array CpInfo) (this : Nat) (attrs : Array Attribute := #[]) (ms : Array MethodInfo := #[]) (fl : Nat := 33) (sup : Nat := 0) (ifs : Array Nat := #[]) (fds : Array FieldInfo := #[]) : ClassFile where
  minorVersion := 0
  majorVersion := 65
  constantPool := pool
  accessFlags := fl
  thisClass := this
  superClass := sup
  interfaces := ifs
  fields := fds
  methods := ms
  attributes := attrs
def plain (name : String) (sup : Option ClassId) : Class where
  name := name
  kind := .ordinary
  loader := none
  accessFlags := 33
  super := sup
  interfaces := #[]
  cf := none
  fields := #[]
  methods := #[]
  instanceTypes := #[]
  staticTypes := #[]
  resolved := #[]
  callSites := []
  init := .initialized
  statics := none
  mirror := none

def pool0 : Array CpInfo := pool [(5, u "<init>"), (0, u "()V"), (1, .class_ 10), (1, u "java/lang/Object")] 113

def k0c0 : Code := { maxStack := 0, maxLocals := 1, code := object_method_1_code, exceptionTable := #[], attributes := #[] }
def k0m0 : Method := { name := "<init>", desc := "()V", sig := { parameters := [], returnType := none }, accessFlags := 1, code := some k0c0 }
/-- java/lang/Object -/
def k0 : Class := { plain "java/lang/Object" none with
  accessFlags := 33
  interfaces := #[]
  cf := some (fileOf pool0 8 #[] #[{ accessFlags := 1, nameIndex := 5, descriptorIndex := 6, attributes := #[] }] 33 0 #[] #[])
  fields := #[]
  methods := #[k0m0]
  instanceTypes := #[]
  staticTypes := #[]
  resolved := Array.replicate 124 none
  statics := none }

def pool1 : Array CpInfo := pool [(2, .class_ 4), (1, u "java/lang/Object"), (0, u "<init>"), (0, u "()V"), (0, .class_ 8), (0, u "com/example/omphale/omphale/KeyRange"), (0, .methodref 7 10), (0, .nameAndType 5 11), (0, u "(JJ)V"), (0, .methodref 13 14), (0, .class_ 15), (0, .nameAndType 16 17), (0, u "java/lang/Long"), (0, u "valueOf"), (0, u "(J)Ljava/lang/Long;"), (0, .methodref 7 19), (0, .nameAndType 20 21), (0, u "equals"), (0, u "(Ljava/lang/Object;)Z"), (0, .class_ 23), (0, u "com/example/omphale/omphale/KeyRangeEqualsPinLaw"), (2, u "law"), (0, u "(JJJJI)Z")] 3

def k1m0 : Method := { name := "<init>", desc := "()V", sig := { parameters := [], returnType := none }, accessFlags := 1, code := none }
def k1c1 : Code := { maxStack := 6, maxLocals := 19, code := code, exceptionTable := #[], attributes := #[] }
def k1m1 : Method := { name := "law", desc := "(JJJJI)Z", sig := { parameters := [.long, .long, .long, .long, .int], returnType := some .boolean }, accessFlags := 9, code := some k1c1 }
/-- com/example/omphale/omphale/KeyRangeEqualsPinLaw -/
def k1 : Class := { plain "com/example/omphale/omphale/KeyRangeEqualsPinLaw" (some 0) with
  accessFlags := 49
  interfaces := #[]
  cf := some (fileOf pool1 22 #[] #[{ accessFlags := 1, nameIndex := 5, descriptorIndex := 6, attributes := #[] }, { accessFlags := 9, nameIndex := 26, descriptorIndex := 27, attributes := #[] }] 49 2 #[] #[])
  fields := #[]
  methods := #[k1m0, k1m1]
  instanceTypes := #[]
  staticTypes := #[]
  resolved := Array.replicate 31 none
  statics := none }

def pool2 : Array CpInfo := pool [(1, .methodref 2 3), (0, .class_ 4), (0, .nameAndType 5 6), (0, u "java/lang/Object"), (0, u "<init>"), (0, u "()V"), (0, .class_ 8), (0, u "java/lang/Record")] 13

def k2c0 : Code := { maxStack := 1, maxLocals := 1, code := jdk_30_method_1_code, exceptionTable := #[], attributes := #[] }
def k2m0 : Method := { name := "<init>", desc := "()V", sig := { parameters := [], returnType := none }, accessFlags := 4, code := some k2c0 }
/-- java/lang/Record -/
def k2 : Class := { plain "java/lang/Record" (some 0) with
  accessFlags := 1057
  interfaces := #[]
  cf := some (fileOf pool2 7 #[] #[{ accessFlags := 4, nameIndex := 5, descriptorIndex := 6, attributes := #[] }] 1057 2 #[] #[])
  fields := #[]
  methods := #[k2m0]
  instanceTypes := #[]
  staticTypes := #[]
  resolved := Array.replicate 22 none
  statics := none }

def pool3 : Array CpInfo := pool [(1, .methodref 2 3), (0, .class_ 4), (0, .nameAndType 5 6), (0, u "java/lang/Record"), (0, u "<init>"), (0, u "()V"), (0, .fieldref 8 9), (0, .class_ 10), (0, .nameAndType 11 12), (0, u "com/example/omphale/omphale/KeyRange"), (0, u "startExclusive"), (0, u "J"), (0, .fieldref 8 14), (0, .nameAndType 15 12), (0, u "endInclusive"), (26, u "(JJ)V"), (7, u "equals"), (0, u "(Ljava/lang/Object;)Z")] 21

def k3c0 : Code := { maxStack := 3, maxLocals := 5, code := prog_4_method_1_code, exceptionTable := #[], attributes := #[] }
def k3m0 : Method := { name := "<init>", desc := "(JJ)V", sig := { parameters := [.long, .long], returnType := none }, accessFlags := 1, code := some k3c0 }
def k3c1 : Code := { maxStack := 4, maxLocals := 3, code := prog_4_method_6_code, exceptionTable := #[], attributes := #[] }
def k3m1 : Method := { name := "equals", desc := "(Ljava/lang/Object;)Z", sig := { parameters := [(.object "java/lang/Object")], returnType := some .boolean }, accessFlags := 1, code := some k3c1 }
/-- com/example/omphale/omphale/KeyRange -/
def k3 : Class := { plain "com/example/omphale/omphale/KeyRange" (some 2) with
  accessFlags := 49
  interfaces := #[]
  cf := some (fileOf pool3 8 #[] #[{ accessFlags := 1, nameIndex := 5, descriptorIndex := 42, attributes := #[] }, { accessFlags := 1, nameIndex := 50, descriptorIndex := 51, attributes := #[] }] 49 2 #[] #[{ accessFlags := 18, nameIndex := 11, descriptorIndex := 12, attributes := #[] }, { accessFlags := 18, nameIndex := 15, descriptorIndex := 12, attributes := #[] }])
  fields := #[{ name := "startExclusive", type := .long, accessFlags := 18, slot := 0, constantValue := 0 }, { name := "endInclusive", type := .long, accessFlags := 18, slot := 1, constantValue := 0 }]
  methods := #[k3m0, k3m1]
  instanceTypes := #[.long, .long]
  staticTypes := #[]
  resolved := Array.replicate 73 none
  statics := none }

def pool4 : Array CpInfo := pool [(1, .class_ 2), (0, u "java/io/Serializable"), (0, .class_ 4), (0, u "java/lang/Object")] 2

/-- java/io/Serializable -/
def k4 : Class := { plain "java/io/Serializable" (some 0) with
  accessFlags := 1537
  interfaces := #[]
  cf := some (fileOf pool4 1 #[] #[] 1537 3 #[] #[])
  fields := #[]
  methods := #[]
  instanceTypes := #[]
  staticTypes := #[]
  resolved := Array.replicate 7 none
  statics := none }

def pool5 : Array CpInfo := pool [(1, .methodref 2 3), (0, .class_ 4), (0, .nameAndType 5 6), (0, u "java/lang/Object"), (0, u "<init>"), (0, u "()V"), (1, .class_ 10), (1, u "java/lang/Number"), (2, .class_ 14), (0, u "java/io/Serializable"), (0, u "serialVersionUID"), (0, u "J")] 20

def k5c0 : Code := { maxStack := 1, maxLocals := 1, code := jdk_18_method_1_code, exceptionTable := #[], attributes := #[] }
def k5m0 : Method := { name := "<init>", desc := "()V", sig := { parameters := [], returnType := none }, accessFlags := 1, code := some k5c0 }
/-- java/lang/Number -/
def k5 : Class := { plain "java/lang/Number" (some 0) with
  accessFlags := 1057
  interfaces := #[4]
  cf := some (fileOf pool5 8 #[] #[{ accessFlags := 1, nameIndex := 5, descriptorIndex := 6, attributes := #[] }] 1057 2 #[13] #[{ accessFlags := 26, nameIndex := 15, descriptorIndex := 16, attributes := #[] }])
  fields := #[{ name := "serialVersionUID", type := .long, accessFlags := 26, slot := 0, constantValue := 0 }]
  methods := #[k5m0]
  instanceTypes := #[]
  staticTypes := #[.long]
  resolved := Array.replicate 37 none
  statics := none }

def pool6 : Array CpInfo := pool [(1, .class_ 2), (0, u "java/lang/Comparable"), (0, .class_ 4), (0, u "java/lang/Object")] 7

/-- java/lang/Comparable -/
def k6 : Class := { plain "java/lang/Comparable" (some 0) with
  accessFlags := 1537
  interfaces := #[]
  cf := some (fileOf pool6 1 #[] #[] 1537 3 #[] #[])
  fields := #[]
  methods := #[]
  instanceTypes := #[]
  staticTypes := #[]
  resolved := Array.replicate 12 none
  statics := none }

def pool7 : Array CpInfo := pool [(1, .class_ 2), (0, u "java/lang/constant/Constable"), (0, .class_ 4), (0, u "java/lang/Object")] 6

/-- java/lang/constant/Constable -/
def k7 : Class := { plain "java/lang/constant/Constable" (some 0) with
  accessFlags := 1537
  interfaces := #[]
  cf := some (fileOf pool7 1 #[] #[] 1537 3 #[] #[])
  fields := #[]
  methods := #[]
  instanceTypes := #[]
  staticTypes := #[]
  resolved := Array.replicate 11 none
  statics := none }

def pool8 : Array CpInfo := pool [(1, .class_ 2), (0, u "java/lang/constant/ConstantDesc"), (0, .class_ 4), (0, u "java/lang/Object")] 32

/-- java/lang/constant/ConstantDesc -/
def k8 : Class := { plain "java/lang/constant/ConstantDesc" (some 0) with
  accessFlags := 1537
  interfaces := #[]
  cf := some (fileOf pool8 1 #[] #[] 1537 3 #[] #[])
  fields := #[]
  methods := #[]
  instanceTypes := #[]
  staticTypes := #[]
  resolved := Array.replicate 37 none
  statics := none }

def pool9 : Array CpInfo := pool [(1, .class_ 2), (0, u "java/lang/Long"), (55, .nameAndType 59 60), (0, u "<init>"), (0, u "()V"), (24, u "valueOf"), (143, u "(J)Ljava/lang/Long;"), (0, .long 18446744073709551488), (1, .long 127), (1, .fieldref 235 236), (0, .class_ 237), (0, .nameAndType 238 239), (0, u "java/lang/Long$LongCache"), (0, u "cache"), (0, u "[Ljava/lang/Long;"), (0, .methodref 1 241), (0, .nameAndType 59 242), (0, u "(J)V"), (27, .methodref 271 58), (0, .class_ 272), (0, u "java/lang/Number"), (0, .fieldref 1 274), (0, .nameAndType 275 276), (0, u "value"), (0, u "J"), (84, u "TYPE"), (0, u "Ljava/lang/Class;"), (0, .class_ 364), (0, u "java/lang/Comparable"), (0, .class_ 366), (0, u "java/lang/constant/Constable"), (0, .class_ 368), (0, u "java/lang/constant/ConstantDesc"), (0, u "MIN_VALUE"), (1, u "MAX_VALUE"), (4, u "SIZE"), (0, u "I"), (1, u "BYTES"), (1, u "serialVersionUID")] 142

def k9c0 : Code := { maxStack := 4, maxLocals := 3, code := jdk_35_method_24_code, exceptionTable := #[], attributes := #[] }
def k9m0 : Method := { name := "valueOf", desc := "(J)Ljava/lang/Long;", sig := { parameters := [.long], returnType := some (.object "java/lang/Long") }, accessFlags := 9, code := some k9c0 }
def k9c1 : Code := { maxStack := 3, maxLocals := 3, code := jdk_35_method_26_code, exceptionTable := #[], attributes := #[] }
def k9m1 : Method := { name := "<init>", desc := "(J)V", sig := { parameters := [.long], returnType := none }, accessFlags := 1, code := some k9c1 }
/-- java/lang/Long -/
def k9 : Class := { plain "java/lang/Long" (some 5) with
  accessFlags := 49
  interfaces := #[6, 7, 8]
  cf := some (fileOf pool9 1 #[.nestMembers #[235]] #[{ accessFlags := 9, nameIndex := 85, descriptorIndex := 229, attributes := #[] }, { accessFlags := 1, nameIndex := 59, descriptorIndex := 242, attributes := #[] }] 49 271 #[363, 365, 367] #[{ accessFlags := 25, nameIndex := 369, descriptorIndex := 276, attributes := #[] }, { accessFlags := 25, nameIndex := 371, descriptorIndex := 276, attributes := #[] }, { accessFlags := 25, nameIndex := 361, descriptorIndex := 362, attributes := #[] }, { accessFlags := 18, nameIndex := 275, descriptorIndex := 276, attributes := #[] }, { accessFlags := 25, nameIndex := 376, descriptorIndex := 377, attributes := #[] }, { accessFlags := 25, nameIndex := 379, descriptorIndex := 377, attributes := #[] }, { accessFlags := 26, nameIndex := 381, descriptorIndex := 276, attributes := #[] }])
  fields := #[{ name := "MIN_VALUE", type := .long, accessFlags := 25, slot := 0, constantValue := 0 }, { name := "MAX_VALUE", type := .long, accessFlags := 25, slot := 1, constantValue := 0 }, { name := "TYPE", type := (.object "java/lang/Class"), accessFlags := 25, slot := 2, constantValue := 0 }, { name := "value", type := .long, accessFlags := 18, slot := 0, constantValue := 0 }, { name := "SIZE", type := .int, accessFlags := 25, slot := 3, constantValue := 0 }, { name := "BYTES", type := .int, accessFlags := 25, slot := 4, constantValue := 0 }, { name := "serialVersionUID", type := .long, accessFlags := 26, slot := 5, constantValue := 0 }]
  methods := #[k9m0, k9m1]
  instanceTypes := #[.long]
  staticTypes := #[.long, .long, (.object "java/lang/Class"), .int, .int, .long]
  resolved := Array.replicate 524 none
  statics := none }

def pool10 : Array CpInfo := pool [(2, .class_ 4), (1, u "java/lang/Object"), (0, u "<init>"), (0, u "()V"), (0, .class_ 8), (0, u "java/lang/Long"), (7, .class_ 18), (1, u "java/lang/Long$LongCache"), (0, u "$assertionsDisabled"), (0, u "Z"), (8, u "archivedCache"), (0, u "[Ljava/lang/Long;"), (7, u "cache")] 24

def k10m0 : Method := { name := "<init>", desc := "()V", sig := { parameters := [], returnType := none }, accessFlags := 2, code := none }
/-- java/lang/Long$LongCache -/
def k10 : Class := { plain "java/lang/Long$LongCache" (some 0) with
  accessFlags := 48
  interfaces := #[]
  cf := some (fileOf pool10 16 #[.nestHost 7] #[{ accessFlags := 2, nameIndex := 5, descriptorIndex := 6, attributes := #[] }] 48 2 #[] #[{ accessFlags := 24, nameIndex := 38, descriptorIndex := 30, attributes := #[] }, { accessFlags := 8, nameIndex := 29, descriptorIndex := 30, attributes := #[] }, { accessFlags := 4120, nameIndex := 19, descriptorIndex := 20, attributes := #[] }])
  fields := #[{ name := "cache", type := (.array (.object "java/lang/Long")), accessFlags := 24, slot := 0, constantValue := 0 }, { name := "archivedCache", type := (.array (.object "java/lang/Long")), accessFlags := 8, slot := 1, constantValue := 0 }, { name := "$assertionsDisabled", type := .boolean, accessFlags := 4120, slot := 2, constantValue := 0 }]
  methods := #[k10m0]
  instanceTypes := #[]
  staticTypes := #[(.array (.object "java/lang/Long")), (.array (.object "java/lang/Long")), .boolean]
  resolved := Array.replicate 63 none
  statics := some 0 }

def pool11 : Array CpInfo := pool [(1, u "java/lang/Cloneable"), (0, .class_ 1), (0, u "java/lang/Object"), (0, .class_ 3)] 3

/-- java/lang/Cloneable -/
def k11 : Class := { plain "java/lang/Cloneable" (some 0) with
  accessFlags := 1537
  interfaces := #[]
  cf := some (fileOf pool11 2 #[] #[] 1537 4 #[] #[])
  fields := #[]
  methods := #[]
  instanceTypes := #[]
  staticTypes := #[]
  resolved := Array.replicate 8 none
  statics := none }

/-- the primitive byte -/
def k12 : Class := { plain "byte" none with kind := .primitive 'B', accessFlags := 0x411 }
/-- [B -/
def k13 : Class := { plain "[B" (some 0) with kind := .array 12 .byte, interfaces := #[11, 4], accessFlags := 1041 }

/-- the primitive int -/
def k14 : Class := { plain "int" none with kind := .primitive 'I', accessFlags := 0x411 }
/-- [I -/
def k15 : Class := { plain "[I" (some 0) with kind := .array 14 .int, interfaces := #[11, 4], accessFlags := 1041 }

/-- [Ljava/lang/Long; -/
def k16 : Class := { plain "[Ljava/lang/Long;" (some 0) with kind := .array 9 (.object "java/lang/Long"), interfaces := #[11, 4], accessFlags := 1041 }

def heap : Heap := #[{ cls := 10, slots := #[.ref 1, .null, .int 0], vm := .statics 10 },
  { cls := 16, slots := #[.ref 2, .ref 3, .ref 4, .ref 5, .ref 6, .ref 7, .ref 8, .ref 9, .ref 10, .ref 11, .ref 12, .ref 13, .ref 14, .ref 15, .ref 16, .ref 17, .ref 18, .ref 19, .ref 20, .ref 21, .ref 22, .ref 23, .ref 24, .ref 25, .ref 26, .ref 27, .ref 28, .ref 29, .ref 30, .ref 31, .ref 32, .ref 33, .ref 34, .ref 35, .ref 36, .ref 37, .ref 38, .ref 39, .ref 40, .ref 41, .ref 42, .ref 43, .ref 44, .ref 45, .ref 46, .ref 47, .ref 48, .ref 49, .ref 50, .ref 51, .ref 52, .ref 53, .ref 54, .ref 55, .ref 56, .ref 57, .ref 58, .ref 59, .ref 60, .ref 61, .ref 62, .ref 63, .ref 64, .ref 65, .ref 66, .ref 67, .ref 68, .ref 69, .ref 70, .ref 71, .ref 72, .ref 73, .ref 74, .ref 75, .ref 76, .ref 77, .ref 78, .ref 79, .ref 80, .ref 81, .ref 82, .ref 83, .ref 84, .ref 85, .ref 86, .ref 87, .ref 88, .ref 89, .ref 90, .ref 91, .ref 92, .ref 93, .ref 94, .ref 95, .ref 96, .ref 97, .ref 98, .ref 99, .ref 100, .ref 101, .ref 102, .ref 103, .ref 104, .ref 105, .ref 106, .ref 107, .ref 108, .ref 109, .ref 110, .ref 111, .ref 112, .ref 113, .ref 114, .ref 115, .ref 116, .ref 117, .ref 118, .ref 119, .ref 120, .ref 121, .ref 122, .ref 123, .ref 124, .ref 125, .ref 126, .ref 127, .ref 128, .ref 129, .ref 130, .ref 131, .ref 132, .ref 133, .ref 134, .ref 135, .ref 136, .ref 137, .ref 138, .ref 139, .ref 140, .ref 141, .ref 142, .ref 143, .ref 144, .ref 145, .ref 146, .ref 147, .ref 148, .ref 149, .ref 150, .ref 151, .ref 152, .ref 153, .ref 154, .ref 155, .ref 156, .ref 157, .ref 158, .ref 159, .ref 160, .ref 161, .ref 162, .ref 163, .ref 164, .ref 165, .ref 166, .ref 167, .ref 168, .ref 169, .ref 170, .ref 171, .ref 172, .ref 173, .ref 174, .ref 175, .ref 176, .ref 177, .ref 178, .ref 179, .ref 180, .ref 181, .ref 182, .ref 183, .ref 184, .ref 185, .ref 186, .ref 187, .ref 188, .ref 189, .ref 190, .ref 191, .ref 192, .ref 193, .ref 194, .ref 195, .ref 196, .ref 197, .ref 198, .ref 199, .ref 200, .ref 201, .ref 202, .ref 203, .ref 204, .ref 205, .ref 206, .ref 207, .ref 208, .ref 209, .ref 210, .ref 211, .ref 212, .ref 213, .ref 214, .ref 215, .ref 216, .ref 217, .ref 218, .ref 219, .ref 220, .ref 221, .ref 222, .ref 223, .ref 224, .ref 225, .ref 226, .ref 227, .ref 228, .ref 229, .ref 230, .ref 231, .ref 232, .ref 233, .ref 234, .ref 235, .ref 236, .ref 237, .ref 238, .ref 239, .ref 240, .ref 241, .ref 242, .ref 243, .ref 244, .ref 245, .ref 246, .ref 247, .ref 248, .ref 249, .ref 250, .ref 251, .ref 252, .ref 253, .ref 254, .ref 255, .ref 256, .ref 257], vm := .none },
  { cls := 9, slots := #[.long (-128)], vm := .none },
  { cls := 9, slots := #[.long (-127)], vm := .none },
  { cls := 9, slots := #[.long (-126)], vm := .none },
  { cls := 9, slots := #[.long (-125)], vm := .none },
  { cls := 9, slots := #[.long (-124)], vm := .none },
  { cls := 9, slots := #[.long (-123)], vm := .none },
  { cls := 9, slots := #[.long (-122)], vm := .none },
  { cls := 9, slots := #[.long (-121)], vm := .none },
  { cls := 9, slots := #[.long (-120)], vm := .none },
  { cls := 9, slots := #[.long (-119)], vm := .none },
  { cls := 9, slots := #[.long (-118)], vm := .none },
  { cls := 9, slots := #[.long (-117)], vm := .none },
  { cls := 9, slots := #[.long (-116)], vm := .none },
  { cls := 9, slots := #[.long (-115)], vm := .none },
  { cls := 9, slots := #[.long (-114)], vm := .none },
  { cls := 9, slots := #[.long (-113)], vm := .none },
  { cls := 9, slots := #[.long (-112)], vm := .none },
  { cls := 9, slots := #[.long (-111)], vm := .none },
  { cls := 9, slots := #[.long (-110)], vm := .none },
  { cls := 9, slots := #[.long (-109)], vm := .none },
  { cls := 9, slots := #[.long (-108)], vm := .none },
  { cls := 9, slots := #[.long (-107)], vm := .none },
  { cls := 9, slots := #[.long (-106)], vm := .none },
  { cls := 9, slots := #[.long (-105)], vm := .none },
  { cls := 9, slots := #[.long (-104)], vm := .none },
  { cls := 9, slots := #[.long (-103)], vm := .none },
  { cls := 9, slots := #[.long (-102)], vm := .none },
  { cls := 9, slots := #[.long (-101)], vm := .none },
  { cls := 9, slots := #[.long (-100)], vm := .none },
  { cls := 9, slots := #[.long (-99)], vm := .none },
  { cls := 9, slots := #[.long (-98)], vm := .none },
  { cls := 9, slots := #[.long (-97)], vm := .none },
  { cls := 9, slots := #[.long (-96)], vm := .none },
  { cls := 9, slots := #[.long (-95)], vm := .none },
  { cls := 9, slots := #[.long (-94)], vm := .none },
  { cls := 9, slots := #[.long (-93)], vm := .none },
  { cls := 9, slots := #[.long (-92)], vm := .none },
  { cls := 9, slots := #[.long (-91)], vm := .none },
  { cls := 9, slots := #[.long (-90)], vm := .none },
  { cls := 9, slots := #[.long (-89)], vm := .none },
  { cls := 9, slots := #[.long (-88)], vm := .none },
  { cls := 9, slots := #[.long (-87)], vm := .none },
  { cls := 9, slots := #[.long (-86)], vm := .none },
  { cls := 9, slots := #[.long (-85)], vm := .none },
  { cls := 9, slots := #[.long (-84)], vm := .none },
  { cls := 9, slots := #[.long (-83)], vm := .none },
  { cls := 9, slots := #[.long (-82)], vm := .none },
  { cls := 9, slots := #[.long (-81)], vm := .none },
  { cls := 9, slots := #[.long (-80)], vm := .none },
  { cls := 9, slots := #[.long (-79)], vm := .none },
  { cls := 9, slots := #[.long (-78)], vm := .none },
  { cls := 9, slots := #[.long (-77)], vm := .none },
  { cls := 9, slots := #[.long (-76)], vm := .none },
  { cls := 9, slots := #[.long (-75)], vm := .none },
  { cls := 9, slots := #[.long (-74)], vm := .none },
  { cls := 9, slots := #[.long (-73)], vm := .none },
  { cls := 9, slots := #[.long (-72)], vm := .none },
  { cls := 9, slots := #[.long (-71)], vm := .none },
  { cls := 9, slots := #[.long (-70)], vm := .none },
  { cls := 9, slots := #[.long (-69)], vm := .none },
  { cls := 9, slots := #[.long (-68)], vm := .none },
  { cls := 9, slots := #[.long (-67)], vm := .none },
  { cls := 9, slots := #[.long (-66)], vm := .none },
  { cls := 9, slots := #[.long (-65)], vm := .none },
  { cls := 9, slots := #[.long (-64)], vm := .none },
  { cls := 9, slots := #[.long (-63)], vm := .none },
  { cls := 9, slots := #[.long (-62)], vm := .none },
  { cls := 9, slots := #[.long (-61)], vm := .none },
  { cls := 9, slots := #[.long (-60)], vm := .none },
  { cls := 9, slots := #[.long (-59)], vm := .none },
  { cls := 9, slots := #[.long (-58)], vm := .none },
  { cls := 9, slots := #[.long (-57)], vm := .none },
  { cls := 9, slots := #[.long (-56)], vm := .none },
  { cls := 9, slots := #[.long (-55)], vm := .none },
  { cls := 9, slots := #[.long (-54)], vm := .none },
  { cls := 9, slots := #[.long (-53)], vm := .none },
  { cls := 9, slots := #[.long (-52)], vm := .none },
  { cls := 9, slots := #[.long (-51)], vm := .none },
  { cls := 9, slots := #[.long (-50)], vm := .none },
  { cls := 9, slots := #[.long (-49)], vm := .none },
  { cls := 9, slots := #[.long (-48)], vm := .none },
  { cls := 9, slots := #[.long (-47)], vm := .none },
  { cls := 9, slots := #[.long (-46)], vm := .none },
  { cls := 9, slots := #[.long (-45)], vm := .none },
  { cls := 9, slots := #[.long (-44)], vm := .none },
  { cls := 9, slots := #[.long (-43)], vm := .none },
  { cls := 9, slots := #[.long (-42)], vm := .none },
  { cls := 9, slots := #[.long (-41)], vm := .none },
  { cls := 9, slots := #[.long (-40)], vm := .none },
  { cls := 9, slots := #[.long (-39)], vm := .none },
  { cls := 9, slots := #[.long (-38)], vm := .none },
  { cls := 9, slots := #[.long (-37)], vm := .none },
  { cls := 9, slots := #[.long (-36)], vm := .none },
  { cls := 9, slots := #[.long (-35)], vm := .none },
  { cls := 9, slots := #[.long (-34)], vm := .none },
  { cls := 9, slots := #[.long (-33)], vm := .none },
  { cls := 9, slots := #[.long (-32)], vm := .none },
  { cls := 9, slots := #[.long (-31)], vm := .none },
  { cls := 9, slots := #[.long (-30)], vm := .none },
  { cls := 9, slots := #[.long (-29)], vm := .none },
  { cls := 9, slots := #[.long (-28)], vm := .none },
  { cls := 9, slots := #[.long (-27)], vm := .none },
  { cls := 9, slots := #[.long (-26)], vm := .none },
  { cls := 9, slots := #[.long (-25)], vm := .none },
  { cls := 9, slots := #[.long (-24)], vm := .none },
  { cls := 9, slots := #[.long (-23)], vm := .none },
  { cls := 9, slots := #[.long (-22)], vm := .none },
  { cls := 9, slots := #[.long (-21)], vm := .none },
  { cls := 9, slots := #[.long (-20)], vm := .none },
  { cls := 9, slots := #[.long (-19)], vm := .none },
  { cls := 9, slots := #[.long (-18)], vm := .none },
  { cls := 9, slots := #[.long (-17)], vm := .none },
  { cls := 9, slots := #[.long (-16)], vm := .none },
  { cls := 9, slots := #[.long (-15)], vm := .none },
  { cls := 9, slots := #[.long (-14)], vm := .none },
  { cls := 9, slots := #[.long (-13)], vm := .none },
  { cls := 9, slots := #[.long (-12)], vm := .none },
  { cls := 9, slots := #[.long (-11)], vm := .none },
  { cls := 9, slots := #[.long (-10)], vm := .none },
  { cls := 9, slots := #[.long (-9)], vm := .none },
  { cls := 9, slots := #[.long (-8)], vm := .none },
  { cls := 9, slots := #[.long (-7)], vm := .none },
  { cls := 9, slots := #[.long (-6)], vm := .none },
  { cls := 9, slots := #[.long (-5)], vm := .none },
  { cls := 9, slots := #[.long (-4)], vm := .none },
  { cls := 9, slots := #[.long (-3)], vm := .none },
  { cls := 9, slots := #[.long (-2)], vm := .none },
  { cls := 9, slots := #[.long (-1)], vm := .none },
  { cls := 9, slots := #[.long (0)], vm := .none },
  { cls := 9, slots := #[.long (1)], vm := .none },
  { cls := 9, slots := #[.long (2)], vm := .none },
  { cls := 9, slots := #[.long (3)], vm := .none },
  { cls := 9, slots := #[.long (4)], vm := .none },
  { cls := 9, slots := #[.long (5)], vm := .none },
  { cls := 9, slots := #[.long (6)], vm := .none },
  { cls := 9, slots := #[.long (7)], vm := .none },
  { cls := 9, slots := #[.long (8)], vm := .none },
  { cls := 9, slots := #[.long (9)], vm := .none },
  { cls := 9, slots := #[.long (10)], vm := .none },
  { cls := 9, slots := #[.long (11)], vm := .none },
  { cls := 9, slots := #[.long (12)], vm := .none },
  { cls := 9, slots := #[.long (13)], vm := .none },
  { cls := 9, slots := #[.long (14)], vm := .none },
  { cls := 9, slots := #[.long (15)], vm := .none },
  { cls := 9, slots := #[.long (16)], vm := .none },
  { cls := 9, slots := #[.long (17)], vm := .none },
  { cls := 9, slots := #[.long (18)], vm := .none },
  { cls := 9, slots := #[.long (19)], vm := .none },
  { cls := 9, slots := #[.long (20)], vm := .none },
  { cls := 9, slots := #[.long (21)], vm := .none },
  { cls := 9, slots := #[.long (22)], vm := .none },
  { cls := 9, slots := #[.long (23)], vm := .none },
  { cls := 9, slots := #[.long (24)], vm := .none },
  { cls := 9, slots := #[.long (25)], vm := .none },
  { cls := 9, slots := #[.long (26)], vm := .none },
  { cls := 9, slots := #[.long (27)], vm := .none },
  { cls := 9, slots := #[.long (28)], vm := .none },
  { cls := 9, slots := #[.long (29)], vm := .none },
  { cls := 9, slots := #[.long (30)], vm := .none },
  { cls := 9, slots := #[.long (31)], vm := .none },
  { cls := 9, slots := #[.long (32)], vm := .none },
  { cls := 9, slots := #[.long (33)], vm := .none },
  { cls := 9, slots := #[.long (34)], vm := .none },
  { cls := 9, slots := #[.long (35)], vm := .none },
  { cls := 9, slots := #[.long (36)], vm := .none },
  { cls := 9, slots := #[.long (37)], vm := .none },
  { cls := 9, slots := #[.long (38)], vm := .none },
  { cls := 9, slots := #[.long (39)], vm := .none },
  { cls := 9, slots := #[.long (40)], vm := .none },
  { cls := 9, slots := #[.long (41)], vm := .none },
  { cls := 9, slots := #[.long (42)], vm := .none },
  { cls := 9, slots := #[.long (43)], vm := .none },
  { cls := 9, slots := #[.long (44)], vm := .none },
  { cls := 9, slots := #[.long (45)], vm := .none },
  { cls := 9, slots := #[.long (46)], vm := .none },
  { cls := 9, slots := #[.long (47)], vm := .none },
  { cls := 9, slots := #[.long (48)], vm := .none },
  { cls := 9, slots := #[.long (49)], vm := .none },
  { cls := 9, slots := #[.long (50)], vm := .none },
  { cls := 9, slots := #[.long (51)], vm := .none },
  { cls := 9, slots := #[.long (52)], vm := .none },
  { cls := 9, slots := #[.long (53)], vm := .none },
  { cls := 9, slots := #[.long (54)], vm := .none },
  { cls := 9, slots := #[.long (55)], vm := .none },
  { cls := 9, slots := #[.long (56)], vm := .none },
  { cls := 9, slots := #[.long (57)], vm := .none },
  { cls := 9, slots := #[.long (58)], vm := .none },
  { cls := 9, slots := #[.long (59)], vm := .none },
  { cls := 9, slots := #[.long (60)], vm := .none },
  { cls := 9, slots := #[.long (61)], vm := .none },
  { cls := 9, slots := #[.long (62)], vm := .none },
  { cls := 9, slots := #[.long (63)], vm := .none },
  { cls := 9, slots := #[.long (64)], vm := .none },
  { cls := 9, slots := #[.long (65)], vm := .none },
  { cls := 9, slots := #[.long (66)], vm := .none },
  { cls := 9, slots := #[.long (67)], vm := .none },
  { cls := 9, slots := #[.long (68)], vm := .none },
  { cls := 9, slots := #[.long (69)], vm := .none },
  { cls := 9, slots := #[.long (70)], vm := .none },
  { cls := 9, slots := #[.long (71)], vm := .none },
  { cls := 9, slots := #[.long (72)], vm := .none },
  { cls := 9, slots := #[.long (73)], vm := .none },
  { cls := 9, slots := #[.long (74)], vm := .none },
  { cls := 9, slots := #[.long (75)], vm := .none },
  { cls := 9, slots := #[.long (76)], vm := .none },
  { cls := 9, slots := #[.long (77)], vm := .none },
  { cls := 9, slots := #[.long (78)], vm := .none },
  { cls := 9, slots := #[.long (79)], vm := .none },
  { cls := 9, slots := #[.long (80)], vm := .none },
  { cls := 9, slots := #[.long (81)], vm := .none },
  { cls := 9, slots := #[.long (82)], vm := .none },
  { cls := 9, slots := #[.long (83)], vm := .none },
  { cls := 9, slots := #[.long (84)], vm := .none },
  { cls := 9, slots := #[.long (85)], vm := .none },
  { cls := 9, slots := #[.long (86)], vm := .none },
  { cls := 9, slots := #[.long (87)], vm := .none },
  { cls := 9, slots := #[.long (88)], vm := .none },
  { cls := 9, slots := #[.long (89)], vm := .none },
  { cls := 9, slots := #[.long (90)], vm := .none },
  { cls := 9, slots := #[.long (91)], vm := .none },
  { cls := 9, slots := #[.long (92)], vm := .none },
  { cls := 9, slots := #[.long (93)], vm := .none },
  { cls := 9, slots := #[.long (94)], vm := .none },
  { cls := 9, slots := #[.long (95)], vm := .none },
  { cls := 9, slots := #[.long (96)], vm := .none },
  { cls := 9, slots := #[.long (97)], vm := .none },
  { cls := 9, slots := #[.long (98)], vm := .none },
  { cls := 9, slots := #[.long (99)], vm := .none },
  { cls := 9, slots := #[.long (100)], vm := .none },
  { cls := 9, slots := #[.long (101)], vm := .none },
  { cls := 9, slots := #[.long (102)], vm := .none },
  { cls := 9, slots := #[.long (103)], vm := .none },
  { cls := 9, slots := #[.long (104)], vm := .none },
  { cls := 9, slots := #[.long (105)], vm := .none },
  { cls := 9, slots := #[.long (106)], vm := .none },
  { cls := 9, slots := #[.long (107)], vm := .none },
  { cls := 9, slots := #[.long (108)], vm := .none },
  { cls := 9, slots := #[.long (109)], vm := .none },
  { cls := 9, slots := #[.long (110)], vm := .none },
  { cls := 9, slots := #[.long (111)], vm := .none },
  { cls := 9, slots := #[.long (112)], vm := .none },
  { cls := 9, slots := #[.long (113)], vm := .none },
  { cls := 9, slots := #[.long (114)], vm := .none },
  { cls := 9, slots := #[.long (115)], vm := .none },
  { cls := 9, slots := #[.long (116)], vm := .none },
  { cls := 9, slots := #[.long (117)], vm := .none },
  { cls := 9, slots := #[.long (118)], vm := .none },
  { cls := 9, slots := #[.long (119)], vm := .none },
  { cls := 9, slots := #[.long (120)], vm := .none },
  { cls := 9, slots := #[.long (121)], vm := .none },
  { cls := 9, slots := #[.long (122)], vm := .none },
  { cls := 9, slots := #[.long (123)], vm := .none },
  { cls := 9, slots := #[.long (124)], vm := .none },
  { cls := 9, slots := #[.long (125)], vm := .none },
  { cls := 9, slots := #[.long (126)], vm := .none },
  { cls := 9, slots := #[.long (127)], vm := .none }]
def classes : Array Class := #[k0, k1, k2, k3, k4, k5, k6, k7, k8, k9, k10, k11, k12, k13, k14, k15, k16]
def interned : List (Array UInt16 × Addr) := []
def slotsUsed : Nat := 515
def theMethod : MethodId := ⟨1, 1⟩
def args0 : Array Value := #[.long 5, .long 7, .long 5, .long 7, .int 0]
def aboutOver (below : List Frame) : State where
  vm := { classes := classes, interned := interned.toArray }
  heap := heap
  slotsUsed := slotsUsed
  threads := #[{ frames := .invoking theMethod args0 :: below }]
def below0 : List Frame := [.native { method := ⟨0, 0⟩, args := #[] }]
def about1 : State := aboutOver below0
def p0 : Program := .bare "" "" ""
def e0 : Env := launch0.env 0 0 0
theorem w_frames : about1.frames = Frame.invoking theMethod args0 :: below0 := rfl
set_option maxRecDepth 65536 in
theorem w_args : argsFit about1.vm theMethod args0 = true := by decide +kernel
set_option maxRecDepth 65536 in
theorem w_heap : heapFits about1 = true := by decide +kernel
set_option maxRecDepth 65536 in
theorem w_runnable : about1.curStatus? = some .runnable := by decide +kernel
set_option maxRecDepth 65536 in
theorem w_alone : about1.alone = true := by decide +kernel
set_option maxRecDepth 65536 in
theorem w_named : about1.methodNamed? x = some theMethod := by decide +kernel
set_option maxRecDepth 65536 in
theorem w_hears : about1.hears theMethod below0 = true := by decide +kernel
set_option maxRecDepth 65536 in
theorem w_ripe : about1.ripe theMethod args0 below0 = true := by decide +kernel
theorem w_running : about1.status = .running := rfl
set_option maxRecDepth 65536 in
theorem w_room : about1.hasRoom e0.platform room_1 = true :=
  launch0.hasRoom_least _ room_1 (by decide +kernel) (by decide +kernel) (by decide +kernel) (by decide +kernel) (by decide +kernel) (by decide +kernel)
theorem allAtoms_all (ts : List Jvm.Cond) (a : Array Jvm.Value) (st : Jvm.State) : (allAtoms ts).before a st = ts.all (fun c => c.before a st) := by
  induction ts with
  | nil => rfl
  | cons c t ih =>
    show (Jvm.Cond.and c (allAtoms t)).before a st = _
    rw [Jvm.Cond.before_and, ih, List.all_cons]
def words1 : List Jvm.Cond := Jvm.Cond.code x code maxLocals ret :: tables_1
/-- a 'code' word, met by the world's own term for the bytes: nothing is compared byte by byte -/
theorem code_word {y : MethodName} {bytes : ByteArray} {mx : Nat} {rt : Option FieldType} {a : Array Value} {s : State} {m : MethodId} {meth : Method} {c : Code} (h1 : s.methodNamed? y = some m) (h2 : s.vm.method? m = some meth) (h3 : meth.code = some c) (h4 : c.code = bytes)
    (h5 : (c.maxLocals == mx && c.exceptionTable.isEmpty && decide (c.maxStack ≤ mostOperands) && decide (meth.sig.returnType = rt) && !meth.locks && decide (parseMethodDescriptor y.desc = some meth.sig)) = true) : (Jvm.Cond.code y bytes mx rt).before a s = true := by
  simp only [Bool.and_eq_true, beq_iff_eq, Bool.not_eq_true', decide_eq_true_eq] at h5
  obtain ⟨⟨⟨⟨⟨g1, g2⟩, g3⟩, g4⟩, g5⟩, g6⟩ := h5
  simp [Cond.before, Cond.holds, Cond.value, h1, h2, h3, h4, g1, g2, g3, g4, g5, g6]
def isCode : Jvm.Cond → Bool
  | .code _ _ _ _ => true
  | _ => false
theorem all_split {L : List Jvm.Cond} {P : Jvm.Cond → Bool} (h1 : L.all (fun c => isCode c || P c) = true) (h2 : ∀ c ∈ L.filter isCode, P c = true) : L.all P = true := by
  refine List.all_eq_true.mpr fun c hc => ?_
  have h := List.all_eq_true.mp h1 c hc
  rcases Bool.eq_false_or_eq_true (isCode c) with hi | hi
  · exact h2 c (List.mem_filter.mpr ⟨hc, hi⟩)
  · simpa [hi] using h
set_option maxRecDepth 65536 in
theorem w_c0 : (Jvm.Cond.code x code maxLocals ret).before args0 about1 = true := code_word (m := ⟨1, 1⟩) (meth := k1m1) (c := k1c1) (by decide +kernel) rfl rfl rfl (by decide +kernel)
set_option maxRecDepth 65536 in
theorem w_c1 : (Jvm.Cond.code ({ cls := "com/example/omphale/omphale/KeyRange", name := "<init>", desc := "(JJ)V" } : Jvm.MethodName) prog_4_method_1_code (5 : Nat) (Option.none : Option Jvm.ClassFile.FieldType)).before args0 about1 = true := code_word (m := ⟨3, 0⟩) (meth := k3m0) (c := k3c0) (by decide +kernel) rfl rfl rfl (by decide +kernel)
set_option maxRecDepth 65536 in
theorem w_c2 : (Jvm.Cond.code ({ cls := "java/lang/Record", name := "<init>", desc := "()V" } : Jvm.MethodName) jdk_30_method_1_code (1 : Nat) (Option.none : Option Jvm.ClassFile.FieldType)).before args0 about1 = true := code_word (m := ⟨2, 0⟩) (meth := k2m0) (c := k2c0) (by decide +kernel) rfl rfl rfl (by decide +kernel)
set_option maxRecDepth 65536 in
theorem w_c3 : (Jvm.Cond.code ({ cls := "java/lang/Object", name := "<init>", desc := "()V" } : Jvm.MethodName) object_method_1_code (1 : Nat) (Option.none : Option Jvm.ClassFile.FieldType)).before args0 about1 = true := code_word (m := ⟨0, 0⟩) (meth := k0m0) (c := k0c0) (by decide +kernel) rfl rfl rfl (by decide +kernel)
set_option maxRecDepth 65536 in
theorem w_c4 : (Jvm.Cond.code ({ cls := "com/example/omphale/omphale/KeyRange", name := "equals", desc := "(Ljava/lang/Object;)Z" } : Jvm.MethodName) prog_4_method_6_code (3 : Nat) (Option.some Jvm.ClassFile.FieldType.boolean)).before args0 about1 = true := code_word (m := ⟨3, 1⟩) (meth := k3m1) (c := k3c1) (by decide +kernel) rfl rfl rfl (by decide +kernel)
set_option maxRecDepth 65536 in
theorem w_c5 : (Jvm.Cond.code ({ cls := "java/lang/Long", name := "valueOf", desc := "(J)Ljava/lang/Long;" } : Jvm.MethodName) jdk_35_method_24_code (3 : Nat) (Option.some (Jvm.ClassFile.FieldType.object "java/lang/Long"))).before args0 about1 = true := code_word (m := ⟨9, 0⟩) (meth := k9m0) (c := k9c0) (by decide +kernel) rfl rfl rfl (by decide +kernel)
set_option maxRecDepth 65536 in
theorem w_c6 : (Jvm.Cond.code ({ cls := "java/lang/Long", name := "<init>", desc := "(J)V" } : Jvm.MethodName) jdk_35_method_26_code (3 : Nat) (Option.none : Option Jvm.ClassFile.FieldType)).before args0 about1 = true := code_word (m := ⟨9, 1⟩) (meth := k9m1) (c := k9c1) (by decide +kernel) rfl rfl rfl (by decide +kernel)
set_option maxRecDepth 65536 in
theorem w_c7 : (Jvm.Cond.code ({ cls := "java/lang/Number", name := "<init>", desc := "()V" } : Jvm.MethodName) jdk_18_method_1_code (1 : Nat) (Option.none : Option Jvm.ClassFile.FieldType)).before args0 about1 = true := code_word (m := ⟨5, 0⟩) (meth := k5m0) (c := k5c0) (by decide +kernel) rfl rfl rfl (by decide +kernel)
def codes1 : List Jvm.Cond := [Jvm.Cond.code x code maxLocals ret, Jvm.Cond.code ({ cls := "com/example/omphale/omphale/KeyRange", name := "<init>", desc := "(JJ)V" } : Jvm.MethodName) prog_4_method_1_code (5 : Nat) (Option.none : Option Jvm.ClassFile.FieldType), Jvm.Cond.code ({ cls := "java/lang/Record", name := "<init>", desc := "()V" } : Jvm.MethodName) jdk_30_method_1_code (1 : Nat) (Option.none : Option Jvm.ClassFile.FieldType), Jvm.Cond.code ({ cls := "java/lang/Object", name := "<init>", desc := "()V" } : Jvm.MethodName) object_method_1_code (1 : Nat) (Option.none : Option Jvm.ClassFile.FieldType), Jvm.Cond.code ({ cls := "com/example/omphale/omphale/KeyRange", name := "equals", desc := "(Ljava/lang/Object;)Z" } : Jvm.MethodName) prog_4_method_6_code (3 : Nat) (Option.some Jvm.ClassFile.FieldType.boolean), Jvm.Cond.code ({ cls := "java/lang/Long", name := "valueOf", desc := "(J)Ljava/lang/Long;" } : Jvm.MethodName) jdk_35_method_24_code (3 : Nat) (Option.some (Jvm.ClassFile.FieldType.object "java/lang/Long")), Jvm.Cond.code ({ cls := "java/lang/Long", name := "<init>", desc := "(J)V" } : Jvm.MethodName) jdk_35_method_26_code (3 : Nat) (Option.none : Option Jvm.ClassFile.FieldType), Jvm.Cond.code ({ cls := "java/lang/Number", name := "<init>", desc := "()V" } : Jvm.MethodName) jdk_18_method_1_code (1 : Nat) (Option.none : Option Jvm.ClassFile.FieldType)]
set_option maxRecDepth 65536 in
theorem codes_eq : words1.filter isCode = codes1 := rfl
theorem w_codes : ∀ c ∈ words1.filter isCode, c.before args0 about1 = true := by
  rw [codes_eq]
  intro c hc
  simp only [codes1, List.mem_cons, List.not_mem_nil, or_false] at hc
  rcases hc with rfl | rfl | rfl | rfl | rfl | rfl | rfl | rfl
  · exact w_c0
  · exact w_c1
  · exact w_c2
  · exact w_c3
  · exact w_c4
  · exact w_c5
  · exact w_c6
  · exact w_c7
set_option maxRecDepth 65536 in
theorem w_t1 : (words1.take 24).all (fun c => isCode c || c.before args0 about1) = true := by decide +kernel
set_option maxRecDepth 65536 in
theorem w_t2 : ((words1.drop 24).take 24).all (fun c => isCode c || c.before args0 about1) = true := by decide +kernel
set_option maxRecDepth 65536 in
theorem w_t3 : ((words1.drop 24).drop 24).all (fun c => isCode c || c.before args0 about1) = true := by decide +kernel
theorem w_tables : (allAtoms (Jvm.Cond.code x code maxLocals ret :: tables_1)).before args0 about1 = true := by
  rw [allAtoms_all]
  show words1.all (fun c => c.before args0 about1) = true
  refine all_split ?_ w_codes
  rw [← List.take_append_drop 24 words1, List.all_append, w_t1, ← List.take_append_drop 24 (words1.drop 24), List.all_append, w_t2, w_t3]
  rfl
set_option maxRecDepth 65536 in
theorem w_rest : rest_1_c.before args0 about1 = true := by decide +kernel
set_option maxRecDepth 65536 in
theorem w_case : (Jvm.Cond.and given_1 narrow_1).before args0 about1 = true := by decide +kernel
theorem w_applies : (headSpec (Jvm.Cond.code x code maxLocals ret :: tables_1) room_1).applies x e0.platform about1 = true :=
  (Spec.applies_iff w_frames).mpr ⟨w_running, w_runnable, w_alone, w_named, w_hears, w_ripe, w_room, w_tables⟩
theorem atStart : AtStart classFile x code maxLocals ret World_1 tables_1 room_1 Calls_1 rest_1 Pre_1 launch0 p0 e0 about1 theMethod args0 below0 :=
  ⟨lists_1, trivial, launch0.admits_env _ _ _, launch0.least_env, fairChoices_fair.cas, fairChoices_fair.clock, w_frames, w_args, w_heap, w_applies, trivial, w_rest, w_case⟩
end start1
theorem witness_1 : WitnessClaimed_1 := ⟨start1.p0, start1.e0, start1.about1, start1.theMethod, start1.args0, start1.below0, start1.atStart⟩
end Jvm.Pilot.@@N@@
