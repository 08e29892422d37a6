import JvmDerived
import JvmDerived.Pilot.@@N@@Statement
import JvmDerived.Pilot.@@N@@Code
set_option linter.unusedVariables false
set_option linter.unusedSimpArgs false

namespace Jvm.Pilot.@@N@@
open Jvm Jvm.ClassFile Sem Op Lib Jvm.Free Jvm.Stand Jvm.LawKit Jvm.RoadKit Bundle Jvm.Pilot.@@N@@.Jvm.D
/-! the walk in continuation form: what is left to be shown of a state on the road -/
def own_Gl (p : Program) (e : Env) (below : List Frame) (P : Outcome → State → Prop) (S : State) : Prop := ∃ s₂ o, Steps p.tables e below S s₂ ∧ s₂.status = .running ∧ Ended s₂ below o ∧ P o s₂
theorem own_go {p : Program} {e : Env} {below : List Frame} {P : Outcome → State → Prop} {S S' : State} (k : ∀ t, Steps p.tables e below S' t → Steps p.tables e below S t) (h : own_Gl p e below P S') : own_Gl p e below P S := by
  obtain ⟨u, o, h1, h2⟩ := h
  exact ⟨u, o, k u h1, h2⟩
theorem own_ext {h0 h : Heap} (K : Keep h0 h []) : Ext h0 h := ⟨K.1, fun a c q => K.2.1 a c q nin0⟩
theorem own_jn {p : Program} {e : Env} {below : List Frame} {P : Outcome → State → Prop} {S S' : State} (h : own_Gl p e below P S) (k : own_Gl p e below P S → own_Gl p e below P S') : own_Gl p e below P S' := k h
theorem own_ind {p : Program} {e : Env} {below : List Frame} {P : Outcome → State → Prop} (I : Nat → State → Prop) (step : ∀ n S, (∀ n', n' < n → ∀ S', I n' S' → own_Gl p e below P S') → I n S → own_Gl p e below P S) {n : Nat} {S : State} (h : I n S) : own_Gl p e below P S := by
  induction n using Nat.strongRecOn generalizing S with
  | ind n ih => exact step n S (fun n' hn S' hI => ih n' hn hI) h
theorem own_fin {p : Program} {e : Env} {below : List Frame} {P : Outcome → State → Prop} {S u : State} {o : Outcome} (h1 : Steps p.tables e below S u) (h2 : u.status = .running) (h3 : Ended u below o) (h4 : P o u) : own_Gl p e below P S := ⟨u, o, h1, h2, h3, h4⟩
theorem d2_0 : decode jdk_30_method_1_code 0 = .ok (.aload_n 0, 1) := by decide +kernel
theorem d2_1 : decode jdk_30_method_1_code 1 = .ok (.invokespecial 1, 3) := by decide +kernel
theorem d2_4 : decode jdk_30_method_1_code 4 = .ok (.return_, 1) := by decide +kernel
theorem pn_java_lang_Record : plainName "java/lang/Record" = true := by first | (simp [plainName, overriddenIn]; done) | decide +kernel
theorem ef_2 (m : MethodId) (r0 : Addr) : entryFrame m #[(.ref r0)] 1 = mkF m 0 #[.val (.ref r0)] [] := by first | (simp [entryFrame, mkF, argsToLocals, Value.category]; done) | rfl
def Q2 (Z : State) (r0 : Addr) (h0 : Heap) (n0 : Nat) (v : Option Value) (h : Heap) (L : List Loc) : Prop := Fr n0 L ∧ v = none ∧ h = h0
set_option maxRecDepth 65536 in
set_option maxHeartbeats 40000000 in
theorem rm2 (l : Launch) (Z : State) (a0 : Array Value) (hw : ∀ d ∈ tables_1, d.before a0 Z = true) (ws : List Jvm.Cond) (r0 : Addr) (h0 : Heap) (n0 : Nat) (Z0 : n0 ≤ h0.size)  :
    MetFree l (⟨"java/lang/Record", "<init>", "()V"⟩ : MethodName) (head1 (Jvm.Cond.code (⟨"java/lang/Record", "<init>", "()V"⟩ : MethodName) jdk_30_method_1_code 1 none :: ws) ({ frames := 1, cells := 0, slots := 0, locals := 12 } : Room)) (fun a U => a = #[(.ref r0)] ∧ Z.Warmed39 U.vm ∧ U.heap = h0) (fun _ _ _ _ _ => True) (fun _ U o U' => ∃ v L, o = .returned v ∧ Q2 Z r0 h0 n0 v U'.heap L ∧ FrameEnd U o U' L ({ frames := 1, cells := 0, slots := 0, locals := 12 } : Room).cells ({ frames := 1, cells := 0, slots := 0, locals := 12 } : Room).slots) := by
  refine MetFree.of_bodySF (plainFor_of_name pn_java_lang_Record) hisR ?_
  intro p e s m args below meth c s₁ Bd hml0 hP hK
  obtain ⟨rfl, hZ, hh⟩ := hP
  have hx := Bd.exec
  have hby := Bd.bytes
  have hml : c.maxLocals = 1 := hml0
  have hown : s.vm.findClass "java/lang/Record" = some m.cls := findClass_of_methodNamed Bd.named
  have hnm := (name_of_methodNamed Bd.named Bd.method).1
  have X0 : Stand p l e ({ frames := 1, cells := 0, slots := 0, locals := 12 } : Room) s m #[(.ref r0)] below meth c s₁ [] 0 0 := Stand.of_body Bd
  have e0 : s₁.heap = h0 := by rw [← hh, Bd.state]; rfl
  have N0 := Fr.nil n0
  show own_Gl p e below (fun o U' => ∃ v L, o = .returned v ∧ Q2 Z r0 h0 n0 v U'.heap L ∧ FrameEnd s o U' L ({ frames := 1, cells := 0, slots := 0, locals := 12 } : Room).cells ({ frames := 1, cells := 0, slots := 0, locals := 12 } : Room).slots) (s₁.setTop (entryFrame m #[(.ref r0)] 1))
  refine own_go (fun t k => castTop (ef_2 m r0) k) ?_
  show own_Gl _ _ _ _ (s₁.setTop (mkF m 0 #[.val (.ref r0)] []))
  refine own_go (fun t k => XS.aloadN X0.here hx rfl (hb hby d2_0) rfl rfl k) ?_
  show own_Gl _ _ _ _ (s₁.setTop (mkF m 1 #[.val (.ref r0)] [(.ref r0)]))
  obtain ⟨T1, X1, e1, st1⟩ := initO X0 hx hZ hown (hw _ (List.mem_of_getElem? (i := 11) rfl)) (hw _ (List.mem_of_getElem? (i := 12) rfl)) (hw _ (List.mem_of_getElem? (i := 13) rfl)) e0 (g := (mkF m 1 #[.val (.ref r0)] [(.ref r0)])) rfl (by rw [hml]; rfl) rfl (hb hby d2_1) (by decide) (W := 0) (by show 2 * 0 + _ ≤ _; exact Nat.le_of_eq rfl) (by decide)
  refine own_go (fun t k => st1 _ k) ?_
  show own_Gl _ _ _ _ (T1.setTop (mkF m 4 #[.val (.ref r0)] []))
  obtain ⟨fs, hr, hrun, hended, hW, hsame⟩ := X1.leave (v := none) (fun _ => rfl)
  refine own_fin (X1.returnOut hx Bd.returns (hb hby d2_4) hr) hrun hended ⟨_, _, rfl, ?_, ⟨_, rfl⟩, hW, hsame.mono (by decide) (by decide)⟩
  show Q2 Z r0 h0 n0 _ T1.heap _
  rw [e1]
  exact ⟨N0, rfl, rfl⟩
theorem d1_0 : decode prog_4_method_1_code 0 = .ok (.aload_n 0, 1) := by decide +kernel
theorem d1_1 : decode prog_4_method_1_code 1 = .ok (.invokespecial 1, 3) := by decide +kernel
theorem d1_4 : decode prog_4_method_1_code 4 = .ok (.aload_n 0, 1) := by decide +kernel
theorem d1_5 : decode prog_4_method_1_code 5 = .ok (.lload_n 1, 1) := by decide +kernel
theorem d1_6 : decode prog_4_method_1_code 6 = .ok (.putfield 7, 3) := by decide +kernel
theorem d1_9 : decode prog_4_method_1_code 9 = .ok (.aload_n 0, 1) := by decide +kernel
theorem d1_10 : decode prog_4_method_1_code 10 = .ok (.lload_n 3, 1) := by decide +kernel
theorem d1_11 : decode prog_4_method_1_code 11 = .ok (.putfield 13, 3) := by decide +kernel
theorem d1_14 : decode prog_4_method_1_code 14 = .ok (.return_, 1) := by decide +kernel
theorem pn_com_example_omphale_omphale_KeyRange : plainName "com/example/omphale/omphale/KeyRange" = true := by first | (simp [plainName, overriddenIn]; done) | decide +kernel
theorem ef_1 (m : MethodId) (r0 : Addr) (q0 : Int64) (q1 : Int64) : entryFrame m #[(.ref r0), (.long q0), (.long q1)] 5 = mkF m 0 #[.val (.ref r0), .val (.long q0), .second, .val (.long q1), .second] [] := by first | (simp [entryFrame, mkF, argsToLocals, Value.category]; done) | rfl
theorem pd_0 : parseMethodDescriptor "()V" = some ⟨[], none⟩ := by decide +kernel
def Q1 (Z : State) (r0 : Addr) (q0 : Int64) (q1 : Int64) (h0 : Heap) (n0 : Nat) (v : Option Value) (h : Heap) (L : List Loc) : Prop := Fr n0 L ∧ v = none ∧ Keep h0 h [r0] ∧ Fld Z h r0 "com/example/omphale/omphale/KeyRange" "startExclusive" "J" (.long q0) ∧ Fld Z h r0 "com/example/omphale/omphale/KeyRange" "endInclusive" "J" (.long q1)
set_option maxRecDepth 65536 in
set_option maxHeartbeats 40000000 in
theorem rm1 (l : Launch) (Z : State) (a0 : Array Value) (hw : ∀ d ∈ tables_1, d.before a0 Z = true) (ws : List Jvm.Cond) (r0 : Addr) (q0 : Int64) (q1 : Int64) (h0 : Heap) (n0 : Nat) (Z0 : n0 ≤ h0.size) (P0 : Exa Z h0 r0 "com/example/omphale/omphale/KeyRange") (P1 : Fld Z h0 r0 "com/example/omphale/omphale/KeyRange" "startExclusive" "J" (.long (0 : Int64))) (P2 : Fld Z h0 r0 "com/example/omphale/omphale/KeyRange" "endInclusive" "J" (.long (0 : Int64))) (ge_r0 : n0 ≤ r0) :
    MetFree l (⟨"com/example/omphale/omphale/KeyRange", "<init>", "(JJ)V"⟩ : MethodName) (head1 (Jvm.Cond.code (⟨"com/example/omphale/omphale/KeyRange", "<init>", "(JJ)V"⟩ : MethodName) prog_4_method_1_code 5 none :: ws) ({ frames := 2, cells := 0, slots := 0, locals := 24 } : Room)) (fun a U => a = #[(.ref r0), (.long q0), (.long q1)] ∧ Z.Warmed39 U.vm ∧ U.heap = h0) (fun _ _ _ _ _ => True) (fun _ U o U' => ∃ v L, o = .returned v ∧ Q1 Z r0 q0 q1 h0 n0 v U'.heap L ∧ FrameEnd U o U' L ({ frames := 2, cells := 0, slots := 0, locals := 24 } : Room).cells ({ frames := 2, cells := 0, slots := 0, locals := 24 } : Room).slots) := by
  refine MetFree.of_bodySF (plainFor_of_name pn_com_example_omphale_omphale_KeyRange) hisR ?_
  intro p e s m args below meth c s₁ Bd hml0 hP hK
  obtain ⟨rfl, hZ, hh⟩ := hP
  have hx := Bd.exec
  have hby := Bd.bytes
  have hml : c.maxLocals = 5 := hml0
  have hown : s.vm.findClass "com/example/omphale/omphale/KeyRange" = some m.cls := findClass_of_methodNamed Bd.named
  have hnm := (name_of_methodNamed Bd.named Bd.method).1
  have X0 : Stand p l e ({ frames := 2, cells := 0, slots := 0, locals := 24 } : Room) s m #[(.ref r0), (.long q0), (.long q1)] below meth c s₁ [] 0 0 := Stand.of_body Bd
  have e0 : s₁.heap = h0 := by rw [← hh, Bd.state]; rfl
  have N0 := Fr.nil n0
  show own_Gl p e below (fun o U' => ∃ v L, o = .returned v ∧ Q1 Z r0 q0 q1 h0 n0 v U'.heap L ∧ FrameEnd s o U' L ({ frames := 2, cells := 0, slots := 0, locals := 24 } : Room).cells ({ frames := 2, cells := 0, slots := 0, locals := 24 } : Room).slots) (s₁.setTop (entryFrame m #[(.ref r0), (.long q0), (.long q1)] 5))
  refine own_go (fun t k => castTop (ef_1 m r0 q0 q1) k) ?_
  show own_Gl _ _ _ _ (s₁.setTop (mkF m 0 #[.val (.ref r0), .val (.long q0), .second, .val (.long q1), .second] []))
  refine own_go (fun t k => XS.aloadN X0.here hx rfl (hb hby d1_0) rfl rfl k) ?_
  show own_Gl _ _ _ _ (s₁.setTop (mkF m 1 #[.val (.ref r0), .val (.long q0), .second, .val (.long q1), .second] [(.ref r0)]))
  obtain ⟨_, _, ⟨T2, L2, kk2, nn2⟩, -, X2, ⟨Lc2, hQ2, l2, y2, z2⟩, st2⟩ := X0.specialBack hx (y := (⟨"java/lang/Record", "<init>", "()V"⟩ : MethodName)) rfl hown (mvT hZ (hw _ (List.mem_of_getElem? (i := 6) rfl))) (mvT hZ (hw _ (List.mem_of_getElem? (i := 7) rfl))) (mvT hZ (hw _ (List.mem_of_getElem? (i := 10) rfl))) (by decide) (backOf (W := 0) (rm2 l Z a0 hw [] r0 h0 n0 Z0 ) hZ (hw _ (List.mem_of_getElem? (i := 10) rfl)) (hw _ (List.mem_of_getElem? (i := 9) rfl)) (by decide) (by decide)) (g := (mkF m 1 #[.val (.ref r0), .val (.long q0), .second, .val (.long q1), .second] [(.ref r0)])) rfl (by rw [hml]; rfl) (Steps.refl _) (a := r0) (argsL := []) (rest := []) (lenOf pd_0 rfl) rfl (by show 2 * 0 + _ ≤ _; exact Nat.le_of_eq rfl) (hb hby d1_1) (fun _ _ => ⟨rfl, e0, (by decide : 0 + 0 ≤ _), (by decide : 0 + 0 ≤ _)⟩)
  dsimp only [Pt.U, Pt.locs, Pt.cells, Pt.slots] at X2 l2 y2 z2 st2 hQ2
  subst l2 y2 z2
  obtain ⟨N2q, rfl, hq2⟩ := hQ2
  have N2 := Fr.app N0 N2q
  refine own_go (fun t k => st2.trans k) ?_
  show own_Gl _ _ _ _ (T2.setTop (mkF m 4 #[.val (.ref r0), .val (.long q0), .second, .val (.long q1), .second] []))
  refine own_go (fun t k => XS.aloadN X2.here hx rfl (hb hby d1_4) rfl rfl k) ?_
  show own_Gl _ _ _ _ (T2.setTop (mkF m 5 #[.val (.ref r0), .val (.long q0), .second, .val (.long q1), .second] [(.ref r0)]))
  refine own_go (fun t k => XS.lloadN X2.here hx rfl (hb hby d1_5) rfl k) ?_
  show own_Gl _ _ _ _ (T2.setTop (mkF m 6 #[.val (.ref r0), .val (.long q0), .second, .val (.long q1), .second] [(.long q0), (.ref r0)]))
  obtain ⟨T3, h3, X3, e3, W3, st3⟩ := putF X2 hx hZ hown (host := "") (Or.inl (hw _ (List.mem_of_getElem? (i := 14) rfl))) Via.refl hq2 P1 P0 (Or.inr ⟨(hw _ (List.mem_of_getElem? (i := 15) rfl)), rfl, hnm⟩) (hw _ (List.mem_of_getElem? (i := 1) rfl)) (ty := .long) (by decide) rfl rfl (g := (mkF m 6 #[.val (.ref r0), .val (.long q0), .second, .val (.long q1), .second] [(.long q0), (.ref r0)])) rfl rfl (hb hby d1_6)
  refine own_go (fun t k => st3 _ k) ?_
  have Fw3 : Fld Z h3 r0 "com/example/omphale/omphale/KeyRange" "startExclusive" "J" (.long q0) := P1.same W3
  have K3 : Keep h0 h3 [r0] := (Keep.refl h0 [r0]).wr W3 (Or.inl (List.mem_of_getElem? (i := 0) rfl))
  have N3 := Fr.snoc X3 N2 ge_r0
  have Z3 : n0 ≤ h3.size := Nat.le_trans Z0 (Keep.of_wr W3).1
  show own_Gl _ _ _ _ (T3.setTop (mkF m 9 #[.val (.ref r0), .val (.long q0), .second, .val (.long q1), .second] []))
  refine own_go (fun t k => XS.aloadN X3.here hx rfl (hb hby d1_9) rfl rfl k) ?_
  show own_Gl _ _ _ _ (T3.setTop (mkF m 10 #[.val (.ref r0), .val (.long q0), .second, .val (.long q1), .second] [(.ref r0)]))
  refine own_go (fun t k => XS.lloadN X3.here hx rfl (hb hby d1_10) rfl k) ?_
  show own_Gl _ _ _ _ (T3.setTop (mkF m 11 #[.val (.ref r0), .val (.long q0), .second, .val (.long q1), .second] [(.long q1), (.ref r0)]))
  have f_4 : Fld Z h3 r0 "com/example/omphale/omphale/KeyRange" "endInclusive" "J" (.long (0 : Int64)) := (P2.other W3 (Or.inr (slot_ne (Or.inr (hw _ (List.mem_of_getElem? (i := 17) rfl))) (Or.inr (hw _ (List.mem_of_getElem? (i := 15) rfl))) (by decide) (t := .long) (t' := .long) (by decide) (by decide))))
  have f_5 : Exa Z h3 r0 "com/example/omphale/omphale/KeyRange" := (P0.wr W3)
  obtain ⟨T6, h6, X6, e6, W6, st6⟩ := putF X3 hx hZ hown (host := "") (Or.inl (hw _ (List.mem_of_getElem? (i := 16) rfl))) Via.refl e3 f_4 f_5 (Or.inr ⟨(hw _ (List.mem_of_getElem? (i := 17) rfl)), rfl, hnm⟩) (hw _ (List.mem_of_getElem? (i := 1) rfl)) (ty := .long) (by decide) rfl rfl (g := (mkF m 11 #[.val (.ref r0), .val (.long q0), .second, .val (.long q1), .second] [(.long q1), (.ref r0)])) rfl rfl (hb hby d1_11)
  refine own_go (fun t k => st6 _ k) ?_
  have Fw6 : Fld Z h6 r0 "com/example/omphale/omphale/KeyRange" "endInclusive" "J" (.long q1) := f_4.same W6
  have K6 : Keep h0 h6 [r0] := K3.wr W6 (Or.inl (List.mem_of_getElem? (i := 0) rfl))
  have N6 := Fr.snoc X6 N3 ge_r0
  have Z6 : n0 ≤ h6.size := Nat.le_trans Z3 (Keep.of_wr W6).1
  show own_Gl _ _ _ _ (T6.setTop (mkF m 14 #[.val (.ref r0), .val (.long q0), .second, .val (.long q1), .second] []))
  obtain ⟨fs, hr, hrun, hended, hW, hsame⟩ := X6.leave (v := none) (fun _ => rfl)
  have f_7 : Fld Z h6 r0 "com/example/omphale/omphale/KeyRange" "startExclusive" "J" (.long q0) := (Fw3.other W6 (Or.inr (slot_ne (Or.inr (hw _ (List.mem_of_getElem? (i := 15) rfl))) (Or.inr (hw _ (List.mem_of_getElem? (i := 17) rfl))) (by decide) (t := .long) (t' := .long) (by decide) (by decide))))
  refine own_fin (X6.returnOut hx Bd.returns (hb hby d1_14) hr) hrun hended ⟨_, _, rfl, ?_, ⟨_, rfl⟩, hW, hsame.mono (by decide) (by decide)⟩
  show Q1 Z r0 q0 q1 h0 n0 _ T6.heap _
  rw [e6]
  exact ⟨N6, rfl, K6, f_7, Fw6⟩
theorem d4_0 : decode prog_4_method_2_code 0 = .ok (.aload_n 0, 1) := by decide +kernel
theorem d4_1 : decode prog_4_method_2_code 1 = .ok (.getfield 7, 3) := by decide +kernel
theorem d4_4 : decode prog_4_method_2_code 4 = .ok (.aload_n 0, 1) := by decide +kernel
theorem d4_5 : decode prog_4_method_2_code 5 = .ok (.getfield 13, 3) := by decide +kernel
theorem d4_8 : decode prog_4_method_2_code 8 = .ok (.lcmp, 1) := by decide +kernel
theorem d4_9 : decode prog_4_method_2_code 9 = .ok (.ifCond .ne 7, 3) := by decide +kernel
theorem d4_12 : decode prog_4_method_2_code 12 = .ok (.iconst 1, 1) := by decide +kernel
theorem d4_13 : decode prog_4_method_2_code 13 = .ok (.goto 4, 3) := by decide +kernel
theorem d4_16 : decode prog_4_method_2_code 16 = .ok (.iconst 0, 1) := by decide +kernel
theorem d4_17 : decode prog_4_method_2_code 17 = .ok (.ireturn, 1) := by decide +kernel
theorem ef_4 (m : MethodId) (r0 : Addr) : entryFrame m #[(.ref r0)] 1 = mkF m 0 #[.val (.ref r0)] [] := by first | (simp [entryFrame, mkF, argsToLocals, Value.category]; done) | rfl
def f4 (u0 : Int64) (u1 : Int64) : Int32 := (if u0 = u1 then (1 : Int32) else (0 : Int32))
def Q4 (Z : State) (r0 : Addr) (u0 : Int64) (u1 : Int64) (h0 : Heap) (n0 : Nat) (v : Option Value) (h : Heap) (L : List Loc) : Prop := Fr n0 L ∧ v = some (.int (f4 u0 u1)) ∧ h = h0
set_option maxRecDepth 65536 in
set_option maxHeartbeats 40000000 in
theorem rm4 (l : Launch) (Z : State) (a0 : Array Value) (hw : ∀ d ∈ tables_1, d.before a0 Z = true) (ws : List Jvm.Cond) (r0 : Addr) (u0 : Int64) (u1 : Int64) (h0 : Heap) (n0 : Nat) (Z0 : n0 ≤ h0.size) (P0 : Fld Z h0 r0 "com/example/omphale/omphale/KeyRange" "startExclusive" "J" (.long u0)) (P1 : Fld Z h0 r0 "com/example/omphale/omphale/KeyRange" "endInclusive" "J" (.long u1)) :
    MetFree l (⟨"com/example/omphale/omphale/KeyRange", "isWhole", "()Z"⟩ : MethodName) (head1 (Jvm.Cond.code (⟨"com/example/omphale/omphale/KeyRange", "isWhole", "()Z"⟩ : MethodName) prog_4_method_2_code 1 (some .boolean) :: ws) ({ frames := 0, cells := 0, slots := 0, locals := 0 } : Room)) (fun a U => a = #[(.ref r0)] ∧ Z.Warmed39 U.vm ∧ U.heap = h0) (fun _ _ _ _ _ => True) (fun _ U o U' => ∃ v L, o = .returned v ∧ Q4 Z r0 u0 u1 h0 n0 v U'.heap L ∧ FrameEnd U o U' L ({ frames := 0, cells := 0, slots := 0, locals := 0 } : Room).cells ({ frames := 0, cells := 0, slots := 0, locals := 0 } : Room).slots) := by
  refine MetFree.of_bodySF (plainFor_of_name pn_com_example_omphale_omphale_KeyRange) hisR ?_
  intro p e s m args below meth c s₁ Bd hml0 hP hK
  obtain ⟨rfl, hZ, hh⟩ := hP
  have hx := Bd.exec
  have hby := Bd.bytes
  have hml : c.maxLocals = 1 := hml0
  have hown : s.vm.findClass "com/example/omphale/omphale/KeyRange" = some m.cls := findClass_of_methodNamed Bd.named
  have hnm := (name_of_methodNamed Bd.named Bd.method).1
  have X0 : Stand p l e ({ frames := 0, cells := 0, slots := 0, locals := 0 } : Room) s m #[(.ref r0)] below meth c s₁ [] 0 0 := Stand.of_body Bd
  have e0 : s₁.heap = h0 := by rw [← hh, Bd.state]; rfl
  have N0 := Fr.nil n0
  show own_Gl p e below (fun o U' => ∃ v L, o = .returned v ∧ Q4 Z r0 u0 u1 h0 n0 v U'.heap L ∧ FrameEnd s o U' L ({ frames := 0, cells := 0, slots := 0, locals := 0 } : Room).cells ({ frames := 0, cells := 0, slots := 0, locals := 0 } : Room).slots) (s₁.setTop (entryFrame m #[(.ref r0)] 1))
  refine own_go (fun t k => castTop (ef_4 m r0) k) ?_
  show own_Gl _ _ _ _ (s₁.setTop (mkF m 0 #[.val (.ref r0)] []))
  refine own_go (fun t k => XS.aloadN X0.here hx rfl (hb hby d4_0) rfl rfl k) ?_
  show own_Gl _ _ _ _ (s₁.setTop (mkF m 1 #[.val (.ref r0)] [(.ref r0)]))
  obtain ⟨T8, X8, e8, st8⟩ := getF X0 hx hZ hown (host := "") (Or.inl (hw _ (List.mem_of_getElem? (i := 14) rfl))) Via.refl e0 P0 (g := (mkF m 1 #[.val (.ref r0)] [(.ref r0)])) rfl rfl (hb hby d4_1)
  refine own_go (fun t k => st8 _ k) ?_
  show own_Gl _ _ _ _ (T8.setTop (mkF m 4 #[.val (.ref r0)] [(.long u0)]))
  refine own_go (fun t k => XS.aloadN X8.here hx rfl (hb hby d4_4) rfl rfl k) ?_
  show own_Gl _ _ _ _ (T8.setTop (mkF m 5 #[.val (.ref r0)] [(.ref r0), (.long u0)]))
  obtain ⟨T9, X9, e9, st9⟩ := getF X8 hx hZ hown (host := "") (Or.inl (hw _ (List.mem_of_getElem? (i := 16) rfl))) Via.refl e8 P1 (g := (mkF m 5 #[.val (.ref r0)] [(.ref r0), (.long u0)])) rfl rfl (hb hby d4_5)
  refine own_go (fun t k => st9 _ k) ?_
  show own_Gl _ _ _ _ (T9.setTop (mkF m 8 #[.val (.ref r0)] [(.long u1), (.long u0)]))
  refine own_go (fun t k => XS.lcmp X9.here hx rfl (hb hby d4_8) rfl k) ?_
  show own_Gl _ _ _ _ (T9.setTop (mkF m 9 #[.val (.ref r0)] [(.int (lcmpW u0 u1))]))
  by_cases hc9_10 : u0 = u1
  · refine own_go (fun t k => XS.ifNo X9.here hx rfl (hb hby d4_9) rfl ((if0 _ _).trans (teq ((lw_eq u0 u1).mpr hc9_10)).2) k) ?_
    show own_Gl _ _ _ _ (T9.setTop (mkF m 12 #[.val (.ref r0)] []))
    refine own_go (fun t k => XS.iconst X9.here hx rfl (hb hby d4_12) k) ?_
    show own_Gl _ _ _ _ (T9.setTop (mkF m 13 #[.val (.ref r0)] [(.int (1 : Int32))]))
    refine own_go (fun t k => XS.goto X9.here hx rfl (pc0 := 13) (pc' := 17) rfl (hb hby d4_13) (by decide) (by decide) k) ?_
    show own_Gl _ _ _ _ (T9.setTop (mkF m 17 #[.val (.ref r0)] [(.int (1 : Int32))]))
    obtain ⟨fs, hr, hrun, hended, hW, hsame⟩ := X9.leave (v := some (.int (1 : Int32))) (fun h => by rw [Bd.returns] at h; cases h)
    refine own_fin (retN X9 hx (t := .boolean) Bd.returns (by simp) (hb hby d4_17) hr) hrun hended ⟨_, _, rfl, ?_, ⟨_, rfl⟩, hW, hsame.mono (by decide) (by decide)⟩
    show Q4 Z r0 u0 u1 h0 n0 _ T9.heap _
    rw [e9]
    exact ⟨N0, by rw [f4, if_pos hc9_10], rfl⟩
  · refine own_go (fun t k => XS.ifYes X9.here hx rfl (pc0 := 9) (pc' := 16) rfl (hb hby d4_9) rfl ((if0 _ _).trans (feq (fun q => hc9_10 ((lw_eq u0 u1).mp q))).2) (by decide) (by decide) k) ?_
    show own_Gl _ _ _ _ (T9.setTop (mkF m 16 #[.val (.ref r0)] []))
    refine own_go (fun t k => XS.iconst X9.here hx rfl (hb hby d4_16) k) ?_
    show own_Gl _ _ _ _ (T9.setTop (mkF m 17 #[.val (.ref r0)] [(.int (0 : Int32))]))
    obtain ⟨fs, hr, hrun, hended, hW, hsame⟩ := X9.leave (v := some (.int (0 : Int32))) (fun h => by rw [Bd.returns] at h; cases h)
    refine own_fin (retN X9 hx (t := .boolean) Bd.returns (by simp) (hb hby d4_17) hr) hrun hended ⟨_, _, rfl, ?_, ⟨_, rfl⟩, hW, hsame.mono (by decide) (by decide)⟩
    show Q4 Z r0 u0 u1 h0 n0 _ T9.heap _
    rw [e9]
    exact ⟨N0, by rw [f4, if_neg hc9_10], rfl⟩
theorem pn_com_example_omphale_omphale_KeyRangeIsWholePinLaw : plainName "com/example/omphale/omphale/KeyRangeIsWholePinLaw" = true := by first | (simp [plainName, overriddenIn]; done) | decide +kernel
theorem ef_0 (m : MethodId) (q0 : Int64) (q1 : Int64) (p0 : Int32) : entryFrame m #[(.long q0), (.long q1), (.int p0)] maxLocals = mkF m 0 #[.val (.long q0), .second, .val (.long q1), .second, .val (.int p0), .unset, .unset, .unset, .unset, .unset, .unset, .unset] [] := by first | (simp [entryFrame, mkF, argsToLocals, Value.category, maxLocals]; done) | rfl
theorem pd_1 : parseMethodDescriptor "(JJ)V" = some ⟨[.long, .long], none⟩ := by decide +kernel
theorem pd_2 : parseMethodDescriptor "()Z" = some ⟨[], some .boolean⟩ := by decide +kernel
def f0 (q0 : Int64) (q1 : Int64) (p0 : Int32) : Int32 := (if (p0 &&& (1 : Int32)) = (0 : Int32) then (if q1 = (0 : Int64) then (if (f4 q0 (q0 + q1)) = (1 : Int32) then (if (f4 (q0 + q1) q0) = (1 : Int32) then (1 : Int32) else (0 : Int32)) else (0 : Int32)) else (if (f4 q0 (q0 + q1)) = (0 : Int32) then (if (f4 (q0 + q1) q0) = (0 : Int32) then (1 : Int32) else (0 : Int32)) else (0 : Int32))) else (if (f4 q0 (q0 + (0 : Int64))) = (1 : Int32) then (if (f4 (q0 + (0 : Int64)) q0) = (1 : Int32) then (1 : Int32) else (0 : Int32)) else (0 : Int32)))
def Q0 (Z : State) (q0 : Int64) (q1 : Int64) (p0 : Int32) (h0 : Heap) (n0 : Nat) (v : Option Value) (h : Heap) (L : List Loc) : Prop := Fr n0 L ∧ v = some (.int (f0 q0 q1 p0))
set_option maxRecDepth 65536 in
set_option maxHeartbeats 40000000 in
theorem rm0 (l : Launch) (Z : State) (a0 : Array Value) (hw : ∀ d ∈ tables_1, d.before a0 Z = true) (ws : List Jvm.Cond) (q0 : Int64) (q1 : Int64) (p0 : Int32) (h0 : Heap) (n0 : Nat) (Z0 : n0 ≤ h0.size)  :
    MetFree l x (head1 (Jvm.Cond.code x code maxLocals ret :: ws) room_1) (fun a U => a = #[(.long q0), (.long q1), (.int p0)] ∧ Z.Warmed39 U.vm ∧ U.heap = h0) (fun _ _ _ _ _ => True) (fun _ U o U' => ∃ v L, o = .returned v ∧ Q0 Z q0 q1 p0 h0 n0 v U'.heap L ∧ FrameEnd U o U' L room_1.cells room_1.slots) := by
  refine MetFree.of_bodySF (plainFor_of_name pn_com_example_omphale_omphale_KeyRangeIsWholePinLaw) hisR ?_
  intro p e s m args below meth c s₁ Bd hml0 hP hK
  obtain ⟨rfl, hZ, hh⟩ := hP
  have hx := Bd.exec
  have hby := Bd.bytes
  have hml : c.maxLocals = 12 := hml0
  have hown : s.vm.findClass "com/example/omphale/omphale/KeyRangeIsWholePinLaw" = some m.cls := findClass_of_methodNamed Bd.named
  have hnm := (name_of_methodNamed Bd.named Bd.method).1
  have X0 : Stand p l e room_1 s m #[(.long q0), (.long q1), (.int p0)] below meth c s₁ [] 0 0 := Stand.of_body Bd
  have e0 : s₁.heap = h0 := by rw [← hh, Bd.state]; rfl
  have N0 := Fr.nil n0
  show own_Gl p e below (fun o U' => ∃ v L, o = .returned v ∧ Q0 Z q0 q1 p0 h0 n0 v U'.heap L ∧ FrameEnd s o U' L room_1.cells room_1.slots) (s₁.setTop (entryFrame m #[(.long q0), (.long q1), (.int p0)] maxLocals))
  refine own_go (fun t k => castTop (ef_0 m q0 q1 p0) k) ?_
  show own_Gl _ _ _ _ (s₁.setTop (mkF m 0 #[.val (.long q0), .second, .val (.long q1), .second, .val (.int p0), .unset, .unset, .unset, .unset, .unset, .unset, .unset] []))
  refine own_go (fun t k => XS.iload X0.here hx rfl (hb hby at_0) rfl k) ?_
  show own_Gl _ _ _ _ (s₁.setTop (mkF m 2 #[.val (.long q0), .second, .val (.long q1), .second, .val (.int p0), .unset, .unset, .unset, .unset, .unset, .unset, .unset] [(.int p0)]))
  refine own_go (fun t k => XS.iconst X0.here hx rfl (hb hby at_2) k) ?_
  show own_Gl _ _ _ _ (s₁.setTop (mkF m 3 #[.val (.long q0), .second, .val (.long q1), .second, .val (.int p0), .unset, .unset, .unset, .unset, .unset, .unset, .unset] [(.int (1 : Int32)), (.int p0)]))
  refine own_go (fun t k => XS.iand X0.here hx rfl (hb hby at_3) rfl k) ?_
  show own_Gl _ _ _ _ (s₁.setTop (mkF m 4 #[.val (.long q0), .second, .val (.long q1), .second, .val (.int p0), .unset, .unset, .unset, .unset, .unset, .unset, .unset] [(.int (p0 &&& (1 : Int32)))]))
  by_cases hc4_11 : (p0 &&& (1 : Int32)) = (0 : Int32)
  · refine own_go (fun t k => XS.ifYes X0.here hx rfl (pc0 := 4) (pc' := 11) rfl (hb hby at_4) rfl ((if0 _ _).trans (teq hc4_11).1) (by decide) (by decide) k) ?_
    show own_Gl _ _ _ _ (s₁.setTop (mkF m 11 #[.val (.long q0), .second, .val (.long q1), .second, .val (.int p0), .unset, .unset, .unset, .unset, .unset, .unset, .unset] []))
    refine own_go (fun t k => XS.lloadN X0.here hx rfl (hb hby at_11) rfl k) ?_
    show own_Gl _ _ _ _ (s₁.setTop (mkF m 12 #[.val (.long q0), .second, .val (.long q1), .second, .val (.int p0), .unset, .unset, .unset, .unset, .unset, .unset, .unset] [(.long q1)]))
    refine own_go (fun t k => XS.lstore X0.here hx rfl (hb hby at_12) rfl (l' := #[.val (.long q0), .second, .val (.long q1), .second, .val (.int p0), .val (.long q1), .second, .unset, .unset, .unset, .unset, .unset]) rfl k) ?_
    show own_Gl _ _ _ _ (s₁.setTop (mkF m 14 #[.val (.long q0), .second, .val (.long q1), .second, .val (.int p0), .val (.long q1), .second, .unset, .unset, .unset, .unset, .unset] []))
    refine own_go (fun t k => XS.lloadN X0.here hx rfl (hb hby at_14) rfl k) ?_
    show own_Gl _ _ _ _ (s₁.setTop (mkF m 15 #[.val (.long q0), .second, .val (.long q1), .second, .val (.int p0), .val (.long q1), .second, .unset, .unset, .unset, .unset, .unset] [(.long q0)]))
    refine own_go (fun t k => XS.lload X0.here hx rfl (hb hby at_15) rfl k) ?_
    show own_Gl _ _ _ _ (s₁.setTop (mkF m 17 #[.val (.long q0), .second, .val (.long q1), .second, .val (.int p0), .val (.long q1), .second, .unset, .unset, .unset, .unset, .unset] [(.long q1), (.long q0)]))
    refine own_go (fun t k => XS.ladd X0.here hx rfl (hb hby at_17) rfl k) ?_
    show own_Gl _ _ _ _ (s₁.setTop (mkF m 18 #[.val (.long q0), .second, .val (.long q1), .second, .val (.int p0), .val (.long q1), .second, .unset, .unset, .unset, .unset, .unset] [(.long (q0 + q1))]))
    refine own_go (fun t k => XS.lstore X0.here hx rfl (hb hby at_18) rfl (l' := #[.val (.long q0), .second, .val (.long q1), .second, .val (.int p0), .val (.long q1), .second, .val (.long (q0 + q1)), .second, .unset, .unset, .unset]) rfl k) ?_
    show own_Gl _ _ _ _ (s₁.setTop (mkF m 20 #[.val (.long q0), .second, .val (.long q1), .second, .val (.int p0), .val (.long q1), .second, .val (.long (q0 + q1)), .second, .unset, .unset, .unset] []))
    obtain ⟨T12, h12, X12, e12, E12, A12, D12, -, st12⟩ := newO X0 hx hZ hown (hw _ (List.mem_of_getElem? (i := 0) rfl)) (hw _ (List.mem_of_getElem? (i := 1) rfl)) (hw _ (List.mem_of_getElem? (i := 2) rfl)) e0 (g := (mkF m 20 #[.val (.long q0), .second, .val (.long q1), .second, .val (.int p0), .val (.long q1), .second, .val (.long (q0 + q1)), .second, .unset, .unset, .unset] [])) rfl (hb hby at_20) (by decide) (by decide)
    obtain ⟨b12, g12⟩ : ∃ z, z = h0.size := ⟨_, rfl⟩
    rw [← g12] at A12 D12 st12
    have ge_b12 : n0 ≤ b12 := Nat.le_trans Z0 (Nat.le_of_eq g12.symm)
    have sz_b12 : h0.size ≤ b12 := Nat.le_trans (Keep.refl h0 []).1 (Nat.le_of_eq g12.symm)
    refine own_go (fun t k => st12 _ k) ?_
    have K12 : Keep h0 h12 [] := (Keep.refl h0 []).ext E12
    have Z12 : n0 ≤ h12.size := Nat.le_trans Z0 E12.1
    have F12_15 : Fld Z h12 b12 "com/example/omphale/omphale/KeyRange" "startExclusive" "J" (.long (0 : Int64)) := D12 (Or.inr (hw _ (List.mem_of_getElem? (i := 15) rfl))) (ty := .long) (by decide)
    have F12_17 : Fld Z h12 b12 "com/example/omphale/omphale/KeyRange" "endInclusive" "J" (.long (0 : Int64)) := D12 (Or.inr (hw _ (List.mem_of_getElem? (i := 17) rfl))) (ty := .long) (by decide)
    show own_Gl _ _ _ _ (T12.setTop (mkF m 23 #[.val (.long q0), .second, .val (.long q1), .second, .val (.int p0), .val (.long q1), .second, .val (.long (q0 + q1)), .second, .unset, .unset, .unset] [(.ref b12)]))
    refine own_go (fun t k => XS.dup X12.here hx rfl (hb hby at_23) rfl rfl k) ?_
    show own_Gl _ _ _ _ (T12.setTop (mkF m 24 #[.val (.long q0), .second, .val (.long q1), .second, .val (.int p0), .val (.long q1), .second, .val (.long (q0 + q1)), .second, .unset, .unset, .unset] [(.ref b12), (.ref b12)]))
    refine own_go (fun t k => XS.lloadN X12.here hx rfl (hb hby at_24) rfl k) ?_
    show own_Gl _ _ _ _ (T12.setTop (mkF m 25 #[.val (.long q0), .second, .val (.long q1), .second, .val (.int p0), .val (.long q1), .second, .val (.long (q0 + q1)), .second, .unset, .unset, .unset] [(.long q0), (.ref b12), (.ref b12)]))
    refine own_go (fun t k => XS.lload X12.here hx rfl (hb hby at_25) rfl k) ?_
    show own_Gl _ _ _ _ (T12.setTop (mkF m 27 #[.val (.long q0), .second, .val (.long q1), .second, .val (.int p0), .val (.long q1), .second, .val (.long (q0 + q1)), .second, .unset, .unset, .unset] [(.long (q0 + q1)), (.long q0), (.ref b12), (.ref b12)]))
    obtain ⟨_, _, ⟨T13, L13, kk13, nn13⟩, -, X13, ⟨Lc13, hQ13, l13, y13, z13⟩, st13⟩ := X12.specialBack hx (y := (⟨"com/example/omphale/omphale/KeyRange", "<init>", "(JJ)V"⟩ : MethodName)) rfl hown (mvT hZ (hw _ (List.mem_of_getElem? (i := 3) rfl))) (mvT hZ (hw _ (List.mem_of_getElem? (i := 4) rfl))) (mvT hZ (hw _ (List.mem_of_getElem? (i := 5) rfl))) (by decide) (backOf (W := 1) (rm1 l Z a0 hw [] b12 q0 (q0 + q1) h12 n0 Z12 A12 F12_15 F12_17 ge_b12) hZ (hw _ (List.mem_of_getElem? (i := 5) rfl)) (hw _ (List.mem_of_getElem? (i := 2) rfl)) (by decide) (by decide)) (g := (mkF m 27 #[.val (.long q0), .second, .val (.long q1), .second, .val (.int p0), .val (.long q1), .second, .val (.long (q0 + q1)), .second, .unset, .unset, .unset] [(.long (q0 + q1)), (.long q0), (.ref b12), (.ref b12)])) rfl (by rw [hml]; rfl) (Steps.refl _) (a := b12) (argsL := [(.long q0), (.long (q0 + q1))]) (rest := [(.ref b12)]) (lenOf pd_1 rfl) rfl (by show 2 * 0 + _ ≤ _; exact Nat.le_of_eq rfl) (hb hby at_27) (fun _ _ => ⟨rfl, e12, (by decide : 1 + 0 ≤ _), (by decide : 2 + 0 ≤ _)⟩)
    dsimp only [Pt.U, Pt.locs, Pt.cells, Pt.slots] at X13 l13 y13 z13 st13 hQ13
    subst l13 y13 z13
    obtain ⟨N13q, rfl, K13q, po13_0, po13_1⟩ := hQ13
    have N13 := Fr.app N0 N13q
    have K13 : Keep h0 T13.heap [] := K12.trans K13q (allS (Or.inr sz_b12) all0)
    have Z13 : n0 ≤ T13.heap.size := Nat.le_trans Z12 K13q.1
    refine own_go (fun t k => st13.trans k) ?_
    show own_Gl _ _ _ _ (T13.setTop (mkF m 30 #[.val (.long q0), .second, .val (.long q1), .second, .val (.int p0), .val (.long q1), .second, .val (.long (q0 + q1)), .second, .unset, .unset, .unset] [(.ref b12)]))
    refine own_go (fun t k => XS.astore X13.here hx rfl (hb hby at_30) rfl rfl (l' := #[.val (.long q0), .second, .val (.long q1), .second, .val (.int p0), .val (.long q1), .second, .val (.long (q0 + q1)), .second, .val (.ref b12), .unset, .unset]) rfl k) ?_
    show own_Gl _ _ _ _ (T13.setTop (mkF m 32 #[.val (.long q0), .second, .val (.long q1), .second, .val (.int p0), .val (.long q1), .second, .val (.long (q0 + q1)), .second, .val (.ref b12), .unset, .unset] []))
    obtain ⟨T14, h14, X14, e14, E14, A14, D14, -, st14⟩ := newO X13 hx hZ hown (hw _ (List.mem_of_getElem? (i := 0) rfl)) (hw _ (List.mem_of_getElem? (i := 1) rfl)) (hw _ (List.mem_of_getElem? (i := 2) rfl)) rfl (g := (mkF m 32 #[.val (.long q0), .second, .val (.long q1), .second, .val (.int p0), .val (.long q1), .second, .val (.long (q0 + q1)), .second, .val (.ref b12), .unset, .unset] [])) rfl (hb hby at_32) (by decide) (by decide)
    obtain ⟨b14, g14⟩ : ∃ z, z = T13.heap.size := ⟨_, rfl⟩
    rw [← g14] at A14 D14 st14
    have f_15 : Exa Z T13.heap b12 "com/example/omphale/omphale/KeyRange" := (A12.keep K13q)
    have ne_b12_b14 : b12 ≠ b14 := Nat.ne_of_lt (Nat.lt_of_lt_of_le f_15.lt (Nat.le_of_eq g14.symm))
    have ge_b14 : n0 ≤ b14 := Nat.le_trans Z13 (Nat.le_of_eq g14.symm)
    have sz_b14 : h0.size ≤ b14 := Nat.le_trans K13.1 (Nat.le_of_eq g14.symm)
    refine own_go (fun t k => st14 _ k) ?_
    have K14 : Keep h0 h14 [] := K13.ext E14
    have Z14 : n0 ≤ h14.size := Nat.le_trans Z13 E14.1
    have F14_15 : Fld Z h14 b14 "com/example/omphale/omphale/KeyRange" "startExclusive" "J" (.long (0 : Int64)) := D14 (Or.inr (hw _ (List.mem_of_getElem? (i := 15) rfl))) (ty := .long) (by decide)
    have F14_17 : Fld Z h14 b14 "com/example/omphale/omphale/KeyRange" "endInclusive" "J" (.long (0 : Int64)) := D14 (Or.inr (hw _ (List.mem_of_getElem? (i := 17) rfl))) (ty := .long) (by decide)
    show own_Gl _ _ _ _ (T14.setTop (mkF m 35 #[.val (.long q0), .second, .val (.long q1), .second, .val (.int p0), .val (.long q1), .second, .val (.long (q0 + q1)), .second, .val (.ref b12), .unset, .unset] [(.ref b14)]))
    refine own_go (fun t k => XS.dup X14.here hx rfl (hb hby at_35) rfl rfl k) ?_
    show own_Gl _ _ _ _ (T14.setTop (mkF m 36 #[.val (.long q0), .second, .val (.long q1), .second, .val (.int p0), .val (.long q1), .second, .val (.long (q0 + q1)), .second, .val (.ref b12), .unset, .unset] [(.ref b14), (.ref b14)]))
    refine own_go (fun t k => XS.lload X14.here hx rfl (hb hby at_36) rfl k) ?_
    show own_Gl _ _ _ _ (T14.setTop (mkF m 38 #[.val (.long q0), .second, .val (.long q1), .second, .val (.int p0), .val (.long q1), .second, .val (.long (q0 + q1)), .second, .val (.ref b12), .unset, .unset] [(.long (q0 + q1)), (.ref b14), (.ref b14)]))
    refine own_go (fun t k => XS.lloadN X14.here hx rfl (hb hby at_38) rfl k) ?_
    show own_Gl _ _ _ _ (T14.setTop (mkF m 39 #[.val (.long q0), .second, .val (.long q1), .second, .val (.int p0), .val (.long q1), .second, .val (.long (q0 + q1)), .second, .val (.ref b12), .unset, .unset] [(.long q0), (.long (q0 + q1)), (.ref b14), (.ref b14)]))
    obtain ⟨_, _, ⟨T16, L16, kk16, nn16⟩, -, X16, ⟨Lc16, hQ16, l16, y16, z16⟩, st16⟩ := X14.specialBack hx (y := (⟨"com/example/omphale/omphale/KeyRange", "<init>", "(JJ)V"⟩ : MethodName)) rfl hown (mvT hZ (hw _ (List.mem_of_getElem? (i := 3) rfl))) (mvT hZ (hw _ (List.mem_of_getElem? (i := 4) rfl))) (mvT hZ (hw _ (List.mem_of_getElem? (i := 5) rfl))) (by decide) (backOf (W := 1) (rm1 l Z a0 hw [] b14 (q0 + q1) q0 h14 n0 Z14 A14 F14_15 F14_17 ge_b14) hZ (hw _ (List.mem_of_getElem? (i := 5) rfl)) (hw _ (List.mem_of_getElem? (i := 2) rfl)) (by decide) (by decide)) (g := (mkF m 39 #[.val (.long q0), .second, .val (.long q1), .second, .val (.int p0), .val (.long q1), .second, .val (.long (q0 + q1)), .second, .val (.ref b12), .unset, .unset] [(.long q0), (.long (q0 + q1)), (.ref b14), (.ref b14)])) rfl (by rw [hml]; rfl) (Steps.refl _) (a := b14) (argsL := [(.long (q0 + q1)), (.long q0)]) (rest := [(.ref b14)]) (lenOf pd_1 rfl) rfl (by show 2 * 0 + _ ≤ _; exact Nat.le_of_eq rfl) (hb hby at_39) (fun _ _ => ⟨rfl, e14, (by decide : 2 + 0 ≤ _), (by decide : 4 + 0 ≤ _)⟩)
    dsimp only [Pt.U, Pt.locs, Pt.cells, Pt.slots] at X16 l16 y16 z16 st16 hQ16
    subst l16 y16 z16
    obtain ⟨N16q, rfl, K16q, po16_0, po16_1⟩ := hQ16
    have N16 := Fr.app N13 N16q
    have K16 : Keep h0 T16.heap [] := K14.trans K16q (allS (Or.inr sz_b14) all0)
    have Z16 : n0 ≤ T16.heap.size := Nat.le_trans Z14 K16q.1
    refine own_go (fun t k => st16.trans k) ?_
    show own_Gl _ _ _ _ (T16.setTop (mkF m 42 #[.val (.long q0), .second, .val (.long q1), .second, .val (.int p0), .val (.long q1), .second, .val (.long (q0 + q1)), .second, .val (.ref b12), .unset, .unset] [(.ref b14)]))
    refine own_go (fun t k => XS.astore X16.here hx rfl (hb hby at_42) rfl rfl (l' := #[.val (.long q0), .second, .val (.long q1), .second, .val (.int p0), .val (.long q1), .second, .val (.long (q0 + q1)), .second, .val (.ref b12), .val (.ref b14), .unset]) rfl k) ?_
    show own_Gl _ _ _ _ (T16.setTop (mkF m 44 #[.val (.long q0), .second, .val (.long q1), .second, .val (.int p0), .val (.long q1), .second, .val (.long (q0 + q1)), .second, .val (.ref b12), .val (.ref b14), .unset] []))
    refine own_go (fun t k => XS.lload X16.here hx rfl (hb hby at_44) rfl k) ?_
    show own_Gl _ _ _ _ (T16.setTop (mkF m 46 #[.val (.long q0), .second, .val (.long q1), .second, .val (.int p0), .val (.long q1), .second, .val (.long (q0 + q1)), .second, .val (.ref b12), .val (.ref b14), .unset] [(.long q1)]))
    refine own_go (fun t k => XS.lconst X16.here hx rfl (hb hby at_46) k) ?_
    show own_Gl _ _ _ _ (T16.setTop (mkF m 47 #[.val (.long q0), .second, .val (.long q1), .second, .val (.int p0), .val (.long q1), .second, .val (.long (q0 + q1)), .second, .val (.ref b12), .val (.ref b14), .unset] [(.long (0 : Int64)), (.long q1)]))
    refine own_go (fun t k => XS.lcmp X16.here hx rfl (hb hby at_47) rfl k) ?_
    show own_Gl _ _ _ _ (T16.setTop (mkF m 48 #[.val (.long q0), .second, .val (.long q1), .second, .val (.int p0), .val (.long q1), .second, .val (.long (q0 + q1)), .second, .val (.ref b12), .val (.ref b14), .unset] [(.int (lcmpW q1 (0 : Int64)))]))
    by_cases hc48_17 : q1 = (0 : Int64)
    · refine own_go (fun t k => XS.ifNo X16.here hx rfl (hb hby at_48) rfl ((if0 _ _).trans (teq ((lw_eq q1 (0 : Int64)).mpr hc48_17)).2) k) ?_
      show own_Gl _ _ _ _ (T16.setTop (mkF m 51 #[.val (.long q0), .second, .val (.long q1), .second, .val (.int p0), .val (.long q1), .second, .val (.long (q0 + q1)), .second, .val (.ref b12), .val (.ref b14), .unset] []))
      refine own_go (fun t k => XS.iconst X16.here hx rfl (hb hby at_51) k) ?_
      show own_Gl _ _ _ _ (T16.setTop (mkF m 52 #[.val (.long q0), .second, .val (.long q1), .second, .val (.int p0), .val (.long q1), .second, .val (.long (q0 + q1)), .second, .val (.ref b12), .val (.ref b14), .unset] [(.int (1 : Int32))]))
      refine own_go (fun t k => XS.goto X16.here hx rfl (pc0 := 52) (pc' := 56) rfl (hb hby at_52) (by decide) (by decide) k) ?_
      show own_Gl _ _ _ _ (T16.setTop (mkF m 56 #[.val (.long q0), .second, .val (.long q1), .second, .val (.int p0), .val (.long q1), .second, .val (.long (q0 + q1)), .second, .val (.ref b12), .val (.ref b14), .unset] [(.int (1 : Int32))]))
      refine own_go (fun t k => XS.istore X16.here hx rfl (hb hby at_56) rfl (l' := #[.val (.long q0), .second, .val (.long q1), .second, .val (.int p0), .val (.long q1), .second, .val (.long (q0 + q1)), .second, .val (.ref b12), .val (.ref b14), .val (.int (1 : Int32))]) rfl k) ?_
      show own_Gl _ _ _ _ (T16.setTop (mkF m 58 #[.val (.long q0), .second, .val (.long q1), .second, .val (.int p0), .val (.long q1), .second, .val (.long (q0 + q1)), .second, .val (.ref b12), .val (.ref b14), .val (.int (1 : Int32))] []))
      refine own_go (fun t k => XS.aload X16.here hx rfl (hb hby at_58) rfl rfl k) ?_
      show own_Gl _ _ _ _ (T16.setTop (mkF m 60 #[.val (.long q0), .second, .val (.long q1), .second, .val (.int p0), .val (.long q1), .second, .val (.long (q0 + q1)), .second, .val (.ref b12), .val (.ref b14), .val (.int (1 : Int32))] [(.ref b12)]))
      have f_18 : Fld Z T16.heap b12 "com/example/omphale/omphale/KeyRange" "startExclusive" "J" (.long q0) := ((po13_0.ext E14).keep K16q (ninS ne_b12_b14 nin0))
      have f_19 : Fld Z T16.heap b12 "com/example/omphale/omphale/KeyRange" "endInclusive" "J" (.long (q0 + q1)) := ((po13_1.ext E14).keep K16q (ninS ne_b12_b14 nin0))
      have f_21 : Exa Z T16.heap b12 "com/example/omphale/omphale/KeyRange" := ((f_15.ext E14).keep K16q)
      obtain ⟨cq20, kq20, q20a, q20b, q20c⟩ := isOf hZ rfl f_21
      obtain ⟨_, _, ⟨T20, L20, kk20, nn20⟩, -, X20, ⟨Lc20, hQ20, l20, y20, z20⟩, st20⟩ := X16.virtualBack hx (y := (⟨"com/example/omphale/omphale/KeyRange", "isWhole", "()Z"⟩ : MethodName)) (z := (⟨"com/example/omphale/omphale/KeyRange", "isWhole", "()Z"⟩ : MethodName)) hown (mvT hZ (hw _ (List.mem_of_getElem? (i := 18) rfl))) (mvT hZ (hw _ (List.mem_of_getElem? (i := 19) rfl))) (notFace_of_selects (args := #[]) (mvT hZ (hw _ (List.mem_of_getElem? (i := 21) rfl)))) (mvT hZ (hw _ (List.mem_of_getElem? (i := 21) rfl))) (mvT hZ (hw _ (List.mem_of_getElem? (i := 20) rfl))) (by decide) (backOf (W := 0) (rm4 l Z a0 hw [] b12 q0 (q0 + q1) T16.heap n0 Z16 f_18 f_19) hZ (hw _ (List.mem_of_getElem? (i := 22) rfl)) (hw _ (List.mem_of_getElem? (i := 2) rfl)) (by decide) (by decide)) q20a q20c (g := (mkF m 60 #[.val (.long q0), .second, .val (.long q1), .second, .val (.int p0), .val (.long q1), .second, .val (.long (q0 + q1)), .second, .val (.ref b12), .val (.ref b14), .val (.int (1 : Int32))] [(.ref b12)])) rfl (by rw [hml]; rfl) (Steps.refl _) (argsL := []) (rest := []) (lenOf pd_2 rfl) rfl (by show 2 * 0 + _ ≤ _; exact Nat.le_of_eq rfl) (hb hby at_60) (fun _ _ => ⟨rfl, rfl, (by decide : 2 + 0 ≤ _), (by decide : 4 + 0 ≤ _)⟩)
      dsimp only [Pt.U, Pt.locs, Pt.cells, Pt.slots] at X20 l20 y20 z20 st20 hQ20
      subst l20 y20 z20
      obtain ⟨N20q, rfl, hq20⟩ := hQ20
      have N20 := Fr.app N16 N20q
      refine own_go (fun t k => st20.trans k) ?_
      show own_Gl _ _ _ _ (T20.setTop (mkF m 63 #[.val (.long q0), .second, .val (.long q1), .second, .val (.int p0), .val (.long q1), .second, .val (.long (q0 + q1)), .second, .val (.ref b12), .val (.ref b14), .val (.int (1 : Int32))] [(.int (f4 q0 (q0 + q1)))]))
      refine own_go (fun t k => XS.iload X20.here hx rfl (hb hby at_63) rfl k) ?_
      show own_Gl _ _ _ _ (T20.setTop (mkF m 65 #[.val (.long q0), .second, .val (.long q1), .second, .val (.int p0), .val (.long q1), .second, .val (.long (q0 + q1)), .second, .val (.ref b12), .val (.ref b14), .val (.int (1 : Int32))] [(.int (1 : Int32)), (.int (f4 q0 (q0 + q1)))]))
      by_cases hc65_22 : (f4 q0 (q0 + q1)) = (1 : Int32)
      · refine own_go (fun t k => XS.icmpNo X20.here hx rfl (hb hby at_65) rfl (teq hc65_22).2 k) ?_
        show own_Gl _ _ _ _ (T20.setTop (mkF m 68 #[.val (.long q0), .second, .val (.long q1), .second, .val (.int p0), .val (.long q1), .second, .val (.long (q0 + q1)), .second, .val (.ref b12), .val (.ref b14), .val (.int (1 : Int32))] []))
        refine own_go (fun t k => XS.aload X20.here hx rfl (hb hby at_68) rfl rfl k) ?_
        show own_Gl _ _ _ _ (T20.setTop (mkF m 70 #[.val (.long q0), .second, .val (.long q1), .second, .val (.int p0), .val (.long q1), .second, .val (.long (q0 + q1)), .second, .val (.ref b12), .val (.ref b14), .val (.int (1 : Int32))] [(.ref b14)]))
        have f_24 : Exa Z T16.heap b14 "com/example/omphale/omphale/KeyRange" := (A14.keep K16q)
        obtain ⟨cq23, kq23, q23a, q23b, q23c⟩ := isOf hZ hq20 f_24
        obtain ⟨_, _, ⟨T23, L23, kk23, nn23⟩, -, X23, ⟨Lc23, hQ23, l23, y23, z23⟩, st23⟩ := X20.virtualBack hx (y := (⟨"com/example/omphale/omphale/KeyRange", "isWhole", "()Z"⟩ : MethodName)) (z := (⟨"com/example/omphale/omphale/KeyRange", "isWhole", "()Z"⟩ : MethodName)) hown (mvT hZ (hw _ (List.mem_of_getElem? (i := 18) rfl))) (mvT hZ (hw _ (List.mem_of_getElem? (i := 19) rfl))) (notFace_of_selects (args := #[]) (mvT hZ (hw _ (List.mem_of_getElem? (i := 21) rfl)))) (mvT hZ (hw _ (List.mem_of_getElem? (i := 21) rfl))) (mvT hZ (hw _ (List.mem_of_getElem? (i := 20) rfl))) (by decide) (backOf (W := 0) (rm4 l Z a0 hw [] b14 (q0 + q1) q0 T16.heap n0 Z16 po16_0 po16_1) hZ (hw _ (List.mem_of_getElem? (i := 22) rfl)) (hw _ (List.mem_of_getElem? (i := 2) rfl)) (by decide) (by decide)) q23a q23c (g := (mkF m 70 #[.val (.long q0), .second, .val (.long q1), .second, .val (.int p0), .val (.long q1), .second, .val (.long (q0 + q1)), .second, .val (.ref b12), .val (.ref b14), .val (.int (1 : Int32))] [(.ref b14)])) rfl (by rw [hml]; rfl) (Steps.refl _) (argsL := []) (rest := []) (lenOf pd_2 rfl) rfl (by show 2 * 0 + _ ≤ _; exact Nat.le_of_eq rfl) (hb hby at_70) (fun _ _ => ⟨rfl, hq20, (by decide : 2 + 0 ≤ _), (by decide : 4 + 0 ≤ _)⟩)
        dsimp only [Pt.U, Pt.locs, Pt.cells, Pt.slots] at X23 l23 y23 z23 st23 hQ23
        subst l23 y23 z23
        obtain ⟨N23q, rfl, hq23⟩ := hQ23
        have N23 := Fr.app N20 N23q
        refine own_go (fun t k => st23.trans k) ?_
        show own_Gl _ _ _ _ (T23.setTop (mkF m 73 #[.val (.long q0), .second, .val (.long q1), .second, .val (.int p0), .val (.long q1), .second, .val (.long (q0 + q1)), .second, .val (.ref b12), .val (.ref b14), .val (.int (1 : Int32))] [(.int (f4 (q0 + q1) q0))]))
        refine own_go (fun t k => XS.iload X23.here hx rfl (hb hby at_73) rfl k) ?_
        show own_Gl _ _ _ _ (T23.setTop (mkF m 75 #[.val (.long q0), .second, .val (.long q1), .second, .val (.int p0), .val (.long q1), .second, .val (.long (q0 + q1)), .second, .val (.ref b12), .val (.ref b14), .val (.int (1 : Int32))] [(.int (1 : Int32)), (.int (f4 (q0 + q1) q0))]))
        by_cases hc75_25 : (f4 (q0 + q1) q0) = (1 : Int32)
        · refine own_go (fun t k => XS.icmpNo X23.here hx rfl (hb hby at_75) rfl (teq hc75_25).2 k) ?_
          show own_Gl _ _ _ _ (T23.setTop (mkF m 78 #[.val (.long q0), .second, .val (.long q1), .second, .val (.int p0), .val (.long q1), .second, .val (.long (q0 + q1)), .second, .val (.ref b12), .val (.ref b14), .val (.int (1 : Int32))] []))
          refine own_go (fun t k => XS.iconst X23.here hx rfl (hb hby at_78) k) ?_
          show own_Gl _ _ _ _ (T23.setTop (mkF m 79 #[.val (.long q0), .second, .val (.long q1), .second, .val (.int p0), .val (.long q1), .second, .val (.long (q0 + q1)), .second, .val (.ref b12), .val (.ref b14), .val (.int (1 : Int32))] [(.int (1 : Int32))]))
          refine own_go (fun t k => XS.goto X23.here hx rfl (pc0 := 79) (pc' := 83) rfl (hb hby at_79) (by decide) (by decide) k) ?_
          show own_Gl _ _ _ _ (T23.setTop (mkF m 83 #[.val (.long q0), .second, .val (.long q1), .second, .val (.int p0), .val (.long q1), .second, .val (.long (q0 + q1)), .second, .val (.ref b12), .val (.ref b14), .val (.int (1 : Int32))] [(.int (1 : Int32))]))
          obtain ⟨fs, hr, hrun, hended, hW, hsame⟩ := X23.leave (v := some (.int (1 : Int32))) (fun h => by rw [Bd.returns] at h; cases h)
          refine own_fin (retN X23 hx (t := .boolean) Bd.returns (by simp) (hb hby at_83) hr) hrun hended ⟨_, _, rfl, ?_, ⟨_, rfl⟩, hW, hsame.mono (by decide) (by decide)⟩
          show Q0 Z q0 q1 p0 h0 n0 _ T23.heap _
          rw [hq23]
          exact ⟨N23, by rw [f0, if_pos hc4_11, if_pos hc48_17, if_pos hc65_22, if_pos hc75_25]⟩
        · refine own_go (fun t k => XS.icmpYes X23.here hx rfl (pc0 := 75) (pc' := 82) rfl (hb hby at_75) rfl (feq hc75_25).2 (by decide) (by decide) k) ?_
          show own_Gl _ _ _ _ (T23.setTop (mkF m 82 #[.val (.long q0), .second, .val (.long q1), .second, .val (.int p0), .val (.long q1), .second, .val (.long (q0 + q1)), .second, .val (.ref b12), .val (.ref b14), .val (.int (1 : Int32))] []))
          refine own_go (fun t k => XS.iconst X23.here hx rfl (hb hby at_82) k) ?_
          show own_Gl _ _ _ _ (T23.setTop (mkF m 83 #[.val (.long q0), .second, .val (.long q1), .second, .val (.int p0), .val (.long q1), .second, .val (.long (q0 + q1)), .second, .val (.ref b12), .val (.ref b14), .val (.int (1 : Int32))] [(.int (0 : Int32))]))
          obtain ⟨fs, hr, hrun, hended, hW, hsame⟩ := X23.leave (v := some (.int (0 : Int32))) (fun h => by rw [Bd.returns] at h; cases h)
          refine own_fin (retN X23 hx (t := .boolean) Bd.returns (by simp) (hb hby at_83) hr) hrun hended ⟨_, _, rfl, ?_, ⟨_, rfl⟩, hW, hsame.mono (by decide) (by decide)⟩
          show Q0 Z q0 q1 p0 h0 n0 _ T23.heap _
          rw [hq23]
          exact ⟨N23, by rw [f0, if_pos hc4_11, if_pos hc48_17, if_pos hc65_22, if_neg hc75_25]⟩
      · refine own_go (fun t k => XS.icmpYes X20.here hx rfl (pc0 := 65) (pc' := 82) rfl (hb hby at_65) rfl (feq hc65_22).2 (by decide) (by decide) k) ?_
        show own_Gl _ _ _ _ (T20.setTop (mkF m 82 #[.val (.long q0), .second, .val (.long q1), .second, .val (.int p0), .val (.long q1), .second, .val (.long (q0 + q1)), .second, .val (.ref b12), .val (.ref b14), .val (.int (1 : Int32))] []))
        refine own_go (fun t k => XS.iconst X20.here hx rfl (hb hby at_82) k) ?_
        show own_Gl _ _ _ _ (T20.setTop (mkF m 83 #[.val (.long q0), .second, .val (.long q1), .second, .val (.int p0), .val (.long q1), .second, .val (.long (q0 + q1)), .second, .val (.ref b12), .val (.ref b14), .val (.int (1 : Int32))] [(.int (0 : Int32))]))
        obtain ⟨fs, hr, hrun, hended, hW, hsame⟩ := X20.leave (v := some (.int (0 : Int32))) (fun h => by rw [Bd.returns] at h; cases h)
        refine own_fin (retN X20 hx (t := .boolean) Bd.returns (by simp) (hb hby at_83) hr) hrun hended ⟨_, _, rfl, ?_, ⟨_, rfl⟩, hW, hsame.mono (by decide) (by decide)⟩
        show Q0 Z q0 q1 p0 h0 n0 _ T20.heap _
        rw [hq20]
        exact ⟨N20, by rw [f0, if_pos hc4_11, if_pos hc48_17, if_neg hc65_22]⟩
    · refine own_go (fun t k => XS.ifYes X16.here hx rfl (pc0 := 48) (pc' := 55) rfl (hb hby at_48) rfl ((if0 _ _).trans (feq (fun q => hc48_17 ((lw_eq q1 (0 : Int64)).mp q))).2) (by decide) (by decide) k) ?_
      show own_Gl _ _ _ _ (T16.setTop (mkF m 55 #[.val (.long q0), .second, .val (.long q1), .second, .val (.int p0), .val (.long q1), .second, .val (.long (q0 + q1)), .second, .val (.ref b12), .val (.ref b14), .unset] []))
      refine own_go (fun t k => XS.iconst X16.here hx rfl (hb hby at_55) k) ?_
      show own_Gl _ _ _ _ (T16.setTop (mkF m 56 #[.val (.long q0), .second, .val (.long q1), .second, .val (.int p0), .val (.long q1), .second, .val (.long (q0 + q1)), .second, .val (.ref b12), .val (.ref b14), .unset] [(.int (0 : Int32))]))
      refine own_go (fun t k => XS.istore X16.here hx rfl (hb hby at_56) rfl (l' := #[.val (.long q0), .second, .val (.long q1), .second, .val (.int p0), .val (.long q1), .second, .val (.long (q0 + q1)), .second, .val (.ref b12), .val (.ref b14), .val (.int (0 : Int32))]) rfl k) ?_
      show own_Gl _ _ _ _ (T16.setTop (mkF m 58 #[.val (.long q0), .second, .val (.long q1), .second, .val (.int p0), .val (.long q1), .second, .val (.long (q0 + q1)), .second, .val (.ref b12), .val (.ref b14), .val (.int (0 : Int32))] []))
      refine own_go (fun t k => XS.aload X16.here hx rfl (hb hby at_58) rfl rfl k) ?_
      show own_Gl _ _ _ _ (T16.setTop (mkF m 60 #[.val (.long q0), .second, .val (.long q1), .second, .val (.int p0), .val (.long q1), .second, .val (.long (q0 + q1)), .second, .val (.ref b12), .val (.ref b14), .val (.int (0 : Int32))] [(.ref b12)]))
      have f_26 : Fld Z T16.heap b12 "com/example/omphale/omphale/KeyRange" "startExclusive" "J" (.long q0) := ((po13_0.ext E14).keep K16q (ninS ne_b12_b14 nin0))
      have f_27 : Fld Z T16.heap b12 "com/example/omphale/omphale/KeyRange" "endInclusive" "J" (.long (q0 + q1)) := ((po13_1.ext E14).keep K16q (ninS ne_b12_b14 nin0))
      have f_29 : Exa Z T16.heap b12 "com/example/omphale/omphale/KeyRange" := ((f_15.ext E14).keep K16q)
      obtain ⟨cq28, kq28, q28a, q28b, q28c⟩ := isOf hZ rfl f_29
      obtain ⟨_, _, ⟨T28, L28, kk28, nn28⟩, -, X28, ⟨Lc28, hQ28, l28, y28, z28⟩, st28⟩ := X16.virtualBack hx (y := (⟨"com/example/omphale/omphale/KeyRange", "isWhole", "()Z"⟩ : MethodName)) (z := (⟨"com/example/omphale/omphale/KeyRange", "isWhole", "()Z"⟩ : MethodName)) hown (mvT hZ (hw _ (List.mem_of_getElem? (i := 18) rfl))) (mvT hZ (hw _ (List.mem_of_getElem? (i := 19) rfl))) (notFace_of_selects (args := #[]) (mvT hZ (hw _ (List.mem_of_getElem? (i := 21) rfl)))) (mvT hZ (hw _ (List.mem_of_getElem? (i := 21) rfl))) (mvT hZ (hw _ (List.mem_of_getElem? (i := 20) rfl))) (by decide) (backOf (W := 0) (rm4 l Z a0 hw [] b12 q0 (q0 + q1) T16.heap n0 Z16 f_26 f_27) hZ (hw _ (List.mem_of_getElem? (i := 22) rfl)) (hw _ (List.mem_of_getElem? (i := 2) rfl)) (by decide) (by decide)) q28a q28c (g := (mkF m 60 #[.val (.long q0), .second, .val (.long q1), .second, .val (.int p0), .val (.long q1), .second, .val (.long (q0 + q1)), .second, .val (.ref b12), .val (.ref b14), .val (.int (0 : Int32))] [(.ref b12)])) rfl (by rw [hml]; rfl) (Steps.refl _) (argsL := []) (rest := []) (lenOf pd_2 rfl) rfl (by show 2 * 0 + _ ≤ _; exact Nat.le_of_eq rfl) (hb hby at_60) (fun _ _ => ⟨rfl, rfl, (by decide : 2 + 0 ≤ _), (by decide : 4 + 0 ≤ _)⟩)
      dsimp only [Pt.U, Pt.locs, Pt.cells, Pt.slots] at X28 l28 y28 z28 st28 hQ28
      subst l28 y28 z28
      obtain ⟨N28q, rfl, hq28⟩ := hQ28
      have N28 := Fr.app N16 N28q
      refine own_go (fun t k => st28.trans k) ?_
      show own_Gl _ _ _ _ (T28.setTop (mkF m 63 #[.val (.long q0), .second, .val (.long q1), .second, .val (.int p0), .val (.long q1), .second, .val (.long (q0 + q1)), .second, .val (.ref b12), .val (.ref b14), .val (.int (0 : Int32))] [(.int (f4 q0 (q0 + q1)))]))
      refine own_go (fun t k => XS.iload X28.here hx rfl (hb hby at_63) rfl k) ?_
      show own_Gl _ _ _ _ (T28.setTop (mkF m 65 #[.val (.long q0), .second, .val (.long q1), .second, .val (.int p0), .val (.long q1), .second, .val (.long (q0 + q1)), .second, .val (.ref b12), .val (.ref b14), .val (.int (0 : Int32))] [(.int (0 : Int32)), (.int (f4 q0 (q0 + q1)))]))
      by_cases hc65_30 : (f4 q0 (q0 + q1)) = (0 : Int32)
      · refine own_go (fun t k => XS.icmpNo X28.here hx rfl (hb hby at_65) rfl (teq hc65_30).2 k) ?_
        show own_Gl _ _ _ _ (T28.setTop (mkF m 68 #[.val (.long q0), .second, .val (.long q1), .second, .val (.int p0), .val (.long q1), .second, .val (.long (q0 + q1)), .second, .val (.ref b12), .val (.ref b14), .val (.int (0 : Int32))] []))
        refine own_go (fun t k => XS.aload X28.here hx rfl (hb hby at_68) rfl rfl k) ?_
        show own_Gl _ _ _ _ (T28.setTop (mkF m 70 #[.val (.long q0), .second, .val (.long q1), .second, .val (.int p0), .val (.long q1), .second, .val (.long (q0 + q1)), .second, .val (.ref b12), .val (.ref b14), .val (.int (0 : Int32))] [(.ref b14)]))
        have f_32 : Exa Z T16.heap b14 "com/example/omphale/omphale/KeyRange" := (A14.keep K16q)
        obtain ⟨cq31, kq31, q31a, q31b, q31c⟩ := isOf hZ hq28 f_32
        obtain ⟨_, _, ⟨T31, L31, kk31, nn31⟩, -, X31, ⟨Lc31, hQ31, l31, y31, z31⟩, st31⟩ := X28.virtualBack hx (y := (⟨"com/example/omphale/omphale/KeyRange", "isWhole", "()Z"⟩ : MethodName)) (z := (⟨"com/example/omphale/omphale/KeyRange", "isWhole", "()Z"⟩ : MethodName)) hown (mvT hZ (hw _ (List.mem_of_getElem? (i := 18) rfl))) (mvT hZ (hw _ (List.mem_of_getElem? (i := 19) rfl))) (notFace_of_selects (args := #[]) (mvT hZ (hw _ (List.mem_of_getElem? (i := 21) rfl)))) (mvT hZ (hw _ (List.mem_of_getElem? (i := 21) rfl))) (mvT hZ (hw _ (List.mem_of_getElem? (i := 20) rfl))) (by decide) (backOf (W := 0) (rm4 l Z a0 hw [] b14 (q0 + q1) q0 T16.heap n0 Z16 po16_0 po16_1) hZ (hw _ (List.mem_of_getElem? (i := 22) rfl)) (hw _ (List.mem_of_getElem? (i := 2) rfl)) (by decide) (by decide)) q31a q31c (g := (mkF m 70 #[.val (.long q0), .second, .val (.long q1), .second, .val (.int p0), .val (.long q1), .second, .val (.long (q0 + q1)), .second, .val (.ref b12), .val (.ref b14), .val (.int (0 : Int32))] [(.ref b14)])) rfl (by rw [hml]; rfl) (Steps.refl _) (argsL := []) (rest := []) (lenOf pd_2 rfl) rfl (by show 2 * 0 + _ ≤ _; exact Nat.le_of_eq rfl) (hb hby at_70) (fun _ _ => ⟨rfl, hq28, (by decide : 2 + 0 ≤ _), (by decide : 4 + 0 ≤ _)⟩)
        dsimp only [Pt.U, Pt.locs, Pt.cells, Pt.slots] at X31 l31 y31 z31 st31 hQ31
        subst l31 y31 z31
        obtain ⟨N31q, rfl, hq31⟩ := hQ31
        have N31 := Fr.app N28 N31q
        refine own_go (fun t k => st31.trans k) ?_
        show own_Gl _ _ _ _ (T31.setTop (mkF m 73 #[.val (.long q0), .second, .val (.long q1), .second, .val (.int p0), .val (.long q1), .second, .val (.long (q0 + q1)), .second, .val (.ref b12), .val (.ref b14), .val (.int (0 : Int32))] [(.int (f4 (q0 + q1) q0))]))
        refine own_go (fun t k => XS.iload X31.here hx rfl (hb hby at_73) rfl k) ?_
        show own_Gl _ _ _ _ (T31.setTop (mkF m 75 #[.val (.long q0), .second, .val (.long q1), .second, .val (.int p0), .val (.long q1), .second, .val (.long (q0 + q1)), .second, .val (.ref b12), .val (.ref b14), .val (.int (0 : Int32))] [(.int (0 : Int32)), (.int (f4 (q0 + q1) q0))]))
        by_cases hc75_33 : (f4 (q0 + q1) q0) = (0 : Int32)
        · refine own_go (fun t k => XS.icmpNo X31.here hx rfl (hb hby at_75) rfl (teq hc75_33).2 k) ?_
          show own_Gl _ _ _ _ (T31.setTop (mkF m 78 #[.val (.long q0), .second, .val (.long q1), .second, .val (.int p0), .val (.long q1), .second, .val (.long (q0 + q1)), .second, .val (.ref b12), .val (.ref b14), .val (.int (0 : Int32))] []))
          refine own_go (fun t k => XS.iconst X31.here hx rfl (hb hby at_78) k) ?_
          show own_Gl _ _ _ _ (T31.setTop (mkF m 79 #[.val (.long q0), .second, .val (.long q1), .second, .val (.int p0), .val (.long q1), .second, .val (.long (q0 + q1)), .second, .val (.ref b12), .val (.ref b14), .val (.int (0 : Int32))] [(.int (1 : Int32))]))
          refine own_go (fun t k => XS.goto X31.here hx rfl (pc0 := 79) (pc' := 83) rfl (hb hby at_79) (by decide) (by decide) k) ?_
          show own_Gl _ _ _ _ (T31.setTop (mkF m 83 #[.val (.long q0), .second, .val (.long q1), .second, .val (.int p0), .val (.long q1), .second, .val (.long (q0 + q1)), .second, .val (.ref b12), .val (.ref b14), .val (.int (0 : Int32))] [(.int (1 : Int32))]))
          obtain ⟨fs, hr, hrun, hended, hW, hsame⟩ := X31.leave (v := some (.int (1 : Int32))) (fun h => by rw [Bd.returns] at h; cases h)
          refine own_fin (retN X31 hx (t := .boolean) Bd.returns (by simp) (hb hby at_83) hr) hrun hended ⟨_, _, rfl, ?_, ⟨_, rfl⟩, hW, hsame.mono (by decide) (by decide)⟩
          show Q0 Z q0 q1 p0 h0 n0 _ T31.heap _
          rw [hq31]
          exact ⟨N31, by rw [f0, if_pos hc4_11, if_neg hc48_17, if_pos hc65_30, if_pos hc75_33]⟩
        · refine own_go (fun t k => XS.icmpYes X31.here hx rfl (pc0 := 75) (pc' := 82) rfl (hb hby at_75) rfl (feq hc75_33).2 (by decide) (by decide) k) ?_
          show own_Gl _ _ _ _ (T31.setTop (mkF m 82 #[.val (.long q0), .second, .val (.long q1), .second, .val (.int p0), .val (.long q1), .second, .val (.long (q0 + q1)), .second, .val (.ref b12), .val (.ref b14), .val (.int (0 : Int32))] []))
          refine own_go (fun t k => XS.iconst X31.here hx rfl (hb hby at_82) k) ?_
          show own_Gl _ _ _ _ (T31.setTop (mkF m 83 #[.val (.long q0), .second, .val (.long q1), .second, .val (.int p0), .val (.long q1), .second, .val (.long (q0 + q1)), .second, .val (.ref b12), .val (.ref b14), .val (.int (0 : Int32))] [(.int (0 : Int32))]))
          obtain ⟨fs, hr, hrun, hended, hW, hsame⟩ := X31.leave (v := some (.int (0 : Int32))) (fun h => by rw [Bd.returns] at h; cases h)
          refine own_fin (retN X31 hx (t := .boolean) Bd.returns (by simp) (hb hby at_83) hr) hrun hended ⟨_, _, rfl, ?_, ⟨_, rfl⟩, hW, hsame.mono (by decide) (by decide)⟩
          show Q0 Z q0 q1 p0 h0 n0 _ T31.heap _
          rw [hq31]
          exact ⟨N31, by rw [f0, if_pos hc4_11, if_neg hc48_17, if_pos hc65_30, if_neg hc75_33]⟩
      · refine own_go (fun t k => XS.icmpYes X28.here hx rfl (pc0 := 65) (pc' := 82) rfl (hb hby at_65) rfl (feq hc65_30).2 (by decide) (by decide) k) ?_
        show own_Gl _ _ _ _ (T28.setTop (mkF m 82 #[.val (.long q0), .second, .val (.long q1), .second, .val (.int p0), .val (.long q1), .second, .val (.long (q0 + q1)), .second, .val (.ref b12), .val (.ref b14), .val (.int (0 : Int32))] []))
        refine own_go (fun t k => XS.iconst X28.here hx rfl (hb hby at_82) k) ?_
        show own_Gl _ _ _ _ (T28.setTop (mkF m 83 #[.val (.long q0), .second, .val (.long q1), .second, .val (.int p0), .val (.long q1), .second, .val (.long (q0 + q1)), .second, .val (.ref b12), .val (.ref b14), .val (.int (0 : Int32))] [(.int (0 : Int32))]))
        obtain ⟨fs, hr, hrun, hended, hW, hsame⟩ := X28.leave (v := some (.int (0 : Int32))) (fun h => by rw [Bd.returns] at h; cases h)
        refine own_fin (retN X28 hx (t := .boolean) Bd.returns (by simp) (hb hby at_83) hr) hrun hended ⟨_, _, rfl, ?_, ⟨_, rfl⟩, hW, hsame.mono (by decide) (by decide)⟩
        show Q0 Z q0 q1 p0 h0 n0 _ T28.heap _
        rw [hq28]
        exact ⟨N28, by rw [f0, if_pos hc4_11, if_neg hc48_17, if_neg hc65_30]⟩
  · refine own_go (fun t k => XS.ifNo X0.here hx rfl (hb hby at_4) rfl ((if0 _ _).trans (feq hc4_11).1) k) ?_
    show own_Gl _ _ _ _ (s₁.setTop (mkF m 7 #[.val (.long q0), .second, .val (.long q1), .second, .val (.int p0), .unset, .unset, .unset, .unset, .unset, .unset, .unset] []))
    refine own_go (fun t k => XS.lconst X0.here hx rfl (hb hby at_7) k) ?_
    show own_Gl _ _ _ _ (s₁.setTop (mkF m 8 #[.val (.long q0), .second, .val (.long q1), .second, .val (.int p0), .unset, .unset, .unset, .unset, .unset, .unset, .unset] [(.long (0 : Int64))]))
    refine own_go (fun t k => XS.goto X0.here hx rfl (pc0 := 8) (pc' := 12) rfl (hb hby at_8) (by decide) (by decide) k) ?_
    show own_Gl _ _ _ _ (s₁.setTop (mkF m 12 #[.val (.long q0), .second, .val (.long q1), .second, .val (.int p0), .unset, .unset, .unset, .unset, .unset, .unset, .unset] [(.long (0 : Int64))]))
    refine own_go (fun t k => XS.lstore X0.here hx rfl (hb hby at_12) rfl (l' := #[.val (.long q0), .second, .val (.long q1), .second, .val (.int p0), .val (.long (0 : Int64)), .second, .unset, .unset, .unset, .unset, .unset]) rfl k) ?_
    show own_Gl _ _ _ _ (s₁.setTop (mkF m 14 #[.val (.long q0), .second, .val (.long q1), .second, .val (.int p0), .val (.long (0 : Int64)), .second, .unset, .unset, .unset, .unset, .unset] []))
    refine own_go (fun t k => XS.lloadN X0.here hx rfl (hb hby at_14) rfl k) ?_
    show own_Gl _ _ _ _ (s₁.setTop (mkF m 15 #[.val (.long q0), .second, .val (.long q1), .second, .val (.int p0), .val (.long (0 : Int64)), .second, .unset, .unset, .unset, .unset, .unset] [(.long q0)]))
    refine own_go (fun t k => XS.lload X0.here hx rfl (hb hby at_15) rfl k) ?_
    show own_Gl _ _ _ _ (s₁.setTop (mkF m 17 #[.val (.long q0), .second, .val (.long q1), .second, .val (.int p0), .val (.long (0 : Int64)), .second, .unset, .unset, .unset, .unset, .unset] [(.long (0 : Int64)), (.long q0)]))
    refine own_go (fun t k => XS.ladd X0.here hx rfl (hb hby at_17) rfl k) ?_
    show own_Gl _ _ _ _ (s₁.setTop (mkF m 18 #[.val (.long q0), .second, .val (.long q1), .second, .val (.int p0), .val (.long (0 : Int64)), .second, .unset, .unset, .unset, .unset, .unset] [(.long (q0 + (0 : Int64)))]))
    refine own_go (fun t k => XS.lstore X0.here hx rfl (hb hby at_18) rfl (l' := #[.val (.long q0), .second, .val (.long q1), .second, .val (.int p0), .val (.long (0 : Int64)), .second, .val (.long (q0 + (0 : Int64))), .second, .unset, .unset, .unset]) rfl k) ?_
    show own_Gl _ _ _ _ (s₁.setTop (mkF m 20 #[.val (.long q0), .second, .val (.long q1), .second, .val (.int p0), .val (.long (0 : Int64)), .second, .val (.long (q0 + (0 : Int64))), .second, .unset, .unset, .unset] []))
    obtain ⟨T34, h34, X34, e34, E34, A34, D34, -, st34⟩ := newO X0 hx hZ hown (hw _ (List.mem_of_getElem? (i := 0) rfl)) (hw _ (List.mem_of_getElem? (i := 1) rfl)) (hw _ (List.mem_of_getElem? (i := 2) rfl)) e0 (g := (mkF m 20 #[.val (.long q0), .second, .val (.long q1), .second, .val (.int p0), .val (.long (0 : Int64)), .second, .val (.long (q0 + (0 : Int64))), .second, .unset, .unset, .unset] [])) rfl (hb hby at_20) (by decide) (by decide)
    obtain ⟨b34, g34⟩ : ∃ z, z = h0.size := ⟨_, rfl⟩
    rw [← g34] at A34 D34 st34
    have ge_b34 : n0 ≤ b34 := Nat.le_trans Z0 (Nat.le_of_eq g34.symm)
    have sz_b34 : h0.size ≤ b34 := Nat.le_trans (Keep.refl h0 []).1 (Nat.le_of_eq g34.symm)
    refine own_go (fun t k => st34 _ k) ?_
    have K34 : Keep h0 h34 [] := (Keep.refl h0 []).ext E34
    have Z34 : n0 ≤ h34.size := Nat.le_trans Z0 E34.1
    have F34_15 : Fld Z h34 b34 "com/example/omphale/omphale/KeyRange" "startExclusive" "J" (.long (0 : Int64)) := D34 (Or.inr (hw _ (List.mem_of_getElem? (i := 15) rfl))) (ty := .long) (by decide)
    have F34_17 : Fld Z h34 b34 "com/example/omphale/omphale/KeyRange" "endInclusive" "J" (.long (0 : Int64)) := D34 (Or.inr (hw _ (List.mem_of_getElem? (i := 17) rfl))) (ty := .long) (by decide)
    show own_Gl _ _ _ _ (T34.setTop (mkF m 23 #[.val (.long q0), .second, .val (.long q1), .second, .val (.int p0), .val (.long (0 : Int64)), .second, .val (.long (q0 + (0 : Int64))), .second, .unset, .unset, .unset] [(.ref b34)]))
    refine own_go (fun t k => XS.dup X34.here hx rfl (hb hby at_23) rfl rfl k) ?_
    show own_Gl _ _ _ _ (T34.setTop (mkF m 24 #[.val (.long q0), .second, .val (.long q1), .second, .val (.int p0), .val (.long (0 : Int64)), .second, .val (.long (q0 + (0 : Int64))), .second, .unset, .unset, .unset] [(.ref b34), (.ref b34)]))
    refine own_go (fun t k => XS.lloadN X34.here hx rfl (hb hby at_24) rfl k) ?_
    show own_Gl _ _ _ _ (T34.setTop (mkF m 25 #[.val (.long q0), .second, .val (.long q1), .second, .val (.int p0), .val (.long (0 : Int64)), .second, .val (.long (q0 + (0 : Int64))), .second, .unset, .unset, .unset] [(.long q0), (.ref b34), (.ref b34)]))
    refine own_go (fun t k => XS.lload X34.here hx rfl (hb hby at_25) rfl k) ?_
    show own_Gl _ _ _ _ (T34.setTop (mkF m 27 #[.val (.long q0), .second, .val (.long q1), .second, .val (.int p0), .val (.long (0 : Int64)), .second, .val (.long (q0 + (0 : Int64))), .second, .unset, .unset, .unset] [(.long (q0 + (0 : Int64))), (.long q0), (.ref b34), (.ref b34)]))
    obtain ⟨_, _, ⟨T35, L35, kk35, nn35⟩, -, X35, ⟨Lc35, hQ35, l35, y35, z35⟩, st35⟩ := X34.specialBack hx (y := (⟨"com/example/omphale/omphale/KeyRange", "<init>", "(JJ)V"⟩ : MethodName)) rfl hown (mvT hZ (hw _ (List.mem_of_getElem? (i := 3) rfl))) (mvT hZ (hw _ (List.mem_of_getElem? (i := 4) rfl))) (mvT hZ (hw _ (List.mem_of_getElem? (i := 5) rfl))) (by decide) (backOf (W := 1) (rm1 l Z a0 hw [] b34 q0 (q0 + (0 : Int64)) h34 n0 Z34 A34 F34_15 F34_17 ge_b34) hZ (hw _ (List.mem_of_getElem? (i := 5) rfl)) (hw _ (List.mem_of_getElem? (i := 2) rfl)) (by decide) (by decide)) (g := (mkF m 27 #[.val (.long q0), .second, .val (.long q1), .second, .val (.int p0), .val (.long (0 : Int64)), .second, .val (.long (q0 + (0 : Int64))), .second, .unset, .unset, .unset] [(.long (q0 + (0 : Int64))), (.long q0), (.ref b34), (.ref b34)])) rfl (by rw [hml]; rfl) (Steps.refl _) (a := b34) (argsL := [(.long q0), (.long (q0 + (0 : Int64)))]) (rest := [(.ref b34)]) (lenOf pd_1 rfl) rfl (by show 2 * 0 + _ ≤ _; exact Nat.le_of_eq rfl) (hb hby at_27) (fun _ _ => ⟨rfl, e34, (by decide : 1 + 0 ≤ _), (by decide : 2 + 0 ≤ _)⟩)
    dsimp only [Pt.U, Pt.locs, Pt.cells, Pt.slots] at X35 l35 y35 z35 st35 hQ35
    subst l35 y35 z35
    obtain ⟨N35q, rfl, K35q, po35_0, po35_1⟩ := hQ35
    have N35 := Fr.app N0 N35q
    have K35 : Keep h0 T35.heap [] := K34.trans K35q (allS (Or.inr sz_b34) all0)
    have Z35 : n0 ≤ T35.heap.size := Nat.le_trans Z34 K35q.1
    refine own_go (fun t k => st35.trans k) ?_
    show own_Gl _ _ _ _ (T35.setTop (mkF m 30 #[.val (.long q0), .second, .val (.long q1), .second, .val (.int p0), .val (.long (0 : Int64)), .second, .val (.long (q0 + (0 : Int64))), .second, .unset, .unset, .unset] [(.ref b34)]))
    refine own_go (fun t k => XS.astore X35.here hx rfl (hb hby at_30) rfl rfl (l' := #[.val (.long q0), .second, .val (.long q1), .second, .val (.int p0), .val (.long (0 : Int64)), .second, .val (.long (q0 + (0 : Int64))), .second, .val (.ref b34), .unset, .unset]) rfl k) ?_
    show own_Gl _ _ _ _ (T35.setTop (mkF m 32 #[.val (.long q0), .second, .val (.long q1), .second, .val (.int p0), .val (.long (0 : Int64)), .second, .val (.long (q0 + (0 : Int64))), .second, .val (.ref b34), .unset, .unset] []))
    obtain ⟨T36, h36, X36, e36, E36, A36, D36, -, st36⟩ := newO X35 hx hZ hown (hw _ (List.mem_of_getElem? (i := 0) rfl)) (hw _ (List.mem_of_getElem? (i := 1) rfl)) (hw _ (List.mem_of_getElem? (i := 2) rfl)) rfl (g := (mkF m 32 #[.val (.long q0), .second, .val (.long q1), .second, .val (.int p0), .val (.long (0 : Int64)), .second, .val (.long (q0 + (0 : Int64))), .second, .val (.ref b34), .unset, .unset] [])) rfl (hb hby at_32) (by decide) (by decide)
    obtain ⟨b36, g36⟩ : ∃ z, z = T35.heap.size := ⟨_, rfl⟩
    rw [← g36] at A36 D36 st36
    have f_37 : Exa Z T35.heap b34 "com/example/omphale/omphale/KeyRange" := (A34.keep K35q)
    have ne_b34_b36 : b34 ≠ b36 := Nat.ne_of_lt (Nat.lt_of_lt_of_le f_37.lt (Nat.le_of_eq g36.symm))
    have ge_b36 : n0 ≤ b36 := Nat.le_trans Z35 (Nat.le_of_eq g36.symm)
    have sz_b36 : h0.size ≤ b36 := Nat.le_trans K35.1 (Nat.le_of_eq g36.symm)
    refine own_go (fun t k => st36 _ k) ?_
    have K36 : Keep h0 h36 [] := K35.ext E36
    have Z36 : n0 ≤ h36.size := Nat.le_trans Z35 E36.1
    have F36_15 : Fld Z h36 b36 "com/example/omphale/omphale/KeyRange" "startExclusive" "J" (.long (0 : Int64)) := D36 (Or.inr (hw _ (List.mem_of_getElem? (i := 15) rfl))) (ty := .long) (by decide)
    have F36_17 : Fld Z h36 b36 "com/example/omphale/omphale/KeyRange" "endInclusive" "J" (.long (0 : Int64)) := D36 (Or.inr (hw _ (List.mem_of_getElem? (i := 17) rfl))) (ty := .long) (by decide)
    show own_Gl _ _ _ _ (T36.setTop (mkF m 35 #[.val (.long q0), .second, .val (.long q1), .second, .val (.int p0), .val (.long (0 : Int64)), .second, .val (.long (q0 + (0 : Int64))), .second, .val (.ref b34), .unset, .unset] [(.ref b36)]))
    refine own_go (fun t k => XS.dup X36.here hx rfl (hb hby at_35) rfl rfl k) ?_
    show own_Gl _ _ _ _ (T36.setTop (mkF m 36 #[.val (.long q0), .second, .val (.long q1), .second, .val (.int p0), .val (.long (0 : Int64)), .second, .val (.long (q0 + (0 : Int64))), .second, .val (.ref b34), .unset, .unset] [(.ref b36), (.ref b36)]))
    refine own_go (fun t k => XS.lload X36.here hx rfl (hb hby at_36) rfl k) ?_
    show own_Gl _ _ _ _ (T36.setTop (mkF m 38 #[.val (.long q0), .second, .val (.long q1), .second, .val (.int p0), .val (.long (0 : Int64)), .second, .val (.long (q0 + (0 : Int64))), .second, .val (.ref b34), .unset, .unset] [(.long (q0 + (0 : Int64))), (.ref b36), (.ref b36)]))
    refine own_go (fun t k => XS.lloadN X36.here hx rfl (hb hby at_38) rfl k) ?_
    show own_Gl _ _ _ _ (T36.setTop (mkF m 39 #[.val (.long q0), .second, .val (.long q1), .second, .val (.int p0), .val (.long (0 : Int64)), .second, .val (.long (q0 + (0 : Int64))), .second, .val (.ref b34), .unset, .unset] [(.long q0), (.long (q0 + (0 : Int64))), (.ref b36), (.ref b36)]))
    obtain ⟨_, _, ⟨T38, L38, kk38, nn38⟩, -, X38, ⟨Lc38, hQ38, l38, y38, z38⟩, st38⟩ := X36.specialBack hx (y := (⟨"com/example/omphale/omphale/KeyRange", "<init>", "(JJ)V"⟩ : MethodName)) rfl hown (mvT hZ (hw _ (List.mem_of_getElem? (i := 3) rfl))) (mvT hZ (hw _ (List.mem_of_getElem? (i := 4) rfl))) (mvT hZ (hw _ (List.mem_of_getElem? (i := 5) rfl))) (by decide) (backOf (W := 1) (rm1 l Z a0 hw [] b36 (q0 + (0 : Int64)) q0 h36 n0 Z36 A36 F36_15 F36_17 ge_b36) hZ (hw _ (List.mem_of_getElem? (i := 5) rfl)) (hw _ (List.mem_of_getElem? (i := 2) rfl)) (by decide) (by decide)) (g := (mkF m 39 #[.val (.long q0), .second, .val (.long q1), .second, .val (.int p0), .val (.long (0 : Int64)), .second, .val (.long (q0 + (0 : Int64))), .second, .val (.ref b34), .unset, .unset] [(.long q0), (.long (q0 + (0 : Int64))), (.ref b36), (.ref b36)])) rfl (by rw [hml]; rfl) (Steps.refl _) (a := b36) (argsL := [(.long (q0 + (0 : Int64))), (.long q0)]) (rest := [(.ref b36)]) (lenOf pd_1 rfl) rfl (by show 2 * 0 + _ ≤ _; exact Nat.le_of_eq rfl) (hb hby at_39) (fun _ _ => ⟨rfl, e36, (by decide : 2 + 0 ≤ _), (by decide : 4 + 0 ≤ _)⟩)
    dsimp only [Pt.U, Pt.locs, Pt.cells, Pt.slots] at X38 l38 y38 z38 st38 hQ38
    subst l38 y38 z38
    obtain ⟨N38q, rfl, K38q, po38_0, po38_1⟩ := hQ38
    have N38 := Fr.app N35 N38q
    have K38 : Keep h0 T38.heap [] := K36.trans K38q (allS (Or.inr sz_b36) all0)
    have Z38 : n0 ≤ T38.heap.size := Nat.le_trans Z36 K38q.1
    refine own_go (fun t k => st38.trans k) ?_
    show own_Gl _ _ _ _ (T38.setTop (mkF m 42 #[.val (.long q0), .second, .val (.long q1), .second, .val (.int p0), .val (.long (0 : Int64)), .second, .val (.long (q0 + (0 : Int64))), .second, .val (.ref b34), .unset, .unset] [(.ref b36)]))
    refine own_go (fun t k => XS.astore X38.here hx rfl (hb hby at_42) rfl rfl (l' := #[.val (.long q0), .second, .val (.long q1), .second, .val (.int p0), .val (.long (0 : Int64)), .second, .val (.long (q0 + (0 : Int64))), .second, .val (.ref b34), .val (.ref b36), .unset]) rfl k) ?_
    show own_Gl _ _ _ _ (T38.setTop (mkF m 44 #[.val (.long q0), .second, .val (.long q1), .second, .val (.int p0), .val (.long (0 : Int64)), .second, .val (.long (q0 + (0 : Int64))), .second, .val (.ref b34), .val (.ref b36), .unset] []))
    refine own_go (fun t k => XS.lload X38.here hx rfl (hb hby at_44) rfl k) ?_
    show own_Gl _ _ _ _ (T38.setTop (mkF m 46 #[.val (.long q0), .second, .val (.long q1), .second, .val (.int p0), .val (.long (0 : Int64)), .second, .val (.long (q0 + (0 : Int64))), .second, .val (.ref b34), .val (.ref b36), .unset] [(.long (0 : Int64))]))
    refine own_go (fun t k => XS.lconst X38.here hx rfl (hb hby at_46) k) ?_
    show own_Gl _ _ _ _ (T38.setTop (mkF m 47 #[.val (.long q0), .second, .val (.long q1), .second, .val (.int p0), .val (.long (0 : Int64)), .second, .val (.long (q0 + (0 : Int64))), .second, .val (.ref b34), .val (.ref b36), .unset] [(.long (0 : Int64)), (.long (0 : Int64))]))
    refine own_go (fun t k => XS.lcmp X38.here hx rfl (hb hby at_47) rfl k) ?_
    show own_Gl _ _ _ _ (T38.setTop (mkF m 48 #[.val (.long q0), .second, .val (.long q1), .second, .val (.int p0), .val (.long (0 : Int64)), .second, .val (.long (q0 + (0 : Int64))), .second, .val (.ref b34), .val (.ref b36), .unset] [(.int (lcmpW (0 : Int64) (0 : Int64)))]))
    refine own_go (fun t k => XS.ifNo X38.here hx rfl (hb hby at_48) rfl ((if0 _ _).trans (teq ((lw_eq (0 : Int64) (0 : Int64)).mpr (by decide : (0 : Int64) = (0 : Int64)))).2) k) ?_
    show own_Gl _ _ _ _ (T38.setTop (mkF m 51 #[.val (.long q0), .second, .val (.long q1), .second, .val (.int p0), .val (.long (0 : Int64)), .second, .val (.long (q0 + (0 : Int64))), .second, .val (.ref b34), .val (.ref b36), .unset] []))
    refine own_go (fun t k => XS.iconst X38.here hx rfl (hb hby at_51) k) ?_
    show own_Gl _ _ _ _ (T38.setTop (mkF m 52 #[.val (.long q0), .second, .val (.long q1), .second, .val (.int p0), .val (.long (0 : Int64)), .second, .val (.long (q0 + (0 : Int64))), .second, .val (.ref b34), .val (.ref b36), .unset] [(.int (1 : Int32))]))
    refine own_go (fun t k => XS.goto X38.here hx rfl (pc0 := 52) (pc' := 56) rfl (hb hby at_52) (by decide) (by decide) k) ?_
    show own_Gl _ _ _ _ (T38.setTop (mkF m 56 #[.val (.long q0), .second, .val (.long q1), .second, .val (.int p0), .val (.long (0 : Int64)), .second, .val (.long (q0 + (0 : Int64))), .second, .val (.ref b34), .val (.ref b36), .unset] [(.int (1 : Int32))]))
    refine own_go (fun t k => XS.istore X38.here hx rfl (hb hby at_56) rfl (l' := #[.val (.long q0), .second, .val (.long q1), .second, .val (.int p0), .val (.long (0 : Int64)), .second, .val (.long (q0 + (0 : Int64))), .second, .val (.ref b34), .val (.ref b36), .val (.int (1 : Int32))]) rfl k) ?_
    show own_Gl _ _ _ _ (T38.setTop (mkF m 58 #[.val (.long q0), .second, .val (.long q1), .second, .val (.int p0), .val (.long (0 : Int64)), .second, .val (.long (q0 + (0 : Int64))), .second, .val (.ref b34), .val (.ref b36), .val (.int (1 : Int32))] []))
    refine own_go (fun t k => XS.aload X38.here hx rfl (hb hby at_58) rfl rfl k) ?_
    show own_Gl _ _ _ _ (T38.setTop (mkF m 60 #[.val (.long q0), .second, .val (.long q1), .second, .val (.int p0), .val (.long (0 : Int64)), .second, .val (.long (q0 + (0 : Int64))), .second, .val (.ref b34), .val (.ref b36), .val (.int (1 : Int32))] [(.ref b34)]))
    have f_39 : Fld Z T38.heap b34 "com/example/omphale/omphale/KeyRange" "startExclusive" "J" (.long q0) := ((po35_0.ext E36).keep K38q (ninS ne_b34_b36 nin0))
    have f_40 : Fld Z T38.heap b34 "com/example/omphale/omphale/KeyRange" "endInclusive" "J" (.long (q0 + (0 : Int64))) := ((po35_1.ext E36).keep K38q (ninS ne_b34_b36 nin0))
    have f_42 : Exa Z T38.heap b34 "com/example/omphale/omphale/KeyRange" := ((f_37.ext E36).keep K38q)
    obtain ⟨cq41, kq41, q41a, q41b, q41c⟩ := isOf hZ rfl f_42
    obtain ⟨_, _, ⟨T41, L41, kk41, nn41⟩, -, X41, ⟨Lc41, hQ41, l41, y41, z41⟩, st41⟩ := X38.virtualBack hx (y := (⟨"com/example/omphale/omphale/KeyRange", "isWhole", "()Z"⟩ : MethodName)) (z := (⟨"com/example/omphale/omphale/KeyRange", "isWhole", "()Z"⟩ : MethodName)) hown (mvT hZ (hw _ (List.mem_of_getElem? (i := 18) rfl))) (mvT hZ (hw _ (List.mem_of_getElem? (i := 19) rfl))) (notFace_of_selects (args := #[]) (mvT hZ (hw _ (List.mem_of_getElem? (i := 21) rfl)))) (mvT hZ (hw _ (List.mem_of_getElem? (i := 21) rfl))) (mvT hZ (hw _ (List.mem_of_getElem? (i := 20) rfl))) (by decide) (backOf (W := 0) (rm4 l Z a0 hw [] b34 q0 (q0 + (0 : Int64)) T38.heap n0 Z38 f_39 f_40) hZ (hw _ (List.mem_of_getElem? (i := 22) rfl)) (hw _ (List.mem_of_getElem? (i := 2) rfl)) (by decide) (by decide)) q41a q41c (g := (mkF m 60 #[.val (.long q0), .second, .val (.long q1), .second, .val (.int p0), .val (.long (0 : Int64)), .second, .val (.long (q0 + (0 : Int64))), .second, .val (.ref b34), .val (.ref b36), .val (.int (1 : Int32))] [(.ref b34)])) rfl (by rw [hml]; rfl) (Steps.refl _) (argsL := []) (rest := []) (lenOf pd_2 rfl) rfl (by show 2 * 0 + _ ≤ _; exact Nat.le_of_eq rfl) (hb hby at_60) (fun _ _ => ⟨rfl, rfl, (by decide : 2 + 0 ≤ _), (by decide : 4 + 0 ≤ _)⟩)
    dsimp only [Pt.U, Pt.locs, Pt.cells, Pt.slots] at X41 l41 y41 z41 st41 hQ41
    subst l41 y41 z41
    obtain ⟨N41q, rfl, hq41⟩ := hQ41
    have N41 := Fr.app N38 N41q
    refine own_go (fun t k => st41.trans k) ?_
    show own_Gl _ _ _ _ (T41.setTop (mkF m 63 #[.val (.long q0), .second, .val (.long q1), .second, .val (.int p0), .val (.long (0 : Int64)), .second, .val (.long (q0 + (0 : Int64))), .second, .val (.ref b34), .val (.ref b36), .val (.int (1 : Int32))] [(.int (f4 q0 (q0 + (0 : Int64))))]))
    refine own_go (fun t k => XS.iload X41.here hx rfl (hb hby at_63) rfl k) ?_
    show own_Gl _ _ _ _ (T41.setTop (mkF m 65 #[.val (.long q0), .second, .val (.long q1), .second, .val (.int p0), .val (.long (0 : Int64)), .second, .val (.long (q0 + (0 : Int64))), .second, .val (.ref b34), .val (.ref b36), .val (.int (1 : Int32))] [(.int (1 : Int32)), (.int (f4 q0 (q0 + (0 : Int64))))]))
    by_cases hc65_43 : (f4 q0 (q0 + (0 : Int64))) = (1 : Int32)
    · refine own_go (fun t k => XS.icmpNo X41.here hx rfl (hb hby at_65) rfl (teq hc65_43).2 k) ?_
      show own_Gl _ _ _ _ (T41.setTop (mkF m 68 #[.val (.long q0), .second, .val (.long q1), .second, .val (.int p0), .val (.long (0 : Int64)), .second, .val (.long (q0 + (0 : Int64))), .second, .val (.ref b34), .val (.ref b36), .val (.int (1 : Int32))] []))
      refine own_go (fun t k => XS.aload X41.here hx rfl (hb hby at_68) rfl rfl k) ?_
      show own_Gl _ _ _ _ (T41.setTop (mkF m 70 #[.val (.long q0), .second, .val (.long q1), .second, .val (.int p0), .val (.long (0 : Int64)), .second, .val (.long (q0 + (0 : Int64))), .second, .val (.ref b34), .val (.ref b36), .val (.int (1 : Int32))] [(.ref b36)]))
      have f_45 : Exa Z T38.heap b36 "com/example/omphale/omphale/KeyRange" := (A36.keep K38q)
      obtain ⟨cq44, kq44, q44a, q44b, q44c⟩ := isOf hZ hq41 f_45
      obtain ⟨_, _, ⟨T44, L44, kk44, nn44⟩, -, X44, ⟨Lc44, hQ44, l44, y44, z44⟩, st44⟩ := X41.virtualBack hx (y := (⟨"com/example/omphale/omphale/KeyRange", "isWhole", "()Z"⟩ : MethodName)) (z := (⟨"com/example/omphale/omphale/KeyRange", "isWhole", "()Z"⟩ : MethodName)) hown (mvT hZ (hw _ (List.mem_of_getElem? (i := 18) rfl))) (mvT hZ (hw _ (List.mem_of_getElem? (i := 19) rfl))) (notFace_of_selects (args := #[]) (mvT hZ (hw _ (List.mem_of_getElem? (i := 21) rfl)))) (mvT hZ (hw _ (List.mem_of_getElem? (i := 21) rfl))) (mvT hZ (hw _ (List.mem_of_getElem? (i := 20) rfl))) (by decide) (backOf (W := 0) (rm4 l Z a0 hw [] b36 (q0 + (0 : Int64)) q0 T38.heap n0 Z38 po38_0 po38_1) hZ (hw _ (List.mem_of_getElem? (i := 22) rfl)) (hw _ (List.mem_of_getElem? (i := 2) rfl)) (by decide) (by decide)) q44a q44c (g := (mkF m 70 #[.val (.long q0), .second, .val (.long q1), .second, .val (.int p0), .val (.long (0 : Int64)), .second, .val (.long (q0 + (0 : Int64))), .second, .val (.ref b34), .val (.ref b36), .val (.int (1 : Int32))] [(.ref b36)])) rfl (by rw [hml]; rfl) (Steps.refl _) (argsL := []) (rest := []) (lenOf pd_2 rfl) rfl (by show 2 * 0 + _ ≤ _; exact Nat.le_of_eq rfl) (hb hby at_70) (fun _ _ => ⟨rfl, hq41, (by decide : 2 + 0 ≤ _), (by decide : 4 + 0 ≤ _)⟩)
      dsimp only [Pt.U, Pt.locs, Pt.cells, Pt.slots] at X44 l44 y44 z44 st44 hQ44
      subst l44 y44 z44
      obtain ⟨N44q, rfl, hq44⟩ := hQ44
      have N44 := Fr.app N41 N44q
      refine own_go (fun t k => st44.trans k) ?_
      show own_Gl _ _ _ _ (T44.setTop (mkF m 73 #[.val (.long q0), .second, .val (.long q1), .second, .val (.int p0), .val (.long (0 : Int64)), .second, .val (.long (q0 + (0 : Int64))), .second, .val (.ref b34), .val (.ref b36), .val (.int (1 : Int32))] [(.int (f4 (q0 + (0 : Int64)) q0))]))
      refine own_go (fun t k => XS.iload X44.here hx rfl (hb hby at_73) rfl k) ?_
      show own_Gl _ _ _ _ (T44.setTop (mkF m 75 #[.val (.long q0), .second, .val (.long q1), .second, .val (.int p0), .val (.long (0 : Int64)), .second, .val (.long (q0 + (0 : Int64))), .second, .val (.ref b34), .val (.ref b36), .val (.int (1 : Int32))] [(.int (1 : Int32)), (.int (f4 (q0 + (0 : Int64)) q0))]))
      by_cases hc75_46 : (f4 (q0 + (0 : Int64)) q0) = (1 : Int32)
      · refine own_go (fun t k => XS.icmpNo X44.here hx rfl (hb hby at_75) rfl (teq hc75_46).2 k) ?_
        show own_Gl _ _ _ _ (T44.setTop (mkF m 78 #[.val (.long q0), .second, .val (.long q1), .second, .val (.int p0), .val (.long (0 : Int64)), .second, .val (.long (q0 + (0 : Int64))), .second, .val (.ref b34), .val (.ref b36), .val (.int (1 : Int32))] []))
        refine own_go (fun t k => XS.iconst X44.here hx rfl (hb hby at_78) k) ?_
        show own_Gl _ _ _ _ (T44.setTop (mkF m 79 #[.val (.long q0), .second, .val (.long q1), .second, .val (.int p0), .val (.long (0 : Int64)), .second, .val (.long (q0 + (0 : Int64))), .second, .val (.ref b34), .val (.ref b36), .val (.int (1 : Int32))] [(.int (1 : Int32))]))
        refine own_go (fun t k => XS.goto X44.here hx rfl (pc0 := 79) (pc' := 83) rfl (hb hby at_79) (by decide) (by decide) k) ?_
        show own_Gl _ _ _ _ (T44.setTop (mkF m 83 #[.val (.long q0), .second, .val (.long q1), .second, .val (.int p0), .val (.long (0 : Int64)), .second, .val (.long (q0 + (0 : Int64))), .second, .val (.ref b34), .val (.ref b36), .val (.int (1 : Int32))] [(.int (1 : Int32))]))
        obtain ⟨fs, hr, hrun, hended, hW, hsame⟩ := X44.leave (v := some (.int (1 : Int32))) (fun h => by rw [Bd.returns] at h; cases h)
        refine own_fin (retN X44 hx (t := .boolean) Bd.returns (by simp) (hb hby at_83) hr) hrun hended ⟨_, _, rfl, ?_, ⟨_, rfl⟩, hW, hsame.mono (by decide) (by decide)⟩
        show Q0 Z q0 q1 p0 h0 n0 _ T44.heap _
        rw [hq44]
        exact ⟨N44, by rw [f0, if_neg hc4_11, if_pos hc65_43, if_pos hc75_46]⟩
      · refine own_go (fun t k => XS.icmpYes X44.here hx rfl (pc0 := 75) (pc' := 82) rfl (hb hby at_75) rfl (feq hc75_46).2 (by decide) (by decide) k) ?_
        show own_Gl _ _ _ _ (T44.setTop (mkF m 82 #[.val (.long q0), .second, .val (.long q1), .second, .val (.int p0), .val (.long (0 : Int64)), .second, .val (.long (q0 + (0 : Int64))), .second, .val (.ref b34), .val (.ref b36), .val (.int (1 : Int32))] []))
        refine own_go (fun t k => XS.iconst X44.here hx rfl (hb hby at_82) k) ?_
        show own_Gl _ _ _ _ (T44.setTop (mkF m 83 #[.val (.long q0), .second, .val (.long q1), .second, .val (.int p0), .val (.long (0 : Int64)), .second, .val (.long (q0 + (0 : Int64))), .second, .val (.ref b34), .val (.ref b36), .val (.int (1 : Int32))] [(.int (0 : Int32))]))
        obtain ⟨fs, hr, hrun, hended, hW, hsame⟩ := X44.leave (v := some (.int (0 : Int32))) (fun h => by rw [Bd.returns] at h; cases h)
        refine own_fin (retN X44 hx (t := .boolean) Bd.returns (by simp) (hb hby at_83) hr) hrun hended ⟨_, _, rfl, ?_, ⟨_, rfl⟩, hW, hsame.mono (by decide) (by decide)⟩
        show Q0 Z q0 q1 p0 h0 n0 _ T44.heap _
        rw [hq44]
        exact ⟨N44, by rw [f0, if_neg hc4_11, if_pos hc65_43, if_neg hc75_46]⟩
    · refine own_go (fun t k => XS.icmpYes X41.here hx rfl (pc0 := 65) (pc' := 82) rfl (hb hby at_65) rfl (feq hc65_43).2 (by decide) (by decide) k) ?_
      show own_Gl _ _ _ _ (T41.setTop (mkF m 82 #[.val (.long q0), .second, .val (.long q1), .second, .val (.int p0), .val (.long (0 : Int64)), .second, .val (.long (q0 + (0 : Int64))), .second, .val (.ref b34), .val (.ref b36), .val (.int (1 : Int32))] []))
      refine own_go (fun t k => XS.iconst X41.here hx rfl (hb hby at_82) k) ?_
      show own_Gl _ _ _ _ (T41.setTop (mkF m 83 #[.val (.long q0), .second, .val (.long q1), .second, .val (.int p0), .val (.long (0 : Int64)), .second, .val (.long (q0 + (0 : Int64))), .second, .val (.ref b34), .val (.ref b36), .val (.int (1 : Int32))] [(.int (0 : Int32))]))
      obtain ⟨fs, hr, hrun, hended, hW, hsame⟩ := X41.leave (v := some (.int (0 : Int32))) (fun h => by rw [Bd.returns] at h; cases h)
      refine own_fin (retN X41 hx (t := .boolean) Bd.returns (by simp) (hb hby at_83) hr) hrun hended ⟨_, _, rfl, ?_, ⟨_, rfl⟩, hW, hsame.mono (by decide) (by decide)⟩
      show Q0 Z q0 q1 p0 h0 n0 _ T41.heap _
      rw [hq41]
      exact ⟨N41, by rw [f0, if_neg hc4_11, if_neg hc65_43]⟩
theorem own_add (a b : Int64) : a = a + b ↔ b = 0 := by
  constructor
  · intro h
    have e : a + b - a = 0 := by rw [← h]; exact Int64.sub_self a
    rw [Int64.add_comm, Int64.add_sub_cancel] at e
    exact e
  · rintro rfl; exact (Int64.add_zero a).symm
theorem own_add' (a b : Int64) : a + b = a ↔ b = 0 := by rw [← own_add a b]; exact eq_comm
theorem own_law (q0 q1 : Int64) (p0 : Int32) : f0 q0 q1 p0 = 1 := by
  have z : (1 : Int32) ≠ 0 := by decide
  by_cases h : q1 = 0
  · subst h
    simp [f0, f4, Int64.add_zero]
  · have e1 : ¬ q0 = q0 + q1 := fun q => h ((own_add _ _).mp q)
    have e2 : ¬ q0 + q1 = q0 := fun q => h ((own_add' _ _).mp q)
    simp [f0, f4, h, Int64.add_zero]
set_option maxRecDepth 65536 in
set_option maxHeartbeats 40000000 in
theorem comes_1 {Post : Tables → Env → Array Value → State → Outcome → State → Prop} (hpost : ∀ tb e args s v u, (limb_1_1.after args s (.returned v) u = true ∧ limb_1_2.after args s (.returned v) u = true ∧ True) → FrameEnd s (.returned v) u (Jvm.fieldLocs frame_1_writes args s ++ Jvm.arrayLocs frame_1_arrays args s ++ Jvm.staticLocs frame_1_statics s) 16 128 → Post tb e args s (.returned v) u) :
    ArmFor flags0 classFile x code maxLocals ret World_1 tables_1 room_1 Calls_1 rest_1 Pre_1 Post := by
  intro l hfl _ _ p e ha hc hk s m args below hf hA hF happ hP
  obtain ⟨hcalls, hrest, hpre⟩ := hP
  obtain ⟨-, -, -, hnamed, -, -, -, hat⟩ := (Spec.applies_iff hf).mp happ
  obtain ⟨hg, hn⟩ := and_e (Cond.before_iff.mp (show (Jvm.Cond.and given_1 narrow_1).before args s = true from hpre))
  obtain ⟨g1, g2⟩ := and_e hg
  obtain ⟨g3, g4⟩ := and_e g2
  obtain ⟨g5, g6⟩ := and_e g4
  obtain ⟨w0, w1, w2, rfl⟩ : ∃ w0 w1 w2 : Value, args = #[w0, w1, w2] := by
    have hs : args.size = 3 := by simpa [Cond.value, given_1] using g1
    obtain ⟨L⟩ := args
    match L, hs with
    | [w0, w1, w2], _ => exact ⟨w0, w1, w2, rfl⟩
  have hw := fun d (hd : d ∈ tables_1) => atoms_spec (ws := Jvm.Cond.code x code maxLocals ret :: tables_1) hat d (List.mem_cons_of_mem _ hd)
  have hfit : Fit s := fun {y c} hc i hi => by
    obtain ⟨ha, rfl⟩ := Array.getElem?_eq_some_iff.mp hc
    have q := List.all_eq_true.mp ((Array.all_eq_true_iff_forall_mem.mp hF) _ (Array.getElem_mem ha)) i (List.mem_range.mpr hi)
    simpa [Array.getElem?_eq_getElem hi] using q
  obtain ⟨i0, ei0⟩ := isL_v g3
  obtain rfl : w0 = (.long i0) := Option.some.inj ei0
  obtain ⟨i1, ei1⟩ := isL_v g5
  obtain rfl : w1 = (.long i1) := Option.some.inj ei1
  obtain ⟨i2, ei2⟩ := is_v g6
  obtain rfl : w2 = (.int i2) := Option.some.inj ei2
  obtain ⟨n, o, h1, h2, h3, _, L, rfl, ⟨N, hv⟩, hq⟩ := rm0 l s _ hw tables_1 i0 i1 i2 s.heap s.heap.size (Nat.le_refl _)  p e ha hc hk s m _ below hf ((Spec.applies_iff_loose hf).mp happ).1 ⟨rfl, State.Warmed39.refl s, rfl⟩ trivial
  rw [own_law] at hv
  subst hv
  refine ⟨n, _, h1, h2, h3, hpost _ _ _ _ _ _ ⟨Cond.after_iff.mpr rfl, Cond.after_iff.mpr (eq_i res_at (Term.int_eval (1)) rfl), trivial⟩ ⟨hq.1, hq.2.1, (hq.2.2.sift fun y hy => Or.inr (N y hy)).mono (by decide) (by decide)⟩⟩
theorem main_1_1 : Claimed_1_1 := comes_1 fun _ _ _ _ _ _ h hF => ⟨h.1, hF⟩
theorem main_1_2 : Claimed_1_2 := comes_1 fun _ _ _ _ _ _ h hF => ⟨h.2.1, hF⟩
end Jvm.Pilot.@@N@@
namespace Jvm.Pilot.@@N@@
open Jvm Jvm.ClassFile Sem Op Lib Jvm.Free Jvm.Stand Jvm.Pilot.@@N@@.Jvm.D
/-! MADE BY PROGRAM (witnessworld.py) out of the Statement's table words and the real class files: 10 classes; the members and pool entries that the words name. The judged class is class 1, her method 1. -/
namespace start1
open Jvm.ClassFile
def u (s : String) : CpInfo := .utf8 (stringToUtf16 s)
/-- a pool by its gaps: so many unusable entries, then the entry; so many at the end -/
def gap : Nat → List CpInfo → List CpInfo
  | 0, r => r
  | n + 1, r => .unusable :: gap n r
def poolList (es : List (Nat × CpInfo)) (last : Nat) : List CpInfo := es.foldr (fun e r => gap e.1 (e.2 :: r)) (gap last [])
def pool (es : List (Nat × CpInfo)) (last : Nat) : Array CpInfo := ⟨poolList es last⟩
def fileOf (pool : Array CpInfo) (this : Nat) (attrs : Array Attribute := #[]) (ms : Array MethodInfo := #[]) (fl : Nat := 33) (sup : Nat := 0) (ifs : Array Nat := #[]) (fds : Array FieldInfo := #[]) : ClassFile where
  minorVersion := 0
  majorVersion := 65
  constantPool := pool
  accessFlags := fl
  thisClass := this
  superClass := sup
  interfaces := ifs
  fields := fds
  methods := ms
  attributes := attrs
def plain (name : String) (sup : Option ClassId) : Class where
  name := name
  kind := .ordinary
  loader := none
  accessFlags := 33
  super := sup
  interfaces := #[]
  cf := none
  fields := #[]
  methods := #[]
  instanceTypes := #[]
  staticTypes := #[]
  resolved := #[]
  callSites := []
  init := .initialized
  statics := none
  mirror := none

def pool0 : Array CpInfo := pool [(5, u "<init>"), (0, u "()V"), (1, .class_ 10), (1, u "java/lang/Object")] 113

def k0c0 : Code := { maxStack := 0, maxLocals := 1, code := object_method_1_code, exceptionTable := #[], attributes := #[] }
def k0m0 : Method := { name := "<init>", desc := "()V", sig := { parameters := [], returnType := none }, accessFlags := 1, code := some k0c0 }
/-- java/lang/Object -/
def k0 : Class := { plain "java/lang/Object" none with
  accessFlags := 33
  interfaces := #[]
  cf := some (fileOf pool0 8 #[] #[{ accessFlags := 1, nameIndex := 5, descriptorIndex := 6, attributes := #[] }] 33 0 #[] #[])
  fields := #[]
  methods := #[k0m0]
  instanceTypes := #[]
  staticTypes := #[]
  resolved := Array.replicate 124 none
  statics := none }

def pool1 : Array CpInfo := pool [(2, .class_ 4), (1, u "java/lang/Object"), (0, u "<init>"), (0, u "()V"), (0, .class_ 8), (0, u "com/example/omphale/omphale/KeyRange"), (0, .methodref 7 10), (0, .nameAndType 5 11), (0, u "(JJ)V"), (0, .methodref 7 13), (0, .nameAndType 14 15), (0, u "isWhole"), (0, u "()Z"), (0, .class_ 17), (0, u "com/example/omphale/omphale/KeyRangeIsWholePinLaw"), (2, u "law"), (0, u "(JJI)Z")] 3

def k1m0 : Method := { name := "<init>", desc := "()V", sig := { parameters := [], returnType := none }, accessFlags := 1, code := none }
def k1c1 : Code := { maxStack := 6, maxLocals := 12, code := code, exceptionTable := #[], attributes := #[] }
def k1m1 : Method := { name := "law", desc := "(JJI)Z", sig := { parameters := [.long, .long, .int], returnType := some .boolean }, accessFlags := 9, code := some k1c1 }
/-- com/example/omphale/omphale/KeyRangeIsWholePinLaw -/
def k1 : Class := { plain "com/example/omphale/omphale/KeyRangeIsWholePinLaw" (some 0) with
  accessFlags := 49
  interfaces := #[]
  cf := some (fileOf pool1 16 #[] #[{ accessFlags := 1, nameIndex := 5, descriptorIndex := 6, attributes := #[] }, { accessFlags := 9, nameIndex := 20, descriptorIndex := 21, attributes := #[] }] 49 2 #[] #[])
  fields := #[]
  methods := #[k1m0, k1m1]
  instanceTypes := #[]
  staticTypes := #[]
  resolved := Array.replicate 25 none
  statics := none }

def pool2 : Array CpInfo := pool [(1, .methodref 2 3), (0, .class_ 4), (0, .nameAndType 5 6), (0, u "java/lang/Object"), (0, u "<init>"), (0, u "()V"), (0, .class_ 8), (0, u "java/lang/Record")] 13

def k2c0 : Code := { maxStack := 1, maxLocals := 1, code := jdk_30_method_1_code, exceptionTable := #[], attributes := #[] }
def k2m0 : Method := { name := "<init>", desc := "()V", sig := { parameters := [], returnType := none }, accessFlags := 4, code := some k2c0 }
/-- java/lang/Record -/
def k2 : Class := { plain "java/lang/Record" (some 0) with
  accessFlags := 1057
  interfaces := #[]
  cf := some (fileOf pool2 7 #[] #[{ accessFlags := 4, nameIndex := 5, descriptorIndex := 6, attributes := #[] }] 1057 2 #[] #[])
  fields := #[]
  methods := #[k2m0]
  instanceTypes := #[]
  staticTypes := #[]
  resolved := Array.replicate 22 none
  statics := none }

def pool3 : Array CpInfo := pool [(1, .methodref 2 3), (0, .class_ 4), (0, .nameAndType 5 6), (0, u "java/lang/Record"), (0, u "<init>"), (0, u "()V"), (0, .fieldref 8 9), (0, .class_ 10), (0, .nameAndType 11 12), (0, u "com/example/omphale/omphale/KeyRange"), (0, u "startExclusive"), (0, u "J"), (0, .fieldref 8 14), (0, .nameAndType 15 12), (0, u "endInclusive"), (2, u "isWhole"), (0, u "()Z"), (22, u "(JJ)V")] 30

def k3c0 : Code := { maxStack := 3, maxLocals := 5, code := prog_4_method_1_code, exceptionTable := #[], attributes := #[] }
def k3m0 : Method := { name := "<init>", desc := "(JJ)V", sig := { parameters := [.long, .long], returnType := none }, accessFlags := 1, code := some k3c0 }
def k3c1 : Code := { maxStack := 4, maxLocals := 1, code := prog_4_method_2_code, exceptionTable := #[], attributes := #[] }
def k3m1 : Method := { name := "isWhole", desc := "()Z", sig := { parameters := [], returnType := some .boolean }, accessFlags := 1, code := some k3c1 }
/-- com/example/omphale/omphale/KeyRange -/
def k3 : Class := { plain "com/example/omphale/omphale/KeyRange" (some 2) with
  accessFlags := 49
  interfaces := #[]
  cf := some (fileOf pool3 8 #[] #[{ accessFlags := 1, nameIndex := 5, descriptorIndex := 42, attributes := #[] }, { accessFlags := 1, nameIndex := 18, descriptorIndex := 19, attributes := #[] }] 49 2 #[] #[{ accessFlags := 18, nameIndex := 11, descriptorIndex := 12, attributes := #[] }, { accessFlags := 18, nameIndex := 15, descriptorIndex := 12, attributes := #[] }])
  fields := #[{ name := "startExclusive", type := .long, accessFlags := 18, slot := 0, constantValue := 0 }, { name := "endInclusive", type := .long, accessFlags := 18, slot := 1, constantValue := 0 }]
  methods := #[k3m0, k3m1]
  instanceTypes := #[.long, .long]
  staticTypes := #[]
  resolved := Array.replicate 73 none
  statics := none }

def pool4 : Array CpInfo := pool [(1, u "java/lang/Cloneable"), (0, .class_ 1), (0, u "java/lang/Object"), (0, .class_ 3)] 3

/-- java/lang/Cloneable -/
def k4 : Class := { plain "java/lang/Cloneable" (some 0) with
  accessFlags := 1537
  interfaces := #[]
  cf := some (fileOf pool4 2 #[] #[] 1537 4 #[] #[])
  fields := #[]
  methods := #[]
  instanceTypes := #[]
  staticTypes := #[]
  resolved := Array.replicate 8 none
  statics := none }

def pool5 : Array CpInfo := pool [(1, u "java/io/Serializable"), (0, .class_ 1), (0, u "java/lang/Object"), (0, .class_ 3)] 3

/-- java/io/Serializable -/
def k5 : Class := { plain "java/io/Serializable" (some 0) with
  accessFlags := 1537
  interfaces := #[]
  cf := some (fileOf pool5 2 #[] #[] 1537 4 #[] #[])
  fields := #[]
  methods := #[]
  instanceTypes := #[]
  staticTypes := #[]
  resolved := Array.replicate 8 none
  statics := none }

/-- the primitive byte -/
def k6 : Class := { plain "byte" none with kind := .primitive 'B', accessFlags := 0x411 }
/-- [B -/
def k7 : Class := { plain "[B" (some 0) with kind := .array 6 .byte, interfaces := #[4, 5], accessFlags := 1041 }

/-- the primitive int -/
def k8 : Class := { plain "int" none with kind := .primitive 'I', accessFlags := 0x411 }
/-- [I -/
def k9 : Class := { plain "[I" (some 0) with kind := .array 8 .int, interfaces := #[4, 5], accessFlags := 1041 }

def heap : Heap := #[]
def classes : Array Class := #[k0, k1, k2, k3, k4, k5, k6, k7, k8, k9]
def interned : List (Array UInt16 × Addr) := []
def slotsUsed : Nat := 0
def theMethod : MethodId := ⟨1, 1⟩
def args0 : Array Value := #[.long 5, .long 7, .int 0]
def aboutOver (below : List Frame) : State where
  vm := { classes := classes, interned := interned.toArray }
  heap := heap
  slotsUsed := slotsUsed
  threads := #[{ frames := .invoking theMethod args0 :: below }]
def below0 : List Frame := [.native { method := ⟨0, 0⟩, args := #[] }]
def about1 : State := aboutOver below0
def p0 : Program := .bare "" "" ""
def e0 : Env := launch0.env 0 0 0
theorem w_frames : about1.frames = Frame.invoking theMethod args0 :: below0 := rfl
set_option maxRecDepth 65536 in
theorem w_args : argsFit about1.vm theMethod args0 = true := by decide +kernel
set_option maxRecDepth 65536 in
theorem w_heap : heapFits about1 = true := by decide +kernel
set_option maxRecDepth 65536 in
theorem w_runnable : about1.curStatus? = some .runnable := by decide +kernel
set_option maxRecDepth 65536 in
theorem w_alone : about1.alone = true := by decide +kernel
set_option maxRecDepth 65536 in
theorem w_named : about1.methodNamed? x = some theMethod := by decide +kernel
set_option maxRecDepth 65536 in
theorem w_hears : about1.hears theMethod below0 = true := by decide +kernel
set_option maxRecDepth 65536 in
theorem w_ripe : about1.ripe theMethod args0 below0 = true := by decide +kernel
theorem w_running : about1.status = .running := rfl
set_option maxRecDepth 65536 in
theorem w_room : about1.hasRoom e0.platform room_1 = true :=
  launch0.hasRoom_least _ room_1 (by decide +kernel) (by decide +kernel) (by decide +kernel) (by decide +kernel) (by decide +kernel) (by decide +kernel)
theorem allAtoms_all (ts : List Jvm.Cond) (a : Array Jvm.Value) (st : Jvm.State) : (allAtoms ts).before a st = ts.all (fun c => c.before a st) := by
  induction ts with
  | nil => rfl
  | cons c t ih =>
    show (Jvm.Cond.and c (allAtoms t)).before a st = _
    rw [Jvm.Cond.before_and, ih, List.all_cons]
def words1 : List Jvm.Cond := Jvm.Cond.code x code maxLocals ret :: tables_1
/-- a 'code' word, met by the world's own term for the bytes: nothing is compared byte by byte -/
theorem code_word {y : MethodName} {bytes : ByteArray} {mx : Nat} {rt : Option FieldType} {a : Array Value} {s : State} {m : MethodId} {meth : Method} {c : Code} (h1 : s.methodNamed? y = some m) (h2 : s.vm.method? m = some meth) (h3 : meth.code = some c) (h4 : c.code = bytes)
    (h5 : (c.maxLocals == mx && c.exceptionTable.isEmpty && decide (c.maxStack ≤ mostOperands) && decide (meth.sig.returnType = rt) && !meth.locks && decide (parseMethodDescriptor y.desc = some meth.sig)) = true) : (Jvm.Cond.code y bytes mx rt).before a s = true := by
  simp only [Bool.and_eq_true, beq_iff_eq, Bool.not_eq_true', decide_eq_true_eq] at h5
  obtain ⟨⟨⟨⟨⟨g1, g2⟩, g3⟩, g4⟩, g5⟩, g6⟩ := h5
  simp [Cond.before, Cond.holds, Cond.value, h1, h2, h3, h4, g1, g2, g3, g4, g5, g6]
def isCode : Jvm.Cond → Bool
  | .code _ _ _ _ => true
  | _ => false
theorem all_split {L : List Jvm.Cond} {P : Jvm.Cond → Bool} (h1 : L.all (fun c => isCode c || P c) = true) (h2 : ∀ c ∈ L.filter isCode, P c = true) : L.all P = true := by
  refine List.all_eq_true.mpr fun c hc => ?_
  have h := List.all_eq_true.mp h1 c hc
  rcases Bool.eq_false_or_eq_true (isCode c) with hi | hi
  · exact h2 c (List.mem_filter.mpr ⟨hc, hi⟩)
  · simpa [hi] using h
set_option maxRecDepth 65536 in
theorem w_c0 : (Jvm.Cond.code x code maxLocals ret).before args0 about1 = true := code_word (m := ⟨1, 1⟩) (meth := k1m1) (c := k1c1) (by decide +kernel) rfl rfl rfl (by decide +kernel)
set_option maxRecDepth 65536 in
theorem w_c1 : (Jvm.Cond.code ({ cls := "com/example/omphale/omphale/KeyRange", name := "<init>", desc := "(JJ)V" } : Jvm.MethodName) prog_4_method_1_code (5 : Nat) (Option.none : Option Jvm.ClassFile.FieldType)).before args0 about1 = true := code_word (m := ⟨3, 0⟩) (meth := k3m0) (c := k3c0) (by decide +kernel) rfl rfl rfl (by decide +kernel)
set_option maxRecDepth 65536 in
theorem w_c2 : (Jvm.Cond.code ({ cls := "java/lang/Record", name := "<init>", desc := "()V" } : Jvm.MethodName) jdk_30_method_1_code (1 : Nat) (Option.none : Option Jvm.ClassFile.FieldType)).before args0 about1 = true := code_word (m := ⟨2, 0⟩) (meth := k2m0) (c := k2c0) (by decide +kernel) rfl rfl rfl (by decide +kernel)
set_option maxRecDepth 65536 in
theorem w_c3 : (Jvm.Cond.code ({ cls := "java/lang/Object", name := "<init>", desc := "()V" } : Jvm.MethodName) object_method_1_code (1 : Nat) (Option.none : Option Jvm.ClassFile.FieldType)).before args0 about1 = true := code_word (m := ⟨0, 0⟩) (meth := k0m0) (c := k0c0) (by decide +kernel) rfl rfl rfl (by decide +kernel)
set_option maxRecDepth 65536 in
theorem w_c4 : (Jvm.Cond.code ({ cls := "com/example/omphale/omphale/KeyRange", name := "isWhole", desc := "()Z" } : Jvm.MethodName) prog_4_method_2_code (1 : Nat) (Option.some Jvm.ClassFile.FieldType.boolean)).before args0 about1 = true := code_word (m := ⟨3, 1⟩) (meth := k3m1) (c := k3c1) (by decide +kernel) rfl rfl rfl (by decide +kernel)
def codes1 : List Jvm.Cond := [Jvm.Cond.code x code maxLocals ret, Jvm.Cond.code ({ cls := "com/example/omphale/omphale/KeyRange", name := "<init>", desc := "(JJ)V" } : Jvm.MethodName) prog_4_method_1_code (5 : Nat) (Option.none : Option Jvm.ClassFile.FieldType), Jvm.Cond.code ({ cls := "java/lang/Record", name := "<init>", desc := "()V" } : Jvm.MethodName) jdk_30_method_1_code (1 : Nat) (Option.none : Option Jvm.ClassFile.FieldType), Jvm.Cond.code ({ cls := "java/lang/Object", name := "<init>", desc := "()V" } : Jvm.MethodName) object_method_1_code (1 : Nat) (Option.none : Option Jvm.ClassFile.FieldType), Jvm.Cond.code ({ cls := "com/example/omphale/omphale/KeyRange", name := "isWhole", desc := "()Z" } : Jvm.MethodName) prog_4_method_2_code (1 : Nat) (Option.some Jvm.ClassFile.FieldType.boolean)]
set_option maxRecDepth 65536 in
theorem codes_eq : words1.filter isCode = codes1 := rfl
theorem w_codes : ∀ c ∈ words1.filter isCode, c.before args0 about1 = true := by
  rw [codes_eq]
  intro c hc
  simp only [codes1, List.mem_cons, List.not_mem_nil, or_false] at hc
  rcases hc with rfl | rfl | rfl | rfl | rfl
  · exact w_c0
  · exact w_c1
  · exact w_c2
  · exact w_c3
  · exact w_c4
set_option maxRecDepth 65536 in
theorem w_t1 : words1.all (fun c => isCode c || c.before args0 about1) = true := by decide +kernel
theorem w_tables : (allAtoms (Jvm.Cond.code x code maxLocals ret :: tables_1)).before args0 about1 = true := by
  rw [allAtoms_all]
  show words1.all (fun c => c.before args0 about1) = true
  refine all_split ?_ w_codes
  rw [w_t1]
set_option maxRecDepth 65536 in
theorem w_case : (Jvm.Cond.and given_1 narrow_1).before args0 about1 = true := by decide +kernel
theorem w_applies : (headSpec (Jvm.Cond.code x code maxLocals ret :: tables_1) room_1).applies x e0.platform about1 = true :=
  (Spec.applies_iff w_frames).mpr ⟨w_running, w_runnable, w_alone, w_named, w_hears, w_ripe, w_room, w_tables⟩
theorem atStart : AtStart classFile x code maxLocals ret World_1 tables_1 room_1 Calls_1 rest_1 Pre_1 launch0 p0 e0 about1 theMethod args0 below0 :=
  ⟨lists_1, trivial, launch0.admits_env _ _ _, launch0.least_env, fairChoices_fair.cas, fairChoices_fair.clock, w_frames, w_args, w_heap, w_applies, trivial, trivial, w_case⟩
end start1
theorem witness_1 : WitnessClaimed_1 := ⟨start1.p0, start1.e0, start1.about1, start1.theMethod, start1.args0, start1.below0, start1.atStart⟩
end Jvm.Pilot.@@N@@
