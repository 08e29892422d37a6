import JvmDerived
import JvmDerived.Pilot.@@N@@Statement
import JvmDerived.Pilot.@@N@@Code
set_option linter.unusedVariables false
set_option linter.unusedSimpArgs false
@@BLOCK:NumsL.lean.txt@@
namespace Jvm.Pilot.@@N@@
open Jvm Jvm.ClassFile Sem Op Lib Jvm.Free Jvm.Stand Jvm.LawKit Jvm.RoadKit Bundle Jvm.Pilot.@@N@@.Jvm.D
/-! the walk in continuation form: what is left to be shown of a state on the road -/
def own_Gl (p : Program) (e : Env) (below : List Frame) (P : Outcome → State → Prop) (S : State) : Prop := ∃ s₂ o, Steps p.tables e below S s₂ ∧ s₂.status = .running ∧ Ended s₂ below o ∧ P o s₂
theorem own_go {p : Program} {e : Env} {below : List Frame} {P : Outcome → State → Prop} {S S' : State} (k : ∀ t, Steps p.tables e below S' t → Steps p.tables e below S t) (h : own_Gl p e below P S') : own_Gl p e below P S := by
  obtain ⟨u, o, h1, h2⟩ := h
  exact ⟨u, o, k u h1, h2⟩
theorem own_ext {h0 h : Heap} (K : Keep h0 h []) : Ext h0 h := ⟨K.1, fun a c q => K.2.1 a c q nin0⟩
theorem own_jn {p : Program} {e : Env} {below : List Frame} {P : Outcome → State → Prop} {S S' : State} (h : own_Gl p e below P S) (k : own_Gl p e below P S → own_Gl p e below P S') : own_Gl p e below P S' := k h
theorem own_ind {p : Program} {e : Env} {below : List Frame} {P : Outcome → State → Prop} (I : Nat → State → Prop) (step : ∀ n S, (∀ n', n' < n → ∀ S', I n' S' → own_Gl p e below P S') → I n S → own_Gl p e below P S) {n : Nat} {S : State} (h : I n S) : own_Gl p e below P S := by
  induction n using Nat.strongRecOn generalizing S with
  | ind n ih => exact step n S (fun n' hn S' hI => ih n' hn hI) h
theorem own_fin {p : Program} {e : Env} {below : List Frame} {P : Outcome → State → Prop} {S u : State} {o : Outcome} (h1 : Steps p.tables e below S u) (h2 : u.status = .running) (h3 : Ended u below o) (h4 : P o u) : own_Gl p e below P S := ⟨u, o, h1, h2, h3, h4⟩
theorem d1_0 : decode prog_55_method_12_code 0 = .ok (.iconst 0, 1) := by decide +kernel
theorem d1_1 : decode prog_55_method_12_code 1 = .ok (.istore_n 1, 1) := by decide +kernel
theorem d1_2 : decode prog_55_method_12_code 2 = .ok (.iconst 1, 1) := by decide +kernel
theorem d1_3 : decode prog_55_method_12_code 3 = .ok (.istore_n 2, 1) := by decide +kernel
theorem d1_4 : decode prog_55_method_12_code 4 = .ok (.iload_n 2, 1) := by decide +kernel
theorem d1_5 : decode prog_55_method_12_code 5 = .ok (.aload_n 0, 1) := by decide +kernel
theorem d1_6 : decode prog_55_method_12_code 6 = .ok (.arraylength, 1) := by decide +kernel
theorem d1_7 : decode prog_55_method_12_code 7 = .ok (.if_icmp .ge 24, 3) := by decide +kernel
theorem d1_10 : decode prog_55_method_12_code 10 = .ok (.aload_n 0, 1) := by decide +kernel
theorem d1_11 : decode prog_55_method_12_code 11 = .ok (.iload_n 2, 1) := by decide +kernel
theorem d1_12 : decode prog_55_method_12_code 12 = .ok (.iaload, 1) := by decide +kernel
theorem d1_13 : decode prog_55_method_12_code 13 = .ok (.aload_n 0, 1) := by decide +kernel
theorem d1_14 : decode prog_55_method_12_code 14 = .ok (.iload_n 1, 1) := by decide +kernel
theorem d1_15 : decode prog_55_method_12_code 15 = .ok (.iaload, 1) := by decide +kernel
theorem d1_16 : decode prog_55_method_12_code 16 = .ok (.if_icmp .ge 7, 3) := by decide +kernel
theorem d1_19 : decode prog_55_method_12_code 19 = .ok (.iload_n 2, 1) := by decide +kernel
theorem d1_20 : decode prog_55_method_12_code 20 = .ok (.goto 4, 3) := by decide +kernel
theorem d1_23 : decode prog_55_method_12_code 23 = .ok (.iload_n 1, 1) := by decide +kernel
theorem d1_24 : decode prog_55_method_12_code 24 = .ok (.istore_n 1, 1) := by decide +kernel
theorem d1_25 : decode prog_55_method_12_code 25 = .ok (.iinc 2 1, 3) := by decide +kernel
theorem d1_28 : decode prog_55_method_12_code 28 = .ok (.goto (-24), 3) := by decide +kernel
theorem d1_31 : decode prog_55_method_12_code 31 = .ok (.iload_n 1, 1) := by decide +kernel
theorem d1_32 : decode prog_55_method_12_code 32 = .ok (.ireturn, 1) := by decide +kernel
theorem pn_com_example_sixfold_sixfold_rows_Rows : plainName "com/example/sixfold/sixfold/rows/Rows" = true := by first | (simp [plainName, overriddenIn]; done) | decide +kernel
theorem ef_1_1 (m : MethodId) (r0 : Addr) : entryFrame m #[(.ref r0)] 3 = mkF m 0 #[.val (.ref r0), .unset, .unset] [] := by first | (simp [entryFrame, mkF, argsToLocals, Value.category]; done) | rfl
def f1_1 (v0 : Int32) : Int32 := (0 : Int32)
def Q1_1 (Z : State) (r0 : Addr) (kA : ClassId) (v0 : Int32) (h0 : Heap) (n0 : Nat) (v : Option Value) (h : Heap) (L : List Loc) : Prop := Fr n0 L ∧ v = some (.int (f1_1 v0)) ∧ h = h0
set_option maxRecDepth 65536 in
set_option maxHeartbeats 40000000 in
theorem rm1_1 (l : Launch) (Z : State) (a0 : Array Value) (hw : ∀ d ∈ tables_1, d.before a0 Z = true) (ws : List Jvm.Cond) (r0 : Addr) (kA : ClassId) (v0 : Int32) (h0 : Heap) (n0 : Nat) (Z0 : n0 ≤ h0.size) (P0 : Arv Z h0 r0 kA .int (1 : Int32) [(.int v0)] (.int (0 : Int32))) :
    MetFree l (⟨"com/example/sixfold/sixfold/rows/Rows", "fewest", "([I)I"⟩ : MethodName) (head1 (Jvm.Cond.code (⟨"com/example/sixfold/sixfold/rows/Rows", "fewest", "([I)I"⟩ : MethodName) prog_55_method_12_code 3 (some .int) :: ws) ({ frames := 0, cells := 0, slots := 0, locals := 0 } : Room)) (fun a U => a = #[(.ref r0)] ∧ Z.Warmed39 U.vm ∧ U.heap = h0) (fun _ _ _ _ _ => True) (fun _ U o U' => ∃ v L, o = .returned v ∧ Q1_1 Z r0 kA v0 h0 n0 v U'.heap L ∧ FrameEnd U o U' L ({ frames := 0, cells := 0, slots := 0, locals := 0 } : Room).cells ({ frames := 0, cells := 0, slots := 0, locals := 0 } : Room).slots) := by
  refine MetFree.of_bodySF (plainFor_of_name pn_com_example_sixfold_sixfold_rows_Rows) hisR ?_
  intro p e s m args below meth c s₁ Bd hml0 hP hK
  obtain ⟨rfl, hZ, hh⟩ := hP
  have hx := Bd.exec
  have hby := Bd.bytes
  have hml : c.maxLocals = 3 := hml0
  have hown : s.vm.findClass "com/example/sixfold/sixfold/rows/Rows" = some m.cls := findClass_of_methodNamed Bd.named
  have hnm := (name_of_methodNamed Bd.named Bd.method).1
  have X0 : Stand p l e ({ frames := 0, cells := 0, slots := 0, locals := 0 } : Room) s m #[(.ref r0)] below meth c s₁ [] 0 0 := Stand.of_body Bd
  have e0 : s₁.heap = h0 := by rw [← hh, Bd.state]; rfl
  have N0 := Fr.nil n0
  show own_Gl p e below (fun o U' => ∃ v L, o = .returned v ∧ Q1_1 Z r0 kA v0 h0 n0 v U'.heap L ∧ FrameEnd s o U' L ({ frames := 0, cells := 0, slots := 0, locals := 0 } : Room).cells ({ frames := 0, cells := 0, slots := 0, locals := 0 } : Room).slots) (s₁.setTop (entryFrame m #[(.ref r0)] 3))
  refine own_go (fun t k => castTop (ef_1_1 m r0) k) ?_
  show own_Gl _ _ _ _ (s₁.setTop (mkF m 0 #[.val (.ref r0), .unset, .unset] []))
  refine own_go (fun t k => XS.iconst X0.here hx rfl (hb hby d1_0) k) ?_
  show own_Gl _ _ _ _ (s₁.setTop (mkF m 1 #[.val (.ref r0), .unset, .unset] [(.int (0 : Int32))]))
  refine own_go (fun t k => XS.istoreN X0.here hx rfl (hb hby d1_1) rfl (l' := #[.val (.ref r0), .val (.int (0 : Int32)), .unset]) rfl k) ?_
  show own_Gl _ _ _ _ (s₁.setTop (mkF m 2 #[.val (.ref r0), .val (.int (0 : Int32)), .unset] []))
  refine own_go (fun t k => XS.iconst X0.here hx rfl (hb hby d1_2) k) ?_
  show own_Gl _ _ _ _ (s₁.setTop (mkF m 3 #[.val (.ref r0), .val (.int (0 : Int32)), .unset] [(.int (1 : Int32))]))
  refine own_go (fun t k => XS.istoreN X0.here hx rfl (hb hby d1_3) rfl (l' := #[.val (.ref r0), .val (.int (0 : Int32)), .val (.int (1 : Int32))]) rfl k) ?_
  show own_Gl _ _ _ _ (s₁.setTop (mkF m 4 #[.val (.ref r0), .val (.int (0 : Int32)), .val (.int (1 : Int32))] []))
  refine own_go (fun t k => XS.iloadN X0.here hx rfl (hb hby d1_4) rfl k) ?_
  show own_Gl _ _ _ _ (s₁.setTop (mkF m 5 #[.val (.ref r0), .val (.int (0 : Int32)), .val (.int (1 : Int32))] [(.int (1 : Int32))]))
  refine own_go (fun t k => XS.aloadN X0.here hx rfl (hb hby d1_5) rfl rfl k) ?_
  show own_Gl _ _ _ _ (s₁.setTop (mkF m 6 #[.val (.ref r0), .val (.int (0 : Int32)), .val (.int (1 : Int32))] [(.ref r0), (.int (1 : Int32))]))
  obtain ⟨cl1, Ar1, -, S1, M1, -, -⟩ := id P0
  refine own_go (fun t k => X0.arraylength hx (by rw [e0]; exact Ar1.1) (State.isArrayOf_alike hZ.alike Ar1.2.1) (g := (mkF m 6 #[.val (.ref r0), .val (.int (0 : Int32)), .val (.int (1 : Int32))] [(.ref r0), (.int (1 : Int32))])) rfl rfl (hb hby d1_6) _ k) ?_
  rw [len_of S1 M1]
  show own_Gl _ _ _ _ (s₁.setTop (mkF m 7 #[.val (.ref r0), .val (.int (0 : Int32)), .val (.int (1 : Int32))] [(.int (1 : Int32)), (.int (1 : Int32))]))
  refine own_go (fun t k => XS.icmpYes X0.here hx rfl (pc0 := 7) (pc' := 31) rfl (hb hby d1_7) rfl (flt (by decide : ¬ ((1 : Int32) < (1 : Int32)))).2.1 (by decide) (by decide) k) ?_
  show own_Gl _ _ _ _ (s₁.setTop (mkF m 31 #[.val (.ref r0), .val (.int (0 : Int32)), .val (.int (1 : Int32))] []))
  refine own_go (fun t k => XS.iloadN X0.here hx rfl (hb hby d1_31) rfl k) ?_
  show own_Gl _ _ _ _ (s₁.setTop (mkF m 32 #[.val (.ref r0), .val (.int (0 : Int32)), .val (.int (1 : Int32))] [(.int (0 : Int32))]))
  obtain ⟨fs, hr, hrun, hended, hW, hsame⟩ := X0.leave (v := some (.int (0 : Int32))) (fun h => by rw [Bd.returns] at h; cases h)
  refine own_fin (Jvm.RoadKit.retOut X0 hx Bd.returns rfl (Or.inl ⟨rfl, Or.inl rfl, _, rfl⟩) (hb hby d1_32) hr) hrun hended ⟨_, _, rfl, ?_, ⟨_, rfl⟩, hW, hsame.mono (by decide) (by decide)⟩
  show Q1_1 Z r0 kA v0 h0 n0 _ s₁.heap _
  rw [e0]
  exact ⟨N0, by rw [f1_1], rfl⟩
theorem own_rg1 (v0 : Int32) : f1_1 v0 = 0 := by
  unfold f1_1
  repeat' split
  all_goals decide
theorem ef_1_2 (m : MethodId) (r0 : Addr) : entryFrame m #[(.ref r0)] 3 = mkF m 0 #[.val (.ref r0), .unset, .unset] [] := by first | (simp [entryFrame, mkF, argsToLocals, Value.category]; done) | rfl
def f1_2 (v0 : Int32) (v1 : Int32) : Int32 := (if v1 < v0 then (1 : Int32) else (0 : Int32))
def Q1_2 (Z : State) (r0 : Addr) (kA : ClassId) (v0 : Int32) (v1 : Int32) (h0 : Heap) (n0 : Nat) (v : Option Value) (h : Heap) (L : List Loc) : Prop := Fr n0 L ∧ v = some (.int (f1_2 v0 v1)) ∧ h = h0
set_option maxRecDepth 65536 in
set_option maxHeartbeats 40000000 in
theorem rm1_2 (l : Launch) (Z : State) (a0 : Array Value) (hw : ∀ d ∈ tables_1, d.before a0 Z = true) (ws : List Jvm.Cond) (r0 : Addr) (kA : ClassId) (v0 : Int32) (v1 : Int32) (h0 : Heap) (n0 : Nat) (Z0 : n0 ≤ h0.size) (P0 : Arv Z h0 r0 kA .int (2 : Int32) [(.int v0), (.int v1)] (.int (0 : Int32))) :
    MetFree l (⟨"com/example/sixfold/sixfold/rows/Rows", "fewest", "([I)I"⟩ : MethodName) (head1 (Jvm.Cond.code (⟨"com/example/sixfold/sixfold/rows/Rows", "fewest", "([I)I"⟩ : MethodName) prog_55_method_12_code 3 (some .int) :: ws) ({ frames := 0, cells := 0, slots := 0, locals := 0 } : Room)) (fun a U => a = #[(.ref r0)] ∧ Z.Warmed39 U.vm ∧ U.heap = h0) (fun _ _ _ _ _ => True) (fun _ U o U' => ∃ v L, o = .returned v ∧ Q1_2 Z r0 kA v0 v1 h0 n0 v U'.heap L ∧ FrameEnd U o U' L ({ frames := 0, cells := 0, slots := 0, locals := 0 } : Room).cells ({ frames := 0, cells := 0, slots := 0, locals := 0 } : Room).slots) := by
  refine MetFree.of_bodySF (plainFor_of_name pn_com_example_sixfold_sixfold_rows_Rows) hisR ?_
  intro p e s m args below meth c s₁ Bd hml0 hP hK
  obtain ⟨rfl, hZ, hh⟩ := hP
  have hx := Bd.exec
  have hby := Bd.bytes
  have hml : c.maxLocals = 3 := hml0
  have hown : s.vm.findClass "com/example/sixfold/sixfold/rows/Rows" = some m.cls := findClass_of_methodNamed Bd.named
  have hnm := (name_of_methodNamed Bd.named Bd.method).1
  have X0 : Stand p l e ({ frames := 0, cells := 0, slots := 0, locals := 0 } : Room) s m #[(.ref r0)] below meth c s₁ [] 0 0 := Stand.of_body Bd
  have e0 : s₁.heap = h0 := by rw [← hh, Bd.state]; rfl
  have N0 := Fr.nil n0
  show own_Gl p e below (fun o U' => ∃ v L, o = .returned v ∧ Q1_2 Z r0 kA v0 v1 h0 n0 v U'.heap L ∧ FrameEnd s o U' L ({ frames := 0, cells := 0, slots := 0, locals := 0 } : Room).cells ({ frames := 0, cells := 0, slots := 0, locals := 0 } : Room).slots) (s₁.setTop (entryFrame m #[(.ref r0)] 3))
  refine own_go (fun t k => castTop (ef_1_2 m r0) k) ?_
  show own_Gl _ _ _ _ (s₁.setTop (mkF m 0 #[.val (.ref r0), .unset, .unset] []))
  refine own_go (fun t k => XS.iconst X0.here hx rfl (hb hby d1_0) k) ?_
  show own_Gl _ _ _ _ (s₁.setTop (mkF m 1 #[.val (.ref r0), .unset, .unset] [(.int (0 : Int32))]))
  refine own_go (fun t k => XS.istoreN X0.here hx rfl (hb hby d1_1) rfl (l' := #[.val (.ref r0), .val (.int (0 : Int32)), .unset]) rfl k) ?_
  show own_Gl _ _ _ _ (s₁.setTop (mkF m 2 #[.val (.ref r0), .val (.int (0 : Int32)), .unset] []))
  refine own_go (fun t k => XS.iconst X0.here hx rfl (hb hby d1_2) k) ?_
  show own_Gl _ _ _ _ (s₁.setTop (mkF m 3 #[.val (.ref r0), .val (.int (0 : Int32)), .unset] [(.int (1 : Int32))]))
  refine own_go (fun t k => XS.istoreN X0.here hx rfl (hb hby d1_3) rfl (l' := #[.val (.ref r0), .val (.int (0 : Int32)), .val (.int (1 : Int32))]) rfl k) ?_
  show own_Gl _ _ _ _ (s₁.setTop (mkF m 4 #[.val (.ref r0), .val (.int (0 : Int32)), .val (.int (1 : Int32))] []))
  refine own_go (fun t k => XS.iloadN X0.here hx rfl (hb hby d1_4) rfl k) ?_
  show own_Gl _ _ _ _ (s₁.setTop (mkF m 5 #[.val (.ref r0), .val (.int (0 : Int32)), .val (.int (1 : Int32))] [(.int (1 : Int32))]))
  refine own_go (fun t k => XS.aloadN X0.here hx rfl (hb hby d1_5) rfl rfl k) ?_
  show own_Gl _ _ _ _ (s₁.setTop (mkF m 6 #[.val (.ref r0), .val (.int (0 : Int32)), .val (.int (1 : Int32))] [(.ref r0), (.int (1 : Int32))]))
  obtain ⟨cl2, Ar2, -, S2, M2, -, -⟩ := id P0
  refine own_go (fun t k => X0.arraylength hx (by rw [e0]; exact Ar2.1) (State.isArrayOf_alike hZ.alike Ar2.2.1) (g := (mkF m 6 #[.val (.ref r0), .val (.int (0 : Int32)), .val (.int (1 : Int32))] [(.ref r0), (.int (1 : Int32))])) rfl rfl (hb hby d1_6) _ k) ?_
  rw [len_of S2 M2]
  show own_Gl _ _ _ _ (s₁.setTop (mkF m 7 #[.val (.ref r0), .val (.int (0 : Int32)), .val (.int (1 : Int32))] [(.int (2 : Int32)), (.int (1 : Int32))]))
  refine own_go (fun t k => XS.icmpNo X0.here hx rfl (hb hby d1_7) rfl (tlt (by decide : (1 : Int32) < (2 : Int32))).2.1 k) ?_
  show own_Gl _ _ _ _ (s₁.setTop (mkF m 10 #[.val (.ref r0), .val (.int (0 : Int32)), .val (.int (1 : Int32))] []))
  refine own_go (fun t k => XS.aloadN X0.here hx rfl (hb hby d1_10) rfl rfl k) ?_
  show own_Gl _ _ _ _ (s₁.setTop (mkF m 11 #[.val (.ref r0), .val (.int (0 : Int32)), .val (.int (1 : Int32))] [(.ref r0)]))
  refine own_go (fun t k => XS.iloadN X0.here hx rfl (hb hby d1_11) rfl k) ?_
  show own_Gl _ _ _ _ (s₁.setTop (mkF m 12 #[.val (.ref r0), .val (.int (0 : Int32)), .val (.int (1 : Int32))] [(.int (1 : Int32)), (.ref r0)]))
  obtain ⟨cl3, Ar3, qk3, S3, M3, H3, G3⟩ := id P0
  have hin3 : ¬ ((1 : Int32) < 0 ∨ cl3.slots.size ≤ ((1 : Int32)).toNatClampNeg) := inb_of S3 ⟨by decide, by decide⟩
  have hat3 : cl3.slots[((1 : Int32)).toNatClampNeg]? = some (.int v1) := H3.at hin3 rfl
  refine own_go (fun t k => X0.iaload hx (j := (1 : Int32)) (v := (.int v1)) (by rw [e0]; exact Ar3.1) (State.isArrayOf_alike hZ.alike Ar3.2.1) Ar3.2.2 hin3 hat3 (g := (mkF m 12 #[.val (.ref r0), .val (.int (0 : Int32)), .val (.int (1 : Int32))] [(.int (1 : Int32)), (.ref r0)])) rfl rfl (hb hby d1_12) _ k) ?_
  show own_Gl _ _ _ _ (s₁.setTop (mkF m 13 #[.val (.ref r0), .val (.int (0 : Int32)), .val (.int (1 : Int32))] [(.int v1)]))
  refine own_go (fun t k => XS.aloadN X0.here hx rfl (hb hby d1_13) rfl rfl k) ?_
  show own_Gl _ _ _ _ (s₁.setTop (mkF m 14 #[.val (.ref r0), .val (.int (0 : Int32)), .val (.int (1 : Int32))] [(.ref r0), (.int v1)]))
  refine own_go (fun t k => XS.iloadN X0.here hx rfl (hb hby d1_14) rfl k) ?_
  show own_Gl _ _ _ _ (s₁.setTop (mkF m 15 #[.val (.ref r0), .val (.int (0 : Int32)), .val (.int (1 : Int32))] [(.int (0 : Int32)), (.ref r0), (.int v1)]))
  obtain ⟨cl4, Ar4, qk4, S4, M4, H4, G4⟩ := id P0
  have hin4 : ¬ ((0 : Int32) < 0 ∨ cl4.slots.size ≤ ((0 : Int32)).toNatClampNeg) := inb_of S4 ⟨by decide, by decide⟩
  have hat4 : cl4.slots[((0 : Int32)).toNatClampNeg]? = some (.int v0) := H4.at hin4 rfl
  refine own_go (fun t k => X0.iaload hx (j := (0 : Int32)) (v := (.int v0)) (by rw [e0]; exact Ar4.1) (State.isArrayOf_alike hZ.alike Ar4.2.1) Ar4.2.2 hin4 hat4 (g := (mkF m 15 #[.val (.ref r0), .val (.int (0 : Int32)), .val (.int (1 : Int32))] [(.int (0 : Int32)), (.ref r0), (.int v1)])) rfl rfl (hb hby d1_15) _ k) ?_
  show own_Gl _ _ _ _ (s₁.setTop (mkF m 16 #[.val (.ref r0), .val (.int (0 : Int32)), .val (.int (1 : Int32))] [(.int v0), (.int v1)]))
  by_cases hc16_5 : v1 < v0
  · refine own_go (fun t k => XS.icmpNo X0.here hx rfl (hb hby d1_16) rfl (tlt hc16_5).2.1 k) ?_
    show own_Gl _ _ _ _ (s₁.setTop (mkF m 19 #[.val (.ref r0), .val (.int (0 : Int32)), .val (.int (1 : Int32))] []))
    refine own_go (fun t k => XS.iloadN X0.here hx rfl (hb hby d1_19) rfl k) ?_
    show own_Gl _ _ _ _ (s₁.setTop (mkF m 20 #[.val (.ref r0), .val (.int (0 : Int32)), .val (.int (1 : Int32))] [(.int (1 : Int32))]))
    refine own_go (fun t k => XS.goto X0.here hx rfl (pc0 := 20) (pc' := 24) rfl (hb hby d1_20) (by decide) (by decide) k) ?_
    show own_Gl _ _ _ _ (s₁.setTop (mkF m 24 #[.val (.ref r0), .val (.int (0 : Int32)), .val (.int (1 : Int32))] [(.int (1 : Int32))]))
    refine own_go (fun t k => XS.istoreN X0.here hx rfl (hb hby d1_24) rfl (l' := #[.val (.ref r0), .val (.int (1 : Int32)), .val (.int (1 : Int32))]) rfl k) ?_
    show own_Gl _ _ _ _ (s₁.setTop (mkF m 25 #[.val (.ref r0), .val (.int (1 : Int32)), .val (.int (1 : Int32))] []))
    refine own_go (fun t k => XS.iinc X0.here hx rfl (hb hby d1_25) rfl (l' := #[.val (.ref r0), .val (.int (1 : Int32)), .val (.int (2 : Int32))]) rfl k) ?_
    show own_Gl _ _ _ _ (s₁.setTop (mkF m 28 #[.val (.ref r0), .val (.int (1 : Int32)), .val (.int (2 : Int32))] []))
    refine own_go (fun t k => XS.goto X0.here hx rfl (pc0 := 28) (pc' := 4) rfl (hb hby d1_28) (by decide) (by decide) k) ?_
    show own_Gl _ _ _ _ (s₁.setTop (mkF m 4 #[.val (.ref r0), .val (.int (1 : Int32)), .val (.int (2 : Int32))] []))
    refine own_go (fun t k => XS.iloadN X0.here hx rfl (hb hby d1_4) rfl k) ?_
    show own_Gl _ _ _ _ (s₁.setTop (mkF m 5 #[.val (.ref r0), .val (.int (1 : Int32)), .val (.int (2 : Int32))] [(.int (2 : Int32))]))
    refine own_go (fun t k => XS.aloadN X0.here hx rfl (hb hby d1_5) rfl rfl k) ?_
    show own_Gl _ _ _ _ (s₁.setTop (mkF m 6 #[.val (.ref r0), .val (.int (1 : Int32)), .val (.int (2 : Int32))] [(.ref r0), (.int (2 : Int32))]))
    obtain ⟨cl6, Ar6, -, S6, M6, -, -⟩ := id P0
    refine own_go (fun t k => X0.arraylength hx (by rw [e0]; exact Ar6.1) (State.isArrayOf_alike hZ.alike Ar6.2.1) (g := (mkF m 6 #[.val (.ref r0), .val (.int (1 : Int32)), .val (.int (2 : Int32))] [(.ref r0), (.int (2 : Int32))])) rfl rfl (hb hby d1_6) _ k) ?_
    rw [len_of S6 M6]
    show own_Gl _ _ _ _ (s₁.setTop (mkF m 7 #[.val (.ref r0), .val (.int (1 : Int32)), .val (.int (2 : Int32))] [(.int (2 : Int32)), (.int (2 : Int32))]))
    refine own_go (fun t k => XS.icmpYes X0.here hx rfl (pc0 := 7) (pc' := 31) rfl (hb hby d1_7) rfl (flt (by decide : ¬ ((2 : Int32) < (2 : Int32)))).2.1 (by decide) (by decide) k) ?_
    show own_Gl _ _ _ _ (s₁.setTop (mkF m 31 #[.val (.ref r0), .val (.int (1 : Int32)), .val (.int (2 : Int32))] []))
    refine own_go (fun t k => XS.iloadN X0.here hx rfl (hb hby d1_31) rfl k) ?_
    show own_Gl _ _ _ _ (s₁.setTop (mkF m 32 #[.val (.ref r0), .val (.int (1 : Int32)), .val (.int (2 : Int32))] [(.int (1 : Int32))]))
    obtain ⟨fs, hr, hrun, hended, hW, hsame⟩ := X0.leave (v := some (.int (1 : Int32))) (fun h => by rw [Bd.returns] at h; cases h)
    refine own_fin (Jvm.RoadKit.retOut X0 hx Bd.returns rfl (Or.inl ⟨rfl, Or.inl rfl, _, rfl⟩) (hb hby d1_32) hr) hrun hended ⟨_, _, rfl, ?_, ⟨_, rfl⟩, hW, hsame.mono (by decide) (by decide)⟩
    show Q1_2 Z r0 kA v0 v1 h0 n0 _ s₁.heap _
    rw [e0]
    exact ⟨N0, by rw [f1_2, if_pos hc16_5], rfl⟩
  · refine own_go (fun t k => XS.icmpYes X0.here hx rfl (pc0 := 16) (pc' := 23) rfl (hb hby d1_16) rfl (flt hc16_5).2.1 (by decide) (by decide) k) ?_
    show own_Gl _ _ _ _ (s₁.setTop (mkF m 23 #[.val (.ref r0), .val (.int (0 : Int32)), .val (.int (1 : Int32))] []))
    refine own_go (fun t k => XS.iloadN X0.here hx rfl (hb hby d1_23) rfl k) ?_
    show own_Gl _ _ _ _ (s₁.setTop (mkF m 24 #[.val (.ref r0), .val (.int (0 : Int32)), .val (.int (1 : Int32))] [(.int (0 : Int32))]))
    refine own_go (fun t k => XS.istoreN X0.here hx rfl (hb hby d1_24) rfl (l' := #[.val (.ref r0), .val (.int (0 : Int32)), .val (.int (1 : Int32))]) rfl k) ?_
    show own_Gl _ _ _ _ (s₁.setTop (mkF m 25 #[.val (.ref r0), .val (.int (0 : Int32)), .val (.int (1 : Int32))] []))
    refine own_go (fun t k => XS.iinc X0.here hx rfl (hb hby d1_25) rfl (l' := #[.val (.ref r0), .val (.int (0 : Int32)), .val (.int (2 : Int32))]) rfl k) ?_
    show own_Gl _ _ _ _ (s₁.setTop (mkF m 28 #[.val (.ref r0), .val (.int (0 : Int32)), .val (.int (2 : Int32))] []))
    refine own_go (fun t k => XS.goto X0.here hx rfl (pc0 := 28) (pc' := 4) rfl (hb hby d1_28) (by decide) (by decide) k) ?_
    show own_Gl _ _ _ _ (s₁.setTop (mkF m 4 #[.val (.ref r0), .val (.int (0 : Int32)), .val (.int (2 : Int32))] []))
    refine own_go (fun t k => XS.iloadN X0.here hx rfl (hb hby d1_4) rfl k) ?_
    show own_Gl _ _ _ _ (s₁.setTop (mkF m 5 #[.val (.ref r0), .val (.int (0 : Int32)), .val (.int (2 : Int32))] [(.int (2 : Int32))]))
    refine own_go (fun t k => XS.aloadN X0.here hx rfl (hb hby d1_5) rfl rfl k) ?_
    show own_Gl _ _ _ _ (s₁.setTop (mkF m 6 #[.val (.ref r0), .val (.int (0 : Int32)), .val (.int (2 : Int32))] [(.ref r0), (.int (2 : Int32))]))
    obtain ⟨cl7, Ar7, -, S7, M7, -, -⟩ := id P0
    refine own_go (fun t k => X0.arraylength hx (by rw [e0]; exact Ar7.1) (State.isArrayOf_alike hZ.alike Ar7.2.1) (g := (mkF m 6 #[.val (.ref r0), .val (.int (0 : Int32)), .val (.int (2 : Int32))] [(.ref r0), (.int (2 : Int32))])) rfl rfl (hb hby d1_6) _ k) ?_
    rw [len_of S7 M7]
    show own_Gl _ _ _ _ (s₁.setTop (mkF m 7 #[.val (.ref r0), .val (.int (0 : Int32)), .val (.int (2 : Int32))] [(.int (2 : Int32)), (.int (2 : Int32))]))
    refine own_go (fun t k => XS.icmpYes X0.here hx rfl (pc0 := 7) (pc' := 31) rfl (hb hby d1_7) rfl (flt (by decide : ¬ ((2 : Int32) < (2 : Int32)))).2.1 (by decide) (by decide) k) ?_
    show own_Gl _ _ _ _ (s₁.setTop (mkF m 31 #[.val (.ref r0), .val (.int (0 : Int32)), .val (.int (2 : Int32))] []))
    refine own_go (fun t k => XS.iloadN X0.here hx rfl (hb hby d1_31) rfl k) ?_
    show own_Gl _ _ _ _ (s₁.setTop (mkF m 32 #[.val (.ref r0), .val (.int (0 : Int32)), .val (.int (2 : Int32))] [(.int (0 : Int32))]))
    obtain ⟨fs, hr, hrun, hended, hW, hsame⟩ := X0.leave (v := some (.int (0 : Int32))) (fun h => by rw [Bd.returns] at h; cases h)
    refine own_fin (Jvm.RoadKit.retOut X0 hx Bd.returns rfl (Or.inl ⟨rfl, Or.inl rfl, _, rfl⟩) (hb hby d1_32) hr) hrun hended ⟨_, _, rfl, ?_, ⟨_, rfl⟩, hW, hsame.mono (by decide) (by decide)⟩
    show Q1_2 Z r0 kA v0 v1 h0 n0 _ s₁.heap _
    rw [e0]
    exact ⟨N0, by rw [f1_2, if_neg hc16_5], rfl⟩
theorem own_rg2 (v0 v1 : Int32) : f1_2 v0 v1 = 0 ∨ f1_2 v0 v1 = 1 := by
  unfold f1_2
  repeat' split
  all_goals decide
theorem ef_1_3 (m : MethodId) (r0 : Addr) : entryFrame m #[(.ref r0)] 3 = mkF m 0 #[.val (.ref r0), .unset, .unset] [] := by first | (simp [entryFrame, mkF, argsToLocals, Value.category]; done) | rfl
def f1_3 (v0 : Int32) (v1 : Int32) (v2 : Int32) : Int32 := (if v1 < v0 then (if v2 < v1 then (2 : Int32) else (1 : Int32)) else (if v2 < v0 then (2 : Int32) else (0 : Int32)))
def Q1_3 (Z : State) (r0 : Addr) (kA : ClassId) (v0 : Int32) (v1 : Int32) (v2 : Int32) (h0 : Heap) (n0 : Nat) (v : Option Value) (h : Heap) (L : List Loc) : Prop := Fr n0 L ∧ v = some (.int (f1_3 v0 v1 v2)) ∧ h = h0
set_option maxRecDepth 65536 in
set_option maxHeartbeats 40000000 in
theorem rm1_3 (l : Launch) (Z : State) (a0 : Array Value) (hw : ∀ d ∈ tables_1, d.before a0 Z = true) (ws : List Jvm.Cond) (r0 : Addr) (kA : ClassId) (v0 : Int32) (v1 : Int32) (v2 : Int32) (h0 : Heap) (n0 : Nat) (Z0 : n0 ≤ h0.size) (P0 : Arv Z h0 r0 kA .int (3 : Int32) [(.int v0), (.int v1), (.int v2)] (.int (0 : Int32))) :
    MetFree l (⟨"com/example/sixfold/sixfold/rows/Rows", "fewest", "([I)I"⟩ : MethodName) (head1 (Jvm.Cond.code (⟨"com/example/sixfold/sixfold/rows/Rows", "fewest", "([I)I"⟩ : MethodName) prog_55_method_12_code 3 (some .int) :: ws) ({ frames := 0, cells := 0, slots := 0, locals := 0 } : Room)) (fun a U => a = #[(.ref r0)] ∧ Z.Warmed39 U.vm ∧ U.heap = h0) (fun _ _ _ _ _ => True) (fun _ U o U' => ∃ v L, o = .returned v ∧ Q1_3 Z r0 kA v0 v1 v2 h0 n0 v U'.heap L ∧ FrameEnd U o U' L ({ frames := 0, cells := 0, slots := 0, locals := 0 } : Room).cells ({ frames := 0, cells := 0, slots := 0, locals := 0 } : Room).slots) := by
  refine MetFree.of_bodySF (plainFor_of_name pn_com_example_sixfold_sixfold_rows_Rows) hisR ?_
  intro p e s m args below meth c s₁ Bd hml0 hP hK
  obtain ⟨rfl, hZ, hh⟩ := hP
  have hx := Bd.exec
  have hby := Bd.bytes
  have hml : c.maxLocals = 3 := hml0
  have hown : s.vm.findClass "com/example/sixfold/sixfold/rows/Rows" = some m.cls := findClass_of_methodNamed Bd.named
  have hnm := (name_of_methodNamed Bd.named Bd.method).1
  have X0 : Stand p l e ({ frames := 0, cells := 0, slots := 0, locals := 0 } : Room) s m #[(.ref r0)] below meth c s₁ [] 0 0 := Stand.of_body Bd
  have e0 : s₁.heap = h0 := by rw [← hh, Bd.state]; rfl
  have N0 := Fr.nil n0
  show own_Gl p e below (fun o U' => ∃ v L, o = .returned v ∧ Q1_3 Z r0 kA v0 v1 v2 h0 n0 v U'.heap L ∧ FrameEnd s o U' L ({ frames := 0, cells := 0, slots := 0, locals := 0 } : Room).cells ({ frames := 0, cells := 0, slots := 0, locals := 0 } : Room).slots) (s₁.setTop (entryFrame m #[(.ref r0)] 3))
  refine own_go (fun t k => castTop (ef_1_3 m r0) k) ?_
  show own_Gl _ _ _ _ (s₁.setTop (mkF m 0 #[.val (.ref r0), .unset, .unset] []))
  refine own_go (fun t k => XS.iconst X0.here hx rfl (hb hby d1_0) k) ?_
  show own_Gl _ _ _ _ (s₁.setTop (mkF m 1 #[.val (.ref r0), .unset, .unset] [(.int (0 : Int32))]))
  refine own_go (fun t k => XS.istoreN X0.here hx rfl (hb hby d1_1) rfl (l' := #[.val (.ref r0), .val (.int (0 : Int32)), .unset]) rfl k) ?_
  show own_Gl _ _ _ _ (s₁.setTop (mkF m 2 #[.val (.ref r0), .val (.int (0 : Int32)), .unset] []))
  refine own_go (fun t k => XS.iconst X0.here hx rfl (hb hby d1_2) k) ?_
  show own_Gl _ _ _ _ (s₁.setTop (mkF m 3 #[.val (.ref r0), .val (.int (0 : Int32)), .unset] [(.int (1 : Int32))]))
  refine own_go (fun t k => XS.istoreN X0.here hx rfl (hb hby d1_3) rfl (l' := #[.val (.ref r0), .val (.int (0 : Int32)), .val (.int (1 : Int32))]) rfl k) ?_
  show own_Gl _ _ _ _ (s₁.setTop (mkF m 4 #[.val (.ref r0), .val (.int (0 : Int32)), .val (.int (1 : Int32))] []))
  refine own_go (fun t k => XS.iloadN X0.here hx rfl (hb hby d1_4) rfl k) ?_
  show own_Gl _ _ _ _ (s₁.setTop (mkF m 5 #[.val (.ref r0), .val (.int (0 : Int32)), .val (.int (1 : Int32))] [(.int (1 : Int32))]))
  refine own_go (fun t k => XS.aloadN X0.here hx rfl (hb hby d1_5) rfl rfl k) ?_
  show own_Gl _ _ _ _ (s₁.setTop (mkF m 6 #[.val (.ref r0), .val (.int (0 : Int32)), .val (.int (1 : Int32))] [(.ref r0), (.int (1 : Int32))]))
  obtain ⟨cl8, Ar8, -, S8, M8, -, -⟩ := id P0
  refine own_go (fun t k => X0.arraylength hx (by rw [e0]; exact Ar8.1) (State.isArrayOf_alike hZ.alike Ar8.2.1) (g := (mkF m 6 #[.val (.ref r0), .val (.int (0 : Int32)), .val (.int (1 : Int32))] [(.ref r0), (.int (1 : Int32))])) rfl rfl (hb hby d1_6) _ k) ?_
  rw [len_of S8 M8]
  show own_Gl _ _ _ _ (s₁.setTop (mkF m 7 #[.val (.ref r0), .val (.int (0 : Int32)), .val (.int (1 : Int32))] [(.int (3 : Int32)), (.int (1 : Int32))]))
  refine own_go (fun t k => XS.icmpNo X0.here hx rfl (hb hby d1_7) rfl (tlt (by decide : (1 : Int32) < (3 : Int32))).2.1 k) ?_
  show own_Gl _ _ _ _ (s₁.setTop (mkF m 10 #[.val (.ref r0), .val (.int (0 : Int32)), .val (.int (1 : Int32))] []))
  refine own_go (fun t k => XS.aloadN X0.here hx rfl (hb hby d1_10) rfl rfl k) ?_
  show own_Gl _ _ _ _ (s₁.setTop (mkF m 11 #[.val (.ref r0), .val (.int (0 : Int32)), .val (.int (1 : Int32))] [(.ref r0)]))
  refine own_go (fun t k => XS.iloadN X0.here hx rfl (hb hby d1_11) rfl k) ?_
  show own_Gl _ _ _ _ (s₁.setTop (mkF m 12 #[.val (.ref r0), .val (.int (0 : Int32)), .val (.int (1 : Int32))] [(.int (1 : Int32)), (.ref r0)]))
  obtain ⟨cl9, Ar9, qk9, S9, M9, H9, G9⟩ := id P0
  have hin9 : ¬ ((1 : Int32) < 0 ∨ cl9.slots.size ≤ ((1 : Int32)).toNatClampNeg) := inb_of S9 ⟨by decide, by decide⟩
  have hat9 : cl9.slots[((1 : Int32)).toNatClampNeg]? = some (.int v1) := H9.at hin9 rfl
  refine own_go (fun t k => X0.iaload hx (j := (1 : Int32)) (v := (.int v1)) (by rw [e0]; exact Ar9.1) (State.isArrayOf_alike hZ.alike Ar9.2.1) Ar9.2.2 hin9 hat9 (g := (mkF m 12 #[.val (.ref r0), .val (.int (0 : Int32)), .val (.int (1 : Int32))] [(.int (1 : Int32)), (.ref r0)])) rfl rfl (hb hby d1_12) _ k) ?_
  show own_Gl _ _ _ _ (s₁.setTop (mkF m 13 #[.val (.ref r0), .val (.int (0 : Int32)), .val (.int (1 : Int32))] [(.int v1)]))
  refine own_go (fun t k => XS.aloadN X0.here hx rfl (hb hby d1_13) rfl rfl k) ?_
  show own_Gl _ _ _ _ (s₁.setTop (mkF m 14 #[.val (.ref r0), .val (.int (0 : Int32)), .val (.int (1 : Int32))] [(.ref r0), (.int v1)]))
  refine own_go (fun t k => XS.iloadN X0.here hx rfl (hb hby d1_14) rfl k) ?_
  show own_Gl _ _ _ _ (s₁.setTop (mkF m 15 #[.val (.ref r0), .val (.int (0 : Int32)), .val (.int (1 : Int32))] [(.int (0 : Int32)), (.ref r0), (.int v1)]))
  obtain ⟨cl10, Ar10, qk10, S10, M10, H10, G10⟩ := id P0
  have hin10 : ¬ ((0 : Int32) < 0 ∨ cl10.slots.size ≤ ((0 : Int32)).toNatClampNeg) := inb_of S10 ⟨by decide, by decide⟩
  have hat10 : cl10.slots[((0 : Int32)).toNatClampNeg]? = some (.int v0) := H10.at hin10 rfl
  refine own_go (fun t k => X0.iaload hx (j := (0 : Int32)) (v := (.int v0)) (by rw [e0]; exact Ar10.1) (State.isArrayOf_alike hZ.alike Ar10.2.1) Ar10.2.2 hin10 hat10 (g := (mkF m 15 #[.val (.ref r0), .val (.int (0 : Int32)), .val (.int (1 : Int32))] [(.int (0 : Int32)), (.ref r0), (.int v1)])) rfl rfl (hb hby d1_15) _ k) ?_
  show own_Gl _ _ _ _ (s₁.setTop (mkF m 16 #[.val (.ref r0), .val (.int (0 : Int32)), .val (.int (1 : Int32))] [(.int v0), (.int v1)]))
  by_cases hc16_11 : v1 < v0
  · refine own_go (fun t k => XS.icmpNo X0.here hx rfl (hb hby d1_16) rfl (tlt hc16_11).2.1 k) ?_
    show own_Gl _ _ _ _ (s₁.setTop (mkF m 19 #[.val (.ref r0), .val (.int (0 : Int32)), .val (.int (1 : Int32))] []))
    refine own_go (fun t k => XS.iloadN X0.here hx rfl (hb hby d1_19) rfl k) ?_
    show own_Gl _ _ _ _ (s₁.setTop (mkF m 20 #[.val (.ref r0), .val (.int (0 : Int32)), .val (.int (1 : Int32))] [(.int (1 : Int32))]))
    refine own_go (fun t k => XS.goto X0.here hx rfl (pc0 := 20) (pc' := 24) rfl (hb hby d1_20) (by decide) (by decide) k) ?_
    show own_Gl _ _ _ _ (s₁.setTop (mkF m 24 #[.val (.ref r0), .val (.int (0 : Int32)), .val (.int (1 : Int32))] [(.int (1 : Int32))]))
    refine own_go (fun t k => XS.istoreN X0.here hx rfl (hb hby d1_24) rfl (l' := #[.val (.ref r0), .val (.int (1 : Int32)), .val (.int (1 : Int32))]) rfl k) ?_
    show own_Gl _ _ _ _ (s₁.setTop (mkF m 25 #[.val (.ref r0), .val (.int (1 : Int32)), .val (.int (1 : Int32))] []))
    refine own_go (fun t k => XS.iinc X0.here hx rfl (hb hby d1_25) rfl (l' := #[.val (.ref r0), .val (.int (1 : Int32)), .val (.int (2 : Int32))]) rfl k) ?_
    show own_Gl _ _ _ _ (s₁.setTop (mkF m 28 #[.val (.ref r0), .val (.int (1 : Int32)), .val (.int (2 : Int32))] []))
    refine own_go (fun t k => XS.goto X0.here hx rfl (pc0 := 28) (pc' := 4) rfl (hb hby d1_28) (by decide) (by decide) k) ?_
    show own_Gl _ _ _ _ (s₁.setTop (mkF m 4 #[.val (.ref r0), .val (.int (1 : Int32)), .val (.int (2 : Int32))] []))
    refine own_go (fun t k => XS.iloadN X0.here hx rfl (hb hby d1_4) rfl k) ?_
    show own_Gl _ _ _ _ (s₁.setTop (mkF m 5 #[.val (.ref r0), .val (.int (1 : Int32)), .val (.int (2 : Int32))] [(.int (2 : Int32))]))
    refine own_go (fun t k => XS.aloadN X0.here hx rfl (hb hby d1_5) rfl rfl k) ?_
    show own_Gl _ _ _ _ (s₁.setTop (mkF m 6 #[.val (.ref r0), .val (.int (1 : Int32)), .val (.int (2 : Int32))] [(.ref r0), (.int (2 : Int32))]))
    obtain ⟨cl12, Ar12, -, S12, M12, -, -⟩ := id P0
    refine own_go (fun t k => X0.arraylength hx (by rw [e0]; exact Ar12.1) (State.isArrayOf_alike hZ.alike Ar12.2.1) (g := (mkF m 6 #[.val (.ref r0), .val (.int (1 : Int32)), .val (.int (2 : Int32))] [(.ref r0), (.int (2 : Int32))])) rfl rfl (hb hby d1_6) _ k) ?_
    rw [len_of S12 M12]
    show own_Gl _ _ _ _ (s₁.setTop (mkF m 7 #[.val (.ref r0), .val (.int (1 : Int32)), .val (.int (2 : Int32))] [(.int (3 : Int32)), (.int (2 : Int32))]))
    refine own_go (fun t k => XS.icmpNo X0.here hx rfl (hb hby d1_7) rfl (tlt (by decide : (2 : Int32) < (3 : Int32))).2.1 k) ?_
    show own_Gl _ _ _ _ (s₁.setTop (mkF m 10 #[.val (.ref r0), .val (.int (1 : Int32)), .val (.int (2 : Int32))] []))
    refine own_go (fun t k => XS.aloadN X0.here hx rfl (hb hby d1_10) rfl rfl k) ?_
    show own_Gl _ _ _ _ (s₁.setTop (mkF m 11 #[.val (.ref r0), .val (.int (1 : Int32)), .val (.int (2 : Int32))] [(.ref r0)]))
    refine own_go (fun t k => XS.iloadN X0.here hx rfl (hb hby d1_11) rfl k) ?_
    show own_Gl _ _ _ _ (s₁.setTop (mkF m 12 #[.val (.ref r0), .val (.int (1 : Int32)), .val (.int (2 : Int32))] [(.int (2 : Int32)), (.ref r0)]))
    obtain ⟨cl13, Ar13, qk13, S13, M13, H13, G13⟩ := id P0
    have hin13 : ¬ ((2 : Int32) < 0 ∨ cl13.slots.size ≤ ((2 : Int32)).toNatClampNeg) := inb_of S13 ⟨by decide, by decide⟩
    have hat13 : cl13.slots[((2 : Int32)).toNatClampNeg]? = some (.int v2) := H13.at hin13 rfl
    refine own_go (fun t k => X0.iaload hx (j := (2 : Int32)) (v := (.int v2)) (by rw [e0]; exact Ar13.1) (State.isArrayOf_alike hZ.alike Ar13.2.1) Ar13.2.2 hin13 hat13 (g := (mkF m 12 #[.val (.ref r0), .val (.int (1 : Int32)), .val (.int (2 : Int32))] [(.int (2 : Int32)), (.ref r0)])) rfl rfl (hb hby d1_12) _ k) ?_
    show own_Gl _ _ _ _ (s₁.setTop (mkF m 13 #[.val (.ref r0), .val (.int (1 : Int32)), .val (.int (2 : Int32))] [(.int v2)]))
    refine own_go (fun t k => XS.aloadN X0.here hx rfl (hb hby d1_13) rfl rfl k) ?_
    show own_Gl _ _ _ _ (s₁.setTop (mkF m 14 #[.val (.ref r0), .val (.int (1 : Int32)), .val (.int (2 : Int32))] [(.ref r0), (.int v2)]))
    refine own_go (fun t k => XS.iloadN X0.here hx rfl (hb hby d1_14) rfl k) ?_
    show own_Gl _ _ _ _ (s₁.setTop (mkF m 15 #[.val (.ref r0), .val (.int (1 : Int32)), .val (.int (2 : Int32))] [(.int (1 : Int32)), (.ref r0), (.int v2)]))
    obtain ⟨cl14, Ar14, qk14, S14, M14, H14, G14⟩ := id P0
    have hin14 : ¬ ((1 : Int32) < 0 ∨ cl14.slots.size ≤ ((1 : Int32)).toNatClampNeg) := inb_of S14 ⟨by decide, by decide⟩
    have hat14 : cl14.slots[((1 : Int32)).toNatClampNeg]? = some (.int v1) := H14.at hin14 rfl
    refine own_go (fun t k => X0.iaload hx (j := (1 : Int32)) (v := (.int v1)) (by rw [e0]; exact Ar14.1) (State.isArrayOf_alike hZ.alike Ar14.2.1) Ar14.2.2 hin14 hat14 (g := (mkF m 15 #[.val (.ref r0), .val (.int (1 : Int32)), .val (.int (2 : Int32))] [(.int (1 : Int32)), (.ref r0), (.int v2)])) rfl rfl (hb hby d1_15) _ k) ?_
    show own_Gl _ _ _ _ (s₁.setTop (mkF m 16 #[.val (.ref r0), .val (.int (1 : Int32)), .val (.int (2 : Int32))] [(.int v1), (.int v2)]))
    by_cases hc16_15 : v2 < v1
    · refine own_go (fun t k => XS.icmpNo X0.here hx rfl (hb hby d1_16) rfl (tlt hc16_15).2.1 k) ?_
      show own_Gl _ _ _ _ (s₁.setTop (mkF m 19 #[.val (.ref r0), .val (.int (1 : Int32)), .val (.int (2 : Int32))] []))
      refine own_go (fun t k => XS.iloadN X0.here hx rfl (hb hby d1_19) rfl k) ?_
      show own_Gl _ _ _ _ (s₁.setTop (mkF m 20 #[.val (.ref r0), .val (.int (1 : Int32)), .val (.int (2 : Int32))] [(.int (2 : Int32))]))
      refine own_go (fun t k => XS.goto X0.here hx rfl (pc0 := 20) (pc' := 24) rfl (hb hby d1_20) (by decide) (by decide) k) ?_
      show own_Gl _ _ _ _ (s₁.setTop (mkF m 24 #[.val (.ref r0), .val (.int (1 : Int32)), .val (.int (2 : Int32))] [(.int (2 : Int32))]))
      refine own_go (fun t k => XS.istoreN X0.here hx rfl (hb hby d1_24) rfl (l' := #[.val (.ref r0), .val (.int (2 : Int32)), .val (.int (2 : Int32))]) rfl k) ?_
      show own_Gl _ _ _ _ (s₁.setTop (mkF m 25 #[.val (.ref r0), .val (.int (2 : Int32)), .val (.int (2 : Int32))] []))
      refine own_go (fun t k => XS.iinc X0.here hx rfl (hb hby d1_25) rfl (l' := #[.val (.ref r0), .val (.int (2 : Int32)), .val (.int (3 : Int32))]) rfl k) ?_
      show own_Gl _ _ _ _ (s₁.setTop (mkF m 28 #[.val (.ref r0), .val (.int (2 : Int32)), .val (.int (3 : Int32))] []))
      refine own_go (fun t k => XS.goto X0.here hx rfl (pc0 := 28) (pc' := 4) rfl (hb hby d1_28) (by decide) (by decide) k) ?_
      show own_Gl _ _ _ _ (s₁.setTop (mkF m 4 #[.val (.ref r0), .val (.int (2 : Int32)), .val (.int (3 : Int32))] []))
      refine own_go (fun t k => XS.iloadN X0.here hx rfl (hb hby d1_4) rfl k) ?_
      show own_Gl _ _ _ _ (s₁.setTop (mkF m 5 #[.val (.ref r0), .val (.int (2 : Int32)), .val (.int (3 : Int32))] [(.int (3 : Int32))]))
      refine own_go (fun t k => XS.aloadN X0.here hx rfl (hb hby d1_5) rfl rfl k) ?_
      show own_Gl _ _ _ _ (s₁.setTop (mkF m 6 #[.val (.ref r0), .val (.int (2 : Int32)), .val (.int (3 : Int32))] [(.ref r0), (.int (3 : Int32))]))
      obtain ⟨cl16, Ar16, -, S16, M16, -, -⟩ := id P0
      refine own_go (fun t k => X0.arraylength hx (by rw [e0]; exact Ar16.1) (State.isArrayOf_alike hZ.alike Ar16.2.1) (g := (mkF m 6 #[.val (.ref r0), .val (.int (2 : Int32)), .val (.int (3 : Int32))] [(.ref r0), (.int (3 : Int32))])) rfl rfl (hb hby d1_6) _ k) ?_
      rw [len_of S16 M16]
      show own_Gl _ _ _ _ (s₁.setTop (mkF m 7 #[.val (.ref r0), .val (.int (2 : Int32)), .val (.int (3 : Int32))] [(.int (3 : Int32)), (.int (3 : Int32))]))
      refine own_go (fun t k => XS.icmpYes X0.here hx rfl (pc0 := 7) (pc' := 31) rfl (hb hby d1_7) rfl (flt (by decide : ¬ ((3 : Int32) < (3 : Int32)))).2.1 (by decide) (by decide) k) ?_
      show own_Gl _ _ _ _ (s₁.setTop (mkF m 31 #[.val (.ref r0), .val (.int (2 : Int32)), .val (.int (3 : Int32))] []))
      refine own_go (fun t k => XS.iloadN X0.here hx rfl (hb hby d1_31) rfl k) ?_
      show own_Gl _ _ _ _ (s₁.setTop (mkF m 32 #[.val (.ref r0), .val (.int (2 : Int32)), .val (.int (3 : Int32))] [(.int (2 : Int32))]))
      obtain ⟨fs, hr, hrun, hended, hW, hsame⟩ := X0.leave (v := some (.int (2 : Int32))) (fun h => by rw [Bd.returns] at h; cases h)
      refine own_fin (Jvm.RoadKit.retOut X0 hx Bd.returns rfl (Or.inl ⟨rfl, Or.inl rfl, _, rfl⟩) (hb hby d1_32) hr) hrun hended ⟨_, _, rfl, ?_, ⟨_, rfl⟩, hW, hsame.mono (by decide) (by decide)⟩
      show Q1_3 Z r0 kA v0 v1 v2 h0 n0 _ s₁.heap _
      rw [e0]
      exact ⟨N0, by rw [f1_3, if_pos hc16_11, if_pos hc16_15], rfl⟩
    · refine own_go (fun t k => XS.icmpYes X0.here hx rfl (pc0 := 16) (pc' := 23) rfl (hb hby d1_16) rfl (flt hc16_15).2.1 (by decide) (by decide) k) ?_
      show own_Gl _ _ _ _ (s₁.setTop (mkF m 23 #[.val (.ref r0), .val (.int (1 : Int32)), .val (.int (2 : Int32))] []))
      refine own_go (fun t k => XS.iloadN X0.here hx rfl (hb hby d1_23) rfl k) ?_
      show own_Gl _ _ _ _ (s₁.setTop (mkF m 24 #[.val (.ref r0), .val (.int (1 : Int32)), .val (.int (2 : Int32))] [(.int (1 : Int32))]))
      refine own_go (fun t k => XS.istoreN X0.here hx rfl (hb hby d1_24) rfl (l' := #[.val (.ref r0), .val (.int (1 : Int32)), .val (.int (2 : Int32))]) rfl k) ?_
      show own_Gl _ _ _ _ (s₁.setTop (mkF m 25 #[.val (.ref r0), .val (.int (1 : Int32)), .val (.int (2 : Int32))] []))
      refine own_go (fun t k => XS.iinc X0.here hx rfl (hb hby d1_25) rfl (l' := #[.val (.ref r0), .val (.int (1 : Int32)), .val (.int (3 : Int32))]) rfl k) ?_
      show own_Gl _ _ _ _ (s₁.setTop (mkF m 28 #[.val (.ref r0), .val (.int (1 : Int32)), .val (.int (3 : Int32))] []))
      refine own_go (fun t k => XS.goto X0.here hx rfl (pc0 := 28) (pc' := 4) rfl (hb hby d1_28) (by decide) (by decide) k) ?_
      show own_Gl _ _ _ _ (s₁.setTop (mkF m 4 #[.val (.ref r0), .val (.int (1 : Int32)), .val (.int (3 : Int32))] []))
      refine own_go (fun t k => XS.iloadN X0.here hx rfl (hb hby d1_4) rfl k) ?_
      show own_Gl _ _ _ _ (s₁.setTop (mkF m 5 #[.val (.ref r0), .val (.int (1 : Int32)), .val (.int (3 : Int32))] [(.int (3 : Int32))]))
      refine own_go (fun t k => XS.aloadN X0.here hx rfl (hb hby d1_5) rfl rfl k) ?_
      show own_Gl _ _ _ _ (s₁.setTop (mkF m 6 #[.val (.ref r0), .val (.int (1 : Int32)), .val (.int (3 : Int32))] [(.ref r0), (.int (3 : Int32))]))
      obtain ⟨cl17, Ar17, -, S17, M17, -, -⟩ := id P0
      refine own_go (fun t k => X0.arraylength hx (by rw [e0]; exact Ar17.1) (State.isArrayOf_alike hZ.alike Ar17.2.1) (g := (mkF m 6 #[.val (.ref r0), .val (.int (1 : Int32)), .val (.int (3 : Int32))] [(.ref r0), (.int (3 : Int32))])) rfl rfl (hb hby d1_6) _ k) ?_
      rw [len_of S17 M17]
      show own_Gl _ _ _ _ (s₁.setTop (mkF m 7 #[.val (.ref r0), .val (.int (1 : Int32)), .val (.int (3 : Int32))] [(.int (3 : Int32)), (.int (3 : Int32))]))
      refine own_go (fun t k => XS.icmpYes X0.here hx rfl (pc0 := 7) (pc' := 31) rfl (hb hby d1_7) rfl (flt (by decide : ¬ ((3 : Int32) < (3 : Int32)))).2.1 (by decide) (by decide) k) ?_
      show own_Gl _ _ _ _ (s₁.setTop (mkF m 31 #[.val (.ref r0), .val (.int (1 : Int32)), .val (.int (3 : Int32))] []))
      refine own_go (fun t k => XS.iloadN X0.here hx rfl (hb hby d1_31) rfl k) ?_
      show own_Gl _ _ _ _ (s₁.setTop (mkF m 32 #[.val (.ref r0), .val (.int (1 : Int32)), .val (.int (3 : Int32))] [(.int (1 : Int32))]))
      obtain ⟨fs, hr, hrun, hended, hW, hsame⟩ := X0.leave (v := some (.int (1 : Int32))) (fun h => by rw [Bd.returns] at h; cases h)
      refine own_fin (Jvm.RoadKit.retOut X0 hx Bd.returns rfl (Or.inl ⟨rfl, Or.inl rfl, _, rfl⟩) (hb hby d1_32) hr) hrun hended ⟨_, _, rfl, ?_, ⟨_, rfl⟩, hW, hsame.mono (by decide) (by decide)⟩
      show Q1_3 Z r0 kA v0 v1 v2 h0 n0 _ s₁.heap _
      rw [e0]
      exact ⟨N0, by rw [f1_3, if_pos hc16_11, if_neg hc16_15], rfl⟩
  · refine own_go (fun t k => XS.icmpYes X0.here hx rfl (pc0 := 16) (pc' := 23) rfl (hb hby d1_16) rfl (flt hc16_11).2.1 (by decide) (by decide) k) ?_
    show own_Gl _ _ _ _ (s₁.setTop (mkF m 23 #[.val (.ref r0), .val (.int (0 : Int32)), .val (.int (1 : Int32))] []))
    refine own_go (fun t k => XS.iloadN X0.here hx rfl (hb hby d1_23) rfl k) ?_
    show own_Gl _ _ _ _ (s₁.setTop (mkF m 24 #[.val (.ref r0), .val (.int (0 : Int32)), .val (.int (1 : Int32))] [(.int (0 : Int32))]))
    refine own_go (fun t k => XS.istoreN X0.here hx rfl (hb hby d1_24) rfl (l' := #[.val (.ref r0), .val (.int (0 : Int32)), .val (.int (1 : Int32))]) rfl k) ?_
    show own_Gl _ _ _ _ (s₁.setTop (mkF m 25 #[.val (.ref r0), .val (.int (0 : Int32)), .val (.int (1 : Int32))] []))
    refine own_go (fun t k => XS.iinc X0.here hx rfl (hb hby d1_25) rfl (l' := #[.val (.ref r0), .val (.int (0 : Int32)), .val (.int (2 : Int32))]) rfl k) ?_
    show own_Gl _ _ _ _ (s₁.setTop (mkF m 28 #[.val (.ref r0), .val (.int (0 : Int32)), .val (.int (2 : Int32))] []))
    refine own_go (fun t k => XS.goto X0.here hx rfl (pc0 := 28) (pc' := 4) rfl (hb hby d1_28) (by decide) (by decide) k) ?_
    show own_Gl _ _ _ _ (s₁.setTop (mkF m 4 #[.val (.ref r0), .val (.int (0 : Int32)), .val (.int (2 : Int32))] []))
    refine own_go (fun t k => XS.iloadN X0.here hx rfl (hb hby d1_4) rfl k) ?_
    show own_Gl _ _ _ _ (s₁.setTop (mkF m 5 #[.val (.ref r0), .val (.int (0 : Int32)), .val (.int (2 : Int32))] [(.int (2 : Int32))]))
    refine own_go (fun t k => XS.aloadN X0.here hx rfl (hb hby d1_5) rfl rfl k) ?_
    show own_Gl _ _ _ _ (s₁.setTop (mkF m 6 #[.val (.ref r0), .val (.int (0 : Int32)), .val (.int (2 : Int32))] [(.ref r0), (.int (2 : Int32))]))
    obtain ⟨cl18, Ar18, -, S18, M18, -, -⟩ := id P0
    refine own_go (fun t k => X0.arraylength hx (by rw [e0]; exact Ar18.1) (State.isArrayOf_alike hZ.alike Ar18.2.1) (g := (mkF m 6 #[.val (.ref r0), .val (.int (0 : Int32)), .val (.int (2 : Int32))] [(.ref r0), (.int (2 : Int32))])) rfl rfl (hb hby d1_6) _ k) ?_
    rw [len_of S18 M18]
    show own_Gl _ _ _ _ (s₁.setTop (mkF m 7 #[.val (.ref r0), .val (.int (0 : Int32)), .val (.int (2 : Int32))] [(.int (3 : Int32)), (.int (2 : Int32))]))
    refine own_go (fun t k => XS.icmpNo X0.here hx rfl (hb hby d1_7) rfl (tlt (by decide : (2 : Int32) < (3 : Int32))).2.1 k) ?_
    show own_Gl _ _ _ _ (s₁.setTop (mkF m 10 #[.val (.ref r0), .val (.int (0 : Int32)), .val (.int (2 : Int32))] []))
    refine own_go (fun t k => XS.aloadN X0.here hx rfl (hb hby d1_10) rfl rfl k) ?_
    show own_Gl _ _ _ _ (s₁.setTop (mkF m 11 #[.val (.ref r0), .val (.int (0 : Int32)), .val (.int (2 : Int32))] [(.ref r0)]))
    refine own_go (fun t k => XS.iloadN X0.here hx rfl (hb hby d1_11) rfl k) ?_
    show own_Gl _ _ _ _ (s₁.setTop (mkF m 12 #[.val (.ref r0), .val (.int (0 : Int32)), .val (.int (2 : Int32))] [(.int (2 : Int32)), (.ref r0)]))
    obtain ⟨cl19, Ar19, qk19, S19, M19, H19, G19⟩ := id P0
    have hin19 : ¬ ((2 : Int32) < 0 ∨ cl19.slots.size ≤ ((2 : Int32)).toNatClampNeg) := inb_of S19 ⟨by decide, by decide⟩
    have hat19 : cl19.slots[((2 : Int32)).toNatClampNeg]? = some (.int v2) := H19.at hin19 rfl
    refine own_go (fun t k => X0.iaload hx (j := (2 : Int32)) (v := (.int v2)) (by rw [e0]; exact Ar19.1) (State.isArrayOf_alike hZ.alike Ar19.2.1) Ar19.2.2 hin19 hat19 (g := (mkF m 12 #[.val (.ref r0), .val (.int (0 : Int32)), .val (.int (2 : Int32))] [(.int (2 : Int32)), (.ref r0)])) rfl rfl (hb hby d1_12) _ k) ?_
    show own_Gl _ _ _ _ (s₁.setTop (mkF m 13 #[.val (.ref r0), .val (.int (0 : Int32)), .val (.int (2 : Int32))] [(.int v2)]))
    refine own_go (fun t k => XS.aloadN X0.here hx rfl (hb hby d1_13) rfl rfl k) ?_
    show own_Gl _ _ _ _ (s₁.setTop (mkF m 14 #[.val (.ref r0), .val (.int (0 : Int32)), .val (.int (2 : Int32))] [(.ref r0), (.int v2)]))
    refine own_go (fun t k => XS.iloadN X0.here hx rfl (hb hby d1_14) rfl k) ?_
    show own_Gl _ _ _ _ (s₁.setTop (mkF m 15 #[.val (.ref r0), .val (.int (0 : Int32)), .val (.int (2 : Int32))] [(.int (0 : Int32)), (.ref r0), (.int v2)]))
    obtain ⟨cl20, Ar20, qk20, S20, M20, H20, G20⟩ := id P0
    have hin20 : ¬ ((0 : Int32) < 0 ∨ cl20.slots.size ≤ ((0 : Int32)).toNatClampNeg) := inb_of S20 ⟨by decide, by decide⟩
    have hat20 : cl20.slots[((0 : Int32)).toNatClampNeg]? = some (.int v0) := H20.at hin20 rfl
    refine own_go (fun t k => X0.iaload hx (j := (0 : Int32)) (v := (.int v0)) (by rw [e0]; exact Ar20.1) (State.isArrayOf_alike hZ.alike Ar20.2.1) Ar20.2.2 hin20 hat20 (g := (mkF m 15 #[.val (.ref r0), .val (.int (0 : Int32)), .val (.int (2 : Int32))] [(.int (0 : Int32)), (.ref r0), (.int v2)])) rfl rfl (hb hby d1_15) _ k) ?_
    show own_Gl _ _ _ _ (s₁.setTop (mkF m 16 #[.val (.ref r0), .val (.int (0 : Int32)), .val (.int (2 : Int32))] [(.int v0), (.int v2)]))
    by_cases hc16_21 : v2 < v0
    · refine own_go (fun t k => XS.icmpNo X0.here hx rfl (hb hby d1_16) rfl (tlt hc16_21).2.1 k) ?_
      show own_Gl _ _ _ _ (s₁.setTop (mkF m 19 #[.val (.ref r0), .val (.int (0 : Int32)), .val (.int (2 : Int32))] []))
      refine own_go (fun t k => XS.iloadN X0.here hx rfl (hb hby d1_19) rfl k) ?_
      show own_Gl _ _ _ _ (s₁.setTop (mkF m 20 #[.val (.ref r0), .val (.int (0 : Int32)), .val (.int (2 : Int32))] [(.int (2 : Int32))]))
      refine own_go (fun t k => XS.goto X0.here hx rfl (pc0 := 20) (pc' := 24) rfl (hb hby d1_20) (by decide) (by decide) k) ?_
      show own_Gl _ _ _ _ (s₁.setTop (mkF m 24 #[.val (.ref r0), .val (.int (0 : Int32)), .val (.int (2 : Int32))] [(.int (2 : Int32))]))
      refine own_go (fun t k => XS.istoreN X0.here hx rfl (hb hby d1_24) rfl (l' := #[.val (.ref r0), .val (.int (2 : Int32)), .val (.int (2 : Int32))]) rfl k) ?_
      show own_Gl _ _ _ _ (s₁.setTop (mkF m 25 #[.val (.ref r0), .val (.int (2 : Int32)), .val (.int (2 : Int32))] []))
      refine own_go (fun t k => XS.iinc X0.here hx rfl (hb hby d1_25) rfl (l' := #[.val (.ref r0), .val (.int (2 : Int32)), .val (.int (3 : Int32))]) rfl k) ?_
      show own_Gl _ _ _ _ (s₁.setTop (mkF m 28 #[.val (.ref r0), .val (.int (2 : Int32)), .val (.int (3 : Int32))] []))
      refine own_go (fun t k => XS.goto X0.here hx rfl (pc0 := 28) (pc' := 4) rfl (hb hby d1_28) (by decide) (by decide) k) ?_
      show own_Gl _ _ _ _ (s₁.setTop (mkF m 4 #[.val (.ref r0), .val (.int (2 : Int32)), .val (.int (3 : Int32))] []))
      refine own_go (fun t k => XS.iloadN X0.here hx rfl (hb hby d1_4) rfl k) ?_
      show own_Gl _ _ _ _ (s₁.setTop (mkF m 5 #[.val (.ref r0), .val (.int (2 : Int32)), .val (.int (3 : Int32))] [(.int (3 : Int32))]))
      refine own_go (fun t k => XS.aloadN X0.here hx rfl (hb hby d1_5) rfl rfl k) ?_
      show own_Gl _ _ _ _ (s₁.setTop (mkF m 6 #[.val (.ref r0), .val (.int (2 : Int32)), .val (.int (3 : Int32))] [(.ref r0), (.int (3 : Int32))]))
      obtain ⟨cl22, Ar22, -, S22, M22, -, -⟩ := id P0
      refine own_go (fun t k => X0.arraylength hx (by rw [e0]; exact Ar22.1) (State.isArrayOf_alike hZ.alike Ar22.2.1) (g := (mkF m 6 #[.val (.ref r0), .val (.int (2 : Int32)), .val (.int (3 : Int32))] [(.ref r0), (.int (3 : Int32))])) rfl rfl (hb hby d1_6) _ k) ?_
      rw [len_of S22 M22]
      show own_Gl _ _ _ _ (s₁.setTop (mkF m 7 #[.val (.ref r0), .val (.int (2 : Int32)), .val (.int (3 : Int32))] [(.int (3 : Int32)), (.int (3 : Int32))]))
      refine own_go (fun t k => XS.icmpYes X0.here hx rfl (pc0 := 7) (pc' := 31) rfl (hb hby d1_7) rfl (flt (by decide : ¬ ((3 : Int32) < (3 : Int32)))).2.1 (by decide) (by decide) k) ?_
      show own_Gl _ _ _ _ (s₁.setTop (mkF m 31 #[.val (.ref r0), .val (.int (2 : Int32)), .val (.int (3 : Int32))] []))
      refine own_go (fun t k => XS.iloadN X0.here hx rfl (hb hby d1_31) rfl k) ?_
      show own_Gl _ _ _ _ (s₁.setTop (mkF m 32 #[.val (.ref r0), .val (.int (2 : Int32)), .val (.int (3 : Int32))] [(.int (2 : Int32))]))
      obtain ⟨fs, hr, hrun, hended, hW, hsame⟩ := X0.leave (v := some (.int (2 : Int32))) (fun h => by rw [Bd.returns] at h; cases h)
      refine own_fin (Jvm.RoadKit.retOut X0 hx Bd.returns rfl (Or.inl ⟨rfl, Or.inl rfl, _, rfl⟩) (hb hby d1_32) hr) hrun hended ⟨_, _, rfl, ?_, ⟨_, rfl⟩, hW, hsame.mono (by decide) (by decide)⟩
      show Q1_3 Z r0 kA v0 v1 v2 h0 n0 _ s₁.heap _
      rw [e0]
      exact ⟨N0, by rw [f1_3, if_neg hc16_11, if_pos hc16_21], rfl⟩
    · refine own_go (fun t k => XS.icmpYes X0.here hx rfl (pc0 := 16) (pc' := 23) rfl (hb hby d1_16) rfl (flt hc16_21).2.1 (by decide) (by decide) k) ?_
      show own_Gl _ _ _ _ (s₁.setTop (mkF m 23 #[.val (.ref r0), .val (.int (0 : Int32)), .val (.int (2 : Int32))] []))
      refine own_go (fun t k => XS.iloadN X0.here hx rfl (hb hby d1_23) rfl k) ?_
      show own_Gl _ _ _ _ (s₁.setTop (mkF m 24 #[.val (.ref r0), .val (.int (0 : Int32)), .val (.int (2 : Int32))] [(.int (0 : Int32))]))
      refine own_go (fun t k => XS.istoreN X0.here hx rfl (hb hby d1_24) rfl (l' := #[.val (.ref r0), .val (.int (0 : Int32)), .val (.int (2 : Int32))]) rfl k) ?_
      show own_Gl _ _ _ _ (s₁.setTop (mkF m 25 #[.val (.ref r0), .val (.int (0 : Int32)), .val (.int (2 : Int32))] []))
      refine own_go (fun t k => XS.iinc X0.here hx rfl (hb hby d1_25) rfl (l' := #[.val (.ref r0), .val (.int (0 : Int32)), .val (.int (3 : Int32))]) rfl k) ?_
      show own_Gl _ _ _ _ (s₁.setTop (mkF m 28 #[.val (.ref r0), .val (.int (0 : Int32)), .val (.int (3 : Int32))] []))
      refine own_go (fun t k => XS.goto X0.here hx rfl (pc0 := 28) (pc' := 4) rfl (hb hby d1_28) (by decide) (by decide) k) ?_
      show own_Gl _ _ _ _ (s₁.setTop (mkF m 4 #[.val (.ref r0), .val (.int (0 : Int32)), .val (.int (3 : Int32))] []))
      refine own_go (fun t k => XS.iloadN X0.here hx rfl (hb hby d1_4) rfl k) ?_
      show own_Gl _ _ _ _ (s₁.setTop (mkF m 5 #[.val (.ref r0), .val (.int (0 : Int32)), .val (.int (3 : Int32))] [(.int (3 : Int32))]))
      refine own_go (fun t k => XS.aloadN X0.here hx rfl (hb hby d1_5) rfl rfl k) ?_
      show own_Gl _ _ _ _ (s₁.setTop (mkF m 6 #[.val (.ref r0), .val (.int (0 : Int32)), .val (.int (3 : Int32))] [(.ref r0), (.int (3 : Int32))]))
      obtain ⟨cl23, Ar23, -, S23, M23, -, -⟩ := id P0
      refine own_go (fun t k => X0.arraylength hx (by rw [e0]; exact Ar23.1) (State.isArrayOf_alike hZ.alike Ar23.2.1) (g := (mkF m 6 #[.val (.ref r0), .val (.int (0 : Int32)), .val (.int (3 : Int32))] [(.ref r0), (.int (3 : Int32))])) rfl rfl (hb hby d1_6) _ k) ?_
      rw [len_of S23 M23]
      show own_Gl _ _ _ _ (s₁.setTop (mkF m 7 #[.val (.ref r0), .val (.int (0 : Int32)), .val (.int (3 : Int32))] [(.int (3 : Int32)), (.int (3 : Int32))]))
      refine own_go (fun t k => XS.icmpYes X0.here hx rfl (pc0 := 7) (pc' := 31) rfl (hb hby d1_7) rfl (flt (by decide : ¬ ((3 : Int32) < (3 : Int32)))).2.1 (by decide) (by decide) k) ?_
      show own_Gl _ _ _ _ (s₁.setTop (mkF m 31 #[.val (.ref r0), .val (.int (0 : Int32)), .val (.int (3 : Int32))] []))
      refine own_go (fun t k => XS.iloadN X0.here hx rfl (hb hby d1_31) rfl k) ?_
      show own_Gl _ _ _ _ (s₁.setTop (mkF m 32 #[.val (.ref r0), .val (.int (0 : Int32)), .val (.int (3 : Int32))] [(.int (0 : Int32))]))
      obtain ⟨fs, hr, hrun, hended, hW, hsame⟩ := X0.leave (v := some (.int (0 : Int32))) (fun h => by rw [Bd.returns] at h; cases h)
      refine own_fin (Jvm.RoadKit.retOut X0 hx Bd.returns rfl (Or.inl ⟨rfl, Or.inl rfl, _, rfl⟩) (hb hby d1_32) hr) hrun hended ⟨_, _, rfl, ?_, ⟨_, rfl⟩, hW, hsame.mono (by decide) (by decide)⟩
      show Q1_3 Z r0 kA v0 v1 v2 h0 n0 _ s₁.heap _
      rw [e0]
      exact ⟨N0, by rw [f1_3, if_neg hc16_11, if_neg hc16_21], rfl⟩
theorem own_rg3 (v0 v1 v2 : Int32) : f1_3 v0 v1 v2 = 0 ∨ f1_3 v0 v1 v2 = 1 ∨ f1_3 v0 v1 v2 = 2 := by
  unfold f1_3
  repeat' split
  all_goals decide
theorem ef_1_4 (m : MethodId) (r0 : Addr) : entryFrame m #[(.ref r0)] 3 = mkF m 0 #[.val (.ref r0), .unset, .unset] [] := by first | (simp [entryFrame, mkF, argsToLocals, Value.category]; done) | rfl
def f1_4 (v0 : Int32) (v1 : Int32) (v2 : Int32) (v3 : Int32) : Int32 := (if v1 < v0 then (if v2 < v1 then (if v3 < v2 then (3 : Int32) else (2 : Int32)) else (if v3 < v1 then (3 : Int32) else (1 : Int32))) else (if v2 < v0 then (if v3 < v2 then (3 : Int32) else (2 : Int32)) else (if v3 < v0 then (3 : Int32) else (0 : Int32))))
def Q1_4 (Z : State) (r0 : Addr) (kA : ClassId) (v0 : Int32) (v1 : Int32) (v2 : Int32) (v3 : Int32) (h0 : Heap) (n0 : Nat) (v : Option Value) (h : Heap) (L : List Loc) : Prop := Fr n0 L ∧ v = some (.int (f1_4 v0 v1 v2 v3)) ∧ h = h0
set_option maxRecDepth 65536 in
set_option maxHeartbeats 40000000 in
theorem rm1_4 (l : Launch) (Z : State) (a0 : Array Value) (hw : ∀ d ∈ tables_1, d.before a0 Z = true) (ws : List Jvm.Cond) (r0 : Addr) (kA : ClassId) (v0 : Int32) (v1 : Int32) (v2 : Int32) (v3 : Int32) (h0 : Heap) (n0 : Nat) (Z0 : n0 ≤ h0.size) (P0 : Arv Z h0 r0 kA .int (4 : Int32) [(.int v0), (.int v1), (.int v2), (.int v3)] (.int (0 : Int32))) :
    MetFree l (⟨"com/example/sixfold/sixfold/rows/Rows", "fewest", "([I)I"⟩ : MethodName) (head1 (Jvm.Cond.code (⟨"com/example/sixfold/sixfold/rows/Rows", "fewest", "([I)I"⟩ : MethodName) prog_55_method_12_code 3 (some .int) :: ws) ({ frames := 0, cells := 0, slots := 0, locals := 0 } : Room)) (fun a U => a = #[(.ref r0)] ∧ Z.Warmed39 U.vm ∧ U.heap = h0) (fun _ _ _ _ _ => True) (fun _ U o U' => ∃ v L, o = .returned v ∧ Q1_4 Z r0 kA v0 v1 v2 v3 h0 n0 v U'.heap L ∧ FrameEnd U o U' L ({ frames := 0, cells := 0, slots := 0, locals := 0 } : Room).cells ({ frames := 0, cells := 0, slots := 0, locals := 0 } : Room).slots) := by
  refine MetFree.of_bodySF (plainFor_of_name pn_com_example_sixfold_sixfold_rows_Rows) hisR ?_
  intro p e s m args below meth c s₁ Bd hml0 hP hK
  obtain ⟨rfl, hZ, hh⟩ := hP
  have hx := Bd.exec
  have hby := Bd.bytes
  have hml : c.maxLocals = 3 := hml0
  have hown : s.vm.findClass "com/example/sixfold/sixfold/rows/Rows" = some m.cls := findClass_of_methodNamed Bd.named
  have hnm := (name_of_methodNamed Bd.named Bd.method).1
  have X0 : Stand p l e ({ frames := 0, cells := 0, slots := 0, locals := 0 } : Room) s m #[(.ref r0)] below meth c s₁ [] 0 0 := Stand.of_body Bd
  have e0 : s₁.heap = h0 := by rw [← hh, Bd.state]; rfl
  have N0 := Fr.nil n0
  show own_Gl p e below (fun o U' => ∃ v L, o = .returned v ∧ Q1_4 Z r0 kA v0 v1 v2 v3 h0 n0 v U'.heap L ∧ FrameEnd s o U' L ({ frames := 0, cells := 0, slots := 0, locals := 0 } : Room).cells ({ frames := 0, cells := 0, slots := 0, locals := 0 } : Room).slots) (s₁.setTop (entryFrame m #[(.ref r0)] 3))
  refine own_go (fun t k => castTop (ef_1_4 m r0) k) ?_
  show own_Gl _ _ _ _ (s₁.setTop (mkF m 0 #[.val (.ref r0), .unset, .unset] []))
  refine own_go (fun t k => XS.iconst X0.here hx rfl (hb hby d1_0) k) ?_
  show own_Gl _ _ _ _ (s₁.setTop (mkF m 1 #[.val (.ref r0), .unset, .unset] [(.int (0 : Int32))]))
  refine own_go (fun t k => XS.istoreN X0.here hx rfl (hb hby d1_1) rfl (l' := #[.val (.ref r0), .val (.int (0 : Int32)), .unset]) rfl k) ?_
  show own_Gl _ _ _ _ (s₁.setTop (mkF m 2 #[.val (.ref r0), .val (.int (0 : Int32)), .unset] []))
  refine own_go (fun t k => XS.iconst X0.here hx rfl (hb hby d1_2) k) ?_
  show own_Gl _ _ _ _ (s₁.setTop (mkF m 3 #[.val (.ref r0), .val (.int (0 : Int32)), .unset] [(.int (1 : Int32))]))
  refine own_go (fun t k => XS.istoreN X0.here hx rfl (hb hby d1_3) rfl (l' := #[.val (.ref r0), .val (.int (0 : Int32)), .val (.int (1 : Int32))]) rfl k) ?_
  show own_Gl _ _ _ _ (s₁.setTop (mkF m 4 #[.val (.ref r0), .val (.int (0 : Int32)), .val (.int (1 : Int32))] []))
  refine own_go (fun t k => XS.iloadN X0.here hx rfl (hb hby d1_4) rfl k) ?_
  show own_Gl _ _ _ _ (s₁.setTop (mkF m 5 #[.val (.ref r0), .val (.int (0 : Int32)), .val (.int (1 : Int32))] [(.int (1 : Int32))]))
  refine own_go (fun t k => XS.aloadN X0.here hx rfl (hb hby d1_5) rfl rfl k) ?_
  show own_Gl _ _ _ _ (s₁.setTop (mkF m 6 #[.val (.ref r0), .val (.int (0 : Int32)), .val (.int (1 : Int32))] [(.ref r0), (.int (1 : Int32))]))
  obtain ⟨cl24, Ar24, -, S24, M24, -, -⟩ := id P0
  refine own_go (fun t k => X0.arraylength hx (by rw [e0]; exact Ar24.1) (State.isArrayOf_alike hZ.alike Ar24.2.1) (g := (mkF m 6 #[.val (.ref r0), .val (.int (0 : Int32)), .val (.int (1 : Int32))] [(.ref r0), (.int (1 : Int32))])) rfl rfl (hb hby d1_6) _ k) ?_
  rw [len_of S24 M24]
  show own_Gl _ _ _ _ (s₁.setTop (mkF m 7 #[.val (.ref r0), .val (.int (0 : Int32)), .val (.int (1 : Int32))] [(.int (4 : Int32)), (.int (1 : Int32))]))
  refine own_go (fun t k => XS.icmpNo X0.here hx rfl (hb hby d1_7) rfl (tlt (by decide : (1 : Int32) < (4 : Int32))).2.1 k) ?_
  show own_Gl _ _ _ _ (s₁.setTop (mkF m 10 #[.val (.ref r0), .val (.int (0 : Int32)), .val (.int (1 : Int32))] []))
  refine own_go (fun t k => XS.aloadN X0.here hx rfl (hb hby d1_10) rfl rfl k) ?_
  show own_Gl _ _ _ _ (s₁.setTop (mkF m 11 #[.val (.ref r0), .val (.int (0 : Int32)), .val (.int (1 : Int32))] [(.ref r0)]))
  refine own_go (fun t k => XS.iloadN X0.here hx rfl (hb hby d1_11) rfl k) ?_
  show own_Gl _ _ _ _ (s₁.setTop (mkF m 12 #[.val (.ref r0), .val (.int (0 : Int32)), .val (.int (1 : Int32))] [(.int (1 : Int32)), (.ref r0)]))
  obtain ⟨cl25, Ar25, qk25, S25, M25, H25, G25⟩ := id P0
  have hin25 : ¬ ((1 : Int32) < 0 ∨ cl25.slots.size ≤ ((1 : Int32)).toNatClampNeg) := inb_of S25 ⟨by decide, by decide⟩
  have hat25 : cl25.slots[((1 : Int32)).toNatClampNeg]? = some (.int v1) := H25.at hin25 rfl
  refine own_go (fun t k => X0.iaload hx (j := (1 : Int32)) (v := (.int v1)) (by rw [e0]; exact Ar25.1) (State.isArrayOf_alike hZ.alike Ar25.2.1) Ar25.2.2 hin25 hat25 (g := (mkF m 12 #[.val (.ref r0), .val (.int (0 : Int32)), .val (.int (1 : Int32))] [(.int (1 : Int32)), (.ref r0)])) rfl rfl (hb hby d1_12) _ k) ?_
  show own_Gl _ _ _ _ (s₁.setTop (mkF m 13 #[.val (.ref r0), .val (.int (0 : Int32)), .val (.int (1 : Int32))] [(.int v1)]))
  refine own_go (fun t k => XS.aloadN X0.here hx rfl (hb hby d1_13) rfl rfl k) ?_
  show own_Gl _ _ _ _ (s₁.setTop (mkF m 14 #[.val (.ref r0), .val (.int (0 : Int32)), .val (.int (1 : Int32))] [(.ref r0), (.int v1)]))
  refine own_go (fun t k => XS.iloadN X0.here hx rfl (hb hby d1_14) rfl k) ?_
  show own_Gl _ _ _ _ (s₁.setTop (mkF m 15 #[.val (.ref r0), .val (.int (0 : Int32)), .val (.int (1 : Int32))] [(.int (0 : Int32)), (.ref r0), (.int v1)]))
  obtain ⟨cl26, Ar26, qk26, S26, M26, H26, G26⟩ := id P0
  have hin26 : ¬ ((0 : Int32) < 0 ∨ cl26.slots.size ≤ ((0 : Int32)).toNatClampNeg) := inb_of S26 ⟨by decide, by decide⟩
  have hat26 : cl26.slots[((0 : Int32)).toNatClampNeg]? = some (.int v0) := H26.at hin26 rfl
  refine own_go (fun t k => X0.iaload hx (j := (0 : Int32)) (v := (.int v0)) (by rw [e0]; exact Ar26.1) (State.isArrayOf_alike hZ.alike Ar26.2.1) Ar26.2.2 hin26 hat26 (g := (mkF m 15 #[.val (.ref r0), .val (.int (0 : Int32)), .val (.int (1 : Int32))] [(.int (0 : Int32)), (.ref r0), (.int v1)])) rfl rfl (hb hby d1_15) _ k) ?_
  show own_Gl _ _ _ _ (s₁.setTop (mkF m 16 #[.val (.ref r0), .val (.int (0 : Int32)), .val (.int (1 : Int32))] [(.int v0), (.int v1)]))
  by_cases hc16_27 : v1 < v0
  · refine own_go (fun t k => XS.icmpNo X0.here hx rfl (hb hby d1_16) rfl (tlt hc16_27).2.1 k) ?_
    show own_Gl _ _ _ _ (s₁.setTop (mkF m 19 #[.val (.ref r0), .val (.int (0 : Int32)), .val (.int (1 : Int32))] []))
    refine own_go (fun t k => XS.iloadN X0.here hx rfl (hb hby d1_19) rfl k) ?_
    show own_Gl _ _ _ _ (s₁.setTop (mkF m 20 #[.val (.ref r0), .val (.int (0 : Int32)), .val (.int (1 : Int32))] [(.int (1 : Int32))]))
    refine own_go (fun t k => XS.goto X0.here hx rfl (pc0 := 20) (pc' := 24) rfl (hb hby d1_20) (by decide) (by decide) k) ?_
    show own_Gl _ _ _ _ (s₁.setTop (mkF m 24 #[.val (.ref r0), .val (.int (0 : Int32)), .val (.int (1 : Int32))] [(.int (1 : Int32))]))
    refine own_go (fun t k => XS.istoreN X0.here hx rfl (hb hby d1_24) rfl (l' := #[.val (.ref r0), .val (.int (1 : Int32)), .val (.int (1 : Int32))]) rfl k) ?_
    show own_Gl _ _ _ _ (s₁.setTop (mkF m 25 #[.val (.ref r0), .val (.int (1 : Int32)), .val (.int (1 : Int32))] []))
    refine own_go (fun t k => XS.iinc X0.here hx rfl (hb hby d1_25) rfl (l' := #[.val (.ref r0), .val (.int (1 : Int32)), .val (.int (2 : Int32))]) rfl k) ?_
    show own_Gl _ _ _ _ (s₁.setTop (mkF m 28 #[.val (.ref r0), .val (.int (1 : Int32)), .val (.int (2 : Int32))] []))
    refine own_go (fun t k => XS.goto X0.here hx rfl (pc0 := 28) (pc' := 4) rfl (hb hby d1_28) (by decide) (by decide) k) ?_
    show own_Gl _ _ _ _ (s₁.setTop (mkF m 4 #[.val (.ref r0), .val (.int (1 : Int32)), .val (.int (2 : Int32))] []))
    refine own_go (fun t k => XS.iloadN X0.here hx rfl (hb hby d1_4) rfl k) ?_
    show own_Gl _ _ _ _ (s₁.setTop (mkF m 5 #[.val (.ref r0), .val (.int (1 : Int32)), .val (.int (2 : Int32))] [(.int (2 : Int32))]))
    refine own_go (fun t k => XS.aloadN X0.here hx rfl (hb hby d1_5) rfl rfl k) ?_
    show own_Gl _ _ _ _ (s₁.setTop (mkF m 6 #[.val (.ref r0), .val (.int (1 : Int32)), .val (.int (2 : Int32))] [(.ref r0), (.int (2 : Int32))]))
    obtain ⟨cl28, Ar28, -, S28, M28, -, -⟩ := id P0
    refine own_go (fun t k => X0.arraylength hx (by rw [e0]; exact Ar28.1) (State.isArrayOf_alike hZ.alike Ar28.2.1) (g := (mkF m 6 #[.val (.ref r0), .val (.int (1 : Int32)), .val (.int (2 : Int32))] [(.ref r0), (.int (2 : Int32))])) rfl rfl (hb hby d1_6) _ k) ?_
    rw [len_of S28 M28]
    show own_Gl _ _ _ _ (s₁.setTop (mkF m 7 #[.val (.ref r0), .val (.int (1 : Int32)), .val (.int (2 : Int32))] [(.int (4 : Int32)), (.int (2 : Int32))]))
    refine own_go (fun t k => XS.icmpNo X0.here hx rfl (hb hby d1_7) rfl (tlt (by decide : (2 : Int32) < (4 : Int32))).2.1 k) ?_
    show own_Gl _ _ _ _ (s₁.setTop (mkF m 10 #[.val (.ref r0), .val (.int (1 : Int32)), .val (.int (2 : Int32))] []))
    refine own_go (fun t k => XS.aloadN X0.here hx rfl (hb hby d1_10) rfl rfl k) ?_
    show own_Gl _ _ _ _ (s₁.setTop (mkF m 11 #[.val (.ref r0), .val (.int (1 : Int32)), .val (.int (2 : Int32))] [(.ref r0)]))
    refine own_go (fun t k => XS.iloadN X0.here hx rfl (hb hby d1_11) rfl k) ?_
    show own_Gl _ _ _ _ (s₁.setTop (mkF m 12 #[.val (.ref r0), .val (.int (1 : Int32)), .val (.int (2 : Int32))] [(.int (2 : Int32)), (.ref r0)]))
    obtain ⟨cl29, Ar29, qk29, S29, M29, H29, G29⟩ := id P0
    have hin29 : ¬ ((2 : Int32) < 0 ∨ cl29.slots.size ≤ ((2 : Int32)).toNatClampNeg) := inb_of S29 ⟨by decide, by decide⟩
    have hat29 : cl29.slots[((2 : Int32)).toNatClampNeg]? = some (.int v2) := H29.at hin29 rfl
    refine own_go (fun t k => X0.iaload hx (j := (2 : Int32)) (v := (.int v2)) (by rw [e0]; exact Ar29.1) (State.isArrayOf_alike hZ.alike Ar29.2.1) Ar29.2.2 hin29 hat29 (g := (mkF m 12 #[.val (.ref r0), .val (.int (1 : Int32)), .val (.int (2 : Int32))] [(.int (2 : Int32)), (.ref r0)])) rfl rfl (hb hby d1_12) _ k) ?_
    show own_Gl _ _ _ _ (s₁.setTop (mkF m 13 #[.val (.ref r0), .val (.int (1 : Int32)), .val (.int (2 : Int32))] [(.int v2)]))
    refine own_go (fun t k => XS.aloadN X0.here hx rfl (hb hby d1_13) rfl rfl k) ?_
    show own_Gl _ _ _ _ (s₁.setTop (mkF m 14 #[.val (.ref r0), .val (.int (1 : Int32)), .val (.int (2 : Int32))] [(.ref r0), (.int v2)]))
    refine own_go (fun t k => XS.iloadN X0.here hx rfl (hb hby d1_14) rfl k) ?_
    show own_Gl _ _ _ _ (s₁.setTop (mkF m 15 #[.val (.ref r0), .val (.int (1 : Int32)), .val (.int (2 : Int32))] [(.int (1 : Int32)), (.ref r0), (.int v2)]))
    obtain ⟨cl30, Ar30, qk30, S30, M30, H30, G30⟩ := id P0
    have hin30 : ¬ ((1 : Int32) < 0 ∨ cl30.slots.size ≤ ((1 : Int32)).toNatClampNeg) := inb_of S30 ⟨by decide, by decide⟩
    have hat30 : cl30.slots[((1 : Int32)).toNatClampNeg]? = some (.int v1) := H30.at hin30 rfl
    refine own_go (fun t k => X0.iaload hx (j := (1 : Int32)) (v := (.int v1)) (by rw [e0]; exact Ar30.1) (State.isArrayOf_alike hZ.alike Ar30.2.1) Ar30.2.2 hin30 hat30 (g := (mkF m 15 #[.val (.ref r0), .val (.int (1 : Int32)), .val (.int (2 : Int32))] [(.int (1 : Int32)), (.ref r0), (.int v2)])) rfl rfl (hb hby d1_15) _ k) ?_
    show own_Gl _ _ _ _ (s₁.setTop (mkF m 16 #[.val (.ref r0), .val (.int (1 : Int32)), .val (.int (2 : Int32))] [(.int v1), (.int v2)]))
    by_cases hc16_31 : v2 < v1
    · refine own_go (fun t k => XS.icmpNo X0.here hx rfl (hb hby d1_16) rfl (tlt hc16_31).2.1 k) ?_
      show own_Gl _ _ _ _ (s₁.setTop (mkF m 19 #[.val (.ref r0), .val (.int (1 : Int32)), .val (.int (2 : Int32))] []))
      refine own_go (fun t k => XS.iloadN X0.here hx rfl (hb hby d1_19) rfl k) ?_
      show own_Gl _ _ _ _ (s₁.setTop (mkF m 20 #[.val (.ref r0), .val (.int (1 : Int32)), .val (.int (2 : Int32))] [(.int (2 : Int32))]))
      refine own_go (fun t k => XS.goto X0.here hx rfl (pc0 := 20) (pc' := 24) rfl (hb hby d1_20) (by decide) (by decide) k) ?_
      show own_Gl _ _ _ _ (s₁.setTop (mkF m 24 #[.val (.ref r0), .val (.int (1 : Int32)), .val (.int (2 : Int32))] [(.int (2 : Int32))]))
      refine own_go (fun t k => XS.istoreN X0.here hx rfl (hb hby d1_24) rfl (l' := #[.val (.ref r0), .val (.int (2 : Int32)), .val (.int (2 : Int32))]) rfl k) ?_
      show own_Gl _ _ _ _ (s₁.setTop (mkF m 25 #[.val (.ref r0), .val (.int (2 : Int32)), .val (.int (2 : Int32))] []))
      refine own_go (fun t k => XS.iinc X0.here hx rfl (hb hby d1_25) rfl (l' := #[.val (.ref r0), .val (.int (2 : Int32)), .val (.int (3 : Int32))]) rfl k) ?_
      show own_Gl _ _ _ _ (s₁.setTop (mkF m 28 #[.val (.ref r0), .val (.int (2 : Int32)), .val (.int (3 : Int32))] []))
      refine own_go (fun t k => XS.goto X0.here hx rfl (pc0 := 28) (pc' := 4) rfl (hb hby d1_28) (by decide) (by decide) k) ?_
      show own_Gl _ _ _ _ (s₁.setTop (mkF m 4 #[.val (.ref r0), .val (.int (2 : Int32)), .val (.int (3 : Int32))] []))
      refine own_go (fun t k => XS.iloadN X0.here hx rfl (hb hby d1_4) rfl k) ?_
      show own_Gl _ _ _ _ (s₁.setTop (mkF m 5 #[.val (.ref r0), .val (.int (2 : Int32)), .val (.int (3 : Int32))] [(.int (3 : Int32))]))
      refine own_go (fun t k => XS.aloadN X0.here hx rfl (hb hby d1_5) rfl rfl k) ?_
      show own_Gl _ _ _ _ (s₁.setTop (mkF m 6 #[.val (.ref r0), .val (.int (2 : Int32)), .val (.int (3 : Int32))] [(.ref r0), (.int (3 : Int32))]))
      obtain ⟨cl32, Ar32, -, S32, M32, -, -⟩ := id P0
      refine own_go (fun t k => X0.arraylength hx (by rw [e0]; exact Ar32.1) (State.isArrayOf_alike hZ.alike Ar32.2.1) (g := (mkF m 6 #[.val (.ref r0), .val (.int (2 : Int32)), .val (.int (3 : Int32))] [(.ref r0), (.int (3 : Int32))])) rfl rfl (hb hby d1_6) _ k) ?_
      rw [len_of S32 M32]
      show own_Gl _ _ _ _ (s₁.setTop (mkF m 7 #[.val (.ref r0), .val (.int (2 : Int32)), .val (.int (3 : Int32))] [(.int (4 : Int32)), (.int (3 : Int32))]))
      refine own_go (fun t k => XS.icmpNo X0.here hx rfl (hb hby d1_7) rfl (tlt (by decide : (3 : Int32) < (4 : Int32))).2.1 k) ?_
      show own_Gl _ _ _ _ (s₁.setTop (mkF m 10 #[.val (.ref r0), .val (.int (2 : Int32)), .val (.int (3 : Int32))] []))
      refine own_go (fun t k => XS.aloadN X0.here hx rfl (hb hby d1_10) rfl rfl k) ?_
      show own_Gl _ _ _ _ (s₁.setTop (mkF m 11 #[.val (.ref r0), .val (.int (2 : Int32)), .val (.int (3 : Int32))] [(.ref r0)]))
      refine own_go (fun t k => XS.iloadN X0.here hx rfl (hb hby d1_11) rfl k) ?_
      show own_Gl _ _ _ _ (s₁.setTop (mkF m 12 #[.val (.ref r0), .val (.int (2 : Int32)), .val (.int (3 : Int32))] [(.int (3 : Int32)), (.ref r0)]))
      obtain ⟨cl33, Ar33, qk33, S33, M33, H33, G33⟩ := id P0
      have hin33 : ¬ ((3 : Int32) < 0 ∨ cl33.slots.size ≤ ((3 : Int32)).toNatClampNeg) := inb_of S33 ⟨by decide, by decide⟩
      have hat33 : cl33.slots[((3 : Int32)).toNatClampNeg]? = some (.int v3) := H33.at hin33 rfl
      refine own_go (fun t k => X0.iaload hx (j := (3 : Int32)) (v := (.int v3)) (by rw [e0]; exact Ar33.1) (State.isArrayOf_alike hZ.alike Ar33.2.1) Ar33.2.2 hin33 hat33 (g := (mkF m 12 #[.val (.ref r0), .val (.int (2 : Int32)), .val (.int (3 : Int32))] [(.int (3 : Int32)), (.ref r0)])) rfl rfl (hb hby d1_12) _ k) ?_
      show own_Gl _ _ _ _ (s₁.setTop (mkF m 13 #[.val (.ref r0), .val (.int (2 : Int32)), .val (.int (3 : Int32))] [(.int v3)]))
      refine own_go (fun t k => XS.aloadN X0.here hx rfl (hb hby d1_13) rfl rfl k) ?_
      show own_Gl _ _ _ _ (s₁.setTop (mkF m 14 #[.val (.ref r0), .val (.int (2 : Int32)), .val (.int (3 : Int32))] [(.ref r0), (.int v3)]))
      refine own_go (fun t k => XS.iloadN X0.here hx rfl (hb hby d1_14) rfl k) ?_
      show own_Gl _ _ _ _ (s₁.setTop (mkF m 15 #[.val (.ref r0), .val (.int (2 : Int32)), .val (.int (3 : Int32))] [(.int (2 : Int32)), (.ref r0), (.int v3)]))
      obtain ⟨cl34, Ar34, qk34, S34, M34, H34, G34⟩ := id P0
      have hin34 : ¬ ((2 : Int32) < 0 ∨ cl34.slots.size ≤ ((2 : Int32)).toNatClampNeg) := inb_of S34 ⟨by decide, by decide⟩
      have hat34 : cl34.slots[((2 : Int32)).toNatClampNeg]? = some (.int v2) := H34.at hin34 rfl
      refine own_go (fun t k => X0.iaload hx (j := (2 : Int32)) (v := (.int v2)) (by rw [e0]; exact Ar34.1) (State.isArrayOf_alike hZ.alike Ar34.2.1) Ar34.2.2 hin34 hat34 (g := (mkF m 15 #[.val (.ref r0), .val (.int (2 : Int32)), .val (.int (3 : Int32))] [(.int (2 : Int32)), (.ref r0), (.int v3)])) rfl rfl (hb hby d1_15) _ k) ?_
      show own_Gl _ _ _ _ (s₁.setTop (mkF m 16 #[.val (.ref r0), .val (.int (2 : Int32)), .val (.int (3 : Int32))] [(.int v2), (.int v3)]))
      by_cases hc16_35 : v3 < v2
      · refine own_go (fun t k => XS.icmpNo X0.here hx rfl (hb hby d1_16) rfl (tlt hc16_35).2.1 k) ?_
        show own_Gl _ _ _ _ (s₁.setTop (mkF m 19 #[.val (.ref r0), .val (.int (2 : Int32)), .val (.int (3 : Int32))] []))
        refine own_go (fun t k => XS.iloadN X0.here hx rfl (hb hby d1_19) rfl k) ?_
        show own_Gl _ _ _ _ (s₁.setTop (mkF m 20 #[.val (.ref r0), .val (.int (2 : Int32)), .val (.int (3 : Int32))] [(.int (3 : Int32))]))
        refine own_go (fun t k => XS.goto X0.here hx rfl (pc0 := 20) (pc' := 24) rfl (hb hby d1_20) (by decide) (by decide) k) ?_
        show own_Gl _ _ _ _ (s₁.setTop (mkF m 24 #[.val (.ref r0), .val (.int (2 : Int32)), .val (.int (3 : Int32))] [(.int (3 : Int32))]))
        refine own_go (fun t k => XS.istoreN X0.here hx rfl (hb hby d1_24) rfl (l' := #[.val (.ref r0), .val (.int (3 : Int32)), .val (.int (3 : Int32))]) rfl k) ?_
        show own_Gl _ _ _ _ (s₁.setTop (mkF m 25 #[.val (.ref r0), .val (.int (3 : Int32)), .val (.int (3 : Int32))] []))
        refine own_go (fun t k => XS.iinc X0.here hx rfl (hb hby d1_25) rfl (l' := #[.val (.ref r0), .val (.int (3 : Int32)), .val (.int (4 : Int32))]) rfl k) ?_
        show own_Gl _ _ _ _ (s₁.setTop (mkF m 28 #[.val (.ref r0), .val (.int (3 : Int32)), .val (.int (4 : Int32))] []))
        refine own_go (fun t k => XS.goto X0.here hx rfl (pc0 := 28) (pc' := 4) rfl (hb hby d1_28) (by decide) (by decide) k) ?_
        show own_Gl _ _ _ _ (s₁.setTop (mkF m 4 #[.val (.ref r0), .val (.int (3 : Int32)), .val (.int (4 : Int32))] []))
        refine own_go (fun t k => XS.iloadN X0.here hx rfl (hb hby d1_4) rfl k) ?_
        show own_Gl _ _ _ _ (s₁.setTop (mkF m 5 #[.val (.ref r0), .val (.int (3 : Int32)), .val (.int (4 : Int32))] [(.int (4 : Int32))]))
        refine own_go (fun t k => XS.aloadN X0.here hx rfl (hb hby d1_5) rfl rfl k) ?_
        show own_Gl _ _ _ _ (s₁.setTop (mkF m 6 #[.val (.ref r0), .val (.int (3 : Int32)), .val (.int (4 : Int32))] [(.ref r0), (.int (4 : Int32))]))
        obtain ⟨cl36, Ar36, -, S36, M36, -, -⟩ := id P0
        refine own_go (fun t k => X0.arraylength hx (by rw [e0]; exact Ar36.1) (State.isArrayOf_alike hZ.alike Ar36.2.1) (g := (mkF m 6 #[.val (.ref r0), .val (.int (3 : Int32)), .val (.int (4 : Int32))] [(.ref r0), (.int (4 : Int32))])) rfl rfl (hb hby d1_6) _ k) ?_
        rw [len_of S36 M36]
        show own_Gl _ _ _ _ (s₁.setTop (mkF m 7 #[.val (.ref r0), .val (.int (3 : Int32)), .val (.int (4 : Int32))] [(.int (4 : Int32)), (.int (4 : Int32))]))
        refine own_go (fun t k => XS.icmpYes X0.here hx rfl (pc0 := 7) (pc' := 31) rfl (hb hby d1_7) rfl (flt (by decide : ¬ ((4 : Int32) < (4 : Int32)))).2.1 (by decide) (by decide) k) ?_
        show own_Gl _ _ _ _ (s₁.setTop (mkF m 31 #[.val (.ref r0), .val (.int (3 : Int32)), .val (.int (4 : Int32))] []))
        refine own_go (fun t k => XS.iloadN X0.here hx rfl (hb hby d1_31) rfl k) ?_
        show own_Gl _ _ _ _ (s₁.setTop (mkF m 32 #[.val (.ref r0), .val (.int (3 : Int32)), .val (.int (4 : Int32))] [(.int (3 : Int32))]))
        obtain ⟨fs, hr, hrun, hended, hW, hsame⟩ := X0.leave (v := some (.int (3 : Int32))) (fun h => by rw [Bd.returns] at h; cases h)
        refine own_fin (Jvm.RoadKit.retOut X0 hx Bd.returns rfl (Or.inl ⟨rfl, Or.inl rfl, _, rfl⟩) (hb hby d1_32) hr) hrun hended ⟨_, _, rfl, ?_, ⟨_, rfl⟩, hW, hsame.mono (by decide) (by decide)⟩
        show Q1_4 Z r0 kA v0 v1 v2 v3 h0 n0 _ s₁.heap _
        rw [e0]
        exact ⟨N0, by rw [f1_4, if_pos hc16_27, if_pos hc16_31, if_pos hc16_35], rfl⟩
      · refine own_go (fun t k => XS.icmpYes X0.here hx rfl (pc0 := 16) (pc' := 23) rfl (hb hby d1_16) rfl (flt hc16_35).2.1 (by decide) (by decide) k) ?_
        show own_Gl _ _ _ _ (s₁.setTop (mkF m 23 #[.val (.ref r0), .val (.int (2 : Int32)), .val (.int (3 : Int32))] []))
        refine own_go (fun t k => XS.iloadN X0.here hx rfl (hb hby d1_23) rfl k) ?_
        show own_Gl _ _ _ _ (s₁.setTop (mkF m 24 #[.val (.ref r0), .val (.int (2 : Int32)), .val (.int (3 : Int32))] [(.int (2 : Int32))]))
        refine own_go (fun t k => XS.istoreN X0.here hx rfl (hb hby d1_24) rfl (l' := #[.val (.ref r0), .val (.int (2 : Int32)), .val (.int (3 : Int32))]) rfl k) ?_
        show own_Gl _ _ _ _ (s₁.setTop (mkF m 25 #[.val (.ref r0), .val (.int (2 : Int32)), .val (.int (3 : Int32))] []))
        refine own_go (fun t k => XS.iinc X0.here hx rfl (hb hby d1_25) rfl (l' := #[.val (.ref r0), .val (.int (2 : Int32)), .val (.int (4 : Int32))]) rfl k) ?_
        show own_Gl _ _ _ _ (s₁.setTop (mkF m 28 #[.val (.ref r0), .val (.int (2 : Int32)), .val (.int (4 : Int32))] []))
        refine own_go (fun t k => XS.goto X0.here hx rfl (pc0 := 28) (pc' := 4) rfl (hb hby d1_28) (by decide) (by decide) k) ?_
        show own_Gl _ _ _ _ (s₁.setTop (mkF m 4 #[.val (.ref r0), .val (.int (2 : Int32)), .val (.int (4 : Int32))] []))
        refine own_go (fun t k => XS.iloadN X0.here hx rfl (hb hby d1_4) rfl k) ?_
        show own_Gl _ _ _ _ (s₁.setTop (mkF m 5 #[.val (.ref r0), .val (.int (2 : Int32)), .val (.int (4 : Int32))] [(.int (4 : Int32))]))
        refine own_go (fun t k => XS.aloadN X0.here hx rfl (hb hby d1_5) rfl rfl k) ?_
        show own_Gl _ _ _ _ (s₁.setTop (mkF m 6 #[.val (.ref r0), .val (.int (2 : Int32)), .val (.int (4 : Int32))] [(.ref r0), (.int (4 : Int32))]))
        obtain ⟨cl37, Ar37, -, S37, M37, -, -⟩ := id P0
        refine own_go (fun t k => X0.arraylength hx (by rw [e0]; exact Ar37.1) (State.isArrayOf_alike hZ.alike Ar37.2.1) (g := (mkF m 6 #[.val (.ref r0), .val (.int (2 : Int32)), .val (.int (4 : Int32))] [(.ref r0), (.int (4 : Int32))])) rfl rfl (hb hby d1_6) _ k) ?_
        rw [len_of S37 M37]
        show own_Gl _ _ _ _ (s₁.setTop (mkF m 7 #[.val (.ref r0), .val (.int (2 : Int32)), .val (.int (4 : Int32))] [(.int (4 : Int32)), (.int (4 : Int32))]))
        refine own_go (fun t k => XS.icmpYes X0.here hx rfl (pc0 := 7) (pc' := 31) rfl (hb hby d1_7) rfl (flt (by decide : ¬ ((4 : Int32) < (4 : Int32)))).2.1 (by decide) (by decide) k) ?_
        show own_Gl _ _ _ _ (s₁.setTop (mkF m 31 #[.val (.ref r0), .val (.int (2 : Int32)), .val (.int (4 : Int32))] []))
        refine own_go (fun t k => XS.iloadN X0.here hx rfl (hb hby d1_31) rfl k) ?_
        show own_Gl _ _ _ _ (s₁.setTop (mkF m 32 #[.val (.ref r0), .val (.int (2 : Int32)), .val (.int (4 : Int32))] [(.int (2 : Int32))]))
        obtain ⟨fs, hr, hrun, hended, hW, hsame⟩ := X0.leave (v := some (.int (2 : Int32))) (fun h => by rw [Bd.returns] at h; cases h)
        refine own_fin (Jvm.RoadKit.retOut X0 hx Bd.returns rfl (Or.inl ⟨rfl, Or.inl rfl, _, rfl⟩) (hb hby d1_32) hr) hrun hended ⟨_, _, rfl, ?_, ⟨_, rfl⟩, hW, hsame.mono (by decide) (by decide)⟩
        show Q1_4 Z r0 kA v0 v1 v2 v3 h0 n0 _ s₁.heap _
        rw [e0]
        exact ⟨N0, by rw [f1_4, if_pos hc16_27, if_pos hc16_31, if_neg hc16_35], rfl⟩
    · refine own_go (fun t k => XS.icmpYes X0.here hx rfl (pc0 := 16) (pc' := 23) rfl (hb hby d1_16) rfl (flt hc16_31).2.1 (by decide) (by decide) k) ?_
      show own_Gl _ _ _ _ (s₁.setTop (mkF m 23 #[.val (.ref r0), .val (.int (1 : Int32)), .val (.int (2 : Int32))] []))
      refine own_go (fun t k => XS.iloadN X0.here hx rfl (hb hby d1_23) rfl k) ?_
      show own_Gl _ _ _ _ (s₁.setTop (mkF m 24 #[.val (.ref r0), .val (.int (1 : Int32)), .val (.int (2 : Int32))] [(.int (1 : Int32))]))
      refine own_go (fun t k => XS.istoreN X0.here hx rfl (hb hby d1_24) rfl (l' := #[.val (.ref r0), .val (.int (1 : Int32)), .val (.int (2 : Int32))]) rfl k) ?_
      show own_Gl _ _ _ _ (s₁.setTop (mkF m 25 #[.val (.ref r0), .val (.int (1 : Int32)), .val (.int (2 : Int32))] []))
      refine own_go (fun t k => XS.iinc X0.here hx rfl (hb hby d1_25) rfl (l' := #[.val (.ref r0), .val (.int (1 : Int32)), .val (.int (3 : Int32))]) rfl k) ?_
      show own_Gl _ _ _ _ (s₁.setTop (mkF m 28 #[.val (.ref r0), .val (.int (1 : Int32)), .val (.int (3 : Int32))] []))
      refine own_go (fun t k => XS.goto X0.here hx rfl (pc0 := 28) (pc' := 4) rfl (hb hby d1_28) (by decide) (by decide) k) ?_
      show own_Gl _ _ _ _ (s₁.setTop (mkF m 4 #[.val (.ref r0), .val (.int (1 : Int32)), .val (.int (3 : Int32))] []))
      refine own_go (fun t k => XS.iloadN X0.here hx rfl (hb hby d1_4) rfl k) ?_
      show own_Gl _ _ _ _ (s₁.setTop (mkF m 5 #[.val (.ref r0), .val (.int (1 : Int32)), .val (.int (3 : Int32))] [(.int (3 : Int32))]))
      refine own_go (fun t k => XS.aloadN X0.here hx rfl (hb hby d1_5) rfl rfl k) ?_
      show own_Gl _ _ _ _ (s₁.setTop (mkF m 6 #[.val (.ref r0), .val (.int (1 : Int32)), .val (.int (3 : Int32))] [(.ref r0), (.int (3 : Int32))]))
      obtain ⟨cl38, Ar38, -, S38, M38, -, -⟩ := id P0
      refine own_go (fun t k => X0.arraylength hx (by rw [e0]; exact Ar38.1) (State.isArrayOf_alike hZ.alike Ar38.2.1) (g := (mkF m 6 #[.val (.ref r0), .val (.int (1 : Int32)), .val (.int (3 : Int32))] [(.ref r0), (.int (3 : Int32))])) rfl rfl (hb hby d1_6) _ k) ?_
      rw [len_of S38 M38]
      show own_Gl _ _ _ _ (s₁.setTop (mkF m 7 #[.val (.ref r0), .val (.int (1 : Int32)), .val (.int (3 : Int32))] [(.int (4 : Int32)), (.int (3 : Int32))]))
      refine own_go (fun t k => XS.icmpNo X0.here hx rfl (hb hby d1_7) rfl (tlt (by decide : (3 : Int32) < (4 : Int32))).2.1 k) ?_
      show own_Gl _ _ _ _ (s₁.setTop (mkF m 10 #[.val (.ref r0), .val (.int (1 : Int32)), .val (.int (3 : Int32))] []))
      refine own_go (fun t k => XS.aloadN X0.here hx rfl (hb hby d1_10) rfl rfl k) ?_
      show own_Gl _ _ _ _ (s₁.setTop (mkF m 11 #[.val (.ref r0), .val (.int (1 : Int32)), .val (.int (3 : Int32))] [(.ref r0)]))
      refine own_go (fun t k => XS.iloadN X0.here hx rfl (hb hby d1_11) rfl k) ?_
      show own_Gl _ _ _ _ (s₁.setTop (mkF m 12 #[.val (.ref r0), .val (.int (1 : Int32)), .val (.int (3 : Int32))] [(.int (3 : Int32)), (.ref r0)]))
      obtain ⟨cl39, Ar39, qk39, S39, M39, H39, G39⟩ := id P0
      have hin39 : ¬ ((3 : Int32) < 0 ∨ cl39.slots.size ≤ ((3 : Int32)).toNatClampNeg) := inb_of S39 ⟨by decide, by decide⟩
      have hat39 : cl39.slots[((3 : Int32)).toNatClampNeg]? = some (.int v3) := H39.at hin39 rfl
      refine own_go (fun t k => X0.iaload hx (j := (3 : Int32)) (v := (.int v3)) (by rw [e0]; exact Ar39.1) (State.isArrayOf_alike hZ.alike Ar39.2.1) Ar39.2.2 hin39 hat39 (g := (mkF m 12 #[.val (.ref r0), .val (.int (1 : Int32)), .val (.int (3 : Int32))] [(.int (3 : Int32)), (.ref r0)])) rfl rfl (hb hby d1_12) _ k) ?_
      show own_Gl _ _ _ _ (s₁.setTop (mkF m 13 #[.val (.ref r0), .val (.int (1 : Int32)), .val (.int (3 : Int32))] [(.int v3)]))
      refine own_go (fun t k => XS.aloadN X0.here hx rfl (hb hby d1_13) rfl rfl k) ?_
      show own_Gl _ _ _ _ (s₁.setTop (mkF m 14 #[.val (.ref r0), .val (.int (1 : Int32)), .val (.int (3 : Int32))] [(.ref r0), (.int v3)]))
      refine own_go (fun t k => XS.iloadN X0.here hx rfl (hb hby d1_14) rfl k) ?_
      show own_Gl _ _ _ _ (s₁.setTop (mkF m 15 #[.val (.ref r0), .val (.int (1 : Int32)), .val (.int (3 : Int32))] [(.int (1 : Int32)), (.ref r0), (.int v3)]))
      obtain ⟨cl40, Ar40, qk40, S40, M40, H40, G40⟩ := id P0
      have hin40 : ¬ ((1 : Int32) < 0 ∨ cl40.slots.size ≤ ((1 : Int32)).toNatClampNeg) := inb_of S40 ⟨by decide, by decide⟩
      have hat40 : cl40.slots[((1 : Int32)).toNatClampNeg]? = some (.int v1) := H40.at hin40 rfl
      refine own_go (fun t k => X0.iaload hx (j := (1 : Int32)) (v := (.int v1)) (by rw [e0]; exact Ar40.1) (State.isArrayOf_alike hZ.alike Ar40.2.1) Ar40.2.2 hin40 hat40 (g := (mkF m 15 #[.val (.ref r0), .val (.int (1 : Int32)), .val (.int (3 : Int32))] [(.int (1 : Int32)), (.ref r0), (.int v3)])) rfl rfl (hb hby d1_15) _ k) ?_
      show own_Gl _ _ _ _ (s₁.setTop (mkF m 16 #[.val (.ref r0), .val (.int (1 : Int32)), .val (.int (3 : Int32))] [(.int v1), (.int v3)]))
      by_cases hc16_41 : v3 < v1
      · refine own_go (fun t k => XS.icmpNo X0.here hx rfl (hb hby d1_16) rfl (tlt hc16_41).2.1 k) ?_
        show own_Gl _ _ _ _ (s₁.setTop (mkF m 19 #[.val (.ref r0), .val (.int (1 : Int32)), .val (.int (3 : Int32))] []))
        refine own_go (fun t k => XS.iloadN X0.here hx rfl (hb hby d1_19) rfl k) ?_
        show own_Gl _ _ _ _ (s₁.setTop (mkF m 20 #[.val (.ref r0), .val (.int (1 : Int32)), .val (.int (3 : Int32))] [(.int (3 : Int32))]))
        refine own_go (fun t k => XS.goto X0.here hx rfl (pc0 := 20) (pc' := 24) rfl (hb hby d1_20) (by decide) (by decide) k) ?_
        show own_Gl _ _ _ _ (s₁.setTop (mkF m 24 #[.val (.ref r0), .val (.int (1 : Int32)), .val (.int (3 : Int32))] [(.int (3 : Int32))]))
        refine own_go (fun t k => XS.istoreN X0.here hx rfl (hb hby d1_24) rfl (l' := #[.val (.ref r0), .val (.int (3 : Int32)), .val (.int (3 : Int32))]) rfl k) ?_
        show own_Gl _ _ _ _ (s₁.setTop (mkF m 25 #[.val (.ref r0), .val (.int (3 : Int32)), .val (.int (3 : Int32))] []))
        refine own_go (fun t k => XS.iinc X0.here hx rfl (hb hby d1_25) rfl (l' := #[.val (.ref r0), .val (.int (3 : Int32)), .val (.int (4 : Int32))]) rfl k) ?_
        show own_Gl _ _ _ _ (s₁.setTop (mkF m 28 #[.val (.ref r0), .val (.int (3 : Int32)), .val (.int (4 : Int32))] []))
        refine own_go (fun t k => XS.goto X0.here hx rfl (pc0 := 28) (pc' := 4) rfl (hb hby d1_28) (by decide) (by decide) k) ?_
        show own_Gl _ _ _ _ (s₁.setTop (mkF m 4 #[.val (.ref r0), .val (.int (3 : Int32)), .val (.int (4 : Int32))] []))
        refine own_go (fun t k => XS.iloadN X0.here hx rfl (hb hby d1_4) rfl k) ?_
        show own_Gl _ _ _ _ (s₁.setTop (mkF m 5 #[.val (.ref r0), .val (.int (3 : Int32)), .val (.int (4 : Int32))] [(.int (4 : Int32))]))
        refine own_go (fun t k => XS.aloadN X0.here hx rfl (hb hby d1_5) rfl rfl k) ?_
        show own_Gl _ _ _ _ (s₁.setTop (mkF m 6 #[.val (.ref r0), .val (.int (3 : Int32)), .val (.int (4 : Int32))] [(.ref r0), (.int (4 : Int32))]))
        obtain ⟨cl42, Ar42, -, S42, M42, -, -⟩ := id P0
        refine own_go (fun t k => X0.arraylength hx (by rw [e0]; exact Ar42.1) (State.isArrayOf_alike hZ.alike Ar42.2.1) (g := (mkF m 6 #[.val (.ref r0), .val (.int (3 : Int32)), .val (.int (4 : Int32))] [(.ref r0), (.int (4 : Int32))])) rfl rfl (hb hby d1_6) _ k) ?_
        rw [len_of S42 M42]
        show own_Gl _ _ _ _ (s₁.setTop (mkF m 7 #[.val (.ref r0), .val (.int (3 : Int32)), .val (.int (4 : Int32))] [(.int (4 : Int32)), (.int (4 : Int32))]))
        refine own_go (fun t k => XS.icmpYes X0.here hx rfl (pc0 := 7) (pc' := 31) rfl (hb hby d1_7) rfl (flt (by decide : ¬ ((4 : Int32) < (4 : Int32)))).2.1 (by decide) (by decide) k) ?_
        show own_Gl _ _ _ _ (s₁.setTop (mkF m 31 #[.val (.ref r0), .val (.int (3 : Int32)), .val (.int (4 : Int32))] []))
        refine own_go (fun t k => XS.iloadN X0.here hx rfl (hb hby d1_31) rfl k) ?_
        show own_Gl _ _ _ _ (s₁.setTop (mkF m 32 #[.val (.ref r0), .val (.int (3 : Int32)), .val (.int (4 : Int32))] [(.int (3 : Int32))]))
        obtain ⟨fs, hr, hrun, hended, hW, hsame⟩ := X0.leave (v := some (.int (3 : Int32))) (fun h => by rw [Bd.returns] at h; cases h)
        refine own_fin (Jvm.RoadKit.retOut X0 hx Bd.returns rfl (Or.inl ⟨rfl, Or.inl rfl, _, rfl⟩) (hb hby d1_32) hr) hrun hended ⟨_, _, rfl, ?_, ⟨_, rfl⟩, hW, hsame.mono (by decide) (by decide)⟩
        show Q1_4 Z r0 kA v0 v1 v2 v3 h0 n0 _ s₁.heap _
        rw [e0]
        exact ⟨N0, by rw [f1_4, if_pos hc16_27, if_neg hc16_31, if_pos hc16_41], rfl⟩
      · refine own_go (fun t k => XS.icmpYes X0.here hx rfl (pc0 := 16) (pc' := 23) rfl (hb hby d1_16) rfl (flt hc16_41).2.1 (by decide) (by decide) k) ?_
        show own_Gl _ _ _ _ (s₁.setTop (mkF m 23 #[.val (.ref r0), .val (.int (1 : Int32)), .val (.int (3 : Int32))] []))
        refine own_go (fun t k => XS.iloadN X0.here hx rfl (hb hby d1_23) rfl k) ?_
        show own_Gl _ _ _ _ (s₁.setTop (mkF m 24 #[.val (.ref r0), .val (.int (1 : Int32)), .val (.int (3 : Int32))] [(.int (1 : Int32))]))
        refine own_go (fun t k => XS.istoreN X0.here hx rfl (hb hby d1_24) rfl (l' := #[.val (.ref r0), .val (.int (1 : Int32)), .val (.int (3 : Int32))]) rfl k) ?_
        show own_Gl _ _ _ _ (s₁.setTop (mkF m 25 #[.val (.ref r0), .val (.int (1 : Int32)), .val (.int (3 : Int32))] []))
        refine own_go (fun t k => XS.iinc X0.here hx rfl (hb hby d1_25) rfl (l' := #[.val (.ref r0), .val (.int (1 : Int32)), .val (.int (4 : Int32))]) rfl k) ?_
        show own_Gl _ _ _ _ (s₁.setTop (mkF m 28 #[.val (.ref r0), .val (.int (1 : Int32)), .val (.int (4 : Int32))] []))
        refine own_go (fun t k => XS.goto X0.here hx rfl (pc0 := 28) (pc' := 4) rfl (hb hby d1_28) (by decide) (by decide) k) ?_
        show own_Gl _ _ _ _ (s₁.setTop (mkF m 4 #[.val (.ref r0), .val (.int (1 : Int32)), .val (.int (4 : Int32))] []))
        refine own_go (fun t k => XS.iloadN X0.here hx rfl (hb hby d1_4) rfl k) ?_
        show own_Gl _ _ _ _ (s₁.setTop (mkF m 5 #[.val (.ref r0), .val (.int (1 : Int32)), .val (.int (4 : Int32))] [(.int (4 : Int32))]))
        refine own_go (fun t k => XS.aloadN X0.here hx rfl (hb hby d1_5) rfl rfl k) ?_
        show own_Gl _ _ _ _ (s₁.setTop (mkF m 6 #[.val (.ref r0), .val (.int (1 : Int32)), .val (.int (4 : Int32))] [(.ref r0), (.int (4 : Int32))]))
        obtain ⟨cl43, Ar43, -, S43, M43, -, -⟩ := id P0
        refine own_go (fun t k => X0.arraylength hx (by rw [e0]; exact Ar43.1) (State.isArrayOf_alike hZ.alike Ar43.2.1) (g := (mkF m 6 #[.val (.ref r0), .val (.int (1 : Int32)), .val (.int (4 : Int32))] [(.ref r0), (.int (4 : Int32))])) rfl rfl (hb hby d1_6) _ k) ?_
        rw [len_of S43 M43]
        show own_Gl _ _ _ _ (s₁.setTop (mkF m 7 #[.val (.ref r0), .val (.int (1 : Int32)), .val (.int (4 : Int32))] [(.int (4 : Int32)), (.int (4 : Int32))]))
        refine own_go (fun t k => XS.icmpYes X0.here hx rfl (pc0 := 7) (pc' := 31) rfl (hb hby d1_7) rfl (flt (by decide : ¬ ((4 : Int32) < (4 : Int32)))).2.1 (by decide) (by decide) k) ?_
        show own_Gl _ _ _ _ (s₁.setTop (mkF m 31 #[.val (.ref r0), .val (.int (1 : Int32)), .val (.int (4 : Int32))] []))
        refine own_go (fun t k => XS.iloadN X0.here hx rfl (hb hby d1_31) rfl k) ?_
        show own_Gl _ _ _ _ (s₁.setTop (mkF m 32 #[.val (.ref r0), .val (.int (1 : Int32)), .val (.int (4 : Int32))] [(.int (1 : Int32))]))
        obtain ⟨fs, hr, hrun, hended, hW, hsame⟩ := X0.leave (v := some (.int (1 : Int32))) (fun h => by rw [Bd.returns] at h; cases h)
        refine own_fin (Jvm.RoadKit.retOut X0 hx Bd.returns rfl (Or.inl ⟨rfl, Or.inl rfl, _, rfl⟩) (hb hby d1_32) hr) hrun hended ⟨_, _, rfl, ?_, ⟨_, rfl⟩, hW, hsame.mono (by decide) (by decide)⟩
        show Q1_4 Z r0 kA v0 v1 v2 v3 h0 n0 _ s₁.heap _
        rw [e0]
        exact ⟨N0, by rw [f1_4, if_pos hc16_27, if_neg hc16_31, if_neg hc16_41], rfl⟩
  · refine own_go (fun t k => XS.icmpYes X0.here hx rfl (pc0 := 16) (pc' := 23) rfl (hb hby d1_16) rfl (flt hc16_27).2.1 (by decide) (by decide) k) ?_
    show own_Gl _ _ _ _ (s₁.setTop (mkF m 23 #[.val (.ref r0), .val (.int (0 : Int32)), .val (.int (1 : Int32))] []))
    refine own_go (fun t k => XS.iloadN X0.here hx rfl (hb hby d1_23) rfl k) ?_
    show own_Gl _ _ _ _ (s₁.setTop (mkF m 24 #[.val (.ref r0), .val (.int (0 : Int32)), .val (.int (1 : Int32))] [(.int (0 : Int32))]))
    refine own_go (fun t k => XS.istoreN X0.here hx rfl (hb hby d1_24) rfl (l' := #[.val (.ref r0), .val (.int (0 : Int32)), .val (.int (1 : Int32))]) rfl k) ?_
    show own_Gl _ _ _ _ (s₁.setTop (mkF m 25 #[.val (.ref r0), .val (.int (0 : Int32)), .val (.int (1 : Int32))] []))
    refine own_go (fun t k => XS.iinc X0.here hx rfl (hb hby d1_25) rfl (l' := #[.val (.ref r0), .val (.int (0 : Int32)), .val (.int (2 : Int32))]) rfl k) ?_
    show own_Gl _ _ _ _ (s₁.setTop (mkF m 28 #[.val (.ref r0), .val (.int (0 : Int32)), .val (.int (2 : Int32))] []))
    refine own_go (fun t k => XS.goto X0.here hx rfl (pc0 := 28) (pc' := 4) rfl (hb hby d1_28) (by decide) (by decide) k) ?_
    show own_Gl _ _ _ _ (s₁.setTop (mkF m 4 #[.val (.ref r0), .val (.int (0 : Int32)), .val (.int (2 : Int32))] []))
    refine own_go (fun t k => XS.iloadN X0.here hx rfl (hb hby d1_4) rfl k) ?_
    show own_Gl _ _ _ _ (s₁.setTop (mkF m 5 #[.val (.ref r0), .val (.int (0 : Int32)), .val (.int (2 : Int32))] [(.int (2 : Int32))]))
    refine own_go (fun t k => XS.aloadN X0.here hx rfl (hb hby d1_5) rfl rfl k) ?_
    show own_Gl _ _ _ _ (s₁.setTop (mkF m 6 #[.val (.ref r0), .val (.int (0 : Int32)), .val (.int (2 : Int32))] [(.ref r0), (.int (2 : Int32))]))
    obtain ⟨cl44, Ar44, -, S44, M44, -, -⟩ := id P0
    refine own_go (fun t k => X0.arraylength hx (by rw [e0]; exact Ar44.1) (State.isArrayOf_alike hZ.alike Ar44.2.1) (g := (mkF m 6 #[.val (.ref r0), .val (.int (0 : Int32)), .val (.int (2 : Int32))] [(.ref r0), (.int (2 : Int32))])) rfl rfl (hb hby d1_6) _ k) ?_
    rw [len_of S44 M44]
    show own_Gl _ _ _ _ (s₁.setTop (mkF m 7 #[.val (.ref r0), .val (.int (0 : Int32)), .val (.int (2 : Int32))] [(.int (4 : Int32)), (.int (2 : Int32))]))
    refine own_go (fun t k => XS.icmpNo X0.here hx rfl (hb hby d1_7) rfl (tlt (by decide : (2 : Int32) < (4 : Int32))).2.1 k) ?_
    show own_Gl _ _ _ _ (s₁.setTop (mkF m 10 #[.val (.ref r0), .val (.int (0 : Int32)), .val (.int (2 : Int32))] []))
    refine own_go (fun t k => XS.aloadN X0.here hx rfl (hb hby d1_10) rfl rfl k) ?_
    show own_Gl _ _ _ _ (s₁.setTop (mkF m 11 #[.val (.ref r0), .val (.int (0 : Int32)), .val (.int (2 : Int32))] [(.ref r0)]))
    refine own_go (fun t k => XS.iloadN X0.here hx rfl (hb hby d1_11) rfl k) ?_
    show own_Gl _ _ _ _ (s₁.setTop (mkF m 12 #[.val (.ref r0), .val (.int (0 : Int32)), .val (.int (2 : Int32))] [(.int (2 : Int32)), (.ref r0)]))
    obtain ⟨cl45, Ar45, qk45, S45, M45, H45, G45⟩ := id P0
    have hin45 : ¬ ((2 : Int32) < 0 ∨ cl45.slots.size ≤ ((2 : Int32)).toNatClampNeg) := inb_of S45 ⟨by decide, by decide⟩
    have hat45 : cl45.slots[((2 : Int32)).toNatClampNeg]? = some (.int v2) := H45.at hin45 rfl
    refine own_go (fun t k => X0.iaload hx (j := (2 : Int32)) (v := (.int v2)) (by rw [e0]; exact Ar45.1) (State.isArrayOf_alike hZ.alike Ar45.2.1) Ar45.2.2 hin45 hat45 (g := (mkF m 12 #[.val (.ref r0), .val (.int (0 : Int32)), .val (.int (2 : Int32))] [(.int (2 : Int32)), (.ref r0)])) rfl rfl (hb hby d1_12) _ k) ?_
    show own_Gl _ _ _ _ (s₁.setTop (mkF m 13 #[.val (.ref r0), .val (.int (0 : Int32)), .val (.int (2 : Int32))] [(.int v2)]))
    refine own_go (fun t k => XS.aloadN X0.here hx rfl (hb hby d1_13) rfl rfl k) ?_
    show own_Gl _ _ _ _ (s₁.setTop (mkF m 14 #[.val (.ref r0), .val (.int (0 : Int32)), .val (.int (2 : Int32))] [(.ref r0), (.int v2)]))
    refine own_go (fun t k => XS.iloadN X0.here hx rfl (hb hby d1_14) rfl k) ?_
    show own_Gl _ _ _ _ (s₁.setTop (mkF m 15 #[.val (.ref r0), .val (.int (0 : Int32)), .val (.int (2 : Int32))] [(.int (0 : Int32)), (.ref r0), (.int v2)]))
    obtain ⟨cl46, Ar46, qk46, S46, M46, H46, G46⟩ := id P0
    have hin46 : ¬ ((0 : Int32) < 0 ∨ cl46.slots.size ≤ ((0 : Int32)).toNatClampNeg) := inb_of S46 ⟨by decide, by decide⟩
    have hat46 : cl46.slots[((0 : Int32)).toNatClampNeg]? = some (.int v0) := H46.at hin46 rfl
    refine own_go (fun t k => X0.iaload hx (j := (0 : Int32)) (v := (.int v0)) (by rw [e0]; exact Ar46.1) (State.isArrayOf_alike hZ.alike Ar46.2.1) Ar46.2.2 hin46 hat46 (g := (mkF m 15 #[.val (.ref r0), .val (.int (0 : Int32)), .val (.int (2 : Int32))] [(.int (0 : Int32)), (.ref r0), (.int v2)])) rfl rfl (hb hby d1_15) _ k) ?_
    show own_Gl _ _ _ _ (s₁.setTop (mkF m 16 #[.val (.ref r0), .val (.int (0 : Int32)), .val (.int (2 : Int32))] [(.int v0), (.int v2)]))
    by_cases hc16_47 : v2 < v0
    · refine own_go (fun t k => XS.icmpNo X0.here hx rfl (hb hby d1_16) rfl (tlt hc16_47).2.1 k) ?_
      show own_Gl _ _ _ _ (s₁.setTop (mkF m 19 #[.val (.ref r0), .val (.int (0 : Int32)), .val (.int (2 : Int32))] []))
      refine own_go (fun t k => XS.iloadN X0.here hx rfl (hb hby d1_19) rfl k) ?_
      show own_Gl _ _ _ _ (s₁.setTop (mkF m 20 #[.val (.ref r0), .val (.int (0 : Int32)), .val (.int (2 : Int32))] [(.int (2 : Int32))]))
      refine own_go (fun t k => XS.goto X0.here hx rfl (pc0 := 20) (pc' := 24) rfl (hb hby d1_20) (by decide) (by decide) k) ?_
      show own_Gl _ _ _ _ (s₁.setTop (mkF m 24 #[.val (.ref r0), .val (.int (0 : Int32)), .val (.int (2 : Int32))] [(.int (2 : Int32))]))
      refine own_go (fun t k => XS.istoreN X0.here hx rfl (hb hby d1_24) rfl (l' := #[.val (.ref r0), .val (.int (2 : Int32)), .val (.int (2 : Int32))]) rfl k) ?_
      show own_Gl _ _ _ _ (s₁.setTop (mkF m 25 #[.val (.ref r0), .val (.int (2 : Int32)), .val (.int (2 : Int32))] []))
      refine own_go (fun t k => XS.iinc X0.here hx rfl (hb hby d1_25) rfl (l' := #[.val (.ref r0), .val (.int (2 : Int32)), .val (.int (3 : Int32))]) rfl k) ?_
      show own_Gl _ _ _ _ (s₁.setTop (mkF m 28 #[.val (.ref r0), .val (.int (2 : Int32)), .val (.int (3 : Int32))] []))
      refine own_go (fun t k => XS.goto X0.here hx rfl (pc0 := 28) (pc' := 4) rfl (hb hby d1_28) (by decide) (by decide) k) ?_
      show own_Gl _ _ _ _ (s₁.setTop (mkF m 4 #[.val (.ref r0), .val (.int (2 : Int32)), .val (.int (3 : Int32))] []))
      refine own_go (fun t k => XS.iloadN X0.here hx rfl (hb hby d1_4) rfl k) ?_
      show own_Gl _ _ _ _ (s₁.setTop (mkF m 5 #[.val (.ref r0), .val (.int (2 : Int32)), .val (.int (3 : Int32))] [(.int (3 : Int32))]))
      refine own_go (fun t k => XS.aloadN X0.here hx rfl (hb hby d1_5) rfl rfl k) ?_
      show own_Gl _ _ _ _ (s₁.setTop (mkF m 6 #[.val (.ref r0), .val (.int (2 : Int32)), .val (.int (3 : Int32))] [(.ref r0), (.int (3 : Int32))]))
      obtain ⟨cl48, Ar48, -, S48, M48, -, -⟩ := id P0
      refine own_go (fun t k => X0.arraylength hx (by rw [e0]; exact Ar48.1) (State.isArrayOf_alike hZ.alike Ar48.2.1) (g := (mkF m 6 #[.val (.ref r0), .val (.int (2 : Int32)), .val (.int (3 : Int32))] [(.ref r0), (.int (3 : Int32))])) rfl rfl (hb hby d1_6) _ k) ?_
      rw [len_of S48 M48]
      show own_Gl _ _ _ _ (s₁.setTop (mkF m 7 #[.val (.ref r0), .val (.int (2 : Int32)), .val (.int (3 : Int32))] [(.int (4 : Int32)), (.int (3 : Int32))]))
      refine own_go (fun t k => XS.icmpNo X0.here hx rfl (hb hby d1_7) rfl (tlt (by decide : (3 : Int32) < (4 : Int32))).2.1 k) ?_
      show own_Gl _ _ _ _ (s₁.setTop (mkF m 10 #[.val (.ref r0), .val (.int (2 : Int32)), .val (.int (3 : Int32))] []))
      refine own_go (fun t k => XS.aloadN X0.here hx rfl (hb hby d1_10) rfl rfl k) ?_
      show own_Gl _ _ _ _ (s₁.setTop (mkF m 11 #[.val (.ref r0), .val (.int (2 : Int32)), .val (.int (3 : Int32))] [(.ref r0)]))
      refine own_go (fun t k => XS.iloadN X0.here hx rfl (hb hby d1_11) rfl k) ?_
      show own_Gl _ _ _ _ (s₁.setTop (mkF m 12 #[.val (.ref r0), .val (.int (2 : Int32)), .val (.int (3 : Int32))] [(.int (3 : Int32)), (.ref r0)]))
      obtain ⟨cl49, Ar49, qk49, S49, M49, H49, G49⟩ := id P0
      have hin49 : ¬ ((3 : Int32) < 0 ∨ cl49.slots.size ≤ ((3 : Int32)).toNatClampNeg) := inb_of S49 ⟨by decide, by decide⟩
      have hat49 : cl49.slots[((3 : Int32)).toNatClampNeg]? = some (.int v3) := H49.at hin49 rfl
      refine own_go (fun t k => X0.iaload hx (j := (3 : Int32)) (v := (.int v3)) (by rw [e0]; exact Ar49.1) (State.isArrayOf_alike hZ.alike Ar49.2.1) Ar49.2.2 hin49 hat49 (g := (mkF m 12 #[.val (.ref r0), .val (.int (2 : Int32)), .val (.int (3 : Int32))] [(.int (3 : Int32)), (.ref r0)])) rfl rfl (hb hby d1_12) _ k) ?_
      show own_Gl _ _ _ _ (s₁.setTop (mkF m 13 #[.val (.ref r0), .val (.int (2 : Int32)), .val (.int (3 : Int32))] [(.int v3)]))
      refine own_go (fun t k => XS.aloadN X0.here hx rfl (hb hby d1_13) rfl rfl k) ?_
      show own_Gl _ _ _ _ (s₁.setTop (mkF m 14 #[.val (.ref r0), .val (.int (2 : Int32)), .val (.int (3 : Int32))] [(.ref r0), (.int v3)]))
      refine own_go (fun t k => XS.iloadN X0.here hx rfl (hb hby d1_14) rfl k) ?_
      show own_Gl _ _ _ _ (s₁.setTop (mkF m 15 #[.val (.ref r0), .val (.int (2 : Int32)), .val (.int (3 : Int32))] [(.int (2 : Int32)), (.ref r0), (.int v3)]))
      obtain ⟨cl50, Ar50, qk50, S50, M50, H50, G50⟩ := id P0
      have hin50 : ¬ ((2 : Int32) < 0 ∨ cl50.slots.size ≤ ((2 : Int32)).toNatClampNeg) := inb_of S50 ⟨by decide, by decide⟩
      have hat50 : cl50.slots[((2 : Int32)).toNatClampNeg]? = some (.int v2) := H50.at hin50 rfl
      refine own_go (fun t k => X0.iaload hx (j := (2 : Int32)) (v := (.int v2)) (by rw [e0]; exact Ar50.1) (State.isArrayOf_alike hZ.alike Ar50.2.1) Ar50.2.2 hin50 hat50 (g := (mkF m 15 #[.val (.ref r0), .val (.int (2 : Int32)), .val (.int (3 : Int32))] [(.int (2 : Int32)), (.ref r0), (.int v3)])) rfl rfl (hb hby d1_15) _ k) ?_
      show own_Gl _ _ _ _ (s₁.setTop (mkF m 16 #[.val (.ref r0), .val (.int (2 : Int32)), .val (.int (3 : Int32))] [(.int v2), (.int v3)]))
      by_cases hc16_51 : v3 < v2
      · refine own_go (fun t k => XS.icmpNo X0.here hx rfl (hb hby d1_16) rfl (tlt hc16_51).2.1 k) ?_
        show own_Gl _ _ _ _ (s₁.setTop (mkF m 19 #[.val (.ref r0), .val (.int (2 : Int32)), .val (.int (3 : Int32))] []))
        refine own_go (fun t k => XS.iloadN X0.here hx rfl (hb hby d1_19) rfl k) ?_
        show own_Gl _ _ _ _ (s₁.setTop (mkF m 20 #[.val (.ref r0), .val (.int (2 : Int32)), .val (.int (3 : Int32))] [(.int (3 : Int32))]))
        refine own_go (fun t k => XS.goto X0.here hx rfl (pc0 := 20) (pc' := 24) rfl (hb hby d1_20) (by decide) (by decide) k) ?_
        show own_Gl _ _ _ _ (s₁.setTop (mkF m 24 #[.val (.ref r0), .val (.int (2 : Int32)), .val (.int (3 : Int32))] [(.int (3 : Int32))]))
        refine own_go (fun t k => XS.istoreN X0.here hx rfl (hb hby d1_24) rfl (l' := #[.val (.ref r0), .val (.int (3 : Int32)), .val (.int (3 : Int32))]) rfl k) ?_
        show own_Gl _ _ _ _ (s₁.setTop (mkF m 25 #[.val (.ref r0), .val (.int (3 : Int32)), .val (.int (3 : Int32))] []))
        refine own_go (fun t k => XS.iinc X0.here hx rfl (hb hby d1_25) rfl (l' := #[.val (.ref r0), .val (.int (3 : Int32)), .val (.int (4 : Int32))]) rfl k) ?_
        show own_Gl _ _ _ _ (s₁.setTop (mkF m 28 #[.val (.ref r0), .val (.int (3 : Int32)), .val (.int (4 : Int32))] []))
        refine own_go (fun t k => XS.goto X0.here hx rfl (pc0 := 28) (pc' := 4) rfl (hb hby d1_28) (by decide) (by decide) k) ?_
        show own_Gl _ _ _ _ (s₁.setTop (mkF m 4 #[.val (.ref r0), .val (.int (3 : Int32)), .val (.int (4 : Int32))] []))
        refine own_go (fun t k => XS.iloadN X0.here hx rfl (hb hby d1_4) rfl k) ?_
        show own_Gl _ _ _ _ (s₁.setTop (mkF m 5 #[.val (.ref r0), .val (.int (3 : Int32)), .val (.int (4 : Int32))] [(.int (4 : Int32))]))
        refine own_go (fun t k => XS.aloadN X0.here hx rfl (hb hby d1_5) rfl rfl k) ?_
        show own_Gl _ _ _ _ (s₁.setTop (mkF m 6 #[.val (.ref r0), .val (.int (3 : Int32)), .val (.int (4 : Int32))] [(.ref r0), (.int (4 : Int32))]))
        obtain ⟨cl52, Ar52, -, S52, M52, -, -⟩ := id P0
        refine own_go (fun t k => X0.arraylength hx (by rw [e0]; exact Ar52.1) (State.isArrayOf_alike hZ.alike Ar52.2.1) (g := (mkF m 6 #[.val (.ref r0), .val (.int (3 : Int32)), .val (.int (4 : Int32))] [(.ref r0), (.int (4 : Int32))])) rfl rfl (hb hby d1_6) _ k) ?_
        rw [len_of S52 M52]
        show own_Gl _ _ _ _ (s₁.setTop (mkF m 7 #[.val (.ref r0), .val (.int (3 : Int32)), .val (.int (4 : Int32))] [(.int (4 : Int32)), (.int (4 : Int32))]))
        refine own_go (fun t k => XS.icmpYes X0.here hx rfl (pc0 := 7) (pc' := 31) rfl (hb hby d1_7) rfl (flt (by decide : ¬ ((4 : Int32) < (4 : Int32)))).2.1 (by decide) (by decide) k) ?_
        show own_Gl _ _ _ _ (s₁.setTop (mkF m 31 #[.val (.ref r0), .val (.int (3 : Int32)), .val (.int (4 : Int32))] []))
        refine own_go (fun t k => XS.iloadN X0.here hx rfl (hb hby d1_31) rfl k) ?_
        show own_Gl _ _ _ _ (s₁.setTop (mkF m 32 #[.val (.ref r0), .val (.int (3 : Int32)), .val (.int (4 : Int32))] [(.int (3 : Int32))]))
        obtain ⟨fs, hr, hrun, hended, hW, hsame⟩ := X0.leave (v := some (.int (3 : Int32))) (fun h => by rw [Bd.returns] at h; cases h)
        refine own_fin (Jvm.RoadKit.retOut X0 hx Bd.returns rfl (Or.inl ⟨rfl, Or.inl rfl, _, rfl⟩) (hb hby d1_32) hr) hrun hended ⟨_, _, rfl, ?_, ⟨_, rfl⟩, hW, hsame.mono (by decide) (by decide)⟩
        show Q1_4 Z r0 kA v0 v1 v2 v3 h0 n0 _ s₁.heap _
        rw [e0]
        exact ⟨N0, by rw [f1_4, if_neg hc16_27, if_pos hc16_47, if_pos hc16_51], rfl⟩
      · refine own_go (fun t k => XS.icmpYes X0.here hx rfl (pc0 := 16) (pc' := 23) rfl (hb hby d1_16) rfl (flt hc16_51).2.1 (by decide) (by decide) k) ?_
        show own_Gl _ _ _ _ (s₁.setTop (mkF m 23 #[.val (.ref r0), .val (.int (2 : Int32)), .val (.int (3 : Int32))] []))
        refine own_go (fun t k => XS.iloadN X0.here hx rfl (hb hby d1_23) rfl k) ?_
        show own_Gl _ _ _ _ (s₁.setTop (mkF m 24 #[.val (.ref r0), .val (.int (2 : Int32)), .val (.int (3 : Int32))] [(.int (2 : Int32))]))
        refine own_go (fun t k => XS.istoreN X0.here hx rfl (hb hby d1_24) rfl (l' := #[.val (.ref r0), .val (.int (2 : Int32)), .val (.int (3 : Int32))]) rfl k) ?_
        show own_Gl _ _ _ _ (s₁.setTop (mkF m 25 #[.val (.ref r0), .val (.int (2 : Int32)), .val (.int (3 : Int32))] []))
        refine own_go (fun t k => XS.iinc X0.here hx rfl (hb hby d1_25) rfl (l' := #[.val (.ref r0), .val (.int (2 : Int32)), .val (.int (4 : Int32))]) rfl k) ?_
        show own_Gl _ _ _ _ (s₁.setTop (mkF m 28 #[.val (.ref r0), .val (.int (2 : Int32)), .val (.int (4 : Int32))] []))
        refine own_go (fun t k => XS.goto X0.here hx rfl (pc0 := 28) (pc' := 4) rfl (hb hby d1_28) (by decide) (by decide) k) ?_
        show own_Gl _ _ _ _ (s₁.setTop (mkF m 4 #[.val (.ref r0), .val (.int (2 : Int32)), .val (.int (4 : Int32))] []))
        refine own_go (fun t k => XS.iloadN X0.here hx rfl (hb hby d1_4) rfl k) ?_
        show own_Gl _ _ _ _ (s₁.setTop (mkF m 5 #[.val (.ref r0), .val (.int (2 : Int32)), .val (.int (4 : Int32))] [(.int (4 : Int32))]))
        refine own_go (fun t k => XS.aloadN X0.here hx rfl (hb hby d1_5) rfl rfl k) ?_
        show own_Gl _ _ _ _ (s₁.setTop (mkF m 6 #[.val (.ref r0), .val (.int (2 : Int32)), .val (.int (4 : Int32))] [(.ref r0), (.int (4 : Int32))]))
        obtain ⟨cl53, Ar53, -, S53, M53, -, -⟩ := id P0
        refine own_go (fun t k => X0.arraylength hx (by rw [e0]; exact Ar53.1) (State.isArrayOf_alike hZ.alike Ar53.2.1) (g := (mkF m 6 #[.val (.ref r0), .val (.int (2 : Int32)), .val (.int (4 : Int32))] [(.ref r0), (.int (4 : Int32))])) rfl rfl (hb hby d1_6) _ k) ?_
        rw [len_of S53 M53]
        show own_Gl _ _ _ _ (s₁.setTop (mkF m 7 #[.val (.ref r0), .val (.int (2 : Int32)), .val (.int (4 : Int32))] [(.int (4 : Int32)), (.int (4 : Int32))]))
        refine own_go (fun t k => XS.icmpYes X0.here hx rfl (pc0 := 7) (pc' := 31) rfl (hb hby d1_7) rfl (flt (by decide : ¬ ((4 : Int32) < (4 : Int32)))).2.1 (by decide) (by decide) k) ?_
        show own_Gl _ _ _ _ (s₁.setTop (mkF m 31 #[.val (.ref r0), .val (.int (2 : Int32)), .val (.int (4 : Int32))] []))
        refine own_go (fun t k => XS.iloadN X0.here hx rfl (hb hby d1_31) rfl k) ?_
        show own_Gl _ _ _ _ (s₁.setTop (mkF m 32 #[.val (.ref r0), .val (.int (2 : Int32)), .val (.int (4 : Int32))] [(.int (2 : Int32))]))
        obtain ⟨fs, hr, hrun, hended, hW, hsame⟩ := X0.leave (v := some (.int (2 : Int32))) (fun h => by rw [Bd.returns] at h; cases h)
        refine own_fin (Jvm.RoadKit.retOut X0 hx Bd.returns rfl (Or.inl ⟨rfl, Or.inl rfl, _, rfl⟩) (hb hby d1_32) hr) hrun hended ⟨_, _, rfl, ?_, ⟨_, rfl⟩, hW, hsame.mono (by decide) (by decide)⟩
        show Q1_4 Z r0 kA v0 v1 v2 v3 h0 n0 _ s₁.heap _
        rw [e0]
        exact ⟨N0, by rw [f1_4, if_neg hc16_27, if_pos hc16_47, if_neg hc16_51], rfl⟩
    · refine own_go (fun t k => XS.icmpYes X0.here hx rfl (pc0 := 16) (pc' := 23) rfl (hb hby d1_16) rfl (flt hc16_47).2.1 (by decide) (by decide) k) ?_
      show own_Gl _ _ _ _ (s₁.setTop (mkF m 23 #[.val (.ref r0), .val (.int (0 : Int32)), .val (.int (2 : Int32))] []))
      refine own_go (fun t k => XS.iloadN X0.here hx rfl (hb hby d1_23) rfl k) ?_
      show own_Gl _ _ _ _ (s₁.setTop (mkF m 24 #[.val (.ref r0), .val (.int (0 : Int32)), .val (.int (2 : Int32))] [(.int (0 : Int32))]))
      refine own_go (fun t k => XS.istoreN X0.here hx rfl (hb hby d1_24) rfl (l' := #[.val (.ref r0), .val (.int (0 : Int32)), .val (.int (2 : Int32))]) rfl k) ?_
      show own_Gl _ _ _ _ (s₁.setTop (mkF m 25 #[.val (.ref r0), .val (.int (0 : Int32)), .val (.int (2 : Int32))] []))
      refine own_go (fun t k => XS.iinc X0.here hx rfl (hb hby d1_25) rfl (l' := #[.val (.ref r0), .val (.int (0 : Int32)), .val (.int (3 : Int32))]) rfl k) ?_
      show own_Gl _ _ _ _ (s₁.setTop (mkF m 28 #[.val (.ref r0), .val (.int (0 : Int32)), .val (.int (3 : Int32))] []))
      refine own_go (fun t k => XS.goto X0.here hx rfl (pc0 := 28) (pc' := 4) rfl (hb hby d1_28) (by decide) (by decide) k) ?_
      show own_Gl _ _ _ _ (s₁.setTop (mkF m 4 #[.val (.ref r0), .val (.int (0 : Int32)), .val (.int (3 : Int32))] []))
      refine own_go (fun t k => XS.iloadN X0.here hx rfl (hb hby d1_4) rfl k) ?_
      show own_Gl _ _ _ _ (s₁.setTop (mkF m 5 #[.val (.ref r0), .val (.int (0 : Int32)), .val (.int (3 : Int32))] [(.int (3 : Int32))]))
      refine own_go (fun t k => XS.aloadN X0.here hx rfl (hb hby d1_5) rfl rfl k) ?_
      show own_Gl _ _ _ _ (s₁.setTop (mkF m 6 #[.val (.ref r0), .val (.int (0 : Int32)), .val (.int (3 : Int32))] [(.ref r0), (.int (3 : Int32))]))
      obtain ⟨cl54, Ar54, -, S54, M54, -, -⟩ := id P0
      refine own_go (fun t k => X0.arraylength hx (by rw [e0]; exact Ar54.1) (State.isArrayOf_alike hZ.alike Ar54.2.1) (g := (mkF m 6 #[.val (.ref r0), .val (.int (0 : Int32)), .val (.int (3 : Int32))] [(.ref r0), (.int (3 : Int32))])) rfl rfl (hb hby d1_6) _ k) ?_
      rw [len_of S54 M54]
      show own_Gl _ _ _ _ (s₁.setTop (mkF m 7 #[.val (.ref r0), .val (.int (0 : Int32)), .val (.int (3 : Int32))] [(.int (4 : Int32)), (.int (3 : Int32))]))
      refine own_go (fun t k => XS.icmpNo X0.here hx rfl (hb hby d1_7) rfl (tlt (by decide : (3 : Int32) < (4 : Int32))).2.1 k) ?_
      show own_Gl _ _ _ _ (s₁.setTop (mkF m 10 #[.val (.ref r0), .val (.int (0 : Int32)), .val (.int (3 : Int32))] []))
      refine own_go (fun t k => XS.aloadN X0.here hx rfl (hb hby d1_10) rfl rfl k) ?_
      show own_Gl _ _ _ _ (s₁.setTop (mkF m 11 #[.val (.ref r0), .val (.int (0 : Int32)), .val (.int (3 : Int32))] [(.ref r0)]))
      refine own_go (fun t k => XS.iloadN X0.here hx rfl (hb hby d1_11) rfl k) ?_
      show own_Gl _ _ _ _ (s₁.setTop (mkF m 12 #[.val (.ref r0), .val (.int (0 : Int32)), .val (.int (3 : Int32))] [(.int (3 : Int32)), (.ref r0)]))
      obtain ⟨cl55, Ar55, qk55, S55, M55, H55, G55⟩ := id P0
      have hin55 : ¬ ((3 : Int32) < 0 ∨ cl55.slots.size ≤ ((3 : Int32)).toNatClampNeg) := inb_of S55 ⟨by decide, by decide⟩
      have hat55 : cl55.slots[((3 : Int32)).toNatClampNeg]? = some (.int v3) := H55.at hin55 rfl
      refine own_go (fun t k => X0.iaload hx (j := (3 : Int32)) (v := (.int v3)) (by rw [e0]; exact Ar55.1) (State.isArrayOf_alike hZ.alike Ar55.2.1) Ar55.2.2 hin55 hat55 (g := (mkF m 12 #[.val (.ref r0), .val (.int (0 : Int32)), .val (.int (3 : Int32))] [(.int (3 : Int32)), (.ref r0)])) rfl rfl (hb hby d1_12) _ k) ?_
      show own_Gl _ _ _ _ (s₁.setTop (mkF m 13 #[.val (.ref r0), .val (.int (0 : Int32)), .val (.int (3 : Int32))] [(.int v3)]))
      refine own_go (fun t k => XS.aloadN X0.here hx rfl (hb hby d1_13) rfl rfl k) ?_
      show own_Gl _ _ _ _ (s₁.setTop (mkF m 14 #[.val (.ref r0), .val (.int (0 : Int32)), .val (.int (3 : Int32))] [(.ref r0), (.int v3)]))
      refine own_go (fun t k => XS.iloadN X0.here hx rfl (hb hby d1_14) rfl k) ?_
      show own_Gl _ _ _ _ (s₁.setTop (mkF m 15 #[.val (.ref r0), .val (.int (0 : Int32)), .val (.int (3 : Int32))] [(.int (0 : Int32)), (.ref r0), (.int v3)]))
      obtain ⟨cl56, Ar56, qk56, S56, M56, H56, G56⟩ := id P0
      have hin56 : ¬ ((0 : Int32) < 0 ∨ cl56.slots.size ≤ ((0 : Int32)).toNatClampNeg) := inb_of S56 ⟨by decide, by decide⟩
      have hat56 : cl56.slots[((0 : Int32)).toNatClampNeg]? = some (.int v0) := H56.at hin56 rfl
      refine own_go (fun t k => X0.iaload hx (j := (0 : Int32)) (v := (.int v0)) (by rw [e0]; exact Ar56.1) (State.isArrayOf_alike hZ.alike Ar56.2.1) Ar56.2.2 hin56 hat56 (g := (mkF m 15 #[.val (.ref r0), .val (.int (0 : Int32)), .val (.int (3 : Int32))] [(.int (0 : Int32)), (.ref r0), (.int v3)])) rfl rfl (hb hby d1_15) _ k) ?_
      show own_Gl _ _ _ _ (s₁.setTop (mkF m 16 #[.val (.ref r0), .val (.int (0 : Int32)), .val (.int (3 : Int32))] [(.int v0), (.int v3)]))
      by_cases hc16_57 : v3 < v0
      · refine own_go (fun t k => XS.icmpNo X0.here hx rfl (hb hby d1_16) rfl (tlt hc16_57).2.1 k) ?_
        show own_Gl _ _ _ _ (s₁.setTop (mkF m 19 #[.val (.ref r0), .val (.int (0 : Int32)), .val (.int (3 : Int32))] []))
        refine own_go (fun t k => XS.iloadN X0.here hx rfl (hb hby d1_19) rfl k) ?_
        show own_Gl _ _ _ _ (s₁.setTop (mkF m 20 #[.val (.ref r0), .val (.int (0 : Int32)), .val (.int (3 : Int32))] [(.int (3 : Int32))]))
        refine own_go (fun t k => XS.goto X0.here hx rfl (pc0 := 20) (pc' := 24) rfl (hb hby d1_20) (by decide) (by decide) k) ?_
        show own_Gl _ _ _ _ (s₁.setTop (mkF m 24 #[.val (.ref r0), .val (.int (0 : Int32)), .val (.int (3 : Int32))] [(.int (3 : Int32))]))
        refine own_go (fun t k => XS.istoreN X0.here hx rfl (hb hby d1_24) rfl (l' := #[.val (.ref r0), .val (.int (3 : Int32)), .val (.int (3 : Int32))]) rfl k) ?_
        show own_Gl _ _ _ _ (s₁.setTop (mkF m 25 #[.val (.ref r0), .val (.int (3 : Int32)), .val (.int (3 : Int32))] []))
        refine own_go (fun t k => XS.iinc X0.here hx rfl (hb hby d1_25) rfl (l' := #[.val (.ref r0), .val (.int (3 : Int32)), .val (.int (4 : Int32))]) rfl k) ?_
        show own_Gl _ _ _ _ (s₁.setTop (mkF m 28 #[.val (.ref r0), .val (.int (3 : Int32)), .val (.int (4 : Int32))] []))
        refine own_go (fun t k => XS.goto X0.here hx rfl (pc0 := 28) (pc' := 4) rfl (hb hby d1_28) (by decide) (by decide) k) ?_
        show own_Gl _ _ _ _ (s₁.setTop (mkF m 4 #[.val (.ref r0), .val (.int (3 : Int32)), .val (.int (4 : Int32))] []))
        refine own_go (fun t k => XS.iloadN X0.here hx rfl (hb hby d1_4) rfl k) ?_
        show own_Gl _ _ _ _ (s₁.setTop (mkF m 5 #[.val (.ref r0), .val (.int (3 : Int32)), .val (.int (4 : Int32))] [(.int (4 : Int32))]))
        refine own_go (fun t k => XS.aloadN X0.here hx rfl (hb hby d1_5) rfl rfl k) ?_
        show own_Gl _ _ _ _ (s₁.setTop (mkF m 6 #[.val (.ref r0), .val (.int (3 : Int32)), .val (.int (4 : Int32))] [(.ref r0), (.int (4 : Int32))]))
        obtain ⟨cl58, Ar58, -, S58, M58, -, -⟩ := id P0
        refine own_go (fun t k => X0.arraylength hx (by rw [e0]; exact Ar58.1) (State.isArrayOf_alike hZ.alike Ar58.2.1) (g := (mkF m 6 #[.val (.ref r0), .val (.int (3 : Int32)), .val (.int (4 : Int32))] [(.ref r0), (.int (4 : Int32))])) rfl rfl (hb hby d1_6) _ k) ?_
        rw [len_of S58 M58]
        show own_Gl _ _ _ _ (s₁.setTop (mkF m 7 #[.val (.ref r0), .val (.int (3 : Int32)), .val (.int (4 : Int32))] [(.int (4 : Int32)), (.int (4 : Int32))]))
        refine own_go (fun t k => XS.icmpYes X0.here hx rfl (pc0 := 7) (pc' := 31) rfl (hb hby d1_7) rfl (flt (by decide : ¬ ((4 : Int32) < (4 : Int32)))).2.1 (by decide) (by decide) k) ?_
        show own_Gl _ _ _ _ (s₁.setTop (mkF m 31 #[.val (.ref r0), .val (.int (3 : Int32)), .val (.int (4 : Int32))] []))
        refine own_go (fun t k => XS.iloadN X0.here hx rfl (hb hby d1_31) rfl k) ?_
        show own_Gl _ _ _ _ (s₁.setTop (mkF m 32 #[.val (.ref r0), .val (.int (3 : Int32)), .val (.int (4 : Int32))] [(.int (3 : Int32))]))
        obtain ⟨fs, hr, hrun, hended, hW, hsame⟩ := X0.leave (v := some (.int (3 : Int32))) (fun h => by rw [Bd.returns] at h; cases h)
        refine own_fin (Jvm.RoadKit.retOut X0 hx Bd.returns rfl (Or.inl ⟨rfl, Or.inl rfl, _, rfl⟩) (hb hby d1_32) hr) hrun hended ⟨_, _, rfl, ?_, ⟨_, rfl⟩, hW, hsame.mono (by decide) (by decide)⟩
        show Q1_4 Z r0 kA v0 v1 v2 v3 h0 n0 _ s₁.heap _
        rw [e0]
        exact ⟨N0, by rw [f1_4, if_neg hc16_27, if_neg hc16_47, if_pos hc16_57], rfl⟩
      · refine own_go (fun t k => XS.icmpYes X0.here hx rfl (pc0 := 16) (pc' := 23) rfl (hb hby d1_16) rfl (flt hc16_57).2.1 (by decide) (by decide) k) ?_
        show own_Gl _ _ _ _ (s₁.setTop (mkF m 23 #[.val (.ref r0), .val (.int (0 : Int32)), .val (.int (3 : Int32))] []))
        refine own_go (fun t k => XS.iloadN X0.here hx rfl (hb hby d1_23) rfl k) ?_
        show own_Gl _ _ _ _ (s₁.setTop (mkF m 24 #[.val (.ref r0), .val (.int (0 : Int32)), .val (.int (3 : Int32))] [(.int (0 : Int32))]))
        refine own_go (fun t k => XS.istoreN X0.here hx rfl (hb hby d1_24) rfl (l' := #[.val (.ref r0), .val (.int (0 : Int32)), .val (.int (3 : Int32))]) rfl k) ?_
        show own_Gl _ _ _ _ (s₁.setTop (mkF m 25 #[.val (.ref r0), .val (.int (0 : Int32)), .val (.int (3 : Int32))] []))
        refine own_go (fun t k => XS.iinc X0.here hx rfl (hb hby d1_25) rfl (l' := #[.val (.ref r0), .val (.int (0 : Int32)), .val (.int (4 : Int32))]) rfl k) ?_
        show own_Gl _ _ _ _ (s₁.setTop (mkF m 28 #[.val (.ref r0), .val (.int (0 : Int32)), .val (.int (4 : Int32))] []))
        refine own_go (fun t k => XS.goto X0.here hx rfl (pc0 := 28) (pc' := 4) rfl (hb hby d1_28) (by decide) (by decide) k) ?_
        show own_Gl _ _ _ _ (s₁.setTop (mkF m 4 #[.val (.ref r0), .val (.int (0 : Int32)), .val (.int (4 : Int32))] []))
        refine own_go (fun t k => XS.iloadN X0.here hx rfl (hb hby d1_4) rfl k) ?_
        show own_Gl _ _ _ _ (s₁.setTop (mkF m 5 #[.val (.ref r0), .val (.int (0 : Int32)), .val (.int (4 : Int32))] [(.int (4 : Int32))]))
        refine own_go (fun t k => XS.aloadN X0.here hx rfl (hb hby d1_5) rfl rfl k) ?_
        show own_Gl _ _ _ _ (s₁.setTop (mkF m 6 #[.val (.ref r0), .val (.int (0 : Int32)), .val (.int (4 : Int32))] [(.ref r0), (.int (4 : Int32))]))
        obtain ⟨cl59, Ar59, -, S59, M59, -, -⟩ := id P0
        refine own_go (fun t k => X0.arraylength hx (by rw [e0]; exact Ar59.1) (State.isArrayOf_alike hZ.alike Ar59.2.1) (g := (mkF m 6 #[.val (.ref r0), .val (.int (0 : Int32)), .val (.int (4 : Int32))] [(.ref r0), (.int (4 : Int32))])) rfl rfl (hb hby d1_6) _ k) ?_
        rw [len_of S59 M59]
        show own_Gl _ _ _ _ (s₁.setTop (mkF m 7 #[.val (.ref r0), .val (.int (0 : Int32)), .val (.int (4 : Int32))] [(.int (4 : Int32)), (.int (4 : Int32))]))
        refine own_go (fun t k => XS.icmpYes X0.here hx rfl (pc0 := 7) (pc' := 31) rfl (hb hby d1_7) rfl (flt (by decide : ¬ ((4 : Int32) < (4 : Int32)))).2.1 (by decide) (by decide) k) ?_
        show own_Gl _ _ _ _ (s₁.setTop (mkF m 31 #[.val (.ref r0), .val (.int (0 : Int32)), .val (.int (4 : Int32))] []))
        refine own_go (fun t k => XS.iloadN X0.here hx rfl (hb hby d1_31) rfl k) ?_
        show own_Gl _ _ _ _ (s₁.setTop (mkF m 32 #[.val (.ref r0), .val (.int (0 : Int32)), .val (.int (4 : Int32))] [(.int (0 : Int32))]))
        obtain ⟨fs, hr, hrun, hended, hW, hsame⟩ := X0.leave (v := some (.int (0 : Int32))) (fun h => by rw [Bd.returns] at h; cases h)
        refine own_fin (Jvm.RoadKit.retOut X0 hx Bd.returns rfl (Or.inl ⟨rfl, Or.inl rfl, _, rfl⟩) (hb hby d1_32) hr) hrun hended ⟨_, _, rfl, ?_, ⟨_, rfl⟩, hW, hsame.mono (by decide) (by decide)⟩
        show Q1_4 Z r0 kA v0 v1 v2 v3 h0 n0 _ s₁.heap _
        rw [e0]
        exact ⟨N0, by rw [f1_4, if_neg hc16_27, if_neg hc16_47, if_neg hc16_57], rfl⟩
theorem own_rg4 (v0 v1 v2 v3 : Int32) : f1_4 v0 v1 v2 v3 = 0 ∨ f1_4 v0 v1 v2 v3 = 1 ∨ f1_4 v0 v1 v2 v3 = 2 ∨ f1_4 v0 v1 v2 v3 = 3 := by
  unfold f1_4
  repeat' split
  all_goals decide
theorem d2_0 : decode method_3_code 0 = .ok (.iload_n 2, 1) := by decide +kernel
theorem d2_1 : decode method_3_code 1 = .ok (.iload_n 0, 1) := by decide +kernel
theorem d2_2 : decode method_3_code 2 = .ok (.if_icmp .lt 5, 3) := by decide +kernel
theorem d2_5 : decode method_3_code 5 = .ok (.iconst 1, 1) := by decide +kernel
theorem d2_6 : decode method_3_code 6 = .ok (.ireturn, 1) := by decide +kernel
theorem d2_7 : decode method_3_code 7 = .ok (.iload_n 2, 1) := by decide +kernel
theorem d2_8 : decode method_3_code 8 = .ok (.iload_n 1, 1) := by decide +kernel
theorem d2_9 : decode method_3_code 9 = .ok (.if_icmp .ge 15, 3) := by decide +kernel
theorem d2_12 : decode method_3_code 12 = .ok (.iload_n 3, 1) := by decide +kernel
theorem d2_13 : decode method_3_code 13 = .ok (.iload 4, 2) := by decide +kernel
theorem d2_15 : decode method_3_code 15 = .ok (.if_icmp .le 7, 3) := by decide +kernel
theorem d2_18 : decode method_3_code 18 = .ok (.iconst 1, 1) := by decide +kernel
theorem d2_19 : decode method_3_code 19 = .ok (.goto 4, 3) := by decide +kernel
theorem d2_22 : decode method_3_code 22 = .ok (.iconst 0, 1) := by decide +kernel
theorem d2_23 : decode method_3_code 23 = .ok (.ireturn, 1) := by decide +kernel
theorem d2_24 : decode method_3_code 24 = .ok (.iload_n 3, 1) := by decide +kernel
theorem d2_25 : decode method_3_code 25 = .ok (.iload 4, 2) := by decide +kernel
theorem d2_27 : decode method_3_code 27 = .ok (.if_icmp .lt 7, 3) := by decide +kernel
theorem d2_30 : decode method_3_code 30 = .ok (.iconst 1, 1) := by decide +kernel
theorem d2_31 : decode method_3_code 31 = .ok (.goto 4, 3) := by decide +kernel
theorem d2_34 : decode method_3_code 34 = .ok (.iconst 0, 1) := by decide +kernel
theorem d2_35 : decode method_3_code 35 = .ok (.ireturn, 1) := by decide +kernel
theorem pn_com_example_sixfold_sixfold_rows_RowsFewestPinLaw : plainName "com/example/sixfold/sixfold/rows/RowsFewestPinLaw" = true := by first | (simp [plainName, overriddenIn]; done) | decide +kernel
theorem ef_2 (m : MethodId) (p0 : Int32) (p1 : Int32) (p2 : Int32) (p3 : Int32) (p4 : Int32) : entryFrame m #[(.int p0), (.int p1), (.int p2), (.int p3), (.int p4)] 5 = mkF m 0 #[.val (.int p0), .val (.int p1), .val (.int p2), .val (.int p3), .val (.int p4)] [] := by first | (simp [entryFrame, mkF, argsToLocals, Value.category]; done) | rfl
def f2 (p0 : Int32) (p1 : Int32) (p2 : Int32) (p3 : Int32) (p4 : Int32) : Int32 := (if p2 < p0 then (if p2 < p1 then (if p4 < p3 then (1 : Int32) else (0 : Int32)) else (if p3 < p4 then (0 : Int32) else (1 : Int32))) else (1 : Int32))
def Q2 (Z : State) (p0 : Int32) (p1 : Int32) (p2 : Int32) (p3 : Int32) (p4 : Int32) (h0 : Heap) (n0 : Nat) (v : Option Value) (h : Heap) (L : List Loc) : Prop := Fr n0 L ∧ v = some (.int (f2 p0 p1 p2 p3 p4)) ∧ h = h0
set_option maxRecDepth 65536 in
set_option maxHeartbeats 40000000 in
theorem rm2 (l : Launch) (Z : State) (a0 : Array Value) (hw : ∀ d ∈ tables_1, d.before a0 Z = true) (ws : List Jvm.Cond) (p0 : Int32) (p1 : Int32) (p2 : Int32) (p3 : Int32) (p4 : Int32) (h0 : Heap) (n0 : Nat) (Z0 : n0 ≤ h0.size)  :
    MetFree l (⟨"com/example/sixfold/sixfold/rows/RowsFewestPinLaw", "fits", "(IIIII)Z"⟩ : MethodName) (head1 (Jvm.Cond.code (⟨"com/example/sixfold/sixfold/rows/RowsFewestPinLaw", "fits", "(IIIII)Z"⟩ : MethodName) method_3_code 5 (some .boolean) :: ws) ({ frames := 0, cells := 0, slots := 0, locals := 0 } : Room)) (fun a U => a = #[(.int p0), (.int p1), (.int p2), (.int p3), (.int p4)] ∧ Z.Warmed39 U.vm ∧ U.heap = h0) (fun _ _ _ _ _ => True) (fun _ U o U' => ∃ v L, o = .returned v ∧ Q2 Z p0 p1 p2 p3 p4 h0 n0 v U'.heap L ∧ FrameEnd U o U' L ({ frames := 0, cells := 0, slots := 0, locals := 0 } : Room).cells ({ frames := 0, cells := 0, slots := 0, locals := 0 } : Room).slots) := by
  refine MetFree.of_bodySF (plainFor_of_name pn_com_example_sixfold_sixfold_rows_RowsFewestPinLaw) hisR ?_
  intro p e s m args below meth c s₁ Bd hml0 hP hK
  obtain ⟨rfl, hZ, hh⟩ := hP
  have hx := Bd.exec
  have hby := Bd.bytes
  have hml : c.maxLocals = 5 := hml0
  have hown : s.vm.findClass "com/example/sixfold/sixfold/rows/RowsFewestPinLaw" = some m.cls := findClass_of_methodNamed Bd.named
  have hnm := (name_of_methodNamed Bd.named Bd.method).1
  have X0 : Stand p l e ({ frames := 0, cells := 0, slots := 0, locals := 0 } : Room) s m #[(.int p0), (.int p1), (.int p2), (.int p3), (.int p4)] below meth c s₁ [] 0 0 := Stand.of_body Bd
  have e0 : s₁.heap = h0 := by rw [← hh, Bd.state]; rfl
  have N0 := Fr.nil n0
  show own_Gl p e below (fun o U' => ∃ v L, o = .returned v ∧ Q2 Z p0 p1 p2 p3 p4 h0 n0 v U'.heap L ∧ FrameEnd s o U' L ({ frames := 0, cells := 0, slots := 0, locals := 0 } : Room).cells ({ frames := 0, cells := 0, slots := 0, locals := 0 } : Room).slots) (s₁.setTop (entryFrame m #[(.int p0), (.int p1), (.int p2), (.int p3), (.int p4)] 5))
  refine own_go (fun t k => castTop (ef_2 m p0 p1 p2 p3 p4) k) ?_
  show own_Gl _ _ _ _ (s₁.setTop (mkF m 0 #[.val (.int p0), .val (.int p1), .val (.int p2), .val (.int p3), .val (.int p4)] []))
  refine own_go (fun t k => XS.iloadN X0.here hx rfl (hb hby d2_0) rfl k) ?_
  show own_Gl _ _ _ _ (s₁.setTop (mkF m 1 #[.val (.int p0), .val (.int p1), .val (.int p2), .val (.int p3), .val (.int p4)] [(.int p2)]))
  refine own_go (fun t k => XS.iloadN X0.here hx rfl (hb hby d2_1) rfl k) ?_
  show own_Gl _ _ _ _ (s₁.setTop (mkF m 2 #[.val (.int p0), .val (.int p1), .val (.int p2), .val (.int p3), .val (.int p4)] [(.int p0), (.int p2)]))
  by_cases hc2_60 : p2 < p0
  · refine own_go (fun t k => XS.icmpYes X0.here hx rfl (pc0 := 2) (pc' := 7) rfl (hb hby d2_2) rfl (tlt hc2_60).1 (by decide) (by decide) k) ?_
    show own_Gl _ _ _ _ (s₁.setTop (mkF m 7 #[.val (.int p0), .val (.int p1), .val (.int p2), .val (.int p3), .val (.int p4)] []))
    refine own_go (fun t k => XS.iloadN X0.here hx rfl (hb hby d2_7) rfl k) ?_
    show own_Gl _ _ _ _ (s₁.setTop (mkF m 8 #[.val (.int p0), .val (.int p1), .val (.int p2), .val (.int p3), .val (.int p4)] [(.int p2)]))
    refine own_go (fun t k => XS.iloadN X0.here hx rfl (hb hby d2_8) rfl k) ?_
    show own_Gl _ _ _ _ (s₁.setTop (mkF m 9 #[.val (.int p0), .val (.int p1), .val (.int p2), .val (.int p3), .val (.int p4)] [(.int p1), (.int p2)]))
    by_cases hc9_61 : p2 < p1
    · refine own_go (fun t k => XS.icmpNo X0.here hx rfl (hb hby d2_9) rfl (tlt hc9_61).2.1 k) ?_
      show own_Gl _ _ _ _ (s₁.setTop (mkF m 12 #[.val (.int p0), .val (.int p1), .val (.int p2), .val (.int p3), .val (.int p4)] []))
      refine own_go (fun t k => XS.iloadN X0.here hx rfl (hb hby d2_12) rfl k) ?_
      show own_Gl _ _ _ _ (s₁.setTop (mkF m 13 #[.val (.int p0), .val (.int p1), .val (.int p2), .val (.int p3), .val (.int p4)] [(.int p3)]))
      refine own_go (fun t k => XS.iload X0.here hx rfl (hb hby d2_13) rfl k) ?_
      show own_Gl _ _ _ _ (s₁.setTop (mkF m 15 #[.val (.int p0), .val (.int p1), .val (.int p2), .val (.int p3), .val (.int p4)] [(.int p4), (.int p3)]))
      by_cases hc15_62 : p4 < p3
      · refine own_go (fun t k => XS.icmpNo X0.here hx rfl (hb hby d2_15) rfl (tlt hc15_62).2.2.2 k) ?_
        show own_Gl _ _ _ _ (s₁.setTop (mkF m 18 #[.val (.int p0), .val (.int p1), .val (.int p2), .val (.int p3), .val (.int p4)] []))
        refine own_go (fun t k => XS.iconst X0.here hx rfl (hb hby d2_18) k) ?_
        show own_Gl _ _ _ _ (s₁.setTop (mkF m 19 #[.val (.int p0), .val (.int p1), .val (.int p2), .val (.int p3), .val (.int p4)] [(.int (1 : Int32))]))
        refine own_go (fun t k => XS.goto X0.here hx rfl (pc0 := 19) (pc' := 23) rfl (hb hby d2_19) (by decide) (by decide) k) ?_
        show own_Gl _ _ _ _ (s₁.setTop (mkF m 23 #[.val (.int p0), .val (.int p1), .val (.int p2), .val (.int p3), .val (.int p4)] [(.int (1 : Int32))]))
        obtain ⟨fs, hr, hrun, hended, hW, hsame⟩ := X0.leave (v := some (.int (1 : Int32))) (fun h => by rw [Bd.returns] at h; cases h)
        refine own_fin (retN X0 hx (t := .boolean) Bd.returns (by simp) (hb hby d2_23) hr) hrun hended ⟨_, _, rfl, ?_, ⟨_, rfl⟩, hW, hsame.mono (by decide) (by decide)⟩
        show Q2 Z p0 p1 p2 p3 p4 h0 n0 _ s₁.heap _
        rw [e0]
        exact ⟨N0, by rw [f2, if_pos hc2_60, if_pos hc9_61, if_pos hc15_62], rfl⟩
      · refine own_go (fun t k => XS.icmpYes X0.here hx rfl (pc0 := 15) (pc' := 22) rfl (hb hby d2_15) rfl (flt hc15_62).2.2.2 (by decide) (by decide) k) ?_
        show own_Gl _ _ _ _ (s₁.setTop (mkF m 22 #[.val (.int p0), .val (.int p1), .val (.int p2), .val (.int p3), .val (.int p4)] []))
        refine own_go (fun t k => XS.iconst X0.here hx rfl (hb hby d2_22) k) ?_
        show own_Gl _ _ _ _ (s₁.setTop (mkF m 23 #[.val (.int p0), .val (.int p1), .val (.int p2), .val (.int p3), .val (.int p4)] [(.int (0 : Int32))]))
        obtain ⟨fs, hr, hrun, hended, hW, hsame⟩ := X0.leave (v := some (.int (0 : Int32))) (fun h => by rw [Bd.returns] at h; cases h)
        refine own_fin (retN X0 hx (t := .boolean) Bd.returns (by simp) (hb hby d2_23) hr) hrun hended ⟨_, _, rfl, ?_, ⟨_, rfl⟩, hW, hsame.mono (by decide) (by decide)⟩
        show Q2 Z p0 p1 p2 p3 p4 h0 n0 _ s₁.heap _
        rw [e0]
        exact ⟨N0, by rw [f2, if_pos hc2_60, if_pos hc9_61, if_neg hc15_62], rfl⟩
    · refine own_go (fun t k => XS.icmpYes X0.here hx rfl (pc0 := 9) (pc' := 24) rfl (hb hby d2_9) rfl (flt hc9_61).2.1 (by decide) (by decide) k) ?_
      show own_Gl _ _ _ _ (s₁.setTop (mkF m 24 #[.val (.int p0), .val (.int p1), .val (.int p2), .val (.int p3), .val (.int p4)] []))
      refine own_go (fun t k => XS.iloadN X0.here hx rfl (hb hby d2_24) rfl k) ?_
      show own_Gl _ _ _ _ (s₁.setTop (mkF m 25 #[.val (.int p0), .val (.int p1), .val (.int p2), .val (.int p3), .val (.int p4)] [(.int p3)]))
      refine own_go (fun t k => XS.iload X0.here hx rfl (hb hby d2_25) rfl k) ?_
      show own_Gl _ _ _ _ (s₁.setTop (mkF m 27 #[.val (.int p0), .val (.int p1), .val (.int p2), .val (.int p3), .val (.int p4)] [(.int p4), (.int p3)]))
      by_cases hc27_63 : p3 < p4
      · refine own_go (fun t k => XS.icmpYes X0.here hx rfl (pc0 := 27) (pc' := 34) rfl (hb hby d2_27) rfl (tlt hc27_63).1 (by decide) (by decide) k) ?_
        show own_Gl _ _ _ _ (s₁.setTop (mkF m 34 #[.val (.int p0), .val (.int p1), .val (.int p2), .val (.int p3), .val (.int p4)] []))
        refine own_go (fun t k => XS.iconst X0.here hx rfl (hb hby d2_34) k) ?_
        show own_Gl _ _ _ _ (s₁.setTop (mkF m 35 #[.val (.int p0), .val (.int p1), .val (.int p2), .val (.int p3), .val (.int p4)] [(.int (0 : Int32))]))
        obtain ⟨fs, hr, hrun, hended, hW, hsame⟩ := X0.leave (v := some (.int (0 : Int32))) (fun h => by rw [Bd.returns] at h; cases h)
        refine own_fin (retN X0 hx (t := .boolean) Bd.returns (by simp) (hb hby d2_35) hr) hrun hended ⟨_, _, rfl, ?_, ⟨_, rfl⟩, hW, hsame.mono (by decide) (by decide)⟩
        show Q2 Z p0 p1 p2 p3 p4 h0 n0 _ s₁.heap _
        rw [e0]
        exact ⟨N0, by rw [f2, if_pos hc2_60, if_neg hc9_61, if_pos hc27_63], rfl⟩
      · refine own_go (fun t k => XS.icmpNo X0.here hx rfl (hb hby d2_27) rfl (flt hc27_63).1 k) ?_
        show own_Gl _ _ _ _ (s₁.setTop (mkF m 30 #[.val (.int p0), .val (.int p1), .val (.int p2), .val (.int p3), .val (.int p4)] []))
        refine own_go (fun t k => XS.iconst X0.here hx rfl (hb hby d2_30) k) ?_
        show own_Gl _ _ _ _ (s₁.setTop (mkF m 31 #[.val (.int p0), .val (.int p1), .val (.int p2), .val (.int p3), .val (.int p4)] [(.int (1 : Int32))]))
        refine own_go (fun t k => XS.goto X0.here hx rfl (pc0 := 31) (pc' := 35) rfl (hb hby d2_31) (by decide) (by decide) k) ?_
        show own_Gl _ _ _ _ (s₁.setTop (mkF m 35 #[.val (.int p0), .val (.int p1), .val (.int p2), .val (.int p3), .val (.int p4)] [(.int (1 : Int32))]))
        obtain ⟨fs, hr, hrun, hended, hW, hsame⟩ := X0.leave (v := some (.int (1 : Int32))) (fun h => by rw [Bd.returns] at h; cases h)
        refine own_fin (retN X0 hx (t := .boolean) Bd.returns (by simp) (hb hby d2_35) hr) hrun hended ⟨_, _, rfl, ?_, ⟨_, rfl⟩, hW, hsame.mono (by decide) (by decide)⟩
        show Q2 Z p0 p1 p2 p3 p4 h0 n0 _ s₁.heap _
        rw [e0]
        exact ⟨N0, by rw [f2, if_pos hc2_60, if_neg hc9_61, if_neg hc27_63], rfl⟩
  · refine own_go (fun t k => XS.icmpNo X0.here hx rfl (hb hby d2_2) rfl (flt hc2_60).1 k) ?_
    show own_Gl _ _ _ _ (s₁.setTop (mkF m 5 #[.val (.int p0), .val (.int p1), .val (.int p2), .val (.int p3), .val (.int p4)] []))
    refine own_go (fun t k => XS.iconst X0.here hx rfl (hb hby d2_5) k) ?_
    show own_Gl _ _ _ _ (s₁.setTop (mkF m 6 #[.val (.int p0), .val (.int p1), .val (.int p2), .val (.int p3), .val (.int p4)] [(.int (1 : Int32))]))
    obtain ⟨fs, hr, hrun, hended, hW, hsame⟩ := X0.leave (v := some (.int (1 : Int32))) (fun h => by rw [Bd.returns] at h; cases h)
    refine own_fin (retN X0 hx (t := .boolean) Bd.returns (by simp) (hb hby d2_6) hr) hrun hended ⟨_, _, rfl, ?_, ⟨_, rfl⟩, hW, hsame.mono (by decide) (by decide)⟩
    show Q2 Z p0 p1 p2 p3 p4 h0 n0 _ s₁.heap _
    rw [e0]
    exact ⟨N0, by rw [f2, if_neg hc2_60], rfl⟩
theorem own_and3 (x : Int32) : x &&& 3 = 0 ∨ x &&& 3 = 1 ∨ x &&& 3 = 2 ∨ x &&& 3 = 3 := by
  have h := Jvm.Kit.i32_mask x 3 (k := 2) (by decide) (by decide)
  have z0 : (0 : Int32).toInt = 0 := rfl
  have z1 : (1 : Int32).toInt = 1 := rfl
  have z2 : (2 : Int32).toInt = 2 := rfl
  have z3 : (3 : Int32).toInt = 3 := rfl
  simp only [← Int32.toInt_inj]; omega
theorem own_last3 {x : Int32} (h0 : ¬ x &&& 3 = 0) (h1 : ¬ x &&& 3 = 1) (h2 : ¬ x &&& 3 = 2) : x &&& 3 = 3 := by
  have := own_and3 x; simp_all
theorem ef_0 (m : MethodId) (p0 : Int32) (p1 : Int32) (p2 : Int32) (p3 : Int32) (p4 : Int32) : entryFrame m #[(.int p0), (.int p1), (.int p2), (.int p3), (.int p4)] maxLocals = mkF m 0 #[.val (.int p0), .val (.int p1), .val (.int p2), .val (.int p3), .val (.int p4), .unset, .unset, .unset, .unset] [] := by first | (simp [entryFrame, mkF, argsToLocals, Value.category, maxLocals]; done) | rfl
theorem pd_0 : parseMethodDescriptor "([I)I" = some ⟨[(.array .int)], some .int⟩ := by decide +kernel
theorem pd_1 : parseMethodDescriptor "(IIIII)Z" = some ⟨[.int, .int, .int, .int, .int], some .boolean⟩ := by decide +kernel
def f0 (p0 : Int32) (p1 : Int32) (p2 : Int32) (p3 : Int32) (p4 : Int32) : Int32 := (if (p0 &&& (3 : Int32)) = (0 : Int32) then (if (f2 (1 : Int32) (0 : Int32) (0 : Int32) p1 p1) = (0 : Int32) then (0 : Int32) else (if (f2 (1 : Int32) (0 : Int32) (1 : Int32) p2 p1) = (0 : Int32) then (0 : Int32) else (if (f2 (1 : Int32) (0 : Int32) (2 : Int32) p3 p1) = (0 : Int32) then (0 : Int32) else (if (f2 (1 : Int32) (0 : Int32) (3 : Int32) p4 p1) = (0 : Int32) then (0 : Int32) else (1 : Int32))))) else (if (p0 &&& (3 : Int32)) = (1 : Int32) then (if (f1_2 p1 p2) = (0 : Int32) then (if (f2 (2 : Int32) (0 : Int32) (0 : Int32) p1 p1) = (0 : Int32) then (0 : Int32) else (if (f2 (2 : Int32) (0 : Int32) (1 : Int32) p2 p1) = (0 : Int32) then (0 : Int32) else (if (f2 (2 : Int32) (0 : Int32) (2 : Int32) p3 p1) = (0 : Int32) then (0 : Int32) else (if (f2 (2 : Int32) (0 : Int32) (3 : Int32) p4 p1) = (0 : Int32) then (0 : Int32) else (1 : Int32))))) else (if (f2 (2 : Int32) (1 : Int32) (0 : Int32) p1 p2) = (0 : Int32) then (0 : Int32) else (if (f2 (2 : Int32) (1 : Int32) (1 : Int32) p2 p2) = (0 : Int32) then (0 : Int32) else (if (f2 (2 : Int32) (1 : Int32) (2 : Int32) p3 p2) = (0 : Int32) then (0 : Int32) else (if (f2 (2 : Int32) (1 : Int32) (3 : Int32) p4 p2) = (0 : Int32) then (0 : Int32) else (1 : Int32)))))) else (if (p0 &&& (3 : Int32)) = (2 : Int32) then (if (f1_3 p1 p2 p3) = (0 : Int32) then (if (f2 (3 : Int32) (0 : Int32) (0 : Int32) p1 p1) = (0 : Int32) then (0 : Int32) else (if (f2 (3 : Int32) (0 : Int32) (1 : Int32) p2 p1) = (0 : Int32) then (0 : Int32) else (if (f2 (3 : Int32) (0 : Int32) (2 : Int32) p3 p1) = (0 : Int32) then (0 : Int32) else (if (f2 (3 : Int32) (0 : Int32) (3 : Int32) p4 p1) = (0 : Int32) then (0 : Int32) else (1 : Int32))))) else (if (f1_3 p1 p2 p3) = (1 : Int32) then (if (f2 (3 : Int32) (1 : Int32) (0 : Int32) p1 p2) = (0 : Int32) then (0 : Int32) else (if (f2 (3 : Int32) (1 : Int32) (1 : Int32) p2 p2) = (0 : Int32) then (0 : Int32) else (if (f2 (3 : Int32) (1 : Int32) (2 : Int32) p3 p2) = (0 : Int32) then (0 : Int32) else (if (f2 (3 : Int32) (1 : Int32) (3 : Int32) p4 p2) = (0 : Int32) then (0 : Int32) else (1 : Int32))))) else (if (f2 (3 : Int32) (2 : Int32) (0 : Int32) p1 p3) = (0 : Int32) then (0 : Int32) else (if (f2 (3 : Int32) (2 : Int32) (1 : Int32) p2 p3) = (0 : Int32) then (0 : Int32) else (if (f2 (3 : Int32) (2 : Int32) (2 : Int32) p3 p3) = (0 : Int32) then (0 : Int32) else (if (f2 (3 : Int32) (2 : Int32) (3 : Int32) p4 p3) = (0 : Int32) then (0 : Int32) else (1 : Int32))))))) else (if (f1_4 p1 p2 p3 p4) = (0 : Int32) then (if (f2 (4 : Int32) (0 : Int32) (0 : Int32) p1 p1) = (0 : Int32) then (0 : Int32) else (if (f2 (4 : Int32) (0 : Int32) (1 : Int32) p2 p1) = (0 : Int32) then (0 : Int32) else (if (f2 (4 : Int32) (0 : Int32) (2 : Int32) p3 p1) = (0 : Int32) then (0 : Int32) else (if (f2 (4 : Int32) (0 : Int32) (3 : Int32) p4 p1) = (0 : Int32) then (0 : Int32) else (1 : Int32))))) else (if (f1_4 p1 p2 p3 p4) = (1 : Int32) then (if (f2 (4 : Int32) (1 : Int32) (0 : Int32) p1 p2) = (0 : Int32) then (0 : Int32) else (if (f2 (4 : Int32) (1 : Int32) (1 : Int32) p2 p2) = (0 : Int32) then (0 : Int32) else (if (f2 (4 : Int32) (1 : Int32) (2 : Int32) p3 p2) = (0 : Int32) then (0 : Int32) else (if (f2 (4 : Int32) (1 : Int32) (3 : Int32) p4 p2) = (0 : Int32) then (0 : Int32) else (1 : Int32))))) else (if (f1_4 p1 p2 p3 p4) = (2 : Int32) then (if (f2 (4 : Int32) (2 : Int32) (0 : Int32) p1 p3) = (0 : Int32) then (0 : Int32) else (if (f2 (4 : Int32) (2 : Int32) (1 : Int32) p2 p3) = (0 : Int32) then (0 : Int32) else (if (f2 (4 : Int32) (2 : Int32) (2 : Int32) p3 p3) = (0 : Int32) then (0 : Int32) else (if (f2 (4 : Int32) (2 : Int32) (3 : Int32) p4 p3) = (0 : Int32) then (0 : Int32) else (1 : Int32))))) else (if (f2 (4 : Int32) (3 : Int32) (0 : Int32) p1 p4) = (0 : Int32) then (0 : Int32) else (if (f2 (4 : Int32) (3 : Int32) (1 : Int32) p2 p4) = (0 : Int32) then (0 : Int32) else (if (f2 (4 : Int32) (3 : Int32) (2 : Int32) p3 p4) = (0 : Int32) then (0 : Int32) else (if (f2 (4 : Int32) (3 : Int32) (3 : Int32) p4 p4) = (0 : Int32) then (0 : Int32) else (1 : Int32)))))))))))
def Q0 (Z : State) (p0 : Int32) (p1 : Int32) (p2 : Int32) (p3 : Int32) (p4 : Int32) (h0 : Heap) (n0 : Nat) (v : Option Value) (h : Heap) (L : List Loc) : Prop := Fr n0 L ∧ v = some (.int (f0 p0 p1 p2 p3 p4))
set_option maxRecDepth 65536 in
set_option maxHeartbeats 40000000 in
theorem rm0 (l : Launch) (Z : State) (a0 : Array Value) (hw : ∀ d ∈ tables_1, d.before a0 Z = true) (ws : List Jvm.Cond) (p0 : Int32) (p1 : Int32) (p2 : Int32) (p3 : Int32) (p4 : Int32) (h0 : Heap) (n0 : Nat) (Z0 : n0 ≤ h0.size)  :
    MetFree l x (head1 (Jvm.Cond.code x code maxLocals ret :: ws) room_1) (fun a U => a = #[(.int p0), (.int p1), (.int p2), (.int p3), (.int p4)] ∧ Z.Warmed39 U.vm ∧ U.heap = h0) (fun _ _ _ _ _ => True) (fun _ U o U' => ∃ v L, o = .returned v ∧ Q0 Z p0 p1 p2 p3 p4 h0 n0 v U'.heap L ∧ FrameEnd U o U' L room_1.cells room_1.slots) := by
  refine MetFree.of_bodySF (plainFor_of_name pn_com_example_sixfold_sixfold_rows_RowsFewestPinLaw) hisR ?_
  intro p e s m args below meth c s₁ Bd hml0 hP hK
  obtain ⟨rfl, hZ, hh⟩ := hP
  have hx := Bd.exec
  have hby := Bd.bytes
  have hml : c.maxLocals = 9 := hml0
  have hown : s.vm.findClass "com/example/sixfold/sixfold/rows/RowsFewestPinLaw" = some m.cls := findClass_of_methodNamed Bd.named
  have hnm := (name_of_methodNamed Bd.named Bd.method).1
  have X0 : Stand p l e room_1 s m #[(.int p0), (.int p1), (.int p2), (.int p3), (.int p4)] below meth c s₁ [] 0 0 := Stand.of_body Bd
  have e0 : s₁.heap = h0 := by rw [← hh, Bd.state]; rfl
  have N0 := Fr.nil n0
  show own_Gl p e below (fun o U' => ∃ v L, o = .returned v ∧ Q0 Z p0 p1 p2 p3 p4 h0 n0 v U'.heap L ∧ FrameEnd s o U' L room_1.cells room_1.slots) (s₁.setTop (entryFrame m #[(.int p0), (.int p1), (.int p2), (.int p3), (.int p4)] maxLocals))
  refine own_go (fun t k => castTop (ef_0 m p0 p1 p2 p3 p4) k) ?_
  show own_Gl _ _ _ _ (s₁.setTop (mkF m 0 #[.val (.int p0), .val (.int p1), .val (.int p2), .val (.int p3), .val (.int p4), .unset, .unset, .unset, .unset] []))
  refine own_go (fun t k => XS.iloadN X0.here hx rfl (hb hby at_0) rfl k) ?_
  show own_Gl _ _ _ _ (s₁.setTop (mkF m 1 #[.val (.int p0), .val (.int p1), .val (.int p2), .val (.int p3), .val (.int p4), .unset, .unset, .unset, .unset] [(.int p0)]))
  refine own_go (fun t k => XS.iconst X0.here hx rfl (hb hby at_1) k) ?_
  show own_Gl _ _ _ _ (s₁.setTop (mkF m 2 #[.val (.int p0), .val (.int p1), .val (.int p2), .val (.int p3), .val (.int p4), .unset, .unset, .unset, .unset] [(.int (3 : Int32)), (.int p0)]))
  refine own_go (fun t k => XS.iand X0.here hx rfl (hb hby at_2) rfl k) ?_
  show own_Gl _ _ _ _ (s₁.setTop (mkF m 3 #[.val (.int p0), .val (.int p1), .val (.int p2), .val (.int p3), .val (.int p4), .unset, .unset, .unset, .unset] [(.int (p0 &&& (3 : Int32)))]))
  by_cases hc3_64 : (p0 &&& (3 : Int32)) = (0 : Int32)
  · rw [hc3_64]
    show own_Gl _ _ _ _ (s₁.setTop (mkF m 3 #[.val (.int p0), .val (.int p1), .val (.int p2), .val (.int p3), .val (.int p4), .unset, .unset, .unset, .unset] [(.int (0 : Int32))]))
    refine own_go (fun t k => XS.iconst X0.here hx rfl (hb hby at_3) k) ?_
    show own_Gl _ _ _ _ (s₁.setTop (mkF m 4 #[.val (.int p0), .val (.int p1), .val (.int p2), .val (.int p3), .val (.int p4), .unset, .unset, .unset, .unset] [(.int (1 : Int32)), (.int (0 : Int32))]))
    refine own_go (fun t k => XS.iadd X0.here hx rfl (hb hby at_4) rfl k) ?_
    show own_Gl _ _ _ _ (s₁.setTop (mkF m 5 #[.val (.int p0), .val (.int p1), .val (.int p2), .val (.int p3), .val (.int p4), .unset, .unset, .unset, .unset] [(.int (1 : Int32))]))
    refine own_go (fun t k => XS.istore X0.here hx rfl (hb hby at_5) rfl (l' := #[.val (.int p0), .val (.int p1), .val (.int p2), .val (.int p3), .val (.int p4), .val (.int (1 : Int32)), .unset, .unset, .unset]) rfl k) ?_
    show own_Gl _ _ _ _ (s₁.setTop (mkF m 7 #[.val (.int p0), .val (.int p1), .val (.int p2), .val (.int p3), .val (.int p4), .val (.int (1 : Int32)), .unset, .unset, .unset] []))
    refine own_go (fun t k => XS.iload X0.here hx rfl (hb hby at_7) rfl k) ?_
    show own_Gl _ _ _ _ (s₁.setTop (mkF m 9 #[.val (.int p0), .val (.int p1), .val (.int p2), .val (.int p3), .val (.int p4), .val (.int (1 : Int32)), .unset, .unset, .unset] [(.int (1 : Int32))]))
    obtain ⟨T65, h65, k65, X65, e65, E65, A65, st65⟩ := newP X0 hx hZ (hw _ (List.mem_of_getElem? (i := 0) rfl)) e0 (g := (mkF m 9 #[.val (.int p0), .val (.int p1), .val (.int p2), .val (.int p3), .val (.int p4), .val (.int (1 : Int32)), .unset, .unset, .unset] [(.int (1 : Int32))])) rfl (hb hby at_9) rfl (by decide) (cap := 1) (by decide) (by decide) (by decide) (by decide)
    obtain ⟨b65, g65⟩ : ∃ z, z = h0.size := ⟨_, rfl⟩
    rw [← g65] at A65 st65
    have ge_b65 : n0 ≤ b65 := Nat.le_trans Z0 (Nat.le_of_eq g65.symm)
    have sz_b65 : h0.size ≤ b65 := Nat.le_trans (Keep.refl h0 []).1 (Nat.le_of_eq g65.symm)
    refine own_go (fun t k => st65 _ k) ?_
    have K65 : Keep h0 h65 [] := (Keep.refl h0 []).ext E65
    have Z65 : n0 ≤ h65.size := Nat.le_trans Z0 E65.1
    have V65 : Arv Z h65 b65 k65 .int (1 : Int32) [(.int (0 : Int32))] (.int (0 : Int32)) := (Arv.new A65 (by decide)).pad (pad_rep [] (.int (0 : Int32)) 1)
    show own_Gl _ _ _ _ (T65.setTop (mkF m 11 #[.val (.int p0), .val (.int p1), .val (.int p2), .val (.int p3), .val (.int p4), .val (.int (1 : Int32)), .unset, .unset, .unset] [(.ref b65)]))
    refine own_go (fun t k => XS.astore X65.here hx rfl (hb hby at_11) rfl rfl (l' := #[.val (.int p0), .val (.int p1), .val (.int p2), .val (.int p3), .val (.int p4), .val (.int (1 : Int32)), .val (.ref b65), .unset, .unset]) rfl k) ?_
    show own_Gl _ _ _ _ (T65.setTop (mkF m 13 #[.val (.int p0), .val (.int p1), .val (.int p2), .val (.int p3), .val (.int p4), .val (.int (1 : Int32)), .val (.ref b65), .unset, .unset] []))
    refine own_go (fun t k => XS.aload X65.here hx rfl (hb hby at_13) rfl rfl k) ?_
    show own_Gl _ _ _ _ (T65.setTop (mkF m 15 #[.val (.int p0), .val (.int p1), .val (.int p2), .val (.int p3), .val (.int p4), .val (.int (1 : Int32)), .val (.ref b65), .unset, .unset] [(.ref b65)]))
    refine own_go (fun t k => XS.iconst X65.here hx rfl (hb hby at_15) k) ?_
    show own_Gl _ _ _ _ (T65.setTop (mkF m 16 #[.val (.int p0), .val (.int p1), .val (.int p2), .val (.int p3), .val (.int p4), .val (.int (1 : Int32)), .val (.ref b65), .unset, .unset] [(.int (0 : Int32)), (.ref b65)]))
    refine own_go (fun t k => XS.iloadN X65.here hx rfl (hb hby at_16) rfl k) ?_
    show own_Gl _ _ _ _ (T65.setTop (mkF m 17 #[.val (.int p0), .val (.int p1), .val (.int p2), .val (.int p3), .val (.int p4), .val (.int (1 : Int32)), .val (.ref b65), .unset, .unset] [(.int p1), (.int (0 : Int32)), (.ref b65)]))
    obtain ⟨cl66, Ar66, qk66, S66, M66, H66, G66⟩ := id V65
    have hin66 : ¬ ((0 : Int32) < 0 ∨ cl66.slots.size ≤ ((0 : Int32)).toNatClampNeg) := inb_of S66 ⟨by decide, by decide⟩
    obtain ⟨T66, h66, X66, e66, W66, st66⟩ := stI X65 hx hZ e65 Ar66 (j := (0 : Int32)) hin66 (g := (mkF m 17 #[.val (.int p0), .val (.int p1), .val (.int p2), .val (.int p3), .val (.int p4), .val (.int (1 : Int32)), .val (.ref b65), .unset, .unset] [(.int p1), (.int (0 : Int32)), (.ref b65)])) rfl rfl (hb hby at_17)
    refine own_go (fun t k => st66 _ k) ?_
    have V66 : Arv Z h66 b65 k65 .int (1 : Int32) [(.int p1)] (.int (0 : Int32)) := Arv.set Ar66 qk66 S66 M66 H66 G66 rfl W66 0 rfl (Nat.le_of_ble_eq_true rfl)
    have K66 : Keep h0 h66 [] := K65.wr W66 (Or.inr sz_b65)
    have N66 := Fr.snoc X66 N0 ge_b65
    have Z66 : n0 ≤ h66.size := Nat.le_trans Z65 (Keep.of_wr W66).1
    show own_Gl _ _ _ _ (T66.setTop (mkF m 18 #[.val (.int p0), .val (.int p1), .val (.int p2), .val (.int p3), .val (.int p4), .val (.int (1 : Int32)), .val (.ref b65), .unset, .unset] []))
    refine own_go (fun t k => XS.iload X66.here hx rfl (hb hby at_18) rfl k) ?_
    show own_Gl _ _ _ _ (T66.setTop (mkF m 20 #[.val (.int p0), .val (.int p1), .val (.int p2), .val (.int p3), .val (.int p4), .val (.int (1 : Int32)), .val (.ref b65), .unset, .unset] [(.int (1 : Int32))]))
    refine own_go (fun t k => XS.iconst X66.here hx rfl (hb hby at_20) k) ?_
    show own_Gl _ _ _ _ (T66.setTop (mkF m 21 #[.val (.int p0), .val (.int p1), .val (.int p2), .val (.int p3), .val (.int p4), .val (.int (1 : Int32)), .val (.ref b65), .unset, .unset] [(.int (1 : Int32)), (.int (1 : Int32))]))
    refine own_go (fun t k => XS.icmpYes X66.here hx rfl (pc0 := 21) (pc' := 29) rfl (hb hby at_21) rfl (flt (by decide : ¬ ((1 : Int32) < (1 : Int32)))).2.2.2 (by decide) (by decide) k) ?_
    show own_Gl _ _ _ _ (T66.setTop (mkF m 29 #[.val (.int p0), .val (.int p1), .val (.int p2), .val (.int p3), .val (.int p4), .val (.int (1 : Int32)), .val (.ref b65), .unset, .unset] []))
    refine own_go (fun t k => XS.iload X66.here hx rfl (hb hby at_29) rfl k) ?_
    show own_Gl _ _ _ _ (T66.setTop (mkF m 31 #[.val (.int p0), .val (.int p1), .val (.int p2), .val (.int p3), .val (.int p4), .val (.int (1 : Int32)), .val (.ref b65), .unset, .unset] [(.int (1 : Int32))]))
    refine own_go (fun t k => XS.iconst X66.here hx rfl (hb hby at_31) k) ?_
    show own_Gl _ _ _ _ (T66.setTop (mkF m 32 #[.val (.int p0), .val (.int p1), .val (.int p2), .val (.int p3), .val (.int p4), .val (.int (1 : Int32)), .val (.ref b65), .unset, .unset] [(.int (2 : Int32)), (.int (1 : Int32))]))
    refine own_go (fun t k => XS.icmpYes X66.here hx rfl (pc0 := 32) (pc' := 40) rfl (hb hby at_32) rfl (flt (by decide : ¬ ((2 : Int32) < (1 : Int32)))).2.2.2 (by decide) (by decide) k) ?_
    show own_Gl _ _ _ _ (T66.setTop (mkF m 40 #[.val (.int p0), .val (.int p1), .val (.int p2), .val (.int p3), .val (.int p4), .val (.int (1 : Int32)), .val (.ref b65), .unset, .unset] []))
    refine own_go (fun t k => XS.iload X66.here hx rfl (hb hby at_40) rfl k) ?_
    show own_Gl _ _ _ _ (T66.setTop (mkF m 42 #[.val (.int p0), .val (.int p1), .val (.int p2), .val (.int p3), .val (.int p4), .val (.int (1 : Int32)), .val (.ref b65), .unset, .unset] [(.int (1 : Int32))]))
    refine own_go (fun t k => XS.iconst X66.here hx rfl (hb hby at_42) k) ?_
    show own_Gl _ _ _ _ (T66.setTop (mkF m 43 #[.val (.int p0), .val (.int p1), .val (.int p2), .val (.int p3), .val (.int p4), .val (.int (1 : Int32)), .val (.ref b65), .unset, .unset] [(.int (3 : Int32)), (.int (1 : Int32))]))
    refine own_go (fun t k => XS.icmpYes X66.here hx rfl (pc0 := 43) (pc' := 52) rfl (hb hby at_43) rfl (flt (by decide : ¬ ((3 : Int32) < (1 : Int32)))).2.2.2 (by decide) (by decide) k) ?_
    show own_Gl _ _ _ _ (T66.setTop (mkF m 52 #[.val (.int p0), .val (.int p1), .val (.int p2), .val (.int p3), .val (.int p4), .val (.int (1 : Int32)), .val (.ref b65), .unset, .unset] []))
    refine own_go (fun t k => XS.aload X66.here hx rfl (hb hby at_52) rfl rfl k) ?_
    show own_Gl _ _ _ _ (T66.setTop (mkF m 54 #[.val (.int p0), .val (.int p1), .val (.int p2), .val (.int p3), .val (.int p4), .val (.int (1 : Int32)), .val (.ref b65), .unset, .unset] [(.ref b65)]))
    obtain ⟨_, _, ⟨T67, L67, kk67, nn67⟩, -, X67, ⟨Lc67, hQ67, l67, y67, z67⟩, st67⟩ := Jvm.LawKit.callS X66 hx (y := (⟨"com/example/sixfold/sixfold/rows/Rows", "fewest", "([I)I"⟩ : MethodName)) hown (mvT hZ (hw _ (List.mem_of_getElem? (i := 1) rfl))) (mvT hZ (hw _ (List.mem_of_getElem? (i := 2) rfl))) (mvT hZ (hw _ (List.mem_of_getElem? (i := 3) rfl))) (mvT hZ (hw _ (List.mem_of_getElem? (i := 4) rfl))) (by decide) (backOf (W := 0) (rm1_1 l Z a0 hw [] b65 k65 p1 h66 n0 Z66 V66) hZ (hw _ (List.mem_of_getElem? (i := 4) rfl)) (hw _ (List.mem_of_getElem? (i := 3) rfl)) (by decide) (by decide)) (g := (mkF m 54 #[.val (.int p0), .val (.int p1), .val (.int p2), .val (.int p3), .val (.int p4), .val (.int (1 : Int32)), .val (.ref b65), .unset, .unset] [(.ref b65)])) rfl (by rw [hml]; rfl) (argsL := [(.ref b65)]) (rest := []) (lenOf pd_0 rfl) rfl (by show 2 * 0 + _ ≤ _; exact Nat.le_of_eq rfl) (hb hby at_54) (fun _ _ => ⟨rfl, e66, (by decide : 1 + 0 ≤ _), (by decide : 1 + 0 ≤ _)⟩)
    dsimp only [Pt.U, Pt.locs, Pt.cells, Pt.slots] at X67 l67 y67 z67 st67 hQ67
    subst l67 y67 z67
    obtain ⟨N67q, rfl, hq67⟩ := hQ67
    have N67 := Fr.app N66 N67q
    refine own_go (fun t k => st67 _ k) ?_
    show own_Gl _ _ _ _ (T67.setTop (mkF m 57 #[.val (.int p0), .val (.int p1), .val (.int p2), .val (.int p3), .val (.int p4), .val (.int (1 : Int32)), .val (.ref b65), .unset, .unset] [(.int (f1_1 p1))]))
    have hs68 : (f1_1 p1) = (0 : Int32) := by have hr := own_rg1 p1; simpa [] using hr
    rw [hs68]
    show own_Gl _ _ _ _ (T67.setTop (mkF m 57 #[.val (.int p0), .val (.int p1), .val (.int p2), .val (.int p3), .val (.int p4), .val (.int (1 : Int32)), .val (.ref b65), .unset, .unset] [(.int (0 : Int32))]))
    refine own_go (fun t k => XS.istore X67.here hx rfl (hb hby at_57) rfl (l' := #[.val (.int p0), .val (.int p1), .val (.int p2), .val (.int p3), .val (.int p4), .val (.int (1 : Int32)), .val (.ref b65), .val (.int (0 : Int32)), .unset]) rfl k) ?_
    show own_Gl _ _ _ _ (T67.setTop (mkF m 59 #[.val (.int p0), .val (.int p1), .val (.int p2), .val (.int p3), .val (.int p4), .val (.int (1 : Int32)), .val (.ref b65), .val (.int (0 : Int32)), .unset] []))
    refine own_go (fun t k => XS.iload X67.here hx rfl (hb hby at_59) rfl k) ?_
    show own_Gl _ _ _ _ (T67.setTop (mkF m 61 #[.val (.int p0), .val (.int p1), .val (.int p2), .val (.int p3), .val (.int p4), .val (.int (1 : Int32)), .val (.ref b65), .val (.int (0 : Int32)), .unset] [(.int (0 : Int32))]))
    refine own_go (fun t k => XS.ifNo X67.here hx rfl (hb hby at_61) rfl ((if0 _ _).trans (flt (by decide : ¬ ((0 : Int32) < (0 : Int32)))).1) k) ?_
    show own_Gl _ _ _ _ (T67.setTop (mkF m 64 #[.val (.int p0), .val (.int p1), .val (.int p2), .val (.int p3), .val (.int p4), .val (.int (1 : Int32)), .val (.ref b65), .val (.int (0 : Int32)), .unset] []))
    refine own_go (fun t k => XS.iload X67.here hx rfl (hb hby at_64) rfl k) ?_
    show own_Gl _ _ _ _ (T67.setTop (mkF m 66 #[.val (.int p0), .val (.int p1), .val (.int p2), .val (.int p3), .val (.int p4), .val (.int (1 : Int32)), .val (.ref b65), .val (.int (0 : Int32)), .unset] [(.int (0 : Int32))]))
    refine own_go (fun t k => XS.iload X67.here hx rfl (hb hby at_66) rfl k) ?_
    show own_Gl _ _ _ _ (T67.setTop (mkF m 68 #[.val (.int p0), .val (.int p1), .val (.int p2), .val (.int p3), .val (.int p4), .val (.int (1 : Int32)), .val (.ref b65), .val (.int (0 : Int32)), .unset] [(.int (1 : Int32)), (.int (0 : Int32))]))
    refine own_go (fun t k => XS.icmpYes X67.here hx rfl (pc0 := 68) (pc' := 73) rfl (hb hby at_68) rfl (tlt (by decide : (0 : Int32) < (1 : Int32))).1 (by decide) (by decide) k) ?_
    show own_Gl _ _ _ _ (T67.setTop (mkF m 73 #[.val (.int p0), .val (.int p1), .val (.int p2), .val (.int p3), .val (.int p4), .val (.int (1 : Int32)), .val (.ref b65), .val (.int (0 : Int32)), .unset] []))
    refine own_go (fun t k => XS.aload X67.here hx rfl (hb hby at_73) rfl rfl k) ?_
    show own_Gl _ _ _ _ (T67.setTop (mkF m 75 #[.val (.int p0), .val (.int p1), .val (.int p2), .val (.int p3), .val (.int p4), .val (.int (1 : Int32)), .val (.ref b65), .val (.int (0 : Int32)), .unset] [(.ref b65)]))
    refine own_go (fun t k => XS.iload X67.here hx rfl (hb hby at_75) rfl k) ?_
    show own_Gl _ _ _ _ (T67.setTop (mkF m 77 #[.val (.int p0), .val (.int p1), .val (.int p2), .val (.int p3), .val (.int p4), .val (.int (1 : Int32)), .val (.ref b65), .val (.int (0 : Int32)), .unset] [(.int (0 : Int32)), (.ref b65)]))
    obtain ⟨cl69, Ar69, qk69, S69, M69, H69, G69⟩ := id V66
    have hin69 : ¬ ((0 : Int32) < 0 ∨ cl69.slots.size ≤ ((0 : Int32)).toNatClampNeg) := inb_of S69 ⟨by decide, by decide⟩
    have hat69 : cl69.slots[((0 : Int32)).toNatClampNeg]? = some (.int p1) := H69.at hin69 rfl
    refine own_go (fun t k => X67.iaload hx (j := (0 : Int32)) (v := (.int p1)) (by rw [hq67]; exact Ar69.1) (State.isArrayOf_alike hZ.alike Ar69.2.1) Ar69.2.2 hin69 hat69 (g := (mkF m 77 #[.val (.int p0), .val (.int p1), .val (.int p2), .val (.int p3), .val (.int p4), .val (.int (1 : Int32)), .val (.ref b65), .val (.int (0 : Int32)), .unset] [(.int (0 : Int32)), (.ref b65)])) rfl rfl (hb hby at_77) _ k) ?_
    show own_Gl _ _ _ _ (T67.setTop (mkF m 78 #[.val (.int p0), .val (.int p1), .val (.int p2), .val (.int p3), .val (.int p4), .val (.int (1 : Int32)), .val (.ref b65), .val (.int (0 : Int32)), .unset] [(.int p1)]))
    refine own_go (fun t k => XS.istore X67.here hx rfl (hb hby at_78) rfl (l' := #[.val (.int p0), .val (.int p1), .val (.int p2), .val (.int p3), .val (.int p4), .val (.int (1 : Int32)), .val (.ref b65), .val (.int (0 : Int32)), .val (.int p1)]) rfl k) ?_
    show own_Gl _ _ _ _ (T67.setTop (mkF m 80 #[.val (.int p0), .val (.int p1), .val (.int p2), .val (.int p3), .val (.int p4), .val (.int (1 : Int32)), .val (.ref b65), .val (.int (0 : Int32)), .val (.int p1)] []))
    refine own_go (fun t k => XS.iload X67.here hx rfl (hb hby at_80) rfl k) ?_
    show own_Gl _ _ _ _ (T67.setTop (mkF m 82 #[.val (.int p0), .val (.int p1), .val (.int p2), .val (.int p3), .val (.int p4), .val (.int (1 : Int32)), .val (.ref b65), .val (.int (0 : Int32)), .val (.int p1)] [(.int (1 : Int32))]))
    refine own_go (fun t k => XS.iload X67.here hx rfl (hb hby at_82) rfl k) ?_
    show own_Gl _ _ _ _ (T67.setTop (mkF m 84 #[.val (.int p0), .val (.int p1), .val (.int p2), .val (.int p3), .val (.int p4), .val (.int (1 : Int32)), .val (.ref b65), .val (.int (0 : Int32)), .val (.int p1)] [(.int (0 : Int32)), (.int (1 : Int32))]))
    refine own_go (fun t k => XS.iconst X67.here hx rfl (hb hby at_84) k) ?_
    show own_Gl _ _ _ _ (T67.setTop (mkF m 85 #[.val (.int p0), .val (.int p1), .val (.int p2), .val (.int p3), .val (.int p4), .val (.int (1 : Int32)), .val (.ref b65), .val (.int (0 : Int32)), .val (.int p1)] [(.int (0 : Int32)), (.int (0 : Int32)), (.int (1 : Int32))]))
    refine own_go (fun t k => XS.iloadN X67.here hx rfl (hb hby at_85) rfl k) ?_
    show own_Gl _ _ _ _ (T67.setTop (mkF m 86 #[.val (.int p0), .val (.int p1), .val (.int p2), .val (.int p3), .val (.int p4), .val (.int (1 : Int32)), .val (.ref b65), .val (.int (0 : Int32)), .val (.int p1)] [(.int p1), (.int (0 : Int32)), (.int (0 : Int32)), (.int (1 : Int32))]))
    refine own_go (fun t k => XS.iload X67.here hx rfl (hb hby at_86) rfl k) ?_
    show own_Gl _ _ _ _ (T67.setTop (mkF m 88 #[.val (.int p0), .val (.int p1), .val (.int p2), .val (.int p3), .val (.int p4), .val (.int (1 : Int32)), .val (.ref b65), .val (.int (0 : Int32)), .val (.int p1)] [(.int p1), (.int p1), (.int (0 : Int32)), (.int (0 : Int32)), (.int (1 : Int32))]))
    obtain ⟨_, _, ⟨T70, L70, kk70, nn70⟩, -, X70, ⟨Lc70, hQ70, l70, y70, z70⟩, st70⟩ := Jvm.LawKit.callS X67 hx (y := (⟨"com/example/sixfold/sixfold/rows/RowsFewestPinLaw", "fits", "(IIIII)Z"⟩ : MethodName)) hown (mvT hZ (hw _ (List.mem_of_getElem? (i := 5) rfl))) (mvT hZ (hw _ (List.mem_of_getElem? (i := 6) rfl))) (mvT hZ (hw _ (List.mem_of_getElem? (i := 7) rfl))) (mvT hZ (hw _ (List.mem_of_getElem? (i := 8) rfl))) (by decide) (backOf (W := 0) (rm2 l Z a0 hw [] (1 : Int32) (0 : Int32) (0 : Int32) p1 p1 h66 n0 Z66 ) hZ (hw _ (List.mem_of_getElem? (i := 8) rfl)) (hw _ (List.mem_of_getElem? (i := 7) rfl)) (by decide) (by decide)) (g := (mkF m 88 #[.val (.int p0), .val (.int p1), .val (.int p2), .val (.int p3), .val (.int p4), .val (.int (1 : Int32)), .val (.ref b65), .val (.int (0 : Int32)), .val (.int p1)] [(.int p1), (.int p1), (.int (0 : Int32)), (.int (0 : Int32)), (.int (1 : Int32))])) rfl (by rw [hml]; rfl) (argsL := [(.int (1 : Int32)), (.int (0 : Int32)), (.int (0 : Int32)), (.int p1), (.int p1)]) (rest := []) (lenOf pd_1 rfl) rfl (by show 2 * 0 + _ ≤ _; exact Nat.le_of_eq rfl) (hb hby at_88) (fun _ _ => ⟨rfl, hq67, (by decide : 1 + 0 ≤ _), (by decide : 1 + 0 ≤ _)⟩)
    dsimp only [Pt.U, Pt.locs, Pt.cells, Pt.slots] at X70 l70 y70 z70 st70 hQ70
    subst l70 y70 z70
    obtain ⟨N70q, rfl, hq70⟩ := hQ70
    have N70 := Fr.app N67 N70q
    refine own_go (fun t k => st70 _ k) ?_
    show own_Gl _ _ _ _ (T70.setTop (mkF m 91 #[.val (.int p0), .val (.int p1), .val (.int p2), .val (.int p3), .val (.int p4), .val (.int (1 : Int32)), .val (.ref b65), .val (.int (0 : Int32)), .val (.int p1)] [(.int (f2 (1 : Int32) (0 : Int32) (0 : Int32) p1 p1))]))
    by_cases hc91_71 : (f2 (1 : Int32) (0 : Int32) (0 : Int32) p1 p1) = (0 : Int32)
    · refine own_go (fun t k => XS.ifYes X70.here hx rfl (pc0 := 91) (pc' := 141) rfl (hb hby at_91) rfl ((if0 _ _).trans (teq hc91_71).1) (by decide) (by decide) k) ?_
      show own_Gl _ _ _ _ (T70.setTop (mkF m 141 #[.val (.int p0), .val (.int p1), .val (.int p2), .val (.int p3), .val (.int p4), .val (.int (1 : Int32)), .val (.ref b65), .val (.int (0 : Int32)), .val (.int p1)] []))
      refine own_go (fun t k => XS.iconst X70.here hx rfl (hb hby at_141) k) ?_
      show own_Gl _ _ _ _ (T70.setTop (mkF m 142 #[.val (.int p0), .val (.int p1), .val (.int p2), .val (.int p3), .val (.int p4), .val (.int (1 : Int32)), .val (.ref b65), .val (.int (0 : Int32)), .val (.int p1)] [(.int (0 : Int32))]))
      obtain ⟨fs, hr, hrun, hended, hW, hsame⟩ := X70.leave (v := some (.int (0 : Int32))) (fun h => by rw [Bd.returns] at h; cases h)
      refine own_fin (retN X70 hx (t := .boolean) Bd.returns (by simp) (hb hby at_142) hr) hrun hended ⟨_, _, rfl, ?_, ⟨_, rfl⟩, hW, hsame.mono (by decide) (by decide)⟩
      show Q0 Z p0 p1 p2 p3 p4 h0 n0 _ T70.heap _
      rw [hq70]
      exact ⟨N70, by rw [f0, if_pos hc3_64, if_pos hc91_71]⟩
    · refine own_go (fun t k => XS.ifNo X70.here hx rfl (hb hby at_91) rfl ((if0 _ _).trans (feq hc91_71).1) k) ?_
      show own_Gl _ _ _ _ (T70.setTop (mkF m 94 #[.val (.int p0), .val (.int p1), .val (.int p2), .val (.int p3), .val (.int p4), .val (.int (1 : Int32)), .val (.ref b65), .val (.int (0 : Int32)), .val (.int p1)] []))
      refine own_go (fun t k => XS.iload X70.here hx rfl (hb hby at_94) rfl k) ?_
      show own_Gl _ _ _ _ (T70.setTop (mkF m 96 #[.val (.int p0), .val (.int p1), .val (.int p2), .val (.int p3), .val (.int p4), .val (.int (1 : Int32)), .val (.ref b65), .val (.int (0 : Int32)), .val (.int p1)] [(.int (1 : Int32))]))
      refine own_go (fun t k => XS.iload X70.here hx rfl (hb hby at_96) rfl k) ?_
      show own_Gl _ _ _ _ (T70.setTop (mkF m 98 #[.val (.int p0), .val (.int p1), .val (.int p2), .val (.int p3), .val (.int p4), .val (.int (1 : Int32)), .val (.ref b65), .val (.int (0 : Int32)), .val (.int p1)] [(.int (0 : Int32)), (.int (1 : Int32))]))
      refine own_go (fun t k => XS.iconst X70.here hx rfl (hb hby at_98) k) ?_
      show own_Gl _ _ _ _ (T70.setTop (mkF m 99 #[.val (.int p0), .val (.int p1), .val (.int p2), .val (.int p3), .val (.int p4), .val (.int (1 : Int32)), .val (.ref b65), .val (.int (0 : Int32)), .val (.int p1)] [(.int (1 : Int32)), (.int (0 : Int32)), (.int (1 : Int32))]))
      refine own_go (fun t k => XS.iloadN X70.here hx rfl (hb hby at_99) rfl k) ?_
      show own_Gl _ _ _ _ (T70.setTop (mkF m 100 #[.val (.int p0), .val (.int p1), .val (.int p2), .val (.int p3), .val (.int p4), .val (.int (1 : Int32)), .val (.ref b65), .val (.int (0 : Int32)), .val (.int p1)] [(.int p2), (.int (1 : Int32)), (.int (0 : Int32)), (.int (1 : Int32))]))
      refine own_go (fun t k => XS.iload X70.here hx rfl (hb hby at_100) rfl k) ?_
      show own_Gl _ _ _ _ (T70.setTop (mkF m 102 #[.val (.int p0), .val (.int p1), .val (.int p2), .val (.int p3), .val (.int p4), .val (.int (1 : Int32)), .val (.ref b65), .val (.int (0 : Int32)), .val (.int p1)] [(.int p1), (.int p2), (.int (1 : Int32)), (.int (0 : Int32)), (.int (1 : Int32))]))
      obtain ⟨_, _, ⟨T72, L72, kk72, nn72⟩, -, X72, ⟨Lc72, hQ72, l72, y72, z72⟩, st72⟩ := Jvm.LawKit.callS X70 hx (y := (⟨"com/example/sixfold/sixfold/rows/RowsFewestPinLaw", "fits", "(IIIII)Z"⟩ : MethodName)) hown (mvT hZ (hw _ (List.mem_of_getElem? (i := 5) rfl))) (mvT hZ (hw _ (List.mem_of_getElem? (i := 6) rfl))) (mvT hZ (hw _ (List.mem_of_getElem? (i := 7) rfl))) (mvT hZ (hw _ (List.mem_of_getElem? (i := 8) rfl))) (by decide) (backOf (W := 0) (rm2 l Z a0 hw [] (1 : Int32) (0 : Int32) (1 : Int32) p2 p1 h66 n0 Z66 ) hZ (hw _ (List.mem_of_getElem? (i := 8) rfl)) (hw _ (List.mem_of_getElem? (i := 7) rfl)) (by decide) (by decide)) (g := (mkF m 102 #[.val (.int p0), .val (.int p1), .val (.int p2), .val (.int p3), .val (.int p4), .val (.int (1 : Int32)), .val (.ref b65), .val (.int (0 : Int32)), .val (.int p1)] [(.int p1), (.int p2), (.int (1 : Int32)), (.int (0 : Int32)), (.int (1 : Int32))])) rfl (by rw [hml]; rfl) (argsL := [(.int (1 : Int32)), (.int (0 : Int32)), (.int (1 : Int32)), (.int p2), (.int p1)]) (rest := []) (lenOf pd_1 rfl) rfl (by show 2 * 0 + _ ≤ _; exact Nat.le_of_eq rfl) (hb hby at_102) (fun _ _ => ⟨rfl, hq70, (by decide : 1 + 0 ≤ _), (by decide : 1 + 0 ≤ _)⟩)
      dsimp only [Pt.U, Pt.locs, Pt.cells, Pt.slots] at X72 l72 y72 z72 st72 hQ72
      subst l72 y72 z72
      obtain ⟨N72q, rfl, hq72⟩ := hQ72
      have N72 := Fr.app N70 N72q
      refine own_go (fun t k => st72 _ k) ?_
      show own_Gl _ _ _ _ (T72.setTop (mkF m 105 #[.val (.int p0), .val (.int p1), .val (.int p2), .val (.int p3), .val (.int p4), .val (.int (1 : Int32)), .val (.ref b65), .val (.int (0 : Int32)), .val (.int p1)] [(.int (f2 (1 : Int32) (0 : Int32) (1 : Int32) p2 p1))]))
      by_cases hc105_73 : (f2 (1 : Int32) (0 : Int32) (1 : Int32) p2 p1) = (0 : Int32)
      · refine own_go (fun t k => XS.ifYes X72.here hx rfl (pc0 := 105) (pc' := 141) rfl (hb hby at_105) rfl ((if0 _ _).trans (teq hc105_73).1) (by decide) (by decide) k) ?_
        show own_Gl _ _ _ _ (T72.setTop (mkF m 141 #[.val (.int p0), .val (.int p1), .val (.int p2), .val (.int p3), .val (.int p4), .val (.int (1 : Int32)), .val (.ref b65), .val (.int (0 : Int32)), .val (.int p1)] []))
        refine own_go (fun t k => XS.iconst X72.here hx rfl (hb hby at_141) k) ?_
        show own_Gl _ _ _ _ (T72.setTop (mkF m 142 #[.val (.int p0), .val (.int p1), .val (.int p2), .val (.int p3), .val (.int p4), .val (.int (1 : Int32)), .val (.ref b65), .val (.int (0 : Int32)), .val (.int p1)] [(.int (0 : Int32))]))
        obtain ⟨fs, hr, hrun, hended, hW, hsame⟩ := X72.leave (v := some (.int (0 : Int32))) (fun h => by rw [Bd.returns] at h; cases h)
        refine own_fin (retN X72 hx (t := .boolean) Bd.returns (by simp) (hb hby at_142) hr) hrun hended ⟨_, _, rfl, ?_, ⟨_, rfl⟩, hW, hsame.mono (by decide) (by decide)⟩
        show Q0 Z p0 p1 p2 p3 p4 h0 n0 _ T72.heap _
        rw [hq72]
        exact ⟨N72, by rw [f0, if_pos hc3_64, if_neg hc91_71, if_pos hc105_73]⟩
      · refine own_go (fun t k => XS.ifNo X72.here hx rfl (hb hby at_105) rfl ((if0 _ _).trans (feq hc105_73).1) k) ?_
        show own_Gl _ _ _ _ (T72.setTop (mkF m 108 #[.val (.int p0), .val (.int p1), .val (.int p2), .val (.int p3), .val (.int p4), .val (.int (1 : Int32)), .val (.ref b65), .val (.int (0 : Int32)), .val (.int p1)] []))
        refine own_go (fun t k => XS.iload X72.here hx rfl (hb hby at_108) rfl k) ?_
        show own_Gl _ _ _ _ (T72.setTop (mkF m 110 #[.val (.int p0), .val (.int p1), .val (.int p2), .val (.int p3), .val (.int p4), .val (.int (1 : Int32)), .val (.ref b65), .val (.int (0 : Int32)), .val (.int p1)] [(.int (1 : Int32))]))
        refine own_go (fun t k => XS.iload X72.here hx rfl (hb hby at_110) rfl k) ?_
        show own_Gl _ _ _ _ (T72.setTop (mkF m 112 #[.val (.int p0), .val (.int p1), .val (.int p2), .val (.int p3), .val (.int p4), .val (.int (1 : Int32)), .val (.ref b65), .val (.int (0 : Int32)), .val (.int p1)] [(.int (0 : Int32)), (.int (1 : Int32))]))
        refine own_go (fun t k => XS.iconst X72.here hx rfl (hb hby at_112) k) ?_
        show own_Gl _ _ _ _ (T72.setTop (mkF m 113 #[.val (.int p0), .val (.int p1), .val (.int p2), .val (.int p3), .val (.int p4), .val (.int (1 : Int32)), .val (.ref b65), .val (.int (0 : Int32)), .val (.int p1)] [(.int (2 : Int32)), (.int (0 : Int32)), (.int (1 : Int32))]))
        refine own_go (fun t k => XS.iloadN X72.here hx rfl (hb hby at_113) rfl k) ?_
        show own_Gl _ _ _ _ (T72.setTop (mkF m 114 #[.val (.int p0), .val (.int p1), .val (.int p2), .val (.int p3), .val (.int p4), .val (.int (1 : Int32)), .val (.ref b65), .val (.int (0 : Int32)), .val (.int p1)] [(.int p3), (.int (2 : Int32)), (.int (0 : Int32)), (.int (1 : Int32))]))
        refine own_go (fun t k => XS.iload X72.here hx rfl (hb hby at_114) rfl k) ?_
        show own_Gl _ _ _ _ (T72.setTop (mkF m 116 #[.val (.int p0), .val (.int p1), .val (.int p2), .val (.int p3), .val (.int p4), .val (.int (1 : Int32)), .val (.ref b65), .val (.int (0 : Int32)), .val (.int p1)] [(.int p1), (.int p3), (.int (2 : Int32)), (.int (0 : Int32)), (.int (1 : Int32))]))
        obtain ⟨_, _, ⟨T74, L74, kk74, nn74⟩, -, X74, ⟨Lc74, hQ74, l74, y74, z74⟩, st74⟩ := Jvm.LawKit.callS X72 hx (y := (⟨"com/example/sixfold/sixfold/rows/RowsFewestPinLaw", "fits", "(IIIII)Z"⟩ : MethodName)) hown (mvT hZ (hw _ (List.mem_of_getElem? (i := 5) rfl))) (mvT hZ (hw _ (List.mem_of_getElem? (i := 6) rfl))) (mvT hZ (hw _ (List.mem_of_getElem? (i := 7) rfl))) (mvT hZ (hw _ (List.mem_of_getElem? (i := 8) rfl))) (by decide) (backOf (W := 0) (rm2 l Z a0 hw [] (1 : Int32) (0 : Int32) (2 : Int32) p3 p1 h66 n0 Z66 ) hZ (hw _ (List.mem_of_getElem? (i := 8) rfl)) (hw _ (List.mem_of_getElem? (i := 7) rfl)) (by decide) (by decide)) (g := (mkF m 116 #[.val (.int p0), .val (.int p1), .val (.int p2), .val (.int p3), .val (.int p4), .val (.int (1 : Int32)), .val (.ref b65), .val (.int (0 : Int32)), .val (.int p1)] [(.int p1), (.int p3), (.int (2 : Int32)), (.int (0 : Int32)), (.int (1 : Int32))])) rfl (by rw [hml]; rfl) (argsL := [(.int (1 : Int32)), (.int (0 : Int32)), (.int (2 : Int32)), (.int p3), (.int p1)]) (rest := []) (lenOf pd_1 rfl) rfl (by show 2 * 0 + _ ≤ _; exact Nat.le_of_eq rfl) (hb hby at_116) (fun _ _ => ⟨rfl, hq72, (by decide : 1 + 0 ≤ _), (by decide : 1 + 0 ≤ _)⟩)
        dsimp only [Pt.U, Pt.locs, Pt.cells, Pt.slots] at X74 l74 y74 z74 st74 hQ74
        subst l74 y74 z74
        obtain ⟨N74q, rfl, hq74⟩ := hQ74
        have N74 := Fr.app N72 N74q
        refine own_go (fun t k => st74 _ k) ?_
        show own_Gl _ _ _ _ (T74.setTop (mkF m 119 #[.val (.int p0), .val (.int p1), .val (.int p2), .val (.int p3), .val (.int p4), .val (.int (1 : Int32)), .val (.ref b65), .val (.int (0 : Int32)), .val (.int p1)] [(.int (f2 (1 : Int32) (0 : Int32) (2 : Int32) p3 p1))]))
        by_cases hc119_75 : (f2 (1 : Int32) (0 : Int32) (2 : Int32) p3 p1) = (0 : Int32)
        · refine own_go (fun t k => XS.ifYes X74.here hx rfl (pc0 := 119) (pc' := 141) rfl (hb hby at_119) rfl ((if0 _ _).trans (teq hc119_75).1) (by decide) (by decide) k) ?_
          show own_Gl _ _ _ _ (T74.setTop (mkF m 141 #[.val (.int p0), .val (.int p1), .val (.int p2), .val (.int p3), .val (.int p4), .val (.int (1 : Int32)), .val (.ref b65), .val (.int (0 : Int32)), .val (.int p1)] []))
          refine own_go (fun t k => XS.iconst X74.here hx rfl (hb hby at_141) k) ?_
          show own_Gl _ _ _ _ (T74.setTop (mkF m 142 #[.val (.int p0), .val (.int p1), .val (.int p2), .val (.int p3), .val (.int p4), .val (.int (1 : Int32)), .val (.ref b65), .val (.int (0 : Int32)), .val (.int p1)] [(.int (0 : Int32))]))
          obtain ⟨fs, hr, hrun, hended, hW, hsame⟩ := X74.leave (v := some (.int (0 : Int32))) (fun h => by rw [Bd.returns] at h; cases h)
          refine own_fin (retN X74 hx (t := .boolean) Bd.returns (by simp) (hb hby at_142) hr) hrun hended ⟨_, _, rfl, ?_, ⟨_, rfl⟩, hW, hsame.mono (by decide) (by decide)⟩
          show Q0 Z p0 p1 p2 p3 p4 h0 n0 _ T74.heap _
          rw [hq74]
          exact ⟨N74, by rw [f0, if_pos hc3_64, if_neg hc91_71, if_neg hc105_73, if_pos hc119_75]⟩
        · refine own_go (fun t k => XS.ifNo X74.here hx rfl (hb hby at_119) rfl ((if0 _ _).trans (feq hc119_75).1) k) ?_
          show own_Gl _ _ _ _ (T74.setTop (mkF m 122 #[.val (.int p0), .val (.int p1), .val (.int p2), .val (.int p3), .val (.int p4), .val (.int (1 : Int32)), .val (.ref b65), .val (.int (0 : Int32)), .val (.int p1)] []))
          refine own_go (fun t k => XS.iload X74.here hx rfl (hb hby at_122) rfl k) ?_
          show own_Gl _ _ _ _ (T74.setTop (mkF m 124 #[.val (.int p0), .val (.int p1), .val (.int p2), .val (.int p3), .val (.int p4), .val (.int (1 : Int32)), .val (.ref b65), .val (.int (0 : Int32)), .val (.int p1)] [(.int (1 : Int32))]))
          refine own_go (fun t k => XS.iload X74.here hx rfl (hb hby at_124) rfl k) ?_
          show own_Gl _ _ _ _ (T74.setTop (mkF m 126 #[.val (.int p0), .val (.int p1), .val (.int p2), .val (.int p3), .val (.int p4), .val (.int (1 : Int32)), .val (.ref b65), .val (.int (0 : Int32)), .val (.int p1)] [(.int (0 : Int32)), (.int (1 : Int32))]))
          refine own_go (fun t k => XS.iconst X74.here hx rfl (hb hby at_126) k) ?_
          show own_Gl _ _ _ _ (T74.setTop (mkF m 127 #[.val (.int p0), .val (.int p1), .val (.int p2), .val (.int p3), .val (.int p4), .val (.int (1 : Int32)), .val (.ref b65), .val (.int (0 : Int32)), .val (.int p1)] [(.int (3 : Int32)), (.int (0 : Int32)), (.int (1 : Int32))]))
          refine own_go (fun t k => XS.iload X74.here hx rfl (hb hby at_127) rfl k) ?_
          show own_Gl _ _ _ _ (T74.setTop (mkF m 129 #[.val (.int p0), .val (.int p1), .val (.int p2), .val (.int p3), .val (.int p4), .val (.int (1 : Int32)), .val (.ref b65), .val (.int (0 : Int32)), .val (.int p1)] [(.int p4), (.int (3 : Int32)), (.int (0 : Int32)), (.int (1 : Int32))]))
          refine own_go (fun t k => XS.iload X74.here hx rfl (hb hby at_129) rfl k) ?_
          show own_Gl _ _ _ _ (T74.setTop (mkF m 131 #[.val (.int p0), .val (.int p1), .val (.int p2), .val (.int p3), .val (.int p4), .val (.int (1 : Int32)), .val (.ref b65), .val (.int (0 : Int32)), .val (.int p1)] [(.int p1), (.int p4), (.int (3 : Int32)), (.int (0 : Int32)), (.int (1 : Int32))]))
          obtain ⟨_, _, ⟨T76, L76, kk76, nn76⟩, -, X76, ⟨Lc76, hQ76, l76, y76, z76⟩, st76⟩ := Jvm.LawKit.callS X74 hx (y := (⟨"com/example/sixfold/sixfold/rows/RowsFewestPinLaw", "fits", "(IIIII)Z"⟩ : MethodName)) hown (mvT hZ (hw _ (List.mem_of_getElem? (i := 5) rfl))) (mvT hZ (hw _ (List.mem_of_getElem? (i := 6) rfl))) (mvT hZ (hw _ (List.mem_of_getElem? (i := 7) rfl))) (mvT hZ (hw _ (List.mem_of_getElem? (i := 8) rfl))) (by decide) (backOf (W := 0) (rm2 l Z a0 hw [] (1 : Int32) (0 : Int32) (3 : Int32) p4 p1 h66 n0 Z66 ) hZ (hw _ (List.mem_of_getElem? (i := 8) rfl)) (hw _ (List.mem_of_getElem? (i := 7) rfl)) (by decide) (by decide)) (g := (mkF m 131 #[.val (.int p0), .val (.int p1), .val (.int p2), .val (.int p3), .val (.int p4), .val (.int (1 : Int32)), .val (.ref b65), .val (.int (0 : Int32)), .val (.int p1)] [(.int p1), (.int p4), (.int (3 : Int32)), (.int (0 : Int32)), (.int (1 : Int32))])) rfl (by rw [hml]; rfl) (argsL := [(.int (1 : Int32)), (.int (0 : Int32)), (.int (3 : Int32)), (.int p4), (.int p1)]) (rest := []) (lenOf pd_1 rfl) rfl (by show 2 * 0 + _ ≤ _; exact Nat.le_of_eq rfl) (hb hby at_131) (fun _ _ => ⟨rfl, hq74, (by decide : 1 + 0 ≤ _), (by decide : 1 + 0 ≤ _)⟩)
          dsimp only [Pt.U, Pt.locs, Pt.cells, Pt.slots] at X76 l76 y76 z76 st76 hQ76
          subst l76 y76 z76
          obtain ⟨N76q, rfl, hq76⟩ := hQ76
          have N76 := Fr.app N74 N76q
          refine own_go (fun t k => st76 _ k) ?_
          show own_Gl _ _ _ _ (T76.setTop (mkF m 134 #[.val (.int p0), .val (.int p1), .val (.int p2), .val (.int p3), .val (.int p4), .val (.int (1 : Int32)), .val (.ref b65), .val (.int (0 : Int32)), .val (.int p1)] [(.int (f2 (1 : Int32) (0 : Int32) (3 : Int32) p4 p1))]))
          by_cases hc134_77 : (f2 (1 : Int32) (0 : Int32) (3 : Int32) p4 p1) = (0 : Int32)
          · refine own_go (fun t k => XS.ifYes X76.here hx rfl (pc0 := 134) (pc' := 141) rfl (hb hby at_134) rfl ((if0 _ _).trans (teq hc134_77).1) (by decide) (by decide) k) ?_
            show own_Gl _ _ _ _ (T76.setTop (mkF m 141 #[.val (.int p0), .val (.int p1), .val (.int p2), .val (.int p3), .val (.int p4), .val (.int (1 : Int32)), .val (.ref b65), .val (.int (0 : Int32)), .val (.int p1)] []))
            refine own_go (fun t k => XS.iconst X76.here hx rfl (hb hby at_141) k) ?_
            show own_Gl _ _ _ _ (T76.setTop (mkF m 142 #[.val (.int p0), .val (.int p1), .val (.int p2), .val (.int p3), .val (.int p4), .val (.int (1 : Int32)), .val (.ref b65), .val (.int (0 : Int32)), .val (.int p1)] [(.int (0 : Int32))]))
            obtain ⟨fs, hr, hrun, hended, hW, hsame⟩ := X76.leave (v := some (.int (0 : Int32))) (fun h => by rw [Bd.returns] at h; cases h)
            refine own_fin (retN X76 hx (t := .boolean) Bd.returns (by simp) (hb hby at_142) hr) hrun hended ⟨_, _, rfl, ?_, ⟨_, rfl⟩, hW, hsame.mono (by decide) (by decide)⟩
            show Q0 Z p0 p1 p2 p3 p4 h0 n0 _ T76.heap _
            rw [hq76]
            exact ⟨N76, by rw [f0, if_pos hc3_64, if_neg hc91_71, if_neg hc105_73, if_neg hc119_75, if_pos hc134_77]⟩
          · refine own_go (fun t k => XS.ifNo X76.here hx rfl (hb hby at_134) rfl ((if0 _ _).trans (feq hc134_77).1) k) ?_
            show own_Gl _ _ _ _ (T76.setTop (mkF m 137 #[.val (.int p0), .val (.int p1), .val (.int p2), .val (.int p3), .val (.int p4), .val (.int (1 : Int32)), .val (.ref b65), .val (.int (0 : Int32)), .val (.int p1)] []))
            refine own_go (fun t k => XS.iconst X76.here hx rfl (hb hby at_137) k) ?_
            show own_Gl _ _ _ _ (T76.setTop (mkF m 138 #[.val (.int p0), .val (.int p1), .val (.int p2), .val (.int p3), .val (.int p4), .val (.int (1 : Int32)), .val (.ref b65), .val (.int (0 : Int32)), .val (.int p1)] [(.int (1 : Int32))]))
            refine own_go (fun t k => XS.goto X76.here hx rfl (pc0 := 138) (pc' := 142) rfl (hb hby at_138) (by decide) (by decide) k) ?_
            show own_Gl _ _ _ _ (T76.setTop (mkF m 142 #[.val (.int p0), .val (.int p1), .val (.int p2), .val (.int p3), .val (.int p4), .val (.int (1 : Int32)), .val (.ref b65), .val (.int (0 : Int32)), .val (.int p1)] [(.int (1 : Int32))]))
            obtain ⟨fs, hr, hrun, hended, hW, hsame⟩ := X76.leave (v := some (.int (1 : Int32))) (fun h => by rw [Bd.returns] at h; cases h)
            refine own_fin (retN X76 hx (t := .boolean) Bd.returns (by simp) (hb hby at_142) hr) hrun hended ⟨_, _, rfl, ?_, ⟨_, rfl⟩, hW, hsame.mono (by decide) (by decide)⟩
            show Q0 Z p0 p1 p2 p3 p4 h0 n0 _ T76.heap _
            rw [hq76]
            exact ⟨N76, by rw [f0, if_pos hc3_64, if_neg hc91_71, if_neg hc105_73, if_neg hc119_75, if_neg hc134_77]⟩
  · by_cases hc3_78 : (p0 &&& (3 : Int32)) = (1 : Int32)
    · rw [hc3_78]
      show own_Gl _ _ _ _ (s₁.setTop (mkF m 3 #[.val (.int p0), .val (.int p1), .val (.int p2), .val (.int p3), .val (.int p4), .unset, .unset, .unset, .unset] [(.int (1 : Int32))]))
      refine own_go (fun t k => XS.iconst X0.here hx rfl (hb hby at_3) k) ?_
      show own_Gl _ _ _ _ (s₁.setTop (mkF m 4 #[.val (.int p0), .val (.int p1), .val (.int p2), .val (.int p3), .val (.int p4), .unset, .unset, .unset, .unset] [(.int (1 : Int32)), (.int (1 : Int32))]))
      refine own_go (fun t k => XS.iadd X0.here hx rfl (hb hby at_4) rfl k) ?_
      show own_Gl _ _ _ _ (s₁.setTop (mkF m 5 #[.val (.int p0), .val (.int p1), .val (.int p2), .val (.int p3), .val (.int p4), .unset, .unset, .unset, .unset] [(.int (2 : Int32))]))
      refine own_go (fun t k => XS.istore X0.here hx rfl (hb hby at_5) rfl (l' := #[.val (.int p0), .val (.int p1), .val (.int p2), .val (.int p3), .val (.int p4), .val (.int (2 : Int32)), .unset, .unset, .unset]) rfl k) ?_
      show own_Gl _ _ _ _ (s₁.setTop (mkF m 7 #[.val (.int p0), .val (.int p1), .val (.int p2), .val (.int p3), .val (.int p4), .val (.int (2 : Int32)), .unset, .unset, .unset] []))
      refine own_go (fun t k => XS.iload X0.here hx rfl (hb hby at_7) rfl k) ?_
      show own_Gl _ _ _ _ (s₁.setTop (mkF m 9 #[.val (.int p0), .val (.int p1), .val (.int p2), .val (.int p3), .val (.int p4), .val (.int (2 : Int32)), .unset, .unset, .unset] [(.int (2 : Int32))]))
      obtain ⟨T79, h79, k79, X79, e79, E79, A79, st79⟩ := newP X0 hx hZ (hw _ (List.mem_of_getElem? (i := 0) rfl)) e0 (g := (mkF m 9 #[.val (.int p0), .val (.int p1), .val (.int p2), .val (.int p3), .val (.int p4), .val (.int (2 : Int32)), .unset, .unset, .unset] [(.int (2 : Int32))])) rfl (hb hby at_9) rfl (by decide) (cap := 2) (by decide) (by decide) (by decide) (by decide)
      obtain ⟨b79, g79⟩ : ∃ z, z = h0.size := ⟨_, rfl⟩
      rw [← g79] at A79 st79
      have ge_b79 : n0 ≤ b79 := Nat.le_trans Z0 (Nat.le_of_eq g79.symm)
      have sz_b79 : h0.size ≤ b79 := Nat.le_trans (Keep.refl h0 []).1 (Nat.le_of_eq g79.symm)
      refine own_go (fun t k => st79 _ k) ?_
      have K79 : Keep h0 h79 [] := (Keep.refl h0 []).ext E79
      have Z79 : n0 ≤ h79.size := Nat.le_trans Z0 E79.1
      have V79 : Arv Z h79 b79 k79 .int (2 : Int32) [(.int (0 : Int32)), (.int (0 : Int32))] (.int (0 : Int32)) := (Arv.new A79 (by decide)).pad (pad_rep [] (.int (0 : Int32)) 2)
      show own_Gl _ _ _ _ (T79.setTop (mkF m 11 #[.val (.int p0), .val (.int p1), .val (.int p2), .val (.int p3), .val (.int p4), .val (.int (2 : Int32)), .unset, .unset, .unset] [(.ref b79)]))
      refine own_go (fun t k => XS.astore X79.here hx rfl (hb hby at_11) rfl rfl (l' := #[.val (.int p0), .val (.int p1), .val (.int p2), .val (.int p3), .val (.int p4), .val (.int (2 : Int32)), .val (.ref b79), .unset, .unset]) rfl k) ?_
      show own_Gl _ _ _ _ (T79.setTop (mkF m 13 #[.val (.int p0), .val (.int p1), .val (.int p2), .val (.int p3), .val (.int p4), .val (.int (2 : Int32)), .val (.ref b79), .unset, .unset] []))
      refine own_go (fun t k => XS.aload X79.here hx rfl (hb hby at_13) rfl rfl k) ?_
      show own_Gl _ _ _ _ (T79.setTop (mkF m 15 #[.val (.int p0), .val (.int p1), .val (.int p2), .val (.int p3), .val (.int p4), .val (.int (2 : Int32)), .val (.ref b79), .unset, .unset] [(.ref b79)]))
      refine own_go (fun t k => XS.iconst X79.here hx rfl (hb hby at_15) k) ?_
      show own_Gl _ _ _ _ (T79.setTop (mkF m 16 #[.val (.int p0), .val (.int p1), .val (.int p2), .val (.int p3), .val (.int p4), .val (.int (2 : Int32)), .val (.ref b79), .unset, .unset] [(.int (0 : Int32)), (.ref b79)]))
      refine own_go (fun t k => XS.iloadN X79.here hx rfl (hb hby at_16) rfl k) ?_
      show own_Gl _ _ _ _ (T79.setTop (mkF m 17 #[.val (.int p0), .val (.int p1), .val (.int p2), .val (.int p3), .val (.int p4), .val (.int (2 : Int32)), .val (.ref b79), .unset, .unset] [(.int p1), (.int (0 : Int32)), (.ref b79)]))
      obtain ⟨cl80, Ar80, qk80, S80, M80, H80, G80⟩ := id V79
      have hin80 : ¬ ((0 : Int32) < 0 ∨ cl80.slots.size ≤ ((0 : Int32)).toNatClampNeg) := inb_of S80 ⟨by decide, by decide⟩
      obtain ⟨T80, h80, X80, e80, W80, st80⟩ := stI X79 hx hZ e79 Ar80 (j := (0 : Int32)) hin80 (g := (mkF m 17 #[.val (.int p0), .val (.int p1), .val (.int p2), .val (.int p3), .val (.int p4), .val (.int (2 : Int32)), .val (.ref b79), .unset, .unset] [(.int p1), (.int (0 : Int32)), (.ref b79)])) rfl rfl (hb hby at_17)
      refine own_go (fun t k => st80 _ k) ?_
      have V80 : Arv Z h80 b79 k79 .int (2 : Int32) [(.int p1), (.int (0 : Int32))] (.int (0 : Int32)) := Arv.set Ar80 qk80 S80 M80 H80 G80 rfl W80 0 rfl (Nat.le_of_ble_eq_true rfl)
      have K80 : Keep h0 h80 [] := K79.wr W80 (Or.inr sz_b79)
      have N80 := Fr.snoc X80 N0 ge_b79
      have Z80 : n0 ≤ h80.size := Nat.le_trans Z79 (Keep.of_wr W80).1
      show own_Gl _ _ _ _ (T80.setTop (mkF m 18 #[.val (.int p0), .val (.int p1), .val (.int p2), .val (.int p3), .val (.int p4), .val (.int (2 : Int32)), .val (.ref b79), .unset, .unset] []))
      refine own_go (fun t k => XS.iload X80.here hx rfl (hb hby at_18) rfl k) ?_
      show own_Gl _ _ _ _ (T80.setTop (mkF m 20 #[.val (.int p0), .val (.int p1), .val (.int p2), .val (.int p3), .val (.int p4), .val (.int (2 : Int32)), .val (.ref b79), .unset, .unset] [(.int (2 : Int32))]))
      refine own_go (fun t k => XS.iconst X80.here hx rfl (hb hby at_20) k) ?_
      show own_Gl _ _ _ _ (T80.setTop (mkF m 21 #[.val (.int p0), .val (.int p1), .val (.int p2), .val (.int p3), .val (.int p4), .val (.int (2 : Int32)), .val (.ref b79), .unset, .unset] [(.int (1 : Int32)), (.int (2 : Int32))]))
      refine own_go (fun t k => XS.icmpNo X80.here hx rfl (hb hby at_21) rfl (tlt (by decide : (1 : Int32) < (2 : Int32))).2.2.2 k) ?_
      show own_Gl _ _ _ _ (T80.setTop (mkF m 24 #[.val (.int p0), .val (.int p1), .val (.int p2), .val (.int p3), .val (.int p4), .val (.int (2 : Int32)), .val (.ref b79), .unset, .unset] []))
      refine own_go (fun t k => XS.aload X80.here hx rfl (hb hby at_24) rfl rfl k) ?_
      show own_Gl _ _ _ _ (T80.setTop (mkF m 26 #[.val (.int p0), .val (.int p1), .val (.int p2), .val (.int p3), .val (.int p4), .val (.int (2 : Int32)), .val (.ref b79), .unset, .unset] [(.ref b79)]))
      refine own_go (fun t k => XS.iconst X80.here hx rfl (hb hby at_26) k) ?_
      show own_Gl _ _ _ _ (T80.setTop (mkF m 27 #[.val (.int p0), .val (.int p1), .val (.int p2), .val (.int p3), .val (.int p4), .val (.int (2 : Int32)), .val (.ref b79), .unset, .unset] [(.int (1 : Int32)), (.ref b79)]))
      refine own_go (fun t k => XS.iloadN X80.here hx rfl (hb hby at_27) rfl k) ?_
      show own_Gl _ _ _ _ (T80.setTop (mkF m 28 #[.val (.int p0), .val (.int p1), .val (.int p2), .val (.int p3), .val (.int p4), .val (.int (2 : Int32)), .val (.ref b79), .unset, .unset] [(.int p2), (.int (1 : Int32)), (.ref b79)]))
      obtain ⟨cl81, Ar81, qk81, S81, M81, H81, G81⟩ := id V80
      have hin81 : ¬ ((1 : Int32) < 0 ∨ cl81.slots.size ≤ ((1 : Int32)).toNatClampNeg) := inb_of S81 ⟨by decide, by decide⟩
      obtain ⟨T81, h81, X81, e81, W81, st81⟩ := stI X80 hx hZ e80 Ar81 (j := (1 : Int32)) hin81 (g := (mkF m 28 #[.val (.int p0), .val (.int p1), .val (.int p2), .val (.int p3), .val (.int p4), .val (.int (2 : Int32)), .val (.ref b79), .unset, .unset] [(.int p2), (.int (1 : Int32)), (.ref b79)])) rfl rfl (hb hby at_28)
      refine own_go (fun t k => st81 _ k) ?_
      have V81 : Arv Z h81 b79 k79 .int (2 : Int32) [(.int p1), (.int p2)] (.int (0 : Int32)) := Arv.set Ar81 qk81 S81 M81 H81 G81 rfl W81 1 rfl (Nat.le_of_ble_eq_true rfl)
      have K81 : Keep h0 h81 [] := K80.wr W81 (Or.inr sz_b79)
      have N81 := Fr.snoc X81 N80 ge_b79
      have Z81 : n0 ≤ h81.size := Nat.le_trans Z80 (Keep.of_wr W81).1
      show own_Gl _ _ _ _ (T81.setTop (mkF m 29 #[.val (.int p0), .val (.int p1), .val (.int p2), .val (.int p3), .val (.int p4), .val (.int (2 : Int32)), .val (.ref b79), .unset, .unset] []))
      refine own_go (fun t k => XS.iload X81.here hx rfl (hb hby at_29) rfl k) ?_
      show own_Gl _ _ _ _ (T81.setTop (mkF m 31 #[.val (.int p0), .val (.int p1), .val (.int p2), .val (.int p3), .val (.int p4), .val (.int (2 : Int32)), .val (.ref b79), .unset, .unset] [(.int (2 : Int32))]))
      refine own_go (fun t k => XS.iconst X81.here hx rfl (hb hby at_31) k) ?_
      show own_Gl _ _ _ _ (T81.setTop (mkF m 32 #[.val (.int p0), .val (.int p1), .val (.int p2), .val (.int p3), .val (.int p4), .val (.int (2 : Int32)), .val (.ref b79), .unset, .unset] [(.int (2 : Int32)), (.int (2 : Int32))]))
      refine own_go (fun t k => XS.icmpYes X81.here hx rfl (pc0 := 32) (pc' := 40) rfl (hb hby at_32) rfl (flt (by decide : ¬ ((2 : Int32) < (2 : Int32)))).2.2.2 (by decide) (by decide) k) ?_
      show own_Gl _ _ _ _ (T81.setTop (mkF m 40 #[.val (.int p0), .val (.int p1), .val (.int p2), .val (.int p3), .val (.int p4), .val (.int (2 : Int32)), .val (.ref b79), .unset, .unset] []))
      refine own_go (fun t k => XS.iload X81.here hx rfl (hb hby at_40) rfl k) ?_
      show own_Gl _ _ _ _ (T81.setTop (mkF m 42 #[.val (.int p0), .val (.int p1), .val (.int p2), .val (.int p3), .val (.int p4), .val (.int (2 : Int32)), .val (.ref b79), .unset, .unset] [(.int (2 : Int32))]))
      refine own_go (fun t k => XS.iconst X81.here hx rfl (hb hby at_42) k) ?_
      show own_Gl _ _ _ _ (T81.setTop (mkF m 43 #[.val (.int p0), .val (.int p1), .val (.int p2), .val (.int p3), .val (.int p4), .val (.int (2 : Int32)), .val (.ref b79), .unset, .unset] [(.int (3 : Int32)), (.int (2 : Int32))]))
      refine own_go (fun t k => XS.icmpYes X81.here hx rfl (pc0 := 43) (pc' := 52) rfl (hb hby at_43) rfl (flt (by decide : ¬ ((3 : Int32) < (2 : Int32)))).2.2.2 (by decide) (by decide) k) ?_
      show own_Gl _ _ _ _ (T81.setTop (mkF m 52 #[.val (.int p0), .val (.int p1), .val (.int p2), .val (.int p3), .val (.int p4), .val (.int (2 : Int32)), .val (.ref b79), .unset, .unset] []))
      refine own_go (fun t k => XS.aload X81.here hx rfl (hb hby at_52) rfl rfl k) ?_
      show own_Gl _ _ _ _ (T81.setTop (mkF m 54 #[.val (.int p0), .val (.int p1), .val (.int p2), .val (.int p3), .val (.int p4), .val (.int (2 : Int32)), .val (.ref b79), .unset, .unset] [(.ref b79)]))
      obtain ⟨_, _, ⟨T82, L82, kk82, nn82⟩, -, X82, ⟨Lc82, hQ82, l82, y82, z82⟩, st82⟩ := Jvm.LawKit.callS X81 hx (y := (⟨"com/example/sixfold/sixfold/rows/Rows", "fewest", "([I)I"⟩ : MethodName)) hown (mvT hZ (hw _ (List.mem_of_getElem? (i := 1) rfl))) (mvT hZ (hw _ (List.mem_of_getElem? (i := 2) rfl))) (mvT hZ (hw _ (List.mem_of_getElem? (i := 3) rfl))) (mvT hZ (hw _ (List.mem_of_getElem? (i := 4) rfl))) (by decide) (backOf (W := 0) (rm1_2 l Z a0 hw [] b79 k79 p1 p2 h81 n0 Z81 V81) hZ (hw _ (List.mem_of_getElem? (i := 4) rfl)) (hw _ (List.mem_of_getElem? (i := 3) rfl)) (by decide) (by decide)) (g := (mkF m 54 #[.val (.int p0), .val (.int p1), .val (.int p2), .val (.int p3), .val (.int p4), .val (.int (2 : Int32)), .val (.ref b79), .unset, .unset] [(.ref b79)])) rfl (by rw [hml]; rfl) (argsL := [(.ref b79)]) (rest := []) (lenOf pd_0 rfl) rfl (by show 2 * 0 + _ ≤ _; exact Nat.le_of_eq rfl) (hb hby at_54) (fun _ _ => ⟨rfl, e81, (by decide : 1 + 0 ≤ _), (by decide : 2 + 0 ≤ _)⟩)
      dsimp only [Pt.U, Pt.locs, Pt.cells, Pt.slots] at X82 l82 y82 z82 st82 hQ82
      subst l82 y82 z82
      obtain ⟨N82q, rfl, hq82⟩ := hQ82
      have N82 := Fr.app N81 N82q
      refine own_go (fun t k => st82 _ k) ?_
      show own_Gl _ _ _ _ (T82.setTop (mkF m 57 #[.val (.int p0), .val (.int p1), .val (.int p2), .val (.int p3), .val (.int p4), .val (.int (2 : Int32)), .val (.ref b79), .unset, .unset] [(.int (f1_2 p1 p2))]))
      by_cases hc57_83 : (f1_2 p1 p2) = (0 : Int32)
      · rw [hc57_83]
        show own_Gl _ _ _ _ (T82.setTop (mkF m 57 #[.val (.int p0), .val (.int p1), .val (.int p2), .val (.int p3), .val (.int p4), .val (.int (2 : Int32)), .val (.ref b79), .unset, .unset] [(.int (0 : Int32))]))
        refine own_go (fun t k => XS.istore X82.here hx rfl (hb hby at_57) rfl (l' := #[.val (.int p0), .val (.int p1), .val (.int p2), .val (.int p3), .val (.int p4), .val (.int (2 : Int32)), .val (.ref b79), .val (.int (0 : Int32)), .unset]) rfl k) ?_
        show own_Gl _ _ _ _ (T82.setTop (mkF m 59 #[.val (.int p0), .val (.int p1), .val (.int p2), .val (.int p3), .val (.int p4), .val (.int (2 : Int32)), .val (.ref b79), .val (.int (0 : Int32)), .unset] []))
        refine own_go (fun t k => XS.iload X82.here hx rfl (hb hby at_59) rfl k) ?_
        show own_Gl _ _ _ _ (T82.setTop (mkF m 61 #[.val (.int p0), .val (.int p1), .val (.int p2), .val (.int p3), .val (.int p4), .val (.int (2 : Int32)), .val (.ref b79), .val (.int (0 : Int32)), .unset] [(.int (0 : Int32))]))
        refine own_go (fun t k => XS.ifNo X82.here hx rfl (hb hby at_61) rfl ((if0 _ _).trans (flt (by decide : ¬ ((0 : Int32) < (0 : Int32)))).1) k) ?_
        show own_Gl _ _ _ _ (T82.setTop (mkF m 64 #[.val (.int p0), .val (.int p1), .val (.int p2), .val (.int p3), .val (.int p4), .val (.int (2 : Int32)), .val (.ref b79), .val (.int (0 : Int32)), .unset] []))
        refine own_go (fun t k => XS.iload X82.here hx rfl (hb hby at_64) rfl k) ?_
        show own_Gl _ _ _ _ (T82.setTop (mkF m 66 #[.val (.int p0), .val (.int p1), .val (.int p2), .val (.int p3), .val (.int p4), .val (.int (2 : Int32)), .val (.ref b79), .val (.int (0 : Int32)), .unset] [(.int (0 : Int32))]))
        refine own_go (fun t k => XS.iload X82.here hx rfl (hb hby at_66) rfl k) ?_
        show own_Gl _ _ _ _ (T82.setTop (mkF m 68 #[.val (.int p0), .val (.int p1), .val (.int p2), .val (.int p3), .val (.int p4), .val (.int (2 : Int32)), .val (.ref b79), .val (.int (0 : Int32)), .unset] [(.int (2 : Int32)), (.int (0 : Int32))]))
        refine own_go (fun t k => XS.icmpYes X82.here hx rfl (pc0 := 68) (pc' := 73) rfl (hb hby at_68) rfl (tlt (by decide : (0 : Int32) < (2 : Int32))).1 (by decide) (by decide) k) ?_
        show own_Gl _ _ _ _ (T82.setTop (mkF m 73 #[.val (.int p0), .val (.int p1), .val (.int p2), .val (.int p3), .val (.int p4), .val (.int (2 : Int32)), .val (.ref b79), .val (.int (0 : Int32)), .unset] []))
        refine own_go (fun t k => XS.aload X82.here hx rfl (hb hby at_73) rfl rfl k) ?_
        show own_Gl _ _ _ _ (T82.setTop (mkF m 75 #[.val (.int p0), .val (.int p1), .val (.int p2), .val (.int p3), .val (.int p4), .val (.int (2 : Int32)), .val (.ref b79), .val (.int (0 : Int32)), .unset] [(.ref b79)]))
        refine own_go (fun t k => XS.iload X82.here hx rfl (hb hby at_75) rfl k) ?_
        show own_Gl _ _ _ _ (T82.setTop (mkF m 77 #[.val (.int p0), .val (.int p1), .val (.int p2), .val (.int p3), .val (.int p4), .val (.int (2 : Int32)), .val (.ref b79), .val (.int (0 : Int32)), .unset] [(.int (0 : Int32)), (.ref b79)]))
        obtain ⟨cl84, Ar84, qk84, S84, M84, H84, G84⟩ := id V81
        have hin84 : ¬ ((0 : Int32) < 0 ∨ cl84.slots.size ≤ ((0 : Int32)).toNatClampNeg) := inb_of S84 ⟨by decide, by decide⟩
        have hat84 : cl84.slots[((0 : Int32)).toNatClampNeg]? = some (.int p1) := H84.at hin84 rfl
        refine own_go (fun t k => X82.iaload hx (j := (0 : Int32)) (v := (.int p1)) (by rw [hq82]; exact Ar84.1) (State.isArrayOf_alike hZ.alike Ar84.2.1) Ar84.2.2 hin84 hat84 (g := (mkF m 77 #[.val (.int p0), .val (.int p1), .val (.int p2), .val (.int p3), .val (.int p4), .val (.int (2 : Int32)), .val (.ref b79), .val (.int (0 : Int32)), .unset] [(.int (0 : Int32)), (.ref b79)])) rfl rfl (hb hby at_77) _ k) ?_
        show own_Gl _ _ _ _ (T82.setTop (mkF m 78 #[.val (.int p0), .val (.int p1), .val (.int p2), .val (.int p3), .val (.int p4), .val (.int (2 : Int32)), .val (.ref b79), .val (.int (0 : Int32)), .unset] [(.int p1)]))
        refine own_go (fun t k => XS.istore X82.here hx rfl (hb hby at_78) rfl (l' := #[.val (.int p0), .val (.int p1), .val (.int p2), .val (.int p3), .val (.int p4), .val (.int (2 : Int32)), .val (.ref b79), .val (.int (0 : Int32)), .val (.int p1)]) rfl k) ?_
        show own_Gl _ _ _ _ (T82.setTop (mkF m 80 #[.val (.int p0), .val (.int p1), .val (.int p2), .val (.int p3), .val (.int p4), .val (.int (2 : Int32)), .val (.ref b79), .val (.int (0 : Int32)), .val (.int p1)] []))
        refine own_go (fun t k => XS.iload X82.here hx rfl (hb hby at_80) rfl k) ?_
        show own_Gl _ _ _ _ (T82.setTop (mkF m 82 #[.val (.int p0), .val (.int p1), .val (.int p2), .val (.int p3), .val (.int p4), .val (.int (2 : Int32)), .val (.ref b79), .val (.int (0 : Int32)), .val (.int p1)] [(.int (2 : Int32))]))
        refine own_go (fun t k => XS.iload X82.here hx rfl (hb hby at_82) rfl k) ?_
        show own_Gl _ _ _ _ (T82.setTop (mkF m 84 #[.val (.int p0), .val (.int p1), .val (.int p2), .val (.int p3), .val (.int p4), .val (.int (2 : Int32)), .val (.ref b79), .val (.int (0 : Int32)), .val (.int p1)] [(.int (0 : Int32)), (.int (2 : Int32))]))
        refine own_go (fun t k => XS.iconst X82.here hx rfl (hb hby at_84) k) ?_
        show own_Gl _ _ _ _ (T82.setTop (mkF m 85 #[.val (.int p0), .val (.int p1), .val (.int p2), .val (.int p3), .val (.int p4), .val (.int (2 : Int32)), .val (.ref b79), .val (.int (0 : Int32)), .val (.int p1)] [(.int (0 : Int32)), (.int (0 : Int32)), (.int (2 : Int32))]))
        refine own_go (fun t k => XS.iloadN X82.here hx rfl (hb hby at_85) rfl k) ?_
        show own_Gl _ _ _ _ (T82.setTop (mkF m 86 #[.val (.int p0), .val (.int p1), .val (.int p2), .val (.int p3), .val (.int p4), .val (.int (2 : Int32)), .val (.ref b79), .val (.int (0 : Int32)), .val (.int p1)] [(.int p1), (.int (0 : Int32)), (.int (0 : Int32)), (.int (2 : Int32))]))
        refine own_go (fun t k => XS.iload X82.here hx rfl (hb hby at_86) rfl k) ?_
        show own_Gl _ _ _ _ (T82.setTop (mkF m 88 #[.val (.int p0), .val (.int p1), .val (.int p2), .val (.int p3), .val (.int p4), .val (.int (2 : Int32)), .val (.ref b79), .val (.int (0 : Int32)), .val (.int p1)] [(.int p1), (.int p1), (.int (0 : Int32)), (.int (0 : Int32)), (.int (2 : Int32))]))
        obtain ⟨_, _, ⟨T85, L85, kk85, nn85⟩, -, X85, ⟨Lc85, hQ85, l85, y85, z85⟩, st85⟩ := Jvm.LawKit.callS X82 hx (y := (⟨"com/example/sixfold/sixfold/rows/RowsFewestPinLaw", "fits", "(IIIII)Z"⟩ : MethodName)) hown (mvT hZ (hw _ (List.mem_of_getElem? (i := 5) rfl))) (mvT hZ (hw _ (List.mem_of_getElem? (i := 6) rfl))) (mvT hZ (hw _ (List.mem_of_getElem? (i := 7) rfl))) (mvT hZ (hw _ (List.mem_of_getElem? (i := 8) rfl))) (by decide) (backOf (W := 0) (rm2 l Z a0 hw [] (2 : Int32) (0 : Int32) (0 : Int32) p1 p1 h81 n0 Z81 ) hZ (hw _ (List.mem_of_getElem? (i := 8) rfl)) (hw _ (List.mem_of_getElem? (i := 7) rfl)) (by decide) (by decide)) (g := (mkF m 88 #[.val (.int p0), .val (.int p1), .val (.int p2), .val (.int p3), .val (.int p4), .val (.int (2 : Int32)), .val (.ref b79), .val (.int (0 : Int32)), .val (.int p1)] [(.int p1), (.int p1), (.int (0 : Int32)), (.int (0 : Int32)), (.int (2 : Int32))])) rfl (by rw [hml]; rfl) (argsL := [(.int (2 : Int32)), (.int (0 : Int32)), (.int (0 : Int32)), (.int p1), (.int p1)]) (rest := []) (lenOf pd_1 rfl) rfl (by show 2 * 0 + _ ≤ _; exact Nat.le_of_eq rfl) (hb hby at_88) (fun _ _ => ⟨rfl, hq82, (by decide : 1 + 0 ≤ _), (by decide : 2 + 0 ≤ _)⟩)
        dsimp only [Pt.U, Pt.locs, Pt.cells, Pt.slots] at X85 l85 y85 z85 st85 hQ85
        subst l85 y85 z85
        obtain ⟨N85q, rfl, hq85⟩ := hQ85
        have N85 := Fr.app N82 N85q
        refine own_go (fun t k => st85 _ k) ?_
        show own_Gl _ _ _ _ (T85.setTop (mkF m 91 #[.val (.int p0), .val (.int p1), .val (.int p2), .val (.int p3), .val (.int p4), .val (.int (2 : Int32)), .val (.ref b79), .val (.int (0 : Int32)), .val (.int p1)] [(.int (f2 (2 : Int32) (0 : Int32) (0 : Int32) p1 p1))]))
        by_cases hc91_86 : (f2 (2 : Int32) (0 : Int32) (0 : Int32) p1 p1) = (0 : Int32)
        · refine own_go (fun t k => XS.ifYes X85.here hx rfl (pc0 := 91) (pc' := 141) rfl (hb hby at_91) rfl ((if0 _ _).trans (teq hc91_86).1) (by decide) (by decide) k) ?_
          show own_Gl _ _ _ _ (T85.setTop (mkF m 141 #[.val (.int p0), .val (.int p1), .val (.int p2), .val (.int p3), .val (.int p4), .val (.int (2 : Int32)), .val (.ref b79), .val (.int (0 : Int32)), .val (.int p1)] []))
          refine own_go (fun t k => XS.iconst X85.here hx rfl (hb hby at_141) k) ?_
          show own_Gl _ _ _ _ (T85.setTop (mkF m 142 #[.val (.int p0), .val (.int p1), .val (.int p2), .val (.int p3), .val (.int p4), .val (.int (2 : Int32)), .val (.ref b79), .val (.int (0 : Int32)), .val (.int p1)] [(.int (0 : Int32))]))
          obtain ⟨fs, hr, hrun, hended, hW, hsame⟩ := X85.leave (v := some (.int (0 : Int32))) (fun h => by rw [Bd.returns] at h; cases h)
          refine own_fin (retN X85 hx (t := .boolean) Bd.returns (by simp) (hb hby at_142) hr) hrun hended ⟨_, _, rfl, ?_, ⟨_, rfl⟩, hW, hsame.mono (by decide) (by decide)⟩
          show Q0 Z p0 p1 p2 p3 p4 h0 n0 _ T85.heap _
          rw [hq85]
          exact ⟨N85, by rw [f0, if_neg hc3_64, if_pos hc3_78, if_pos hc57_83, if_pos hc91_86]⟩
        · refine own_go (fun t k => XS.ifNo X85.here hx rfl (hb hby at_91) rfl ((if0 _ _).trans (feq hc91_86).1) k) ?_
          show own_Gl _ _ _ _ (T85.setTop (mkF m 94 #[.val (.int p0), .val (.int p1), .val (.int p2), .val (.int p3), .val (.int p4), .val (.int (2 : Int32)), .val (.ref b79), .val (.int (0 : Int32)), .val (.int p1)] []))
          refine own_go (fun t k => XS.iload X85.here hx rfl (hb hby at_94) rfl k) ?_
          show own_Gl _ _ _ _ (T85.setTop (mkF m 96 #[.val (.int p0), .val (.int p1), .val (.int p2), .val (.int p3), .val (.int p4), .val (.int (2 : Int32)), .val (.ref b79), .val (.int (0 : Int32)), .val (.int p1)] [(.int (2 : Int32))]))
          refine own_go (fun t k => XS.iload X85.here hx rfl (hb hby at_96) rfl k) ?_
          show own_Gl _ _ _ _ (T85.setTop (mkF m 98 #[.val (.int p0), .val (.int p1), .val (.int p2), .val (.int p3), .val (.int p4), .val (.int (2 : Int32)), .val (.ref b79), .val (.int (0 : Int32)), .val (.int p1)] [(.int (0 : Int32)), (.int (2 : Int32))]))
          refine own_go (fun t k => XS.iconst X85.here hx rfl (hb hby at_98) k) ?_
          show own_Gl _ _ _ _ (T85.setTop (mkF m 99 #[.val (.int p0), .val (.int p1), .val (.int p2), .val (.int p3), .val (.int p4), .val (.int (2 : Int32)), .val (.ref b79), .val (.int (0 : Int32)), .val (.int p1)] [(.int (1 : Int32)), (.int (0 : Int32)), (.int (2 : Int32))]))
          refine own_go (fun t k => XS.iloadN X85.here hx rfl (hb hby at_99) rfl k) ?_
          show own_Gl _ _ _ _ (T85.setTop (mkF m 100 #[.val (.int p0), .val (.int p1), .val (.int p2), .val (.int p3), .val (.int p4), .val (.int (2 : Int32)), .val (.ref b79), .val (.int (0 : Int32)), .val (.int p1)] [(.int p2), (.int (1 : Int32)), (.int (0 : Int32)), (.int (2 : Int32))]))
          refine own_go (fun t k => XS.iload X85.here hx rfl (hb hby at_100) rfl k) ?_
          show own_Gl _ _ _ _ (T85.setTop (mkF m 102 #[.val (.int p0), .val (.int p1), .val (.int p2), .val (.int p3), .val (.int p4), .val (.int (2 : Int32)), .val (.ref b79), .val (.int (0 : Int32)), .val (.int p1)] [(.int p1), (.int p2), (.int (1 : Int32)), (.int (0 : Int32)), (.int (2 : Int32))]))
          obtain ⟨_, _, ⟨T87, L87, kk87, nn87⟩, -, X87, ⟨Lc87, hQ87, l87, y87, z87⟩, st87⟩ := Jvm.LawKit.callS X85 hx (y := (⟨"com/example/sixfold/sixfold/rows/RowsFewestPinLaw", "fits", "(IIIII)Z"⟩ : MethodName)) hown (mvT hZ (hw _ (List.mem_of_getElem? (i := 5) rfl))) (mvT hZ (hw _ (List.mem_of_getElem? (i := 6) rfl))) (mvT hZ (hw _ (List.mem_of_getElem? (i := 7) rfl))) (mvT hZ (hw _ (List.mem_of_getElem? (i := 8) rfl))) (by decide) (backOf (W := 0) (rm2 l Z a0 hw [] (2 : Int32) (0 : Int32) (1 : Int32) p2 p1 h81 n0 Z81 ) hZ (hw _ (List.mem_of_getElem? (i := 8) rfl)) (hw _ (List.mem_of_getElem? (i := 7) rfl)) (by decide) (by decide)) (g := (mkF m 102 #[.val (.int p0), .val (.int p1), .val (.int p2), .val (.int p3), .val (.int p4), .val (.int (2 : Int32)), .val (.ref b79), .val (.int (0 : Int32)), .val (.int p1)] [(.int p1), (.int p2), (.int (1 : Int32)), (.int (0 : Int32)), (.int (2 : Int32))])) rfl (by rw [hml]; rfl) (argsL := [(.int (2 : Int32)), (.int (0 : Int32)), (.int (1 : Int32)), (.int p2), (.int p1)]) (rest := []) (lenOf pd_1 rfl) rfl (by show 2 * 0 + _ ≤ _; exact Nat.le_of_eq rfl) (hb hby at_102) (fun _ _ => ⟨rfl, hq85, (by decide : 1 + 0 ≤ _), (by decide : 2 + 0 ≤ _)⟩)
          dsimp only [Pt.U, Pt.locs, Pt.cells, Pt.slots] at X87 l87 y87 z87 st87 hQ87
          subst l87 y87 z87
          obtain ⟨N87q, rfl, hq87⟩ := hQ87
          have N87 := Fr.app N85 N87q
          refine own_go (fun t k => st87 _ k) ?_
          show own_Gl _ _ _ _ (T87.setTop (mkF m 105 #[.val (.int p0), .val (.int p1), .val (.int p2), .val (.int p3), .val (.int p4), .val (.int (2 : Int32)), .val (.ref b79), .val (.int (0 : Int32)), .val (.int p1)] [(.int (f2 (2 : Int32) (0 : Int32) (1 : Int32) p2 p1))]))
          by_cases hc105_88 : (f2 (2 : Int32) (0 : Int32) (1 : Int32) p2 p1) = (0 : Int32)
          · refine own_go (fun t k => XS.ifYes X87.here hx rfl (pc0 := 105) (pc' := 141) rfl (hb hby at_105) rfl ((if0 _ _).trans (teq hc105_88).1) (by decide) (by decide) k) ?_
            show own_Gl _ _ _ _ (T87.setTop (mkF m 141 #[.val (.int p0), .val (.int p1), .val (.int p2), .val (.int p3), .val (.int p4), .val (.int (2 : Int32)), .val (.ref b79), .val (.int (0 : Int32)), .val (.int p1)] []))
            refine own_go (fun t k => XS.iconst X87.here hx rfl (hb hby at_141) k) ?_
            show own_Gl _ _ _ _ (T87.setTop (mkF m 142 #[.val (.int p0), .val (.int p1), .val (.int p2), .val (.int p3), .val (.int p4), .val (.int (2 : Int32)), .val (.ref b79), .val (.int (0 : Int32)), .val (.int p1)] [(.int (0 : Int32))]))
            obtain ⟨fs, hr, hrun, hended, hW, hsame⟩ := X87.leave (v := some (.int (0 : Int32))) (fun h => by rw [Bd.returns] at h; cases h)
            refine own_fin (retN X87 hx (t := .boolean) Bd.returns (by simp) (hb hby at_142) hr) hrun hended ⟨_, _, rfl, ?_, ⟨_, rfl⟩, hW, hsame.mono (by decide) (by decide)⟩
            show Q0 Z p0 p1 p2 p3 p4 h0 n0 _ T87.heap _
            rw [hq87]
            exact ⟨N87, by rw [f0, if_neg hc3_64, if_pos hc3_78, if_pos hc57_83, if_neg hc91_86, if_pos hc105_88]⟩
          · refine own_go (fun t k => XS.ifNo X87.here hx rfl (hb hby at_105) rfl ((if0 _ _).trans (feq hc105_88).1) k) ?_
            show own_Gl _ _ _ _ (T87.setTop (mkF m 108 #[.val (.int p0), .val (.int p1), .val (.int p2), .val (.int p3), .val (.int p4), .val (.int (2 : Int32)), .val (.ref b79), .val (.int (0 : Int32)), .val (.int p1)] []))
            refine own_go (fun t k => XS.iload X87.here hx rfl (hb hby at_108) rfl k) ?_
            show own_Gl _ _ _ _ (T87.setTop (mkF m 110 #[.val (.int p0), .val (.int p1), .val (.int p2), .val (.int p3), .val (.int p4), .val (.int (2 : Int32)), .val (.ref b79), .val (.int (0 : Int32)), .val (.int p1)] [(.int (2 : Int32))]))
            refine own_go (fun t k => XS.iload X87.here hx rfl (hb hby at_110) rfl k) ?_
            show own_Gl _ _ _ _ (T87.setTop (mkF m 112 #[.val (.int p0), .val (.int p1), .val (.int p2), .val (.int p3), .val (.int p4), .val (.int (2 : Int32)), .val (.ref b79), .val (.int (0 : Int32)), .val (.int p1)] [(.int (0 : Int32)), (.int (2 : Int32))]))
            refine own_go (fun t k => XS.iconst X87.here hx rfl (hb hby at_112) k) ?_
            show own_Gl _ _ _ _ (T87.setTop (mkF m 113 #[.val (.int p0), .val (.int p1), .val (.int p2), .val (.int p3), .val (.int p4), .val (.int (2 : Int32)), .val (.ref b79), .val (.int (0 : Int32)), .val (.int p1)] [(.int (2 : Int32)), (.int (0 : Int32)), (.int (2 : Int32))]))
            refine own_go (fun t k => XS.iloadN X87.here hx rfl (hb hby at_113) rfl k) ?_
            show own_Gl _ _ _ _ (T87.setTop (mkF m 114 #[.val (.int p0), .val (.int p1), .val (.int p2), .val (.int p3), .val (.int p4), .val (.int (2 : Int32)), .val (.ref b79), .val (.int (0 : Int32)), .val (.int p1)] [(.int p3), (.int (2 : Int32)), (.int (0 : Int32)), (.int (2 : Int32))]))
            refine own_go (fun t k => XS.iload X87.here hx rfl (hb hby at_114) rfl k) ?_
            show own_Gl _ _ _ _ (T87.setTop (mkF m 116 #[.val (.int p0), .val (.int p1), .val (.int p2), .val (.int p3), .val (.int p4), .val (.int (2 : Int32)), .val (.ref b79), .val (.int (0 : Int32)), .val (.int p1)] [(.int p1), (.int p3), (.int (2 : Int32)), (.int (0 : Int32)), (.int (2 : Int32))]))
            obtain ⟨_, _, ⟨T89, L89, kk89, nn89⟩, -, X89, ⟨Lc89, hQ89, l89, y89, z89⟩, st89⟩ := Jvm.LawKit.callS X87 hx (y := (⟨"com/example/sixfold/sixfold/rows/RowsFewestPinLaw", "fits", "(IIIII)Z"⟩ : MethodName)) hown (mvT hZ (hw _ (List.mem_of_getElem? (i := 5) rfl))) (mvT hZ (hw _ (List.mem_of_getElem? (i := 6) rfl))) (mvT hZ (hw _ (List.mem_of_getElem? (i := 7) rfl))) (mvT hZ (hw _ (List.mem_of_getElem? (i := 8) rfl))) (by decide) (backOf (W := 0) (rm2 l Z a0 hw [] (2 : Int32) (0 : Int32) (2 : Int32) p3 p1 h81 n0 Z81 ) hZ (hw _ (List.mem_of_getElem? (i := 8) rfl)) (hw _ (List.mem_of_getElem? (i := 7) rfl)) (by decide) (by decide)) (g := (mkF m 116 #[.val (.int p0), .val (.int p1), .val (.int p2), .val (.int p3), .val (.int p4), .val (.int (2 : Int32)), .val (.ref b79), .val (.int (0 : Int32)), .val (.int p1)] [(.int p1), (.int p3), (.int (2 : Int32)), (.int (0 : Int32)), (.int (2 : Int32))])) rfl (by rw [hml]; rfl) (argsL := [(.int (2 : Int32)), (.int (0 : Int32)), (.int (2 : Int32)), (.int p3), (.int p1)]) (rest := []) (lenOf pd_1 rfl) rfl (by show 2 * 0 + _ ≤ _; exact Nat.le_of_eq rfl) (hb hby at_116) (fun _ _ => ⟨rfl, hq87, (by decide : 1 + 0 ≤ _), (by decide : 2 + 0 ≤ _)⟩)
            dsimp only [Pt.U, Pt.locs, Pt.cells, Pt.slots] at X89 l89 y89 z89 st89 hQ89
            subst l89 y89 z89
            obtain ⟨N89q, rfl, hq89⟩ := hQ89
            have N89 := Fr.app N87 N89q
            refine own_go (fun t k => st89 _ k) ?_
            show own_Gl _ _ _ _ (T89.setTop (mkF m 119 #[.val (.int p0), .val (.int p1), .val (.int p2), .val (.int p3), .val (.int p4), .val (.int (2 : Int32)), .val (.ref b79), .val (.int (0 : Int32)), .val (.int p1)] [(.int (f2 (2 : Int32) (0 : Int32) (2 : Int32) p3 p1))]))
            by_cases hc119_90 : (f2 (2 : Int32) (0 : Int32) (2 : Int32) p3 p1) = (0 : Int32)
            · refine own_go (fun t k => XS.ifYes X89.here hx rfl (pc0 := 119) (pc' := 141) rfl (hb hby at_119) rfl ((if0 _ _).trans (teq hc119_90).1) (by decide) (by decide) k) ?_
              show own_Gl _ _ _ _ (T89.setTop (mkF m 141 #[.val (.int p0), .val (.int p1), .val (.int p2), .val (.int p3), .val (.int p4), .val (.int (2 : Int32)), .val (.ref b79), .val (.int (0 : Int32)), .val (.int p1)] []))
              refine own_go (fun t k => XS.iconst X89.here hx rfl (hb hby at_141) k) ?_
              show own_Gl _ _ _ _ (T89.setTop (mkF m 142 #[.val (.int p0), .val (.int p1), .val (.int p2), .val (.int p3), .val (.int p4), .val (.int (2 : Int32)), .val (.ref b79), .val (.int (0 : Int32)), .val (.int p1)] [(.int (0 : Int32))]))
              obtain ⟨fs, hr, hrun, hended, hW, hsame⟩ := X89.leave (v := some (.int (0 : Int32))) (fun h => by rw [Bd.returns] at h; cases h)
              refine own_fin (retN X89 hx (t := .boolean) Bd.returns (by simp) (hb hby at_142) hr) hrun hended ⟨_, _, rfl, ?_, ⟨_, rfl⟩, hW, hsame.mono (by decide) (by decide)⟩
              show Q0 Z p0 p1 p2 p3 p4 h0 n0 _ T89.heap _
              rw [hq89]
              exact ⟨N89, by rw [f0, if_neg hc3_64, if_pos hc3_78, if_pos hc57_83, if_neg hc91_86, if_neg hc105_88, if_pos hc119_90]⟩
            · refine own_go (fun t k => XS.ifNo X89.here hx rfl (hb hby at_119) rfl ((if0 _ _).trans (feq hc119_90).1) k) ?_
              show own_Gl _ _ _ _ (T89.setTop (mkF m 122 #[.val (.int p0), .val (.int p1), .val (.int p2), .val (.int p3), .val (.int p4), .val (.int (2 : Int32)), .val (.ref b79), .val (.int (0 : Int32)), .val (.int p1)] []))
              refine own_go (fun t k => XS.iload X89.here hx rfl (hb hby at_122) rfl k) ?_
              show own_Gl _ _ _ _ (T89.setTop (mkF m 124 #[.val (.int p0), .val (.int p1), .val (.int p2), .val (.int p3), .val (.int p4), .val (.int (2 : Int32)), .val (.ref b79), .val (.int (0 : Int32)), .val (.int p1)] [(.int (2 : Int32))]))
              refine own_go (fun t k => XS.iload X89.here hx rfl (hb hby at_124) rfl k) ?_
              show own_Gl _ _ _ _ (T89.setTop (mkF m 126 #[.val (.int p0), .val (.int p1), .val (.int p2), .val (.int p3), .val (.int p4), .val (.int (2 : Int32)), .val (.ref b79), .val (.int (0 : Int32)), .val (.int p1)] [(.int (0 : Int32)), (.int (2 : Int32))]))
              refine own_go (fun t k => XS.iconst X89.here hx rfl (hb hby at_126) k) ?_
              show own_Gl _ _ _ _ (T89.setTop (mkF m 127 #[.val (.int p0), .val (.int p1), .val (.int p2), .val (.int p3), .val (.int p4), .val (.int (2 : Int32)), .val (.ref b79), .val (.int (0 : Int32)), .val (.int p1)] [(.int (3 : Int32)), (.int (0 : Int32)), (.int (2 : Int32))]))
              refine own_go (fun t k => XS.iload X89.here hx rfl (hb hby at_127) rfl k) ?_
              show own_Gl _ _ _ _ (T89.setTop (mkF m 129 #[.val (.int p0), .val (.int p1), .val (.int p2), .val (.int p3), .val (.int p4), .val (.int (2 : Int32)), .val (.ref b79), .val (.int (0 : Int32)), .val (.int p1)] [(.int p4), (.int (3 : Int32)), (.int (0 : Int32)), (.int (2 : Int32))]))
              refine own_go (fun t k => XS.iload X89.here hx rfl (hb hby at_129) rfl k) ?_
              show own_Gl _ _ _ _ (T89.setTop (mkF m 131 #[.val (.int p0), .val (.int p1), .val (.int p2), .val (.int p3), .val (.int p4), .val (.int (2 : Int32)), .val (.ref b79), .val (.int (0 : Int32)), .val (.int p1)] [(.int p1), (.int p4), (.int (3 : Int32)), (.int (0 : Int32)), (.int (2 : Int32))]))
              obtain ⟨_, _, ⟨T91, L91, kk91, nn91⟩, -, X91, ⟨Lc91, hQ91, l91, y91, z91⟩, st91⟩ := Jvm.LawKit.callS X89 hx (y := (⟨"com/example/sixfold/sixfold/rows/RowsFewestPinLaw", "fits", "(IIIII)Z"⟩ : MethodName)) hown (mvT hZ (hw _ (List.mem_of_getElem? (i := 5) rfl))) (mvT hZ (hw _ (List.mem_of_getElem? (i := 6) rfl))) (mvT hZ (hw _ (List.mem_of_getElem? (i := 7) rfl))) (mvT hZ (hw _ (List.mem_of_getElem? (i := 8) rfl))) (by decide) (backOf (W := 0) (rm2 l Z a0 hw [] (2 : Int32) (0 : Int32) (3 : Int32) p4 p1 h81 n0 Z81 ) hZ (hw _ (List.mem_of_getElem? (i := 8) rfl)) (hw _ (List.mem_of_getElem? (i := 7) rfl)) (by decide) (by decide)) (g := (mkF m 131 #[.val (.int p0), .val (.int p1), .val (.int p2), .val (.int p3), .val (.int p4), .val (.int (2 : Int32)), .val (.ref b79), .val (.int (0 : Int32)), .val (.int p1)] [(.int p1), (.int p4), (.int (3 : Int32)), (.int (0 : Int32)), (.int (2 : Int32))])) rfl (by rw [hml]; rfl) (argsL := [(.int (2 : Int32)), (.int (0 : Int32)), (.int (3 : Int32)), (.int p4), (.int p1)]) (rest := []) (lenOf pd_1 rfl) rfl (by show 2 * 0 + _ ≤ _; exact Nat.le_of_eq rfl) (hb hby at_131) (fun _ _ => ⟨rfl, hq89, (by decide : 1 + 0 ≤ _), (by decide : 2 + 0 ≤ _)⟩)
              dsimp only [Pt.U, Pt.locs, Pt.cells, Pt.slots] at X91 l91 y91 z91 st91 hQ91
              subst l91 y91 z91
              obtain ⟨N91q, rfl, hq91⟩ := hQ91
              have N91 := Fr.app N89 N91q
              refine own_go (fun t k => st91 _ k) ?_
              show own_Gl _ _ _ _ (T91.setTop (mkF m 134 #[.val (.int p0), .val (.int p1), .val (.int p2), .val (.int p3), .val (.int p4), .val (.int (2 : Int32)), .val (.ref b79), .val (.int (0 : Int32)), .val (.int p1)] [(.int (f2 (2 : Int32) (0 : Int32) (3 : Int32) p4 p1))]))
              by_cases hc134_92 : (f2 (2 : Int32) (0 : Int32) (3 : Int32) p4 p1) = (0 : Int32)
              · refine own_go (fun t k => XS.ifYes X91.here hx rfl (pc0 := 134) (pc' := 141) rfl (hb hby at_134) rfl ((if0 _ _).trans (teq hc134_92).1) (by decide) (by decide) k) ?_
                show own_Gl _ _ _ _ (T91.setTop (mkF m 141 #[.val (.int p0), .val (.int p1), .val (.int p2), .val (.int p3), .val (.int p4), .val (.int (2 : Int32)), .val (.ref b79), .val (.int (0 : Int32)), .val (.int p1)] []))
                refine own_go (fun t k => XS.iconst X91.here hx rfl (hb hby at_141) k) ?_
                show own_Gl _ _ _ _ (T91.setTop (mkF m 142 #[.val (.int p0), .val (.int p1), .val (.int p2), .val (.int p3), .val (.int p4), .val (.int (2 : Int32)), .val (.ref b79), .val (.int (0 : Int32)), .val (.int p1)] [(.int (0 : Int32))]))
                obtain ⟨fs, hr, hrun, hended, hW, hsame⟩ := X91.leave (v := some (.int (0 : Int32))) (fun h => by rw [Bd.returns] at h; cases h)
                refine own_fin (retN X91 hx (t := .boolean) Bd.returns (by simp) (hb hby at_142) hr) hrun hended ⟨_, _, rfl, ?_, ⟨_, rfl⟩, hW, hsame.mono (by decide) (by decide)⟩
                show Q0 Z p0 p1 p2 p3 p4 h0 n0 _ T91.heap _
                rw [hq91]
                exact ⟨N91, by rw [f0, if_neg hc3_64, if_pos hc3_78, if_pos hc57_83, if_neg hc91_86, if_neg hc105_88, if_neg hc119_90, if_pos hc134_92]⟩
              · refine own_go (fun t k => XS.ifNo X91.here hx rfl (hb hby at_134) rfl ((if0 _ _).trans (feq hc134_92).1) k) ?_
                show own_Gl _ _ _ _ (T91.setTop (mkF m 137 #[.val (.int p0), .val (.int p1), .val (.int p2), .val (.int p3), .val (.int p4), .val (.int (2 : Int32)), .val (.ref b79), .val (.int (0 : Int32)), .val (.int p1)] []))
                refine own_go (fun t k => XS.iconst X91.here hx rfl (hb hby at_137) k) ?_
                show own_Gl _ _ _ _ (T91.setTop (mkF m 138 #[.val (.int p0), .val (.int p1), .val (.int p2), .val (.int p3), .val (.int p4), .val (.int (2 : Int32)), .val (.ref b79), .val (.int (0 : Int32)), .val (.int p1)] [(.int (1 : Int32))]))
                refine own_go (fun t k => XS.goto X91.here hx rfl (pc0 := 138) (pc' := 142) rfl (hb hby at_138) (by decide) (by decide) k) ?_
                show own_Gl _ _ _ _ (T91.setTop (mkF m 142 #[.val (.int p0), .val (.int p1), .val (.int p2), .val (.int p3), .val (.int p4), .val (.int (2 : Int32)), .val (.ref b79), .val (.int (0 : Int32)), .val (.int p1)] [(.int (1 : Int32))]))
                obtain ⟨fs, hr, hrun, hended, hW, hsame⟩ := X91.leave (v := some (.int (1 : Int32))) (fun h => by rw [Bd.returns] at h; cases h)
                refine own_fin (retN X91 hx (t := .boolean) Bd.returns (by simp) (hb hby at_142) hr) hrun hended ⟨_, _, rfl, ?_, ⟨_, rfl⟩, hW, hsame.mono (by decide) (by decide)⟩
                show Q0 Z p0 p1 p2 p3 p4 h0 n0 _ T91.heap _
                rw [hq91]
                exact ⟨N91, by rw [f0, if_neg hc3_64, if_pos hc3_78, if_pos hc57_83, if_neg hc91_86, if_neg hc105_88, if_neg hc119_90, if_neg hc134_92]⟩
      · have hs93 : (f1_2 p1 p2) = (1 : Int32) := by have hr := own_rg2 p1 p2; simpa [hc57_83] using hr
        rw [hs93]
        show own_Gl _ _ _ _ (T82.setTop (mkF m 57 #[.val (.int p0), .val (.int p1), .val (.int p2), .val (.int p3), .val (.int p4), .val (.int (2 : Int32)), .val (.ref b79), .unset, .unset] [(.int (1 : Int32))]))
        refine own_go (fun t k => XS.istore X82.here hx rfl (hb hby at_57) rfl (l' := #[.val (.int p0), .val (.int p1), .val (.int p2), .val (.int p3), .val (.int p4), .val (.int (2 : Int32)), .val (.ref b79), .val (.int (1 : Int32)), .unset]) rfl k) ?_
        show own_Gl _ _ _ _ (T82.setTop (mkF m 59 #[.val (.int p0), .val (.int p1), .val (.int p2), .val (.int p3), .val (.int p4), .val (.int (2 : Int32)), .val (.ref b79), .val (.int (1 : Int32)), .unset] []))
        refine own_go (fun t k => XS.iload X82.here hx rfl (hb hby at_59) rfl k) ?_
        show own_Gl _ _ _ _ (T82.setTop (mkF m 61 #[.val (.int p0), .val (.int p1), .val (.int p2), .val (.int p3), .val (.int p4), .val (.int (2 : Int32)), .val (.ref b79), .val (.int (1 : Int32)), .unset] [(.int (1 : Int32))]))
        refine own_go (fun t k => XS.ifNo X82.here hx rfl (hb hby at_61) rfl ((if0 _ _).trans (flt (by decide : ¬ ((1 : Int32) < (0 : Int32)))).1) k) ?_
        show own_Gl _ _ _ _ (T82.setTop (mkF m 64 #[.val (.int p0), .val (.int p1), .val (.int p2), .val (.int p3), .val (.int p4), .val (.int (2 : Int32)), .val (.ref b79), .val (.int (1 : Int32)), .unset] []))
        refine own_go (fun t k => XS.iload X82.here hx rfl (hb hby at_64) rfl k) ?_
        show own_Gl _ _ _ _ (T82.setTop (mkF m 66 #[.val (.int p0), .val (.int p1), .val (.int p2), .val (.int p3), .val (.int p4), .val (.int (2 : Int32)), .val (.ref b79), .val (.int (1 : Int32)), .unset] [(.int (1 : Int32))]))
        refine own_go (fun t k => XS.iload X82.here hx rfl (hb hby at_66) rfl k) ?_
        show own_Gl _ _ _ _ (T82.setTop (mkF m 68 #[.val (.int p0), .val (.int p1), .val (.int p2), .val (.int p3), .val (.int p4), .val (.int (2 : Int32)), .val (.ref b79), .val (.int (1 : Int32)), .unset] [(.int (2 : Int32)), (.int (1 : Int32))]))
        refine own_go (fun t k => XS.icmpYes X82.here hx rfl (pc0 := 68) (pc' := 73) rfl (hb hby at_68) rfl (tlt (by decide : (1 : Int32) < (2 : Int32))).1 (by decide) (by decide) k) ?_
        show own_Gl _ _ _ _ (T82.setTop (mkF m 73 #[.val (.int p0), .val (.int p1), .val (.int p2), .val (.int p3), .val (.int p4), .val (.int (2 : Int32)), .val (.ref b79), .val (.int (1 : Int32)), .unset] []))
        refine own_go (fun t k => XS.aload X82.here hx rfl (hb hby at_73) rfl rfl k) ?_
        show own_Gl _ _ _ _ (T82.setTop (mkF m 75 #[.val (.int p0), .val (.int p1), .val (.int p2), .val (.int p3), .val (.int p4), .val (.int (2 : Int32)), .val (.ref b79), .val (.int (1 : Int32)), .unset] [(.ref b79)]))
        refine own_go (fun t k => XS.iload X82.here hx rfl (hb hby at_75) rfl k) ?_
        show own_Gl _ _ _ _ (T82.setTop (mkF m 77 #[.val (.int p0), .val (.int p1), .val (.int p2), .val (.int p3), .val (.int p4), .val (.int (2 : Int32)), .val (.ref b79), .val (.int (1 : Int32)), .unset] [(.int (1 : Int32)), (.ref b79)]))
        obtain ⟨cl94, Ar94, qk94, S94, M94, H94, G94⟩ := id V81
        have hin94 : ¬ ((1 : Int32) < 0 ∨ cl94.slots.size ≤ ((1 : Int32)).toNatClampNeg) := inb_of S94 ⟨by decide, by decide⟩
        have hat94 : cl94.slots[((1 : Int32)).toNatClampNeg]? = some (.int p2) := H94.at hin94 rfl
        refine own_go (fun t k => X82.iaload hx (j := (1 : Int32)) (v := (.int p2)) (by rw [hq82]; exact Ar94.1) (State.isArrayOf_alike hZ.alike Ar94.2.1) Ar94.2.2 hin94 hat94 (g := (mkF m 77 #[.val (.int p0), .val (.int p1), .val (.int p2), .val (.int p3), .val (.int p4), .val (.int (2 : Int32)), .val (.ref b79), .val (.int (1 : Int32)), .unset] [(.int (1 : Int32)), (.ref b79)])) rfl rfl (hb hby at_77) _ k) ?_
        show own_Gl _ _ _ _ (T82.setTop (mkF m 78 #[.val (.int p0), .val (.int p1), .val (.int p2), .val (.int p3), .val (.int p4), .val (.int (2 : Int32)), .val (.ref b79), .val (.int (1 : Int32)), .unset] [(.int p2)]))
        refine own_go (fun t k => XS.istore X82.here hx rfl (hb hby at_78) rfl (l' := #[.val (.int p0), .val (.int p1), .val (.int p2), .val (.int p3), .val (.int p4), .val (.int (2 : Int32)), .val (.ref b79), .val (.int (1 : Int32)), .val (.int p2)]) rfl k) ?_
        show own_Gl _ _ _ _ (T82.setTop (mkF m 80 #[.val (.int p0), .val (.int p1), .val (.int p2), .val (.int p3), .val (.int p4), .val (.int (2 : Int32)), .val (.ref b79), .val (.int (1 : Int32)), .val (.int p2)] []))
        refine own_go (fun t k => XS.iload X82.here hx rfl (hb hby at_80) rfl k) ?_
        show own_Gl _ _ _ _ (T82.setTop (mkF m 82 #[.val (.int p0), .val (.int p1), .val (.int p2), .val (.int p3), .val (.int p4), .val (.int (2 : Int32)), .val (.ref b79), .val (.int (1 : Int32)), .val (.int p2)] [(.int (2 : Int32))]))
        refine own_go (fun t k => XS.iload X82.here hx rfl (hb hby at_82) rfl k) ?_
        show own_Gl _ _ _ _ (T82.setTop (mkF m 84 #[.val (.int p0), .val (.int p1), .val (.int p2), .val (.int p3), .val (.int p4), .val (.int (2 : Int32)), .val (.ref b79), .val (.int (1 : Int32)), .val (.int p2)] [(.int (1 : Int32)), (.int (2 : Int32))]))
        refine own_go (fun t k => XS.iconst X82.here hx rfl (hb hby at_84) k) ?_
        show own_Gl _ _ _ _ (T82.setTop (mkF m 85 #[.val (.int p0), .val (.int p1), .val (.int p2), .val (.int p3), .val (.int p4), .val (.int (2 : Int32)), .val (.ref b79), .val (.int (1 : Int32)), .val (.int p2)] [(.int (0 : Int32)), (.int (1 : Int32)), (.int (2 : Int32))]))
        refine own_go (fun t k => XS.iloadN X82.here hx rfl (hb hby at_85) rfl k) ?_
        show own_Gl _ _ _ _ (T82.setTop (mkF m 86 #[.val (.int p0), .val (.int p1), .val (.int p2), .val (.int p3), .val (.int p4), .val (.int (2 : Int32)), .val (.ref b79), .val (.int (1 : Int32)), .val (.int p2)] [(.int p1), (.int (0 : Int32)), (.int (1 : Int32)), (.int (2 : Int32))]))
        refine own_go (fun t k => XS.iload X82.here hx rfl (hb hby at_86) rfl k) ?_
        show own_Gl _ _ _ _ (T82.setTop (mkF m 88 #[.val (.int p0), .val (.int p1), .val (.int p2), .val (.int p3), .val (.int p4), .val (.int (2 : Int32)), .val (.ref b79), .val (.int (1 : Int32)), .val (.int p2)] [(.int p2), (.int p1), (.int (0 : Int32)), (.int (1 : Int32)), (.int (2 : Int32))]))
        obtain ⟨_, _, ⟨T95, L95, kk95, nn95⟩, -, X95, ⟨Lc95, hQ95, l95, y95, z95⟩, st95⟩ := Jvm.LawKit.callS X82 hx (y := (⟨"com/example/sixfold/sixfold/rows/RowsFewestPinLaw", "fits", "(IIIII)Z"⟩ : MethodName)) hown (mvT hZ (hw _ (List.mem_of_getElem? (i := 5) rfl))) (mvT hZ (hw _ (List.mem_of_getElem? (i := 6) rfl))) (mvT hZ (hw _ (List.mem_of_getElem? (i := 7) rfl))) (mvT hZ (hw _ (List.mem_of_getElem? (i := 8) rfl))) (by decide) (backOf (W := 0) (rm2 l Z a0 hw [] (2 : Int32) (1 : Int32) (0 : Int32) p1 p2 h81 n0 Z81 ) hZ (hw _ (List.mem_of_getElem? (i := 8) rfl)) (hw _ (List.mem_of_getElem? (i := 7) rfl)) (by decide) (by decide)) (g := (mkF m 88 #[.val (.int p0), .val (.int p1), .val (.int p2), .val (.int p3), .val (.int p4), .val (.int (2 : Int32)), .val (.ref b79), .val (.int (1 : Int32)), .val (.int p2)] [(.int p2), (.int p1), (.int (0 : Int32)), (.int (1 : Int32)), (.int (2 : Int32))])) rfl (by rw [hml]; rfl) (argsL := [(.int (2 : Int32)), (.int (1 : Int32)), (.int (0 : Int32)), (.int p1), (.int p2)]) (rest := []) (lenOf pd_1 rfl) rfl (by show 2 * 0 + _ ≤ _; exact Nat.le_of_eq rfl) (hb hby at_88) (fun _ _ => ⟨rfl, hq82, (by decide : 1 + 0 ≤ _), (by decide : 2 + 0 ≤ _)⟩)
        dsimp only [Pt.U, Pt.locs, Pt.cells, Pt.slots] at X95 l95 y95 z95 st95 hQ95
        subst l95 y95 z95
        obtain ⟨N95q, rfl, hq95⟩ := hQ95
        have N95 := Fr.app N82 N95q
        refine own_go (fun t k => st95 _ k) ?_
        show own_Gl _ _ _ _ (T95.setTop (mkF m 91 #[.val (.int p0), .val (.int p1), .val (.int p2), .val (.int p3), .val (.int p4), .val (.int (2 : Int32)), .val (.ref b79), .val (.int (1 : Int32)), .val (.int p2)] [(.int (f2 (2 : Int32) (1 : Int32) (0 : Int32) p1 p2))]))
        by_cases hc91_96 : (f2 (2 : Int32) (1 : Int32) (0 : Int32) p1 p2) = (0 : Int32)
        · refine own_go (fun t k => XS.ifYes X95.here hx rfl (pc0 := 91) (pc' := 141) rfl (hb hby at_91) rfl ((if0 _ _).trans (teq hc91_96).1) (by decide) (by decide) k) ?_
          show own_Gl _ _ _ _ (T95.setTop (mkF m 141 #[.val (.int p0), .val (.int p1), .val (.int p2), .val (.int p3), .val (.int p4), .val (.int (2 : Int32)), .val (.ref b79), .val (.int (1 : Int32)), .val (.int p2)] []))
          refine own_go (fun t k => XS.iconst X95.here hx rfl (hb hby at_141) k) ?_
          show own_Gl _ _ _ _ (T95.setTop (mkF m 142 #[.val (.int p0), .val (.int p1), .val (.int p2), .val (.int p3), .val (.int p4), .val (.int (2 : Int32)), .val (.ref b79), .val (.int (1 : Int32)), .val (.int p2)] [(.int (0 : Int32))]))
          obtain ⟨fs, hr, hrun, hended, hW, hsame⟩ := X95.leave (v := some (.int (0 : Int32))) (fun h => by rw [Bd.returns] at h; cases h)
          refine own_fin (retN X95 hx (t := .boolean) Bd.returns (by simp) (hb hby at_142) hr) hrun hended ⟨_, _, rfl, ?_, ⟨_, rfl⟩, hW, hsame.mono (by decide) (by decide)⟩
          show Q0 Z p0 p1 p2 p3 p4 h0 n0 _ T95.heap _
          rw [hq95]
          exact ⟨N95, by rw [f0, if_neg hc3_64, if_pos hc3_78, if_neg hc57_83, if_pos hc91_96]⟩
        · refine own_go (fun t k => XS.ifNo X95.here hx rfl (hb hby at_91) rfl ((if0 _ _).trans (feq hc91_96).1) k) ?_
          show own_Gl _ _ _ _ (T95.setTop (mkF m 94 #[.val (.int p0), .val (.int p1), .val (.int p2), .val (.int p3), .val (.int p4), .val (.int (2 : Int32)), .val (.ref b79), .val (.int (1 : Int32)), .val (.int p2)] []))
          refine own_go (fun t k => XS.iload X95.here hx rfl (hb hby at_94) rfl k) ?_
          show own_Gl _ _ _ _ (T95.setTop (mkF m 96 #[.val (.int p0), .val (.int p1), .val (.int p2), .val (.int p3), .val (.int p4), .val (.int (2 : Int32)), .val (.ref b79), .val (.int (1 : Int32)), .val (.int p2)] [(.int (2 : Int32))]))
          refine own_go (fun t k => XS.iload X95.here hx rfl (hb hby at_96) rfl k) ?_
          show own_Gl _ _ _ _ (T95.setTop (mkF m 98 #[.val (.int p0), .val (.int p1), .val (.int p2), .val (.int p3), .val (.int p4), .val (.int (2 : Int32)), .val (.ref b79), .val (.int (1 : Int32)), .val (.int p2)] [(.int (1 : Int32)), (.int (2 : Int32))]))
          refine own_go (fun t k => XS.iconst X95.here hx rfl (hb hby at_98) k) ?_
          show own_Gl _ _ _ _ (T95.setTop (mkF m 99 #[.val (.int p0), .val (.int p1), .val (.int p2), .val (.int p3), .val (.int p4), .val (.int (2 : Int32)), .val (.ref b79), .val (.int (1 : Int32)), .val (.int p2)] [(.int (1 : Int32)), (.int (1 : Int32)), (.int (2 : Int32))]))
          refine own_go (fun t k => XS.iloadN X95.here hx rfl (hb hby at_99) rfl k) ?_
          show own_Gl _ _ _ _ (T95.setTop (mkF m 100 #[.val (.int p0), .val (.int p1), .val (.int p2), .val (.int p3), .val (.int p4), .val (.int (2 : Int32)), .val (.ref b79), .val (.int (1 : Int32)), .val (.int p2)] [(.int p2), (.int (1 : Int32)), (.int (1 : Int32)), (.int (2 : Int32))]))
          refine own_go (fun t k => XS.iload X95.here hx rfl (hb hby at_100) rfl k) ?_
          show own_Gl _ _ _ _ (T95.setTop (mkF m 102 #[.val (.int p0), .val (.int p1), .val (.int p2), .val (.int p3), .val (.int p4), .val (.int (2 : Int32)), .val (.ref b79), .val (.int (1 : Int32)), .val (.int p2)] [(.int p2), (.int p2), (.int (1 : Int32)), (.int (1 : Int32)), (.int (2 : Int32))]))
          obtain ⟨_, _, ⟨T97, L97, kk97, nn97⟩, -, X97, ⟨Lc97, hQ97, l97, y97, z97⟩, st97⟩ := Jvm.LawKit.callS X95 hx (y := (⟨"com/example/sixfold/sixfold/rows/RowsFewestPinLaw", "fits", "(IIIII)Z"⟩ : MethodName)) hown (mvT hZ (hw _ (List.mem_of_getElem? (i := 5) rfl))) (mvT hZ (hw _ (List.mem_of_getElem? (i := 6) rfl))) (mvT hZ (hw _ (List.mem_of_getElem? (i := 7) rfl))) (mvT hZ (hw _ (List.mem_of_getElem? (i := 8) rfl))) (by decide) (backOf (W := 0) (rm2 l Z a0 hw [] (2 : Int32) (1 : Int32) (1 : Int32) p2 p2 h81 n0 Z81 ) hZ (hw _ (List.mem_of_getElem? (i := 8) rfl)) (hw _ (List.mem_of_getElem? (i := 7) rfl)) (by decide) (by decide)) (g := (mkF m 102 #[.val (.int p0), .val (.int p1), .val (.int p2), .val (.int p3), .val (.int p4), .val (.int (2 : Int32)), .val (.ref b79), .val (.int (1 : Int32)), .val (.int p2)] [(.int p2), (.int p2), (.int (1 : Int32)), (.int (1 : Int32)), (.int (2 : Int32))])) rfl (by rw [hml]; rfl) (argsL := [(.int (2 : Int32)), (.int (1 : Int32)), (.int (1 : Int32)), (.int p2), (.int p2)]) (rest := []) (lenOf pd_1 rfl) rfl (by show 2 * 0 + _ ≤ _; exact Nat.le_of_eq rfl) (hb hby at_102) (fun _ _ => ⟨rfl, hq95, (by decide : 1 + 0 ≤ _), (by decide : 2 + 0 ≤ _)⟩)
          dsimp only [Pt.U, Pt.locs, Pt.cells, Pt.slots] at X97 l97 y97 z97 st97 hQ97
          subst l97 y97 z97
          obtain ⟨N97q, rfl, hq97⟩ := hQ97
          have N97 := Fr.app N95 N97q
          refine own_go (fun t k => st97 _ k) ?_
          show own_Gl _ _ _ _ (T97.setTop (mkF m 105 #[.val (.int p0), .val (.int p1), .val (.int p2), .val (.int p3), .val (.int p4), .val (.int (2 : Int32)), .val (.ref b79), .val (.int (1 : Int32)), .val (.int p2)] [(.int (f2 (2 : Int32) (1 : Int32) (1 : Int32) p2 p2))]))
          by_cases hc105_98 : (f2 (2 : Int32) (1 : Int32) (1 : Int32) p2 p2) = (0 : Int32)
          · refine own_go (fun t k => XS.ifYes X97.here hx rfl (pc0 := 105) (pc' := 141) rfl (hb hby at_105) rfl ((if0 _ _).trans (teq hc105_98).1) (by decide) (by decide) k) ?_
            show own_Gl _ _ _ _ (T97.setTop (mkF m 141 #[.val (.int p0), .val (.int p1), .val (.int p2), .val (.int p3), .val (.int p4), .val (.int (2 : Int32)), .val (.ref b79), .val (.int (1 : Int32)), .val (.int p2)] []))
            refine own_go (fun t k => XS.iconst X97.here hx rfl (hb hby at_141) k) ?_
            show own_Gl _ _ _ _ (T97.setTop (mkF m 142 #[.val (.int p0), .val (.int p1), .val (.int p2), .val (.int p3), .val (.int p4), .val (.int (2 : Int32)), .val (.ref b79), .val (.int (1 : Int32)), .val (.int p2)] [(.int (0 : Int32))]))
            obtain ⟨fs, hr, hrun, hended, hW, hsame⟩ := X97.leave (v := some (.int (0 : Int32))) (fun h => by rw [Bd.returns] at h; cases h)
            refine own_fin (retN X97 hx (t := .boolean) Bd.returns (by simp) (hb hby at_142) hr) hrun hended ⟨_, _, rfl, ?_, ⟨_, rfl⟩, hW, hsame.mono (by decide) (by decide)⟩
            show Q0 Z p0 p1 p2 p3 p4 h0 n0 _ T97.heap _
            rw [hq97]
            exact ⟨N97, by rw [f0, if_neg hc3_64, if_pos hc3_78, if_neg hc57_83, if_neg hc91_96, if_pos hc105_98]⟩
          · refine own_go (fun t k => XS.ifNo X97.here hx rfl (hb hby at_105) rfl ((if0 _ _).trans (feq hc105_98).1) k) ?_
            show own_Gl _ _ _ _ (T97.setTop (mkF m 108 #[.val (.int p0), .val (.int p1), .val (.int p2), .val (.int p3), .val (.int p4), .val (.int (2 : Int32)), .val (.ref b79), .val (.int (1 : Int32)), .val (.int p2)] []))
            refine own_go (fun t k => XS.iload X97.here hx rfl (hb hby at_108) rfl k) ?_
            show own_Gl _ _ _ _ (T97.setTop (mkF m 110 #[.val (.int p0), .val (.int p1), .val (.int p2), .val (.int p3), .val (.int p4), .val (.int (2 : Int32)), .val (.ref b79), .val (.int (1 : Int32)), .val (.int p2)] [(.int (2 : Int32))]))
            refine own_go (fun t k => XS.iload X97.here hx rfl (hb hby at_110) rfl k) ?_
            show own_Gl _ _ _ _ (T97.setTop (mkF m 112 #[.val (.int p0), .val (.int p1), .val (.int p2), .val (.int p3), .val (.int p4), .val (.int (2 : Int32)), .val (.ref b79), .val (.int (1 : Int32)), .val (.int p2)] [(.int (1 : Int32)), (.int (2 : Int32))]))
            refine own_go (fun t k => XS.iconst X97.here hx rfl (hb hby at_112) k) ?_
            show own_Gl _ _ _ _ (T97.setTop (mkF m 113 #[.val (.int p0), .val (.int p1), .val (.int p2), .val (.int p3), .val (.int p4), .val (.int (2 : Int32)), .val (.ref b79), .val (.int (1 : Int32)), .val (.int p2)] [(.int (2 : Int32)), (.int (1 : Int32)), (.int (2 : Int32))]))
            refine own_go (fun t k => XS.iloadN X97.here hx rfl (hb hby at_113) rfl k) ?_
            show own_Gl _ _ _ _ (T97.setTop (mkF m 114 #[.val (.int p0), .val (.int p1), .val (.int p2), .val (.int p3), .val (.int p4), .val (.int (2 : Int32)), .val (.ref b79), .val (.int (1 : Int32)), .val (.int p2)] [(.int p3), (.int (2 : Int32)), (.int (1 : Int32)), (.int (2 : Int32))]))
            refine own_go (fun t k => XS.iload X97.here hx rfl (hb hby at_114) rfl k) ?_
            show own_Gl _ _ _ _ (T97.setTop (mkF m 116 #[.val (.int p0), .val (.int p1), .val (.int p2), .val (.int p3), .val (.int p4), .val (.int (2 : Int32)), .val (.ref b79), .val (.int (1 : Int32)), .val (.int p2)] [(.int p2), (.int p3), (.int (2 : Int32)), (.int (1 : Int32)), (.int (2 : Int32))]))
            obtain ⟨_, _, ⟨T99, L99, kk99, nn99⟩, -, X99, ⟨Lc99, hQ99, l99, y99, z99⟩, st99⟩ := Jvm.LawKit.callS X97 hx (y := (⟨"com/example/sixfold/sixfold/rows/RowsFewestPinLaw", "fits", "(IIIII)Z"⟩ : MethodName)) hown (mvT hZ (hw _ (List.mem_of_getElem? (i := 5) rfl))) (mvT hZ (hw _ (List.mem_of_getElem? (i := 6) rfl))) (mvT hZ (hw _ (List.mem_of_getElem? (i := 7) rfl))) (mvT hZ (hw _ (List.mem_of_getElem? (i := 8) rfl))) (by decide) (backOf (W := 0) (rm2 l Z a0 hw [] (2 : Int32) (1 : Int32) (2 : Int32) p3 p2 h81 n0 Z81 ) hZ (hw _ (List.mem_of_getElem? (i := 8) rfl)) (hw _ (List.mem_of_getElem? (i := 7) rfl)) (by decide) (by decide)) (g := (mkF m 116 #[.val (.int p0), .val (.int p1), .val (.int p2), .val (.int p3), .val (.int p4), .val (.int (2 : Int32)), .val (.ref b79), .val (.int (1 : Int32)), .val (.int p2)] [(.int p2), (.int p3), (.int (2 : Int32)), (.int (1 : Int32)), (.int (2 : Int32))])) rfl (by rw [hml]; rfl) (argsL := [(.int (2 : Int32)), (.int (1 : Int32)), (.int (2 : Int32)), (.int p3), (.int p2)]) (rest := []) (lenOf pd_1 rfl) rfl (by show 2 * 0 + _ ≤ _; exact Nat.le_of_eq rfl) (hb hby at_116) (fun _ _ => ⟨rfl, hq97, (by decide : 1 + 0 ≤ _), (by decide : 2 + 0 ≤ _)⟩)
            dsimp only [Pt.U, Pt.locs, Pt.cells, Pt.slots] at X99 l99 y99 z99 st99 hQ99
            subst l99 y99 z99
            obtain ⟨N99q, rfl, hq99⟩ := hQ99
            have N99 := Fr.app N97 N99q
            refine own_go (fun t k => st99 _ k) ?_
            show own_Gl _ _ _ _ (T99.setTop (mkF m 119 #[.val (.int p0), .val (.int p1), .val (.int p2), .val (.int p3), .val (.int p4), .val (.int (2 : Int32)), .val (.ref b79), .val (.int (1 : Int32)), .val (.int p2)] [(.int (f2 (2 : Int32) (1 : Int32) (2 : Int32) p3 p2))]))
            by_cases hc119_100 : (f2 (2 : Int32) (1 : Int32) (2 : Int32) p3 p2) = (0 : Int32)
            · refine own_go (fun t k => XS.ifYes X99.here hx rfl (pc0 := 119) (pc' := 141) rfl (hb hby at_119) rfl ((if0 _ _).trans (teq hc119_100).1) (by decide) (by decide) k) ?_
              show own_Gl _ _ _ _ (T99.setTop (mkF m 141 #[.val (.int p0), .val (.int p1), .val (.int p2), .val (.int p3), .val (.int p4), .val (.int (2 : Int32)), .val (.ref b79), .val (.int (1 : Int32)), .val (.int p2)] []))
              refine own_go (fun t k => XS.iconst X99.here hx rfl (hb hby at_141) k) ?_
              show own_Gl _ _ _ _ (T99.setTop (mkF m 142 #[.val (.int p0), .val (.int p1), .val (.int p2), .val (.int p3), .val (.int p4), .val (.int (2 : Int32)), .val (.ref b79), .val (.int (1 : Int32)), .val (.int p2)] [(.int (0 : Int32))]))
              obtain ⟨fs, hr, hrun, hended, hW, hsame⟩ := X99.leave (v := some (.int (0 : Int32))) (fun h => by rw [Bd.returns] at h; cases h)
              refine own_fin (retN X99 hx (t := .boolean) Bd.returns (by simp) (hb hby at_142) hr) hrun hended ⟨_, _, rfl, ?_, ⟨_, rfl⟩, hW, hsame.mono (by decide) (by decide)⟩
              show Q0 Z p0 p1 p2 p3 p4 h0 n0 _ T99.heap _
              rw [hq99]
              exact ⟨N99, by rw [f0, if_neg hc3_64, if_pos hc3_78, if_neg hc57_83, if_neg hc91_96, if_neg hc105_98, if_pos hc119_100]⟩
            · refine own_go (fun t k => XS.ifNo X99.here hx rfl (hb hby at_119) rfl ((if0 _ _).trans (feq hc119_100).1) k) ?_
              show own_Gl _ _ _ _ (T99.setTop (mkF m 122 #[.val (.int p0), .val (.int p1), .val (.int p2), .val (.int p3), .val (.int p4), .val (.int (2 : Int32)), .val (.ref b79), .val (.int (1 : Int32)), .val (.int p2)] []))
              refine own_go (fun t k => XS.iload X99.here hx rfl (hb hby at_122) rfl k) ?_
              show own_Gl _ _ _ _ (T99.setTop (mkF m 124 #[.val (.int p0), .val (.int p1), .val (.int p2), .val (.int p3), .val (.int p4), .val (.int (2 : Int32)), .val (.ref b79), .val (.int (1 : Int32)), .val (.int p2)] [(.int (2 : Int32))]))
              refine own_go (fun t k => XS.iload X99.here hx rfl (hb hby at_124) rfl k) ?_
              show own_Gl _ _ _ _ (T99.setTop (mkF m 126 #[.val (.int p0), .val (.int p1), .val (.int p2), .val (.int p3), .val (.int p4), .val (.int (2 : Int32)), .val (.ref b79), .val (.int (1 : Int32)), .val (.int p2)] [(.int (1 : Int32)), (.int (2 : Int32))]))
              refine own_go (fun t k => XS.iconst X99.here hx rfl (hb hby at_126) k) ?_
              show own_Gl _ _ _ _ (T99.setTop (mkF m 127 #[.val (.int p0), .val (.int p1), .val (.int p2), .val (.int p3), .val (.int p4), .val (.int (2 : Int32)), .val (.ref b79), .val (.int (1 : Int32)), .val (.int p2)] [(.int (3 : Int32)), (.int (1 : Int32)), (.int (2 : Int32))]))
              refine own_go (fun t k => XS.iload X99.here hx rfl (hb hby at_127) rfl k) ?_
              show own_Gl _ _ _ _ (T99.setTop (mkF m 129 #[.val (.int p0), .val (.int p1), .val (.int p2), .val (.int p3), .val (.int p4), .val (.int (2 : Int32)), .val (.ref b79), .val (.int (1 : Int32)), .val (.int p2)] [(.int p4), (.int (3 : Int32)), (.int (1 : Int32)), (.int (2 : Int32))]))
              refine own_go (fun t k => XS.iload X99.here hx rfl (hb hby at_129) rfl k) ?_
              show own_Gl _ _ _ _ (T99.setTop (mkF m 131 #[.val (.int p0), .val (.int p1), .val (.int p2), .val (.int p3), .val (.int p4), .val (.int (2 : Int32)), .val (.ref b79), .val (.int (1 : Int32)), .val (.int p2)] [(.int p2), (.int p4), (.int (3 : Int32)), (.int (1 : Int32)), (.int (2 : Int32))]))
              obtain ⟨_, _, ⟨T101, L101, kk101, nn101⟩, -, X101, ⟨Lc101, hQ101, l101, y101, z101⟩, st101⟩ := Jvm.LawKit.callS X99 hx (y := (⟨"com/example/sixfold/sixfold/rows/RowsFewestPinLaw", "fits", "(IIIII)Z"⟩ : MethodName)) hown (mvT hZ (hw _ (List.mem_of_getElem? (i := 5) rfl))) (mvT hZ (hw _ (List.mem_of_getElem? (i := 6) rfl))) (mvT hZ (hw _ (List.mem_of_getElem? (i := 7) rfl))) (mvT hZ (hw _ (List.mem_of_getElem? (i := 8) rfl))) (by decide) (backOf (W := 0) (rm2 l Z a0 hw [] (2 : Int32) (1 : Int32) (3 : Int32) p4 p2 h81 n0 Z81 ) hZ (hw _ (List.mem_of_getElem? (i := 8) rfl)) (hw _ (List.mem_of_getElem? (i := 7) rfl)) (by decide) (by decide)) (g := (mkF m 131 #[.val (.int p0), .val (.int p1), .val (.int p2), .val (.int p3), .val (.int p4), .val (.int (2 : Int32)), .val (.ref b79), .val (.int (1 : Int32)), .val (.int p2)] [(.int p2), (.int p4), (.int (3 : Int32)), (.int (1 : Int32)), (.int (2 : Int32))])) rfl (by rw [hml]; rfl) (argsL := [(.int (2 : Int32)), (.int (1 : Int32)), (.int (3 : Int32)), (.int p4), (.int p2)]) (rest := []) (lenOf pd_1 rfl) rfl (by show 2 * 0 + _ ≤ _; exact Nat.le_of_eq rfl) (hb hby at_131) (fun _ _ => ⟨rfl, hq99, (by decide : 1 + 0 ≤ _), (by decide : 2 + 0 ≤ _)⟩)
              dsimp only [Pt.U, Pt.locs, Pt.cells, Pt.slots] at X101 l101 y101 z101 st101 hQ101
              subst l101 y101 z101
              obtain ⟨N101q, rfl, hq101⟩ := hQ101
              have N101 := Fr.app N99 N101q
              refine own_go (fun t k => st101 _ k) ?_
              show own_Gl _ _ _ _ (T101.setTop (mkF m 134 #[.val (.int p0), .val (.int p1), .val (.int p2), .val (.int p3), .val (.int p4), .val (.int (2 : Int32)), .val (.ref b79), .val (.int (1 : Int32)), .val (.int p2)] [(.int (f2 (2 : Int32) (1 : Int32) (3 : Int32) p4 p2))]))
              by_cases hc134_102 : (f2 (2 : Int32) (1 : Int32) (3 : Int32) p4 p2) = (0 : Int32)
              · refine own_go (fun t k => XS.ifYes X101.here hx rfl (pc0 := 134) (pc' := 141) rfl (hb hby at_134) rfl ((if0 _ _).trans (teq hc134_102).1) (by decide) (by decide) k) ?_
                show own_Gl _ _ _ _ (T101.setTop (mkF m 141 #[.val (.int p0), .val (.int p1), .val (.int p2), .val (.int p3), .val (.int p4), .val (.int (2 : Int32)), .val (.ref b79), .val (.int (1 : Int32)), .val (.int p2)] []))
                refine own_go (fun t k => XS.iconst X101.here hx rfl (hb hby at_141) k) ?_
                show own_Gl _ _ _ _ (T101.setTop (mkF m 142 #[.val (.int p0), .val (.int p1), .val (.int p2), .val (.int p3), .val (.int p4), .val (.int (2 : Int32)), .val (.ref b79), .val (.int (1 : Int32)), .val (.int p2)] [(.int (0 : Int32))]))
                obtain ⟨fs, hr, hrun, hended, hW, hsame⟩ := X101.leave (v := some (.int (0 : Int32))) (fun h => by rw [Bd.returns] at h; cases h)
                refine own_fin (retN X101 hx (t := .boolean) Bd.returns (by simp) (hb hby at_142) hr) hrun hended ⟨_, _, rfl, ?_, ⟨_, rfl⟩, hW, hsame.mono (by decide) (by decide)⟩
                show Q0 Z p0 p1 p2 p3 p4 h0 n0 _ T101.heap _
                rw [hq101]
                exact ⟨N101, by rw [f0, if_neg hc3_64, if_pos hc3_78, if_neg hc57_83, if_neg hc91_96, if_neg hc105_98, if_neg hc119_100, if_pos hc134_102]⟩
              · refine own_go (fun t k => XS.ifNo X101.here hx rfl (hb hby at_134) rfl ((if0 _ _).trans (feq hc134_102).1) k) ?_
                show own_Gl _ _ _ _ (T101.setTop (mkF m 137 #[.val (.int p0), .val (.int p1), .val (.int p2), .val (.int p3), .val (.int p4), .val (.int (2 : Int32)), .val (.ref b79), .val (.int (1 : Int32)), .val (.int p2)] []))
                refine own_go (fun t k => XS.iconst X101.here hx rfl (hb hby at_137) k) ?_
                show own_Gl _ _ _ _ (T101.setTop (mkF m 138 #[.val (.int p0), .val (.int p1), .val (.int p2), .val (.int p3), .val (.int p4), .val (.int (2 : Int32)), .val (.ref b79), .val (.int (1 : Int32)), .val (.int p2)] [(.int (1 : Int32))]))
                refine own_go (fun t k => XS.goto X101.here hx rfl (pc0 := 138) (pc' := 142) rfl (hb hby at_138) (by decide) (by decide) k) ?_
                show own_Gl _ _ _ _ (T101.setTop (mkF m 142 #[.val (.int p0), .val (.int p1), .val (.int p2), .val (.int p3), .val (.int p4), .val (.int (2 : Int32)), .val (.ref b79), .val (.int (1 : Int32)), .val (.int p2)] [(.int (1 : Int32))]))
                obtain ⟨fs, hr, hrun, hended, hW, hsame⟩ := X101.leave (v := some (.int (1 : Int32))) (fun h => by rw [Bd.returns] at h; cases h)
                refine own_fin (retN X101 hx (t := .boolean) Bd.returns (by simp) (hb hby at_142) hr) hrun hended ⟨_, _, rfl, ?_, ⟨_, rfl⟩, hW, hsame.mono (by decide) (by decide)⟩
                show Q0 Z p0 p1 p2 p3 p4 h0 n0 _ T101.heap _
                rw [hq101]
                exact ⟨N101, by rw [f0, if_neg hc3_64, if_pos hc3_78, if_neg hc57_83, if_neg hc91_96, if_neg hc105_98, if_neg hc119_100, if_neg hc134_102]⟩
    · by_cases hc3_103 : (p0 &&& (3 : Int32)) = (2 : Int32)
      · rw [hc3_103]
        show own_Gl _ _ _ _ (s₁.setTop (mkF m 3 #[.val (.int p0), .val (.int p1), .val (.int p2), .val (.int p3), .val (.int p4), .unset, .unset, .unset, .unset] [(.int (2 : Int32))]))
        refine own_go (fun t k => XS.iconst X0.here hx rfl (hb hby at_3) k) ?_
        show own_Gl _ _ _ _ (s₁.setTop (mkF m 4 #[.val (.int p0), .val (.int p1), .val (.int p2), .val (.int p3), .val (.int p4), .unset, .unset, .unset, .unset] [(.int (1 : Int32)), (.int (2 : Int32))]))
        refine own_go (fun t k => XS.iadd X0.here hx rfl (hb hby at_4) rfl k) ?_
        show own_Gl _ _ _ _ (s₁.setTop (mkF m 5 #[.val (.int p0), .val (.int p1), .val (.int p2), .val (.int p3), .val (.int p4), .unset, .unset, .unset, .unset] [(.int (3 : Int32))]))
        refine own_go (fun t k => XS.istore X0.here hx rfl (hb hby at_5) rfl (l' := #[.val (.int p0), .val (.int p1), .val (.int p2), .val (.int p3), .val (.int p4), .val (.int (3 : Int32)), .unset, .unset, .unset]) rfl k) ?_
        show own_Gl _ _ _ _ (s₁.setTop (mkF m 7 #[.val (.int p0), .val (.int p1), .val (.int p2), .val (.int p3), .val (.int p4), .val (.int (3 : Int32)), .unset, .unset, .unset] []))
        refine own_go (fun t k => XS.iload X0.here hx rfl (hb hby at_7) rfl k) ?_
        show own_Gl _ _ _ _ (s₁.setTop (mkF m 9 #[.val (.int p0), .val (.int p1), .val (.int p2), .val (.int p3), .val (.int p4), .val (.int (3 : Int32)), .unset, .unset, .unset] [(.int (3 : Int32))]))
        obtain ⟨T104, h104, k104, X104, e104, E104, A104, st104⟩ := newP X0 hx hZ (hw _ (List.mem_of_getElem? (i := 0) rfl)) e0 (g := (mkF m 9 #[.val (.int p0), .val (.int p1), .val (.int p2), .val (.int p3), .val (.int p4), .val (.int (3 : Int32)), .unset, .unset, .unset] [(.int (3 : Int32))])) rfl (hb hby at_9) rfl (by decide) (cap := 3) (by decide) (by decide) (by decide) (by decide)
        obtain ⟨b104, g104⟩ : ∃ z, z = h0.size := ⟨_, rfl⟩
        rw [← g104] at A104 st104
        have ge_b104 : n0 ≤ b104 := Nat.le_trans Z0 (Nat.le_of_eq g104.symm)
        have sz_b104 : h0.size ≤ b104 := Nat.le_trans (Keep.refl h0 []).1 (Nat.le_of_eq g104.symm)
        refine own_go (fun t k => st104 _ k) ?_
        have K104 : Keep h0 h104 [] := (Keep.refl h0 []).ext E104
        have Z104 : n0 ≤ h104.size := Nat.le_trans Z0 E104.1
        have V104 : Arv Z h104 b104 k104 .int (3 : Int32) [(.int (0 : Int32)), (.int (0 : Int32)), (.int (0 : Int32))] (.int (0 : Int32)) := (Arv.new A104 (by decide)).pad (pad_rep [] (.int (0 : Int32)) 3)
        show own_Gl _ _ _ _ (T104.setTop (mkF m 11 #[.val (.int p0), .val (.int p1), .val (.int p2), .val (.int p3), .val (.int p4), .val (.int (3 : Int32)), .unset, .unset, .unset] [(.ref b104)]))
        refine own_go (fun t k => XS.astore X104.here hx rfl (hb hby at_11) rfl rfl (l' := #[.val (.int p0), .val (.int p1), .val (.int p2), .val (.int p3), .val (.int p4), .val (.int (3 : Int32)), .val (.ref b104), .unset, .unset]) rfl k) ?_
        show own_Gl _ _ _ _ (T104.setTop (mkF m 13 #[.val (.int p0), .val (.int p1), .val (.int p2), .val (.int p3), .val (.int p4), .val (.int (3 : Int32)), .val (.ref b104), .unset, .unset] []))
        refine own_go (fun t k => XS.aload X104.here hx rfl (hb hby at_13) rfl rfl k) ?_
        show own_Gl _ _ _ _ (T104.setTop (mkF m 15 #[.val (.int p0), .val (.int p1), .val (.int p2), .val (.int p3), .val (.int p4), .val (.int (3 : Int32)), .val (.ref b104), .unset, .unset] [(.ref b104)]))
        refine own_go (fun t k => XS.iconst X104.here hx rfl (hb hby at_15) k) ?_
        show own_Gl _ _ _ _ (T104.setTop (mkF m 16 #[.val (.int p0), .val (.int p1), .val (.int p2), .val (.int p3), .val (.int p4), .val (.int (3 : Int32)), .val (.ref b104), .unset, .unset] [(.int (0 : Int32)), (.ref b104)]))
        refine own_go (fun t k => XS.iloadN X104.here hx rfl (hb hby at_16) rfl k) ?_
        show own_Gl _ _ _ _ (T104.setTop (mkF m 17 #[.val (.int p0), .val (.int p1), .val (.int p2), .val (.int p3), .val (.int p4), .val (.int (3 : Int32)), .val (.ref b104), .unset, .unset] [(.int p1), (.int (0 : Int32)), (.ref b104)]))
        obtain ⟨cl105, Ar105, qk105, S105, M105, H105, G105⟩ := id V104
        have hin105 : ¬ ((0 : Int32) < 0 ∨ cl105.slots.size ≤ ((0 : Int32)).toNatClampNeg) := inb_of S105 ⟨by decide, by decide⟩
        obtain ⟨T105, h105, X105, e105, W105, st105⟩ := stI X104 hx hZ e104 Ar105 (j := (0 : Int32)) hin105 (g := (mkF m 17 #[.val (.int p0), .val (.int p1), .val (.int p2), .val (.int p3), .val (.int p4), .val (.int (3 : Int32)), .val (.ref b104), .unset, .unset] [(.int p1), (.int (0 : Int32)), (.ref b104)])) rfl rfl (hb hby at_17)
        refine own_go (fun t k => st105 _ k) ?_
        have V105 : Arv Z h105 b104 k104 .int (3 : Int32) [(.int p1), (.int (0 : Int32)), (.int (0 : Int32))] (.int (0 : Int32)) := Arv.set Ar105 qk105 S105 M105 H105 G105 rfl W105 0 rfl (Nat.le_of_ble_eq_true rfl)
        have K105 : Keep h0 h105 [] := K104.wr W105 (Or.inr sz_b104)
        have N105 := Fr.snoc X105 N0 ge_b104
        have Z105 : n0 ≤ h105.size := Nat.le_trans Z104 (Keep.of_wr W105).1
        show own_Gl _ _ _ _ (T105.setTop (mkF m 18 #[.val (.int p0), .val (.int p1), .val (.int p2), .val (.int p3), .val (.int p4), .val (.int (3 : Int32)), .val (.ref b104), .unset, .unset] []))
        refine own_go (fun t k => XS.iload X105.here hx rfl (hb hby at_18) rfl k) ?_
        show own_Gl _ _ _ _ (T105.setTop (mkF m 20 #[.val (.int p0), .val (.int p1), .val (.int p2), .val (.int p3), .val (.int p4), .val (.int (3 : Int32)), .val (.ref b104), .unset, .unset] [(.int (3 : Int32))]))
        refine own_go (fun t k => XS.iconst X105.here hx rfl (hb hby at_20) k) ?_
        show own_Gl _ _ _ _ (T105.setTop (mkF m 21 #[.val (.int p0), .val (.int p1), .val (.int p2), .val (.int p3), .val (.int p4), .val (.int (3 : Int32)), .val (.ref b104), .unset, .unset] [(.int (1 : Int32)), (.int (3 : Int32))]))
        refine own_go (fun t k => XS.icmpNo X105.here hx rfl (hb hby at_21) rfl (tlt (by decide : (1 : Int32) < (3 : Int32))).2.2.2 k) ?_
        show own_Gl _ _ _ _ (T105.setTop (mkF m 24 #[.val (.int p0), .val (.int p1), .val (.int p2), .val (.int p3), .val (.int p4), .val (.int (3 : Int32)), .val (.ref b104), .unset, .unset] []))
        refine own_go (fun t k => XS.aload X105.here hx rfl (hb hby at_24) rfl rfl k) ?_
        show own_Gl _ _ _ _ (T105.setTop (mkF m 26 #[.val (.int p0), .val (.int p1), .val (.int p2), .val (.int p3), .val (.int p4), .val (.int (3 : Int32)), .val (.ref b104), .unset, .unset] [(.ref b104)]))
        refine own_go (fun t k => XS.iconst X105.here hx rfl (hb hby at_26) k) ?_
        show own_Gl _ _ _ _ (T105.setTop (mkF m 27 #[.val (.int p0), .val (.int p1), .val (.int p2), .val (.int p3), .val (.int p4), .val (.int (3 : Int32)), .val (.ref b104), .unset, .unset] [(.int (1 : Int32)), (.ref b104)]))
        refine own_go (fun t k => XS.iloadN X105.here hx rfl (hb hby at_27) rfl k) ?_
        show own_Gl _ _ _ _ (T105.setTop (mkF m 28 #[.val (.int p0), .val (.int p1), .val (.int p2), .val (.int p3), .val (.int p4), .val (.int (3 : Int32)), .val (.ref b104), .unset, .unset] [(.int p2), (.int (1 : Int32)), (.ref b104)]))
        obtain ⟨cl106, Ar106, qk106, S106, M106, H106, G106⟩ := id V105
        have hin106 : ¬ ((1 : Int32) < 0 ∨ cl106.slots.size ≤ ((1 : Int32)).toNatClampNeg) := inb_of S106 ⟨by decide, by decide⟩
        obtain ⟨T106, h106, X106, e106, W106, st106⟩ := stI X105 hx hZ e105 Ar106 (j := (1 : Int32)) hin106 (g := (mkF m 28 #[.val (.int p0), .val (.int p1), .val (.int p2), .val (.int p3), .val (.int p4), .val (.int (3 : Int32)), .val (.ref b104), .unset, .unset] [(.int p2), (.int (1 : Int32)), (.ref b104)])) rfl rfl (hb hby at_28)
        refine own_go (fun t k => st106 _ k) ?_
        have V106 : Arv Z h106 b104 k104 .int (3 : Int32) [(.int p1), (.int p2), (.int (0 : Int32))] (.int (0 : Int32)) := Arv.set Ar106 qk106 S106 M106 H106 G106 rfl W106 1 rfl (Nat.le_of_ble_eq_true rfl)
        have K106 : Keep h0 h106 [] := K105.wr W106 (Or.inr sz_b104)
        have N106 := Fr.snoc X106 N105 ge_b104
        have Z106 : n0 ≤ h106.size := Nat.le_trans Z105 (Keep.of_wr W106).1
        show own_Gl _ _ _ _ (T106.setTop (mkF m 29 #[.val (.int p0), .val (.int p1), .val (.int p2), .val (.int p3), .val (.int p4), .val (.int (3 : Int32)), .val (.ref b104), .unset, .unset] []))
        refine own_go (fun t k => XS.iload X106.here hx rfl (hb hby at_29) rfl k) ?_
        show own_Gl _ _ _ _ (T106.setTop (mkF m 31 #[.val (.int p0), .val (.int p1), .val (.int p2), .val (.int p3), .val (.int p4), .val (.int (3 : Int32)), .val (.ref b104), .unset, .unset] [(.int (3 : Int32))]))
        refine own_go (fun t k => XS.iconst X106.here hx rfl (hb hby at_31) k) ?_
        show own_Gl _ _ _ _ (T106.setTop (mkF m 32 #[.val (.int p0), .val (.int p1), .val (.int p2), .val (.int p3), .val (.int p4), .val (.int (3 : Int32)), .val (.ref b104), .unset, .unset] [(.int (2 : Int32)), (.int (3 : Int32))]))
        refine own_go (fun t k => XS.icmpNo X106.here hx rfl (hb hby at_32) rfl (tlt (by decide : (2 : Int32) < (3 : Int32))).2.2.2 k) ?_
        show own_Gl _ _ _ _ (T106.setTop (mkF m 35 #[.val (.int p0), .val (.int p1), .val (.int p2), .val (.int p3), .val (.int p4), .val (.int (3 : Int32)), .val (.ref b104), .unset, .unset] []))
        refine own_go (fun t k => XS.aload X106.here hx rfl (hb hby at_35) rfl rfl k) ?_
        show own_Gl _ _ _ _ (T106.setTop (mkF m 37 #[.val (.int p0), .val (.int p1), .val (.int p2), .val (.int p3), .val (.int p4), .val (.int (3 : Int32)), .val (.ref b104), .unset, .unset] [(.ref b104)]))
        refine own_go (fun t k => XS.iconst X106.here hx rfl (hb hby at_37) k) ?_
        show own_Gl _ _ _ _ (T106.setTop (mkF m 38 #[.val (.int p0), .val (.int p1), .val (.int p2), .val (.int p3), .val (.int p4), .val (.int (3 : Int32)), .val (.ref b104), .unset, .unset] [(.int (2 : Int32)), (.ref b104)]))
        refine own_go (fun t k => XS.iloadN X106.here hx rfl (hb hby at_38) rfl k) ?_
        show own_Gl _ _ _ _ (T106.setTop (mkF m 39 #[.val (.int p0), .val (.int p1), .val (.int p2), .val (.int p3), .val (.int p4), .val (.int (3 : Int32)), .val (.ref b104), .unset, .unset] [(.int p3), (.int (2 : Int32)), (.ref b104)]))
        obtain ⟨cl107, Ar107, qk107, S107, M107, H107, G107⟩ := id V106
        have hin107 : ¬ ((2 : Int32) < 0 ∨ cl107.slots.size ≤ ((2 : Int32)).toNatClampNeg) := inb_of S107 ⟨by decide, by decide⟩
        obtain ⟨T107, h107, X107, e107, W107, st107⟩ := stI X106 hx hZ e106 Ar107 (j := (2 : Int32)) hin107 (g := (mkF m 39 #[.val (.int p0), .val (.int p1), .val (.int p2), .val (.int p3), .val (.int p4), .val (.int (3 : Int32)), .val (.ref b104), .unset, .unset] [(.int p3), (.int (2 : Int32)), (.ref b104)])) rfl rfl (hb hby at_39)
        refine own_go (fun t k => st107 _ k) ?_
        have V107 : Arv Z h107 b104 k104 .int (3 : Int32) [(.int p1), (.int p2), (.int p3)] (.int (0 : Int32)) := Arv.set Ar107 qk107 S107 M107 H107 G107 rfl W107 2 rfl (Nat.le_of_ble_eq_true rfl)
        have K107 : Keep h0 h107 [] := K106.wr W107 (Or.inr sz_b104)
        have N107 := Fr.snoc X107 N106 ge_b104
        have Z107 : n0 ≤ h107.size := Nat.le_trans Z106 (Keep.of_wr W107).1
        show own_Gl _ _ _ _ (T107.setTop (mkF m 40 #[.val (.int p0), .val (.int p1), .val (.int p2), .val (.int p3), .val (.int p4), .val (.int (3 : Int32)), .val (.ref b104), .unset, .unset] []))
        refine own_go (fun t k => XS.iload X107.here hx rfl (hb hby at_40) rfl k) ?_
        show own_Gl _ _ _ _ (T107.setTop (mkF m 42 #[.val (.int p0), .val (.int p1), .val (.int p2), .val (.int p3), .val (.int p4), .val (.int (3 : Int32)), .val (.ref b104), .unset, .unset] [(.int (3 : Int32))]))
        refine own_go (fun t k => XS.iconst X107.here hx rfl (hb hby at_42) k) ?_
        show own_Gl _ _ _ _ (T107.setTop (mkF m 43 #[.val (.int p0), .val (.int p1), .val (.int p2), .val (.int p3), .val (.int p4), .val (.int (3 : Int32)), .val (.ref b104), .unset, .unset] [(.int (3 : Int32)), (.int (3 : Int32))]))
        refine own_go (fun t k => XS.icmpYes X107.here hx rfl (pc0 := 43) (pc' := 52) rfl (hb hby at_43) rfl (flt (by decide : ¬ ((3 : Int32) < (3 : Int32)))).2.2.2 (by decide) (by decide) k) ?_
        show own_Gl _ _ _ _ (T107.setTop (mkF m 52 #[.val (.int p0), .val (.int p1), .val (.int p2), .val (.int p3), .val (.int p4), .val (.int (3 : Int32)), .val (.ref b104), .unset, .unset] []))
        refine own_go (fun t k => XS.aload X107.here hx rfl (hb hby at_52) rfl rfl k) ?_
        show own_Gl _ _ _ _ (T107.setTop (mkF m 54 #[.val (.int p0), .val (.int p1), .val (.int p2), .val (.int p3), .val (.int p4), .val (.int (3 : Int32)), .val (.ref b104), .unset, .unset] [(.ref b104)]))
        obtain ⟨_, _, ⟨T108, L108, kk108, nn108⟩, -, X108, ⟨Lc108, hQ108, l108, y108, z108⟩, st108⟩ := Jvm.LawKit.callS X107 hx (y := (⟨"com/example/sixfold/sixfold/rows/Rows", "fewest", "([I)I"⟩ : MethodName)) hown (mvT hZ (hw _ (List.mem_of_getElem? (i := 1) rfl))) (mvT hZ (hw _ (List.mem_of_getElem? (i := 2) rfl))) (mvT hZ (hw _ (List.mem_of_getElem? (i := 3) rfl))) (mvT hZ (hw _ (List.mem_of_getElem? (i := 4) rfl))) (by decide) (backOf (W := 0) (rm1_3 l Z a0 hw [] b104 k104 p1 p2 p3 h107 n0 Z107 V107) hZ (hw _ (List.mem_of_getElem? (i := 4) rfl)) (hw _ (List.mem_of_getElem? (i := 3) rfl)) (by decide) (by decide)) (g := (mkF m 54 #[.val (.int p0), .val (.int p1), .val (.int p2), .val (.int p3), .val (.int p4), .val (.int (3 : Int32)), .val (.ref b104), .unset, .unset] [(.ref b104)])) rfl (by rw [hml]; rfl) (argsL := [(.ref b104)]) (rest := []) (lenOf pd_0 rfl) rfl (by show 2 * 0 + _ ≤ _; exact Nat.le_of_eq rfl) (hb hby at_54) (fun _ _ => ⟨rfl, e107, (by decide : 1 + 0 ≤ _), (by decide : 3 + 0 ≤ _)⟩)
        dsimp only [Pt.U, Pt.locs, Pt.cells, Pt.slots] at X108 l108 y108 z108 st108 hQ108
        subst l108 y108 z108
        obtain ⟨N108q, rfl, hq108⟩ := hQ108
        have N108 := Fr.app N107 N108q
        refine own_go (fun t k => st108 _ k) ?_
        show own_Gl _ _ _ _ (T108.setTop (mkF m 57 #[.val (.int p0), .val (.int p1), .val (.int p2), .val (.int p3), .val (.int p4), .val (.int (3 : Int32)), .val (.ref b104), .unset, .unset] [(.int (f1_3 p1 p2 p3))]))
        by_cases hc57_109 : (f1_3 p1 p2 p3) = (0 : Int32)
        · rw [hc57_109]
          show own_Gl _ _ _ _ (T108.setTop (mkF m 57 #[.val (.int p0), .val (.int p1), .val (.int p2), .val (.int p3), .val (.int p4), .val (.int (3 : Int32)), .val (.ref b104), .unset, .unset] [(.int (0 : Int32))]))
          refine own_go (fun t k => XS.istore X108.here hx rfl (hb hby at_57) rfl (l' := #[.val (.int p0), .val (.int p1), .val (.int p2), .val (.int p3), .val (.int p4), .val (.int (3 : Int32)), .val (.ref b104), .val (.int (0 : Int32)), .unset]) rfl k) ?_
          show own_Gl _ _ _ _ (T108.setTop (mkF m 59 #[.val (.int p0), .val (.int p1), .val (.int p2), .val (.int p3), .val (.int p4), .val (.int (3 : Int32)), .val (.ref b104), .val (.int (0 : Int32)), .unset] []))
          refine own_go (fun t k => XS.iload X108.here hx rfl (hb hby at_59) rfl k) ?_
          show own_Gl _ _ _ _ (T108.setTop (mkF m 61 #[.val (.int p0), .val (.int p1), .val (.int p2), .val (.int p3), .val (.int p4), .val (.int (3 : Int32)), .val (.ref b104), .val (.int (0 : Int32)), .unset] [(.int (0 : Int32))]))
          refine own_go (fun t k => XS.ifNo X108.here hx rfl (hb hby at_61) rfl ((if0 _ _).trans (flt (by decide : ¬ ((0 : Int32) < (0 : Int32)))).1) k) ?_
          show own_Gl _ _ _ _ (T108.setTop (mkF m 64 #[.val (.int p0), .val (.int p1), .val (.int p2), .val (.int p3), .val (.int p4), .val (.int (3 : Int32)), .val (.ref b104), .val (.int (0 : Int32)), .unset] []))
          refine own_go (fun t k => XS.iload X108.here hx rfl (hb hby at_64) rfl k) ?_
          show own_Gl _ _ _ _ (T108.setTop (mkF m 66 #[.val (.int p0), .val (.int p1), .val (.int p2), .val (.int p3), .val (.int p4), .val (.int (3 : Int32)), .val (.ref b104), .val (.int (0 : Int32)), .unset] [(.int (0 : Int32))]))
          refine own_go (fun t k => XS.iload X108.here hx rfl (hb hby at_66) rfl k) ?_
          show own_Gl _ _ _ _ (T108.setTop (mkF m 68 #[.val (.int p0), .val (.int p1), .val (.int p2), .val (.int p3), .val (.int p4), .val (.int (3 : Int32)), .val (.ref b104), .val (.int (0 : Int32)), .unset] [(.int (3 : Int32)), (.int (0 : Int32))]))
          refine own_go (fun t k => XS.icmpYes X108.here hx rfl (pc0 := 68) (pc' := 73) rfl (hb hby at_68) rfl (tlt (by decide : (0 : Int32) < (3 : Int32))).1 (by decide) (by decide) k) ?_
          show own_Gl _ _ _ _ (T108.setTop (mkF m 73 #[.val (.int p0), .val (.int p1), .val (.int p2), .val (.int p3), .val (.int p4), .val (.int (3 : Int32)), .val (.ref b104), .val (.int (0 : Int32)), .unset] []))
          refine own_go (fun t k => XS.aload X108.here hx rfl (hb hby at_73) rfl rfl k) ?_
          show own_Gl _ _ _ _ (T108.setTop (mkF m 75 #[.val (.int p0), .val (.int p1), .val (.int p2), .val (.int p3), .val (.int p4), .val (.int (3 : Int32)), .val (.ref b104), .val (.int (0 : Int32)), .unset] [(.ref b104)]))
          refine own_go (fun t k => XS.iload X108.here hx rfl (hb hby at_75) rfl k) ?_
          show own_Gl _ _ _ _ (T108.setTop (mkF m 77 #[.val (.int p0), .val (.int p1), .val (.int p2), .val (.int p3), .val (.int p4), .val (.int (3 : Int32)), .val (.ref b104), .val (.int (0 : Int32)), .unset] [(.int (0 : Int32)), (.ref b104)]))
          obtain ⟨cl110, Ar110, qk110, S110, M110, H110, G110⟩ := id V107
          have hin110 : ¬ ((0 : Int32) < 0 ∨ cl110.slots.size ≤ ((0 : Int32)).toNatClampNeg) := inb_of S110 ⟨by decide, by decide⟩
          have hat110 : cl110.slots[((0 : Int32)).toNatClampNeg]? = some (.int p1) := H110.at hin110 rfl
          refine own_go (fun t k => X108.iaload hx (j := (0 : Int32)) (v := (.int p1)) (by rw [hq108]; exact Ar110.1) (State.isArrayOf_alike hZ.alike Ar110.2.1) Ar110.2.2 hin110 hat110 (g := (mkF m 77 #[.val (.int p0), .val (.int p1), .val (.int p2), .val (.int p3), .val (.int p4), .val (.int (3 : Int32)), .val (.ref b104), .val (.int (0 : Int32)), .unset] [(.int (0 : Int32)), (.ref b104)])) rfl rfl (hb hby at_77) _ k) ?_
          show own_Gl _ _ _ _ (T108.setTop (mkF m 78 #[.val (.int p0), .val (.int p1), .val (.int p2), .val (.int p3), .val (.int p4), .val (.int (3 : Int32)), .val (.ref b104), .val (.int (0 : Int32)), .unset] [(.int p1)]))
          refine own_go (fun t k => XS.istore X108.here hx rfl (hb hby at_78) rfl (l' := #[.val (.int p0), .val (.int p1), .val (.int p2), .val (.int p3), .val (.int p4), .val (.int (3 : Int32)), .val (.ref b104), .val (.int (0 : Int32)), .val (.int p1)]) rfl k) ?_
          show own_Gl _ _ _ _ (T108.setTop (mkF m 80 #[.val (.int p0), .val (.int p1), .val (.int p2), .val (.int p3), .val (.int p4), .val (.int (3 : Int32)), .val (.ref b104), .val (.int (0 : Int32)), .val (.int p1)] []))
          refine own_go (fun t k => XS.iload X108.here hx rfl (hb hby at_80) rfl k) ?_
          show own_Gl _ _ _ _ (T108.setTop (mkF m 82 #[.val (.int p0), .val (.int p1), .val (.int p2), .val (.int p3), .val (.int p4), .val (.int (3 : Int32)), .val (.ref b104), .val (.int (0 : Int32)), .val (.int p1)] [(.int (3 : Int32))]))
          refine own_go (fun t k => XS.iload X108.here hx rfl (hb hby at_82) rfl k) ?_
          show own_Gl _ _ _ _ (T108.setTop (mkF m 84 #[.val (.int p0), .val (.int p1), .val (.int p2), .val (.int p3), .val (.int p4), .val (.int (3 : Int32)), .val (.ref b104), .val (.int (0 : Int32)), .val (.int p1)] [(.int (0 : Int32)), (.int (3 : Int32))]))
          refine own_go (fun t k => XS.iconst X108.here hx rfl (hb hby at_84) k) ?_
          show own_Gl _ _ _ _ (T108.setTop (mkF m 85 #[.val (.int p0), .val (.int p1), .val (.int p2), .val (.int p3), .val (.int p4), .val (.int (3 : Int32)), .val (.ref b104), .val (.int (0 : Int32)), .val (.int p1)] [(.int (0 : Int32)), (.int (0 : Int32)), (.int (3 : Int32))]))
          refine own_go (fun t k => XS.iloadN X108.here hx rfl (hb hby at_85) rfl k) ?_
          show own_Gl _ _ _ _ (T108.setTop (mkF m 86 #[.val (.int p0), .val (.int p1), .val (.int p2), .val (.int p3), .val (.int p4), .val (.int (3 : Int32)), .val (.ref b104), .val (.int (0 : Int32)), .val (.int p1)] [(.int p1), (.int (0 : Int32)), (.int (0 : Int32)), (.int (3 : Int32))]))
          refine own_go (fun t k => XS.iload X108.here hx rfl (hb hby at_86) rfl k) ?_
          show own_Gl _ _ _ _ (T108.setTop (mkF m 88 #[.val (.int p0), .val (.int p1), .val (.int p2), .val (.int p3), .val (.int p4), .val (.int (3 : Int32)), .val (.ref b104), .val (.int (0 : Int32)), .val (.int p1)] [(.int p1), (.int p1), (.int (0 : Int32)), (.int (0 : Int32)), (.int (3 : Int32))]))
          obtain ⟨_, _, ⟨T111, L111, kk111, nn111⟩, -, X111, ⟨Lc111, hQ111, l111, y111, z111⟩, st111⟩ := Jvm.LawKit.callS X108 hx (y := (⟨"com/example/sixfold/sixfold/rows/RowsFewestPinLaw", "fits", "(IIIII)Z"⟩ : MethodName)) hown (mvT hZ (hw _ (List.mem_of_getElem? (i := 5) rfl))) (mvT hZ (hw _ (List.mem_of_getElem? (i := 6) rfl))) (mvT hZ (hw _ (List.mem_of_getElem? (i := 7) rfl))) (mvT hZ (hw _ (List.mem_of_getElem? (i := 8) rfl))) (by decide) (backOf (W := 0) (rm2 l Z a0 hw [] (3 : Int32) (0 : Int32) (0 : Int32) p1 p1 h107 n0 Z107 ) hZ (hw _ (List.mem_of_getElem? (i := 8) rfl)) (hw _ (List.mem_of_getElem? (i := 7) rfl)) (by decide) (by decide)) (g := (mkF m 88 #[.val (.int p0), .val (.int p1), .val (.int p2), .val (.int p3), .val (.int p4), .val (.int (3 : Int32)), .val (.ref b104), .val (.int (0 : Int32)), .val (.int p1)] [(.int p1), (.int p1), (.int (0 : Int32)), (.int (0 : Int32)), (.int (3 : Int32))])) rfl (by rw [hml]; rfl) (argsL := [(.int (3 : Int32)), (.int (0 : Int32)), (.int (0 : Int32)), (.int p1), (.int p1)]) (rest := []) (lenOf pd_1 rfl) rfl (by show 2 * 0 + _ ≤ _; exact Nat.le_of_eq rfl) (hb hby at_88) (fun _ _ => ⟨rfl, hq108, (by decide : 1 + 0 ≤ _), (by decide : 3 + 0 ≤ _)⟩)
          dsimp only [Pt.U, Pt.locs, Pt.cells, Pt.slots] at X111 l111 y111 z111 st111 hQ111
          subst l111 y111 z111
          obtain ⟨N111q, rfl, hq111⟩ := hQ111
          have N111 := Fr.app N108 N111q
          refine own_go (fun t k => st111 _ k) ?_
          show own_Gl _ _ _ _ (T111.setTop (mkF m 91 #[.val (.int p0), .val (.int p1), .val (.int p2), .val (.int p3), .val (.int p4), .val (.int (3 : Int32)), .val (.ref b104), .val (.int (0 : Int32)), .val (.int p1)] [(.int (f2 (3 : Int32) (0 : Int32) (0 : Int32) p1 p1))]))
          by_cases hc91_112 : (f2 (3 : Int32) (0 : Int32) (0 : Int32) p1 p1) = (0 : Int32)
          · refine own_go (fun t k => XS.ifYes X111.here hx rfl (pc0 := 91) (pc' := 141) rfl (hb hby at_91) rfl ((if0 _ _).trans (teq hc91_112).1) (by decide) (by decide) k) ?_
            show own_Gl _ _ _ _ (T111.setTop (mkF m 141 #[.val (.int p0), .val (.int p1), .val (.int p2), .val (.int p3), .val (.int p4), .val (.int (3 : Int32)), .val (.ref b104), .val (.int (0 : Int32)), .val (.int p1)] []))
            refine own_go (fun t k => XS.iconst X111.here hx rfl (hb hby at_141) k) ?_
            show own_Gl _ _ _ _ (T111.setTop (mkF m 142 #[.val (.int p0), .val (.int p1), .val (.int p2), .val (.int p3), .val (.int p4), .val (.int (3 : Int32)), .val (.ref b104), .val (.int (0 : Int32)), .val (.int p1)] [(.int (0 : Int32))]))
            obtain ⟨fs, hr, hrun, hended, hW, hsame⟩ := X111.leave (v := some (.int (0 : Int32))) (fun h => by rw [Bd.returns] at h; cases h)
            refine own_fin (retN X111 hx (t := .boolean) Bd.returns (by simp) (hb hby at_142) hr) hrun hended ⟨_, _, rfl, ?_, ⟨_, rfl⟩, hW, hsame.mono (by decide) (by decide)⟩
            show Q0 Z p0 p1 p2 p3 p4 h0 n0 _ T111.heap _
            rw [hq111]
            exact ⟨N111, by rw [f0, if_neg hc3_64, if_neg hc3_78, if_pos hc3_103, if_pos hc57_109, if_pos hc91_112]⟩
          · refine own_go (fun t k => XS.ifNo X111.here hx rfl (hb hby at_91) rfl ((if0 _ _).trans (feq hc91_112).1) k) ?_
            show own_Gl _ _ _ _ (T111.setTop (mkF m 94 #[.val (.int p0), .val (.int p1), .val (.int p2), .val (.int p3), .val (.int p4), .val (.int (3 : Int32)), .val (.ref b104), .val (.int (0 : Int32)), .val (.int p1)] []))
            refine own_go (fun t k => XS.iload X111.here hx rfl (hb hby at_94) rfl k) ?_
            show own_Gl _ _ _ _ (T111.setTop (mkF m 96 #[.val (.int p0), .val (.int p1), .val (.int p2), .val (.int p3), .val (.int p4), .val (.int (3 : Int32)), .val (.ref b104), .val (.int (0 : Int32)), .val (.int p1)] [(.int (3 : Int32))]))
            refine own_go (fun t k => XS.iload X111.here hx rfl (hb hby at_96) rfl k) ?_
            show own_Gl _ _ _ _ (T111.setTop (mkF m 98 #[.val (.int p0), .val (.int p1), .val (.int p2), .val (.int p3), .val (.int p4), .val (.int (3 : Int32)), .val (.ref b104), .val (.int (0 : Int32)), .val (.int p1)] [(.int (0 : Int32)), (.int (3 : Int32))]))
            refine own_go (fun t k => XS.iconst X111.here hx rfl (hb hby at_98) k) ?_
            show own_Gl _ _ _ _ (T111.setTop (mkF m 99 #[.val (.int p0), .val (.int p1), .val (.int p2), .val (.int p3), .val (.int p4), .val (.int (3 : Int32)), .val (.ref b104), .val (.int (0 : Int32)), .val (.int p1)] [(.int (1 : Int32)), (.int (0 : Int32)), (.int (3 : Int32))]))
            refine own_go (fun t k => XS.iloadN X111.here hx rfl (hb hby at_99) rfl k) ?_
            show own_Gl _ _ _ _ (T111.setTop (mkF m 100 #[.val (.int p0), .val (.int p1), .val (.int p2), .val (.int p3), .val (.int p4), .val (.int (3 : Int32)), .val (.ref b104), .val (.int (0 : Int32)), .val (.int p1)] [(.int p2), (.int (1 : Int32)), (.int (0 : Int32)), (.int (3 : Int32))]))
            refine own_go (fun t k => XS.iload X111.here hx rfl (hb hby at_100) rfl k) ?_
            show own_Gl _ _ _ _ (T111.setTop (mkF m 102 #[.val (.int p0), .val (.int p1), .val (.int p2), .val (.int p3), .val (.int p4), .val (.int (3 : Int32)), .val (.ref b104), .val (.int (0 : Int32)), .val (.int p1)] [(.int p1), (.int p2), (.int (1 : Int32)), (.int (0 : Int32)), (.int (3 : Int32))]))
            obtain ⟨_, _, ⟨T113, L113, kk113, nn113⟩, -, X113, ⟨Lc113, hQ113, l113, y113, z113⟩, st113⟩ := Jvm.LawKit.callS X111 hx (y := (⟨"com/example/sixfold/sixfold/rows/RowsFewestPinLaw", "fits", "(IIIII)Z"⟩ : MethodName)) hown (mvT hZ (hw _ (List.mem_of_getElem? (i := 5) rfl))) (mvT hZ (hw _ (List.mem_of_getElem? (i := 6) rfl))) (mvT hZ (hw _ (List.mem_of_getElem? (i := 7) rfl))) (mvT hZ (hw _ (List.mem_of_getElem? (i := 8) rfl))) (by decide) (backOf (W := 0) (rm2 l Z a0 hw [] (3 : Int32) (0 : Int32) (1 : Int32) p2 p1 h107 n0 Z107 ) hZ (hw _ (List.mem_of_getElem? (i := 8) rfl)) (hw _ (List.mem_of_getElem? (i := 7) rfl)) (by decide) (by decide)) (g := (mkF m 102 #[.val (.int p0), .val (.int p1), .val (.int p2), .val (.int p3), .val (.int p4), .val (.int (3 : Int32)), .val (.ref b104), .val (.int (0 : Int32)), .val (.int p1)] [(.int p1), (.int p2), (.int (1 : Int32)), (.int (0 : Int32)), (.int (3 : Int32))])) rfl (by rw [hml]; rfl) (argsL := [(.int (3 : Int32)), (.int (0 : Int32)), (.int (1 : Int32)), (.int p2), (.int p1)]) (rest := []) (lenOf pd_1 rfl) rfl (by show 2 * 0 + _ ≤ _; exact Nat.le_of_eq rfl) (hb hby at_102) (fun _ _ => ⟨rfl, hq111, (by decide : 1 + 0 ≤ _), (by decide : 3 + 0 ≤ _)⟩)
            dsimp only [Pt.U, Pt.locs, Pt.cells, Pt.slots] at X113 l113 y113 z113 st113 hQ113
            subst l113 y113 z113
            obtain ⟨N113q, rfl, hq113⟩ := hQ113
            have N113 := Fr.app N111 N113q
            refine own_go (fun t k => st113 _ k) ?_
            show own_Gl _ _ _ _ (T113.setTop (mkF m 105 #[.val (.int p0), .val (.int p1), .val (.int p2), .val (.int p3), .val (.int p4), .val (.int (3 : Int32)), .val (.ref b104), .val (.int (0 : Int32)), .val (.int p1)] [(.int (f2 (3 : Int32) (0 : Int32) (1 : Int32) p2 p1))]))
            by_cases hc105_114 : (f2 (3 : Int32) (0 : Int32) (1 : Int32) p2 p1) = (0 : Int32)
            · refine own_go (fun t k => XS.ifYes X113.here hx rfl (pc0 := 105) (pc' := 141) rfl (hb hby at_105) rfl ((if0 _ _).trans (teq hc105_114).1) (by decide) (by decide) k) ?_
              show own_Gl _ _ _ _ (T113.setTop (mkF m 141 #[.val (.int p0), .val (.int p1), .val (.int p2), .val (.int p3), .val (.int p4), .val (.int (3 : Int32)), .val (.ref b104), .val (.int (0 : Int32)), .val (.int p1)] []))
              refine own_go (fun t k => XS.iconst X113.here hx rfl (hb hby at_141) k) ?_
              show own_Gl _ _ _ _ (T113.setTop (mkF m 142 #[.val (.int p0), .val (.int p1), .val (.int p2), .val (.int p3), .val (.int p4), .val (.int (3 : Int32)), .val (.ref b104), .val (.int (0 : Int32)), .val (.int p1)] [(.int (0 : Int32))]))
              obtain ⟨fs, hr, hrun, hended, hW, hsame⟩ := X113.leave (v := some (.int (0 : Int32))) (fun h => by rw [Bd.returns] at h; cases h)
              refine own_fin (retN X113 hx (t := .boolean) Bd.returns (by simp) (hb hby at_142) hr) hrun hended ⟨_, _, rfl, ?_, ⟨_, rfl⟩, hW, hsame.mono (by decide) (by decide)⟩
              show Q0 Z p0 p1 p2 p3 p4 h0 n0 _ T113.heap _
              rw [hq113]
              exact ⟨N113, by rw [f0, if_neg hc3_64, if_neg hc3_78, if_pos hc3_103, if_pos hc57_109, if_neg hc91_112, if_pos hc105_114]⟩
            · refine own_go (fun t k => XS.ifNo X113.here hx rfl (hb hby at_105) rfl ((if0 _ _).trans (feq hc105_114).1) k) ?_
              show own_Gl _ _ _ _ (T113.setTop (mkF m 108 #[.val (.int p0), .val (.int p1), .val (.int p2), .val (.int p3), .val (.int p4), .val (.int (3 : Int32)), .val (.ref b104), .val (.int (0 : Int32)), .val (.int p1)] []))
              refine own_go (fun t k => XS.iload X113.here hx rfl (hb hby at_108) rfl k) ?_
              show own_Gl _ _ _ _ (T113.setTop (mkF m 110 #[.val (.int p0), .val (.int p1), .val (.int p2), .val (.int p3), .val (.int p4), .val (.int (3 : Int32)), .val (.ref b104), .val (.int (0 : Int32)), .val (.int p1)] [(.int (3 : Int32))]))
              refine own_go (fun t k => XS.iload X113.here hx rfl (hb hby at_110) rfl k) ?_
              show own_Gl _ _ _ _ (T113.setTop (mkF m 112 #[.val (.int p0), .val (.int p1), .val (.int p2), .val (.int p3), .val (.int p4), .val (.int (3 : Int32)), .val (.ref b104), .val (.int (0 : Int32)), .val (.int p1)] [(.int (0 : Int32)), (.int (3 : Int32))]))
              refine own_go (fun t k => XS.iconst X113.here hx rfl (hb hby at_112) k) ?_
              show own_Gl _ _ _ _ (T113.setTop (mkF m 113 #[.val (.int p0), .val (.int p1), .val (.int p2), .val (.int p3), .val (.int p4), .val (.int (3 : Int32)), .val (.ref b104), .val (.int (0 : Int32)), .val (.int p1)] [(.int (2 : Int32)), (.int (0 : Int32)), (.int (3 : Int32))]))
              refine own_go (fun t k => XS.iloadN X113.here hx rfl (hb hby at_113) rfl k) ?_
              show own_Gl _ _ _ _ (T113.setTop (mkF m 114 #[.val (.int p0), .val (.int p1), .val (.int p2), .val (.int p3), .val (.int p4), .val (.int (3 : Int32)), .val (.ref b104), .val (.int (0 : Int32)), .val (.int p1)] [(.int p3), (.int (2 : Int32)), (.int (0 : Int32)), (.int (3 : Int32))]))
              refine own_go (fun t k => XS.iload X113.here hx rfl (hb hby at_114) rfl k) ?_
              show own_Gl _ _ _ _ (T113.setTop (mkF m 116 #[.val (.int p0), .val (.int p1), .val (.int p2), .val (.int p3), .val (.int p4), .val (.int (3 : Int32)), .val (.ref b104), .val (.int (0 : Int32)), .val (.int p1)] [(.int p1), (.int p3), (.int (2 : Int32)), (.int (0 : Int32)), (.int (3 : Int32))]))
              obtain ⟨_, _, ⟨T115, L115, kk115, nn115⟩, -, X115, ⟨Lc115, hQ115, l115, y115, z115⟩, st115⟩ := Jvm.LawKit.callS X113 hx (y := (⟨"com/example/sixfold/sixfold/rows/RowsFewestPinLaw", "fits", "(IIIII)Z"⟩ : MethodName)) hown (mvT hZ (hw _ (List.mem_of_getElem? (i := 5) rfl))) (mvT hZ (hw _ (List.mem_of_getElem? (i := 6) rfl))) (mvT hZ (hw _ (List.mem_of_getElem? (i := 7) rfl))) (mvT hZ (hw _ (List.mem_of_getElem? (i := 8) rfl))) (by decide) (backOf (W := 0) (rm2 l Z a0 hw [] (3 : Int32) (0 : Int32) (2 : Int32) p3 p1 h107 n0 Z107 ) hZ (hw _ (List.mem_of_getElem? (i := 8) rfl)) (hw _ (List.mem_of_getElem? (i := 7) rfl)) (by decide) (by decide)) (g := (mkF m 116 #[.val (.int p0), .val (.int p1), .val (.int p2), .val (.int p3), .val (.int p4), .val (.int (3 : Int32)), .val (.ref b104), .val (.int (0 : Int32)), .val (.int p1)] [(.int p1), (.int p3), (.int (2 : Int32)), (.int (0 : Int32)), (.int (3 : Int32))])) rfl (by rw [hml]; rfl) (argsL := [(.int (3 : Int32)), (.int (0 : Int32)), (.int (2 : Int32)), (.int p3), (.int p1)]) (rest := []) (lenOf pd_1 rfl) rfl (by show 2 * 0 + _ ≤ _; exact Nat.le_of_eq rfl) (hb hby at_116) (fun _ _ => ⟨rfl, hq113, (by decide : 1 + 0 ≤ _), (by decide : 3 + 0 ≤ _)⟩)
              dsimp only [Pt.U, Pt.locs, Pt.cells, Pt.slots] at X115 l115 y115 z115 st115 hQ115
              subst l115 y115 z115
              obtain ⟨N115q, rfl, hq115⟩ := hQ115
              have N115 := Fr.app N113 N115q
              refine own_go (fun t k => st115 _ k) ?_
              show own_Gl _ _ _ _ (T115.setTop (mkF m 119 #[.val (.int p0), .val (.int p1), .val (.int p2), .val (.int p3), .val (.int p4), .val (.int (3 : Int32)), .val (.ref b104), .val (.int (0 : Int32)), .val (.int p1)] [(.int (f2 (3 : Int32) (0 : Int32) (2 : Int32) p3 p1))]))
              by_cases hc119_116 : (f2 (3 : Int32) (0 : Int32) (2 : Int32) p3 p1) = (0 : Int32)
              · refine own_go (fun t k => XS.ifYes X115.here hx rfl (pc0 := 119) (pc' := 141) rfl (hb hby at_119) rfl ((if0 _ _).trans (teq hc119_116).1) (by decide) (by decide) k) ?_
                show own_Gl _ _ _ _ (T115.setTop (mkF m 141 #[.val (.int p0), .val (.int p1), .val (.int p2), .val (.int p3), .val (.int p4), .val (.int (3 : Int32)), .val (.ref b104), .val (.int (0 : Int32)), .val (.int p1)] []))
                refine own_go (fun t k => XS.iconst X115.here hx rfl (hb hby at_141) k) ?_
                show own_Gl _ _ _ _ (T115.setTop (mkF m 142 #[.val (.int p0), .val (.int p1), .val (.int p2), .val (.int p3), .val (.int p4), .val (.int (3 : Int32)), .val (.ref b104), .val (.int (0 : Int32)), .val (.int p1)] [(.int (0 : Int32))]))
                obtain ⟨fs, hr, hrun, hended, hW, hsame⟩ := X115.leave (v := some (.int (0 : Int32))) (fun h => by rw [Bd.returns] at h; cases h)
                refine own_fin (retN X115 hx (t := .boolean) Bd.returns (by simp) (hb hby at_142) hr) hrun hended ⟨_, _, rfl, ?_, ⟨_, rfl⟩, hW, hsame.mono (by decide) (by decide)⟩
                show Q0 Z p0 p1 p2 p3 p4 h0 n0 _ T115.heap _
                rw [hq115]
                exact ⟨N115, by rw [f0, if_neg hc3_64, if_neg hc3_78, if_pos hc3_103, if_pos hc57_109, if_neg hc91_112, if_neg hc105_114, if_pos hc119_116]⟩
              · refine own_go (fun t k => XS.ifNo X115.here hx rfl (hb hby at_119) rfl ((if0 _ _).trans (feq hc119_116).1) k) ?_
                show own_Gl _ _ _ _ (T115.setTop (mkF m 122 #[.val (.int p0), .val (.int p1), .val (.int p2), .val (.int p3), .val (.int p4), .val (.int (3 : Int32)), .val (.ref b104), .val (.int (0 : Int32)), .val (.int p1)] []))
                refine own_go (fun t k => XS.iload X115.here hx rfl (hb hby at_122) rfl k) ?_
                show own_Gl _ _ _ _ (T115.setTop (mkF m 124 #[.val (.int p0), .val (.int p1), .val (.int p2), .val (.int p3), .val (.int p4), .val (.int (3 : Int32)), .val (.ref b104), .val (.int (0 : Int32)), .val (.int p1)] [(.int (3 : Int32))]))
                refine own_go (fun t k => XS.iload X115.here hx rfl (hb hby at_124) rfl k) ?_
                show own_Gl _ _ _ _ (T115.setTop (mkF m 126 #[.val (.int p0), .val (.int p1), .val (.int p2), .val (.int p3), .val (.int p4), .val (.int (3 : Int32)), .val (.ref b104), .val (.int (0 : Int32)), .val (.int p1)] [(.int (0 : Int32)), (.int (3 : Int32))]))
                refine own_go (fun t k => XS.iconst X115.here hx rfl (hb hby at_126) k) ?_
                show own_Gl _ _ _ _ (T115.setTop (mkF m 127 #[.val (.int p0), .val (.int p1), .val (.int p2), .val (.int p3), .val (.int p4), .val (.int (3 : Int32)), .val (.ref b104), .val (.int (0 : Int32)), .val (.int p1)] [(.int (3 : Int32)), (.int (0 : Int32)), (.int (3 : Int32))]))
                refine own_go (fun t k => XS.iload X115.here hx rfl (hb hby at_127) rfl k) ?_
                show own_Gl _ _ _ _ (T115.setTop (mkF m 129 #[.val (.int p0), .val (.int p1), .val (.int p2), .val (.int p3), .val (.int p4), .val (.int (3 : Int32)), .val (.ref b104), .val (.int (0 : Int32)), .val (.int p1)] [(.int p4), (.int (3 : Int32)), (.int (0 : Int32)), (.int (3 : Int32))]))
                refine own_go (fun t k => XS.iload X115.here hx rfl (hb hby at_129) rfl k) ?_
                show own_Gl _ _ _ _ (T115.setTop (mkF m 131 #[.val (.int p0), .val (.int p1), .val (.int p2), .val (.int p3), .val (.int p4), .val (.int (3 : Int32)), .val (.ref b104), .val (.int (0 : Int32)), .val (.int p1)] [(.int p1), (.int p4), (.int (3 : Int32)), (.int (0 : Int32)), (.int (3 : Int32))]))
                obtain ⟨_, _, ⟨T117, L117, kk117, nn117⟩, -, X117, ⟨Lc117, hQ117, l117, y117, z117⟩, st117⟩ := Jvm.LawKit.callS X115 hx (y := (⟨"com/example/sixfold/sixfold/rows/RowsFewestPinLaw", "fits", "(IIIII)Z"⟩ : MethodName)) hown (mvT hZ (hw _ (List.mem_of_getElem? (i := 5) rfl))) (mvT hZ (hw _ (List.mem_of_getElem? (i := 6) rfl))) (mvT hZ (hw _ (List.mem_of_getElem? (i := 7) rfl))) (mvT hZ (hw _ (List.mem_of_getElem? (i := 8) rfl))) (by decide) (backOf (W := 0) (rm2 l Z a0 hw [] (3 : Int32) (0 : Int32) (3 : Int32) p4 p1 h107 n0 Z107 ) hZ (hw _ (List.mem_of_getElem? (i := 8) rfl)) (hw _ (List.mem_of_getElem? (i := 7) rfl)) (by decide) (by decide)) (g := (mkF m 131 #[.val (.int p0), .val (.int p1), .val (.int p2), .val (.int p3), .val (.int p4), .val (.int (3 : Int32)), .val (.ref b104), .val (.int (0 : Int32)), .val (.int p1)] [(.int p1), (.int p4), (.int (3 : Int32)), (.int (0 : Int32)), (.int (3 : Int32))])) rfl (by rw [hml]; rfl) (argsL := [(.int (3 : Int32)), (.int (0 : Int32)), (.int (3 : Int32)), (.int p4), (.int p1)]) (rest := []) (lenOf pd_1 rfl) rfl (by show 2 * 0 + _ ≤ _; exact Nat.le_of_eq rfl) (hb hby at_131) (fun _ _ => ⟨rfl, hq115, (by decide : 1 + 0 ≤ _), (by decide : 3 + 0 ≤ _)⟩)
                dsimp only [Pt.U, Pt.locs, Pt.cells, Pt.slots] at X117 l117 y117 z117 st117 hQ117
                subst l117 y117 z117
                obtain ⟨N117q, rfl, hq117⟩ := hQ117
                have N117 := Fr.app N115 N117q
                refine own_go (fun t k => st117 _ k) ?_
                show own_Gl _ _ _ _ (T117.setTop (mkF m 134 #[.val (.int p0), .val (.int p1), .val (.int p2), .val (.int p3), .val (.int p4), .val (.int (3 : Int32)), .val (.ref b104), .val (.int (0 : Int32)), .val (.int p1)] [(.int (f2 (3 : Int32) (0 : Int32) (3 : Int32) p4 p1))]))
                by_cases hc134_118 : (f2 (3 : Int32) (0 : Int32) (3 : Int32) p4 p1) = (0 : Int32)
                · refine own_go (fun t k => XS.ifYes X117.here hx rfl (pc0 := 134) (pc' := 141) rfl (hb hby at_134) rfl ((if0 _ _).trans (teq hc134_118).1) (by decide) (by decide) k) ?_
                  show own_Gl _ _ _ _ (T117.setTop (mkF m 141 #[.val (.int p0), .val (.int p1), .val (.int p2), .val (.int p3), .val (.int p4), .val (.int (3 : Int32)), .val (.ref b104), .val (.int (0 : Int32)), .val (.int p1)] []))
                  refine own_go (fun t k => XS.iconst X117.here hx rfl (hb hby at_141) k) ?_
                  show own_Gl _ _ _ _ (T117.setTop (mkF m 142 #[.val (.int p0), .val (.int p1), .val (.int p2), .val (.int p3), .val (.int p4), .val (.int (3 : Int32)), .val (.ref b104), .val (.int (0 : Int32)), .val (.int p1)] [(.int (0 : Int32))]))
                  obtain ⟨fs, hr, hrun, hended, hW, hsame⟩ := X117.leave (v := some (.int (0 : Int32))) (fun h => by rw [Bd.returns] at h; cases h)
                  refine own_fin (retN X117 hx (t := .boolean) Bd.returns (by simp) (hb hby at_142) hr) hrun hended ⟨_, _, rfl, ?_, ⟨_, rfl⟩, hW, hsame.mono (by decide) (by decide)⟩
                  show Q0 Z p0 p1 p2 p3 p4 h0 n0 _ T117.heap _
                  rw [hq117]
                  exact ⟨N117, by rw [f0, if_neg hc3_64, if_neg hc3_78, if_pos hc3_103, if_pos hc57_109, if_neg hc91_112, if_neg hc105_114, if_neg hc119_116, if_pos hc134_118]⟩
                · refine own_go (fun t k => XS.ifNo X117.here hx rfl (hb hby at_134) rfl ((if0 _ _).trans (feq hc134_118).1) k) ?_
                  show own_Gl _ _ _ _ (T117.setTop (mkF m 137 #[.val (.int p0), .val (.int p1), .val (.int p2), .val (.int p3), .val (.int p4), .val (.int (3 : Int32)), .val (.ref b104), .val (.int (0 : Int32)), .val (.int p1)] []))
                  refine own_go (fun t k => XS.iconst X117.here hx rfl (hb hby at_137) k) ?_
                  show own_Gl _ _ _ _ (T117.setTop (mkF m 138 #[.val (.int p0), .val (.int p1), .val (.int p2), .val (.int p3), .val (.int p4), .val (.int (3 : Int32)), .val (.ref b104), .val (.int (0 : Int32)), .val (.int p1)] [(.int (1 : Int32))]))
                  refine own_go (fun t k => XS.goto X117.here hx rfl (pc0 := 138) (pc' := 142) rfl (hb hby at_138) (by decide) (by decide) k) ?_
                  show own_Gl _ _ _ _ (T117.setTop (mkF m 142 #[.val (.int p0), .val (.int p1), .val (.int p2), .val (.int p3), .val (.int p4), .val (.int (3 : Int32)), .val (.ref b104), .val (.int (0 : Int32)), .val (.int p1)] [(.int (1 : Int32))]))
                  obtain ⟨fs, hr, hrun, hended, hW, hsame⟩ := X117.leave (v := some (.int (1 : Int32))) (fun h => by rw [Bd.returns] at h; cases h)
                  refine own_fin (retN X117 hx (t := .boolean) Bd.returns (by simp) (hb hby at_142) hr) hrun hended ⟨_, _, rfl, ?_, ⟨_, rfl⟩, hW, hsame.mono (by decide) (by decide)⟩
                  show Q0 Z p0 p1 p2 p3 p4 h0 n0 _ T117.heap _
                  rw [hq117]
                  exact ⟨N117, by rw [f0, if_neg hc3_64, if_neg hc3_78, if_pos hc3_103, if_pos hc57_109, if_neg hc91_112, if_neg hc105_114, if_neg hc119_116, if_neg hc134_118]⟩
        · by_cases hc57_119 : (f1_3 p1 p2 p3) = (1 : Int32)
          · rw [hc57_119]
            show own_Gl _ _ _ _ (T108.setTop (mkF m 57 #[.val (.int p0), .val (.int p1), .val (.int p2), .val (.int p3), .val (.int p4), .val (.int (3 : Int32)), .val (.ref b104), .unset, .unset] [(.int (1 : Int32))]))
            refine own_go (fun t k => XS.istore X108.here hx rfl (hb hby at_57) rfl (l' := #[.val (.int p0), .val (.int p1), .val (.int p2), .val (.int p3), .val (.int p4), .val (.int (3 : Int32)), .val (.ref b104), .val (.int (1 : Int32)), .unset]) rfl k) ?_
            show own_Gl _ _ _ _ (T108.setTop (mkF m 59 #[.val (.int p0), .val (.int p1), .val (.int p2), .val (.int p3), .val (.int p4), .val (.int (3 : Int32)), .val (.ref b104), .val (.int (1 : Int32)), .unset] []))
            refine own_go (fun t k => XS.iload X108.here hx rfl (hb hby at_59) rfl k) ?_
            show own_Gl _ _ _ _ (T108.setTop (mkF m 61 #[.val (.int p0), .val (.int p1), .val (.int p2), .val (.int p3), .val (.int p4), .val (.int (3 : Int32)), .val (.ref b104), .val (.int (1 : Int32)), .unset] [(.int (1 : Int32))]))
            refine own_go (fun t k => XS.ifNo X108.here hx rfl (hb hby at_61) rfl ((if0 _ _).trans (flt (by decide : ¬ ((1 : Int32) < (0 : Int32)))).1) k) ?_
            show own_Gl _ _ _ _ (T108.setTop (mkF m 64 #[.val (.int p0), .val (.int p1), .val (.int p2), .val (.int p3), .val (.int p4), .val (.int (3 : Int32)), .val (.ref b104), .val (.int (1 : Int32)), .unset] []))
            refine own_go (fun t k => XS.iload X108.here hx rfl (hb hby at_64) rfl k) ?_
            show own_Gl _ _ _ _ (T108.setTop (mkF m 66 #[.val (.int p0), .val (.int p1), .val (.int p2), .val (.int p3), .val (.int p4), .val (.int (3 : Int32)), .val (.ref b104), .val (.int (1 : Int32)), .unset] [(.int (1 : Int32))]))
            refine own_go (fun t k => XS.iload X108.here hx rfl (hb hby at_66) rfl k) ?_
            show own_Gl _ _ _ _ (T108.setTop (mkF m 68 #[.val (.int p0), .val (.int p1), .val (.int p2), .val (.int p3), .val (.int p4), .val (.int (3 : Int32)), .val (.ref b104), .val (.int (1 : Int32)), .unset] [(.int (3 : Int32)), (.int (1 : Int32))]))
            refine own_go (fun t k => XS.icmpYes X108.here hx rfl (pc0 := 68) (pc' := 73) rfl (hb hby at_68) rfl (tlt (by decide : (1 : Int32) < (3 : Int32))).1 (by decide) (by decide) k) ?_
            show own_Gl _ _ _ _ (T108.setTop (mkF m 73 #[.val (.int p0), .val (.int p1), .val (.int p2), .val (.int p3), .val (.int p4), .val (.int (3 : Int32)), .val (.ref b104), .val (.int (1 : Int32)), .unset] []))
            refine own_go (fun t k => XS.aload X108.here hx rfl (hb hby at_73) rfl rfl k) ?_
            show own_Gl _ _ _ _ (T108.setTop (mkF m 75 #[.val (.int p0), .val (.int p1), .val (.int p2), .val (.int p3), .val (.int p4), .val (.int (3 : Int32)), .val (.ref b104), .val (.int (1 : Int32)), .unset] [(.ref b104)]))
            refine own_go (fun t k => XS.iload X108.here hx rfl (hb hby at_75) rfl k) ?_
            show own_Gl _ _ _ _ (T108.setTop (mkF m 77 #[.val (.int p0), .val (.int p1), .val (.int p2), .val (.int p3), .val (.int p4), .val (.int (3 : Int32)), .val (.ref b104), .val (.int (1 : Int32)), .unset] [(.int (1 : Int32)), (.ref b104)]))
            obtain ⟨cl120, Ar120, qk120, S120, M120, H120, G120⟩ := id V107
            have hin120 : ¬ ((1 : Int32) < 0 ∨ cl120.slots.size ≤ ((1 : Int32)).toNatClampNeg) := inb_of S120 ⟨by decide, by decide⟩
            have hat120 : cl120.slots[((1 : Int32)).toNatClampNeg]? = some (.int p2) := H120.at hin120 rfl
            refine own_go (fun t k => X108.iaload hx (j := (1 : Int32)) (v := (.int p2)) (by rw [hq108]; exact Ar120.1) (State.isArrayOf_alike hZ.alike Ar120.2.1) Ar120.2.2 hin120 hat120 (g := (mkF m 77 #[.val (.int p0), .val (.int p1), .val (.int p2), .val (.int p3), .val (.int p4), .val (.int (3 : Int32)), .val (.ref b104), .val (.int (1 : Int32)), .unset] [(.int (1 : Int32)), (.ref b104)])) rfl rfl (hb hby at_77) _ k) ?_
            show own_Gl _ _ _ _ (T108.setTop (mkF m 78 #[.val (.int p0), .val (.int p1), .val (.int p2), .val (.int p3), .val (.int p4), .val (.int (3 : Int32)), .val (.ref b104), .val (.int (1 : Int32)), .unset] [(.int p2)]))
            refine own_go (fun t k => XS.istore X108.here hx rfl (hb hby at_78) rfl (l' := #[.val (.int p0), .val (.int p1), .val (.int p2), .val (.int p3), .val (.int p4), .val (.int (3 : Int32)), .val (.ref b104), .val (.int (1 : Int32)), .val (.int p2)]) rfl k) ?_
            show own_Gl _ _ _ _ (T108.setTop (mkF m 80 #[.val (.int p0), .val (.int p1), .val (.int p2), .val (.int p3), .val (.int p4), .val (.int (3 : Int32)), .val (.ref b104), .val (.int (1 : Int32)), .val (.int p2)] []))
            refine own_go (fun t k => XS.iload X108.here hx rfl (hb hby at_80) rfl k) ?_
            show own_Gl _ _ _ _ (T108.setTop (mkF m 82 #[.val (.int p0), .val (.int p1), .val (.int p2), .val (.int p3), .val (.int p4), .val (.int (3 : Int32)), .val (.ref b104), .val (.int (1 : Int32)), .val (.int p2)] [(.int (3 : Int32))]))
            refine own_go (fun t k => XS.iload X108.here hx rfl (hb hby at_82) rfl k) ?_
            show own_Gl _ _ _ _ (T108.setTop (mkF m 84 #[.val (.int p0), .val (.int p1), .val (.int p2), .val (.int p3), .val (.int p4), .val (.int (3 : Int32)), .val (.ref b104), .val (.int (1 : Int32)), .val (.int p2)] [(.int (1 : Int32)), (.int (3 : Int32))]))
            refine own_go (fun t k => XS.iconst X108.here hx rfl (hb hby at_84) k) ?_
            show own_Gl _ _ _ _ (T108.setTop (mkF m 85 #[.val (.int p0), .val (.int p1), .val (.int p2), .val (.int p3), .val (.int p4), .val (.int (3 : Int32)), .val (.ref b104), .val (.int (1 : Int32)), .val (.int p2)] [(.int (0 : Int32)), (.int (1 : Int32)), (.int (3 : Int32))]))
            refine own_go (fun t k => XS.iloadN X108.here hx rfl (hb hby at_85) rfl k) ?_
            show own_Gl _ _ _ _ (T108.setTop (mkF m 86 #[.val (.int p0), .val (.int p1), .val (.int p2), .val (.int p3), .val (.int p4), .val (.int (3 : Int32)), .val (.ref b104), .val (.int (1 : Int32)), .val (.int p2)] [(.int p1), (.int (0 : Int32)), (.int (1 : Int32)), (.int (3 : Int32))]))
            refine own_go (fun t k => XS.iload X108.here hx rfl (hb hby at_86) rfl k) ?_
            show own_Gl _ _ _ _ (T108.setTop (mkF m 88 #[.val (.int p0), .val (.int p1), .val (.int p2), .val (.int p3), .val (.int p4), .val (.int (3 : Int32)), .val (.ref b104), .val (.int (1 : Int32)), .val (.int p2)] [(.int p2), (.int p1), (.int (0 : Int32)), (.int (1 : Int32)), (.int (3 : Int32))]))
            obtain ⟨_, _, ⟨T121, L121, kk121, nn121⟩, -, X121, ⟨Lc121, hQ121, l121, y121, z121⟩, st121⟩ := Jvm.LawKit.callS X108 hx (y := (⟨"com/example/sixfold/sixfold/rows/RowsFewestPinLaw", "fits", "(IIIII)Z"⟩ : MethodName)) hown (mvT hZ (hw _ (List.mem_of_getElem? (i := 5) rfl))) (mvT hZ (hw _ (List.mem_of_getElem? (i := 6) rfl))) (mvT hZ (hw _ (List.mem_of_getElem? (i := 7) rfl))) (mvT hZ (hw _ (List.mem_of_getElem? (i := 8) rfl))) (by decide) (backOf (W := 0) (rm2 l Z a0 hw [] (3 : Int32) (1 : Int32) (0 : Int32) p1 p2 h107 n0 Z107 ) hZ (hw _ (List.mem_of_getElem? (i := 8) rfl)) (hw _ (List.mem_of_getElem? (i := 7) rfl)) (by decide) (by decide)) (g := (mkF m 88 #[.val (.int p0), .val (.int p1), .val (.int p2), .val (.int p3), .val (.int p4), .val (.int (3 : Int32)), .val (.ref b104), .val (.int (1 : Int32)), .val (.int p2)] [(.int p2), (.int p1), (.int (0 : Int32)), (.int (1 : Int32)), (.int (3 : Int32))])) rfl (by rw [hml]; rfl) (argsL := [(.int (3 : Int32)), (.int (1 : Int32)), (.int (0 : Int32)), (.int p1), (.int p2)]) (rest := []) (lenOf pd_1 rfl) rfl (by show 2 * 0 + _ ≤ _; exact Nat.le_of_eq rfl) (hb hby at_88) (fun _ _ => ⟨rfl, hq108, (by decide : 1 + 0 ≤ _), (by decide : 3 + 0 ≤ _)⟩)
            dsimp only [Pt.U, Pt.locs, Pt.cells, Pt.slots] at X121 l121 y121 z121 st121 hQ121
            subst l121 y121 z121
            obtain ⟨N121q, rfl, hq121⟩ := hQ121
            have N121 := Fr.app N108 N121q
            refine own_go (fun t k => st121 _ k) ?_
            show own_Gl _ _ _ _ (T121.setTop (mkF m 91 #[.val (.int p0), .val (.int p1), .val (.int p2), .val (.int p3), .val (.int p4), .val (.int (3 : Int32)), .val (.ref b104), .val (.int (1 : Int32)), .val (.int p2)] [(.int (f2 (3 : Int32) (1 : Int32) (0 : Int32) p1 p2))]))
            by_cases hc91_122 : (f2 (3 : Int32) (1 : Int32) (0 : Int32) p1 p2) = (0 : Int32)
            · refine own_go (fun t k => XS.ifYes X121.here hx rfl (pc0 := 91) (pc' := 141) rfl (hb hby at_91) rfl ((if0 _ _).trans (teq hc91_122).1) (by decide) (by decide) k) ?_
              show own_Gl _ _ _ _ (T121.setTop (mkF m 141 #[.val (.int p0), .val (.int p1), .val (.int p2), .val (.int p3), .val (.int p4), .val (.int (3 : Int32)), .val (.ref b104), .val (.int (1 : Int32)), .val (.int p2)] []))
              refine own_go (fun t k => XS.iconst X121.here hx rfl (hb hby at_141) k) ?_
              show own_Gl _ _ _ _ (T121.setTop (mkF m 142 #[.val (.int p0), .val (.int p1), .val (.int p2), .val (.int p3), .val (.int p4), .val (.int (3 : Int32)), .val (.ref b104), .val (.int (1 : Int32)), .val (.int p2)] [(.int (0 : Int32))]))
              obtain ⟨fs, hr, hrun, hended, hW, hsame⟩ := X121.leave (v := some (.int (0 : Int32))) (fun h => by rw [Bd.returns] at h; cases h)
              refine own_fin (retN X121 hx (t := .boolean) Bd.returns (by simp) (hb hby at_142) hr) hrun hended ⟨_, _, rfl, ?_, ⟨_, rfl⟩, hW, hsame.mono (by decide) (by decide)⟩
              show Q0 Z p0 p1 p2 p3 p4 h0 n0 _ T121.heap _
              rw [hq121]
              exact ⟨N121, by rw [f0, if_neg hc3_64, if_neg hc3_78, if_pos hc3_103, if_neg hc57_109, if_pos hc57_119, if_pos hc91_122]⟩
            · refine own_go (fun t k => XS.ifNo X121.here hx rfl (hb hby at_91) rfl ((if0 _ _).trans (feq hc91_122).1) k) ?_
              show own_Gl _ _ _ _ (T121.setTop (mkF m 94 #[.val (.int p0), .val (.int p1), .val (.int p2), .val (.int p3), .val (.int p4), .val (.int (3 : Int32)), .val (.ref b104), .val (.int (1 : Int32)), .val (.int p2)] []))
              refine own_go (fun t k => XS.iload X121.here hx rfl (hb hby at_94) rfl k) ?_
              show own_Gl _ _ _ _ (T121.setTop (mkF m 96 #[.val (.int p0), .val (.int p1), .val (.int p2), .val (.int p3), .val (.int p4), .val (.int (3 : Int32)), .val (.ref b104), .val (.int (1 : Int32)), .val (.int p2)] [(.int (3 : Int32))]))
              refine own_go (fun t k => XS.iload X121.here hx rfl (hb hby at_96) rfl k) ?_
              show own_Gl _ _ _ _ (T121.setTop (mkF m 98 #[.val (.int p0), .val (.int p1), .val (.int p2), .val (.int p3), .val (.int p4), .val (.int (3 : Int32)), .val (.ref b104), .val (.int (1 : Int32)), .val (.int p2)] [(.int (1 : Int32)), (.int (3 : Int32))]))
              refine own_go (fun t k => XS.iconst X121.here hx rfl (hb hby at_98) k) ?_
              show own_Gl _ _ _ _ (T121.setTop (mkF m 99 #[.val (.int p0), .val (.int p1), .val (.int p2), .val (.int p3), .val (.int p4), .val (.int (3 : Int32)), .val (.ref b104), .val (.int (1 : Int32)), .val (.int p2)] [(.int (1 : Int32)), (.int (1 : Int32)), (.int (3 : Int32))]))
              refine own_go (fun t k => XS.iloadN X121.here hx rfl (hb hby at_99) rfl k) ?_
              show own_Gl _ _ _ _ (T121.setTop (mkF m 100 #[.val (.int p0), .val (.int p1), .val (.int p2), .val (.int p3), .val (.int p4), .val (.int (3 : Int32)), .val (.ref b104), .val (.int (1 : Int32)), .val (.int p2)] [(.int p2), (.int (1 : Int32)), (.int (1 : Int32)), (.int (3 : Int32))]))
              refine own_go (fun t k => XS.iload X121.here hx rfl (hb hby at_100) rfl k) ?_
              show own_Gl _ _ _ _ (T121.setTop (mkF m 102 #[.val (.int p0), .val (.int p1), .val (.int p2), .val (.int p3), .val (.int p4), .val (.int (3 : Int32)), .val (.ref b104), .val (.int (1 : Int32)), .val (.int p2)] [(.int p2), (.int p2), (.int (1 : Int32)), (.int (1 : Int32)), (.int (3 : Int32))]))
              obtain ⟨_, _, ⟨T123, L123, kk123, nn123⟩, -, X123, ⟨Lc123, hQ123, l123, y123, z123⟩, st123⟩ := Jvm.LawKit.callS X121 hx (y := (⟨"com/example/sixfold/sixfold/rows/RowsFewestPinLaw", "fits", "(IIIII)Z"⟩ : MethodName)) hown (mvT hZ (hw _ (List.mem_of_getElem? (i := 5) rfl))) (mvT hZ (hw _ (List.mem_of_getElem? (i := 6) rfl))) (mvT hZ (hw _ (List.mem_of_getElem? (i := 7) rfl))) (mvT hZ (hw _ (List.mem_of_getElem? (i := 8) rfl))) (by decide) (backOf (W := 0) (rm2 l Z a0 hw [] (3 : Int32) (1 : Int32) (1 : Int32) p2 p2 h107 n0 Z107 ) hZ (hw _ (List.mem_of_getElem? (i := 8) rfl)) (hw _ (List.mem_of_getElem? (i := 7) rfl)) (by decide) (by decide)) (g := (mkF m 102 #[.val (.int p0), .val (.int p1), .val (.int p2), .val (.int p3), .val (.int p4), .val (.int (3 : Int32)), .val (.ref b104), .val (.int (1 : Int32)), .val (.int p2)] [(.int p2), (.int p2), (.int (1 : Int32)), (.int (1 : Int32)), (.int (3 : Int32))])) rfl (by rw [hml]; rfl) (argsL := [(.int (3 : Int32)), (.int (1 : Int32)), (.int (1 : Int32)), (.int p2), (.int p2)]) (rest := []) (lenOf pd_1 rfl) rfl (by show 2 * 0 + _ ≤ _; exact Nat.le_of_eq rfl) (hb hby at_102) (fun _ _ => ⟨rfl, hq121, (by decide : 1 + 0 ≤ _), (by decide : 3 + 0 ≤ _)⟩)
              dsimp only [Pt.U, Pt.locs, Pt.cells, Pt.slots] at X123 l123 y123 z123 st123 hQ123
              subst l123 y123 z123
              obtain ⟨N123q, rfl, hq123⟩ := hQ123
              have N123 := Fr.app N121 N123q
              refine own_go (fun t k => st123 _ k) ?_
              show own_Gl _ _ _ _ (T123.setTop (mkF m 105 #[.val (.int p0), .val (.int p1), .val (.int p2), .val (.int p3), .val (.int p4), .val (.int (3 : Int32)), .val (.ref b104), .val (.int (1 : Int32)), .val (.int p2)] [(.int (f2 (3 : Int32) (1 : Int32) (1 : Int32) p2 p2))]))
              by_cases hc105_124 : (f2 (3 : Int32) (1 : Int32) (1 : Int32) p2 p2) = (0 : Int32)
              · refine own_go (fun t k => XS.ifYes X123.here hx rfl (pc0 := 105) (pc' := 141) rfl (hb hby at_105) rfl ((if0 _ _).trans (teq hc105_124).1) (by decide) (by decide) k) ?_
                show own_Gl _ _ _ _ (T123.setTop (mkF m 141 #[.val (.int p0), .val (.int p1), .val (.int p2), .val (.int p3), .val (.int p4), .val (.int (3 : Int32)), .val (.ref b104), .val (.int (1 : Int32)), .val (.int p2)] []))
                refine own_go (fun t k => XS.iconst X123.here hx rfl (hb hby at_141) k) ?_
                show own_Gl _ _ _ _ (T123.setTop (mkF m 142 #[.val (.int p0), .val (.int p1), .val (.int p2), .val (.int p3), .val (.int p4), .val (.int (3 : Int32)), .val (.ref b104), .val (.int (1 : Int32)), .val (.int p2)] [(.int (0 : Int32))]))
                obtain ⟨fs, hr, hrun, hended, hW, hsame⟩ := X123.leave (v := some (.int (0 : Int32))) (fun h => by rw [Bd.returns] at h; cases h)
                refine own_fin (retN X123 hx (t := .boolean) Bd.returns (by simp) (hb hby at_142) hr) hrun hended ⟨_, _, rfl, ?_, ⟨_, rfl⟩, hW, hsame.mono (by decide) (by decide)⟩
                show Q0 Z p0 p1 p2 p3 p4 h0 n0 _ T123.heap _
                rw [hq123]
                exact ⟨N123, by rw [f0, if_neg hc3_64, if_neg hc3_78, if_pos hc3_103, if_neg hc57_109, if_pos hc57_119, if_neg hc91_122, if_pos hc105_124]⟩
              · refine own_go (fun t k => XS.ifNo X123.here hx rfl (hb hby at_105) rfl ((if0 _ _).trans (feq hc105_124).1) k) ?_
                show own_Gl _ _ _ _ (T123.setTop (mkF m 108 #[.val (.int p0), .val (.int p1), .val (.int p2), .val (.int p3), .val (.int p4), .val (.int (3 : Int32)), .val (.ref b104), .val (.int (1 : Int32)), .val (.int p2)] []))
                refine own_go (fun t k => XS.iload X123.here hx rfl (hb hby at_108) rfl k) ?_
                show own_Gl _ _ _ _ (T123.setTop (mkF m 110 #[.val (.int p0), .val (.int p1), .val (.int p2), .val (.int p3), .val (.int p4), .val (.int (3 : Int32)), .val (.ref b104), .val (.int (1 : Int32)), .val (.int p2)] [(.int (3 : Int32))]))
                refine own_go (fun t k => XS.iload X123.here hx rfl (hb hby at_110) rfl k) ?_
                show own_Gl _ _ _ _ (T123.setTop (mkF m 112 #[.val (.int p0), .val (.int p1), .val (.int p2), .val (.int p3), .val (.int p4), .val (.int (3 : Int32)), .val (.ref b104), .val (.int (1 : Int32)), .val (.int p2)] [(.int (1 : Int32)), (.int (3 : Int32))]))
                refine own_go (fun t k => XS.iconst X123.here hx rfl (hb hby at_112) k) ?_
                show own_Gl _ _ _ _ (T123.setTop (mkF m 113 #[.val (.int p0), .val (.int p1), .val (.int p2), .val (.int p3), .val (.int p4), .val (.int (3 : Int32)), .val (.ref b104), .val (.int (1 : Int32)), .val (.int p2)] [(.int (2 : Int32)), (.int (1 : Int32)), (.int (3 : Int32))]))
                refine own_go (fun t k => XS.iloadN X123.here hx rfl (hb hby at_113) rfl k) ?_
                show own_Gl _ _ _ _ (T123.setTop (mkF m 114 #[.val (.int p0), .val (.int p1), .val (.int p2), .val (.int p3), .val (.int p4), .val (.int (3 : Int32)), .val (.ref b104), .val (.int (1 : Int32)), .val (.int p2)] [(.int p3), (.int (2 : Int32)), (.int (1 : Int32)), (.int (3 : Int32))]))
                refine own_go (fun t k => XS.iload X123.here hx rfl (hb hby at_114) rfl k) ?_
                show own_Gl _ _ _ _ (T123.setTop (mkF m 116 #[.val (.int p0), .val (.int p1), .val (.int p2), .val (.int p3), .val (.int p4), .val (.int (3 : Int32)), .val (.ref b104), .val (.int (1 : Int32)), .val (.int p2)] [(.int p2), (.int p3), (.int (2 : Int32)), (.int (1 : Int32)), (.int (3 : Int32))]))
                obtain ⟨_, _, ⟨T125, L125, kk125, nn125⟩, -, X125, ⟨Lc125, hQ125, l125, y125, z125⟩, st125⟩ := Jvm.LawKit.callS X123 hx (y := (⟨"com/example/sixfold/sixfold/rows/RowsFewestPinLaw", "fits", "(IIIII)Z"⟩ : MethodName)) hown (mvT hZ (hw _ (List.mem_of_getElem? (i := 5) rfl))) (mvT hZ (hw _ (List.mem_of_getElem? (i := 6) rfl))) (mvT hZ (hw _ (List.mem_of_getElem? (i := 7) rfl))) (mvT hZ (hw _ (List.mem_of_getElem? (i := 8) rfl))) (by decide) (backOf (W := 0) (rm2 l Z a0 hw [] (3 : Int32) (1 : Int32) (2 : Int32) p3 p2 h107 n0 Z107 ) hZ (hw _ (List.mem_of_getElem? (i := 8) rfl)) (hw _ (List.mem_of_getElem? (i := 7) rfl)) (by decide) (by decide)) (g := (mkF m 116 #[.val (.int p0), .val (.int p1), .val (.int p2), .val (.int p3), .val (.int p4), .val (.int (3 : Int32)), .val (.ref b104), .val (.int (1 : Int32)), .val (.int p2)] [(.int p2), (.int p3), (.int (2 : Int32)), (.int (1 : Int32)), (.int (3 : Int32))])) rfl (by rw [hml]; rfl) (argsL := [(.int (3 : Int32)), (.int (1 : Int32)), (.int (2 : Int32)), (.int p3), (.int p2)]) (rest := []) (lenOf pd_1 rfl) rfl (by show 2 * 0 + _ ≤ _; exact Nat.le_of_eq rfl) (hb hby at_116) (fun _ _ => ⟨rfl, hq123, (by decide : 1 + 0 ≤ _), (by decide : 3 + 0 ≤ _)⟩)
                dsimp only [Pt.U, Pt.locs, Pt.cells, Pt.slots] at X125 l125 y125 z125 st125 hQ125
                subst l125 y125 z125
                obtain ⟨N125q, rfl, hq125⟩ := hQ125
                have N125 := Fr.app N123 N125q
                refine own_go (fun t k => st125 _ k) ?_
                show own_Gl _ _ _ _ (T125.setTop (mkF m 119 #[.val (.int p0), .val (.int p1), .val (.int p2), .val (.int p3), .val (.int p4), .val (.int (3 : Int32)), .val (.ref b104), .val (.int (1 : Int32)), .val (.int p2)] [(.int (f2 (3 : Int32) (1 : Int32) (2 : Int32) p3 p2))]))
                by_cases hc119_126 : (f2 (3 : Int32) (1 : Int32) (2 : Int32) p3 p2) = (0 : Int32)
                · refine own_go (fun t k => XS.ifYes X125.here hx rfl (pc0 := 119) (pc' := 141) rfl (hb hby at_119) rfl ((if0 _ _).trans (teq hc119_126).1) (by decide) (by decide) k) ?_
                  show own_Gl _ _ _ _ (T125.setTop (mkF m 141 #[.val (.int p0), .val (.int p1), .val (.int p2), .val (.int p3), .val (.int p4), .val (.int (3 : Int32)), .val (.ref b104), .val (.int (1 : Int32)), .val (.int p2)] []))
                  refine own_go (fun t k => XS.iconst X125.here hx rfl (hb hby at_141) k) ?_
                  show own_Gl _ _ _ _ (T125.setTop (mkF m 142 #[.val (.int p0), .val (.int p1), .val (.int p2), .val (.int p3), .val (.int p4), .val (.int (3 : Int32)), .val (.ref b104), .val (.int (1 : Int32)), .val (.int p2)] [(.int (0 : Int32))]))
                  obtain ⟨fs, hr, hrun, hended, hW, hsame⟩ := X125.leave (v := some (.int (0 : Int32))) (fun h => by rw [Bd.returns] at h; cases h)
                  refine own_fin (retN X125 hx (t := .boolean) Bd.returns (by simp) (hb hby at_142) hr) hrun hended ⟨_, _, rfl, ?_, ⟨_, rfl⟩, hW, hsame.mono (by decide) (by decide)⟩
                  show Q0 Z p0 p1 p2 p3 p4 h0 n0 _ T125.heap _
                  rw [hq125]
                  exact ⟨N125, by rw [f0, if_neg hc3_64, if_neg hc3_78, if_pos hc3_103, if_neg hc57_109, if_pos hc57_119, if_neg hc91_122, if_neg hc105_124, if_pos hc119_126]⟩
                · refine own_go (fun t k => XS.ifNo X125.here hx rfl (hb hby at_119) rfl ((if0 _ _).trans (feq hc119_126).1) k) ?_
                  show own_Gl _ _ _ _ (T125.setTop (mkF m 122 #[.val (.int p0), .val (.int p1), .val (.int p2), .val (.int p3), .val (.int p4), .val (.int (3 : Int32)), .val (.ref b104), .val (.int (1 : Int32)), .val (.int p2)] []))
                  refine own_go (fun t k => XS.iload X125.here hx rfl (hb hby at_122) rfl k) ?_
                  show own_Gl _ _ _ _ (T125.setTop (mkF m 124 #[.val (.int p0), .val (.int p1), .val (.int p2), .val (.int p3), .val (.int p4), .val (.int (3 : Int32)), .val (.ref b104), .val (.int (1 : Int32)), .val (.int p2)] [(.int (3 : Int32))]))
                  refine own_go (fun t k => XS.iload X125.here hx rfl (hb hby at_124) rfl k) ?_
                  show own_Gl _ _ _ _ (T125.setTop (mkF m 126 #[.val (.int p0), .val (.int p1), .val (.int p2), .val (.int p3), .val (.int p4), .val (.int (3 : Int32)), .val (.ref b104), .val (.int (1 : Int32)), .val (.int p2)] [(.int (1 : Int32)), (.int (3 : Int32))]))
                  refine own_go (fun t k => XS.iconst X125.here hx rfl (hb hby at_126) k) ?_
                  show own_Gl _ _ _ _ (T125.setTop (mkF m 127 #[.val (.int p0), .val (.int p1), .val (.int p2), .val (.int p3), .val (.int p4), .val (.int (3 : Int32)), .val (.ref b104), .val (.int (1 : Int32)), .val (.int p2)] [(.int (3 : Int32)), (.int (1 : Int32)), (.int (3 : Int32))]))
                  refine own_go (fun t k => XS.iload X125.here hx rfl (hb hby at_127) rfl k) ?_
                  show own_Gl _ _ _ _ (T125.setTop (mkF m 129 #[.val (.int p0), .val (.int p1), .val (.int p2), .val (.int p3), .val (.int p4), .val (.int (3 : Int32)), .val (.ref b104), .val (.int (1 : Int32)), .val (.int p2)] [(.int p4), (.int (3 : Int32)), (.int (1 : Int32)), (.int (3 : Int32))]))
                  refine own_go (fun t k => XS.iload X125.here hx rfl (hb hby at_129) rfl k) ?_
                  show own_Gl _ _ _ _ (T125.setTop (mkF m 131 #[.val (.int p0), .val (.int p1), .val (.int p2), .val (.int p3), .val (.int p4), .val (.int (3 : Int32)), .val (.ref b104), .val (.int (1 : Int32)), .val (.int p2)] [(.int p2), (.int p4), (.int (3 : Int32)), (.int (1 : Int32)), (.int (3 : Int32))]))
                  obtain ⟨_, _, ⟨T127, L127, kk127, nn127⟩, -, X127, ⟨Lc127, hQ127, l127, y127, z127⟩, st127⟩ := Jvm.LawKit.callS X125 hx (y := (⟨"com/example/sixfold/sixfold/rows/RowsFewestPinLaw", "fits", "(IIIII)Z"⟩ : MethodName)) hown (mvT hZ (hw _ (List.mem_of_getElem? (i := 5) rfl))) (mvT hZ (hw _ (List.mem_of_getElem? (i := 6) rfl))) (mvT hZ (hw _ (List.mem_of_getElem? (i := 7) rfl))) (mvT hZ (hw _ (List.mem_of_getElem? (i := 8) rfl))) (by decide) (backOf (W := 0) (rm2 l Z a0 hw [] (3 : Int32) (1 : Int32) (3 : Int32) p4 p2 h107 n0 Z107 ) hZ (hw _ (List.mem_of_getElem? (i := 8) rfl)) (hw _ (List.mem_of_getElem? (i := 7) rfl)) (by decide) (by decide)) (g := (mkF m 131 #[.val (.int p0), .val (.int p1), .val (.int p2), .val (.int p3), .val (.int p4), .val (.int (3 : Int32)), .val (.ref b104), .val (.int (1 : Int32)), .val (.int p2)] [(.int p2), (.int p4), (.int (3 : Int32)), (.int (1 : Int32)), (.int (3 : Int32))])) rfl (by rw [hml]; rfl) (argsL := [(.int (3 : Int32)), (.int (1 : Int32)), (.int (3 : Int32)), (.int p4), (.int p2)]) (rest := []) (lenOf pd_1 rfl) rfl (by show 2 * 0 + _ ≤ _; exact Nat.le_of_eq rfl) (hb hby at_131) (fun _ _ => ⟨rfl, hq125, (by decide : 1 + 0 ≤ _), (by decide : 3 + 0 ≤ _)⟩)
                  dsimp only [Pt.U, Pt.locs, Pt.cells, Pt.slots] at X127 l127 y127 z127 st127 hQ127
                  subst l127 y127 z127
                  obtain ⟨N127q, rfl, hq127⟩ := hQ127
                  have N127 := Fr.app N125 N127q
                  refine own_go (fun t k => st127 _ k) ?_
                  show own_Gl _ _ _ _ (T127.setTop (mkF m 134 #[.val (.int p0), .val (.int p1), .val (.int p2), .val (.int p3), .val (.int p4), .val (.int (3 : Int32)), .val (.ref b104), .val (.int (1 : Int32)), .val (.int p2)] [(.int (f2 (3 : Int32) (1 : Int32) (3 : Int32) p4 p2))]))
                  by_cases hc134_128 : (f2 (3 : Int32) (1 : Int32) (3 : Int32) p4 p2) = (0 : Int32)
                  · refine own_go (fun t k => XS.ifYes X127.here hx rfl (pc0 := 134) (pc' := 141) rfl (hb hby at_134) rfl ((if0 _ _).trans (teq hc134_128).1) (by decide) (by decide) k) ?_
                    show own_Gl _ _ _ _ (T127.setTop (mkF m 141 #[.val (.int p0), .val (.int p1), .val (.int p2), .val (.int p3), .val (.int p4), .val (.int (3 : Int32)), .val (.ref b104), .val (.int (1 : Int32)), .val (.int p2)] []))
                    refine own_go (fun t k => XS.iconst X127.here hx rfl (hb hby at_141) k) ?_
                    show own_Gl _ _ _ _ (T127.setTop (mkF m 142 #[.val (.int p0), .val (.int p1), .val (.int p2), .val (.int p3), .val (.int p4), .val (.int (3 : Int32)), .val (.ref b104), .val (.int (1 : Int32)), .val (.int p2)] [(.int (0 : Int32))]))
                    obtain ⟨fs, hr, hrun, hended, hW, hsame⟩ := X127.leave (v := some (.int (0 : Int32))) (fun h => by rw [Bd.returns] at h; cases h)
                    refine own_fin (retN X127 hx (t := .boolean) Bd.returns (by simp) (hb hby at_142) hr) hrun hended ⟨_, _, rfl, ?_, ⟨_, rfl⟩, hW, hsame.mono (by decide) (by decide)⟩
                    show Q0 Z p0 p1 p2 p3 p4 h0 n0 _ T127.heap _
                    rw [hq127]
                    exact ⟨N127, by rw [f0, if_neg hc3_64, if_neg hc3_78, if_pos hc3_103, if_neg hc57_109, if_pos hc57_119, if_neg hc91_122, if_neg hc105_124, if_neg hc119_126, if_pos hc134_128]⟩
                  · refine own_go (fun t k => XS.ifNo X127.here hx rfl (hb hby at_134) rfl ((if0 _ _).trans (feq hc134_128).1) k) ?_
                    show own_Gl _ _ _ _ (T127.setTop (mkF m 137 #[.val (.int p0), .val (.int p1), .val (.int p2), .val (.int p3), .val (.int p4), .val (.int (3 : Int32)), .val (.ref b104), .val (.int (1 : Int32)), .val (.int p2)] []))
                    refine own_go (fun t k => XS.iconst X127.here hx rfl (hb hby at_137) k) ?_
                    show own_Gl _ _ _ _ (T127.setTop (mkF m 138 #[.val (.int p0), .val (.int p1), .val (.int p2), .val (.int p3), .val (.int p4), .val (.int (3 : Int32)), .val (.ref b104), .val (.int (1 : Int32)), .val (.int p2)] [(.int (1 : Int32))]))
                    refine own_go (fun t k => XS.goto X127.here hx rfl (pc0 := 138) (pc' := 142) rfl (hb hby at_138) (by decide) (by decide) k) ?_
                    show own_Gl _ _ _ _ (T127.setTop (mkF m 142 #[.val (.int p0), .val (.int p1), .val (.int p2), .val (.int p3), .val (.int p4), .val (.int (3 : Int32)), .val (.ref b104), .val (.int (1 : Int32)), .val (.int p2)] [(.int (1 : Int32))]))
                    obtain ⟨fs, hr, hrun, hended, hW, hsame⟩ := X127.leave (v := some (.int (1 : Int32))) (fun h => by rw [Bd.returns] at h; cases h)
                    refine own_fin (retN X127 hx (t := .boolean) Bd.returns (by simp) (hb hby at_142) hr) hrun hended ⟨_, _, rfl, ?_, ⟨_, rfl⟩, hW, hsame.mono (by decide) (by decide)⟩
                    show Q0 Z p0 p1 p2 p3 p4 h0 n0 _ T127.heap _
                    rw [hq127]
                    exact ⟨N127, by rw [f0, if_neg hc3_64, if_neg hc3_78, if_pos hc3_103, if_neg hc57_109, if_pos hc57_119, if_neg hc91_122, if_neg hc105_124, if_neg hc119_126, if_neg hc134_128]⟩
          · have hs129 : (f1_3 p1 p2 p3) = (2 : Int32) := by have hr := own_rg3 p1 p2 p3; simpa [hc57_109, hc57_119] using hr
            rw [hs129]
            show own_Gl _ _ _ _ (T108.setTop (mkF m 57 #[.val (.int p0), .val (.int p1), .val (.int p2), .val (.int p3), .val (.int p4), .val (.int (3 : Int32)), .val (.ref b104), .unset, .unset] [(.int (2 : Int32))]))
            refine own_go (fun t k => XS.istore X108.here hx rfl (hb hby at_57) rfl (l' := #[.val (.int p0), .val (.int p1), .val (.int p2), .val (.int p3), .val (.int p4), .val (.int (3 : Int32)), .val (.ref b104), .val (.int (2 : Int32)), .unset]) rfl k) ?_
            show own_Gl _ _ _ _ (T108.setTop (mkF m 59 #[.val (.int p0), .val (.int p1), .val (.int p2), .val (.int p3), .val (.int p4), .val (.int (3 : Int32)), .val (.ref b104), .val (.int (2 : Int32)), .unset] []))
            refine own_go (fun t k => XS.iload X108.here hx rfl (hb hby at_59) rfl k) ?_
            show own_Gl _ _ _ _ (T108.setTop (mkF m 61 #[.val (.int p0), .val (.int p1), .val (.int p2), .val (.int p3), .val (.int p4), .val (.int (3 : Int32)), .val (.ref b104), .val (.int (2 : Int32)), .unset] [(.int (2 : Int32))]))
            refine own_go (fun t k => XS.ifNo X108.here hx rfl (hb hby at_61) rfl ((if0 _ _).trans (flt (by decide : ¬ ((2 : Int32) < (0 : Int32)))).1) k) ?_
            show own_Gl _ _ _ _ (T108.setTop (mkF m 64 #[.val (.int p0), .val (.int p1), .val (.int p2), .val (.int p3), .val (.int p4), .val (.int (3 : Int32)), .val (.ref b104), .val (.int (2 : Int32)), .unset] []))
            refine own_go (fun t k => XS.iload X108.here hx rfl (hb hby at_64) rfl k) ?_
            show own_Gl _ _ _ _ (T108.setTop (mkF m 66 #[.val (.int p0), .val (.int p1), .val (.int p2), .val (.int p3), .val (.int p4), .val (.int (3 : Int32)), .val (.ref b104), .val (.int (2 : Int32)), .unset] [(.int (2 : Int32))]))
            refine own_go (fun t k => XS.iload X108.here hx rfl (hb hby at_66) rfl k) ?_
            show own_Gl _ _ _ _ (T108.setTop (mkF m 68 #[.val (.int p0), .val (.int p1), .val (.int p2), .val (.int p3), .val (.int p4), .val (.int (3 : Int32)), .val (.ref b104), .val (.int (2 : Int32)), .unset] [(.int (3 : Int32)), (.int (2 : Int32))]))
            refine own_go (fun t k => XS.icmpYes X108.here hx rfl (pc0 := 68) (pc' := 73) rfl (hb hby at_68) rfl (tlt (by decide : (2 : Int32) < (3 : Int32))).1 (by decide) (by decide) k) ?_
            show own_Gl _ _ _ _ (T108.setTop (mkF m 73 #[.val (.int p0), .val (.int p1), .val (.int p2), .val (.int p3), .val (.int p4), .val (.int (3 : Int32)), .val (.ref b104), .val (.int (2 : Int32)), .unset] []))
            refine own_go (fun t k => XS.aload X108.here hx rfl (hb hby at_73) rfl rfl k) ?_
            show own_Gl _ _ _ _ (T108.setTop (mkF m 75 #[.val (.int p0), .val (.int p1), .val (.int p2), .val (.int p3), .val (.int p4), .val (.int (3 : Int32)), .val (.ref b104), .val (.int (2 : Int32)), .unset] [(.ref b104)]))
            refine own_go (fun t k => XS.iload X108.here hx rfl (hb hby at_75) rfl k) ?_
            show own_Gl _ _ _ _ (T108.setTop (mkF m 77 #[.val (.int p0), .val (.int p1), .val (.int p2), .val (.int p3), .val (.int p4), .val (.int (3 : Int32)), .val (.ref b104), .val (.int (2 : Int32)), .unset] [(.int (2 : Int32)), (.ref b104)]))
            obtain ⟨cl130, Ar130, qk130, S130, M130, H130, G130⟩ := id V107
            have hin130 : ¬ ((2 : Int32) < 0 ∨ cl130.slots.size ≤ ((2 : Int32)).toNatClampNeg) := inb_of S130 ⟨by decide, by decide⟩
            have hat130 : cl130.slots[((2 : Int32)).toNatClampNeg]? = some (.int p3) := H130.at hin130 rfl
            refine own_go (fun t k => X108.iaload hx (j := (2 : Int32)) (v := (.int p3)) (by rw [hq108]; exact Ar130.1) (State.isArrayOf_alike hZ.alike Ar130.2.1) Ar130.2.2 hin130 hat130 (g := (mkF m 77 #[.val (.int p0), .val (.int p1), .val (.int p2), .val (.int p3), .val (.int p4), .val (.int (3 : Int32)), .val (.ref b104), .val (.int (2 : Int32)), .unset] [(.int (2 : Int32)), (.ref b104)])) rfl rfl (hb hby at_77) _ k) ?_
            show own_Gl _ _ _ _ (T108.setTop (mkF m 78 #[.val (.int p0), .val (.int p1), .val (.int p2), .val (.int p3), .val (.int p4), .val (.int (3 : Int32)), .val (.ref b104), .val (.int (2 : Int32)), .unset] [(.int p3)]))
            refine own_go (fun t k => XS.istore X108.here hx rfl (hb hby at_78) rfl (l' := #[.val (.int p0), .val (.int p1), .val (.int p2), .val (.int p3), .val (.int p4), .val (.int (3 : Int32)), .val (.ref b104), .val (.int (2 : Int32)), .val (.int p3)]) rfl k) ?_
            show own_Gl _ _ _ _ (T108.setTop (mkF m 80 #[.val (.int p0), .val (.int p1), .val (.int p2), .val (.int p3), .val (.int p4), .val (.int (3 : Int32)), .val (.ref b104), .val (.int (2 : Int32)), .val (.int p3)] []))
            refine own_go (fun t k => XS.iload X108.here hx rfl (hb hby at_80) rfl k) ?_
            show own_Gl _ _ _ _ (T108.setTop (mkF m 82 #[.val (.int p0), .val (.int p1), .val (.int p2), .val (.int p3), .val (.int p4), .val (.int (3 : Int32)), .val (.ref b104), .val (.int (2 : Int32)), .val (.int p3)] [(.int (3 : Int32))]))
            refine own_go (fun t k => XS.iload X108.here hx rfl (hb hby at_82) rfl k) ?_
            show own_Gl _ _ _ _ (T108.setTop (mkF m 84 #[.val (.int p0), .val (.int p1), .val (.int p2), .val (.int p3), .val (.int p4), .val (.int (3 : Int32)), .val (.ref b104), .val (.int (2 : Int32)), .val (.int p3)] [(.int (2 : Int32)), (.int (3 : Int32))]))
            refine own_go (fun t k => XS.iconst X108.here hx rfl (hb hby at_84) k) ?_
            show own_Gl _ _ _ _ (T108.setTop (mkF m 85 #[.val (.int p0), .val (.int p1), .val (.int p2), .val (.int p3), .val (.int p4), .val (.int (3 : Int32)), .val (.ref b104), .val (.int (2 : Int32)), .val (.int p3)] [(.int (0 : Int32)), (.int (2 : Int32)), (.int (3 : Int32))]))
            refine own_go (fun t k => XS.iloadN X108.here hx rfl (hb hby at_85) rfl k) ?_
            show own_Gl _ _ _ _ (T108.setTop (mkF m 86 #[.val (.int p0), .val (.int p1), .val (.int p2), .val (.int p3), .val (.int p4), .val (.int (3 : Int32)), .val (.ref b104), .val (.int (2 : Int32)), .val (.int p3)] [(.int p1), (.int (0 : Int32)), (.int (2 : Int32)), (.int (3 : Int32))]))
            refine own_go (fun t k => XS.iload X108.here hx rfl (hb hby at_86) rfl k) ?_
            show own_Gl _ _ _ _ (T108.setTop (mkF m 88 #[.val (.int p0), .val (.int p1), .val (.int p2), .val (.int p3), .val (.int p4), .val (.int (3 : Int32)), .val (.ref b104), .val (.int (2 : Int32)), .val (.int p3)] [(.int p3), (.int p1), (.int (0 : Int32)), (.int (2 : Int32)), (.int (3 : Int32))]))
            obtain ⟨_, _, ⟨T131, L131, kk131, nn131⟩, -, X131, ⟨Lc131, hQ131, l131, y131, z131⟩, st131⟩ := Jvm.LawKit.callS X108 hx (y := (⟨"com/example/sixfold/sixfold/rows/RowsFewestPinLaw", "fits", "(IIIII)Z"⟩ : MethodName)) hown (mvT hZ (hw _ (List.mem_of_getElem? (i := 5) rfl))) (mvT hZ (hw _ (List.mem_of_getElem? (i := 6) rfl))) (mvT hZ (hw _ (List.mem_of_getElem? (i := 7) rfl))) (mvT hZ (hw _ (List.mem_of_getElem? (i := 8) rfl))) (by decide) (backOf (W := 0) (rm2 l Z a0 hw [] (3 : Int32) (2 : Int32) (0 : Int32) p1 p3 h107 n0 Z107 ) hZ (hw _ (List.mem_of_getElem? (i := 8) rfl)) (hw _ (List.mem_of_getElem? (i := 7) rfl)) (by decide) (by decide)) (g := (mkF m 88 #[.val (.int p0), .val (.int p1), .val (.int p2), .val (.int p3), .val (.int p4), .val (.int (3 : Int32)), .val (.ref b104), .val (.int (2 : Int32)), .val (.int p3)] [(.int p3), (.int p1), (.int (0 : Int32)), (.int (2 : Int32)), (.int (3 : Int32))])) rfl (by rw [hml]; rfl) (argsL := [(.int (3 : Int32)), (.int (2 : Int32)), (.int (0 : Int32)), (.int p1), (.int p3)]) (rest := []) (lenOf pd_1 rfl) rfl (by show 2 * 0 + _ ≤ _; exact Nat.le_of_eq rfl) (hb hby at_88) (fun _ _ => ⟨rfl, hq108, (by decide : 1 + 0 ≤ _), (by decide : 3 + 0 ≤ _)⟩)
            dsimp only [Pt.U, Pt.locs, Pt.cells, Pt.slots] at X131 l131 y131 z131 st131 hQ131
            subst l131 y131 z131
            obtain ⟨N131q, rfl, hq131⟩ := hQ131
            have N131 := Fr.app N108 N131q
            refine own_go (fun t k => st131 _ k) ?_
            show own_Gl _ _ _ _ (T131.setTop (mkF m 91 #[.val (.int p0), .val (.int p1), .val (.int p2), .val (.int p3), .val (.int p4), .val (.int (3 : Int32)), .val (.ref b104), .val (.int (2 : Int32)), .val (.int p3)] [(.int (f2 (3 : Int32) (2 : Int32) (0 : Int32) p1 p3))]))
            by_cases hc91_132 : (f2 (3 : Int32) (2 : Int32) (0 : Int32) p1 p3) = (0 : Int32)
            · refine own_go (fun t k => XS.ifYes X131.here hx rfl (pc0 := 91) (pc' := 141) rfl (hb hby at_91) rfl ((if0 _ _).trans (teq hc91_132).1) (by decide) (by decide) k) ?_
              show own_Gl _ _ _ _ (T131.setTop (mkF m 141 #[.val (.int p0), .val (.int p1), .val (.int p2), .val (.int p3), .val (.int p4), .val (.int (3 : Int32)), .val (.ref b104), .val (.int (2 : Int32)), .val (.int p3)] []))
              refine own_go (fun t k => XS.iconst X131.here hx rfl (hb hby at_141) k) ?_
              show own_Gl _ _ _ _ (T131.setTop (mkF m 142 #[.val (.int p0), .val (.int p1), .val (.int p2), .val (.int p3), .val (.int p4), .val (.int (3 : Int32)), .val (.ref b104), .val (.int (2 : Int32)), .val (.int p3)] [(.int (0 : Int32))]))
              obtain ⟨fs, hr, hrun, hended, hW, hsame⟩ := X131.leave (v := some (.int (0 : Int32))) (fun h => by rw [Bd.returns] at h; cases h)
              refine own_fin (retN X131 hx (t := .boolean) Bd.returns (by simp) (hb hby at_142) hr) hrun hended ⟨_, _, rfl, ?_, ⟨_, rfl⟩, hW, hsame.mono (by decide) (by decide)⟩
              show Q0 Z p0 p1 p2 p3 p4 h0 n0 _ T131.heap _
              rw [hq131]
              exact ⟨N131, by rw [f0, if_neg hc3_64, if_neg hc3_78, if_pos hc3_103, if_neg hc57_109, if_neg hc57_119, if_pos hc91_132]⟩
            · refine own_go (fun t k => XS.ifNo X131.here hx rfl (hb hby at_91) rfl ((if0 _ _).trans (feq hc91_132).1) k) ?_
              show own_Gl _ _ _ _ (T131.setTop (mkF m 94 #[.val (.int p0), .val (.int p1), .val (.int p2), .val (.int p3), .val (.int p4), .val (.int (3 : Int32)), .val (.ref b104), .val (.int (2 : Int32)), .val (.int p3)] []))
              refine own_go (fun t k => XS.iload X131.here hx rfl (hb hby at_94) rfl k) ?_
              show own_Gl _ _ _ _ (T131.setTop (mkF m 96 #[.val (.int p0), .val (.int p1), .val (.int p2), .val (.int p3), .val (.int p4), .val (.int (3 : Int32)), .val (.ref b104), .val (.int (2 : Int32)), .val (.int p3)] [(.int (3 : Int32))]))
              refine own_go (fun t k => XS.iload X131.here hx rfl (hb hby at_96) rfl k) ?_
              show own_Gl _ _ _ _ (T131.setTop (mkF m 98 #[.val (.int p0), .val (.int p1), .val (.int p2), .val (.int p3), .val (.int p4), .val (.int (3 : Int32)), .val (.ref b104), .val (.int (2 : Int32)), .val (.int p3)] [(.int (2 : Int32)), (.int (3 : Int32))]))
              refine own_go (fun t k => XS.iconst X131.here hx rfl (hb hby at_98) k) ?_
              show own_Gl _ _ _ _ (T131.setTop (mkF m 99 #[.val (.int p0), .val (.int p1), .val (.int p2), .val (.int p3), .val (.int p4), .val (.int (3 : Int32)), .val (.ref b104), .val (.int (2 : Int32)), .val (.int p3)] [(.int (1 : Int32)), (.int (2 : Int32)), (.int (3 : Int32))]))
              refine own_go (fun t k => XS.iloadN X131.here hx rfl (hb hby at_99) rfl k) ?_
              show own_Gl _ _ _ _ (T131.setTop (mkF m 100 #[.val (.int p0), .val (.int p1), .val (.int p2), .val (.int p3), .val (.int p4), .val (.int (3 : Int32)), .val (.ref b104), .val (.int (2 : Int32)), .val (.int p3)] [(.int p2), (.int (1 : Int32)), (.int (2 : Int32)), (.int (3 : Int32))]))
              refine own_go (fun t k => XS.iload X131.here hx rfl (hb hby at_100) rfl k) ?_
              show own_Gl _ _ _ _ (T131.setTop (mkF m 102 #[.val (.int p0), .val (.int p1), .val (.int p2), .val (.int p3), .val (.int p4), .val (.int (3 : Int32)), .val (.ref b104), .val (.int (2 : Int32)), .val (.int p3)] [(.int p3), (.int p2), (.int (1 : Int32)), (.int (2 : Int32)), (.int (3 : Int32))]))
              obtain ⟨_, _, ⟨T133, L133, kk133, nn133⟩, -, X133, ⟨Lc133, hQ133, l133, y133, z133⟩, st133⟩ := Jvm.LawKit.callS X131 hx (y := (⟨"com/example/sixfold/sixfold/rows/RowsFewestPinLaw", "fits", "(IIIII)Z"⟩ : MethodName)) hown (mvT hZ (hw _ (List.mem_of_getElem? (i := 5) rfl))) (mvT hZ (hw _ (List.mem_of_getElem? (i := 6) rfl))) (mvT hZ (hw _ (List.mem_of_getElem? (i := 7) rfl))) (mvT hZ (hw _ (List.mem_of_getElem? (i := 8) rfl))) (by decide) (backOf (W := 0) (rm2 l Z a0 hw [] (3 : Int32) (2 : Int32) (1 : Int32) p2 p3 h107 n0 Z107 ) hZ (hw _ (List.mem_of_getElem? (i := 8) rfl)) (hw _ (List.mem_of_getElem? (i := 7) rfl)) (by decide) (by decide)) (g := (mkF m 102 #[.val (.int p0), .val (.int p1), .val (.int p2), .val (.int p3), .val (.int p4), .val (.int (3 : Int32)), .val (.ref b104), .val (.int (2 : Int32)), .val (.int p3)] [(.int p3), (.int p2), (.int (1 : Int32)), (.int (2 : Int32)), (.int (3 : Int32))])) rfl (by rw [hml]; rfl) (argsL := [(.int (3 : Int32)), (.int (2 : Int32)), (.int (1 : Int32)), (.int p2), (.int p3)]) (rest := []) (lenOf pd_1 rfl) rfl (by show 2 * 0 + _ ≤ _; exact Nat.le_of_eq rfl) (hb hby at_102) (fun _ _ => ⟨rfl, hq131, (by decide : 1 + 0 ≤ _), (by decide : 3 + 0 ≤ _)⟩)
              dsimp only [Pt.U, Pt.locs, Pt.cells, Pt.slots] at X133 l133 y133 z133 st133 hQ133
              subst l133 y133 z133
              obtain ⟨N133q, rfl, hq133⟩ := hQ133
              have N133 := Fr.app N131 N133q
              refine own_go (fun t k => st133 _ k) ?_
              show own_Gl _ _ _ _ (T133.setTop (mkF m 105 #[.val (.int p0), .val (.int p1), .val (.int p2), .val (.int p3), .val (.int p4), .val (.int (3 : Int32)), .val (.ref b104), .val (.int (2 : Int32)), .val (.int p3)] [(.int (f2 (3 : Int32) (2 : Int32) (1 : Int32) p2 p3))]))
              by_cases hc105_134 : (f2 (3 : Int32) (2 : Int32) (1 : Int32) p2 p3) = (0 : Int32)
              · refine own_go (fun t k => XS.ifYes X133.here hx rfl (pc0 := 105) (pc' := 141) rfl (hb hby at_105) rfl ((if0 _ _).trans (teq hc105_134).1) (by decide) (by decide) k) ?_
                show own_Gl _ _ _ _ (T133.setTop (mkF m 141 #[.val (.int p0), .val (.int p1), .val (.int p2), .val (.int p3), .val (.int p4), .val (.int (3 : Int32)), .val (.ref b104), .val (.int (2 : Int32)), .val (.int p3)] []))
                refine own_go (fun t k => XS.iconst X133.here hx rfl (hb hby at_141) k) ?_
                show own_Gl _ _ _ _ (T133.setTop (mkF m 142 #[.val (.int p0), .val (.int p1), .val (.int p2), .val (.int p3), .val (.int p4), .val (.int (3 : Int32)), .val (.ref b104), .val (.int (2 : Int32)), .val (.int p3)] [(.int (0 : Int32))]))
                obtain ⟨fs, hr, hrun, hended, hW, hsame⟩ := X133.leave (v := some (.int (0 : Int32))) (fun h => by rw [Bd.returns] at h; cases h)
                refine own_fin (retN X133 hx (t := .boolean) Bd.returns (by simp) (hb hby at_142) hr) hrun hended ⟨_, _, rfl, ?_, ⟨_, rfl⟩, hW, hsame.mono (by decide) (by decide)⟩
                show Q0 Z p0 p1 p2 p3 p4 h0 n0 _ T133.heap _
                rw [hq133]
                exact ⟨N133, by rw [f0, if_neg hc3_64, if_neg hc3_78, if_pos hc3_103, if_neg hc57_109, if_neg hc57_119, if_neg hc91_132, if_pos hc105_134]⟩
              · refine own_go (fun t k => XS.ifNo X133.here hx rfl (hb hby at_105) rfl ((if0 _ _).trans (feq hc105_134).1) k) ?_
                show own_Gl _ _ _ _ (T133.setTop (mkF m 108 #[.val (.int p0), .val (.int p1), .val (.int p2), .val (.int p3), .val (.int p4), .val (.int (3 : Int32)), .val (.ref b104), .val (.int (2 : Int32)), .val (.int p3)] []))
                refine own_go (fun t k => XS.iload X133.here hx rfl (hb hby at_108) rfl k) ?_
                show own_Gl _ _ _ _ (T133.setTop (mkF m 110 #[.val (.int p0), .val (.int p1), .val (.int p2), .val (.int p3), .val (.int p4), .val (.int (3 : Int32)), .val (.ref b104), .val (.int (2 : Int32)), .val (.int p3)] [(.int (3 : Int32))]))
                refine own_go (fun t k => XS.iload X133.here hx rfl (hb hby at_110) rfl k) ?_
                show own_Gl _ _ _ _ (T133.setTop (mkF m 112 #[.val (.int p0), .val (.int p1), .val (.int p2), .val (.int p3), .val (.int p4), .val (.int (3 : Int32)), .val (.ref b104), .val (.int (2 : Int32)), .val (.int p3)] [(.int (2 : Int32)), (.int (3 : Int32))]))
                refine own_go (fun t k => XS.iconst X133.here hx rfl (hb hby at_112) k) ?_
                show own_Gl _ _ _ _ (T133.setTop (mkF m 113 #[.val (.int p0), .val (.int p1), .val (.int p2), .val (.int p3), .val (.int p4), .val (.int (3 : Int32)), .val (.ref b104), .val (.int (2 : Int32)), .val (.int p3)] [(.int (2 : Int32)), (.int (2 : Int32)), (.int (3 : Int32))]))
                refine own_go (fun t k => XS.iloadN X133.here hx rfl (hb hby at_113) rfl k) ?_
                show own_Gl _ _ _ _ (T133.setTop (mkF m 114 #[.val (.int p0), .val (.int p1), .val (.int p2), .val (.int p3), .val (.int p4), .val (.int (3 : Int32)), .val (.ref b104), .val (.int (2 : Int32)), .val (.int p3)] [(.int p3), (.int (2 : Int32)), (.int (2 : Int32)), (.int (3 : Int32))]))
                refine own_go (fun t k => XS.iload X133.here hx rfl (hb hby at_114) rfl k) ?_
                show own_Gl _ _ _ _ (T133.setTop (mkF m 116 #[.val (.int p0), .val (.int p1), .val (.int p2), .val (.int p3), .val (.int p4), .val (.int (3 : Int32)), .val (.ref b104), .val (.int (2 : Int32)), .val (.int p3)] [(.int p3), (.int p3), (.int (2 : Int32)), (.int (2 : Int32)), (.int (3 : Int32))]))
                obtain ⟨_, _, ⟨T135, L135, kk135, nn135⟩, -, X135, ⟨Lc135, hQ135, l135, y135, z135⟩, st135⟩ := Jvm.LawKit.callS X133 hx (y := (⟨"com/example/sixfold/sixfold/rows/RowsFewestPinLaw", "fits", "(IIIII)Z"⟩ : MethodName)) hown (mvT hZ (hw _ (List.mem_of_getElem? (i := 5) rfl))) (mvT hZ (hw _ (List.mem_of_getElem? (i := 6) rfl))) (mvT hZ (hw _ (List.mem_of_getElem? (i := 7) rfl))) (mvT hZ (hw _ (List.mem_of_getElem? (i := 8) rfl))) (by decide) (backOf (W := 0) (rm2 l Z a0 hw [] (3 : Int32) (2 : Int32) (2 : Int32) p3 p3 h107 n0 Z107 ) hZ (hw _ (List.mem_of_getElem? (i := 8) rfl)) (hw _ (List.mem_of_getElem? (i := 7) rfl)) (by decide) (by decide)) (g := (mkF m 116 #[.val (.int p0), .val (.int p1), .val (.int p2), .val (.int p3), .val (.int p4), .val (.int (3 : Int32)), .val (.ref b104), .val (.int (2 : Int32)), .val (.int p3)] [(.int p3), (.int p3), (.int (2 : Int32)), (.int (2 : Int32)), (.int (3 : Int32))])) rfl (by rw [hml]; rfl) (argsL := [(.int (3 : Int32)), (.int (2 : Int32)), (.int (2 : Int32)), (.int p3), (.int p3)]) (rest := []) (lenOf pd_1 rfl) rfl (by show 2 * 0 + _ ≤ _; exact Nat.le_of_eq rfl) (hb hby at_116) (fun _ _ => ⟨rfl, hq133, (by decide : 1 + 0 ≤ _), (by decide : 3 + 0 ≤ _)⟩)
                dsimp only [Pt.U, Pt.locs, Pt.cells, Pt.slots] at X135 l135 y135 z135 st135 hQ135
                subst l135 y135 z135
                obtain ⟨N135q, rfl, hq135⟩ := hQ135
                have N135 := Fr.app N133 N135q
                refine own_go (fun t k => st135 _ k) ?_
                show own_Gl _ _ _ _ (T135.setTop (mkF m 119 #[.val (.int p0), .val (.int p1), .val (.int p2), .val (.int p3), .val (.int p4), .val (.int (3 : Int32)), .val (.ref b104), .val (.int (2 : Int32)), .val (.int p3)] [(.int (f2 (3 : Int32) (2 : Int32) (2 : Int32) p3 p3))]))
                by_cases hc119_136 : (f2 (3 : Int32) (2 : Int32) (2 : Int32) p3 p3) = (0 : Int32)
                · refine own_go (fun t k => XS.ifYes X135.here hx rfl (pc0 := 119) (pc' := 141) rfl (hb hby at_119) rfl ((if0 _ _).trans (teq hc119_136).1) (by decide) (by decide) k) ?_
                  show own_Gl _ _ _ _ (T135.setTop (mkF m 141 #[.val (.int p0), .val (.int p1), .val (.int p2), .val (.int p3), .val (.int p4), .val (.int (3 : Int32)), .val (.ref b104), .val (.int (2 : Int32)), .val (.int p3)] []))
                  refine own_go (fun t k => XS.iconst X135.here hx rfl (hb hby at_141) k) ?_
                  show own_Gl _ _ _ _ (T135.setTop (mkF m 142 #[.val (.int p0), .val (.int p1), .val (.int p2), .val (.int p3), .val (.int p4), .val (.int (3 : Int32)), .val (.ref b104), .val (.int (2 : Int32)), .val (.int p3)] [(.int (0 : Int32))]))
                  obtain ⟨fs, hr, hrun, hended, hW, hsame⟩ := X135.leave (v := some (.int (0 : Int32))) (fun h => by rw [Bd.returns] at h; cases h)
                  refine own_fin (retN X135 hx (t := .boolean) Bd.returns (by simp) (hb hby at_142) hr) hrun hended ⟨_, _, rfl, ?_, ⟨_, rfl⟩, hW, hsame.mono (by decide) (by decide)⟩
                  show Q0 Z p0 p1 p2 p3 p4 h0 n0 _ T135.heap _
                  rw [hq135]
                  exact ⟨N135, by rw [f0, if_neg hc3_64, if_neg hc3_78, if_pos hc3_103, if_neg hc57_109, if_neg hc57_119, if_neg hc91_132, if_neg hc105_134, if_pos hc119_136]⟩
                · refine own_go (fun t k => XS.ifNo X135.here hx rfl (hb hby at_119) rfl ((if0 _ _).trans (feq hc119_136).1) k) ?_
                  show own_Gl _ _ _ _ (T135.setTop (mkF m 122 #[.val (.int p0), .val (.int p1), .val (.int p2), .val (.int p3), .val (.int p4), .val (.int (3 : Int32)), .val (.ref b104), .val (.int (2 : Int32)), .val (.int p3)] []))
                  refine own_go (fun t k => XS.iload X135.here hx rfl (hb hby at_122) rfl k) ?_
                  show own_Gl _ _ _ _ (T135.setTop (mkF m 124 #[.val (.int p0), .val (.int p1), .val (.int p2), .val (.int p3), .val (.int p4), .val (.int (3 : Int32)), .val (.ref b104), .val (.int (2 : Int32)), .val (.int p3)] [(.int (3 : Int32))]))
                  refine own_go (fun t k => XS.iload X135.here hx rfl (hb hby at_124) rfl k) ?_
                  show own_Gl _ _ _ _ (T135.setTop (mkF m 126 #[.val (.int p0), .val (.int p1), .val (.int p2), .val (.int p3), .val (.int p4), .val (.int (3 : Int32)), .val (.ref b104), .val (.int (2 : Int32)), .val (.int p3)] [(.int (2 : Int32)), (.int (3 : Int32))]))
                  refine own_go (fun t k => XS.iconst X135.here hx rfl (hb hby at_126) k) ?_
                  show own_Gl _ _ _ _ (T135.setTop (mkF m 127 #[.val (.int p0), .val (.int p1), .val (.int p2), .val (.int p3), .val (.int p4), .val (.int (3 : Int32)), .val (.ref b104), .val (.int (2 : Int32)), .val (.int p3)] [(.int (3 : Int32)), (.int (2 : Int32)), (.int (3 : Int32))]))
                  refine own_go (fun t k => XS.iload X135.here hx rfl (hb hby at_127) rfl k) ?_
                  show own_Gl _ _ _ _ (T135.setTop (mkF m 129 #[.val (.int p0), .val (.int p1), .val (.int p2), .val (.int p3), .val (.int p4), .val (.int (3 : Int32)), .val (.ref b104), .val (.int (2 : Int32)), .val (.int p3)] [(.int p4), (.int (3 : Int32)), (.int (2 : Int32)), (.int (3 : Int32))]))
                  refine own_go (fun t k => XS.iload X135.here hx rfl (hb hby at_129) rfl k) ?_
                  show own_Gl _ _ _ _ (T135.setTop (mkF m 131 #[.val (.int p0), .val (.int p1), .val (.int p2), .val (.int p3), .val (.int p4), .val (.int (3 : Int32)), .val (.ref b104), .val (.int (2 : Int32)), .val (.int p3)] [(.int p3), (.int p4), (.int (3 : Int32)), (.int (2 : Int32)), (.int (3 : Int32))]))
                  obtain ⟨_, _, ⟨T137, L137, kk137, nn137⟩, -, X137, ⟨Lc137, hQ137, l137, y137, z137⟩, st137⟩ := Jvm.LawKit.callS X135 hx (y := (⟨"com/example/sixfold/sixfold/rows/RowsFewestPinLaw", "fits", "(IIIII)Z"⟩ : MethodName)) hown (mvT hZ (hw _ (List.mem_of_getElem? (i := 5) rfl))) (mvT hZ (hw _ (List.mem_of_getElem? (i := 6) rfl))) (mvT hZ (hw _ (List.mem_of_getElem? (i := 7) rfl))) (mvT hZ (hw _ (List.mem_of_getElem? (i := 8) rfl))) (by decide) (backOf (W := 0) (rm2 l Z a0 hw [] (3 : Int32) (2 : Int32) (3 : Int32) p4 p3 h107 n0 Z107 ) hZ (hw _ (List.mem_of_getElem? (i := 8) rfl)) (hw _ (List.mem_of_getElem? (i := 7) rfl)) (by decide) (by decide)) (g := (mkF m 131 #[.val (.int p0), .val (.int p1), .val (.int p2), .val (.int p3), .val (.int p4), .val (.int (3 : Int32)), .val (.ref b104), .val (.int (2 : Int32)), .val (.int p3)] [(.int p3), (.int p4), (.int (3 : Int32)), (.int (2 : Int32)), (.int (3 : Int32))])) rfl (by rw [hml]; rfl) (argsL := [(.int (3 : Int32)), (.int (2 : Int32)), (.int (3 : Int32)), (.int p4), (.int p3)]) (rest := []) (lenOf pd_1 rfl) rfl (by show 2 * 0 + _ ≤ _; exact Nat.le_of_eq rfl) (hb hby at_131) (fun _ _ => ⟨rfl, hq135, (by decide : 1 + 0 ≤ _), (by decide : 3 + 0 ≤ _)⟩)
                  dsimp only [Pt.U, Pt.locs, Pt.cells, Pt.slots] at X137 l137 y137 z137 st137 hQ137
                  subst l137 y137 z137
                  obtain ⟨N137q, rfl, hq137⟩ := hQ137
                  have N137 := Fr.app N135 N137q
                  refine own_go (fun t k => st137 _ k) ?_
                  show own_Gl _ _ _ _ (T137.setTop (mkF m 134 #[.val (.int p0), .val (.int p1), .val (.int p2), .val (.int p3), .val (.int p4), .val (.int (3 : Int32)), .val (.ref b104), .val (.int (2 : Int32)), .val (.int p3)] [(.int (f2 (3 : Int32) (2 : Int32) (3 : Int32) p4 p3))]))
                  by_cases hc134_138 : (f2 (3 : Int32) (2 : Int32) (3 : Int32) p4 p3) = (0 : Int32)
                  · refine own_go (fun t k => XS.ifYes X137.here hx rfl (pc0 := 134) (pc' := 141) rfl (hb hby at_134) rfl ((if0 _ _).trans (teq hc134_138).1) (by decide) (by decide) k) ?_
                    show own_Gl _ _ _ _ (T137.setTop (mkF m 141 #[.val (.int p0), .val (.int p1), .val (.int p2), .val (.int p3), .val (.int p4), .val (.int (3 : Int32)), .val (.ref b104), .val (.int (2 : Int32)), .val (.int p3)] []))
                    refine own_go (fun t k => XS.iconst X137.here hx rfl (hb hby at_141) k) ?_
                    show own_Gl _ _ _ _ (T137.setTop (mkF m 142 #[.val (.int p0), .val (.int p1), .val (.int p2), .val (.int p3), .val (.int p4), .val (.int (3 : Int32)), .val (.ref b104), .val (.int (2 : Int32)), .val (.int p3)] [(.int (0 : Int32))]))
                    obtain ⟨fs, hr, hrun, hended, hW, hsame⟩ := X137.leave (v := some (.int (0 : Int32))) (fun h => by rw [Bd.returns] at h; cases h)
                    refine own_fin (retN X137 hx (t := .boolean) Bd.returns (by simp) (hb hby at_142) hr) hrun hended ⟨_, _, rfl, ?_, ⟨_, rfl⟩, hW, hsame.mono (by decide) (by decide)⟩
                    show Q0 Z p0 p1 p2 p3 p4 h0 n0 _ T137.heap _
                    rw [hq137]
                    exact ⟨N137, by rw [f0, if_neg hc3_64, if_neg hc3_78, if_pos hc3_103, if_neg hc57_109, if_neg hc57_119, if_neg hc91_132, if_neg hc105_134, if_neg hc119_136, if_pos hc134_138]⟩
                  · refine own_go (fun t k => XS.ifNo X137.here hx rfl (hb hby at_134) rfl ((if0 _ _).trans (feq hc134_138).1) k) ?_
                    show own_Gl _ _ _ _ (T137.setTop (mkF m 137 #[.val (.int p0), .val (.int p1), .val (.int p2), .val (.int p3), .val (.int p4), .val (.int (3 : Int32)), .val (.ref b104), .val (.int (2 : Int32)), .val (.int p3)] []))
                    refine own_go (fun t k => XS.iconst X137.here hx rfl (hb hby at_137) k) ?_
                    show own_Gl _ _ _ _ (T137.setTop (mkF m 138 #[.val (.int p0), .val (.int p1), .val (.int p2), .val (.int p3), .val (.int p4), .val (.int (3 : Int32)), .val (.ref b104), .val (.int (2 : Int32)), .val (.int p3)] [(.int (1 : Int32))]))
                    refine own_go (fun t k => XS.goto X137.here hx rfl (pc0 := 138) (pc' := 142) rfl (hb hby at_138) (by decide) (by decide) k) ?_
                    show own_Gl _ _ _ _ (T137.setTop (mkF m 142 #[.val (.int p0), .val (.int p1), .val (.int p2), .val (.int p3), .val (.int p4), .val (.int (3 : Int32)), .val (.ref b104), .val (.int (2 : Int32)), .val (.int p3)] [(.int (1 : Int32))]))
                    obtain ⟨fs, hr, hrun, hended, hW, hsame⟩ := X137.leave (v := some (.int (1 : Int32))) (fun h => by rw [Bd.returns] at h; cases h)
                    refine own_fin (retN X137 hx (t := .boolean) Bd.returns (by simp) (hb hby at_142) hr) hrun hended ⟨_, _, rfl, ?_, ⟨_, rfl⟩, hW, hsame.mono (by decide) (by decide)⟩
                    show Q0 Z p0 p1 p2 p3 p4 h0 n0 _ T137.heap _
                    rw [hq137]
                    exact ⟨N137, by rw [f0, if_neg hc3_64, if_neg hc3_78, if_pos hc3_103, if_neg hc57_109, if_neg hc57_119, if_neg hc91_132, if_neg hc105_134, if_neg hc119_136, if_neg hc134_138]⟩
      · have hs139 : (p0 &&& (3 : Int32)) = (3 : Int32) := own_last3 hc3_64 hc3_78 hc3_103
        rw [hs139]
        show own_Gl _ _ _ _ (s₁.setTop (mkF m 3 #[.val (.int p0), .val (.int p1), .val (.int p2), .val (.int p3), .val (.int p4), .unset, .unset, .unset, .unset] [(.int (3 : Int32))]))
        refine own_go (fun t k => XS.iconst X0.here hx rfl (hb hby at_3) k) ?_
        show own_Gl _ _ _ _ (s₁.setTop (mkF m 4 #[.val (.int p0), .val (.int p1), .val (.int p2), .val (.int p3), .val (.int p4), .unset, .unset, .unset, .unset] [(.int (1 : Int32)), (.int (3 : Int32))]))
        refine own_go (fun t k => XS.iadd X0.here hx rfl (hb hby at_4) rfl k) ?_
        show own_Gl _ _ _ _ (s₁.setTop (mkF m 5 #[.val (.int p0), .val (.int p1), .val (.int p2), .val (.int p3), .val (.int p4), .unset, .unset, .unset, .unset] [(.int (4 : Int32))]))
        refine own_go (fun t k => XS.istore X0.here hx rfl (hb hby at_5) rfl (l' := #[.val (.int p0), .val (.int p1), .val (.int p2), .val (.int p3), .val (.int p4), .val (.int (4 : Int32)), .unset, .unset, .unset]) rfl k) ?_
        show own_Gl _ _ _ _ (s₁.setTop (mkF m 7 #[.val (.int p0), .val (.int p1), .val (.int p2), .val (.int p3), .val (.int p4), .val (.int (4 : Int32)), .unset, .unset, .unset] []))
        refine own_go (fun t k => XS.iload X0.here hx rfl (hb hby at_7) rfl k) ?_
        show own_Gl _ _ _ _ (s₁.setTop (mkF m 9 #[.val (.int p0), .val (.int p1), .val (.int p2), .val (.int p3), .val (.int p4), .val (.int (4 : Int32)), .unset, .unset, .unset] [(.int (4 : Int32))]))
        obtain ⟨T140, h140, k140, X140, e140, E140, A140, st140⟩ := newP X0 hx hZ (hw _ (List.mem_of_getElem? (i := 0) rfl)) e0 (g := (mkF m 9 #[.val (.int p0), .val (.int p1), .val (.int p2), .val (.int p3), .val (.int p4), .val (.int (4 : Int32)), .unset, .unset, .unset] [(.int (4 : Int32))])) rfl (hb hby at_9) rfl (by decide) (cap := 4) (by decide) (by decide) (by decide) (by decide)
        obtain ⟨b140, g140⟩ : ∃ z, z = h0.size := ⟨_, rfl⟩
        rw [← g140] at A140 st140
        have ge_b140 : n0 ≤ b140 := Nat.le_trans Z0 (Nat.le_of_eq g140.symm)
        have sz_b140 : h0.size ≤ b140 := Nat.le_trans (Keep.refl h0 []).1 (Nat.le_of_eq g140.symm)
        refine own_go (fun t k => st140 _ k) ?_
        have K140 : Keep h0 h140 [] := (Keep.refl h0 []).ext E140
        have Z140 : n0 ≤ h140.size := Nat.le_trans Z0 E140.1
        have V140 : Arv Z h140 b140 k140 .int (4 : Int32) [(.int (0 : Int32)), (.int (0 : Int32)), (.int (0 : Int32)), (.int (0 : Int32))] (.int (0 : Int32)) := (Arv.new A140 (by decide)).pad (pad_rep [] (.int (0 : Int32)) 4)
        show own_Gl _ _ _ _ (T140.setTop (mkF m 11 #[.val (.int p0), .val (.int p1), .val (.int p2), .val (.int p3), .val (.int p4), .val (.int (4 : Int32)), .unset, .unset, .unset] [(.ref b140)]))
        refine own_go (fun t k => XS.astore X140.here hx rfl (hb hby at_11) rfl rfl (l' := #[.val (.int p0), .val (.int p1), .val (.int p2), .val (.int p3), .val (.int p4), .val (.int (4 : Int32)), .val (.ref b140), .unset, .unset]) rfl k) ?_
        show own_Gl _ _ _ _ (T140.setTop (mkF m 13 #[.val (.int p0), .val (.int p1), .val (.int p2), .val (.int p3), .val (.int p4), .val (.int (4 : Int32)), .val (.ref b140), .unset, .unset] []))
        refine own_go (fun t k => XS.aload X140.here hx rfl (hb hby at_13) rfl rfl k) ?_
        show own_Gl _ _ _ _ (T140.setTop (mkF m 15 #[.val (.int p0), .val (.int p1), .val (.int p2), .val (.int p3), .val (.int p4), .val (.int (4 : Int32)), .val (.ref b140), .unset, .unset] [(.ref b140)]))
        refine own_go (fun t k => XS.iconst X140.here hx rfl (hb hby at_15) k) ?_
        show own_Gl _ _ _ _ (T140.setTop (mkF m 16 #[.val (.int p0), .val (.int p1), .val (.int p2), .val (.int p3), .val (.int p4), .val (.int (4 : Int32)), .val (.ref b140), .unset, .unset] [(.int (0 : Int32)), (.ref b140)]))
        refine own_go (fun t k => XS.iloadN X140.here hx rfl (hb hby at_16) rfl k) ?_
        show own_Gl _ _ _ _ (T140.setTop (mkF m 17 #[.val (.int p0), .val (.int p1), .val (.int p2), .val (.int p3), .val (.int p4), .val (.int (4 : Int32)), .val (.ref b140), .unset, .unset] [(.int p1), (.int (0 : Int32)), (.ref b140)]))
        obtain ⟨cl141, Ar141, qk141, S141, M141, H141, G141⟩ := id V140
        have hin141 : ¬ ((0 : Int32) < 0 ∨ cl141.slots.size ≤ ((0 : Int32)).toNatClampNeg) := inb_of S141 ⟨by decide, by decide⟩
        obtain ⟨T141, h141, X141, e141, W141, st141⟩ := stI X140 hx hZ e140 Ar141 (j := (0 : Int32)) hin141 (g := (mkF m 17 #[.val (.int p0), .val (.int p1), .val (.int p2), .val (.int p3), .val (.int p4), .val (.int (4 : Int32)), .val (.ref b140), .unset, .unset] [(.int p1), (.int (0 : Int32)), (.ref b140)])) rfl rfl (hb hby at_17)
        refine own_go (fun t k => st141 _ k) ?_
        have V141 : Arv Z h141 b140 k140 .int (4 : Int32) [(.int p1), (.int (0 : Int32)), (.int (0 : Int32)), (.int (0 : Int32))] (.int (0 : Int32)) := Arv.set Ar141 qk141 S141 M141 H141 G141 rfl W141 0 rfl (Nat.le_of_ble_eq_true rfl)
        have K141 : Keep h0 h141 [] := K140.wr W141 (Or.inr sz_b140)
        have N141 := Fr.snoc X141 N0 ge_b140
        have Z141 : n0 ≤ h141.size := Nat.le_trans Z140 (Keep.of_wr W141).1
        show own_Gl _ _ _ _ (T141.setTop (mkF m 18 #[.val (.int p0), .val (.int p1), .val (.int p2), .val (.int p3), .val (.int p4), .val (.int (4 : Int32)), .val (.ref b140), .unset, .unset] []))
        refine own_go (fun t k => XS.iload X141.here hx rfl (hb hby at_18) rfl k) ?_
        show own_Gl _ _ _ _ (T141.setTop (mkF m 20 #[.val (.int p0), .val (.int p1), .val (.int p2), .val (.int p3), .val (.int p4), .val (.int (4 : Int32)), .val (.ref b140), .unset, .unset] [(.int (4 : Int32))]))
        refine own_go (fun t k => XS.iconst X141.here hx rfl (hb hby at_20) k) ?_
        show own_Gl _ _ _ _ (T141.setTop (mkF m 21 #[.val (.int p0), .val (.int p1), .val (.int p2), .val (.int p3), .val (.int p4), .val (.int (4 : Int32)), .val (.ref b140), .unset, .unset] [(.int (1 : Int32)), (.int (4 : Int32))]))
        refine own_go (fun t k => XS.icmpNo X141.here hx rfl (hb hby at_21) rfl (tlt (by decide : (1 : Int32) < (4 : Int32))).2.2.2 k) ?_
        show own_Gl _ _ _ _ (T141.setTop (mkF m 24 #[.val (.int p0), .val (.int p1), .val (.int p2), .val (.int p3), .val (.int p4), .val (.int (4 : Int32)), .val (.ref b140), .unset, .unset] []))
        refine own_go (fun t k => XS.aload X141.here hx rfl (hb hby at_24) rfl rfl k) ?_
        show own_Gl _ _ _ _ (T141.setTop (mkF m 26 #[.val (.int p0), .val (.int p1), .val (.int p2), .val (.int p3), .val (.int p4), .val (.int (4 : Int32)), .val (.ref b140), .unset, .unset] [(.ref b140)]))
        refine own_go (fun t k => XS.iconst X141.here hx rfl (hb hby at_26) k) ?_
        show own_Gl _ _ _ _ (T141.setTop (mkF m 27 #[.val (.int p0), .val (.int p1), .val (.int p2), .val (.int p3), .val (.int p4), .val (.int (4 : Int32)), .val (.ref b140), .unset, .unset] [(.int (1 : Int32)), (.ref b140)]))
        refine own_go (fun t k => XS.iloadN X141.here hx rfl (hb hby at_27) rfl k) ?_
        show own_Gl _ _ _ _ (T141.setTop (mkF m 28 #[.val (.int p0), .val (.int p1), .val (.int p2), .val (.int p3), .val (.int p4), .val (.int (4 : Int32)), .val (.ref b140), .unset, .unset] [(.int p2), (.int (1 : Int32)), (.ref b140)]))
        obtain ⟨cl142, Ar142, qk142, S142, M142, H142, G142⟩ := id V141
        have hin142 : ¬ ((1 : Int32) < 0 ∨ cl142.slots.size ≤ ((1 : Int32)).toNatClampNeg) := inb_of S142 ⟨by decide, by decide⟩
        obtain ⟨T142, h142, X142, e142, W142, st142⟩ := stI X141 hx hZ e141 Ar142 (j := (1 : Int32)) hin142 (g := (mkF m 28 #[.val (.int p0), .val (.int p1), .val (.int p2), .val (.int p3), .val (.int p4), .val (.int (4 : Int32)), .val (.ref b140), .unset, .unset] [(.int p2), (.int (1 : Int32)), (.ref b140)])) rfl rfl (hb hby at_28)
        refine own_go (fun t k => st142 _ k) ?_
        have V142 : Arv Z h142 b140 k140 .int (4 : Int32) [(.int p1), (.int p2), (.int (0 : Int32)), (.int (0 : Int32))] (.int (0 : Int32)) := Arv.set Ar142 qk142 S142 M142 H142 G142 rfl W142 1 rfl (Nat.le_of_ble_eq_true rfl)
        have K142 : Keep h0 h142 [] := K141.wr W142 (Or.inr sz_b140)
        have N142 := Fr.snoc X142 N141 ge_b140
        have Z142 : n0 ≤ h142.size := Nat.le_trans Z141 (Keep.of_wr W142).1
        show own_Gl _ _ _ _ (T142.setTop (mkF m 29 #[.val (.int p0), .val (.int p1), .val (.int p2), .val (.int p3), .val (.int p4), .val (.int (4 : Int32)), .val (.ref b140), .unset, .unset] []))
        refine own_go (fun t k => XS.iload X142.here hx rfl (hb hby at_29) rfl k) ?_
        show own_Gl _ _ _ _ (T142.setTop (mkF m 31 #[.val (.int p0), .val (.int p1), .val (.int p2), .val (.int p3), .val (.int p4), .val (.int (4 : Int32)), .val (.ref b140), .unset, .unset] [(.int (4 : Int32))]))
        refine own_go (fun t k => XS.iconst X142.here hx rfl (hb hby at_31) k) ?_
        show own_Gl _ _ _ _ (T142.setTop (mkF m 32 #[.val (.int p0), .val (.int p1), .val (.int p2), .val (.int p3), .val (.int p4), .val (.int (4 : Int32)), .val (.ref b140), .unset, .unset] [(.int (2 : Int32)), (.int (4 : Int32))]))
        refine own_go (fun t k => XS.icmpNo X142.here hx rfl (hb hby at_32) rfl (tlt (by decide : (2 : Int32) < (4 : Int32))).2.2.2 k) ?_
        show own_Gl _ _ _ _ (T142.setTop (mkF m 35 #[.val (.int p0), .val (.int p1), .val (.int p2), .val (.int p3), .val (.int p4), .val (.int (4 : Int32)), .val (.ref b140), .unset, .unset] []))
        refine own_go (fun t k => XS.aload X142.here hx rfl (hb hby at_35) rfl rfl k) ?_
        show own_Gl _ _ _ _ (T142.setTop (mkF m 37 #[.val (.int p0), .val (.int p1), .val (.int p2), .val (.int p3), .val (.int p4), .val (.int (4 : Int32)), .val (.ref b140), .unset, .unset] [(.ref b140)]))
        refine own_go (fun t k => XS.iconst X142.here hx rfl (hb hby at_37) k) ?_
        show own_Gl _ _ _ _ (T142.setTop (mkF m 38 #[.val (.int p0), .val (.int p1), .val (.int p2), .val (.int p3), .val (.int p4), .val (.int (4 : Int32)), .val (.ref b140), .unset, .unset] [(.int (2 : Int32)), (.ref b140)]))
        refine own_go (fun t k => XS.iloadN X142.here hx rfl (hb hby at_38) rfl k) ?_
        show own_Gl _ _ _ _ (T142.setTop (mkF m 39 #[.val (.int p0), .val (.int p1), .val (.int p2), .val (.int p3), .val (.int p4), .val (.int (4 : Int32)), .val (.ref b140), .unset, .unset] [(.int p3), (.int (2 : Int32)), (.ref b140)]))
        obtain ⟨cl143, Ar143, qk143, S143, M143, H143, G143⟩ := id V142
        have hin143 : ¬ ((2 : Int32) < 0 ∨ cl143.slots.size ≤ ((2 : Int32)).toNatClampNeg) := inb_of S143 ⟨by decide, by decide⟩
        obtain ⟨T143, h143, X143, e143, W143, st143⟩ := stI X142 hx hZ e142 Ar143 (j := (2 : Int32)) hin143 (g := (mkF m 39 #[.val (.int p0), .val (.int p1), .val (.int p2), .val (.int p3), .val (.int p4), .val (.int (4 : Int32)), .val (.ref b140), .unset, .unset] [(.int p3), (.int (2 : Int32)), (.ref b140)])) rfl rfl (hb hby at_39)
        refine own_go (fun t k => st143 _ k) ?_
        have V143 : Arv Z h143 b140 k140 .int (4 : Int32) [(.int p1), (.int p2), (.int p3), (.int (0 : Int32))] (.int (0 : Int32)) := Arv.set Ar143 qk143 S143 M143 H143 G143 rfl W143 2 rfl (Nat.le_of_ble_eq_true rfl)
        have K143 : Keep h0 h143 [] := K142.wr W143 (Or.inr sz_b140)
        have N143 := Fr.snoc X143 N142 ge_b140
        have Z143 : n0 ≤ h143.size := Nat.le_trans Z142 (Keep.of_wr W143).1
        show own_Gl _ _ _ _ (T143.setTop (mkF m 40 #[.val (.int p0), .val (.int p1), .val (.int p2), .val (.int p3), .val (.int p4), .val (.int (4 : Int32)), .val (.ref b140), .unset, .unset] []))
        refine own_go (fun t k => XS.iload X143.here hx rfl (hb hby at_40) rfl k) ?_
        show own_Gl _ _ _ _ (T143.setTop (mkF m 42 #[.val (.int p0), .val (.int p1), .val (.int p2), .val (.int p3), .val (.int p4), .val (.int (4 : Int32)), .val (.ref b140), .unset, .unset] [(.int (4 : Int32))]))
        refine own_go (fun t k => XS.iconst X143.here hx rfl (hb hby at_42) k) ?_
        show own_Gl _ _ _ _ (T143.setTop (mkF m 43 #[.val (.int p0), .val (.int p1), .val (.int p2), .val (.int p3), .val (.int p4), .val (.int (4 : Int32)), .val (.ref b140), .unset, .unset] [(.int (3 : Int32)), (.int (4 : Int32))]))
        refine own_go (fun t k => XS.icmpNo X143.here hx rfl (hb hby at_43) rfl (tlt (by decide : (3 : Int32) < (4 : Int32))).2.2.2 k) ?_
        show own_Gl _ _ _ _ (T143.setTop (mkF m 46 #[.val (.int p0), .val (.int p1), .val (.int p2), .val (.int p3), .val (.int p4), .val (.int (4 : Int32)), .val (.ref b140), .unset, .unset] []))
        refine own_go (fun t k => XS.aload X143.here hx rfl (hb hby at_46) rfl rfl k) ?_
        show own_Gl _ _ _ _ (T143.setTop (mkF m 48 #[.val (.int p0), .val (.int p1), .val (.int p2), .val (.int p3), .val (.int p4), .val (.int (4 : Int32)), .val (.ref b140), .unset, .unset] [(.ref b140)]))
        refine own_go (fun t k => XS.iconst X143.here hx rfl (hb hby at_48) k) ?_
        show own_Gl _ _ _ _ (T143.setTop (mkF m 49 #[.val (.int p0), .val (.int p1), .val (.int p2), .val (.int p3), .val (.int p4), .val (.int (4 : Int32)), .val (.ref b140), .unset, .unset] [(.int (3 : Int32)), (.ref b140)]))
        refine own_go (fun t k => XS.iload X143.here hx rfl (hb hby at_49) rfl k) ?_
        show own_Gl _ _ _ _ (T143.setTop (mkF m 51 #[.val (.int p0), .val (.int p1), .val (.int p2), .val (.int p3), .val (.int p4), .val (.int (4 : Int32)), .val (.ref b140), .unset, .unset] [(.int p4), (.int (3 : Int32)), (.ref b140)]))
        obtain ⟨cl144, Ar144, qk144, S144, M144, H144, G144⟩ := id V143
        have hin144 : ¬ ((3 : Int32) < 0 ∨ cl144.slots.size ≤ ((3 : Int32)).toNatClampNeg) := inb_of S144 ⟨by decide, by decide⟩
        obtain ⟨T144, h144, X144, e144, W144, st144⟩ := stI X143 hx hZ e143 Ar144 (j := (3 : Int32)) hin144 (g := (mkF m 51 #[.val (.int p0), .val (.int p1), .val (.int p2), .val (.int p3), .val (.int p4), .val (.int (4 : Int32)), .val (.ref b140), .unset, .unset] [(.int p4), (.int (3 : Int32)), (.ref b140)])) rfl rfl (hb hby at_51)
        refine own_go (fun t k => st144 _ k) ?_
        have V144 : Arv Z h144 b140 k140 .int (4 : Int32) [(.int p1), (.int p2), (.int p3), (.int p4)] (.int (0 : Int32)) := Arv.set Ar144 qk144 S144 M144 H144 G144 rfl W144 3 rfl (Nat.le_of_ble_eq_true rfl)
        have K144 : Keep h0 h144 [] := K143.wr W144 (Or.inr sz_b140)
        have N144 := Fr.snoc X144 N143 ge_b140
        have Z144 : n0 ≤ h144.size := Nat.le_trans Z143 (Keep.of_wr W144).1
        show own_Gl _ _ _ _ (T144.setTop (mkF m 52 #[.val (.int p0), .val (.int p1), .val (.int p2), .val (.int p3), .val (.int p4), .val (.int (4 : Int32)), .val (.ref b140), .unset, .unset] []))
        refine own_go (fun t k => XS.aload X144.here hx rfl (hb hby at_52) rfl rfl k) ?_
        show own_Gl _ _ _ _ (T144.setTop (mkF m 54 #[.val (.int p0), .val (.int p1), .val (.int p2), .val (.int p3), .val (.int p4), .val (.int (4 : Int32)), .val (.ref b140), .unset, .unset] [(.ref b140)]))
        obtain ⟨_, _, ⟨T145, L145, kk145, nn145⟩, -, X145, ⟨Lc145, hQ145, l145, y145, z145⟩, st145⟩ := Jvm.LawKit.callS X144 hx (y := (⟨"com/example/sixfold/sixfold/rows/Rows", "fewest", "([I)I"⟩ : MethodName)) hown (mvT hZ (hw _ (List.mem_of_getElem? (i := 1) rfl))) (mvT hZ (hw _ (List.mem_of_getElem? (i := 2) rfl))) (mvT hZ (hw _ (List.mem_of_getElem? (i := 3) rfl))) (mvT hZ (hw _ (List.mem_of_getElem? (i := 4) rfl))) (by decide) (backOf (W := 0) (rm1_4 l Z a0 hw [] b140 k140 p1 p2 p3 p4 h144 n0 Z144 V144) hZ (hw _ (List.mem_of_getElem? (i := 4) rfl)) (hw _ (List.mem_of_getElem? (i := 3) rfl)) (by decide) (by decide)) (g := (mkF m 54 #[.val (.int p0), .val (.int p1), .val (.int p2), .val (.int p3), .val (.int p4), .val (.int (4 : Int32)), .val (.ref b140), .unset, .unset] [(.ref b140)])) rfl (by rw [hml]; rfl) (argsL := [(.ref b140)]) (rest := []) (lenOf pd_0 rfl) rfl (by show 2 * 0 + _ ≤ _; exact Nat.le_of_eq rfl) (hb hby at_54) (fun _ _ => ⟨rfl, e144, (by decide : 1 + 0 ≤ _), (by decide : 4 + 0 ≤ _)⟩)
        dsimp only [Pt.U, Pt.locs, Pt.cells, Pt.slots] at X145 l145 y145 z145 st145 hQ145
        subst l145 y145 z145
        obtain ⟨N145q, rfl, hq145⟩ := hQ145
        have N145 := Fr.app N144 N145q
        refine own_go (fun t k => st145 _ k) ?_
        show own_Gl _ _ _ _ (T145.setTop (mkF m 57 #[.val (.int p0), .val (.int p1), .val (.int p2), .val (.int p3), .val (.int p4), .val (.int (4 : Int32)), .val (.ref b140), .unset, .unset] [(.int (f1_4 p1 p2 p3 p4))]))
        by_cases hc57_146 : (f1_4 p1 p2 p3 p4) = (0 : Int32)
        · rw [hc57_146]
          show own_Gl _ _ _ _ (T145.setTop (mkF m 57 #[.val (.int p0), .val (.int p1), .val (.int p2), .val (.int p3), .val (.int p4), .val (.int (4 : Int32)), .val (.ref b140), .unset, .unset] [(.int (0 : Int32))]))
          refine own_go (fun t k => XS.istore X145.here hx rfl (hb hby at_57) rfl (l' := #[.val (.int p0), .val (.int p1), .val (.int p2), .val (.int p3), .val (.int p4), .val (.int (4 : Int32)), .val (.ref b140), .val (.int (0 : Int32)), .unset]) rfl k) ?_
          show own_Gl _ _ _ _ (T145.setTop (mkF m 59 #[.val (.int p0), .val (.int p1), .val (.int p2), .val (.int p3), .val (.int p4), .val (.int (4 : Int32)), .val (.ref b140), .val (.int (0 : Int32)), .unset] []))
          refine own_go (fun t k => XS.iload X145.here hx rfl (hb hby at_59) rfl k) ?_
          show own_Gl _ _ _ _ (T145.setTop (mkF m 61 #[.val (.int p0), .val (.int p1), .val (.int p2), .val (.int p3), .val (.int p4), .val (.int (4 : Int32)), .val (.ref b140), .val (.int (0 : Int32)), .unset] [(.int (0 : Int32))]))
          refine own_go (fun t k => XS.ifNo X145.here hx rfl (hb hby at_61) rfl ((if0 _ _).trans (flt (by decide : ¬ ((0 : Int32) < (0 : Int32)))).1) k) ?_
          show own_Gl _ _ _ _ (T145.setTop (mkF m 64 #[.val (.int p0), .val (.int p1), .val (.int p2), .val (.int p3), .val (.int p4), .val (.int (4 : Int32)), .val (.ref b140), .val (.int (0 : Int32)), .unset] []))
          refine own_go (fun t k => XS.iload X145.here hx rfl (hb hby at_64) rfl k) ?_
          show own_Gl _ _ _ _ (T145.setTop (mkF m 66 #[.val (.int p0), .val (.int p1), .val (.int p2), .val (.int p3), .val (.int p4), .val (.int (4 : Int32)), .val (.ref b140), .val (.int (0 : Int32)), .unset] [(.int (0 : Int32))]))
          refine own_go (fun t k => XS.iload X145.here hx rfl (hb hby at_66) rfl k) ?_
          show own_Gl _ _ _ _ (T145.setTop (mkF m 68 #[.val (.int p0), .val (.int p1), .val (.int p2), .val (.int p3), .val (.int p4), .val (.int (4 : Int32)), .val (.ref b140), .val (.int (0 : Int32)), .unset] [(.int (4 : Int32)), (.int (0 : Int32))]))
          refine own_go (fun t k => XS.icmpYes X145.here hx rfl (pc0 := 68) (pc' := 73) rfl (hb hby at_68) rfl (tlt (by decide : (0 : Int32) < (4 : Int32))).1 (by decide) (by decide) k) ?_
          show own_Gl _ _ _ _ (T145.setTop (mkF m 73 #[.val (.int p0), .val (.int p1), .val (.int p2), .val (.int p3), .val (.int p4), .val (.int (4 : Int32)), .val (.ref b140), .val (.int (0 : Int32)), .unset] []))
          refine own_go (fun t k => XS.aload X145.here hx rfl (hb hby at_73) rfl rfl k) ?_
          show own_Gl _ _ _ _ (T145.setTop (mkF m 75 #[.val (.int p0), .val (.int p1), .val (.int p2), .val (.int p3), .val (.int p4), .val (.int (4 : Int32)), .val (.ref b140), .val (.int (0 : Int32)), .unset] [(.ref b140)]))
          refine own_go (fun t k => XS.iload X145.here hx rfl (hb hby at_75) rfl k) ?_
          show own_Gl _ _ _ _ (T145.setTop (mkF m 77 #[.val (.int p0), .val (.int p1), .val (.int p2), .val (.int p3), .val (.int p4), .val (.int (4 : Int32)), .val (.ref b140), .val (.int (0 : Int32)), .unset] [(.int (0 : Int32)), (.ref b140)]))
          obtain ⟨cl147, Ar147, qk147, S147, M147, H147, G147⟩ := id V144
          have hin147 : ¬ ((0 : Int32) < 0 ∨ cl147.slots.size ≤ ((0 : Int32)).toNatClampNeg) := inb_of S147 ⟨by decide, by decide⟩
          have hat147 : cl147.slots[((0 : Int32)).toNatClampNeg]? = some (.int p1) := H147.at hin147 rfl
          refine own_go (fun t k => X145.iaload hx (j := (0 : Int32)) (v := (.int p1)) (by rw [hq145]; exact Ar147.1) (State.isArrayOf_alike hZ.alike Ar147.2.1) Ar147.2.2 hin147 hat147 (g := (mkF m 77 #[.val (.int p0), .val (.int p1), .val (.int p2), .val (.int p3), .val (.int p4), .val (.int (4 : Int32)), .val (.ref b140), .val (.int (0 : Int32)), .unset] [(.int (0 : Int32)), (.ref b140)])) rfl rfl (hb hby at_77) _ k) ?_
          show own_Gl _ _ _ _ (T145.setTop (mkF m 78 #[.val (.int p0), .val (.int p1), .val (.int p2), .val (.int p3), .val (.int p4), .val (.int (4 : Int32)), .val (.ref b140), .val (.int (0 : Int32)), .unset] [(.int p1)]))
          refine own_go (fun t k => XS.istore X145.here hx rfl (hb hby at_78) rfl (l' := #[.val (.int p0), .val (.int p1), .val (.int p2), .val (.int p3), .val (.int p4), .val (.int (4 : Int32)), .val (.ref b140), .val (.int (0 : Int32)), .val (.int p1)]) rfl k) ?_
          show own_Gl _ _ _ _ (T145.setTop (mkF m 80 #[.val (.int p0), .val (.int p1), .val (.int p2), .val (.int p3), .val (.int p4), .val (.int (4 : Int32)), .val (.ref b140), .val (.int (0 : Int32)), .val (.int p1)] []))
          refine own_go (fun t k => XS.iload X145.here hx rfl (hb hby at_80) rfl k) ?_
          show own_Gl _ _ _ _ (T145.setTop (mkF m 82 #[.val (.int p0), .val (.int p1), .val (.int p2), .val (.int p3), .val (.int p4), .val (.int (4 : Int32)), .val (.ref b140), .val (.int (0 : Int32)), .val (.int p1)] [(.int (4 : Int32))]))
          refine own_go (fun t k => XS.iload X145.here hx rfl (hb hby at_82) rfl k) ?_
          show own_Gl _ _ _ _ (T145.setTop (mkF m 84 #[.val (.int p0), .val (.int p1), .val (.int p2), .val (.int p3), .val (.int p4), .val (.int (4 : Int32)), .val (.ref b140), .val (.int (0 : Int32)), .val (.int p1)] [(.int (0 : Int32)), (.int (4 : Int32))]))
          refine own_go (fun t k => XS.iconst X145.here hx rfl (hb hby at_84) k) ?_
          show own_Gl _ _ _ _ (T145.setTop (mkF m 85 #[.val (.int p0), .val (.int p1), .val (.int p2), .val (.int p3), .val (.int p4), .val (.int (4 : Int32)), .val (.ref b140), .val (.int (0 : Int32)), .val (.int p1)] [(.int (0 : Int32)), (.int (0 : Int32)), (.int (4 : Int32))]))
          refine own_go (fun t k => XS.iloadN X145.here hx rfl (hb hby at_85) rfl k) ?_
          show own_Gl _ _ _ _ (T145.setTop (mkF m 86 #[.val (.int p0), .val (.int p1), .val (.int p2), .val (.int p3), .val (.int p4), .val (.int (4 : Int32)), .val (.ref b140), .val (.int (0 : Int32)), .val (.int p1)] [(.int p1), (.int (0 : Int32)), (.int (0 : Int32)), (.int (4 : Int32))]))
          refine own_go (fun t k => XS.iload X145.here hx rfl (hb hby at_86) rfl k) ?_
          show own_Gl _ _ _ _ (T145.setTop (mkF m 88 #[.val (.int p0), .val (.int p1), .val (.int p2), .val (.int p3), .val (.int p4), .val (.int (4 : Int32)), .val (.ref b140), .val (.int (0 : Int32)), .val (.int p1)] [(.int p1), (.int p1), (.int (0 : Int32)), (.int (0 : Int32)), (.int (4 : Int32))]))
          obtain ⟨_, _, ⟨T148, L148, kk148, nn148⟩, -, X148, ⟨Lc148, hQ148, l148, y148, z148⟩, st148⟩ := Jvm.LawKit.callS X145 hx (y := (⟨"com/example/sixfold/sixfold/rows/RowsFewestPinLaw", "fits", "(IIIII)Z"⟩ : MethodName)) hown (mvT hZ (hw _ (List.mem_of_getElem? (i := 5) rfl))) (mvT hZ (hw _ (List.mem_of_getElem? (i := 6) rfl))) (mvT hZ (hw _ (List.mem_of_getElem? (i := 7) rfl))) (mvT hZ (hw _ (List.mem_of_getElem? (i := 8) rfl))) (by decide) (backOf (W := 0) (rm2 l Z a0 hw [] (4 : Int32) (0 : Int32) (0 : Int32) p1 p1 h144 n0 Z144 ) hZ (hw _ (List.mem_of_getElem? (i := 8) rfl)) (hw _ (List.mem_of_getElem? (i := 7) rfl)) (by decide) (by decide)) (g := (mkF m 88 #[.val (.int p0), .val (.int p1), .val (.int p2), .val (.int p3), .val (.int p4), .val (.int (4 : Int32)), .val (.ref b140), .val (.int (0 : Int32)), .val (.int p1)] [(.int p1), (.int p1), (.int (0 : Int32)), (.int (0 : Int32)), (.int (4 : Int32))])) rfl (by rw [hml]; rfl) (argsL := [(.int (4 : Int32)), (.int (0 : Int32)), (.int (0 : Int32)), (.int p1), (.int p1)]) (rest := []) (lenOf pd_1 rfl) rfl (by show 2 * 0 + _ ≤ _; exact Nat.le_of_eq rfl) (hb hby at_88) (fun _ _ => ⟨rfl, hq145, (by decide : 1 + 0 ≤ _), (by decide : 4 + 0 ≤ _)⟩)
          dsimp only [Pt.U, Pt.locs, Pt.cells, Pt.slots] at X148 l148 y148 z148 st148 hQ148
          subst l148 y148 z148
          obtain ⟨N148q, rfl, hq148⟩ := hQ148
          have N148 := Fr.app N145 N148q
          refine own_go (fun t k => st148 _ k) ?_
          show own_Gl _ _ _ _ (T148.setTop (mkF m 91 #[.val (.int p0), .val (.int p1), .val (.int p2), .val (.int p3), .val (.int p4), .val (.int (4 : Int32)), .val (.ref b140), .val (.int (0 : Int32)), .val (.int p1)] [(.int (f2 (4 : Int32) (0 : Int32) (0 : Int32) p1 p1))]))
          by_cases hc91_149 : (f2 (4 : Int32) (0 : Int32) (0 : Int32) p1 p1) = (0 : Int32)
          · refine own_go (fun t k => XS.ifYes X148.here hx rfl (pc0 := 91) (pc' := 141) rfl (hb hby at_91) rfl ((if0 _ _).trans (teq hc91_149).1) (by decide) (by decide) k) ?_
            show own_Gl _ _ _ _ (T148.setTop (mkF m 141 #[.val (.int p0), .val (.int p1), .val (.int p2), .val (.int p3), .val (.int p4), .val (.int (4 : Int32)), .val (.ref b140), .val (.int (0 : Int32)), .val (.int p1)] []))
            refine own_go (fun t k => XS.iconst X148.here hx rfl (hb hby at_141) k) ?_
            show own_Gl _ _ _ _ (T148.setTop (mkF m 142 #[.val (.int p0), .val (.int p1), .val (.int p2), .val (.int p3), .val (.int p4), .val (.int (4 : Int32)), .val (.ref b140), .val (.int (0 : Int32)), .val (.int p1)] [(.int (0 : Int32))]))
            obtain ⟨fs, hr, hrun, hended, hW, hsame⟩ := X148.leave (v := some (.int (0 : Int32))) (fun h => by rw [Bd.returns] at h; cases h)
            refine own_fin (retN X148 hx (t := .boolean) Bd.returns (by simp) (hb hby at_142) hr) hrun hended ⟨_, _, rfl, ?_, ⟨_, rfl⟩, hW, hsame.mono (by decide) (by decide)⟩
            show Q0 Z p0 p1 p2 p3 p4 h0 n0 _ T148.heap _
            rw [hq148]
            exact ⟨N148, by rw [f0, if_neg hc3_64, if_neg hc3_78, if_neg hc3_103, if_pos hc57_146, if_pos hc91_149]⟩
          · refine own_go (fun t k => XS.ifNo X148.here hx rfl (hb hby at_91) rfl ((if0 _ _).trans (feq hc91_149).1) k) ?_
            show own_Gl _ _ _ _ (T148.setTop (mkF m 94 #[.val (.int p0), .val (.int p1), .val (.int p2), .val (.int p3), .val (.int p4), .val (.int (4 : Int32)), .val (.ref b140), .val (.int (0 : Int32)), .val (.int p1)] []))
            refine own_go (fun t k => XS.iload X148.here hx rfl (hb hby at_94) rfl k) ?_
            show own_Gl _ _ _ _ (T148.setTop (mkF m 96 #[.val (.int p0), .val (.int p1), .val (.int p2), .val (.int p3), .val (.int p4), .val (.int (4 : Int32)), .val (.ref b140), .val (.int (0 : Int32)), .val (.int p1)] [(.int (4 : Int32))]))
            refine own_go (fun t k => XS.iload X148.here hx rfl (hb hby at_96) rfl k) ?_
            show own_Gl _ _ _ _ (T148.setTop (mkF m 98 #[.val (.int p0), .val (.int p1), .val (.int p2), .val (.int p3), .val (.int p4), .val (.int (4 : Int32)), .val (.ref b140), .val (.int (0 : Int32)), .val (.int p1)] [(.int (0 : Int32)), (.int (4 : Int32))]))
            refine own_go (fun t k => XS.iconst X148.here hx rfl (hb hby at_98) k) ?_
            show own_Gl _ _ _ _ (T148.setTop (mkF m 99 #[.val (.int p0), .val (.int p1), .val (.int p2), .val (.int p3), .val (.int p4), .val (.int (4 : Int32)), .val (.ref b140), .val (.int (0 : Int32)), .val (.int p1)] [(.int (1 : Int32)), (.int (0 : Int32)), (.int (4 : Int32))]))
            refine own_go (fun t k => XS.iloadN X148.here hx rfl (hb hby at_99) rfl k) ?_
            show own_Gl _ _ _ _ (T148.setTop (mkF m 100 #[.val (.int p0), .val (.int p1), .val (.int p2), .val (.int p3), .val (.int p4), .val (.int (4 : Int32)), .val (.ref b140), .val (.int (0 : Int32)), .val (.int p1)] [(.int p2), (.int (1 : Int32)), (.int (0 : Int32)), (.int (4 : Int32))]))
            refine own_go (fun t k => XS.iload X148.here hx rfl (hb hby at_100) rfl k) ?_
            show own_Gl _ _ _ _ (T148.setTop (mkF m 102 #[.val (.int p0), .val (.int p1), .val (.int p2), .val (.int p3), .val (.int p4), .val (.int (4 : Int32)), .val (.ref b140), .val (.int (0 : Int32)), .val (.int p1)] [(.int p1), (.int p2), (.int (1 : Int32)), (.int (0 : Int32)), (.int (4 : Int32))]))
            obtain ⟨_, _, ⟨T150, L150, kk150, nn150⟩, -, X150, ⟨Lc150, hQ150, l150, y150, z150⟩, st150⟩ := Jvm.LawKit.callS X148 hx (y := (⟨"com/example/sixfold/sixfold/rows/RowsFewestPinLaw", "fits", "(IIIII)Z"⟩ : MethodName)) hown (mvT hZ (hw _ (List.mem_of_getElem? (i := 5) rfl))) (mvT hZ (hw _ (List.mem_of_getElem? (i := 6) rfl))) (mvT hZ (hw _ (List.mem_of_getElem? (i := 7) rfl))) (mvT hZ (hw _ (List.mem_of_getElem? (i := 8) rfl))) (by decide) (backOf (W := 0) (rm2 l Z a0 hw [] (4 : Int32) (0 : Int32) (1 : Int32) p2 p1 h144 n0 Z144 ) hZ (hw _ (List.mem_of_getElem? (i := 8) rfl)) (hw _ (List.mem_of_getElem? (i := 7) rfl)) (by decide) (by decide)) (g := (mkF m 102 #[.val (.int p0), .val (.int p1), .val (.int p2), .val (.int p3), .val (.int p4), .val (.int (4 : Int32)), .val (.ref b140), .val (.int (0 : Int32)), .val (.int p1)] [(.int p1), (.int p2), (.int (1 : Int32)), (.int (0 : Int32)), (.int (4 : Int32))])) rfl (by rw [hml]; rfl) (argsL := [(.int (4 : Int32)), (.int (0 : Int32)), (.int (1 : Int32)), (.int p2), (.int p1)]) (rest := []) (lenOf pd_1 rfl) rfl (by show 2 * 0 + _ ≤ _; exact Nat.le_of_eq rfl) (hb hby at_102) (fun _ _ => ⟨rfl, hq148, (by decide : 1 + 0 ≤ _), (by decide : 4 + 0 ≤ _)⟩)
            dsimp only [Pt.U, Pt.locs, Pt.cells, Pt.slots] at X150 l150 y150 z150 st150 hQ150
            subst l150 y150 z150
            obtain ⟨N150q, rfl, hq150⟩ := hQ150
            have N150 := Fr.app N148 N150q
            refine own_go (fun t k => st150 _ k) ?_
            show own_Gl _ _ _ _ (T150.setTop (mkF m 105 #[.val (.int p0), .val (.int p1), .val (.int p2), .val (.int p3), .val (.int p4), .val (.int (4 : Int32)), .val (.ref b140), .val (.int (0 : Int32)), .val (.int p1)] [(.int (f2 (4 : Int32) (0 : Int32) (1 : Int32) p2 p1))]))
            by_cases hc105_151 : (f2 (4 : Int32) (0 : Int32) (1 : Int32) p2 p1) = (0 : Int32)
            · refine own_go (fun t k => XS.ifYes X150.here hx rfl (pc0 := 105) (pc' := 141) rfl (hb hby at_105) rfl ((if0 _ _).trans (teq hc105_151).1) (by decide) (by decide) k) ?_
              show own_Gl _ _ _ _ (T150.setTop (mkF m 141 #[.val (.int p0), .val (.int p1), .val (.int p2), .val (.int p3), .val (.int p4), .val (.int (4 : Int32)), .val (.ref b140), .val (.int (0 : Int32)), .val (.int p1)] []))
              refine own_go (fun t k => XS.iconst X150.here hx rfl (hb hby at_141) k) ?_
              show own_Gl _ _ _ _ (T150.setTop (mkF m 142 #[.val (.int p0), .val (.int p1), .val (.int p2), .val (.int p3), .val (.int p4), .val (.int (4 : Int32)), .val (.ref b140), .val (.int (0 : Int32)), .val (.int p1)] [(.int (0 : Int32))]))
              obtain ⟨fs, hr, hrun, hended, hW, hsame⟩ := X150.leave (v := some (.int (0 : Int32))) (fun h => by rw [Bd.returns] at h; cases h)
              refine own_fin (retN X150 hx (t := .boolean) Bd.returns (by simp) (hb hby at_142) hr) hrun hended ⟨_, _, rfl, ?_, ⟨_, rfl⟩, hW, hsame.mono (by decide) (by decide)⟩
              show Q0 Z p0 p1 p2 p3 p4 h0 n0 _ T150.heap _
              rw [hq150]
              exact ⟨N150, by rw [f0, if_neg hc3_64, if_neg hc3_78, if_neg hc3_103, if_pos hc57_146, if_neg hc91_149, if_pos hc105_151]⟩
            · refine own_go (fun t k => XS.ifNo X150.here hx rfl (hb hby at_105) rfl ((if0 _ _).trans (feq hc105_151).1) k) ?_
              show own_Gl _ _ _ _ (T150.setTop (mkF m 108 #[.val (.int p0), .val (.int p1), .val (.int p2), .val (.int p3), .val (.int p4), .val (.int (4 : Int32)), .val (.ref b140), .val (.int (0 : Int32)), .val (.int p1)] []))
              refine own_go (fun t k => XS.iload X150.here hx rfl (hb hby at_108) rfl k) ?_
              show own_Gl _ _ _ _ (T150.setTop (mkF m 110 #[.val (.int p0), .val (.int p1), .val (.int p2), .val (.int p3), .val (.int p4), .val (.int (4 : Int32)), .val (.ref b140), .val (.int (0 : Int32)), .val (.int p1)] [(.int (4 : Int32))]))
              refine own_go (fun t k => XS.iload X150.here hx rfl (hb hby at_110) rfl k) ?_
              show own_Gl _ _ _ _ (T150.setTop (mkF m 112 #[.val (.int p0), .val (.int p1), .val (.int p2), .val (.int p3), .val (.int p4), .val (.int (4 : Int32)), .val (.ref b140), .val (.int (0 : Int32)), .val (.int p1)] [(.int (0 : Int32)), (.int (4 : Int32))]))
              refine own_go (fun t k => XS.iconst X150.here hx rfl (hb hby at_112) k) ?_
              show own_Gl _ _ _ _ (T150.setTop (mkF m 113 #[.val (.int p0), .val (.int p1), .val (.int p2), .val (.int p3), .val (.int p4), .val (.int (4 : Int32)), .val (.ref b140), .val (.int (0 : Int32)), .val (.int p1)] [(.int (2 : Int32)), (.int (0 : Int32)), (.int (4 : Int32))]))
              refine own_go (fun t k => XS.iloadN X150.here hx rfl (hb hby at_113) rfl k) ?_
              show own_Gl _ _ _ _ (T150.setTop (mkF m 114 #[.val (.int p0), .val (.int p1), .val (.int p2), .val (.int p3), .val (.int p4), .val (.int (4 : Int32)), .val (.ref b140), .val (.int (0 : Int32)), .val (.int p1)] [(.int p3), (.int (2 : Int32)), (.int (0 : Int32)), (.int (4 : Int32))]))
              refine own_go (fun t k => XS.iload X150.here hx rfl (hb hby at_114) rfl k) ?_
              show own_Gl _ _ _ _ (T150.setTop (mkF m 116 #[.val (.int p0), .val (.int p1), .val (.int p2), .val (.int p3), .val (.int p4), .val (.int (4 : Int32)), .val (.ref b140), .val (.int (0 : Int32)), .val (.int p1)] [(.int p1), (.int p3), (.int (2 : Int32)), (.int (0 : Int32)), (.int (4 : Int32))]))
              obtain ⟨_, _, ⟨T152, L152, kk152, nn152⟩, -, X152, ⟨Lc152, hQ152, l152, y152, z152⟩, st152⟩ := Jvm.LawKit.callS X150 hx (y := (⟨"com/example/sixfold/sixfold/rows/RowsFewestPinLaw", "fits", "(IIIII)Z"⟩ : MethodName)) hown (mvT hZ (hw _ (List.mem_of_getElem? (i := 5) rfl))) (mvT hZ (hw _ (List.mem_of_getElem? (i := 6) rfl))) (mvT hZ (hw _ (List.mem_of_getElem? (i := 7) rfl))) (mvT hZ (hw _ (List.mem_of_getElem? (i := 8) rfl))) (by decide) (backOf (W := 0) (rm2 l Z a0 hw [] (4 : Int32) (0 : Int32) (2 : Int32) p3 p1 h144 n0 Z144 ) hZ (hw _ (List.mem_of_getElem? (i := 8) rfl)) (hw _ (List.mem_of_getElem? (i := 7) rfl)) (by decide) (by decide)) (g := (mkF m 116 #[.val (.int p0), .val (.int p1), .val (.int p2), .val (.int p3), .val (.int p4), .val (.int (4 : Int32)), .val (.ref b140), .val (.int (0 : Int32)), .val (.int p1)] [(.int p1), (.int p3), (.int (2 : Int32)), (.int (0 : Int32)), (.int (4 : Int32))])) rfl (by rw [hml]; rfl) (argsL := [(.int (4 : Int32)), (.int (0 : Int32)), (.int (2 : Int32)), (.int p3), (.int p1)]) (rest := []) (lenOf pd_1 rfl) rfl (by show 2 * 0 + _ ≤ _; exact Nat.le_of_eq rfl) (hb hby at_116) (fun _ _ => ⟨rfl, hq150, (by decide : 1 + 0 ≤ _), (by decide : 4 + 0 ≤ _)⟩)
              dsimp only [Pt.U, Pt.locs, Pt.cells, Pt.slots] at X152 l152 y152 z152 st152 hQ152
              subst l152 y152 z152
              obtain ⟨N152q, rfl, hq152⟩ := hQ152
              have N152 := Fr.app N150 N152q
              refine own_go (fun t k => st152 _ k) ?_
              show own_Gl _ _ _ _ (T152.setTop (mkF m 119 #[.val (.int p0), .val (.int p1), .val (.int p2), .val (.int p3), .val (.int p4), .val (.int (4 : Int32)), .val (.ref b140), .val (.int (0 : Int32)), .val (.int p1)] [(.int (f2 (4 : Int32) (0 : Int32) (2 : Int32) p3 p1))]))
              by_cases hc119_153 : (f2 (4 : Int32) (0 : Int32) (2 : Int32) p3 p1) = (0 : Int32)
              · refine own_go (fun t k => XS.ifYes X152.here hx rfl (pc0 := 119) (pc' := 141) rfl (hb hby at_119) rfl ((if0 _ _).trans (teq hc119_153).1) (by decide) (by decide) k) ?_
                show own_Gl _ _ _ _ (T152.setTop (mkF m 141 #[.val (.int p0), .val (.int p1), .val (.int p2), .val (.int p3), .val (.int p4), .val (.int (4 : Int32)), .val (.ref b140), .val (.int (0 : Int32)), .val (.int p1)] []))
                refine own_go (fun t k => XS.iconst X152.here hx rfl (hb hby at_141) k) ?_
                show own_Gl _ _ _ _ (T152.setTop (mkF m 142 #[.val (.int p0), .val (.int p1), .val (.int p2), .val (.int p3), .val (.int p4), .val (.int (4 : Int32)), .val (.ref b140), .val (.int (0 : Int32)), .val (.int p1)] [(.int (0 : Int32))]))
                obtain ⟨fs, hr, hrun, hended, hW, hsame⟩ := X152.leave (v := some (.int (0 : Int32))) (fun h => by rw [Bd.returns] at h; cases h)
                refine own_fin (retN X152 hx (t := .boolean) Bd.returns (by simp) (hb hby at_142) hr) hrun hended ⟨_, _, rfl, ?_, ⟨_, rfl⟩, hW, hsame.mono (by decide) (by decide)⟩
                show Q0 Z p0 p1 p2 p3 p4 h0 n0 _ T152.heap _
                rw [hq152]
                exact ⟨N152, by rw [f0, if_neg hc3_64, if_neg hc3_78, if_neg hc3_103, if_pos hc57_146, if_neg hc91_149, if_neg hc105_151, if_pos hc119_153]⟩
              · refine own_go (fun t k => XS.ifNo X152.here hx rfl (hb hby at_119) rfl ((if0 _ _).trans (feq hc119_153).1) k) ?_
                show own_Gl _ _ _ _ (T152.setTop (mkF m 122 #[.val (.int p0), .val (.int p1), .val (.int p2), .val (.int p3), .val (.int p4), .val (.int (4 : Int32)), .val (.ref b140), .val (.int (0 : Int32)), .val (.int p1)] []))
                refine own_go (fun t k => XS.iload X152.here hx rfl (hb hby at_122) rfl k) ?_
                show own_Gl _ _ _ _ (T152.setTop (mkF m 124 #[.val (.int p0), .val (.int p1), .val (.int p2), .val (.int p3), .val (.int p4), .val (.int (4 : Int32)), .val (.ref b140), .val (.int (0 : Int32)), .val (.int p1)] [(.int (4 : Int32))]))
                refine own_go (fun t k => XS.iload X152.here hx rfl (hb hby at_124) rfl k) ?_
                show own_Gl _ _ _ _ (T152.setTop (mkF m 126 #[.val (.int p0), .val (.int p1), .val (.int p2), .val (.int p3), .val (.int p4), .val (.int (4 : Int32)), .val (.ref b140), .val (.int (0 : Int32)), .val (.int p1)] [(.int (0 : Int32)), (.int (4 : Int32))]))
                refine own_go (fun t k => XS.iconst X152.here hx rfl (hb hby at_126) k) ?_
                show own_Gl _ _ _ _ (T152.setTop (mkF m 127 #[.val (.int p0), .val (.int p1), .val (.int p2), .val (.int p3), .val (.int p4), .val (.int (4 : Int32)), .val (.ref b140), .val (.int (0 : Int32)), .val (.int p1)] [(.int (3 : Int32)), (.int (0 : Int32)), (.int (4 : Int32))]))
                refine own_go (fun t k => XS.iload X152.here hx rfl (hb hby at_127) rfl k) ?_
                show own_Gl _ _ _ _ (T152.setTop (mkF m 129 #[.val (.int p0), .val (.int p1), .val (.int p2), .val (.int p3), .val (.int p4), .val (.int (4 : Int32)), .val (.ref b140), .val (.int (0 : Int32)), .val (.int p1)] [(.int p4), (.int (3 : Int32)), (.int (0 : Int32)), (.int (4 : Int32))]))
                refine own_go (fun t k => XS.iload X152.here hx rfl (hb hby at_129) rfl k) ?_
                show own_Gl _ _ _ _ (T152.setTop (mkF m 131 #[.val (.int p0), .val (.int p1), .val (.int p2), .val (.int p3), .val (.int p4), .val (.int (4 : Int32)), .val (.ref b140), .val (.int (0 : Int32)), .val (.int p1)] [(.int p1), (.int p4), (.int (3 : Int32)), (.int (0 : Int32)), (.int (4 : Int32))]))
                obtain ⟨_, _, ⟨T154, L154, kk154, nn154⟩, -, X154, ⟨Lc154, hQ154, l154, y154, z154⟩, st154⟩ := Jvm.LawKit.callS X152 hx (y := (⟨"com/example/sixfold/sixfold/rows/RowsFewestPinLaw", "fits", "(IIIII)Z"⟩ : MethodName)) hown (mvT hZ (hw _ (List.mem_of_getElem? (i := 5) rfl))) (mvT hZ (hw _ (List.mem_of_getElem? (i := 6) rfl))) (mvT hZ (hw _ (List.mem_of_getElem? (i := 7) rfl))) (mvT hZ (hw _ (List.mem_of_getElem? (i := 8) rfl))) (by decide) (backOf (W := 0) (rm2 l Z a0 hw [] (4 : Int32) (0 : Int32) (3 : Int32) p4 p1 h144 n0 Z144 ) hZ (hw _ (List.mem_of_getElem? (i := 8) rfl)) (hw _ (List.mem_of_getElem? (i := 7) rfl)) (by decide) (by decide)) (g := (mkF m 131 #[.val (.int p0), .val (.int p1), .val (.int p2), .val (.int p3), .val (.int p4), .val (.int (4 : Int32)), .val (.ref b140), .val (.int (0 : Int32)), .val (.int p1)] [(.int p1), (.int p4), (.int (3 : Int32)), (.int (0 : Int32)), (.int (4 : Int32))])) rfl (by rw [hml]; rfl) (argsL := [(.int (4 : Int32)), (.int (0 : Int32)), (.int (3 : Int32)), (.int p4), (.int p1)]) (rest := []) (lenOf pd_1 rfl) rfl (by show 2 * 0 + _ ≤ _; exact Nat.le_of_eq rfl) (hb hby at_131) (fun _ _ => ⟨rfl, hq152, (by decide : 1 + 0 ≤ _), (by decide : 4 + 0 ≤ _)⟩)
                dsimp only [Pt.U, Pt.locs, Pt.cells, Pt.slots] at X154 l154 y154 z154 st154 hQ154
                subst l154 y154 z154
                obtain ⟨N154q, rfl, hq154⟩ := hQ154
                have N154 := Fr.app N152 N154q
                refine own_go (fun t k => st154 _ k) ?_
                show own_Gl _ _ _ _ (T154.setTop (mkF m 134 #[.val (.int p0), .val (.int p1), .val (.int p2), .val (.int p3), .val (.int p4), .val (.int (4 : Int32)), .val (.ref b140), .val (.int (0 : Int32)), .val (.int p1)] [(.int (f2 (4 : Int32) (0 : Int32) (3 : Int32) p4 p1))]))
                by_cases hc134_155 : (f2 (4 : Int32) (0 : Int32) (3 : Int32) p4 p1) = (0 : Int32)
                · refine own_go (fun t k => XS.ifYes X154.here hx rfl (pc0 := 134) (pc' := 141) rfl (hb hby at_134) rfl ((if0 _ _).trans (teq hc134_155).1) (by decide) (by decide) k) ?_
                  show own_Gl _ _ _ _ (T154.setTop (mkF m 141 #[.val (.int p0), .val (.int p1), .val (.int p2), .val (.int p3), .val (.int p4), .val (.int (4 : Int32)), .val (.ref b140), .val (.int (0 : Int32)), .val (.int p1)] []))
                  refine own_go (fun t k => XS.iconst X154.here hx rfl (hb hby at_141) k) ?_
                  show own_Gl _ _ _ _ (T154.setTop (mkF m 142 #[.val (.int p0), .val (.int p1), .val (.int p2), .val (.int p3), .val (.int p4), .val (.int (4 : Int32)), .val (.ref b140), .val (.int (0 : Int32)), .val (.int p1)] [(.int (0 : Int32))]))
                  obtain ⟨fs, hr, hrun, hended, hW, hsame⟩ := X154.leave (v := some (.int (0 : Int32))) (fun h => by rw [Bd.returns] at h; cases h)
                  refine own_fin (retN X154 hx (t := .boolean) Bd.returns (by simp) (hb hby at_142) hr) hrun hended ⟨_, _, rfl, ?_, ⟨_, rfl⟩, hW, hsame.mono (by decide) (by decide)⟩
                  show Q0 Z p0 p1 p2 p3 p4 h0 n0 _ T154.heap _
                  rw [hq154]
                  exact ⟨N154, by rw [f0, if_neg hc3_64, if_neg hc3_78, if_neg hc3_103, if_pos hc57_146, if_neg hc91_149, if_neg hc105_151, if_neg hc119_153, if_pos hc134_155]⟩
                · refine own_go (fun t k => XS.ifNo X154.here hx rfl (hb hby at_134) rfl ((if0 _ _).trans (feq hc134_155).1) k) ?_
                  show own_Gl _ _ _ _ (T154.setTop (mkF m 137 #[.val (.int p0), .val (.int p1), .val (.int p2), .val (.int p3), .val (.int p4), .val (.int (4 : Int32)), .val (.ref b140), .val (.int (0 : Int32)), .val (.int p1)] []))
                  refine own_go (fun t k => XS.iconst X154.here hx rfl (hb hby at_137) k) ?_
                  show own_Gl _ _ _ _ (T154.setTop (mkF m 138 #[.val (.int p0), .val (.int p1), .val (.int p2), .val (.int p3), .val (.int p4), .val (.int (4 : Int32)), .val (.ref b140), .val (.int (0 : Int32)), .val (.int p1)] [(.int (1 : Int32))]))
                  refine own_go (fun t k => XS.goto X154.here hx rfl (pc0 := 138) (pc' := 142) rfl (hb hby at_138) (by decide) (by decide) k) ?_
                  show own_Gl _ _ _ _ (T154.setTop (mkF m 142 #[.val (.int p0), .val (.int p1), .val (.int p2), .val (.int p3), .val (.int p4), .val (.int (4 : Int32)), .val (.ref b140), .val (.int (0 : Int32)), .val (.int p1)] [(.int (1 : Int32))]))
                  obtain ⟨fs, hr, hrun, hended, hW, hsame⟩ := X154.leave (v := some (.int (1 : Int32))) (fun h => by rw [Bd.returns] at h; cases h)
                  refine own_fin (retN X154 hx (t := .boolean) Bd.returns (by simp) (hb hby at_142) hr) hrun hended ⟨_, _, rfl, ?_, ⟨_, rfl⟩, hW, hsame.mono (by decide) (by decide)⟩
                  show Q0 Z p0 p1 p2 p3 p4 h0 n0 _ T154.heap _
                  rw [hq154]
                  exact ⟨N154, by rw [f0, if_neg hc3_64, if_neg hc3_78, if_neg hc3_103, if_pos hc57_146, if_neg hc91_149, if_neg hc105_151, if_neg hc119_153, if_neg hc134_155]⟩
        · by_cases hc57_156 : (f1_4 p1 p2 p3 p4) = (1 : Int32)
          · rw [hc57_156]
            show own_Gl _ _ _ _ (T145.setTop (mkF m 57 #[.val (.int p0), .val (.int p1), .val (.int p2), .val (.int p3), .val (.int p4), .val (.int (4 : Int32)), .val (.ref b140), .unset, .unset] [(.int (1 : Int32))]))
            refine own_go (fun t k => XS.istore X145.here hx rfl (hb hby at_57) rfl (l' := #[.val (.int p0), .val (.int p1), .val (.int p2), .val (.int p3), .val (.int p4), .val (.int (4 : Int32)), .val (.ref b140), .val (.int (1 : Int32)), .unset]) rfl k) ?_
            show own_Gl _ _ _ _ (T145.setTop (mkF m 59 #[.val (.int p0), .val (.int p1), .val (.int p2), .val (.int p3), .val (.int p4), .val (.int (4 : Int32)), .val (.ref b140), .val (.int (1 : Int32)), .unset] []))
            refine own_go (fun t k => XS.iload X145.here hx rfl (hb hby at_59) rfl k) ?_
            show own_Gl _ _ _ _ (T145.setTop (mkF m 61 #[.val (.int p0), .val (.int p1), .val (.int p2), .val (.int p3), .val (.int p4), .val (.int (4 : Int32)), .val (.ref b140), .val (.int (1 : Int32)), .unset] [(.int (1 : Int32))]))
            refine own_go (fun t k => XS.ifNo X145.here hx rfl (hb hby at_61) rfl ((if0 _ _).trans (flt (by decide : ¬ ((1 : Int32) < (0 : Int32)))).1) k) ?_
            show own_Gl _ _ _ _ (T145.setTop (mkF m 64 #[.val (.int p0), .val (.int p1), .val (.int p2), .val (.int p3), .val (.int p4), .val (.int (4 : Int32)), .val (.ref b140), .val (.int (1 : Int32)), .unset] []))
            refine own_go (fun t k => XS.iload X145.here hx rfl (hb hby at_64) rfl k) ?_
            show own_Gl _ _ _ _ (T145.setTop (mkF m 66 #[.val (.int p0), .val (.int p1), .val (.int p2), .val (.int p3), .val (.int p4), .val (.int (4 : Int32)), .val (.ref b140), .val (.int (1 : Int32)), .unset] [(.int (1 : Int32))]))
            refine own_go (fun t k => XS.iload X145.here hx rfl (hb hby at_66) rfl k) ?_
            show own_Gl _ _ _ _ (T145.setTop (mkF m 68 #[.val (.int p0), .val (.int p1), .val (.int p2), .val (.int p3), .val (.int p4), .val (.int (4 : Int32)), .val (.ref b140), .val (.int (1 : Int32)), .unset] [(.int (4 : Int32)), (.int (1 : Int32))]))
            refine own_go (fun t k => XS.icmpYes X145.here hx rfl (pc0 := 68) (pc' := 73) rfl (hb hby at_68) rfl (tlt (by decide : (1 : Int32) < (4 : Int32))).1 (by decide) (by decide) k) ?_
            show own_Gl _ _ _ _ (T145.setTop (mkF m 73 #[.val (.int p0), .val (.int p1), .val (.int p2), .val (.int p3), .val (.int p4), .val (.int (4 : Int32)), .val (.ref b140), .val (.int (1 : Int32)), .unset] []))
            refine own_go (fun t k => XS.aload X145.here hx rfl (hb hby at_73) rfl rfl k) ?_
            show own_Gl _ _ _ _ (T145.setTop (mkF m 75 #[.val (.int p0), .val (.int p1), .val (.int p2), .val (.int p3), .val (.int p4), .val (.int (4 : Int32)), .val (.ref b140), .val (.int (1 : Int32)), .unset] [(.ref b140)]))
            refine own_go (fun t k => XS.iload X145.here hx rfl (hb hby at_75) rfl k) ?_
            show own_Gl _ _ _ _ (T145.setTop (mkF m 77 #[.val (.int p0), .val (.int p1), .val (.int p2), .val (.int p3), .val (.int p4), .val (.int (4 : Int32)), .val (.ref b140), .val (.int (1 : Int32)), .unset] [(.int (1 : Int32)), (.ref b140)]))
            obtain ⟨cl157, Ar157, qk157, S157, M157, H157, G157⟩ := id V144
            have hin157 : ¬ ((1 : Int32) < 0 ∨ cl157.slots.size ≤ ((1 : Int32)).toNatClampNeg) := inb_of S157 ⟨by decide, by decide⟩
            have hat157 : cl157.slots[((1 : Int32)).toNatClampNeg]? = some (.int p2) := H157.at hin157 rfl
            refine own_go (fun t k => X145.iaload hx (j := (1 : Int32)) (v := (.int p2)) (by rw [hq145]; exact Ar157.1) (State.isArrayOf_alike hZ.alike Ar157.2.1) Ar157.2.2 hin157 hat157 (g := (mkF m 77 #[.val (.int p0), .val (.int p1), .val (.int p2), .val (.int p3), .val (.int p4), .val (.int (4 : Int32)), .val (.ref b140), .val (.int (1 : Int32)), .unset] [(.int (1 : Int32)), (.ref b140)])) rfl rfl (hb hby at_77) _ k) ?_
            show own_Gl _ _ _ _ (T145.setTop (mkF m 78 #[.val (.int p0), .val (.int p1), .val (.int p2), .val (.int p3), .val (.int p4), .val (.int (4 : Int32)), .val (.ref b140), .val (.int (1 : Int32)), .unset] [(.int p2)]))
            refine own_go (fun t k => XS.istore X145.here hx rfl (hb hby at_78) rfl (l' := #[.val (.int p0), .val (.int p1), .val (.int p2), .val (.int p3), .val (.int p4), .val (.int (4 : Int32)), .val (.ref b140), .val (.int (1 : Int32)), .val (.int p2)]) rfl k) ?_
            show own_Gl _ _ _ _ (T145.setTop (mkF m 80 #[.val (.int p0), .val (.int p1), .val (.int p2), .val (.int p3), .val (.int p4), .val (.int (4 : Int32)), .val (.ref b140), .val (.int (1 : Int32)), .val (.int p2)] []))
            refine own_go (fun t k => XS.iload X145.here hx rfl (hb hby at_80) rfl k) ?_
            show own_Gl _ _ _ _ (T145.setTop (mkF m 82 #[.val (.int p0), .val (.int p1), .val (.int p2), .val (.int p3), .val (.int p4), .val (.int (4 : Int32)), .val (.ref b140), .val (.int (1 : Int32)), .val (.int p2)] [(.int (4 : Int32))]))
            refine own_go (fun t k => XS.iload X145.here hx rfl (hb hby at_82) rfl k) ?_
            show own_Gl _ _ _ _ (T145.setTop (mkF m 84 #[.val (.int p0), .val (.int p1), .val (.int p2), .val (.int p3), .val (.int p4), .val (.int (4 : Int32)), .val (.ref b140), .val (.int (1 : Int32)), .val (.int p2)] [(.int (1 : Int32)), (.int (4 : Int32))]))
            refine own_go (fun t k => XS.iconst X145.here hx rfl (hb hby at_84) k) ?_
            show own_Gl _ _ _ _ (T145.setTop (mkF m 85 #[.val (.int p0), .val (.int p1), .val (.int p2), .val (.int p3), .val (.int p4), .val (.int (4 : Int32)), .val (.ref b140), .val (.int (1 : Int32)), .val (.int p2)] [(.int (0 : Int32)), (.int (1 : Int32)), (.int (4 : Int32))]))
            refine own_go (fun t k => XS.iloadN X145.here hx rfl (hb hby at_85) rfl k) ?_
            show own_Gl _ _ _ _ (T145.setTop (mkF m 86 #[.val (.int p0), .val (.int p1), .val (.int p2), .val (.int p3), .val (.int p4), .val (.int (4 : Int32)), .val (.ref b140), .val (.int (1 : Int32)), .val (.int p2)] [(.int p1), (.int (0 : Int32)), (.int (1 : Int32)), (.int (4 : Int32))]))
            refine own_go (fun t k => XS.iload X145.here hx rfl (hb hby at_86) rfl k) ?_
            show own_Gl _ _ _ _ (T145.setTop (mkF m 88 #[.val (.int p0), .val (.int p1), .val (.int p2), .val (.int p3), .val (.int p4), .val (.int (4 : Int32)), .val (.ref b140), .val (.int (1 : Int32)), .val (.int p2)] [(.int p2), (.int p1), (.int (0 : Int32)), (.int (1 : Int32)), (.int (4 : Int32))]))
            obtain ⟨_, _, ⟨T158, L158, kk158, nn158⟩, -, X158, ⟨Lc158, hQ158, l158, y158, z158⟩, st158⟩ := Jvm.LawKit.callS X145 hx (y := (⟨"com/example/sixfold/sixfold/rows/RowsFewestPinLaw", "fits", "(IIIII)Z"⟩ : MethodName)) hown (mvT hZ (hw _ (List.mem_of_getElem? (i := 5) rfl))) (mvT hZ (hw _ (List.mem_of_getElem? (i := 6) rfl))) (mvT hZ (hw _ (List.mem_of_getElem? (i := 7) rfl))) (mvT hZ (hw _ (List.mem_of_getElem? (i := 8) rfl))) (by decide) (backOf (W := 0) (rm2 l Z a0 hw [] (4 : Int32) (1 : Int32) (0 : Int32) p1 p2 h144 n0 Z144 ) hZ (hw _ (List.mem_of_getElem? (i := 8) rfl)) (hw _ (List.mem_of_getElem? (i := 7) rfl)) (by decide) (by decide)) (g := (mkF m 88 #[.val (.int p0), .val (.int p1), .val (.int p2), .val (.int p3), .val (.int p4), .val (.int (4 : Int32)), .val (.ref b140), .val (.int (1 : Int32)), .val (.int p2)] [(.int p2), (.int p1), (.int (0 : Int32)), (.int (1 : Int32)), (.int (4 : Int32))])) rfl (by rw [hml]; rfl) (argsL := [(.int (4 : Int32)), (.int (1 : Int32)), (.int (0 : Int32)), (.int p1), (.int p2)]) (rest := []) (lenOf pd_1 rfl) rfl (by show 2 * 0 + _ ≤ _; exact Nat.le_of_eq rfl) (hb hby at_88) (fun _ _ => ⟨rfl, hq145, (by decide : 1 + 0 ≤ _), (by decide : 4 + 0 ≤ _)⟩)
            dsimp only [Pt.U, Pt.locs, Pt.cells, Pt.slots] at X158 l158 y158 z158 st158 hQ158
            subst l158 y158 z158
            obtain ⟨N158q, rfl, hq158⟩ := hQ158
            have N158 := Fr.app N145 N158q
            refine own_go (fun t k => st158 _ k) ?_
            show own_Gl _ _ _ _ (T158.setTop (mkF m 91 #[.val (.int p0), .val (.int p1), .val (.int p2), .val (.int p3), .val (.int p4), .val (.int (4 : Int32)), .val (.ref b140), .val (.int (1 : Int32)), .val (.int p2)] [(.int (f2 (4 : Int32) (1 : Int32) (0 : Int32) p1 p2))]))
            by_cases hc91_159 : (f2 (4 : Int32) (1 : Int32) (0 : Int32) p1 p2) = (0 : Int32)
            · refine own_go (fun t k => XS.ifYes X158.here hx rfl (pc0 := 91) (pc' := 141) rfl (hb hby at_91) rfl ((if0 _ _).trans (teq hc91_159).1) (by decide) (by decide) k) ?_
              show own_Gl _ _ _ _ (T158.setTop (mkF m 141 #[.val (.int p0), .val (.int p1), .val (.int p2), .val (.int p3), .val (.int p4), .val (.int (4 : Int32)), .val (.ref b140), .val (.int (1 : Int32)), .val (.int p2)] []))
              refine own_go (fun t k => XS.iconst X158.here hx rfl (hb hby at_141) k) ?_
              show own_Gl _ _ _ _ (T158.setTop (mkF m 142 #[.val (.int p0), .val (.int p1), .val (.int p2), .val (.int p3), .val (.int p4), .val (.int (4 : Int32)), .val (.ref b140), .val (.int (1 : Int32)), .val (.int p2)] [(.int (0 : Int32))]))
              obtain ⟨fs, hr, hrun, hended, hW, hsame⟩ := X158.leave (v := some (.int (0 : Int32))) (fun h => by rw [Bd.returns] at h; cases h)
              refine own_fin (retN X158 hx (t := .boolean) Bd.returns (by simp) (hb hby at_142) hr) hrun hended ⟨_, _, rfl, ?_, ⟨_, rfl⟩, hW, hsame.mono (by decide) (by decide)⟩
              show Q0 Z p0 p1 p2 p3 p4 h0 n0 _ T158.heap _
              rw [hq158]
              exact ⟨N158, by rw [f0, if_neg hc3_64, if_neg hc3_78, if_neg hc3_103, if_neg hc57_146, if_pos hc57_156, if_pos hc91_159]⟩
            · refine own_go (fun t k => XS.ifNo X158.here hx rfl (hb hby at_91) rfl ((if0 _ _).trans (feq hc91_159).1) k) ?_
              show own_Gl _ _ _ _ (T158.setTop (mkF m 94 #[.val (.int p0), .val (.int p1), .val (.int p2), .val (.int p3), .val (.int p4), .val (.int (4 : Int32)), .val (.ref b140), .val (.int (1 : Int32)), .val (.int p2)] []))
              refine own_go (fun t k => XS.iload X158.here hx rfl (hb hby at_94) rfl k) ?_
              show own_Gl _ _ _ _ (T158.setTop (mkF m 96 #[.val (.int p0), .val (.int p1), .val (.int p2), .val (.int p3), .val (.int p4), .val (.int (4 : Int32)), .val (.ref b140), .val (.int (1 : Int32)), .val (.int p2)] [(.int (4 : Int32))]))
              refine own_go (fun t k => XS.iload X158.here hx rfl (hb hby at_96) rfl k) ?_
              show own_Gl _ _ _ _ (T158.setTop (mkF m 98 #[.val (.int p0), .val (.int p1), .val (.int p2), .val (.int p3), .val (.int p4), .val (.int (4 : Int32)), .val (.ref b140), .val (.int (1 : Int32)), .val (.int p2)] [(.int (1 : Int32)), (.int (4 : Int32))]))
              refine own_go (fun t k => XS.iconst X158.here hx rfl (hb hby at_98) k) ?_
              show own_Gl _ _ _ _ (T158.setTop (mkF m 99 #[.val (.int p0), .val (.int p1), .val (.int p2), .val (.int p3), .val (.int p4), .val (.int (4 : Int32)), .val (.ref b140), .val (.int (1 : Int32)), .val (.int p2)] [(.int (1 : Int32)), (.int (1 : Int32)), (.int (4 : Int32))]))
              refine own_go (fun t k => XS.iloadN X158.here hx rfl (hb hby at_99) rfl k) ?_
              show own_Gl _ _ _ _ (T158.setTop (mkF m 100 #[.val (.int p0), .val (.int p1), .val (.int p2), .val (.int p3), .val (.int p4), .val (.int (4 : Int32)), .val (.ref b140), .val (.int (1 : Int32)), .val (.int p2)] [(.int p2), (.int (1 : Int32)), (.int (1 : Int32)), (.int (4 : Int32))]))
              refine own_go (fun t k => XS.iload X158.here hx rfl (hb hby at_100) rfl k) ?_
              show own_Gl _ _ _ _ (T158.setTop (mkF m 102 #[.val (.int p0), .val (.int p1), .val (.int p2), .val (.int p3), .val (.int p4), .val (.int (4 : Int32)), .val (.ref b140), .val (.int (1 : Int32)), .val (.int p2)] [(.int p2), (.int p2), (.int (1 : Int32)), (.int (1 : Int32)), (.int (4 : Int32))]))
              obtain ⟨_, _, ⟨T160, L160, kk160, nn160⟩, -, X160, ⟨Lc160, hQ160, l160, y160, z160⟩, st160⟩ := Jvm.LawKit.callS X158 hx (y := (⟨"com/example/sixfold/sixfold/rows/RowsFewestPinLaw", "fits", "(IIIII)Z"⟩ : MethodName)) hown (mvT hZ (hw _ (List.mem_of_getElem? (i := 5) rfl))) (mvT hZ (hw _ (List.mem_of_getElem? (i := 6) rfl))) (mvT hZ (hw _ (List.mem_of_getElem? (i := 7) rfl))) (mvT hZ (hw _ (List.mem_of_getElem? (i := 8) rfl))) (by decide) (backOf (W := 0) (rm2 l Z a0 hw [] (4 : Int32) (1 : Int32) (1 : Int32) p2 p2 h144 n0 Z144 ) hZ (hw _ (List.mem_of_getElem? (i := 8) rfl)) (hw _ (List.mem_of_getElem? (i := 7) rfl)) (by decide) (by decide)) (g := (mkF m 102 #[.val (.int p0), .val (.int p1), .val (.int p2), .val (.int p3), .val (.int p4), .val (.int (4 : Int32)), .val (.ref b140), .val (.int (1 : Int32)), .val (.int p2)] [(.int p2), (.int p2), (.int (1 : Int32)), (.int (1 : Int32)), (.int (4 : Int32))])) rfl (by rw [hml]; rfl) (argsL := [(.int (4 : Int32)), (.int (1 : Int32)), (.int (1 : Int32)), (.int p2), (.int p2)]) (rest := []) (lenOf pd_1 rfl) rfl (by show 2 * 0 + _ ≤ _; exact Nat.le_of_eq rfl) (hb hby at_102) (fun _ _ => ⟨rfl, hq158, (by decide : 1 + 0 ≤ _), (by decide : 4 + 0 ≤ _)⟩)
              dsimp only [Pt.U, Pt.locs, Pt.cells, Pt.slots] at X160 l160 y160 z160 st160 hQ160
              subst l160 y160 z160
              obtain ⟨N160q, rfl, hq160⟩ := hQ160
              have N160 := Fr.app N158 N160q
              refine own_go (fun t k => st160 _ k) ?_
              show own_Gl _ _ _ _ (T160.setTop (mkF m 105 #[.val (.int p0), .val (.int p1), .val (.int p2), .val (.int p3), .val (.int p4), .val (.int (4 : Int32)), .val (.ref b140), .val (.int (1 : Int32)), .val (.int p2)] [(.int (f2 (4 : Int32) (1 : Int32) (1 : Int32) p2 p2))]))
              by_cases hc105_161 : (f2 (4 : Int32) (1 : Int32) (1 : Int32) p2 p2) = (0 : Int32)
              · refine own_go (fun t k => XS.ifYes X160.here hx rfl (pc0 := 105) (pc' := 141) rfl (hb hby at_105) rfl ((if0 _ _).trans (teq hc105_161).1) (by decide) (by decide) k) ?_
                show own_Gl _ _ _ _ (T160.setTop (mkF m 141 #[.val (.int p0), .val (.int p1), .val (.int p2), .val (.int p3), .val (.int p4), .val (.int (4 : Int32)), .val (.ref b140), .val (.int (1 : Int32)), .val (.int p2)] []))
                refine own_go (fun t k => XS.iconst X160.here hx rfl (hb hby at_141) k) ?_
                show own_Gl _ _ _ _ (T160.setTop (mkF m 142 #[.val (.int p0), .val (.int p1), .val (.int p2), .val (.int p3), .val (.int p4), .val (.int (4 : Int32)), .val (.ref b140), .val (.int (1 : Int32)), .val (.int p2)] [(.int (0 : Int32))]))
                obtain ⟨fs, hr, hrun, hended, hW, hsame⟩ := X160.leave (v := some (.int (0 : Int32))) (fun h => by rw [Bd.returns] at h; cases h)
                refine own_fin (retN X160 hx (t := .boolean) Bd.returns (by simp) (hb hby at_142) hr) hrun hended ⟨_, _, rfl, ?_, ⟨_, rfl⟩, hW, hsame.mono (by decide) (by decide)⟩
                show Q0 Z p0 p1 p2 p3 p4 h0 n0 _ T160.heap _
                rw [hq160]
                exact ⟨N160, by rw [f0, if_neg hc3_64, if_neg hc3_78, if_neg hc3_103, if_neg hc57_146, if_pos hc57_156, if_neg hc91_159, if_pos hc105_161]⟩
              · refine own_go (fun t k => XS.ifNo X160.here hx rfl (hb hby at_105) rfl ((if0 _ _).trans (feq hc105_161).1) k) ?_
                show own_Gl _ _ _ _ (T160.setTop (mkF m 108 #[.val (.int p0), .val (.int p1), .val (.int p2), .val (.int p3), .val (.int p4), .val (.int (4 : Int32)), .val (.ref b140), .val (.int (1 : Int32)), .val (.int p2)] []))
                refine own_go (fun t k => XS.iload X160.here hx rfl (hb hby at_108) rfl k) ?_
                show own_Gl _ _ _ _ (T160.setTop (mkF m 110 #[.val (.int p0), .val (.int p1), .val (.int p2), .val (.int p3), .val (.int p4), .val (.int (4 : Int32)), .val (.ref b140), .val (.int (1 : Int32)), .val (.int p2)] [(.int (4 : Int32))]))
                refine own_go (fun t k => XS.iload X160.here hx rfl (hb hby at_110) rfl k) ?_
                show own_Gl _ _ _ _ (T160.setTop (mkF m 112 #[.val (.int p0), .val (.int p1), .val (.int p2), .val (.int p3), .val (.int p4), .val (.int (4 : Int32)), .val (.ref b140), .val (.int (1 : Int32)), .val (.int p2)] [(.int (1 : Int32)), (.int (4 : Int32))]))
                refine own_go (fun t k => XS.iconst X160.here hx rfl (hb hby at_112) k) ?_
                show own_Gl _ _ _ _ (T160.setTop (mkF m 113 #[.val (.int p0), .val (.int p1), .val (.int p2), .val (.int p3), .val (.int p4), .val (.int (4 : Int32)), .val (.ref b140), .val (.int (1 : Int32)), .val (.int p2)] [(.int (2 : Int32)), (.int (1 : Int32)), (.int (4 : Int32))]))
                refine own_go (fun t k => XS.iloadN X160.here hx rfl (hb hby at_113) rfl k) ?_
                show own_Gl _ _ _ _ (T160.setTop (mkF m 114 #[.val (.int p0), .val (.int p1), .val (.int p2), .val (.int p3), .val (.int p4), .val (.int (4 : Int32)), .val (.ref b140), .val (.int (1 : Int32)), .val (.int p2)] [(.int p3), (.int (2 : Int32)), (.int (1 : Int32)), (.int (4 : Int32))]))
                refine own_go (fun t k => XS.iload X160.here hx rfl (hb hby at_114) rfl k) ?_
                show own_Gl _ _ _ _ (T160.setTop (mkF m 116 #[.val (.int p0), .val (.int p1), .val (.int p2), .val (.int p3), .val (.int p4), .val (.int (4 : Int32)), .val (.ref b140), .val (.int (1 : Int32)), .val (.int p2)] [(.int p2), (.int p3), (.int (2 : Int32)), (.int (1 : Int32)), (.int (4 : Int32))]))
                obtain ⟨_, _, ⟨T162, L162, kk162, nn162⟩, -, X162, ⟨Lc162, hQ162, l162, y162, z162⟩, st162⟩ := Jvm.LawKit.callS X160 hx (y := (⟨"com/example/sixfold/sixfold/rows/RowsFewestPinLaw", "fits", "(IIIII)Z"⟩ : MethodName)) hown (mvT hZ (hw _ (List.mem_of_getElem? (i := 5) rfl))) (mvT hZ (hw _ (List.mem_of_getElem? (i := 6) rfl))) (mvT hZ (hw _ (List.mem_of_getElem? (i := 7) rfl))) (mvT hZ (hw _ (List.mem_of_getElem? (i := 8) rfl))) (by decide) (backOf (W := 0) (rm2 l Z a0 hw [] (4 : Int32) (1 : Int32) (2 : Int32) p3 p2 h144 n0 Z144 ) hZ (hw _ (List.mem_of_getElem? (i := 8) rfl)) (hw _ (List.mem_of_getElem? (i := 7) rfl)) (by decide) (by decide)) (g := (mkF m 116 #[.val (.int p0), .val (.int p1), .val (.int p2), .val (.int p3), .val (.int p4), .val (.int (4 : Int32)), .val (.ref b140), .val (.int (1 : Int32)), .val (.int p2)] [(.int p2), (.int p3), (.int (2 : Int32)), (.int (1 : Int32)), (.int (4 : Int32))])) rfl (by rw [hml]; rfl) (argsL := [(.int (4 : Int32)), (.int (1 : Int32)), (.int (2 : Int32)), (.int p3), (.int p2)]) (rest := []) (lenOf pd_1 rfl) rfl (by show 2 * 0 + _ ≤ _; exact Nat.le_of_eq rfl) (hb hby at_116) (fun _ _ => ⟨rfl, hq160, (by decide : 1 + 0 ≤ _), (by decide : 4 + 0 ≤ _)⟩)
                dsimp only [Pt.U, Pt.locs, Pt.cells, Pt.slots] at X162 l162 y162 z162 st162 hQ162
                subst l162 y162 z162
                obtain ⟨N162q, rfl, hq162⟩ := hQ162
                have N162 := Fr.app N160 N162q
                refine own_go (fun t k => st162 _ k) ?_
                show own_Gl _ _ _ _ (T162.setTop (mkF m 119 #[.val (.int p0), .val (.int p1), .val (.int p2), .val (.int p3), .val (.int p4), .val (.int (4 : Int32)), .val (.ref b140), .val (.int (1 : Int32)), .val (.int p2)] [(.int (f2 (4 : Int32) (1 : Int32) (2 : Int32) p3 p2))]))
                by_cases hc119_163 : (f2 (4 : Int32) (1 : Int32) (2 : Int32) p3 p2) = (0 : Int32)
                · refine own_go (fun t k => XS.ifYes X162.here hx rfl (pc0 := 119) (pc' := 141) rfl (hb hby at_119) rfl ((if0 _ _).trans (teq hc119_163).1) (by decide) (by decide) k) ?_
                  show own_Gl _ _ _ _ (T162.setTop (mkF m 141 #[.val (.int p0), .val (.int p1), .val (.int p2), .val (.int p3), .val (.int p4), .val (.int (4 : Int32)), .val (.ref b140), .val (.int (1 : Int32)), .val (.int p2)] []))
                  refine own_go (fun t k => XS.iconst X162.here hx rfl (hb hby at_141) k) ?_
                  show own_Gl _ _ _ _ (T162.setTop (mkF m 142 #[.val (.int p0), .val (.int p1), .val (.int p2), .val (.int p3), .val (.int p4), .val (.int (4 : Int32)), .val (.ref b140), .val (.int (1 : Int32)), .val (.int p2)] [(.int (0 : Int32))]))
                  obtain ⟨fs, hr, hrun, hended, hW, hsame⟩ := X162.leave (v := some (.int (0 : Int32))) (fun h => by rw [Bd.returns] at h; cases h)
                  refine own_fin (retN X162 hx (t := .boolean) Bd.returns (by simp) (hb hby at_142) hr) hrun hended ⟨_, _, rfl, ?_, ⟨_, rfl⟩, hW, hsame.mono (by decide) (by decide)⟩
                  show Q0 Z p0 p1 p2 p3 p4 h0 n0 _ T162.heap _
                  rw [hq162]
                  exact ⟨N162, by rw [f0, if_neg hc3_64, if_neg hc3_78, if_neg hc3_103, if_neg hc57_146, if_pos hc57_156, if_neg hc91_159, if_neg hc105_161, if_pos hc119_163]⟩
                · refine own_go (fun t k => XS.ifNo X162.here hx rfl (hb hby at_119) rfl ((if0 _ _).trans (feq hc119_163).1) k) ?_
                  show own_Gl _ _ _ _ (T162.setTop (mkF m 122 #[.val (.int p0), .val (.int p1), .val (.int p2), .val (.int p3), .val (.int p4), .val (.int (4 : Int32)), .val (.ref b140), .val (.int (1 : Int32)), .val (.int p2)] []))
                  refine own_go (fun t k => XS.iload X162.here hx rfl (hb hby at_122) rfl k) ?_
                  show own_Gl _ _ _ _ (T162.setTop (mkF m 124 #[.val (.int p0), .val (.int p1), .val (.int p2), .val (.int p3), .val (.int p4), .val (.int (4 : Int32)), .val (.ref b140), .val (.int (1 : Int32)), .val (.int p2)] [(.int (4 : Int32))]))
                  refine own_go (fun t k => XS.iload X162.here hx rfl (hb hby at_124) rfl k) ?_
                  show own_Gl _ _ _ _ (T162.setTop (mkF m 126 #[.val (.int p0), .val (.int p1), .val (.int p2), .val (.int p3), .val (.int p4), .val (.int (4 : Int32)), .val (.ref b140), .val (.int (1 : Int32)), .val (.int p2)] [(.int (1 : Int32)), (.int (4 : Int32))]))
                  refine own_go (fun t k => XS.iconst X162.here hx rfl (hb hby at_126) k) ?_
                  show own_Gl _ _ _ _ (T162.setTop (mkF m 127 #[.val (.int p0), .val (.int p1), .val (.int p2), .val (.int p3), .val (.int p4), .val (.int (4 : Int32)), .val (.ref b140), .val (.int (1 : Int32)), .val (.int p2)] [(.int (3 : Int32)), (.int (1 : Int32)), (.int (4 : Int32))]))
                  refine own_go (fun t k => XS.iload X162.here hx rfl (hb hby at_127) rfl k) ?_
                  show own_Gl _ _ _ _ (T162.setTop (mkF m 129 #[.val (.int p0), .val (.int p1), .val (.int p2), .val (.int p3), .val (.int p4), .val (.int (4 : Int32)), .val (.ref b140), .val (.int (1 : Int32)), .val (.int p2)] [(.int p4), (.int (3 : Int32)), (.int (1 : Int32)), (.int (4 : Int32))]))
                  refine own_go (fun t k => XS.iload X162.here hx rfl (hb hby at_129) rfl k) ?_
                  show own_Gl _ _ _ _ (T162.setTop (mkF m 131 #[.val (.int p0), .val (.int p1), .val (.int p2), .val (.int p3), .val (.int p4), .val (.int (4 : Int32)), .val (.ref b140), .val (.int (1 : Int32)), .val (.int p2)] [(.int p2), (.int p4), (.int (3 : Int32)), (.int (1 : Int32)), (.int (4 : Int32))]))
                  obtain ⟨_, _, ⟨T164, L164, kk164, nn164⟩, -, X164, ⟨Lc164, hQ164, l164, y164, z164⟩, st164⟩ := Jvm.LawKit.callS X162 hx (y := (⟨"com/example/sixfold/sixfold/rows/RowsFewestPinLaw", "fits", "(IIIII)Z"⟩ : MethodName)) hown (mvT hZ (hw _ (List.mem_of_getElem? (i := 5) rfl))) (mvT hZ (hw _ (List.mem_of_getElem? (i := 6) rfl))) (mvT hZ (hw _ (List.mem_of_getElem? (i := 7) rfl))) (mvT hZ (hw _ (List.mem_of_getElem? (i := 8) rfl))) (by decide) (backOf (W := 0) (rm2 l Z a0 hw [] (4 : Int32) (1 : Int32) (3 : Int32) p4 p2 h144 n0 Z144 ) hZ (hw _ (List.mem_of_getElem? (i := 8) rfl)) (hw _ (List.mem_of_getElem? (i := 7) rfl)) (by decide) (by decide)) (g := (mkF m 131 #[.val (.int p0), .val (.int p1), .val (.int p2), .val (.int p3), .val (.int p4), .val (.int (4 : Int32)), .val (.ref b140), .val (.int (1 : Int32)), .val (.int p2)] [(.int p2), (.int p4), (.int (3 : Int32)), (.int (1 : Int32)), (.int (4 : Int32))])) rfl (by rw [hml]; rfl) (argsL := [(.int (4 : Int32)), (.int (1 : Int32)), (.int (3 : Int32)), (.int p4), (.int p2)]) (rest := []) (lenOf pd_1 rfl) rfl (by show 2 * 0 + _ ≤ _; exact Nat.le_of_eq rfl) (hb hby at_131) (fun _ _ => ⟨rfl, hq162, (by decide : 1 + 0 ≤ _), (by decide : 4 + 0 ≤ _)⟩)
                  dsimp only [Pt.U, Pt.locs, Pt.cells, Pt.slots] at X164 l164 y164 z164 st164 hQ164
                  subst l164 y164 z164
                  obtain ⟨N164q, rfl, hq164⟩ := hQ164
                  have N164 := Fr.app N162 N164q
                  refine own_go (fun t k => st164 _ k) ?_
                  show own_Gl _ _ _ _ (T164.setTop (mkF m 134 #[.val (.int p0), .val (.int p1), .val (.int p2), .val (.int p3), .val (.int p4), .val (.int (4 : Int32)), .val (.ref b140), .val (.int (1 : Int32)), .val (.int p2)] [(.int (f2 (4 : Int32) (1 : Int32) (3 : Int32) p4 p2))]))
                  by_cases hc134_165 : (f2 (4 : Int32) (1 : Int32) (3 : Int32) p4 p2) = (0 : Int32)
                  · refine own_go (fun t k => XS.ifYes X164.here hx rfl (pc0 := 134) (pc' := 141) rfl (hb hby at_134) rfl ((if0 _ _).trans (teq hc134_165).1) (by decide) (by decide) k) ?_
                    show own_Gl _ _ _ _ (T164.setTop (mkF m 141 #[.val (.int p0), .val (.int p1), .val (.int p2), .val (.int p3), .val (.int p4), .val (.int (4 : Int32)), .val (.ref b140), .val (.int (1 : Int32)), .val (.int p2)] []))
                    refine own_go (fun t k => XS.iconst X164.here hx rfl (hb hby at_141) k) ?_
                    show own_Gl _ _ _ _ (T164.setTop (mkF m 142 #[.val (.int p0), .val (.int p1), .val (.int p2), .val (.int p3), .val (.int p4), .val (.int (4 : Int32)), .val (.ref b140), .val (.int (1 : Int32)), .val (.int p2)] [(.int (0 : Int32))]))
                    obtain ⟨fs, hr, hrun, hended, hW, hsame⟩ := X164.leave (v := some (.int (0 : Int32))) (fun h => by rw [Bd.returns] at h; cases h)
                    refine own_fin (retN X164 hx (t := .boolean) Bd.returns (by simp) (hb hby at_142) hr) hrun hended ⟨_, _, rfl, ?_, ⟨_, rfl⟩, hW, hsame.mono (by decide) (by decide)⟩
                    show Q0 Z p0 p1 p2 p3 p4 h0 n0 _ T164.heap _
                    rw [hq164]
                    exact ⟨N164, by rw [f0, if_neg hc3_64, if_neg hc3_78, if_neg hc3_103, if_neg hc57_146, if_pos hc57_156, if_neg hc91_159, if_neg hc105_161, if_neg hc119_163, if_pos hc134_165]⟩
                  · refine own_go (fun t k => XS.ifNo X164.here hx rfl (hb hby at_134) rfl ((if0 _ _).trans (feq hc134_165).1) k) ?_
                    show own_Gl _ _ _ _ (T164.setTop (mkF m 137 #[.val (.int p0), .val (.int p1), .val (.int p2), .val (.int p3), .val (.int p4), .val (.int (4 : Int32)), .val (.ref b140), .val (.int (1 : Int32)), .val (.int p2)] []))
                    refine own_go (fun t k => XS.iconst X164.here hx rfl (hb hby at_137) k) ?_
                    show own_Gl _ _ _ _ (T164.setTop (mkF m 138 #[.val (.int p0), .val (.int p1), .val (.int p2), .val (.int p3), .val (.int p4), .val (.int (4 : Int32)), .val (.ref b140), .val (.int (1 : Int32)), .val (.int p2)] [(.int (1 : Int32))]))
                    refine own_go (fun t k => XS.goto X164.here hx rfl (pc0 := 138) (pc' := 142) rfl (hb hby at_138) (by decide) (by decide) k) ?_
                    show own_Gl _ _ _ _ (T164.setTop (mkF m 142 #[.val (.int p0), .val (.int p1), .val (.int p2), .val (.int p3), .val (.int p4), .val (.int (4 : Int32)), .val (.ref b140), .val (.int (1 : Int32)), .val (.int p2)] [(.int (1 : Int32))]))
                    obtain ⟨fs, hr, hrun, hended, hW, hsame⟩ := X164.leave (v := some (.int (1 : Int32))) (fun h => by rw [Bd.returns] at h; cases h)
                    refine own_fin (retN X164 hx (t := .boolean) Bd.returns (by simp) (hb hby at_142) hr) hrun hended ⟨_, _, rfl, ?_, ⟨_, rfl⟩, hW, hsame.mono (by decide) (by decide)⟩
                    show Q0 Z p0 p1 p2 p3 p4 h0 n0 _ T164.heap _
                    rw [hq164]
                    exact ⟨N164, by rw [f0, if_neg hc3_64, if_neg hc3_78, if_neg hc3_103, if_neg hc57_146, if_pos hc57_156, if_neg hc91_159, if_neg hc105_161, if_neg hc119_163, if_neg hc134_165]⟩
          · by_cases hc57_166 : (f1_4 p1 p2 p3 p4) = (2 : Int32)
            · rw [hc57_166]
              show own_Gl _ _ _ _ (T145.setTop (mkF m 57 #[.val (.int p0), .val (.int p1), .val (.int p2), .val (.int p3), .val (.int p4), .val (.int (4 : Int32)), .val (.ref b140), .unset, .unset] [(.int (2 : Int32))]))
              refine own_go (fun t k => XS.istore X145.here hx rfl (hb hby at_57) rfl (l' := #[.val (.int p0), .val (.int p1), .val (.int p2), .val (.int p3), .val (.int p4), .val (.int (4 : Int32)), .val (.ref b140), .val (.int (2 : Int32)), .unset]) rfl k) ?_
              show own_Gl _ _ _ _ (T145.setTop (mkF m 59 #[.val (.int p0), .val (.int p1), .val (.int p2), .val (.int p3), .val (.int p4), .val (.int (4 : Int32)), .val (.ref b140), .val (.int (2 : Int32)), .unset] []))
              refine own_go (fun t k => XS.iload X145.here hx rfl (hb hby at_59) rfl k) ?_
              show own_Gl _ _ _ _ (T145.setTop (mkF m 61 #[.val (.int p0), .val (.int p1), .val (.int p2), .val (.int p3), .val (.int p4), .val (.int (4 : Int32)), .val (.ref b140), .val (.int (2 : Int32)), .unset] [(.int (2 : Int32))]))
              refine own_go (fun t k => XS.ifNo X145.here hx rfl (hb hby at_61) rfl ((if0 _ _).trans (flt (by decide : ¬ ((2 : Int32) < (0 : Int32)))).1) k) ?_
              show own_Gl _ _ _ _ (T145.setTop (mkF m 64 #[.val (.int p0), .val (.int p1), .val (.int p2), .val (.int p3), .val (.int p4), .val (.int (4 : Int32)), .val (.ref b140), .val (.int (2 : Int32)), .unset] []))
              refine own_go (fun t k => XS.iload X145.here hx rfl (hb hby at_64) rfl k) ?_
              show own_Gl _ _ _ _ (T145.setTop (mkF m 66 #[.val (.int p0), .val (.int p1), .val (.int p2), .val (.int p3), .val (.int p4), .val (.int (4 : Int32)), .val (.ref b140), .val (.int (2 : Int32)), .unset] [(.int (2 : Int32))]))
              refine own_go (fun t k => XS.iload X145.here hx rfl (hb hby at_66) rfl k) ?_
              show own_Gl _ _ _ _ (T145.setTop (mkF m 68 #[.val (.int p0), .val (.int p1), .val (.int p2), .val (.int p3), .val (.int p4), .val (.int (4 : Int32)), .val (.ref b140), .val (.int (2 : Int32)), .unset] [(.int (4 : Int32)), (.int (2 : Int32))]))
              refine own_go (fun t k => XS.icmpYes X145.here hx rfl (pc0 := 68) (pc' := 73) rfl (hb hby at_68) rfl (tlt (by decide : (2 : Int32) < (4 : Int32))).1 (by decide) (by decide) k) ?_
              show own_Gl _ _ _ _ (T145.setTop (mkF m 73 #[.val (.int p0), .val (.int p1), .val (.int p2), .val (.int p3), .val (.int p4), .val (.int (4 : Int32)), .val (.ref b140), .val (.int (2 : Int32)), .unset] []))
              refine own_go (fun t k => XS.aload X145.here hx rfl (hb hby at_73) rfl rfl k) ?_
              show own_Gl _ _ _ _ (T145.setTop (mkF m 75 #[.val (.int p0), .val (.int p1), .val (.int p2), .val (.int p3), .val (.int p4), .val (.int (4 : Int32)), .val (.ref b140), .val (.int (2 : Int32)), .unset] [(.ref b140)]))
              refine own_go (fun t k => XS.iload X145.here hx rfl (hb hby at_75) rfl k) ?_
              show own_Gl _ _ _ _ (T145.setTop (mkF m 77 #[.val (.int p0), .val (.int p1), .val (.int p2), .val (.int p3), .val (.int p4), .val (.int (4 : Int32)), .val (.ref b140), .val (.int (2 : Int32)), .unset] [(.int (2 : Int32)), (.ref b140)]))
              obtain ⟨cl167, Ar167, qk167, S167, M167, H167, G167⟩ := id V144
              have hin167 : ¬ ((2 : Int32) < 0 ∨ cl167.slots.size ≤ ((2 : Int32)).toNatClampNeg) := inb_of S167 ⟨by decide, by decide⟩
              have hat167 : cl167.slots[((2 : Int32)).toNatClampNeg]? = some (.int p3) := H167.at hin167 rfl
              refine own_go (fun t k => X145.iaload hx (j := (2 : Int32)) (v := (.int p3)) (by rw [hq145]; exact Ar167.1) (State.isArrayOf_alike hZ.alike Ar167.2.1) Ar167.2.2 hin167 hat167 (g := (mkF m 77 #[.val (.int p0), .val (.int p1), .val (.int p2), .val (.int p3), .val (.int p4), .val (.int (4 : Int32)), .val (.ref b140), .val (.int (2 : Int32)), .unset] [(.int (2 : Int32)), (.ref b140)])) rfl rfl (hb hby at_77) _ k) ?_
              show own_Gl _ _ _ _ (T145.setTop (mkF m 78 #[.val (.int p0), .val (.int p1), .val (.int p2), .val (.int p3), .val (.int p4), .val (.int (4 : Int32)), .val (.ref b140), .val (.int (2 : Int32)), .unset] [(.int p3)]))
              refine own_go (fun t k => XS.istore X145.here hx rfl (hb hby at_78) rfl (l' := #[.val (.int p0), .val (.int p1), .val (.int p2), .val (.int p3), .val (.int p4), .val (.int (4 : Int32)), .val (.ref b140), .val (.int (2 : Int32)), .val (.int p3)]) rfl k) ?_
              show own_Gl _ _ _ _ (T145.setTop (mkF m 80 #[.val (.int p0), .val (.int p1), .val (.int p2), .val (.int p3), .val (.int p4), .val (.int (4 : Int32)), .val (.ref b140), .val (.int (2 : Int32)), .val (.int p3)] []))
              refine own_go (fun t k => XS.iload X145.here hx rfl (hb hby at_80) rfl k) ?_
              show own_Gl _ _ _ _ (T145.setTop (mkF m 82 #[.val (.int p0), .val (.int p1), .val (.int p2), .val (.int p3), .val (.int p4), .val (.int (4 : Int32)), .val (.ref b140), .val (.int (2 : Int32)), .val (.int p3)] [(.int (4 : Int32))]))
              refine own_go (fun t k => XS.iload X145.here hx rfl (hb hby at_82) rfl k) ?_
              show own_Gl _ _ _ _ (T145.setTop (mkF m 84 #[.val (.int p0), .val (.int p1), .val (.int p2), .val (.int p3), .val (.int p4), .val (.int (4 : Int32)), .val (.ref b140), .val (.int (2 : Int32)), .val (.int p3)] [(.int (2 : Int32)), (.int (4 : Int32))]))
              refine own_go (fun t k => XS.iconst X145.here hx rfl (hb hby at_84) k) ?_
              show own_Gl _ _ _ _ (T145.setTop (mkF m 85 #[.val (.int p0), .val (.int p1), .val (.int p2), .val (.int p3), .val (.int p4), .val (.int (4 : Int32)), .val (.ref b140), .val (.int (2 : Int32)), .val (.int p3)] [(.int (0 : Int32)), (.int (2 : Int32)), (.int (4 : Int32))]))
              refine own_go (fun t k => XS.iloadN X145.here hx rfl (hb hby at_85) rfl k) ?_
              show own_Gl _ _ _ _ (T145.setTop (mkF m 86 #[.val (.int p0), .val (.int p1), .val (.int p2), .val (.int p3), .val (.int p4), .val (.int (4 : Int32)), .val (.ref b140), .val (.int (2 : Int32)), .val (.int p3)] [(.int p1), (.int (0 : Int32)), (.int (2 : Int32)), (.int (4 : Int32))]))
              refine own_go (fun t k => XS.iload X145.here hx rfl (hb hby at_86) rfl k) ?_
              show own_Gl _ _ _ _ (T145.setTop (mkF m 88 #[.val (.int p0), .val (.int p1), .val (.int p2), .val (.int p3), .val (.int p4), .val (.int (4 : Int32)), .val (.ref b140), .val (.int (2 : Int32)), .val (.int p3)] [(.int p3), (.int p1), (.int (0 : Int32)), (.int (2 : Int32)), (.int (4 : Int32))]))
              obtain ⟨_, _, ⟨T168, L168, kk168, nn168⟩, -, X168, ⟨Lc168, hQ168, l168, y168, z168⟩, st168⟩ := Jvm.LawKit.callS X145 hx (y := (⟨"com/example/sixfold/sixfold/rows/RowsFewestPinLaw", "fits", "(IIIII)Z"⟩ : MethodName)) hown (mvT hZ (hw _ (List.mem_of_getElem? (i := 5) rfl))) (mvT hZ (hw _ (List.mem_of_getElem? (i := 6) rfl))) (mvT hZ (hw _ (List.mem_of_getElem? (i := 7) rfl))) (mvT hZ (hw _ (List.mem_of_getElem? (i := 8) rfl))) (by decide) (backOf (W := 0) (rm2 l Z a0 hw [] (4 : Int32) (2 : Int32) (0 : Int32) p1 p3 h144 n0 Z144 ) hZ (hw _ (List.mem_of_getElem? (i := 8) rfl)) (hw _ (List.mem_of_getElem? (i := 7) rfl)) (by decide) (by decide)) (g := (mkF m 88 #[.val (.int p0), .val (.int p1), .val (.int p2), .val (.int p3), .val (.int p4), .val (.int (4 : Int32)), .val (.ref b140), .val (.int (2 : Int32)), .val (.int p3)] [(.int p3), (.int p1), (.int (0 : Int32)), (.int (2 : Int32)), (.int (4 : Int32))])) rfl (by rw [hml]; rfl) (argsL := [(.int (4 : Int32)), (.int (2 : Int32)), (.int (0 : Int32)), (.int p1), (.int p3)]) (rest := []) (lenOf pd_1 rfl) rfl (by show 2 * 0 + _ ≤ _; exact Nat.le_of_eq rfl) (hb hby at_88) (fun _ _ => ⟨rfl, hq145, (by decide : 1 + 0 ≤ _), (by decide : 4 + 0 ≤ _)⟩)
              dsimp only [Pt.U, Pt.locs, Pt.cells, Pt.slots] at X168 l168 y168 z168 st168 hQ168
              subst l168 y168 z168
              obtain ⟨N168q, rfl, hq168⟩ := hQ168
              have N168 := Fr.app N145 N168q
              refine own_go (fun t k => st168 _ k) ?_
              show own_Gl _ _ _ _ (T168.setTop (mkF m 91 #[.val (.int p0), .val (.int p1), .val (.int p2), .val (.int p3), .val (.int p4), .val (.int (4 : Int32)), .val (.ref b140), .val (.int (2 : Int32)), .val (.int p3)] [(.int (f2 (4 : Int32) (2 : Int32) (0 : Int32) p1 p3))]))
              by_cases hc91_169 : (f2 (4 : Int32) (2 : Int32) (0 : Int32) p1 p3) = (0 : Int32)
              · refine own_go (fun t k => XS.ifYes X168.here hx rfl (pc0 := 91) (pc' := 141) rfl (hb hby at_91) rfl ((if0 _ _).trans (teq hc91_169).1) (by decide) (by decide) k) ?_
                show own_Gl _ _ _ _ (T168.setTop (mkF m 141 #[.val (.int p0), .val (.int p1), .val (.int p2), .val (.int p3), .val (.int p4), .val (.int (4 : Int32)), .val (.ref b140), .val (.int (2 : Int32)), .val (.int p3)] []))
                refine own_go (fun t k => XS.iconst X168.here hx rfl (hb hby at_141) k) ?_
                show own_Gl _ _ _ _ (T168.setTop (mkF m 142 #[.val (.int p0), .val (.int p1), .val (.int p2), .val (.int p3), .val (.int p4), .val (.int (4 : Int32)), .val (.ref b140), .val (.int (2 : Int32)), .val (.int p3)] [(.int (0 : Int32))]))
                obtain ⟨fs, hr, hrun, hended, hW, hsame⟩ := X168.leave (v := some (.int (0 : Int32))) (fun h => by rw [Bd.returns] at h; cases h)
                refine own_fin (retN X168 hx (t := .boolean) Bd.returns (by simp) (hb hby at_142) hr) hrun hended ⟨_, _, rfl, ?_, ⟨_, rfl⟩, hW, hsame.mono (by decide) (by decide)⟩
                show Q0 Z p0 p1 p2 p3 p4 h0 n0 _ T168.heap _
                rw [hq168]
                exact ⟨N168, by rw [f0, if_neg hc3_64, if_neg hc3_78, if_neg hc3_103, if_neg hc57_146, if_neg hc57_156, if_pos hc57_166, if_pos hc91_169]⟩
              · refine own_go (fun t k => XS.ifNo X168.here hx rfl (hb hby at_91) rfl ((if0 _ _).trans (feq hc91_169).1) k) ?_
                show own_Gl _ _ _ _ (T168.setTop (mkF m 94 #[.val (.int p0), .val (.int p1), .val (.int p2), .val (.int p3), .val (.int p4), .val (.int (4 : Int32)), .val (.ref b140), .val (.int (2 : Int32)), .val (.int p3)] []))
                refine own_go (fun t k => XS.iload X168.here hx rfl (hb hby at_94) rfl k) ?_
                show own_Gl _ _ _ _ (T168.setTop (mkF m 96 #[.val (.int p0), .val (.int p1), .val (.int p2), .val (.int p3), .val (.int p4), .val (.int (4 : Int32)), .val (.ref b140), .val (.int (2 : Int32)), .val (.int p3)] [(.int (4 : Int32))]))
                refine own_go (fun t k => XS.iload X168.here hx rfl (hb hby at_96) rfl k) ?_
                show own_Gl _ _ _ _ (T168.setTop (mkF m 98 #[.val (.int p0), .val (.int p1), .val (.int p2), .val (.int p3), .val (.int p4), .val (.int (4 : Int32)), .val (.ref b140), .val (.int (2 : Int32)), .val (.int p3)] [(.int (2 : Int32)), (.int (4 : Int32))]))
                refine own_go (fun t k => XS.iconst X168.here hx rfl (hb hby at_98) k) ?_
                show own_Gl _ _ _ _ (T168.setTop (mkF m 99 #[.val (.int p0), .val (.int p1), .val (.int p2), .val (.int p3), .val (.int p4), .val (.int (4 : Int32)), .val (.ref b140), .val (.int (2 : Int32)), .val (.int p3)] [(.int (1 : Int32)), (.int (2 : Int32)), (.int (4 : Int32))]))
                refine own_go (fun t k => XS.iloadN X168.here hx rfl (hb hby at_99) rfl k) ?_
                show own_Gl _ _ _ _ (T168.setTop (mkF m 100 #[.val (.int p0), .val (.int p1), .val (.int p2), .val (.int p3), .val (.int p4), .val (.int (4 : Int32)), .val (.ref b140), .val (.int (2 : Int32)), .val (.int p3)] [(.int p2), (.int (1 : Int32)), (.int (2 : Int32)), (.int (4 : Int32))]))
                refine own_go (fun t k => XS.iload X168.here hx rfl (hb hby at_100) rfl k) ?_
                show own_Gl _ _ _ _ (T168.setTop (mkF m 102 #[.val (.int p0), .val (.int p1), .val (.int p2), .val (.int p3), .val (.int p4), .val (.int (4 : Int32)), .val (.ref b140), .val (.int (2 : Int32)), .val (.int p3)] [(.int p3), (.int p2), (.int (1 : Int32)), (.int (2 : Int32)), (.int (4 : Int32))]))
                obtain ⟨_, _, ⟨T170, L170, kk170, nn170⟩, -, X170, ⟨Lc170, hQ170, l170, y170, z170⟩, st170⟩ := Jvm.LawKit.callS X168 hx (y := (⟨"com/example/sixfold/sixfold/rows/RowsFewestPinLaw", "fits", "(IIIII)Z"⟩ : MethodName)) hown (mvT hZ (hw _ (List.mem_of_getElem? (i := 5) rfl))) (mvT hZ (hw _ (List.mem_of_getElem? (i := 6) rfl))) (mvT hZ (hw _ (List.mem_of_getElem? (i := 7) rfl))) (mvT hZ (hw _ (List.mem_of_getElem? (i := 8) rfl))) (by decide) (backOf (W := 0) (rm2 l Z a0 hw [] (4 : Int32) (2 : Int32) (1 : Int32) p2 p3 h144 n0 Z144 ) hZ (hw _ (List.mem_of_getElem? (i := 8) rfl)) (hw _ (List.mem_of_getElem? (i := 7) rfl)) (by decide) (by decide)) (g := (mkF m 102 #[.val (.int p0), .val (.int p1), .val (.int p2), .val (.int p3), .val (.int p4), .val (.int (4 : Int32)), .val (.ref b140), .val (.int (2 : Int32)), .val (.int p3)] [(.int p3), (.int p2), (.int (1 : Int32)), (.int (2 : Int32)), (.int (4 : Int32))])) rfl (by rw [hml]; rfl) (argsL := [(.int (4 : Int32)), (.int (2 : Int32)), (.int (1 : Int32)), (.int p2), (.int p3)]) (rest := []) (lenOf pd_1 rfl) rfl (by show 2 * 0 + _ ≤ _; exact Nat.le_of_eq rfl) (hb hby at_102) (fun _ _ => ⟨rfl, hq168, (by decide : 1 + 0 ≤ _), (by decide : 4 + 0 ≤ _)⟩)
                dsimp only [Pt.U, Pt.locs, Pt.cells, Pt.slots] at X170 l170 y170 z170 st170 hQ170
                subst l170 y170 z170
                obtain ⟨N170q, rfl, hq170⟩ := hQ170
                have N170 := Fr.app N168 N170q
                refine own_go (fun t k => st170 _ k) ?_
                show own_Gl _ _ _ _ (T170.setTop (mkF m 105 #[.val (.int p0), .val (.int p1), .val (.int p2), .val (.int p3), .val (.int p4), .val (.int (4 : Int32)), .val (.ref b140), .val (.int (2 : Int32)), .val (.int p3)] [(.int (f2 (4 : Int32) (2 : Int32) (1 : Int32) p2 p3))]))
                by_cases hc105_171 : (f2 (4 : Int32) (2 : Int32) (1 : Int32) p2 p3) = (0 : Int32)
                · refine own_go (fun t k => XS.ifYes X170.here hx rfl (pc0 := 105) (pc' := 141) rfl (hb hby at_105) rfl ((if0 _ _).trans (teq hc105_171).1) (by decide) (by decide) k) ?_
                  show own_Gl _ _ _ _ (T170.setTop (mkF m 141 #[.val (.int p0), .val (.int p1), .val (.int p2), .val (.int p3), .val (.int p4), .val (.int (4 : Int32)), .val (.ref b140), .val (.int (2 : Int32)), .val (.int p3)] []))
                  refine own_go (fun t k => XS.iconst X170.here hx rfl (hb hby at_141) k) ?_
                  show own_Gl _ _ _ _ (T170.setTop (mkF m 142 #[.val (.int p0), .val (.int p1), .val (.int p2), .val (.int p3), .val (.int p4), .val (.int (4 : Int32)), .val (.ref b140), .val (.int (2 : Int32)), .val (.int p3)] [(.int (0 : Int32))]))
                  obtain ⟨fs, hr, hrun, hended, hW, hsame⟩ := X170.leave (v := some (.int (0 : Int32))) (fun h => by rw [Bd.returns] at h; cases h)
                  refine own_fin (retN X170 hx (t := .boolean) Bd.returns (by simp) (hb hby at_142) hr) hrun hended ⟨_, _, rfl, ?_, ⟨_, rfl⟩, hW, hsame.mono (by decide) (by decide)⟩
                  show Q0 Z p0 p1 p2 p3 p4 h0 n0 _ T170.heap _
                  rw [hq170]
                  exact ⟨N170, by rw [f0, if_neg hc3_64, if_neg hc3_78, if_neg hc3_103, if_neg hc57_146, if_neg hc57_156, if_pos hc57_166, if_neg hc91_169, if_pos hc105_171]⟩
                · refine own_go (fun t k => XS.ifNo X170.here hx rfl (hb hby at_105) rfl ((if0 _ _).trans (feq hc105_171).1) k) ?_
                  show own_Gl _ _ _ _ (T170.setTop (mkF m 108 #[.val (.int p0), .val (.int p1), .val (.int p2), .val (.int p3), .val (.int p4), .val (.int (4 : Int32)), .val (.ref b140), .val (.int (2 : Int32)), .val (.int p3)] []))
                  refine own_go (fun t k => XS.iload X170.here hx rfl (hb hby at_108) rfl k) ?_
                  show own_Gl _ _ _ _ (T170.setTop (mkF m 110 #[.val (.int p0), .val (.int p1), .val (.int p2), .val (.int p3), .val (.int p4), .val (.int (4 : Int32)), .val (.ref b140), .val (.int (2 : Int32)), .val (.int p3)] [(.int (4 : Int32))]))
                  refine own_go (fun t k => XS.iload X170.here hx rfl (hb hby at_110) rfl k) ?_
                  show own_Gl _ _ _ _ (T170.setTop (mkF m 112 #[.val (.int p0), .val (.int p1), .val (.int p2), .val (.int p3), .val (.int p4), .val (.int (4 : Int32)), .val (.ref b140), .val (.int (2 : Int32)), .val (.int p3)] [(.int (2 : Int32)), (.int (4 : Int32))]))
                  refine own_go (fun t k => XS.iconst X170.here hx rfl (hb hby at_112) k) ?_
                  show own_Gl _ _ _ _ (T170.setTop (mkF m 113 #[.val (.int p0), .val (.int p1), .val (.int p2), .val (.int p3), .val (.int p4), .val (.int (4 : Int32)), .val (.ref b140), .val (.int (2 : Int32)), .val (.int p3)] [(.int (2 : Int32)), (.int (2 : Int32)), (.int (4 : Int32))]))
                  refine own_go (fun t k => XS.iloadN X170.here hx rfl (hb hby at_113) rfl k) ?_
                  show own_Gl _ _ _ _ (T170.setTop (mkF m 114 #[.val (.int p0), .val (.int p1), .val (.int p2), .val (.int p3), .val (.int p4), .val (.int (4 : Int32)), .val (.ref b140), .val (.int (2 : Int32)), .val (.int p3)] [(.int p3), (.int (2 : Int32)), (.int (2 : Int32)), (.int (4 : Int32))]))
                  refine own_go (fun t k => XS.iload X170.here hx rfl (hb hby at_114) rfl k) ?_
                  show own_Gl _ _ _ _ (T170.setTop (mkF m 116 #[.val (.int p0), .val (.int p1), .val (.int p2), .val (.int p3), .val (.int p4), .val (.int (4 : Int32)), .val (.ref b140), .val (.int (2 : Int32)), .val (.int p3)] [(.int p3), (.int p3), (.int (2 : Int32)), (.int (2 : Int32)), (.int (4 : Int32))]))
                  obtain ⟨_, _, ⟨T172, L172, kk172, nn172⟩, -, X172, ⟨Lc172, hQ172, l172, y172, z172⟩, st172⟩ := Jvm.LawKit.callS X170 hx (y := (⟨"com/example/sixfold/sixfold/rows/RowsFewestPinLaw", "fits", "(IIIII)Z"⟩ : MethodName)) hown (mvT hZ (hw _ (List.mem_of_getElem? (i := 5) rfl))) (mvT hZ (hw _ (List.mem_of_getElem? (i := 6) rfl))) (mvT hZ (hw _ (List.mem_of_getElem? (i := 7) rfl))) (mvT hZ (hw _ (List.mem_of_getElem? (i := 8) rfl))) (by decide) (backOf (W := 0) (rm2 l Z a0 hw [] (4 : Int32) (2 : Int32) (2 : Int32) p3 p3 h144 n0 Z144 ) hZ (hw _ (List.mem_of_getElem? (i := 8) rfl)) (hw _ (List.mem_of_getElem? (i := 7) rfl)) (by decide) (by decide)) (g := (mkF m 116 #[.val (.int p0), .val (.int p1), .val (.int p2), .val (.int p3), .val (.int p4), .val (.int (4 : Int32)), .val (.ref b140), .val (.int (2 : Int32)), .val (.int p3)] [(.int p3), (.int p3), (.int (2 : Int32)), (.int (2 : Int32)), (.int (4 : Int32))])) rfl (by rw [hml]; rfl) (argsL := [(.int (4 : Int32)), (.int (2 : Int32)), (.int (2 : Int32)), (.int p3), (.int p3)]) (rest := []) (lenOf pd_1 rfl) rfl (by show 2 * 0 + _ ≤ _; exact Nat.le_of_eq rfl) (hb hby at_116) (fun _ _ => ⟨rfl, hq170, (by decide : 1 + 0 ≤ _), (by decide : 4 + 0 ≤ _)⟩)
                  dsimp only [Pt.U, Pt.locs, Pt.cells, Pt.slots] at X172 l172 y172 z172 st172 hQ172
                  subst l172 y172 z172
                  obtain ⟨N172q, rfl, hq172⟩ := hQ172
                  have N172 := Fr.app N170 N172q
                  refine own_go (fun t k => st172 _ k) ?_
                  show own_Gl _ _ _ _ (T172.setTop (mkF m 119 #[.val (.int p0), .val (.int p1), .val (.int p2), .val (.int p3), .val (.int p4), .val (.int (4 : Int32)), .val (.ref b140), .val (.int (2 : Int32)), .val (.int p3)] [(.int (f2 (4 : Int32) (2 : Int32) (2 : Int32) p3 p3))]))
                  by_cases hc119_173 : (f2 (4 : Int32) (2 : Int32) (2 : Int32) p3 p3) = (0 : Int32)
                  · refine own_go (fun t k => XS.ifYes X172.here hx rfl (pc0 := 119) (pc' := 141) rfl (hb hby at_119) rfl ((if0 _ _).trans (teq hc119_173).1) (by decide) (by decide) k) ?_
                    show own_Gl _ _ _ _ (T172.setTop (mkF m 141 #[.val (.int p0), .val (.int p1), .val (.int p2), .val (.int p3), .val (.int p4), .val (.int (4 : Int32)), .val (.ref b140), .val (.int (2 : Int32)), .val (.int p3)] []))
                    refine own_go (fun t k => XS.iconst X172.here hx rfl (hb hby at_141) k) ?_
                    show own_Gl _ _ _ _ (T172.setTop (mkF m 142 #[.val (.int p0), .val (.int p1), .val (.int p2), .val (.int p3), .val (.int p4), .val (.int (4 : Int32)), .val (.ref b140), .val (.int (2 : Int32)), .val (.int p3)] [(.int (0 : Int32))]))
                    obtain ⟨fs, hr, hrun, hended, hW, hsame⟩ := X172.leave (v := some (.int (0 : Int32))) (fun h => by rw [Bd.returns] at h; cases h)
                    refine own_fin (retN X172 hx (t := .boolean) Bd.returns (by simp) (hb hby at_142) hr) hrun hended ⟨_, _, rfl, ?_, ⟨_, rfl⟩, hW, hsame.mono (by decide) (by decide)⟩
                    show Q0 Z p0 p1 p2 p3 p4 h0 n0 _ T172.heap _
                    rw [hq172]
                    exact ⟨N172, by rw [f0, if_neg hc3_64, if_neg hc3_78, if_neg hc3_103, if_neg hc57_146, if_neg hc57_156, if_pos hc57_166, if_neg hc91_169, if_neg hc105_171, if_pos hc119_173]⟩
                  · refine own_go (fun t k => XS.ifNo X172.here hx rfl (hb hby at_119) rfl ((if0 _ _).trans (feq hc119_173).1) k) ?_
                    show own_Gl _ _ _ _ (T172.setTop (mkF m 122 #[.val (.int p0), .val (.int p1), .val (.int p2), .val (.int p3), .val (.int p4), .val (.int (4 : Int32)), .val (.ref b140), .val (.int (2 : Int32)), .val (.int p3)] []))
                    refine own_go (fun t k => XS.iload X172.here hx rfl (hb hby at_122) rfl k) ?_
                    show own_Gl _ _ _ _ (T172.setTop (mkF m 124 #[.val (.int p0), .val (.int p1), .val (.int p2), .val (.int p3), .val (.int p4), .val (.int (4 : Int32)), .val (.ref b140), .val (.int (2 : Int32)), .val (.int p3)] [(.int (4 : Int32))]))
                    refine own_go (fun t k => XS.iload X172.here hx rfl (hb hby at_124) rfl k) ?_
                    show own_Gl _ _ _ _ (T172.setTop (mkF m 126 #[.val (.int p0), .val (.int p1), .val (.int p2), .val (.int p3), .val (.int p4), .val (.int (4 : Int32)), .val (.ref b140), .val (.int (2 : Int32)), .val (.int p3)] [(.int (2 : Int32)), (.int (4 : Int32))]))
                    refine own_go (fun t k => XS.iconst X172.here hx rfl (hb hby at_126) k) ?_
                    show own_Gl _ _ _ _ (T172.setTop (mkF m 127 #[.val (.int p0), .val (.int p1), .val (.int p2), .val (.int p3), .val (.int p4), .val (.int (4 : Int32)), .val (.ref b140), .val (.int (2 : Int32)), .val (.int p3)] [(.int (3 : Int32)), (.int (2 : Int32)), (.int (4 : Int32))]))
                    refine own_go (fun t k => XS.iload X172.here hx rfl (hb hby at_127) rfl k) ?_
                    show own_Gl _ _ _ _ (T172.setTop (mkF m 129 #[.val (.int p0), .val (.int p1), .val (.int p2), .val (.int p3), .val (.int p4), .val (.int (4 : Int32)), .val (.ref b140), .val (.int (2 : Int32)), .val (.int p3)] [(.int p4), (.int (3 : Int32)), (.int (2 : Int32)), (.int (4 : Int32))]))
                    refine own_go (fun t k => XS.iload X172.here hx rfl (hb hby at_129) rfl k) ?_
                    show own_Gl _ _ _ _ (T172.setTop (mkF m 131 #[.val (.int p0), .val (.int p1), .val (.int p2), .val (.int p3), .val (.int p4), .val (.int (4 : Int32)), .val (.ref b140), .val (.int (2 : Int32)), .val (.int p3)] [(.int p3), (.int p4), (.int (3 : Int32)), (.int (2 : Int32)), (.int (4 : Int32))]))
                    obtain ⟨_, _, ⟨T174, L174, kk174, nn174⟩, -, X174, ⟨Lc174, hQ174, l174, y174, z174⟩, st174⟩ := Jvm.LawKit.callS X172 hx (y := (⟨"com/example/sixfold/sixfold/rows/RowsFewestPinLaw", "fits", "(IIIII)Z"⟩ : MethodName)) hown (mvT hZ (hw _ (List.mem_of_getElem? (i := 5) rfl))) (mvT hZ (hw _ (List.mem_of_getElem? (i := 6) rfl))) (mvT hZ (hw _ (List.mem_of_getElem? (i := 7) rfl))) (mvT hZ (hw _ (List.mem_of_getElem? (i := 8) rfl))) (by decide) (backOf (W := 0) (rm2 l Z a0 hw [] (4 : Int32) (2 : Int32) (3 : Int32) p4 p3 h144 n0 Z144 ) hZ (hw _ (List.mem_of_getElem? (i := 8) rfl)) (hw _ (List.mem_of_getElem? (i := 7) rfl)) (by decide) (by decide)) (g := (mkF m 131 #[.val (.int p0), .val (.int p1), .val (.int p2), .val (.int p3), .val (.int p4), .val (.int (4 : Int32)), .val (.ref b140), .val (.int (2 : Int32)), .val (.int p3)] [(.int p3), (.int p4), (.int (3 : Int32)), (.int (2 : Int32)), (.int (4 : Int32))])) rfl (by rw [hml]; rfl) (argsL := [(.int (4 : Int32)), (.int (2 : Int32)), (.int (3 : Int32)), (.int p4), (.int p3)]) (rest := []) (lenOf pd_1 rfl) rfl (by show 2 * 0 + _ ≤ _; exact Nat.le_of_eq rfl) (hb hby at_131) (fun _ _ => ⟨rfl, hq172, (by decide : 1 + 0 ≤ _), (by decide : 4 + 0 ≤ _)⟩)
                    dsimp only [Pt.U, Pt.locs, Pt.cells, Pt.slots] at X174 l174 y174 z174 st174 hQ174
                    subst l174 y174 z174
                    obtain ⟨N174q, rfl, hq174⟩ := hQ174
                    have N174 := Fr.app N172 N174q
                    refine own_go (fun t k => st174 _ k) ?_
                    show own_Gl _ _ _ _ (T174.setTop (mkF m 134 #[.val (.int p0), .val (.int p1), .val (.int p2), .val (.int p3), .val (.int p4), .val (.int (4 : Int32)), .val (.ref b140), .val (.int (2 : Int32)), .val (.int p3)] [(.int (f2 (4 : Int32) (2 : Int32) (3 : Int32) p4 p3))]))
                    by_cases hc134_175 : (f2 (4 : Int32) (2 : Int32) (3 : Int32) p4 p3) = (0 : Int32)
                    · refine own_go (fun t k => XS.ifYes X174.here hx rfl (pc0 := 134) (pc' := 141) rfl (hb hby at_134) rfl ((if0 _ _).trans (teq hc134_175).1) (by decide) (by decide) k) ?_
                      show own_Gl _ _ _ _ (T174.setTop (mkF m 141 #[.val (.int p0), .val (.int p1), .val (.int p2), .val (.int p3), .val (.int p4), .val (.int (4 : Int32)), .val (.ref b140), .val (.int (2 : Int32)), .val (.int p3)] []))
                      refine own_go (fun t k => XS.iconst X174.here hx rfl (hb hby at_141) k) ?_
                      show own_Gl _ _ _ _ (T174.setTop (mkF m 142 #[.val (.int p0), .val (.int p1), .val (.int p2), .val (.int p3), .val (.int p4), .val (.int (4 : Int32)), .val (.ref b140), .val (.int (2 : Int32)), .val (.int p3)] [(.int (0 : Int32))]))
                      obtain ⟨fs, hr, hrun, hended, hW, hsame⟩ := X174.leave (v := some (.int (0 : Int32))) (fun h => by rw [Bd.returns] at h; cases h)
                      refine own_fin (retN X174 hx (t := .boolean) Bd.returns (by simp) (hb hby at_142) hr) hrun hended ⟨_, _, rfl, ?_, ⟨_, rfl⟩, hW, hsame.mono (by decide) (by decide)⟩
                      show Q0 Z p0 p1 p2 p3 p4 h0 n0 _ T174.heap _
                      rw [hq174]
                      exact ⟨N174, by rw [f0, if_neg hc3_64, if_neg hc3_78, if_neg hc3_103, if_neg hc57_146, if_neg hc57_156, if_pos hc57_166, if_neg hc91_169, if_neg hc105_171, if_neg hc119_173, if_pos hc134_175]⟩
                    · refine own_go (fun t k => XS.ifNo X174.here hx rfl (hb hby at_134) rfl ((if0 _ _).trans (feq hc134_175).1) k) ?_
                      show own_Gl _ _ _ _ (T174.setTop (mkF m 137 #[.val (.int p0), .val (.int p1), .val (.int p2), .val (.int p3), .val (.int p4), .val (.int (4 : Int32)), .val (.ref b140), .val (.int (2 : Int32)), .val (.int p3)] []))
                      refine own_go (fun t k => XS.iconst X174.here hx rfl (hb hby at_137) k) ?_
                      show own_Gl _ _ _ _ (T174.setTop (mkF m 138 #[.val (.int p0), .val (.int p1), .val (.int p2), .val (.int p3), .val (.int p4), .val (.int (4 : Int32)), .val (.ref b140), .val (.int (2 : Int32)), .val (.int p3)] [(.int (1 : Int32))]))
                      refine own_go (fun t k => XS.goto X174.here hx rfl (pc0 := 138) (pc' := 142) rfl (hb hby at_138) (by decide) (by decide) k) ?_
                      show own_Gl _ _ _ _ (T174.setTop (mkF m 142 #[.val (.int p0), .val (.int p1), .val (.int p2), .val (.int p3), .val (.int p4), .val (.int (4 : Int32)), .val (.ref b140), .val (.int (2 : Int32)), .val (.int p3)] [(.int (1 : Int32))]))
                      obtain ⟨fs, hr, hrun, hended, hW, hsame⟩ := X174.leave (v := some (.int (1 : Int32))) (fun h => by rw [Bd.returns] at h; cases h)
                      refine own_fin (retN X174 hx (t := .boolean) Bd.returns (by simp) (hb hby at_142) hr) hrun hended ⟨_, _, rfl, ?_, ⟨_, rfl⟩, hW, hsame.mono (by decide) (by decide)⟩
                      show Q0 Z p0 p1 p2 p3 p4 h0 n0 _ T174.heap _
                      rw [hq174]
                      exact ⟨N174, by rw [f0, if_neg hc3_64, if_neg hc3_78, if_neg hc3_103, if_neg hc57_146, if_neg hc57_156, if_pos hc57_166, if_neg hc91_169, if_neg hc105_171, if_neg hc119_173, if_neg hc134_175]⟩
            · have hs176 : (f1_4 p1 p2 p3 p4) = (3 : Int32) := by have hr := own_rg4 p1 p2 p3 p4; simpa [hc57_146, hc57_156, hc57_166] using hr
              rw [hs176]
              show own_Gl _ _ _ _ (T145.setTop (mkF m 57 #[.val (.int p0), .val (.int p1), .val (.int p2), .val (.int p3), .val (.int p4), .val (.int (4 : Int32)), .val (.ref b140), .unset, .unset] [(.int (3 : Int32))]))
              refine own_go (fun t k => XS.istore X145.here hx rfl (hb hby at_57) rfl (l' := #[.val (.int p0), .val (.int p1), .val (.int p2), .val (.int p3), .val (.int p4), .val (.int (4 : Int32)), .val (.ref b140), .val (.int (3 : Int32)), .unset]) rfl k) ?_
              show own_Gl _ _ _ _ (T145.setTop (mkF m 59 #[.val (.int p0), .val (.int p1), .val (.int p2), .val (.int p3), .val (.int p4), .val (.int (4 : Int32)), .val (.ref b140), .val (.int (3 : Int32)), .unset] []))
              refine own_go (fun t k => XS.iload X145.here hx rfl (hb hby at_59) rfl k) ?_
              show own_Gl _ _ _ _ (T145.setTop (mkF m 61 #[.val (.int p0), .val (.int p1), .val (.int p2), .val (.int p3), .val (.int p4), .val (.int (4 : Int32)), .val (.ref b140), .val (.int (3 : Int32)), .unset] [(.int (3 : Int32))]))
              refine own_go (fun t k => XS.ifNo X145.here hx rfl (hb hby at_61) rfl ((if0 _ _).trans (flt (by decide : ¬ ((3 : Int32) < (0 : Int32)))).1) k) ?_
              show own_Gl _ _ _ _ (T145.setTop (mkF m 64 #[.val (.int p0), .val (.int p1), .val (.int p2), .val (.int p3), .val (.int p4), .val (.int (4 : Int32)), .val (.ref b140), .val (.int (3 : Int32)), .unset] []))
              refine own_go (fun t k => XS.iload X145.here hx rfl (hb hby at_64) rfl k) ?_
              show own_Gl _ _ _ _ (T145.setTop (mkF m 66 #[.val (.int p0), .val (.int p1), .val (.int p2), .val (.int p3), .val (.int p4), .val (.int (4 : Int32)), .val (.ref b140), .val (.int (3 : Int32)), .unset] [(.int (3 : Int32))]))
              refine own_go (fun t k => XS.iload X145.here hx rfl (hb hby at_66) rfl k) ?_
              show own_Gl _ _ _ _ (T145.setTop (mkF m 68 #[.val (.int p0), .val (.int p1), .val (.int p2), .val (.int p3), .val (.int p4), .val (.int (4 : Int32)), .val (.ref b140), .val (.int (3 : Int32)), .unset] [(.int (4 : Int32)), (.int (3 : Int32))]))
              refine own_go (fun t k => XS.icmpYes X145.here hx rfl (pc0 := 68) (pc' := 73) rfl (hb hby at_68) rfl (tlt (by decide : (3 : Int32) < (4 : Int32))).1 (by decide) (by decide) k) ?_
              show own_Gl _ _ _ _ (T145.setTop (mkF m 73 #[.val (.int p0), .val (.int p1), .val (.int p2), .val (.int p3), .val (.int p4), .val (.int (4 : Int32)), .val (.ref b140), .val (.int (3 : Int32)), .unset] []))
              refine own_go (fun t k => XS.aload X145.here hx rfl (hb hby at_73) rfl rfl k) ?_
              show own_Gl _ _ _ _ (T145.setTop (mkF m 75 #[.val (.int p0), .val (.int p1), .val (.int p2), .val (.int p3), .val (.int p4), .val (.int (4 : Int32)), .val (.ref b140), .val (.int (3 : Int32)), .unset] [(.ref b140)]))
              refine own_go (fun t k => XS.iload X145.here hx rfl (hb hby at_75) rfl k) ?_
              show own_Gl _ _ _ _ (T145.setTop (mkF m 77 #[.val (.int p0), .val (.int p1), .val (.int p2), .val (.int p3), .val (.int p4), .val (.int (4 : Int32)), .val (.ref b140), .val (.int (3 : Int32)), .unset] [(.int (3 : Int32)), (.ref b140)]))
              obtain ⟨cl177, Ar177, qk177, S177, M177, H177, G177⟩ := id V144
              have hin177 : ¬ ((3 : Int32) < 0 ∨ cl177.slots.size ≤ ((3 : Int32)).toNatClampNeg) := inb_of S177 ⟨by decide, by decide⟩
              have hat177 : cl177.slots[((3 : Int32)).toNatClampNeg]? = some (.int p4) := H177.at hin177 rfl
              refine own_go (fun t k => X145.iaload hx (j := (3 : Int32)) (v := (.int p4)) (by rw [hq145]; exact Ar177.1) (State.isArrayOf_alike hZ.alike Ar177.2.1) Ar177.2.2 hin177 hat177 (g := (mkF m 77 #[.val (.int p0), .val (.int p1), .val (.int p2), .val (.int p3), .val (.int p4), .val (.int (4 : Int32)), .val (.ref b140), .val (.int (3 : Int32)), .unset] [(.int (3 : Int32)), (.ref b140)])) rfl rfl (hb hby at_77) _ k) ?_
              show own_Gl _ _ _ _ (T145.setTop (mkF m 78 #[.val (.int p0), .val (.int p1), .val (.int p2), .val (.int p3), .val (.int p4), .val (.int (4 : Int32)), .val (.ref b140), .val (.int (3 : Int32)), .unset] [(.int p4)]))
              refine own_go (fun t k => XS.istore X145.here hx rfl (hb hby at_78) rfl (l' := #[.val (.int p0), .val (.int p1), .val (.int p2), .val (.int p3), .val (.int p4), .val (.int (4 : Int32)), .val (.ref b140), .val (.int (3 : Int32)), .val (.int p4)]) rfl k) ?_
              show own_Gl _ _ _ _ (T145.setTop (mkF m 80 #[.val (.int p0), .val (.int p1), .val (.int p2), .val (.int p3), .val (.int p4), .val (.int (4 : Int32)), .val (.ref b140), .val (.int (3 : Int32)), .val (.int p4)] []))
              refine own_go (fun t k => XS.iload X145.here hx rfl (hb hby at_80) rfl k) ?_
              show own_Gl _ _ _ _ (T145.setTop (mkF m 82 #[.val (.int p0), .val (.int p1), .val (.int p2), .val (.int p3), .val (.int p4), .val (.int (4 : Int32)), .val (.ref b140), .val (.int (3 : Int32)), .val (.int p4)] [(.int (4 : Int32))]))
              refine own_go (fun t k => XS.iload X145.here hx rfl (hb hby at_82) rfl k) ?_
              show own_Gl _ _ _ _ (T145.setTop (mkF m 84 #[.val (.int p0), .val (.int p1), .val (.int p2), .val (.int p3), .val (.int p4), .val (.int (4 : Int32)), .val (.ref b140), .val (.int (3 : Int32)), .val (.int p4)] [(.int (3 : Int32)), (.int (4 : Int32))]))
              refine own_go (fun t k => XS.iconst X145.here hx rfl (hb hby at_84) k) ?_
              show own_Gl _ _ _ _ (T145.setTop (mkF m 85 #[.val (.int p0), .val (.int p1), .val (.int p2), .val (.int p3), .val (.int p4), .val (.int (4 : Int32)), .val (.ref b140), .val (.int (3 : Int32)), .val (.int p4)] [(.int (0 : Int32)), (.int (3 : Int32)), (.int (4 : Int32))]))
              refine own_go (fun t k => XS.iloadN X145.here hx rfl (hb hby at_85) rfl k) ?_
              show own_Gl _ _ _ _ (T145.setTop (mkF m 86 #[.val (.int p0), .val (.int p1), .val (.int p2), .val (.int p3), .val (.int p4), .val (.int (4 : Int32)), .val (.ref b140), .val (.int (3 : Int32)), .val (.int p4)] [(.int p1), (.int (0 : Int32)), (.int (3 : Int32)), (.int (4 : Int32))]))
              refine own_go (fun t k => XS.iload X145.here hx rfl (hb hby at_86) rfl k) ?_
              show own_Gl _ _ _ _ (T145.setTop (mkF m 88 #[.val (.int p0), .val (.int p1), .val (.int p2), .val (.int p3), .val (.int p4), .val (.int (4 : Int32)), .val (.ref b140), .val (.int (3 : Int32)), .val (.int p4)] [(.int p4), (.int p1), (.int (0 : Int32)), (.int (3 : Int32)), (.int (4 : Int32))]))
              obtain ⟨_, _, ⟨T178, L178, kk178, nn178⟩, -, X178, ⟨Lc178, hQ178, l178, y178, z178⟩, st178⟩ := Jvm.LawKit.callS X145 hx (y := (⟨"com/example/sixfold/sixfold/rows/RowsFewestPinLaw", "fits", "(IIIII)Z"⟩ : MethodName)) hown (mvT hZ (hw _ (List.mem_of_getElem? (i := 5) rfl))) (mvT hZ (hw _ (List.mem_of_getElem? (i := 6) rfl))) (mvT hZ (hw _ (List.mem_of_getElem? (i := 7) rfl))) (mvT hZ (hw _ (List.mem_of_getElem? (i := 8) rfl))) (by decide) (backOf (W := 0) (rm2 l Z a0 hw [] (4 : Int32) (3 : Int32) (0 : Int32) p1 p4 h144 n0 Z144 ) hZ (hw _ (List.mem_of_getElem? (i := 8) rfl)) (hw _ (List.mem_of_getElem? (i := 7) rfl)) (by decide) (by decide)) (g := (mkF m 88 #[.val (.int p0), .val (.int p1), .val (.int p2), .val (.int p3), .val (.int p4), .val (.int (4 : Int32)), .val (.ref b140), .val (.int (3 : Int32)), .val (.int p4)] [(.int p4), (.int p1), (.int (0 : Int32)), (.int (3 : Int32)), (.int (4 : Int32))])) rfl (by rw [hml]; rfl) (argsL := [(.int (4 : Int32)), (.int (3 : Int32)), (.int (0 : Int32)), (.int p1), (.int p4)]) (rest := []) (lenOf pd_1 rfl) rfl (by show 2 * 0 + _ ≤ _; exact Nat.le_of_eq rfl) (hb hby at_88) (fun _ _ => ⟨rfl, hq145, (by decide : 1 + 0 ≤ _), (by decide : 4 + 0 ≤ _)⟩)
              dsimp only [Pt.U, Pt.locs, Pt.cells, Pt.slots] at X178 l178 y178 z178 st178 hQ178
              subst l178 y178 z178
              obtain ⟨N178q, rfl, hq178⟩ := hQ178
              have N178 := Fr.app N145 N178q
              refine own_go (fun t k => st178 _ k) ?_
              show own_Gl _ _ _ _ (T178.setTop (mkF m 91 #[.val (.int p0), .val (.int p1), .val (.int p2), .val (.int p3), .val (.int p4), .val (.int (4 : Int32)), .val (.ref b140), .val (.int (3 : Int32)), .val (.int p4)] [(.int (f2 (4 : Int32) (3 : Int32) (0 : Int32) p1 p4))]))
              by_cases hc91_179 : (f2 (4 : Int32) (3 : Int32) (0 : Int32) p1 p4) = (0 : Int32)
              · refine own_go (fun t k => XS.ifYes X178.here hx rfl (pc0 := 91) (pc' := 141) rfl (hb hby at_91) rfl ((if0 _ _).trans (teq hc91_179).1) (by decide) (by decide) k) ?_
                show own_Gl _ _ _ _ (T178.setTop (mkF m 141 #[.val (.int p0), .val (.int p1), .val (.int p2), .val (.int p3), .val (.int p4), .val (.int (4 : Int32)), .val (.ref b140), .val (.int (3 : Int32)), .val (.int p4)] []))
                refine own_go (fun t k => XS.iconst X178.here hx rfl (hb hby at_141) k) ?_
                show own_Gl _ _ _ _ (T178.setTop (mkF m 142 #[.val (.int p0), .val (.int p1), .val (.int p2), .val (.int p3), .val (.int p4), .val (.int (4 : Int32)), .val (.ref b140), .val (.int (3 : Int32)), .val (.int p4)] [(.int (0 : Int32))]))
                obtain ⟨fs, hr, hrun, hended, hW, hsame⟩ := X178.leave (v := some (.int (0 : Int32))) (fun h => by rw [Bd.returns] at h; cases h)
                refine own_fin (retN X178 hx (t := .boolean) Bd.returns (by simp) (hb hby at_142) hr) hrun hended ⟨_, _, rfl, ?_, ⟨_, rfl⟩, hW, hsame.mono (by decide) (by decide)⟩
                show Q0 Z p0 p1 p2 p3 p4 h0 n0 _ T178.heap _
                rw [hq178]
                exact ⟨N178, by rw [f0, if_neg hc3_64, if_neg hc3_78, if_neg hc3_103, if_neg hc57_146, if_neg hc57_156, if_neg hc57_166, if_pos hc91_179]⟩
              · refine own_go (fun t k => XS.ifNo X178.here hx rfl (hb hby at_91) rfl ((if0 _ _).trans (feq hc91_179).1) k) ?_
                show own_Gl _ _ _ _ (T178.setTop (mkF m 94 #[.val (.int p0), .val (.int p1), .val (.int p2), .val (.int p3), .val (.int p4), .val (.int (4 : Int32)), .val (.ref b140), .val (.int (3 : Int32)), .val (.int p4)] []))
                refine own_go (fun t k => XS.iload X178.here hx rfl (hb hby at_94) rfl k) ?_
                show own_Gl _ _ _ _ (T178.setTop (mkF m 96 #[.val (.int p0), .val (.int p1), .val (.int p2), .val (.int p3), .val (.int p4), .val (.int (4 : Int32)), .val (.ref b140), .val (.int (3 : Int32)), .val (.int p4)] [(.int (4 : Int32))]))
                refine own_go (fun t k => XS.iload X178.here hx rfl (hb hby at_96) rfl k) ?_
                show own_Gl _ _ _ _ (T178.setTop (mkF m 98 #[.val (.int p0), .val (.int p1), .val (.int p2), .val (.int p3), .val (.int p4), .val (.int (4 : Int32)), .val (.ref b140), .val (.int (3 : Int32)), .val (.int p4)] [(.int (3 : Int32)), (.int (4 : Int32))]))
                refine own_go (fun t k => XS.iconst X178.here hx rfl (hb hby at_98) k) ?_
                show own_Gl _ _ _ _ (T178.setTop (mkF m 99 #[.val (.int p0), .val (.int p1), .val (.int p2), .val (.int p3), .val (.int p4), .val (.int (4 : Int32)), .val (.ref b140), .val (.int (3 : Int32)), .val (.int p4)] [(.int (1 : Int32)), (.int (3 : Int32)), (.int (4 : Int32))]))
                refine own_go (fun t k => XS.iloadN X178.here hx rfl (hb hby at_99) rfl k) ?_
                show own_Gl _ _ _ _ (T178.setTop (mkF m 100 #[.val (.int p0), .val (.int p1), .val (.int p2), .val (.int p3), .val (.int p4), .val (.int (4 : Int32)), .val (.ref b140), .val (.int (3 : Int32)), .val (.int p4)] [(.int p2), (.int (1 : Int32)), (.int (3 : Int32)), (.int (4 : Int32))]))
                refine own_go (fun t k => XS.iload X178.here hx rfl (hb hby at_100) rfl k) ?_
                show own_Gl _ _ _ _ (T178.setTop (mkF m 102 #[.val (.int p0), .val (.int p1), .val (.int p2), .val (.int p3), .val (.int p4), .val (.int (4 : Int32)), .val (.ref b140), .val (.int (3 : Int32)), .val (.int p4)] [(.int p4), (.int p2), (.int (1 : Int32)), (.int (3 : Int32)), (.int (4 : Int32))]))
                obtain ⟨_, _, ⟨T180, L180, kk180, nn180⟩, -, X180, ⟨Lc180, hQ180, l180, y180, z180⟩, st180⟩ := Jvm.LawKit.callS X178 hx (y := (⟨"com/example/sixfold/sixfold/rows/RowsFewestPinLaw", "fits", "(IIIII)Z"⟩ : MethodName)) hown (mvT hZ (hw _ (List.mem_of_getElem? (i := 5) rfl))) (mvT hZ (hw _ (List.mem_of_getElem? (i := 6) rfl))) (mvT hZ (hw _ (List.mem_of_getElem? (i := 7) rfl))) (mvT hZ (hw _ (List.mem_of_getElem? (i := 8) rfl))) (by decide) (backOf (W := 0) (rm2 l Z a0 hw [] (4 : Int32) (3 : Int32) (1 : Int32) p2 p4 h144 n0 Z144 ) hZ (hw _ (List.mem_of_getElem? (i := 8) rfl)) (hw _ (List.mem_of_getElem? (i := 7) rfl)) (by decide) (by decide)) (g := (mkF m 102 #[.val (.int p0), .val (.int p1), .val (.int p2), .val (.int p3), .val (.int p4), .val (.int (4 : Int32)), .val (.ref b140), .val (.int (3 : Int32)), .val (.int p4)] [(.int p4), (.int p2), (.int (1 : Int32)), (.int (3 : Int32)), (.int (4 : Int32))])) rfl (by rw [hml]; rfl) (argsL := [(.int (4 : Int32)), (.int (3 : Int32)), (.int (1 : Int32)), (.int p2), (.int p4)]) (rest := []) (lenOf pd_1 rfl) rfl (by show 2 * 0 + _ ≤ _; exact Nat.le_of_eq rfl) (hb hby at_102) (fun _ _ => ⟨rfl, hq178, (by decide : 1 + 0 ≤ _), (by decide : 4 + 0 ≤ _)⟩)
                dsimp only [Pt.U, Pt.locs, Pt.cells, Pt.slots] at X180 l180 y180 z180 st180 hQ180
                subst l180 y180 z180
                obtain ⟨N180q, rfl, hq180⟩ := hQ180
                have N180 := Fr.app N178 N180q
                refine own_go (fun t k => st180 _ k) ?_
                show own_Gl _ _ _ _ (T180.setTop (mkF m 105 #[.val (.int p0), .val (.int p1), .val (.int p2), .val (.int p3), .val (.int p4), .val (.int (4 : Int32)), .val (.ref b140), .val (.int (3 : Int32)), .val (.int p4)] [(.int (f2 (4 : Int32) (3 : Int32) (1 : Int32) p2 p4))]))
                by_cases hc105_181 : (f2 (4 : Int32) (3 : Int32) (1 : Int32) p2 p4) = (0 : Int32)
                · refine own_go (fun t k => XS.ifYes X180.here hx rfl (pc0 := 105) (pc' := 141) rfl (hb hby at_105) rfl ((if0 _ _).trans (teq hc105_181).1) (by decide) (by decide) k) ?_
                  show own_Gl _ _ _ _ (T180.setTop (mkF m 141 #[.val (.int p0), .val (.int p1), .val (.int p2), .val (.int p3), .val (.int p4), .val (.int (4 : Int32)), .val (.ref b140), .val (.int (3 : Int32)), .val (.int p4)] []))
                  refine own_go (fun t k => XS.iconst X180.here hx rfl (hb hby at_141) k) ?_
                  show own_Gl _ _ _ _ (T180.setTop (mkF m 142 #[.val (.int p0), .val (.int p1), .val (.int p2), .val (.int p3), .val (.int p4), .val (.int (4 : Int32)), .val (.ref b140), .val (.int (3 : Int32)), .val (.int p4)] [(.int (0 : Int32))]))
                  obtain ⟨fs, hr, hrun, hended, hW, hsame⟩ := X180.leave (v := some (.int (0 : Int32))) (fun h => by rw [Bd.returns] at h; cases h)
                  refine own_fin (retN X180 hx (t := .boolean) Bd.returns (by simp) (hb hby at_142) hr) hrun hended ⟨_, _, rfl, ?_, ⟨_, rfl⟩, hW, hsame.mono (by decide) (by decide)⟩
                  show Q0 Z p0 p1 p2 p3 p4 h0 n0 _ T180.heap _
                  rw [hq180]
                  exact ⟨N180, by rw [f0, if_neg hc3_64, if_neg hc3_78, if_neg hc3_103, if_neg hc57_146, if_neg hc57_156, if_neg hc57_166, if_neg hc91_179, if_pos hc105_181]⟩
                · refine own_go (fun t k => XS.ifNo X180.here hx rfl (hb hby at_105) rfl ((if0 _ _).trans (feq hc105_181).1) k) ?_
                  show own_Gl _ _ _ _ (T180.setTop (mkF m 108 #[.val (.int p0), .val (.int p1), .val (.int p2), .val (.int p3), .val (.int p4), .val (.int (4 : Int32)), .val (.ref b140), .val (.int (3 : Int32)), .val (.int p4)] []))
                  refine own_go (fun t k => XS.iload X180.here hx rfl (hb hby at_108) rfl k) ?_
                  show own_Gl _ _ _ _ (T180.setTop (mkF m 110 #[.val (.int p0), .val (.int p1), .val (.int p2), .val (.int p3), .val (.int p4), .val (.int (4 : Int32)), .val (.ref b140), .val (.int (3 : Int32)), .val (.int p4)] [(.int (4 : Int32))]))
                  refine own_go (fun t k => XS.iload X180.here hx rfl (hb hby at_110) rfl k) ?_
                  show own_Gl _ _ _ _ (T180.setTop (mkF m 112 #[.val (.int p0), .val (.int p1), .val (.int p2), .val (.int p3), .val (.int p4), .val (.int (4 : Int32)), .val (.ref b140), .val (.int (3 : Int32)), .val (.int p4)] [(.int (3 : Int32)), (.int (4 : Int32))]))
                  refine own_go (fun t k => XS.iconst X180.here hx rfl (hb hby at_112) k) ?_
                  show own_Gl _ _ _ _ (T180.setTop (mkF m 113 #[.val (.int p0), .val (.int p1), .val (.int p2), .val (.int p3), .val (.int p4), .val (.int (4 : Int32)), .val (.ref b140), .val (.int (3 : Int32)), .val (.int p4)] [(.int (2 : Int32)), (.int (3 : Int32)), (.int (4 : Int32))]))
                  refine own_go (fun t k => XS.iloadN X180.here hx rfl (hb hby at_113) rfl k) ?_
                  show own_Gl _ _ _ _ (T180.setTop (mkF m 114 #[.val (.int p0), .val (.int p1), .val (.int p2), .val (.int p3), .val (.int p4), .val (.int (4 : Int32)), .val (.ref b140), .val (.int (3 : Int32)), .val (.int p4)] [(.int p3), (.int (2 : Int32)), (.int (3 : Int32)), (.int (4 : Int32))]))
                  refine own_go (fun t k => XS.iload X180.here hx rfl (hb hby at_114) rfl k) ?_
                  show own_Gl _ _ _ _ (T180.setTop (mkF m 116 #[.val (.int p0), .val (.int p1), .val (.int p2), .val (.int p3), .val (.int p4), .val (.int (4 : Int32)), .val (.ref b140), .val (.int (3 : Int32)), .val (.int p4)] [(.int p4), (.int p3), (.int (2 : Int32)), (.int (3 : Int32)), (.int (4 : Int32))]))
                  obtain ⟨_, _, ⟨T182, L182, kk182, nn182⟩, -, X182, ⟨Lc182, hQ182, l182, y182, z182⟩, st182⟩ := Jvm.LawKit.callS X180 hx (y := (⟨"com/example/sixfold/sixfold/rows/RowsFewestPinLaw", "fits", "(IIIII)Z"⟩ : MethodName)) hown (mvT hZ (hw _ (List.mem_of_getElem? (i := 5) rfl))) (mvT hZ (hw _ (List.mem_of_getElem? (i := 6) rfl))) (mvT hZ (hw _ (List.mem_of_getElem? (i := 7) rfl))) (mvT hZ (hw _ (List.mem_of_getElem? (i := 8) rfl))) (by decide) (backOf (W := 0) (rm2 l Z a0 hw [] (4 : Int32) (3 : Int32) (2 : Int32) p3 p4 h144 n0 Z144 ) hZ (hw _ (List.mem_of_getElem? (i := 8) rfl)) (hw _ (List.mem_of_getElem? (i := 7) rfl)) (by decide) (by decide)) (g := (mkF m 116 #[.val (.int p0), .val (.int p1), .val (.int p2), .val (.int p3), .val (.int p4), .val (.int (4 : Int32)), .val (.ref b140), .val (.int (3 : Int32)), .val (.int p4)] [(.int p4), (.int p3), (.int (2 : Int32)), (.int (3 : Int32)), (.int (4 : Int32))])) rfl (by rw [hml]; rfl) (argsL := [(.int (4 : Int32)), (.int (3 : Int32)), (.int (2 : Int32)), (.int p3), (.int p4)]) (rest := []) (lenOf pd_1 rfl) rfl (by show 2 * 0 + _ ≤ _; exact Nat.le_of_eq rfl) (hb hby at_116) (fun _ _ => ⟨rfl, hq180, (by decide : 1 + 0 ≤ _), (by decide : 4 + 0 ≤ _)⟩)
                  dsimp only [Pt.U, Pt.locs, Pt.cells, Pt.slots] at X182 l182 y182 z182 st182 hQ182
                  subst l182 y182 z182
                  obtain ⟨N182q, rfl, hq182⟩ := hQ182
                  have N182 := Fr.app N180 N182q
                  refine own_go (fun t k => st182 _ k) ?_
                  show own_Gl _ _ _ _ (T182.setTop (mkF m 119 #[.val (.int p0), .val (.int p1), .val (.int p2), .val (.int p3), .val (.int p4), .val (.int (4 : Int32)), .val (.ref b140), .val (.int (3 : Int32)), .val (.int p4)] [(.int (f2 (4 : Int32) (3 : Int32) (2 : Int32) p3 p4))]))
                  by_cases hc119_183 : (f2 (4 : Int32) (3 : Int32) (2 : Int32) p3 p4) = (0 : Int32)
                  · refine own_go (fun t k => XS.ifYes X182.here hx rfl (pc0 := 119) (pc' := 141) rfl (hb hby at_119) rfl ((if0 _ _).trans (teq hc119_183).1) (by decide) (by decide) k) ?_
                    show own_Gl _ _ _ _ (T182.setTop (mkF m 141 #[.val (.int p0), .val (.int p1), .val (.int p2), .val (.int p3), .val (.int p4), .val (.int (4 : Int32)), .val (.ref b140), .val (.int (3 : Int32)), .val (.int p4)] []))
                    refine own_go (fun t k => XS.iconst X182.here hx rfl (hb hby at_141) k) ?_
                    show own_Gl _ _ _ _ (T182.setTop (mkF m 142 #[.val (.int p0), .val (.int p1), .val (.int p2), .val (.int p3), .val (.int p4), .val (.int (4 : Int32)), .val (.ref b140), .val (.int (3 : Int32)), .val (.int p4)] [(.int (0 : Int32))]))
                    obtain ⟨fs, hr, hrun, hended, hW, hsame⟩ := X182.leave (v := some (.int (0 : Int32))) (fun h => by rw [Bd.returns] at h; cases h)
                    refine own_fin (retN X182 hx (t := .boolean) Bd.returns (by simp) (hb hby at_142) hr) hrun hended ⟨_, _, rfl, ?_, ⟨_, rfl⟩, hW, hsame.mono (by decide) (by decide)⟩
                    show Q0 Z p0 p1 p2 p3 p4 h0 n0 _ T182.heap _
                    rw [hq182]
                    exact ⟨N182, by rw [f0, if_neg hc3_64, if_neg hc3_78, if_neg hc3_103, if_neg hc57_146, if_neg hc57_156, if_neg hc57_166, if_neg hc91_179, if_neg hc105_181, if_pos hc119_183]⟩
                  · refine own_go (fun t k => XS.ifNo X182.here hx rfl (hb hby at_119) rfl ((if0 _ _).trans (feq hc119_183).1) k) ?_
                    show own_Gl _ _ _ _ (T182.setTop (mkF m 122 #[.val (.int p0), .val (.int p1), .val (.int p2), .val (.int p3), .val (.int p4), .val (.int (4 : Int32)), .val (.ref b140), .val (.int (3 : Int32)), .val (.int p4)] []))
                    refine own_go (fun t k => XS.iload X182.here hx rfl (hb hby at_122) rfl k) ?_
                    show own_Gl _ _ _ _ (T182.setTop (mkF m 124 #[.val (.int p0), .val (.int p1), .val (.int p2), .val (.int p3), .val (.int p4), .val (.int (4 : Int32)), .val (.ref b140), .val (.int (3 : Int32)), .val (.int p4)] [(.int (4 : Int32))]))
                    refine own_go (fun t k => XS.iload X182.here hx rfl (hb hby at_124) rfl k) ?_
                    show own_Gl _ _ _ _ (T182.setTop (mkF m 126 #[.val (.int p0), .val (.int p1), .val (.int p2), .val (.int p3), .val (.int p4), .val (.int (4 : Int32)), .val (.ref b140), .val (.int (3 : Int32)), .val (.int p4)] [(.int (3 : Int32)), (.int (4 : Int32))]))
                    refine own_go (fun t k => XS.iconst X182.here hx rfl (hb hby at_126) k) ?_
                    show own_Gl _ _ _ _ (T182.setTop (mkF m 127 #[.val (.int p0), .val (.int p1), .val (.int p2), .val (.int p3), .val (.int p4), .val (.int (4 : Int32)), .val (.ref b140), .val (.int (3 : Int32)), .val (.int p4)] [(.int (3 : Int32)), (.int (3 : Int32)), (.int (4 : Int32))]))
                    refine own_go (fun t k => XS.iload X182.here hx rfl (hb hby at_127) rfl k) ?_
                    show own_Gl _ _ _ _ (T182.setTop (mkF m 129 #[.val (.int p0), .val (.int p1), .val (.int p2), .val (.int p3), .val (.int p4), .val (.int (4 : Int32)), .val (.ref b140), .val (.int (3 : Int32)), .val (.int p4)] [(.int p4), (.int (3 : Int32)), (.int (3 : Int32)), (.int (4 : Int32))]))
                    refine own_go (fun t k => XS.iload X182.here hx rfl (hb hby at_129) rfl k) ?_
                    show own_Gl _ _ _ _ (T182.setTop (mkF m 131 #[.val (.int p0), .val (.int p1), .val (.int p2), .val (.int p3), .val (.int p4), .val (.int (4 : Int32)), .val (.ref b140), .val (.int (3 : Int32)), .val (.int p4)] [(.int p4), (.int p4), (.int (3 : Int32)), (.int (3 : Int32)), (.int (4 : Int32))]))
                    obtain ⟨_, _, ⟨T184, L184, kk184, nn184⟩, -, X184, ⟨Lc184, hQ184, l184, y184, z184⟩, st184⟩ := Jvm.LawKit.callS X182 hx (y := (⟨"com/example/sixfold/sixfold/rows/RowsFewestPinLaw", "fits", "(IIIII)Z"⟩ : MethodName)) hown (mvT hZ (hw _ (List.mem_of_getElem? (i := 5) rfl))) (mvT hZ (hw _ (List.mem_of_getElem? (i := 6) rfl))) (mvT hZ (hw _ (List.mem_of_getElem? (i := 7) rfl))) (mvT hZ (hw _ (List.mem_of_getElem? (i := 8) rfl))) (by decide) (backOf (W := 0) (rm2 l Z a0 hw [] (4 : Int32) (3 : Int32) (3 : Int32) p4 p4 h144 n0 Z144 ) hZ (hw _ (List.mem_of_getElem? (i := 8) rfl)) (hw _ (List.mem_of_getElem? (i := 7) rfl)) (by decide) (by decide)) (g := (mkF m 131 #[.val (.int p0), .val (.int p1), .val (.int p2), .val (.int p3), .val (.int p4), .val (.int (4 : Int32)), .val (.ref b140), .val (.int (3 : Int32)), .val (.int p4)] [(.int p4), (.int p4), (.int (3 : Int32)), (.int (3 : Int32)), (.int (4 : Int32))])) rfl (by rw [hml]; rfl) (argsL := [(.int (4 : Int32)), (.int (3 : Int32)), (.int (3 : Int32)), (.int p4), (.int p4)]) (rest := []) (lenOf pd_1 rfl) rfl (by show 2 * 0 + _ ≤ _; exact Nat.le_of_eq rfl) (hb hby at_131) (fun _ _ => ⟨rfl, hq182, (by decide : 1 + 0 ≤ _), (by decide : 4 + 0 ≤ _)⟩)
                    dsimp only [Pt.U, Pt.locs, Pt.cells, Pt.slots] at X184 l184 y184 z184 st184 hQ184
                    subst l184 y184 z184
                    obtain ⟨N184q, rfl, hq184⟩ := hQ184
                    have N184 := Fr.app N182 N184q
                    refine own_go (fun t k => st184 _ k) ?_
                    show own_Gl _ _ _ _ (T184.setTop (mkF m 134 #[.val (.int p0), .val (.int p1), .val (.int p2), .val (.int p3), .val (.int p4), .val (.int (4 : Int32)), .val (.ref b140), .val (.int (3 : Int32)), .val (.int p4)] [(.int (f2 (4 : Int32) (3 : Int32) (3 : Int32) p4 p4))]))
                    by_cases hc134_185 : (f2 (4 : Int32) (3 : Int32) (3 : Int32) p4 p4) = (0 : Int32)
                    · refine own_go (fun t k => XS.ifYes X184.here hx rfl (pc0 := 134) (pc' := 141) rfl (hb hby at_134) rfl ((if0 _ _).trans (teq hc134_185).1) (by decide) (by decide) k) ?_
                      show own_Gl _ _ _ _ (T184.setTop (mkF m 141 #[.val (.int p0), .val (.int p1), .val (.int p2), .val (.int p3), .val (.int p4), .val (.int (4 : Int32)), .val (.ref b140), .val (.int (3 : Int32)), .val (.int p4)] []))
                      refine own_go (fun t k => XS.iconst X184.here hx rfl (hb hby at_141) k) ?_
                      show own_Gl _ _ _ _ (T184.setTop (mkF m 142 #[.val (.int p0), .val (.int p1), .val (.int p2), .val (.int p3), .val (.int p4), .val (.int (4 : Int32)), .val (.ref b140), .val (.int (3 : Int32)), .val (.int p4)] [(.int (0 : Int32))]))
                      obtain ⟨fs, hr, hrun, hended, hW, hsame⟩ := X184.leave (v := some (.int (0 : Int32))) (fun h => by rw [Bd.returns] at h; cases h)
                      refine own_fin (retN X184 hx (t := .boolean) Bd.returns (by simp) (hb hby at_142) hr) hrun hended ⟨_, _, rfl, ?_, ⟨_, rfl⟩, hW, hsame.mono (by decide) (by decide)⟩
                      show Q0 Z p0 p1 p2 p3 p4 h0 n0 _ T184.heap _
                      rw [hq184]
                      exact ⟨N184, by rw [f0, if_neg hc3_64, if_neg hc3_78, if_neg hc3_103, if_neg hc57_146, if_neg hc57_156, if_neg hc57_166, if_neg hc91_179, if_neg hc105_181, if_neg hc119_183, if_pos hc134_185]⟩
                    · refine own_go (fun t k => XS.ifNo X184.here hx rfl (hb hby at_134) rfl ((if0 _ _).trans (feq hc134_185).1) k) ?_
                      show own_Gl _ _ _ _ (T184.setTop (mkF m 137 #[.val (.int p0), .val (.int p1), .val (.int p2), .val (.int p3), .val (.int p4), .val (.int (4 : Int32)), .val (.ref b140), .val (.int (3 : Int32)), .val (.int p4)] []))
                      refine own_go (fun t k => XS.iconst X184.here hx rfl (hb hby at_137) k) ?_
                      show own_Gl _ _ _ _ (T184.setTop (mkF m 138 #[.val (.int p0), .val (.int p1), .val (.int p2), .val (.int p3), .val (.int p4), .val (.int (4 : Int32)), .val (.ref b140), .val (.int (3 : Int32)), .val (.int p4)] [(.int (1 : Int32))]))
                      refine own_go (fun t k => XS.goto X184.here hx rfl (pc0 := 138) (pc' := 142) rfl (hb hby at_138) (by decide) (by decide) k) ?_
                      show own_Gl _ _ _ _ (T184.setTop (mkF m 142 #[.val (.int p0), .val (.int p1), .val (.int p2), .val (.int p3), .val (.int p4), .val (.int (4 : Int32)), .val (.ref b140), .val (.int (3 : Int32)), .val (.int p4)] [(.int (1 : Int32))]))
                      obtain ⟨fs, hr, hrun, hended, hW, hsame⟩ := X184.leave (v := some (.int (1 : Int32))) (fun h => by rw [Bd.returns] at h; cases h)
                      refine own_fin (retN X184 hx (t := .boolean) Bd.returns (by simp) (hb hby at_142) hr) hrun hended ⟨_, _, rfl, ?_, ⟨_, rfl⟩, hW, hsame.mono (by decide) (by decide)⟩
                      show Q0 Z p0 p1 p2 p3 p4 h0 n0 _ T184.heap _
                      rw [hq184]
                      exact ⟨N184, by rw [f0, if_neg hc3_64, if_neg hc3_78, if_neg hc3_103, if_neg hc57_146, if_neg hc57_156, if_neg hc57_166, if_neg hc91_179, if_neg hc105_181, if_neg hc119_183, if_neg hc134_185]⟩
theorem own_f2a (n r i v m : Int32) (h1 : i < n) (h2 : i < r) : (f2 n r i v m = 0) = ¬ (m < v) := by
  rw [f2, if_pos h1, if_pos h2]; split <;> simp_all
theorem own_f2b (n r i v m : Int32) (h1 : i < n) (h2 : ¬ i < r) : (f2 n r i v m = 0) = (v < m) := by
  rw [f2, if_pos h1, if_neg h2]; split <;> simp_all
theorem own_f2c (n r i v m : Int32) (h1 : ¬ i < n) : (f2 n r i v m = 0) = False := by
  rw [f2, if_neg h1]; simp
set_option maxHeartbeats 4000000 in
theorem own_law (p0 p1 p2 p3 p4 : Int32) : f0 p0 p1 p2 p3 p4 = 1 := by
  have h3 := own_and3 p0
  unfold f0
  generalize p0 &&& 3 = k at *
  rcases h3 with rfl | rfl | rfl | rfl
  · simp +decide only [own_f2a, own_f2b, own_f2c, if_true, if_false, Int32.lt_irrefl]
  · simp +decide only [own_f2a, own_f2b, own_f2c, if_true, if_false, Int32.lt_irrefl, f1_2, Int32.lt_iff_toInt_lt]
    repeat' split
    all_goals first | rfl | (exfalso; omega) | (exfalso; simp_all; done) | (exfalso; simp_all; omega)
  · simp +decide only [own_f2a, own_f2b, own_f2c, if_true, if_false, Int32.lt_irrefl, f1_3, Int32.lt_iff_toInt_lt]
    repeat' split
    all_goals first | rfl | (exfalso; omega) | (exfalso; simp_all; done) | (exfalso; simp_all; omega)
  · simp +decide only [own_f2a, own_f2b, own_f2c, if_true, if_false, Int32.lt_irrefl, f1_4, Int32.lt_iff_toInt_lt]
    repeat' split
    all_goals first | rfl | (exfalso; omega) | (exfalso; simp_all; done) | (exfalso; simp_all; omega)
set_option maxRecDepth 65536 in
set_option maxHeartbeats 40000000 in
theorem comes_1 {Post : Tables → Env → Array Value → State → Outcome → State → Prop} (hpost : ∀ tb e args s v u, (limb_1_1.after args s (.returned v) u = true ∧ limb_1_2.after args s (.returned v) u = true ∧ True) → FrameEnd s (.returned v) u (Jvm.fieldLocs frame_1_writes args s ++ Jvm.arrayLocs frame_1_arrays args s ++ Jvm.staticLocs frame_1_statics s) 16 128 → Post tb e args s (.returned v) u) :
    ArmFor flags0 classFile x code maxLocals ret World_1 tables_1 room_1 Calls_1 rest_1 Pre_1 Post := by
  intro l hfl _ _ p e ha hc hk s m args below hf hA hF happ hP
  obtain ⟨hcalls, hrest, hpre⟩ := hP
  obtain ⟨-, -, -, hnamed, -, -, -, hat⟩ := (Spec.applies_iff hf).mp happ
  obtain ⟨hg, hn⟩ := and_e (Cond.before_iff.mp (show (Jvm.Cond.and given_1 narrow_1).before args s = true from hpre))
  obtain ⟨g1, g2⟩ := and_e hg
  obtain ⟨g3, g4⟩ := and_e g2
  obtain ⟨g5, g6⟩ := and_e g4
  obtain ⟨g7, g8⟩ := and_e g6
  obtain ⟨g9, g10⟩ := and_e g8
  obtain ⟨w0, w1, w2, w3, w4, rfl⟩ : ∃ w0 w1 w2 w3 w4 : Value, args = #[w0, w1, w2, w3, w4] := by
    have hs : args.size = 5 := by simpa [Cond.value, given_1] using g1
    obtain ⟨L⟩ := args
    match L, hs with
    | [w0, w1, w2, w3, w4], _ => exact ⟨w0, w1, w2, w3, w4, rfl⟩
  have hw := fun d (hd : d ∈ tables_1) => atoms_spec (ws := Jvm.Cond.code x code maxLocals ret :: tables_1) hat d (List.mem_cons_of_mem _ hd)
  have hfit : Fit s := fun {y c} hc i hi => by
    obtain ⟨ha, rfl⟩ := Array.getElem?_eq_some_iff.mp hc
    have q := List.all_eq_true.mp ((Array.all_eq_true_iff_forall_mem.mp hF) _ (Array.getElem_mem ha)) i (List.mem_range.mpr hi)
    simpa [Array.getElem?_eq_getElem hi] using q
  obtain ⟨i0, ei0⟩ := is_v g3
  obtain rfl : w0 = (.int i0) := Option.some.inj ei0
  obtain ⟨i1, ei1⟩ := is_v g5
  obtain rfl : w1 = (.int i1) := Option.some.inj ei1
  obtain ⟨i2, ei2⟩ := is_v g7
  obtain rfl : w2 = (.int i2) := Option.some.inj ei2
  obtain ⟨i3, ei3⟩ := is_v g9
  obtain rfl : w3 = (.int i3) := Option.some.inj ei3
  obtain ⟨i4, ei4⟩ := is_v g10
  obtain rfl : w4 = (.int i4) := Option.some.inj ei4
  obtain ⟨n, o, h1, h2, h3, _, L, rfl, ⟨N, hv⟩, hq⟩ := rm0 l s _ hw tables_1 i0 i1 i2 i3 i4 s.heap s.heap.size (Nat.le_refl _)  p e ha hc hk s m _ below hf ((Spec.applies_iff_loose hf).mp happ).1 ⟨rfl, State.Warmed39.refl s, rfl⟩ trivial
  rw [own_law] at hv
  subst hv
  refine ⟨n, _, h1, h2, h3, hpost _ _ _ _ _ _ ⟨Cond.after_iff.mpr rfl, Cond.after_iff.mpr (eq_i res_at (Term.int_eval (1)) rfl), trivial⟩ ⟨hq.1, hq.2.1, (hq.2.2.sift fun y hy => Or.inr (N y hy)).mono (by decide) (by decide)⟩⟩
theorem main_1_1 : Claimed_1_1 := comes_1 fun _ _ _ _ _ _ h hF => ⟨h.1, hF⟩
theorem main_1_2 : Claimed_1_2 := comes_1 fun _ _ _ _ _ _ h hF => ⟨h.2.1, hF⟩
end Jvm.Pilot.@@N@@
namespace Jvm.Pilot.@@N@@
open Jvm Jvm.ClassFile Sem Op Lib Jvm.Free Jvm.Stand Jvm.Pilot.@@N@@.Jvm.D
/-! MADE BY PROGRAM (witnessworld.py) out of the Statement's table words and the real class files: 9 classes; the members and pool entries that the words name. The judged class is class 1, her method 1. -/
namespace start1
open Jvm.ClassFile
def u (s : String) : CpInfo := .utf8 (stringToUtf16 s)
/-- a pool by its gaps: so many unusable entries, then the entry; so many at the end -/
def gap : Nat → List CpInfo → List CpInfo
  | 0, r => r
  | n + 1, r => .unusable :: gap n r
def poolList (es : List (Nat × CpInfo)) (last : Nat) : List CpInfo := es.foldr (fun e r => gap e.1 (e.2 :: r)) (gap last [])
def pool (es : List (Nat × CpInfo)) (last : Nat) : Array CpInfo := ⟨poolList es last⟩
def fileOf (pool : Array CpInfo) (this : Nat) (attrs : Array Attribute := #[]) (ms : Array MethodInfo := #[]) (fl : Nat := 33) (sup : Nat := 0) (ifs : Array Nat := #[]) (fds : Array FieldInfo := #[]) : ClassFile where
  minorVersion := 0
  majorVersion := 65
  constantPool := pool
  accessFlags := fl
  thisClass := this
  superClass := sup
  interfaces := ifs
  fields := fds
  methods := ms
  attributes := attrs
def plain (name : String) (sup : Option ClassId) : Class where
  name := name
  kind := .ordinary
  loader := none
  accessFlags := 33
  super := sup
  interfaces := #[]
  cf := none
  fields := #[]
  methods := #[]
  instanceTypes := #[]
  staticTypes := #[]
  resolved := #[]
  callSites := []
  init := .initialized
  statics := none
  mirror := none

def pool0 : Array CpInfo := pool [(5, u "<init>"), (0, u "()V"), (1, .class_ 10), (1, u "java/lang/Object")] 113

def k0m0 : Method := { name := "<init>", desc := "()V", sig := { parameters := [], returnType := none }, accessFlags := 1, code := none }
/-- java/lang/Object -/
def k0 : Class := { plain "java/lang/Object" none with
  accessFlags := 33
  interfaces := #[]
  cf := some (fileOf pool0 8 #[] #[{ accessFlags := 1, nameIndex := 5, descriptorIndex := 6, attributes := #[] }] 33 0 #[] #[])
  fields := #[]
  methods := #[k0m0]
  instanceTypes := #[]
  staticTypes := #[]
  resolved := Array.replicate 124 none
  statics := none }

def pool1 : Array CpInfo := pool [(2, .class_ 4), (1, u "java/lang/Object"), (0, u "<init>"), (0, u "()V"), (0, .methodref 8 9), (0, .class_ 10), (0, .nameAndType 11 12), (0, u "com/example/sixfold/sixfold/rows/Rows"), (0, u "fewest"), (0, u "([I)I"), (0, .methodref 14 15), (0, .class_ 16), (0, .nameAndType 17 18), (0, u "com/example/sixfold/sixfold/rows/RowsFewestPinLaw"), (0, u "fits"), (0, u "(IIIII)Z"), (2, u "law")] 5

def k1m0 : Method := { name := "<init>", desc := "()V", sig := { parameters := [], returnType := none }, accessFlags := 2, code := none }
def k1c1 : Code := { maxStack := 5, maxLocals := 9, code := code, exceptionTable := #[], attributes := #[] }
def k1m1 : Method := { name := "law", desc := "(IIIII)Z", sig := { parameters := [.int, .int, .int, .int, .int], returnType := some .boolean }, accessFlags := 9, code := some k1c1 }
def k1c2 : Code := { maxStack := 2, maxLocals := 5, code := method_3_code, exceptionTable := #[], attributes := #[] }
def k1m2 : Method := { name := "fits", desc := "(IIIII)Z", sig := { parameters := [.int, .int, .int, .int, .int], returnType := some .boolean }, accessFlags := 10, code := some k1c2 }
/-- com/example/sixfold/sixfold/rows/RowsFewestPinLaw -/
def k1 : Class := { plain "com/example/sixfold/sixfold/rows/RowsFewestPinLaw" (some 0) with
  accessFlags := 49
  interfaces := #[]
  cf := some (fileOf pool1 14 #[] #[{ accessFlags := 2, nameIndex := 5, descriptorIndex := 6, attributes := #[] }, { accessFlags := 9, nameIndex := 21, descriptorIndex := 18, attributes := #[] }, { accessFlags := 10, nameIndex := 17, descriptorIndex := 18, attributes := #[] }] 49 2 #[] #[])
  fields := #[]
  methods := #[k1m0, k1m1, k1m2]
  instanceTypes := #[]
  staticTypes := #[]
  resolved := Array.replicate 27 none
  statics := none }

def pool2 : Array CpInfo := pool [(2, .class_ 4), (1, u "java/lang/Object"), (0, u "<init>"), (0, u "()V"), (5, .class_ 14), (1, u "com/example/sixfold/sixfold/rows/Rows"), (0, u "cards"), (0, u "[Lcom/example/sixfold/sixfold/rows/IntList;"), (2, u "heads"), (0, u "[I"), (5, u "lasts"), (0, u "Lcom/example/sixfold/sixfold/rows/CardSet;"), (4, u "rowEnding"), (0, u "[B"), (11, u "view"), (0, u "Ljava/util/List;"), (65, u "fewest"), (0, u "([I)I"), (10, u "FULL"), (0, u "I"), (2, u "NO_ROW")] 19

def k2m0 : Method := { name := "<init>", desc := "()V", sig := { parameters := [], returnType := none }, accessFlags := 0, code := none }
def k2c1 : Code := { maxStack := 3, maxLocals := 3, code := prog_55_method_12_code, exceptionTable := #[], attributes := #[] }
def k2m1 : Method := { name := "fewest", desc := "([I)I", sig := { parameters := [(.array .int)], returnType := some .int }, accessFlags := 8, code := some k2c1 }
/-- com/example/sixfold/sixfold/rows/Rows -/
def k2 : Class := { plain "com/example/sixfold/sixfold/rows/Rows" (some 0) with
  accessFlags := 48
  interfaces := #[]
  cf := some (fileOf pool2 12 #[] #[{ accessFlags := 0, nameIndex := 5, descriptorIndex := 6, attributes := #[] }, { accessFlags := 8, nameIndex := 112, descriptorIndex := 113, attributes := #[] }] 48 2 #[] #[{ accessFlags := 24, nameIndex := 124, descriptorIndex := 125, attributes := #[] }, { accessFlags := 24, nameIndex := 128, descriptorIndex := 125, attributes := #[] }, { accessFlags := 18, nameIndex := 15, descriptorIndex := 16, attributes := #[] }, { accessFlags := 18, nameIndex := 45, descriptorIndex := 46, attributes := #[] }, { accessFlags := 18, nameIndex := 19, descriptorIndex := 20, attributes := #[] }, { accessFlags := 18, nameIndex := 26, descriptorIndex := 27, attributes := #[] }, { accessFlags := 18, nameIndex := 32, descriptorIndex := 33, attributes := #[] }])
  fields := #[{ name := "FULL", type := .int, accessFlags := 24, slot := 0, constantValue := 0 }, { name := "NO_ROW", type := .int, accessFlags := 24, slot := 1, constantValue := 0 }, { name := "cards", type := (.array (.object "com/example/sixfold/sixfold/rows/IntList")), accessFlags := 18, slot := 0, constantValue := 0 }, { name := "view", type := (.object "java/util/List"), accessFlags := 18, slot := 1, constantValue := 0 }, { name := "heads", type := (.array .int), accessFlags := 18, slot := 2, constantValue := 0 }, { name := "lasts", type := (.object "com/example/sixfold/sixfold/rows/CardSet"), accessFlags := 18, slot := 3, constantValue := 0 }, { name := "rowEnding", type := (.array .byte), accessFlags := 18, slot := 4, constantValue := 0 }]
  methods := #[k2m0, k2m1]
  instanceTypes := #[(.array (.object "com/example/sixfold/sixfold/rows/IntList")), (.object "java/util/List"), (.array .int), (.object "com/example/sixfold/sixfold/rows/CardSet"), (.array .byte)]
  staticTypes := #[.int, .int]
  resolved := Array.replicate 148 none
  statics := none }

def pool3 : Array CpInfo := pool [(1, u "java/lang/Cloneable"), (0, .class_ 1), (0, u "java/lang/Object"), (0, .class_ 3)] 3

/-- java/lang/Cloneable -/
def k3 : Class := { plain "java/lang/Cloneable" (some 0) with
  accessFlags := 1537
  interfaces := #[]
  cf := some (fileOf pool3 2 #[] #[] 1537 4 #[] #[])
  fields := #[]
  methods := #[]
  instanceTypes := #[]
  staticTypes := #[]
  resolved := Array.replicate 8 none
  statics := none }

def pool4 : Array CpInfo := pool [(1, u "java/io/Serializable"), (0, .class_ 1), (0, u "java/lang/Object"), (0, .class_ 3)] 3

/-- java/io/Serializable -/
def k4 : Class := { plain "java/io/Serializable" (some 0) with
  accessFlags := 1537
  interfaces := #[]
  cf := some (fileOf pool4 2 #[] #[] 1537 4 #[] #[])
  fields := #[]
  methods := #[]
  instanceTypes := #[]
  staticTypes := #[]
  resolved := Array.replicate 8 none
  statics := none }

/-- the primitive byte -/
def k5 : Class := { plain "byte" none with kind := .primitive 'B', accessFlags := 0x411 }
/-- [B -/
def k6 : Class := { plain "[B" (some 0) with kind := .array 5 .byte, interfaces := #[3, 4], accessFlags := 1041 }

/-- the primitive int -/
def k7 : Class := { plain "int" none with kind := .primitive 'I', accessFlags := 0x411 }
/-- [I -/
def k8 : Class := { plain "[I" (some 0) with kind := .array 7 .int, interfaces := #[3, 4], accessFlags := 1041 }

def heap : Heap := #[]
def classes : Array Class := #[k0, k1, k2, k3, k4, k5, k6, k7, k8]
def interned : List (Array UInt16 × Addr) := []
def slotsUsed : Nat := 0
def theMethod : MethodId := ⟨1, 1⟩
def args0 : Array Value := #[.int 3, .int 7, .int 5, .int 2, .int 1]
def aboutOver (below : List Frame) : State where
  vm := { classes := classes, interned := interned.toArray }
  heap := heap
  slotsUsed := slotsUsed
  threads := #[{ frames := .invoking theMethod args0 :: below }]
def below0 : List Frame := [.native { method := ⟨0, 0⟩, args := #[] }]
def about1 : State := aboutOver below0
def p0 : Program := .bare "" "" ""
def e0 : Env := launch0.env 0 0 0
theorem w_frames : about1.frames = Frame.invoking theMethod args0 :: below0 := rfl
set_option maxRecDepth 65536 in
theorem w_args : argsFit about1.vm theMethod args0 = true := by decide +kernel
set_option maxRecDepth 65536 in
theorem w_heap : heapFits about1 = true := by decide +kernel
set_option maxRecDepth 65536 in
theorem w_runnable : about1.curStatus? = some .runnable := by decide +kernel
set_option maxRecDepth 65536 in
theorem w_alone : about1.alone = true := by decide +kernel
set_option maxRecDepth 65536 in
theorem w_named : about1.methodNamed? x = some theMethod := by decide +kernel
set_option maxRecDepth 65536 in
theorem w_hears : about1.hears theMethod below0 = true := by decide +kernel
set_option maxRecDepth 65536 in
theorem w_ripe : about1.ripe theMethod args0 below0 = true := by decide +kernel
theorem w_running : about1.status = .running := rfl
set_option maxRecDepth 65536 in
theorem w_room : about1.hasRoom e0.platform room_1 = true :=
  launch0.hasRoom_least _ room_1 (by decide +kernel) (by decide +kernel) (by decide +kernel) (by decide +kernel) (by decide +kernel) (by decide +kernel)
theorem allAtoms_all (ts : List Jvm.Cond) (a : Array Jvm.Value) (st : Jvm.State) : (allAtoms ts).before a st = ts.all (fun c => c.before a st) := by
  induction ts with
  | nil => rfl
  | cons c t ih =>
    show (Jvm.Cond.and c (allAtoms t)).before a st = _
    rw [Jvm.Cond.before_and, ih, List.all_cons]
def words1 : List Jvm.Cond := Jvm.Cond.code x code maxLocals ret :: tables_1
/-- a 'code' word, met by the world's own term for the bytes: nothing is compared byte by byte -/
theorem code_word {y : MethodName} {bytes : ByteArray} {mx : Nat} {rt : Option FieldType} {a : Array Value} {s : State} {m : MethodId} {meth : Method} {c : Code} (h1 : s.methodNamed? y = some m) (h2 : s.vm.method? m = some meth) (h3 : meth.code = some c) (h4 : c.code = bytes)
    (h5 : (c.maxLocals == mx && c.exceptionTable.isEmpty && decide (c.maxStack ≤ mostOperands) && decide (meth.sig.returnType = rt) && !meth.locks && decide (parseMethodDescriptor y.desc = some meth.sig)) = true) : (Jvm.Cond.code y bytes mx rt).before a s = true := by
  simp only [Bool.and_eq_true, beq_iff_eq, Bool.not_eq_true', decide_eq_true_eq] at h5
  obtain ⟨⟨⟨⟨⟨g1, g2⟩, g3⟩, g4⟩, g5⟩, g6⟩ := h5
  simp [Cond.before, Cond.holds, Cond.value, h1, h2, h3, h4, g1, g2, g3, g4, g5, g6]
def isCode : Jvm.Cond → Bool
  | .code _ _ _ _ => true
  | _ => false
theorem all_split {L : List Jvm.Cond} {P : Jvm.Cond → Bool} (h1 : L.all (fun c => isCode c || P c) = true) (h2 : ∀ c ∈ L.filter isCode, P c = true) : L.all P = true := by
  refine List.all_eq_true.mpr fun c hc => ?_
  have h := List.all_eq_true.mp h1 c hc
  rcases Bool.eq_false_or_eq_true (isCode c) with hi | hi
  · exact h2 c (List.mem_filter.mpr ⟨hc, hi⟩)
  · simpa [hi] using h
set_option maxRecDepth 65536 in
theorem w_c0 : (Jvm.Cond.code x code maxLocals ret).before args0 about1 = true := code_word (m := ⟨1, 1⟩) (meth := k1m1) (c := k1c1) (by decide +kernel) rfl rfl rfl (by decide +kernel)
set_option maxRecDepth 65536 in
theorem w_c1 : (Jvm.Cond.code ({ cls := "com/example/sixfold/sixfold/rows/Rows", name := "fewest", desc := "([I)I" } : Jvm.MethodName) prog_55_method_12_code (3 : Nat) (Option.some Jvm.ClassFile.FieldType.int)).before args0 about1 = true := code_word (m := ⟨2, 1⟩) (meth := k2m1) (c := k2c1) (by decide +kernel) rfl rfl rfl (by decide +kernel)
set_option maxRecDepth 65536 in
theorem w_c2 : (Jvm.Cond.code ({ cls := "com/example/sixfold/sixfold/rows/RowsFewestPinLaw", name := "fits", desc := "(IIIII)Z" } : Jvm.MethodName) method_3_code (5 : Nat) (Option.some Jvm.ClassFile.FieldType.boolean)).before args0 about1 = true := code_word (m := ⟨1, 2⟩) (meth := k1m2) (c := k1c2) (by decide +kernel) rfl rfl rfl (by decide +kernel)
def codes1 : List Jvm.Cond := [Jvm.Cond.code x code maxLocals ret, Jvm.Cond.code ({ cls := "com/example/sixfold/sixfold/rows/Rows", name := "fewest", desc := "([I)I" } : Jvm.MethodName) prog_55_method_12_code (3 : Nat) (Option.some Jvm.ClassFile.FieldType.int), Jvm.Cond.code ({ cls := "com/example/sixfold/sixfold/rows/RowsFewestPinLaw", name := "fits", desc := "(IIIII)Z" } : Jvm.MethodName) method_3_code (5 : Nat) (Option.some Jvm.ClassFile.FieldType.boolean)]
set_option maxRecDepth 65536 in
theorem codes_eq : words1.filter isCode = codes1 := rfl
theorem w_codes : ∀ c ∈ words1.filter isCode, c.before args0 about1 = true := by
  rw [codes_eq]
  intro c hc
  simp only [codes1, List.mem_cons, List.not_mem_nil, or_false] at hc
  rcases hc with rfl | rfl | rfl
  · exact w_c0
  · exact w_c1
  · exact w_c2
set_option maxRecDepth 65536 in
theorem w_t1 : words1.all (fun c => isCode c || c.before args0 about1) = true := by decide +kernel
theorem w_tables : (allAtoms (Jvm.Cond.code x code maxLocals ret :: tables_1)).before args0 about1 = true := by
  rw [allAtoms_all]
  show words1.all (fun c => c.before args0 about1) = true
  refine all_split ?_ w_codes
  rw [w_t1]
set_option maxRecDepth 65536 in
theorem w_case : (Jvm.Cond.and given_1 narrow_1).before args0 about1 = true := by decide +kernel
theorem w_applies : (headSpec (Jvm.Cond.code x code maxLocals ret :: tables_1) room_1).applies x e0.platform about1 = true :=
  (Spec.applies_iff w_frames).mpr ⟨w_running, w_runnable, w_alone, w_named, w_hears, w_ripe, w_room, w_tables⟩
theorem atStart : AtStart classFile x code maxLocals ret World_1 tables_1 room_1 Calls_1 rest_1 Pre_1 launch0 p0 e0 about1 theMethod args0 below0 :=
  ⟨lists_1, trivial, launch0.admits_env _ _ _, launch0.least_env, fairChoices_fair.cas, fairChoices_fair.clock, w_frames, w_args, w_heap, w_applies, trivial, trivial, w_case⟩
end start1
theorem witness_1 : WitnessClaimed_1 := ⟨start1.p0, start1.e0, start1.about1, start1.theMethod, start1.args0, start1.below0, start1.atStart⟩
end Jvm.Pilot.@@N@@
