import JvmDerived
import JvmDerived.Pilot.@@N@@Statement
import JvmDerived.Pilot.@@N@@Code
set_option linter.unusedVariables false
set_option linter.unusedSimpArgs false
@@BLOCK:NumsL.lean.txt@@
namespace Jvm.Pilot.@@N@@
open Jvm Jvm.ClassFile Sem Op Lib Jvm.Free Jvm.Stand Jvm.LawKit Jvm.RoadKit Bundle Jvm.Pilot.@@N@@.Jvm.D
/-! the walk in continuation form: what is left to be shown of a state on the road -/
def own_Gl (p : Program) (e : Env) (below : List Frame) (P : Outcome → State → Prop) (S : State) : Prop := ∃ s₂ o, Steps p.tables e below S s₂ ∧ s₂.status = .running ∧ Ended s₂ below o ∧ P o s₂
theorem own_go {p : Program} {e : Env} {below : List Frame} {P : Outcome → State → Prop} {S S' : State} (k : ∀ t, Steps p.tables e below S' t → Steps p.tables e below S t) (h : own_Gl p e below P S') : own_Gl p e below P S := by
  obtain ⟨u, o, h1, h2⟩ := h
  exact ⟨u, o, k u h1, h2⟩
theorem own_ext {h0 h : Heap} (K : Keep h0 h []) : Ext h0 h := ⟨K.1, fun a c q => K.2.1 a c q nin0⟩
theorem og {p : Program} {e : Env} {below : List Frame} {P : Outcome → State → Prop} {S S' : State} (k : ∀ {t}, Steps p.tables e below S' t → Steps p.tables e below S t) (h : own_Gl p e below P S') : own_Gl p e below P S := own_go (fun _ => k) h
theorem own_jn {p : Program} {e : Env} {below : List Frame} {P : Outcome → State → Prop} {S S' : State} (h : own_Gl p e below P S) (k : own_Gl p e below P S → own_Gl p e below P S') : own_Gl p e below P S' := k h
theorem own_ind {p : Program} {e : Env} {below : List Frame} {P : Outcome → State → Prop} (I : Nat → State → Prop) (step : ∀ n S, (∀ n', n' < n → ∀ S', I n' S' → own_Gl p e below P S') → I n S → own_Gl p e below P S) {n : Nat} {S : State} (h : I n S) : own_Gl p e below P S := by
  induction n using Nat.strongRecOn generalizing S with
  | ind n ih => exact step n S (fun n' hn S' hI => ih n' hn hI) h
theorem own_fin {p : Program} {e : Env} {below : List Frame} {P : Outcome → State → Prop} {S u : State} {o : Outcome} (h1 : Steps p.tables e below S u) (h2 : u.status = .running) (h3 : Ended u below o) (h4 : P o u) : own_Gl p e below P S := ⟨u, o, h1, h2, h3, h4⟩
/-! calls and fields in continuation form, so that the printed rows stay short -/
theorem wx {Z : State} {a0 : Array Value} (hw : ∀ d ∈ tables_1, d.before a0 Z = true) (i : Nat) {d : Jvm.Cond} (h : tables_1[i]? = some d := by rfl) : d.before a0 Z = true := hw d (List.mem_of_getElem? h)
abbrev vI (x : Int32) : Slot := .val (.int x)
abbrev vR (x : Addr) : Slot := .val (.ref x)
abbrev vU : Slot := .unset
section Cps
variable {p : Program} {l : Launch} {e : Env} {R : Room} {s : State} {m : MethodId} {args : Array Value} {below : List Frame} {meth : Method} {c : Code} {T : State} {locs : List Loc} {cells slots : Nat} {Z : State} {a0 : Array Value} {h : Heap} {P : Outcome → State → Prop}
abbrev own_Ct (l : Launch) (Z : State) (y : MethodName) (bytes : ByteArray) (ml : Nat) (rt : Option FieldType) (rm : Room) (as : Array Value) (h : Heap) (Q : Option Value → Heap → List Loc → Prop) : Prop :=
  MetFree l y (head1 [Jvm.Cond.code y bytes ml rt] rm) (fun a U => a = as ∧ Z.Warmed39 U.vm ∧ U.heap = h) (fun _ _ _ _ _ => True) (fun _ U o U' => ∃ v L, o = .returned v ∧ Q v U'.heap L ∧ FrameEnd U o U' L rm.cells rm.slots)
abbrev own_Nh (y : MethodName) : Prop := y.cls ≠ "java/lang/invoke/MethodHandle" ∧ y.cls ≠ "java/lang/invoke/VarHandle"
def own_dec (b : ByteArray) (l : List (Nat × Instr × Nat)) : Prop := ∀ q ∈ l, decode b q.1 = .ok (q.2.1, q.2.2)
theorem dx {code : ByteArray} {l : List (Nat × Instr × Nat)} (hby : c.code = code) (h : own_dec code l) (k : Nat) {pc n : Nat} {i : Instr} (hm : l[k]? = some (pc, i, n) := by rfl) : decode c.code pc = .ok (i, n) := hb hby (h (pc, i, n) (List.mem_of_getElem? hm))
theorem oc_static {own : String} {index : Nat} {y : MethodName} {bytes : ByteArray} {maxL : Nat} {ret : Option FieldType} {rm : Room} {as : Array Value} {Q : Option Value → Heap → List Loc → Prop} {W : Nat} (X : Stand p l e R s m args below meth c T locs cells slots) (hx : p.tables.exec = Jvm.exec) (hZ : Z.Warmed39 s.vm) (hown : s.vm.findClass own = some m.cls)
    (w1 : (Jvm.Cond.methodLink own index y).before a0 Z = true) (w2 : (Jvm.Cond.static y).before a0 Z = true) (w3 : (Jvm.Cond.initialized y.cls).before a0 Z = true) (w4 : (Jvm.Cond.code y bytes maxL ret).before a0 Z = true) (hy : own_Nh y) (hM : own_Ct l Z y bytes maxL ret rm as h Q) (hf : rm.frames + 1 ≤ R.frames) (hl : W + (maxL + 11) + rm.locals ≤ R.locals)
    {pc : Nat} {Ls : Array Slot} {stk argsL rest : List Value} (hsize : Ls.size = c.maxLocals) (hlen : ∀ sig, parseMethodDescriptor y.desc = some sig → argsL.length = sig.parameters.length) (hstk : stk = argsL.reverse ++ rest) (hW : 2 * 0 + (rest.map fun v => v.category).sum ≤ W) (hd : decode c.code pc = .ok (.invokestatic index, 3)) (has : argsL.toArray = as) (eT : T.heap = h) (hc : cells + rm.cells ≤ R.cells) (hs : slots + rm.slots ≤ R.slots)
    (k : ∀ v T' L, Q v T'.heap L → Stand p l e R s m args below meth c T' (locs ++ L) (cells + rm.cells) (slots + rm.slots) → own_Gl p e below P (T'.setTop (mkF m (pc + 3) Ls (v.toList ++ rest)))) : own_Gl p e below P (T.setTop (mkF m pc Ls stk)) := by
  obtain ⟨v, _, ⟨T', L', k', n'⟩, -, X', ⟨Lc, hQ, h1, h2, h3⟩, st⟩ := Jvm.LawKit.callS X hx hown (mvT hZ w1) (mvT hZ w2) (mvT hZ w3) (mvT hZ w4) hy (backOf (W := W) hM hZ w4 w3 hf hl) (g := mkF m pc Ls stk) rfl hsize hlen hstk hW hd (fun _ _ => ⟨has, eT, hc, hs⟩)
  dsimp only [Pt.U, Pt.locs, Pt.cells, Pt.slots] at X' h1 h2 h3 st hQ
  subst h1 h2 h3
  exact own_go st (k v T' Lc hQ X')
theorem oc_special {own : String} {index : Nat} {y : MethodName} {bytes : ByteArray} {maxL : Nat} {rm : Room} {as : Array Value} {Q : Option Value → Heap → List Loc → Prop} {W : Nat} (X : Stand p l e R s m args below meth c T locs cells slots) (hx : p.tables.exec = Jvm.exec) (hZ : Z.Warmed39 s.vm) (hown : s.vm.findClass own = some m.cls) (hy1 : y.name = "<init>")
    (w1 : (Jvm.Cond.methodLink own index y).before a0 Z = true) (w2 : (Jvm.Cond.instanceMethod y).before a0 Z = true) (w3 : (Jvm.Cond.initialized y.cls).before a0 Z = true) (w4 : (Jvm.Cond.code y bytes maxL none).before a0 Z = true) (hy : own_Nh y) (hM : own_Ct l Z y bytes maxL none rm as h Q) (hf : rm.frames + 1 ≤ R.frames) (hl : W + (maxL + 11) + rm.locals ≤ R.locals)
    {pc : Nat} {Ls : Array Slot} {a : Addr} {stk argsL rest : List Value} (hsize : Ls.size = c.maxLocals) (hlen : ∀ sig, parseMethodDescriptor y.desc = some sig → argsL.length = sig.parameters.length) (hstk : stk = argsL.reverse ++ .ref a :: rest) (hW : 2 * 0 + (rest.map fun v => v.category).sum ≤ W) (hd : decode c.code pc = .ok (.invokespecial index, 3)) (has : (Value.ref a :: argsL).toArray = as) (eT : T.heap = h) (hc : cells + rm.cells ≤ R.cells) (hs : slots + rm.slots ≤ R.slots)
    (k : ∀ v T' L, Q v T'.heap L → Stand p l e R s m args below meth c T' (locs ++ L) (cells + rm.cells) (slots + rm.slots) → own_Gl p e below P (T'.setTop (mkF m (pc + 3) Ls (v.toList ++ rest)))) : own_Gl p e below P (T.setTop (mkF m pc Ls stk)) := by
  obtain ⟨v, _, ⟨T', L', k', n'⟩, -, X', ⟨Lc, hQ, h1, h2, h3⟩, st⟩ := X.specialBack hx hy1 hown (mvT hZ w1) (mvT hZ w2) (mvT hZ w4) hy (backOf (W := W) hM hZ w4 w3 hf hl) (g := mkF m pc Ls stk) rfl hsize (Steps.refl _) (a := a) (argsL := argsL) (rest := rest) hlen hstk hW hd (fun _ _ => ⟨has, eT, hc, hs⟩)
  dsimp only [Pt.U, Pt.locs, Pt.cells, Pt.slots] at X' h1 h2 h3 st hQ
  subst h1 h2 h3
  exact own_go (fun _ q => st.trans q) (k v T' Lc hQ X')
theorem oc_virtual {own C : String} {index : Nat} {y : MethodName} {bytes : ByteArray} {maxL : Nat} {ret : Option FieldType} {rm : Room} {as : Array Value} {Q : Option Value → Heap → List Loc → Prop} {W : Nat} (X : Stand p l e R s m args below meth c T locs cells slots) (hx : p.tables.exec = Jvm.exec) (hZ : Z.Warmed39 s.vm) (hown : s.vm.findClass own = some m.cls)
    (w1 : (Jvm.Cond.methodLink own index y).before a0 Z = true) (w2 : (Jvm.Cond.declares y).before a0 Z = true) (w5 : (Jvm.Cond.selects C y y).before a0 Z = true) (w6 : (Jvm.Cond.instanceMethod y).before a0 Z = true) (w3 : (Jvm.Cond.initialized y.cls).before a0 Z = true) (w4 : (Jvm.Cond.code y bytes maxL ret).before a0 Z = true) (hy : own_Nh y) (hM : own_Ct l Z y bytes maxL ret rm as h Q) (hf : rm.frames + 1 ≤ R.frames) (hl : W + (maxL + 11) + rm.locals ≤ R.locals)
    {pc : Nat} {Ls : Array Slot} {a : Addr} (E : Exa Z h a C) {stk argsL rest : List Value} (hsize : Ls.size = c.maxLocals) (hlen : ∀ sig, parseMethodDescriptor y.desc = some sig → argsL.length = sig.parameters.length) (hstk : stk = argsL.reverse ++ .ref a :: rest) (hW : 2 * 0 + (rest.map fun v => v.category).sum ≤ W) (hd : decode c.code pc = .ok (.invokevirtual index, 3)) (has : (Value.ref a :: argsL).toArray = as) (eT : T.heap = h) (hc : cells + rm.cells ≤ R.cells) (hs : slots + rm.slots ≤ R.slots)
    (k : ∀ v T' L, Q v T'.heap L → Stand p l e R s m args below meth c T' (locs ++ L) (cells + rm.cells) (slots + rm.slots) → own_Gl p e below P (T'.setTop (mkF m (pc + 3) Ls (v.toList ++ rest)))) : own_Gl p e below P (T.setTop (mkF m pc Ls stk)) := by
  obtain ⟨cq, kq, qa, qb, qc⟩ := isOf hZ eT E
  obtain ⟨v, _, ⟨T', L', k', n'⟩, -, X', ⟨Lc, hQ, h1, h2, h3⟩, st⟩ := X.virtualBack hx hown (mvT hZ w1) (mvT hZ w2) (notFace_of_selects (args := #[]) (mvT hZ w5)) (mvT hZ w5) (mvT hZ w6) hy (backOf (W := W) hM hZ w4 w3 hf hl) qa qc (g := mkF m pc Ls stk) rfl hsize (Steps.refl _) (argsL := argsL) (rest := rest) hlen hstk hW hd (fun _ _ => ⟨has, eT, hc, hs⟩)
  dsimp only [Pt.U, Pt.locs, Pt.cells, Pt.slots] at X' h1 h2 h3 st hQ
  subst h1 h2 h3
  exact own_go (fun _ q => st.trans q) (k v T' Lc hQ X')
theorem oc_iface {own C : String} {index cnt : Nat} {xi y : MethodName} {bytes : ByteArray} {maxL : Nat} {ret : Option FieldType} {rm : Room} {as : Array Value} {Q : Option Value → Heap → List Loc → Prop} {W : Nat} (X : Stand p l e R s m args below meth c T locs cells slots) (hx : p.tables.exec = Jvm.exec) (hZ : Z.Warmed39 s.vm) (hown : s.vm.findClass own = some m.cls)
    (w1 : (Jvm.Cond.methodLink own index xi).before a0 Z = true) (w2 : (Jvm.Cond.declares xi).before a0 Z = true) (wf : (Jvm.Cond.interfaceMethod xi.cls xi.cls xi.name xi.desc).before a0 Z = true) (w5 : (Jvm.Cond.selects C xi y).before a0 Z = true) (w6 : (Jvm.Cond.instanceMethod y).before a0 Z = true) (w7 : (Jvm.Cond.publicMethod y).before a0 Z = true) (w8 : (Jvm.Cond.unhidden C xi.name xi.desc).before a0 Z = true) (w9 : (Jvm.Cond.castable C xi.cls).before a0 Z = true) (w3 : (Jvm.Cond.initialized y.cls).before a0 Z = true) (w4 : (Jvm.Cond.code y bytes maxL ret).before a0 Z = true) (hy : own_Nh xi) (hM : own_Ct l Z y bytes maxL ret rm as h Q) (hf : rm.frames + 1 ≤ R.frames) (hl : W + (maxL + 11) + rm.locals ≤ R.locals)
    {pc : Nat} {Ls : Array Slot} {a : Addr} (E : Exa Z h a C) {stk argsL rest : List Value} (hsize : Ls.size = c.maxLocals) (hlen : ∀ sig, parseMethodDescriptor xi.desc = some sig → argsL.length = sig.parameters.length) (hstk : stk = argsL.reverse ++ .ref a :: rest) (hW : 2 * 0 + (rest.map fun v => v.category).sum ≤ W) (hd : decode c.code pc = .ok (.invokeinterface index cnt, 5)) (has : (Value.ref a :: argsL).toArray = as) (eT : T.heap = h) (hc : cells + rm.cells ≤ R.cells) (hs : slots + rm.slots ≤ R.slots)
    (k : ∀ v T' L, Q v T'.heap L → Stand p l e R s m args below meth c T' (locs ++ L) (cells + rm.cells) (slots + rm.slots) → own_Gl p e below P (T'.setTop (mkF m (pc + 5) Ls (v.toList ++ rest)))) (hwf : ((Jvm.Cond.interfaceMethod xi.cls xi.cls xi.name xi.desc).onTables && (Jvm.Cond.interfaceMethod xi.cls xi.cls xi.name xi.desc).keepsFace) = true := by rfl) : own_Gl p e below P (T.setTop (mkF m pc Ls stk)) := by
  obtain ⟨cq, kq, qa, qb, qc⟩ := isOf hZ eT E
  obtain ⟨v, _, ⟨T', L', k', n'⟩, -, X', ⟨Lc, hQ, h1, h2, h3⟩, st⟩ := X.interfaceBack hx hown (mvT hZ w1) (mvT hZ w2) (mvT hZ wf hwf) (mvT hZ w5) (mvT hZ w6) (mvT hZ w7) (mvT hZ w8) (mvT hZ w9) hy (backOf (W := W) hM hZ w4 w3 hf hl) qa qb qc (g := mkF m pc Ls stk) rfl hsize (Steps.refl _) (argsL := argsL) (rest := rest) hlen hstk hW hd (fun _ _ => ⟨has, eT, hc, hs⟩)
  dsimp only [Pt.U, Pt.locs, Pt.cells, Pt.slots] at X' h1 h2 h3 st hQ
  subst h1 h2 h3
  exact own_go (fun _ q => st.trans q) (k v T' Lc hQ X')
theorem oc_private {own C : String} {index i : Nat} {y : MethodName} {bytes : ByteArray} {maxL : Nat} {ret : Option FieldType} {rm : Room} {as : Array Value} {Q : Option Value → Heap → List Loc → Prop} {W : Nat} (X : Stand p l e R s m args below meth c T locs cells slots) (hx : p.tables.exec = Jvm.exec) (hZ : Z.Warmed39 s.vm) (hown : s.vm.findClass own = some m.cls)
    (w1 : (Jvm.Cond.methodLink own index y).before a0 Z = true) (w2 : (Jvm.Cond.privateMethod y).before a0 Z = true) (w5 : (Jvm.Cond.instantiable y.cls i).before a0 Z = true) (w6 : (Jvm.Cond.instanceMethod y).before a0 Z = true) (w3 : (Jvm.Cond.initialized y.cls).before a0 Z = true) (w4 : (Jvm.Cond.code y bytes maxL ret).before a0 Z = true) (hy : own_Nh y) (hM : own_Ct l Z y bytes maxL ret rm as h Q) (hf : rm.frames + 1 ≤ R.frames) (hl : W + (maxL + 11) + rm.locals ≤ R.locals)
    {pc : Nat} {Ls : Array Slot} {a : Addr} (E : Exa Z h a C) {stk argsL rest : List Value} (hsize : Ls.size = c.maxLocals) (hlen : ∀ sig, parseMethodDescriptor y.desc = some sig → argsL.length = sig.parameters.length) (hstk : stk = argsL.reverse ++ .ref a :: rest) (hW : 2 * 0 + (rest.map fun v => v.category).sum ≤ W) (hd : decode c.code pc = .ok (.invokevirtual index, 3)) (has : (Value.ref a :: argsL).toArray = as) (eT : T.heap = h) (hc : cells + rm.cells ≤ R.cells) (hs : slots + rm.slots ≤ R.slots)
    (k : ∀ v T' L, Q v T'.heap L → Stand p l e R s m args below meth c T' (locs ++ L) (cells + rm.cells) (slots + rm.slots) → own_Gl p e below P (T'.setTop (mkF m (pc + 3) Ls (v.toList ++ rest)))) : own_Gl p e below P (T.setTop (mkF m pc Ls stk)) := by
  obtain ⟨cc, kc, i1, i2, -, i4, -⟩ := Cond.instantiable_spec (mvT (args := args) hZ w5)
  have hpriv := Cond.privateMethod_at (mvP hZ w2 (args := #[]))
  have hsel := Jvm.Stand.selects_self_of_private (args := args) i1 i2 (by cases q : kc.isInterface; rfl; simp [q] at i4) hpriv (mvT hZ w6) hy
  obtain ⟨cell, q1, q2⟩ := E.cell
  obtain ⟨v, _, ⟨T', L', k', n'⟩, -, X', ⟨Lc, hQ, h1, h2, h3⟩, st⟩ := X.privateBack hx hown (mvT hZ w1) (mvT hZ w6) hsel hpriv (mvT hZ w4) hy (backOf (W := W) hM hZ w4 w3 hf hl) (g := mkF m pc Ls stk) rfl hsize (Steps.refl _) (a := a) (by rw [eT]; exact q1) q2 (argsL := argsL) (rest := rest) hlen hstk hW hd (fun _ _ => ⟨has, eT, hc, hs⟩)
  dsimp only [Pt.U, Pt.locs, Pt.cells, Pt.slots] at X' h1 h2 h3 st hQ
  subst h1 h2 h3
  exact own_go (fun _ q => st.trans q) (k v T' Lc hQ X')
theorem oc_getF {own R0 O n d host : String} {index : Nat} (X : Stand p l e R s m args below meth c T locs cells slots) (hx : p.tables.exec = Jvm.exec) (hZ : Z.Warmed39 s.vm) (hown : s.vm.findClass own = some m.cls) (w : (Jvm.Cond.fieldLink own index R0 n d).before a0 Z = true ∨ (Jvm.Cond.fieldLinkNest own index R0 n d host).before a0 Z = true) (via : Via Z R0 O n d) (eT : T.heap = h) {a : Addr} {v : Value} (F : Fld Z h a O n d v)
    {pc : Nat} {Ls : Array Slot} {rest : List Value} (hd : decode c.code pc = .ok (.getfield index, 3)) (k : ∀ T', Stand p l e R s m args below meth c T' locs cells slots → T'.heap = h → own_Gl p e below P (T'.setTop (mkF m (pc + 3) Ls (v :: rest)))) : own_Gl p e below P (T.setTop (mkF m pc Ls (.ref a :: rest))) := by
  obtain ⟨T', X', e', st⟩ := getF X hx hZ hown w via eT F (g := mkF m pc Ls (.ref a :: rest)) rfl rfl hd
  exact own_go st (k T' X' e')
theorem oc_putF {own R0 O n d host C : String} {index kk : Nat} {ty : FieldType} (X : Stand p l e R s m args below meth c T locs cells slots) (hx : p.tables.exec = Jvm.exec) (hZ : Z.Warmed39 s.vm) (hown : s.vm.findClass own = some m.cls) (w : (Jvm.Cond.fieldLink own index R0 n d).before a0 Z = true ∨ (Jvm.Cond.fieldLinkNest own index R0 n d host).before a0 Z = true) (via : Via Z R0 O n d) (eT : T.heap = h) {a : Addr} {v old : Value} (F : Fld Z h a O n d old) (E : Exa Z h a C)
    (L : (Jvm.Cond.lays C O n d).before a0 Z = true ∨ ((Jvm.Cond.laysFinal C O n d).before a0 Z = true ∧ own = O ∧ meth.name = "<init>")) (wi : (Jvm.Cond.instantiable C kk).before a0 Z = true) (hty : parseFieldDescriptor d = some ty) (hn : narrow ty v = v) (hf : fits ty v = true)
    {pc : Nat} {Ls : Array Slot} {rest : List Value} (hd : decode c.code pc = .ok (.putfield index, 3)) (k : ∀ T' h', Stand p l e R s m args below meth c T' (locs ++ [⟨a, Jvm.RoadKit.slotOf Z O n d⟩]) cells slots → T'.heap = h' → Wr h h' a (Jvm.RoadKit.slotOf Z O n d) v → own_Gl p e below P (T'.setTop (mkF m (pc + 3) Ls rest))) : own_Gl p e below P (T.setTop (mkF m pc Ls (v :: .ref a :: rest))) := by
  obtain ⟨T', h', X', e', W', st⟩ := putF X hx hZ hown w via eT F E L wi hty hn hf (g := mkF m pc Ls (v :: .ref a :: rest)) rfl rfl hd
  exact own_go st (k T' h' X' e' W')
def own_rr (f c s l : Nat) : Room := { frames := f, cells := c, slots := s, locals := l }
def own_End (s : State) (R : Room) (Q : Option Value → Heap → List Loc → Prop) (o : Outcome) (U : State) : Prop := ∃ v L, o = .returned v ∧ Q v U.heap L ∧ FrameEnd s o U L R.cells R.slots
abbrev own_Cw (l : Launch) (Z : State) (y : MethodName) (bytes : ByteArray) (ml : Nat) (rt : Option FieldType) (ws : List Jvm.Cond) (rm : Room) (as : Array Value) (h : Heap) (Q : Option Value → Heap → List Loc → Prop) : Prop :=
  MetFree l y (head1 (Jvm.Cond.code y bytes ml rt :: ws) rm) (fun a U => a = as ∧ Z.Warmed39 U.vm ∧ U.heap = h) (fun _ _ _ _ _ => True) (fun _ U o U' => ∃ v L, o = .returned v ∧ Q v U'.heap L ∧ FrameEnd U o U' L rm.cells rm.slots)
theorem own_body {y : MethodName} {bytes : ByteArray} {ml : Nat} {rt : Option FieldType} {ws : List Jvm.Cond} {rm : Room} {as : Array Value} {Q : Option Value → Heap → List Loc → Prop} (hp : plainFor y = true)
    (body : ∀ p e s m below meth c s₁, p.tables.exec = Jvm.exec → c.code = bytes → c.maxLocals = ml → Z.Warmed39 s.vm → s.vm.findClass y.cls = some m.cls → meth.name = y.name → meth.sig.returnType = rt → meth.locks = false → Stand p l e rm s m as below meth c s₁ [] 0 0 → s₁.heap = h → own_Gl p e below (own_End s rm Q) (s₁.setTop (entryFrame m as ml))) : own_Cw l Z y bytes ml rt ws rm as h Q := by
  refine MetFree.of_bodySF hp hisR ?_
  intro p e s m args below meth c s₁ Bd hml0 hP hK
  obtain ⟨rfl, hZ, hh⟩ := hP
  exact body p e s m below meth c s₁ Bd.exec Bd.bytes hml0 hZ (findClass_of_methodNamed Bd.named) (name_of_methodNamed Bd.named Bd.method).1 Bd.returns (BodyLoose.notSynchronized Bd) (Stand.of_body Bd) (by rw [← hh, Bd.state]; rfl)
theorem own_retV {Q : Option Value → Heap → List Loc → Prop} (X : Stand p l e R s m args below meth c T locs cells slots) (hx : p.tables.exec = Jvm.exec) (hret : meth.sig.returnType = none) (hlk : meth.locks = false) {pc : Nat} {Ls : Array Slot} (hd : decode c.code pc = .ok (.return_, 1)) (eT : T.heap = h) (hc : cells ≤ R.cells) (hs : slots ≤ R.slots) (hq : Q none h locs) : own_Gl p e below (own_End s R Q) (T.setTop (mkF m pc Ls [])) := by
  obtain ⟨fs, hr, hrun, hended, hW, hsame⟩ := X.leave (v := none) (fun _ => rfl) hlk
  refine own_fin (X.returnOut hx hret hd hr) hrun hended ⟨_, _, rfl, ?_, ⟨_, rfl⟩, hW, hsame.mono hc hs⟩
  show Q _ T.heap _
  rw [eT]; exact hq
theorem own_retW {Q : Option Value → Heap → List Loc → Prop} (X : Stand p l e R s m args below meth c T locs cells slots) (hx : p.tables.exec = Jvm.exec) {t : FieldType} (hret : meth.sig.returnType = some t) (hlk : meth.locks = false) {w : Value} (hn : narrow t w = w) {i : Instr}
    (hi : (i = .ireturn ∧ (t = .int ∨ t = .boolean ∨ t = .byte ∨ t = .char ∨ t = .short) ∧ ∃ z, w = .int z) ∨ (i = .lreturn ∧ t = .long ∧ ∃ z, w = .long z) ∨ (i = .dreturn ∧ t = .double ∧ ∃ z, w = .double z) ∨ (i = .freturn ∧ t = .float ∧ ∃ z, w = .float z) ∨ (i = .areturn ∧ t.isReference = true ∧ w.isRef = true)) {pc : Nat} {Ls : Array Slot} {rest : List Value} (hd : decode c.code pc = .ok (i, 1)) (eT : T.heap = h) (hc : cells ≤ R.cells) (hs : slots ≤ R.slots) (hq : Q (some w) h locs) : own_Gl p e below (own_End s R Q) (T.setTop (mkF m pc Ls (w :: rest))) := by
  obtain ⟨fs, hr, hrun, hended, hW, hsame⟩ := X.leave (v := some w) (fun q => by rw [hret] at q; cases q) hlk
  refine own_fin (Jvm.RoadKit.retOut X hx hret hn hi hd hr) hrun hended ⟨_, _, rfl, ?_, ⟨_, rfl⟩, hW, hsame.mono hc hs⟩
  show Q _ T.heap _
  rw [eT]; exact hq
theorem own_retB {Q : Option Value → Heap → List Loc → Prop} (X : Stand p l e R s m args below meth c T locs cells slots) (hx : p.tables.exec = Jvm.exec) {t : FieldType} (hret : meth.sig.returnType = some t) (hlk : meth.locks = false) (ht : t = .boolean ∨ t = .byte ∨ t = .char ∨ t = .short) {z : Int32} {pc : Nat} {Ls : Array Slot} {rest : List Value} (hd : decode c.code pc = .ok (.ireturn, 1)) (eT : T.heap = h) (hc : cells ≤ R.cells) (hs : slots ≤ R.slots) (hq : Q (some (.int (nar t z))) h locs) : own_Gl p e below (own_End s R Q) (T.setTop (mkF m pc Ls (.int z :: rest))) := by
  obtain ⟨fs, hr, hrun, hended, hW, hsame⟩ := X.leave (v := some (.int (nar t z))) (fun q => by rw [hret] at q; cases q) hlk
  refine own_fin (retN X hx hret ht hd hr) hrun hended ⟨_, _, rfl, ?_, ⟨_, rfl⟩, hW, hsame.mono hc hs⟩
  show Q _ T.heap _
  rw [eT]; exact hq
variable {a : Addr} {kA : ClassId} {z j : Int32} {vs : List Value} {d v : Value} {pc : Nat} {Ls : Array Slot} {rest : List Value} {ty : FieldType}
theorem oc_len (X : Stand p l e R s m args below meth c T locs cells slots) (hx : p.tables.exec = Jvm.exec) (hZ : Z.Warmed39 s.vm) (eT : T.heap = h) (V : Arv Z h a kA ty z vs d) (hd : decode c.code pc = .ok (.arraylength, 1)) (k : own_Gl p e below P (T.setTop (mkF m (pc + 1) Ls (.int z :: rest)))) : own_Gl p e below P (T.setTop (mkF m pc Ls (.ref a :: rest))) := by
  obtain ⟨cl, Ar, -, S, M, -, -⟩ := V
  refine own_go (fun t q => X.arraylength hx (by rw [eT]; exact Ar.1) (State.isArrayOf_alike hZ.alike Ar.2.1) (g := mkF m pc Ls (.ref a :: rest)) rfl rfl hd _ q) ?_
  rw [len_of S M]; exact k
theorem oc_iaload {x : Int32} (X : Stand p l e R s m args below meth c T locs cells slots) (hx : p.tables.exec = Jvm.exec) (hZ : Z.Warmed39 s.vm) (eT : T.heap = h) (V : Arv Z h a kA .int z vs d) (hj : ¬ j < 0 ∧ j < z) (hv : vs.getD j.toNatClampNeg d = .int x) (hd : decode c.code pc = .ok (.iaload, 1)) (k : own_Gl p e below P (T.setTop (mkF m (pc + 1) Ls (.int x :: rest)))) : own_Gl p e below P (T.setTop (mkF m pc Ls (.int j :: .ref a :: rest))) := by
  obtain ⟨cl, Ar, -, S, M, H, -⟩ := V
  exact own_go (fun t q => X.iaload hx (j := j) (v := .int x) (by rw [eT]; exact Ar.1) (State.isArrayOf_alike hZ.alike Ar.2.1) Ar.2.2 (inb_of S hj) (H.at (inb_of S hj) hv) (g := mkF m pc Ls (.int j :: .ref a :: rest)) rfl rfl hd _ q) k
theorem oc_laload {x : Int64} (X : Stand p l e R s m args below meth c T locs cells slots) (hx : p.tables.exec = Jvm.exec) (hZ : Z.Warmed39 s.vm) (eT : T.heap = h) (V : Arv Z h a kA .long z vs d) (hj : ¬ j < 0 ∧ j < z) (hv : vs.getD j.toNatClampNeg d = .long x) (hd : decode c.code pc = .ok (.laload, 1)) (k : own_Gl p e below P (T.setTop (mkF m (pc + 1) Ls (.long x :: rest)))) : own_Gl p e below P (T.setTop (mkF m pc Ls (.int j :: .ref a :: rest))) := by
  obtain ⟨cl, Ar, -, S, M, H, -⟩ := V
  exact own_go (fun t q => X.laload hx (j := j) (v := .long x) (by rw [eT]; exact Ar.1) (State.isArrayOf_alike hZ.alike Ar.2.1) Ar.2.2 (inb_of S hj) (H.at (inb_of S hj) hv) (g := mkF m pc Ls (.int j :: .ref a :: rest)) rfl rfl hd _ q) k
theorem oc_caload {x : Int32} (X : Stand p l e R s m args below meth c T locs cells slots) (hx : p.tables.exec = Jvm.exec) (hZ : Z.Warmed39 s.vm) (eT : T.heap = h) (V : Arv Z h a kA .char z vs d) (hj : ¬ j < 0 ∧ j < z) (hv : vs.getD j.toNatClampNeg d = .int x) (hd : decode c.code pc = .ok (.caload, 1)) (k : own_Gl p e below P (T.setTop (mkF m (pc + 1) Ls (.int x :: rest)))) : own_Gl p e below P (T.setTop (mkF m pc Ls (.int j :: .ref a :: rest))) := by
  obtain ⟨cl, Ar, -, S, M, H, -⟩ := V
  exact own_go (fun t q => X.caload hx (j := j) (v := .int x) (by rw [eT]; exact Ar.1) (State.isArrayOf_alike hZ.alike Ar.2.1) Ar.2.2 (inb_of S hj) (H.at (inb_of S hj) hv) (g := mkF m pc Ls (.int j :: .ref a :: rest)) rfl rfl hd _ q) k
theorem oc_baload {x : Int32} (X : Stand p l e R s m args below meth c T locs cells slots) (hx : p.tables.exec = Jvm.exec) (hZ : Z.Warmed39 s.vm) (eT : T.heap = h) (V : Arv Z h a kA .byte z vs d) (hj : ¬ j < 0 ∧ j < z) (hv : vs.getD j.toNatClampNeg d = .int x) (hd : decode c.code pc = .ok (.baload, 1)) (k : own_Gl p e below P (T.setTop (mkF m (pc + 1) Ls (.int x :: rest)))) : own_Gl p e below P (T.setTop (mkF m pc Ls (.int j :: .ref a :: rest))) := by
  obtain ⟨cl, Ar, -, S, M, H, -⟩ := V
  exact own_go (fun t q => X.baloadBytes hx (j := j) (v := .int x) (by rw [eT]; exact Ar.1) (State.isArrayOf_alike hZ.alike Ar.2.1) Ar.2.2 (inb_of S hj) (H.at (inb_of S hj) hv) (g := mkF m pc Ls (.int j :: .ref a :: rest)) rfl rfl hd _ q) k
theorem oc_aaload {C : String} (X : Stand p l e R s m args below meth c T locs cells slots) (hx : p.tables.exec = Jvm.exec) (hZ : Z.Warmed39 s.vm) (eT : T.heap = h) (V : Arv Z h a kA (.object C) z vs d) (hj : ¬ j < 0 ∧ j < z) (hv : vs.getD j.toNatClampNeg d = v) (hd : decode c.code pc = .ok (.aaload, 1)) (k : own_Gl p e below P (T.setTop (mkF m (pc + 1) Ls (v :: rest)))) : own_Gl p e below P (T.setTop (mkF m pc Ls (.int j :: .ref a :: rest))) := by
  obtain ⟨cl, Ar, -, S, M, H, -⟩ := V
  exact own_go (fun t q => X.aaload hx (j := j) (v := v) (by rw [eT]; exact Ar.1) (State.isArrayOf_alike hZ.alike Ar.2.1) rfl Ar.2.2 (inb_of S hj) (H.at (inb_of S hj) hv) (g := mkF m pc Ls (.int j :: .ref a :: rest)) rfl rfl hd _ q) k
theorem oc_iastore {x : Int32} (X : Stand p l e R s m args below meth c T locs cells slots) (hx : p.tables.exec = Jvm.exec) (hZ : Z.Warmed39 s.vm) (eT : T.heap = h) (V : Arv Z h a kA .int z vs d) (hj : ¬ j < 0 ∧ j < z) (i : Nat) (hi : j.toNatClampNeg = i) (hl : i < vs.length) (hd : decode c.code pc = .ok (.iastore, 1)) (k : ∀ T' h', Stand p l e R s m args below meth c T' (locs ++ [⟨a, j.toNatClampNeg⟩]) cells slots → T'.heap = h' → Wr h h' a j.toNatClampNeg (.int x) → Arv Z h' a kA .int z (vs.set i (.int x)) d → own_Gl p e below P (T'.setTop (mkF m (pc + 1) Ls rest))) : own_Gl p e below P (T.setTop (mkF m pc Ls (.int x :: .int j :: .ref a :: rest))) := by
  obtain ⟨cl, Ar, q1, S, M, H, G⟩ := V
  obtain ⟨T', h', X', e', W', st⟩ := stI X hx hZ eT Ar (j := j) (inb_of S hj) (g := mkF m pc Ls (.int x :: .int j :: .ref a :: rest)) rfl rfl hd
  exact own_go st (k T' h' X' e' W' (Arv.set Ar q1 S M H G rfl W' i hi hl))
theorem oc_lastore {x : Int64} (X : Stand p l e R s m args below meth c T locs cells slots) (hx : p.tables.exec = Jvm.exec) (hZ : Z.Warmed39 s.vm) (eT : T.heap = h) (V : Arv Z h a kA .long z vs d) (hj : ¬ j < 0 ∧ j < z) (i : Nat) (hi : j.toNatClampNeg = i) (hl : i < vs.length) (hd : decode c.code pc = .ok (.lastore, 1)) (k : ∀ T' h', Stand p l e R s m args below meth c T' (locs ++ [⟨a, j.toNatClampNeg⟩]) cells slots → T'.heap = h' → Wr h h' a j.toNatClampNeg (.long x) → Arv Z h' a kA .long z (vs.set i (.long x)) d → own_Gl p e below P (T'.setTop (mkF m (pc + 1) Ls rest))) : own_Gl p e below P (T.setTop (mkF m pc Ls (.long x :: .int j :: .ref a :: rest))) := by
  obtain ⟨cl, Ar, q1, S, M, H, G⟩ := V
  obtain ⟨T', h', X', e', W', st⟩ := stJ X hx hZ eT Ar (j := j) (inb_of S hj) (g := mkF m pc Ls (.long x :: .int j :: .ref a :: rest)) rfl rfl hd
  exact own_go st (k T' h' X' e' W' (Arv.set Ar q1 S M H G rfl W' i hi hl))
theorem oc_bastore {x : Int32} (X : Stand p l e R s m args below meth c T locs cells slots) (hx : p.tables.exec = Jvm.exec) (hZ : Z.Warmed39 s.vm) (eT : T.heap = h) (V : Arv Z h a kA .byte z vs d) (hj : ¬ j < 0 ∧ j < z) (i : Nat) (hi : j.toNatClampNeg = i) (hl : i < vs.length) (hd : decode c.code pc = .ok (.bastore, 1)) (k : ∀ T' h', Stand p l e R s m args below meth c T' (locs ++ [⟨a, j.toNatClampNeg⟩]) cells slots → T'.heap = h' → Wr h h' a j.toNatClampNeg (.int (nar .byte x)) → Arv Z h' a kA .byte z (vs.set i (.int (nar .byte x))) d → own_Gl p e below P (T'.setTop (mkF m (pc + 1) Ls rest))) : own_Gl p e below P (T.setTop (mkF m pc Ls (.int x :: .int j :: .ref a :: rest))) := by
  obtain ⟨cl, Ar, q1, S, M, H, G⟩ := V
  obtain ⟨T', h', X', e', W', st⟩ := stB X hx hZ eT Ar (j := j) (inb_of S hj) (g := mkF m pc Ls (.int x :: .int j :: .ref a :: rest)) rfl rfl hd
  exact own_go st (k T' h' X' e' W' (Arv.set Ar q1 S M H G (fits_nar_byte _) W' i hi hl))
theorem oc_aastore {C : String} (X : Stand p l e R s m args below meth c T locs cells slots) (hx : p.tables.exec = Jvm.exec) (hZ : Z.Warmed39 s.vm) (eT : T.heap = h) (V : Arv Z h a kA (.object C) z vs d) (hj : ¬ j < 0 ∧ j < z) (i : Nat) (hi : j.toNatClampNeg = i) (hl : i < vs.length) (hsto : v = .null ∨ (Ovr Z kA C ∧ ∃ y K, v = .ref y ∧ K = C ∧ Ins Z h y K true)) (hd : decode c.code pc = .ok (.aastore, 1)) (k : ∀ T' h', Stand p l e R s m args below meth c T' (locs ++ [⟨a, j.toNatClampNeg⟩]) cells slots → T'.heap = h' → Wr h h' a j.toNatClampNeg v → Arv Z h' a kA (.object C) z (vs.set i v) d → own_Gl p e below P (T'.setTop (mkF m (pc + 1) Ls rest))) : own_Gl p e below P (T.setTop (mkF m pc Ls (v :: .int j :: .ref a :: rest))) := by
  obtain ⟨cl, Ar, q1, S, M, H, G⟩ := V
  have sto : Sto Z h a v := by
    rcases hsto with rfl | ⟨O, y, K, rfl, rfl, I⟩
    · exact Or.inl rfl
    · exact Sto.ofV Ar q1 O I
  obtain ⟨T', h', X', e', W', st⟩ := stR X hx hZ eT Ar (j := j) (inb_of S hj) rfl sto (g := mkF m pc Ls (v :: .int j :: .ref a :: rest)) rfl rfl hd
  exact own_go st (k T' h' X' e' W' (Arv.set Ar q1 S M H G (by rcases hsto with rfl | ⟨-, y, K, rfl, -, -⟩ <;> rfl) W' i hi hl))
theorem sa {pc : Nat} {Ls : Array Slot} {stk : List Value} {k : Fin 4} {v : Value} (X : Stand p l e R s m args below meth c T locs cells slots) (hx : p.tables.exec = Jvm.exec) (hd : decode c.code pc = .ok (.aload_n k, 1)) (h : own_Gl p e below P (T.setTop (mkF m (pc + 1) Ls (v :: stk)))) (hl : Ls[k.val]? = some (.val v) := by rfl) (hv : v.isRef = true := by rfl) : own_Gl p e below P (T.setTop (mkF m pc Ls stk)) := own_go (fun _ => XS.aloadN X.here hx rfl hd hl hv) h
theorem si {pc : Nat} {Ls : Array Slot} {stk : List Value} {k : Fin 4} {v : Int32} (X : Stand p l e R s m args below meth c T locs cells slots) (hx : p.tables.exec = Jvm.exec) (hd : decode c.code pc = .ok (.iload_n k, 1)) (h : own_Gl p e below P (T.setTop (mkF m (pc + 1) Ls (.int v :: stk)))) (hl : Ls[k.val]? = some (.val (.int v)) := by rfl) : own_Gl p e below P (T.setTop (mkF m pc Ls stk)) := own_go (fun _ => XS.iloadN X.here hx rfl hd hl) h
theorem sI {pc : Nat} {Ls : Array Slot} {stk : List Value} {k : Nat} {v : Int32} (X : Stand p l e R s m args below meth c T locs cells slots) (hx : p.tables.exec = Jvm.exec) (hd : decode c.code pc = .ok (.iload k, 2)) (h : own_Gl p e below P (T.setTop (mkF m (pc + 2) Ls (.int v :: stk)))) (hl : Ls[k]? = some (.val (.int v)) := by rfl) : own_Gl p e below P (T.setTop (mkF m pc Ls stk)) := own_go (fun _ => XS.iload X.here hx rfl hd hl) h
theorem sc {pc : Nat} {Ls : Array Slot} {stk : List Value} {i : Int} (X : Stand p l e R s m args below meth c T locs cells slots) (hx : p.tables.exec = Jvm.exec) (hd : decode c.code pc = .ok (.iconst i, 1)) (h : own_Gl p e below P (T.setTop (mkF m (pc + 1) Ls (.int (Int32.ofInt i) :: stk)))) : own_Gl p e below P (T.setTop (mkF m pc Ls stk)) := own_go (fun _ => XS.iconst X.here hx rfl hd) h
end Cps
def own_sd (n n' d d' : String) : Bool := decide (n ≠ n') && (parseFieldDescriptor d).isSome && (parseFieldDescriptor d').isSome
theorem own_sn {Z : State} {a0 : Array Value} {C O n d O' n' d' : String} (L : Laid Z a0 C O n d) (L' : Laid Z a0 C O' n' d') (q : own_sd n n' d d' = true := by decide) : Jvm.RoadKit.slotOf Z O n d ≠ Jvm.RoadKit.slotOf Z O' n' d' := by
  unfold own_sd at q
  rw [Bool.and_eq_true, Bool.and_eq_true] at q
  obtain ⟨⟨q1, q2⟩, q3⟩ := q
  obtain ⟨t, e⟩ := Option.isSome_iff_exists.mp q2
  obtain ⟨t', e'⟩ := Option.isSome_iff_exists.mp q3
  exact Jvm.RoadKit.slot_ne L L' (of_decide_eq_true q1) e e'
theorem own_i32 (c : Int32) : c = Int32.ofInt c.toInt := (Int32.ofInt_toInt c).symm
/-- an int from 0 up to n, as a natural below n -/
theorem own_range (n : Nat) (c : Int32) (h0 : 0 ≤ c.toInt) (h1 : c.toInt < n) : ∃ k : Fin n, c = Int32.ofInt (k.val : Int) := by
  refine ⟨⟨c.toInt.toNat, by omega⟩, ?_⟩
  have e : ((c.toInt.toNat : Nat) : Int) = c.toInt := by omega
  show c = Int32.ofInt ((c.toInt.toNat : Nat) : Int)
  rw [e]; exact own_i32 c
theorem own_mvM {Z s : State} {a0 args : Array Value} {own host : String} {y : MethodName} {index : Nat} (hZ : Z.Warmed39 s.vm) (w : (Jvm.Cond.methodLinkNest own index y host).before a0 Z = true) : (Jvm.Cond.methodLinkNest own index y host).before args s = true := (Cond.methodLinkNest_wide hZ w :)
theorem own_sta_keep {Z : State} {h h' : Heap} {C n d : String} {v : Value} {ws : List Addr} (F : Sta Z h C n d v) (K : Keep h h' ws) (q : ∀ x ∈ ws, ∃ c : Cell, h[x]? = some c ∧ c.vm.isStatics = false) : Sta Z h' C n d v := by
  obtain ⟨cf, i, k, f, st, cell, h1, h2, h3, h4, h5, h6, h7⟩ := F
  refine ⟨cf, i, k, f, st, cell, h1, h2, h3, h4, K.2.1 st cell h5 fun z => ?_, h6, h7⟩
  obtain ⟨c, e1, e2⟩ := q st z
  cases h5.symm.trans e1; rw [h6] at e2; cases e2
theorem own_ne_arv {Z : State} {h : Heap} {a b : Addr} {C : String} {a0 : Array Value} {i : Nat} {k : ClassId} {ty : FieldType} {n : Int32} {vs : List Value} {d : Value} (E : Exa Z h a C) (wi : (Jvm.Cond.instantiable C i).before a0 Z = true) (V : Arv Z h b k ty n vs d) : a ≠ b := by
  obtain ⟨c, A, -⟩ := V; exact ne_arr E wi A
theorem own_exa_ns {Z : State} {h : Heap} {a : Addr} {C : String} (E : Exa Z h a C) : ∃ c : Cell, h[a]? = some c ∧ c.vm.isStatics = false := by
  obtain ⟨c, k, h1, -, -, h4, -⟩ := E; exact ⟨c, h1, h4⟩
theorem own_arv_ns {Z : State} {h : Heap} {a : Addr} {k : ClassId} {ty : FieldType} {n : Int32} {vs : List Value} {d : Value} (V : Arv Z h a k ty n vs d) : ∃ c : Cell, h[a]? = some c ∧ c.vm.isStatics = false := by
  obtain ⟨c, A, -⟩ := V; exact ⟨c, A.1, A.plain⟩
theorem own_selpriv {Z s : State} {a0 args : Array Value} {y : MethodName} {n : Nat} (hZ : Z.Warmed39 s.vm) (wi : (Jvm.Cond.instantiable y.cls n).before a0 Z = true) (wp : (Jvm.Cond.privateMethod y).before a0 Z = true) (wm : (Jvm.Cond.instanceMethod y).before a0 Z = true) (hy : y.cls ≠ "java/lang/invoke/MethodHandle" ∧ y.cls ≠ "java/lang/invoke/VarHandle") : (Jvm.Cond.selects y.cls y y).before args s = true := by
  obtain ⟨c, k, h1, h2, -, h4, -⟩ := Cond.instantiable_spec (mvT (args := args) hZ wi)
  refine Jvm.Stand.selects_self_of_private h1 h2 ?_ (Cond.privateMethod_at (mvP hZ wp (args := #[]))) (mvT hZ wm) hy
  cases q : k.isInterface
  · rfl
  · simp [q] at h4
theorem dd1 : own_dec method_2_code [(0, .iconst 1, 1), (1, .iload_n 0, 1), (2, .ldc 7, 2), (4, .iand, 1), (5, .bipush 101, 2), (7, .irem, 1), (8, .iadd, 1), (9, .istore_n 1, 1), (10, .iload_n 1, 1), (11, .bipush 100, 2), (13, .if_icmp .le 8, 3), (16, .bipush 104, 2), (18, .goto 4, 3), (21, .iload_n 1, 1), (22, .ireturn, 1)] := by unfold own_dec; decide +kernel
theorem pn_com_example_sixfold_sixfold_rows_TableWaitingPinLaw : plainName "com/example/sixfold/sixfold/rows/TableWaitingPinLaw" = true := by first | (simp [plainName, overriddenIn]; done) | decide +kernel
theorem ef_card (m : MethodId) (p0 : Int32) : entryFrame m #[(.int p0)] 2 = mkF m 0 #[vI p0, vU] [] := by first | (simp [entryFrame, mkF, argsToLocals, Value.category, vI, vR, vU]; done) | rfl
def fcard (p0 : Int32) : Int32 := (if (100 : Int32) < ((1 : Int32) + ((p0 &&& (2147483647 : Int32)) % (101 : Int32))) then (104 : Int32) else ((1 : Int32) + ((p0 &&& (2147483647 : Int32)) % (101 : Int32))))
def Qcard (Z : State) (p0 : Int32) (h0 : Heap) (n0 : Nat) (v : Option Value) (h : Heap) (L : List Loc) : Prop := Fr n0 L ∧ v = some (.int (fcard p0)) ∧ h = h0
set_option maxRecDepth 65536 in
set_option maxHeartbeats 40000000 in
theorem rmcard (l : Launch) (Z : State) (a0 : Array Value) (hw : ∀ d ∈ tables_1, d.before a0 Z = true) (ws : List Jvm.Cond) (p0 : Int32) (h0 : Heap) (n0 : Nat) (Z0 : n0 ≤ h0.size)  :
    own_Cw l Z (⟨"com/example/sixfold/sixfold/rows/TableWaitingPinLaw", "card", "(I)I"⟩ : MethodName) method_2_code 2 (some .int) ws (own_rr 0 0 0 0) #[(.int p0)] h0 (Qcard Z p0 h0 n0) := by
  refine own_body (plainFor_of_name pn_com_example_sixfold_sixfold_rows_TableWaitingPinLaw) ?_
  intro p e s m below meth c s₁ hx hby hml hZ hown hnm hret hlk X0 e0
  have N0 := Fr.nil n0
  refine own_go (fun t k => castTop (ef_card m p0) k) ?_
  refine sc X0 hx (dx hby dd1 0) ?_
  show own_Gl _ _ _ _ (s₁.setTop (mkF m 1 #[vI p0, vU] [(.int (1 : Int32))]))
  refine si X0 hx (dx hby dd1 1) ?_
  show own_Gl _ _ _ _ (s₁.setTop (mkF m 2 #[vI p0, vU] [(.int p0), (.int (1 : Int32))]))
  refine og (X0.ldcInt hx hown (mvT hZ (wx hw 0)) (g := (mkF m 2 #[vI p0, vU] [(.int p0), (.int (1 : Int32))])) rfl (dx hby dd1 2) _) ?_
  refine og (XS.iand X0.here hx rfl (dx hby dd1 3) rfl) ?_
  refine og (XS.bipush X0.here hx rfl (dx hby dd1 4)) ?_
  refine og (iremM X0 hx rfl (dx hby dd1 5) rfl (by decide)) ?_
  refine og (XS.iadd X0.here hx rfl (dx hby dd1 6) rfl) ?_
  refine og (XS.istoreN X0.here hx rfl (dx hby dd1 7) rfl (l' := #[vI p0, vI ((1 : Int32) + ((p0 &&& (2147483647 : Int32)) % (101 : Int32)))]) rfl) ?_
  refine si X0 hx (dx hby dd1 8) ?_
  refine og (XS.bipush X0.here hx rfl (dx hby dd1 9)) ?_
  by_cases hc13_41 : (100 : Int32) < ((1 : Int32) + ((p0 &&& (2147483647 : Int32)) % (101 : Int32)))
  · refine og (XS.icmpNo X0.here hx rfl (dx hby dd1 10) rfl (tlt hc13_41).2.2.2) ?_
    refine og (XS.bipush X0.here hx rfl (dx hby dd1 11)) ?_
    refine og (XS.goto X0.here hx rfl (pc0 := 18) (pc' := 22) rfl (dx hby dd1 12) (by decide) (by decide)) ?_
    show own_Gl _ _ _ _ (s₁.setTop (mkF m 22 #[vI p0, vI ((1 : Int32) + ((p0 &&& (2147483647 : Int32)) % (101 : Int32)))] [(.int (104 : Int32))]))
    exact own_retW X0 hx hret hlk rfl (Or.inl ⟨rfl, Or.inl rfl, _, rfl⟩) (dx hby dd1 14) e0 (by decide) (by decide) ⟨N0, by rw [fcard, if_pos hc13_41], rfl⟩
  · refine og (XS.icmpYes X0.here hx rfl (pc0 := 13) (pc' := 21) rfl (dx hby dd1 10) rfl (flt hc13_41).2.2.2 (by decide) (by decide)) ?_
    refine si X0 hx (dx hby dd1 13) ?_
    show own_Gl _ _ _ _ (s₁.setTop (mkF m 22 #[vI p0, vI ((1 : Int32) + ((p0 &&& (2147483647 : Int32)) % (101 : Int32)))] [(.int ((1 : Int32) + ((p0 &&& (2147483647 : Int32)) % (101 : Int32))))]))
    exact own_retW X0 hx hret hlk rfl (Or.inl ⟨rfl, Or.inl rfl, _, rfl⟩) (dx hby dd1 14) e0 (by decide) (by decide) ⟨N0, by rw [fcard, if_neg hc13_41], rfl⟩
theorem dd6 : own_dec method_3_code [(0, .iload_n 0, 1), (1, .iload_n 1, 1), (2, .if_icmp .ge 8, 3), (5, .bipush 101, 2), (7, .iload_n 0, 1), (8, .iadd, 1), (9, .ireturn, 1), (10, .iload_n 0, 1), (11, .iload_n 1, 1), (12, .if_icmp .ne 5, 3), (15, .iload_n 2, 1), (16, .ireturn, 1), (17, .bipush 100, 2), (19, .iload_n 0, 1), (20, .iadd, 1), (21, .ireturn, 1)] := by unfold own_dec; decide +kernel
theorem ef_start (m : MethodId) (p0 : Int32) (p1 : Int32) (p2 : Int32) : entryFrame m #[(.int p0), (.int p1), (.int p2)] 3 = mkF m 0 #[vI p0, vI p1, vI p2] [] := by first | (simp [entryFrame, mkF, argsToLocals, Value.category, vI, vR, vU]; done) | rfl
def fstart (p0 : Int32) (p1 : Int32) (p2 : Int32) : Int32 := (if p0 < p1 then ((101 : Int32) + p0) else (if p0 = p1 then p2 else ((100 : Int32) + p0)))
def Qstart (Z : State) (p0 : Int32) (p1 : Int32) (p2 : Int32) (h0 : Heap) (n0 : Nat) (v : Option Value) (h : Heap) (L : List Loc) : Prop := Fr n0 L ∧ v = some (.int (fstart p0 p1 p2)) ∧ h = h0
set_option maxRecDepth 65536 in
set_option maxHeartbeats 40000000 in
theorem rmstart (l : Launch) (Z : State) (a0 : Array Value) (hw : ∀ d ∈ tables_1, d.before a0 Z = true) (ws : List Jvm.Cond) (p0 : Int32) (p1 : Int32) (p2 : Int32) (h0 : Heap) (n0 : Nat) (Z0 : n0 ≤ h0.size)  :
    own_Cw l Z (⟨"com/example/sixfold/sixfold/rows/TableWaitingPinLaw", "startAt", "(III)I"⟩ : MethodName) method_3_code 3 (some .int) ws (own_rr 0 0 0 0) #[(.int p0), (.int p1), (.int p2)] h0 (Qstart Z p0 p1 p2 h0 n0) := by
  refine own_body (plainFor_of_name pn_com_example_sixfold_sixfold_rows_TableWaitingPinLaw) ?_
  intro p e s m below meth c s₁ hx hby hml hZ hown hnm hret hlk X0 e0
  have N0 := Fr.nil n0
  refine own_go (fun t k => castTop (ef_start m p0 p1 p2) k) ?_
  refine si X0 hx (dx hby dd6 0) ?_
  show own_Gl _ _ _ _ (s₁.setTop (mkF m 1 #[vI p0, vI p1, vI p2] [(.int p0)]))
  refine si X0 hx (dx hby dd6 1) ?_
  by_cases hc2_41 : p0 < p1
  · refine og (XS.icmpNo X0.here hx rfl (dx hby dd6 2) rfl (tlt hc2_41).2.1) ?_
    refine og (XS.bipush X0.here hx rfl (dx hby dd6 3)) ?_
    refine si X0 hx (dx hby dd6 4) ?_
    refine og (XS.iadd X0.here hx rfl (dx hby dd6 5) rfl) ?_
    show own_Gl _ _ _ _ (s₁.setTop (mkF m 9 #[vI p0, vI p1, vI p2] [(.int ((101 : Int32) + p0))]))
    exact own_retW X0 hx hret hlk rfl (Or.inl ⟨rfl, Or.inl rfl, _, rfl⟩) (dx hby dd6 6) e0 (by decide) (by decide) ⟨N0, by rw [fstart, if_pos hc2_41], rfl⟩
  · refine og (XS.icmpYes X0.here hx rfl (pc0 := 2) (pc' := 10) rfl (dx hby dd6 2) rfl (flt hc2_41).2.1 (by decide) (by decide)) ?_
    refine si X0 hx (dx hby dd6 7) ?_
    refine si X0 hx (dx hby dd6 8) ?_
    by_cases hc12_42 : p0 = p1
    · refine og (XS.icmpNo X0.here hx rfl (dx hby dd6 9) rfl (teq hc12_42).2) ?_
      refine si X0 hx (dx hby dd6 10) ?_
      show own_Gl _ _ _ _ (s₁.setTop (mkF m 16 #[vI p0, vI p1, vI p2] [(.int p2)]))
      exact own_retW X0 hx hret hlk rfl (Or.inl ⟨rfl, Or.inl rfl, _, rfl⟩) (dx hby dd6 11) e0 (by decide) (by decide) ⟨N0, by rw [fstart, if_neg hc2_41, if_pos hc12_42], rfl⟩
    · refine og (XS.icmpYes X0.here hx rfl (pc0 := 12) (pc' := 17) rfl (dx hby dd6 9) rfl (feq hc12_42).2 (by decide) (by decide)) ?_
      refine og (XS.bipush X0.here hx rfl (dx hby dd6 12)) ?_
      refine si X0 hx (dx hby dd6 13) ?_
      refine og (XS.iadd X0.here hx rfl (dx hby dd6 14) rfl) ?_
      show own_Gl _ _ _ _ (s₁.setTop (mkF m 21 #[vI p0, vI p1, vI p2] [(.int ((100 : Int32) + p0))]))
      exact own_retW X0 hx hret hlk rfl (Or.inl ⟨rfl, Or.inl rfl, _, rfl⟩) (dx hby dd6 15) e0 (by decide) (by decide) ⟨N0, by rw [fstart, if_neg hc2_41, if_neg hc12_42], rfl⟩
theorem dd12 : own_dec jdk_29_method_65_code [(0, .iload_n 0, 1), (1, .iload_n 1, 1), (2, .if_icmp .lt 7, 3), (5, .iload_n 0, 1), (6, .goto 4, 3), (9, .iload_n 1, 1), (10, .ireturn, 1)] := by unfold own_dec; decide +kernel
theorem ef_max (m : MethodId) (p0 : Int32) (p1 : Int32) : entryFrame m #[(.int p0), (.int p1)] 2 = mkF m 0 #[vI p0, vI p1] [] := by first | (simp [entryFrame, mkF, argsToLocals, Value.category, vI, vR, vU]; done) | rfl
def fmax (p0 : Int32) (p1 : Int32) : Int32 := (if p0 < p1 then p1 else p0)
def Qmax (Z : State) (p0 : Int32) (p1 : Int32) (h0 : Heap) (n0 : Nat) (v : Option Value) (h : Heap) (L : List Loc) : Prop := Fr n0 L ∧ v = some (.int (fmax p0 p1)) ∧ h = h0
set_option maxRecDepth 65536 in
set_option maxHeartbeats 40000000 in
theorem rmmax (l : Launch) (Z : State) (a0 : Array Value) (hw : ∀ d ∈ tables_1, d.before a0 Z = true) (ws : List Jvm.Cond) (p0 : Int32) (p1 : Int32) (h0 : Heap) (n0 : Nat) (Z0 : n0 ≤ h0.size)  :
    own_Cw l Z (⟨"java/lang/Math", "max", "(II)I"⟩ : MethodName) jdk_29_method_65_code 2 (some .int) ws (own_rr 0 0 0 0) #[(.int p0), (.int p1)] h0 (Qmax Z p0 p1 h0 n0) := by
  refine own_body (Jvm.Free.JP.mathPlain rfl (by decide +kernel)) ?_
  intro p e s m below meth c s₁ hx hby hml hZ hown hnm hret hlk X0 e0
  have N0 := Fr.nil n0
  refine own_go (fun t k => castTop (ef_max m p0 p1) k) ?_
  refine si X0 hx (dx hby dd12 0) ?_
  show own_Gl _ _ _ _ (s₁.setTop (mkF m 1 #[vI p0, vI p1] [(.int p0)]))
  refine si X0 hx (dx hby dd12 1) ?_
  by_cases hc2_41 : p0 < p1
  · refine og (XS.icmpYes X0.here hx rfl (pc0 := 2) (pc' := 9) rfl (dx hby dd12 2) rfl (tlt hc2_41).1 (by decide) (by decide)) ?_
    refine si X0 hx (dx hby dd12 5) ?_
    show own_Gl _ _ _ _ (s₁.setTop (mkF m 10 #[vI p0, vI p1] [(.int p1)]))
    exact own_retW X0 hx hret hlk rfl (Or.inl ⟨rfl, Or.inl rfl, _, rfl⟩) (dx hby dd12 6) e0 (by decide) (by decide) ⟨N0, by rw [fmax, if_pos hc2_41], rfl⟩
  · refine og (XS.icmpNo X0.here hx rfl (dx hby dd12 2) rfl (flt hc2_41).1) ?_
    refine si X0 hx (dx hby dd12 3) ?_
    refine og (XS.goto X0.here hx rfl (pc0 := 6) (pc' := 10) rfl (dx hby dd12 4) (by decide) (by decide)) ?_
    show own_Gl _ _ _ _ (s₁.setTop (mkF m 10 #[vI p0, vI p1] [(.int p0)]))
    exact own_retW X0 hx hret hlk rfl (Or.inl ⟨rfl, Or.inl rfl, _, rfl⟩) (dx hby dd12 6) e0 (by decide) (by decide) ⟨N0, by rw [fmax, if_neg hc2_41], rfl⟩
theorem dd36 : own_dec prog_41_method_3_code [(0, .iload_n 0, 1), (1, .iconst 1, 1), (2, .if_icmp .lt 13, 3), (5, .iload_n 0, 1), (6, .bipush 104, 2), (8, .if_icmp .gt 7, 3), (11, .iconst 1, 1), (12, .goto 4, 3), (15, .iconst 0, 1), (16, .ireturn, 1)] := by unfold own_dec; decide +kernel
theorem pn_com_example_sixfold_sixfold_rows_Card : plainName "com/example/sixfold/sixfold/rows/Card" = true := by first | (simp [plainName, overriddenIn]; done) | decide +kernel
theorem ef_isc (m : MethodId) (p0 : Int32) : entryFrame m #[(.int p0)] 1 = mkF m 0 #[vI p0] [] := by first | (simp [entryFrame, mkF, argsToLocals, Value.category, vI, vR, vU]; done) | rfl
def fisc (p0 : Int32) : Int32 := (if p0 < (1 : Int32) then (0 : Int32) else (if (104 : Int32) < p0 then (0 : Int32) else (1 : Int32)))
def Qisc (Z : State) (p0 : Int32) (h0 : Heap) (n0 : Nat) (v : Option Value) (h : Heap) (L : List Loc) : Prop := Fr n0 L ∧ v = some (.int (fisc p0)) ∧ h = h0
set_option maxRecDepth 65536 in
set_option maxHeartbeats 40000000 in
theorem rmisc (l : Launch) (Z : State) (a0 : Array Value) (hw : ∀ d ∈ tables_1, d.before a0 Z = true) (ws : List Jvm.Cond) (p0 : Int32) (h0 : Heap) (n0 : Nat) (Z0 : n0 ≤ h0.size)  :
    own_Cw l Z (⟨"com/example/sixfold/sixfold/rows/Card", "isCard", "(I)Z"⟩ : MethodName) prog_41_method_3_code 1 (some .boolean) ws (own_rr 0 0 0 0) #[(.int p0)] h0 (Qisc Z p0 h0 n0) := by
  refine own_body (plainFor_of_name pn_com_example_sixfold_sixfold_rows_Card) ?_
  intro p e s m below meth c s₁ hx hby hml hZ hown hnm hret hlk X0 e0
  have N0 := Fr.nil n0
  refine own_go (fun t k => castTop (ef_isc m p0) k) ?_
  refine si X0 hx (dx hby dd36 0) ?_
  show own_Gl _ _ _ _ (s₁.setTop (mkF m 1 #[vI p0] [(.int p0)]))
  refine sc X0 hx (dx hby dd36 1) ?_
  by_cases hc2_41 : p0 < (1 : Int32)
  · refine og (XS.icmpYes X0.here hx rfl (pc0 := 2) (pc' := 15) rfl (dx hby dd36 2) rfl (tlt hc2_41).1 (by decide) (by decide)) ?_
    refine sc X0 hx (dx hby dd36 8) ?_
    show own_Gl _ _ _ _ (s₁.setTop (mkF m 16 #[vI p0] [(.int (0 : Int32))]))
    exact own_retB X0 hx (t := .boolean) hret hlk (by simp) (dx hby dd36 9) e0 (by decide) (by decide) ⟨N0, by rw [fisc, if_pos hc2_41] <;> rfl, rfl⟩
  · refine og (XS.icmpNo X0.here hx rfl (dx hby dd36 2) rfl (flt hc2_41).1) ?_
    refine si X0 hx (dx hby dd36 3) ?_
    refine og (XS.bipush X0.here hx rfl (dx hby dd36 4)) ?_
    by_cases hc8_42 : (104 : Int32) < p0
    · refine og (XS.icmpYes X0.here hx rfl (pc0 := 8) (pc' := 15) rfl (dx hby dd36 5) rfl (tlt hc8_42).2.2.1 (by decide) (by decide)) ?_
      refine sc X0 hx (dx hby dd36 8) ?_
      show own_Gl _ _ _ _ (s₁.setTop (mkF m 16 #[vI p0] [(.int (0 : Int32))]))
      exact own_retB X0 hx (t := .boolean) hret hlk (by simp) (dx hby dd36 9) e0 (by decide) (by decide) ⟨N0, by rw [fisc, if_neg hc2_41, if_pos hc8_42] <;> rfl, rfl⟩
    · refine og (XS.icmpNo X0.here hx rfl (dx hby dd36 5) rfl (flt hc8_42).2.2.1) ?_
      refine sc X0 hx (dx hby dd36 6) ?_
      refine og (XS.goto X0.here hx rfl (pc0 := 12) (pc' := 16) rfl (dx hby dd36 7) (by decide) (by decide)) ?_
      show own_Gl _ _ _ _ (s₁.setTop (mkF m 16 #[vI p0] [(.int (1 : Int32))]))
      exact own_retB X0 hx (t := .boolean) hret hlk (by simp) (dx hby dd36 9) e0 (by decide) (by decide) ⟨N0, by rw [fisc, if_neg hc2_41, if_neg hc8_42] <;> rfl, rfl⟩
theorem own_isc {c : Int32} (h : 1 ≤ c.toInt ∧ c.toInt ≤ 104) : fisc c = 1 := by
  have z1 : (1 : Int32).toInt = 1 := rfl
  have z2 : (104 : Int32).toInt = 104 := rfl
  rw [fisc, if_neg (by rw [Int32.lt_iff_toInt_lt]; omega), if_neg (by rw [Int32.lt_iff_toInt_lt]; omega)]
theorem own_iscn {c : Int32} (h : 1 ≤ c.toInt ∧ c.toInt ≤ 104) : ¬ (fisc c = (0 : Int32)) := by rw [own_isc h] <;> decide
theorem own_isc_of {c : Int32} (h : ¬ (fisc c = (0 : Int32))) : 1 ≤ c.toInt ∧ c.toInt ≤ 104 := by
  have z1 : (1 : Int32).toInt = 1 := rfl
  have z2 : (104 : Int32).toInt = 104 := rfl
  unfold fisc at h
  split at h
  · exact absurd rfl h
  · split at h
    · exact absurd rfl h
    · rename_i h1 h2; rw [Int32.lt_iff_toInt_lt] at h1 h2; omega
theorem dd39 : own_dec prog_41_method_4_code [(0, .iload_n 0, 1), (1, .invokestatic 17, 3), (4, .ifCond .ne 17, 3), (7, .new 21, 3), (10, .dup, 1), (11, .iload_n 0, 1), (21, .iload_n 0, 1), (22, .ireturn, 1)] := by unfold own_dec; decide +kernel
theorem ef_chk (m : MethodId) (p0 : Int32) : entryFrame m #[(.int p0)] 1 = mkF m 0 #[vI p0] [] := by first | (simp [entryFrame, mkF, argsToLocals, Value.category, vI, vR, vU]; done) | rfl
theorem pd_0 : parseMethodDescriptor "(I)Z" = some ⟨[.int], some .boolean⟩ := by decide +kernel
def Qchk (Z : State) (p0 : Int32) (h0 : Heap) (n0 : Nat) (v : Option Value) (h : Heap) (L : List Loc) : Prop := Fr n0 L ∧ v = some (.int p0) ∧ h = h0
set_option maxRecDepth 65536 in
set_option maxHeartbeats 40000000 in
theorem rmchk (l : Launch) (Z : State) (a0 : Array Value) (hw : ∀ d ∈ tables_1, d.before a0 Z = true) (ws : List Jvm.Cond) (p0 : Int32) (h0 : Heap) (n0 : Nat) (Z0 : n0 ≤ h0.size) (hc : 1 ≤ p0.toInt ∧ p0.toInt ≤ 104) :
    own_Cw l Z (⟨"com/example/sixfold/sixfold/rows/Card", "checked", "(I)I"⟩ : MethodName) prog_41_method_4_code 1 (some .int) ws (own_rr 1 0 0 12) #[(.int p0)] h0 (Qchk Z p0 h0 n0) := by
  refine own_body (plainFor_of_name pn_com_example_sixfold_sixfold_rows_Card) ?_
  intro p e s m below meth c s₁ hx hby hml hZ hown hnm hret hlk X0 e0
  have N0 := Fr.nil n0
  refine own_go (fun t k => castTop (ef_chk m p0) k) ?_
  refine si X0 hx (dx hby dd39 0) ?_
  refine oc_static X0 hx hZ hown (wx hw 300) (wx hw 283) (wx hw 284) (wx hw 285) (by decide) (W := 0) (rmisc l Z a0 hw [] p0 h0 n0 Z0 ) (by decide) (by decide) (argsL := [(.int p0)]) (rest := []) (by rw [hml]; rfl) (lenOf pd_0 rfl) rfl (Nat.le_of_eq rfl) (dx hby dd39 1) rfl e0 (by decide) (by decide) (fun v41 T41 Lc41 hQ41 X41 => ?_)
  obtain ⟨N41q, rfl, hq41⟩ := hQ41
  have N41 := Fr.app N0 N41q
  have hp42 : ¬ ((fisc p0) = (0 : Int32)) := own_iscn hc
  refine og (XS.ifYes X41.here hx rfl (pc0 := 4) (pc' := 21) rfl (dx hby dd39 2) rfl ((if0 _ _).trans (feq hp42).2) (by decide) (by decide)) ?_
  refine si X41 hx (dx hby dd39 6) ?_
  exact own_retW X41 hx hret hlk rfl (Or.inl ⟨rfl, Or.inl rfl, _, rfl⟩) (dx hby dd39 7) hq41 (by decide) (by decide) ⟨N41, rfl, rfl⟩
theorem dd43 : own_dec jdk_41_method_11_code [(0, .iload_n 0, 1), (1, .ifCond .lt 8, 3), (4, .iload_n 0, 1), (5, .iload_n 1, 1), (6, .if_icmp .lt 10, 3), (9, .aload_n 2, 1), (10, .iload_n 0, 1), (11, .iload_n 1, 1), (12, .invokestatic 95, 3), (15, .athrow, 1), (16, .iload_n 0, 1), (17, .ireturn, 1)] := by unfold own_dec; decide +kernel
theorem pn_jdk_internal_util_Preconditions : plainName "jdk/internal/util/Preconditions" = true := by first | (simp [plainName, overriddenIn]; done) | decide +kernel
theorem ef_pci (m : MethodId) (p0 : Int32) (p1 : Int32) : entryFrame m #[(.int p0), (.int p1), .null] 3 = mkF m 0 #[vI p0, vI p1, .val .null] [] := by first | (simp [entryFrame, mkF, argsToLocals, Value.category, vI, vR, vU]; done) | rfl
def Qpci (Z : State) (p0 : Int32) (p1 : Int32) (h0 : Heap) (n0 : Nat) (v : Option Value) (h : Heap) (L : List Loc) : Prop := Fr n0 L ∧ v = some (.int p0) ∧ h = h0
set_option maxRecDepth 65536 in
set_option maxHeartbeats 40000000 in
theorem rmpci (l : Launch) (Z : State) (a0 : Array Value) (hw : ∀ d ∈ tables_1, d.before a0 Z = true) (ws : List Jvm.Cond) (p0 : Int32) (p1 : Int32) (h0 : Heap) (n0 : Nat) (Z0 : n0 ≤ h0.size) (i0 : ¬ (p0 < (0 : Int32))) (i1 : p0 < p1) :
    own_Cw l Z (⟨"jdk/internal/util/Preconditions", "checkIndex", "(IILjava/util/function/BiFunction;)I"⟩ : MethodName) jdk_41_method_11_code 3 (some .int) ws (own_rr 0 0 0 0) #[(.int p0), (.int p1), .null] h0 (Qpci Z p0 p1 h0 n0) := by
  refine own_body (plainFor_of_name pn_jdk_internal_util_Preconditions) ?_
  intro p e s m below meth c s₁ hx hby hml hZ hown hnm hret hlk X0 e0
  have N0 := Fr.nil n0
  refine own_go (fun t k => castTop (ef_pci m p0 p1) k) ?_
  refine si X0 hx (dx hby dd43 0) ?_
  refine og (XS.ifNo X0.here hx rfl (dx hby dd43 1) rfl ((if0 _ _).trans (flt i0).1)) ?_
  refine si X0 hx (dx hby dd43 2) ?_
  refine si X0 hx (dx hby dd43 3) ?_
  refine og (XS.icmpYes X0.here hx rfl (pc0 := 6) (pc' := 16) rfl (dx hby dd43 4) rfl (tlt i1).1 (by decide) (by decide)) ?_
  refine si X0 hx (dx hby dd43 10) ?_
  exact own_retW X0 hx hret hlk rfl (Or.inl ⟨rfl, Or.inl rfl, _, rfl⟩) (dx hby dd43 11) e0 (by decide) (by decide) ⟨N0, rfl, rfl⟩
theorem dd42 : own_dec jdk_31_method_17_code [(0, .iload_n 0, 1), (1, .iload_n 1, 1), (2, .aconst_null, 1), (3, .invokestatic 105, 3), (6, .ireturn, 1)] := by unfold own_dec; decide +kernel
theorem pn_java_util_Objects : plainName "java/util/Objects" = true := by first | (simp [plainName, overriddenIn]; done) | decide +kernel
theorem ef_oci (m : MethodId) (p0 : Int32) (p1 : Int32) : entryFrame m #[(.int p0), (.int p1)] 2 = mkF m 0 #[vI p0, vI p1] [] := by first | (simp [entryFrame, mkF, argsToLocals, Value.category, vI, vR, vU]; done) | rfl
theorem pd_1 : parseMethodDescriptor "(IILjava/util/function/BiFunction;)I" = some ⟨[.int, .int, (.object "java/util/function/BiFunction")], some .int⟩ := by decide +kernel
def Qoci (Z : State) (p0 : Int32) (p1 : Int32) (h0 : Heap) (n0 : Nat) (v : Option Value) (h : Heap) (L : List Loc) : Prop := Fr n0 L ∧ v = some (.int p0) ∧ h = h0
set_option maxRecDepth 65536 in
set_option maxHeartbeats 40000000 in
theorem rmoci (l : Launch) (Z : State) (a0 : Array Value) (hw : ∀ d ∈ tables_1, d.before a0 Z = true) (ws : List Jvm.Cond) (p0 : Int32) (p1 : Int32) (h0 : Heap) (n0 : Nat) (Z0 : n0 ≤ h0.size) (i0 : ¬ (p0 < (0 : Int32))) (i1 : p0 < p1) :
    own_Cw l Z (⟨"java/util/Objects", "checkIndex", "(II)I"⟩ : MethodName) jdk_31_method_17_code 2 (some .int) ws (own_rr 1 0 0 14) #[(.int p0), (.int p1)] h0 (Qoci Z p0 p1 h0 n0) := by
  refine own_body (plainFor_of_name pn_java_util_Objects) ?_
  intro p e s m below meth c s₁ hx hby hml hZ hown hnm hret hlk X0 e0
  have N0 := Fr.nil n0
  refine own_go (fun t k => castTop (ef_oci m p0 p1) k) ?_
  refine si X0 hx (dx hby dd42 0) ?_
  refine si X0 hx (dx hby dd42 1) ?_
  refine og (XS.aconstNull X0.here hx rfl (dx hby dd42 2)) ?_
  refine oc_static X0 hx hZ hown (wx hw 319) (wx hw 320) (wx hw 321) (wx hw 322) (by decide) (W := 0) (rmpci l Z a0 hw [] p0 p1 h0 n0 Z0 i0 i1) (by decide) (by decide) (argsL := [(.int p0), (.int p1), .null]) (rest := []) (by rw [hml]; rfl) (lenOf pd_1 rfl) rfl (Nat.le_of_eq rfl) (dx hby dd42 3) rfl e0 (by decide) (by decide) (fun v41 T41 Lc41 hQ41 X41 => ?_)
  obtain ⟨N41q, rfl, hq41⟩ := hQ41
  have N41 := Fr.app N0 N41q
  exact own_retW X41 hx hret hlk rfl (Or.inl ⟨rfl, Or.inl rfl, _, rfl⟩) (dx hby dd42 4) hq41 (by decide) (by decide) ⟨N41, rfl, rfl⟩
def own_tI (t k i : Int32) : Int32 := if t < i then ((i.toUInt32 >>> (k &&& 31).toUInt32).toInt32) else i
def own_tN (t k i n : Int32) : Int32 := if t < i then (n + k) else n
def own_lI (t k i : Int32) : Int32 := if i < t then i else ((i.toUInt32 >>> (k &&& 31).toUInt32).toInt32)
def own_lN (t k i n : Int32) : Int32 := if i < t then n else (n + k)
def own_t3 (i n : Int32) : Int32 := (own_tN 4 2 i n) + (((own_tI 4 2 i).toUInt32 >>> ((1 : Int32) &&& 31).toUInt32).toInt32)
def own_t2 (i n : Int32) : Int32 := own_t3 (own_tI 16 4 i) (own_tN 16 4 i n)
def own_t1 (i n : Int32) : Int32 := own_t2 (own_tI 256 8 i) (own_tN 256 8 i n)
def own_l3 (i n : Int32) : Int32 := (own_lN 4 (-2) i n) - (((own_lI 4 2 i).toUInt32 >>> ((1 : Int32) &&& 31).toUInt32).toInt32)
def own_l2 (i n : Int32) : Int32 := own_l3 (own_lI 16 4 i) (own_lN 16 (-4) i n)
def own_l1 (i n : Int32) : Int32 := own_l2 (own_lI 256 8 i) (own_lN 256 (-8) i n)
def fnti (p0 : Int32) : Int32 := if (0 : Int32) < ((p0 ^^^ (-1 : Int32)) &&& (p0 - (1 : Int32))) then own_t1 (own_tI 65536 16 ((p0 ^^^ (-1 : Int32)) &&& (p0 - (1 : Int32)))) (if (65536 : Int32) < ((p0 ^^^ (-1 : Int32)) &&& (p0 - (1 : Int32))) then (17 : Int32) else (1 : Int32)) else (((p0 ^^^ (-1 : Int32)) &&& (p0 - (1 : Int32))) &&& (32 : Int32))
def fnli (p0 : Int32) : Int32 := if (0 : Int32) < p0 then own_l1 (own_lI 65536 16 p0) (if p0 < (65536 : Int32) then (31 : Int32) else (15 : Int32)) else if p0 = (0 : Int32) then (32 : Int32) else (0 : Int32)
theorem dd51 : own_dec jdk_33_method_48_code [(0, .iload_n 0, 1), (1, .iconst (-1), 1), (2, .ixor, 1), (3, .iload_n 0, 1), (4, .iconst 1, 1), (5, .isub, 1), (6, .iand, 1), (7, .istore_n 0, 1), (8, .iload_n 0, 1), (9, .ifCond .gt 8, 3), (12, .iload_n 0, 1), (13, .bipush 32, 2), (15, .iand, 1), (16, .ireturn, 1), (17, .iconst 1, 1), (18, .istore_n 1, 1), (19, .iload_n 0, 1), (20, .ldc_w 264, 3), (23, .if_icmp .le 11, 3), (26, .iinc 1 16, 3), (29, .iload_n 0, 1), (30, .bipush 16, 2), (32, .iushr, 1), (33, .istore_n 0, 1), (34, .iload_n 0, 1), (35, .sipush 256, 3), (38, .if_icmp .le 11, 3), (41, .iinc 1 8, 3), (44, .iload_n 0, 1), (45, .bipush 8, 2), (47, .iushr, 1), (48, .istore_n 0, 1), (49, .iload_n 0, 1), (50, .bipush 16, 2), (52, .if_icmp .le 10, 3), (55, .iinc 1 4, 3), (58, .iload_n 0, 1), (59, .iconst 4, 1), (60, .iushr, 1), (61, .istore_n 0, 1), (62, .iload_n 0, 1), (63, .iconst 4, 1), (64, .if_icmp .le 10, 3), (67, .iinc 1 2, 3), (70, .iload_n 0, 1), (71, .iconst 2, 1), (72, .iushr, 1), (73, .istore_n 0, 1), (74, .iload_n 1, 1), (75, .iload_n 0, 1), (76, .iconst 1, 1), (77, .iushr, 1), (78, .iadd, 1), (79, .ireturn, 1)] := by unfold own_dec; decide +kernel
theorem pn_java_lang_Integer : plainName "java/lang/Integer" = true := by first | (simp [plainName, overriddenIn]; done) | decide +kernel
theorem ef_nti (m : MethodId) (p0 : Int32) : entryFrame m #[(.int p0)] 2 = mkF m 0 #[vI p0, vU] [] := by first | (simp [entryFrame, mkF, argsToLocals, Value.category, vI, vR, vU]; done) | rfl
def Qnti (Z : State) (p0 : Int32) (h0 : Heap) (n0 : Nat) (v : Option Value) (h : Heap) (L : List Loc) : Prop := Fr n0 L ∧ v = some (.int (fnti p0)) ∧ h = h0
set_option maxRecDepth 65536 in
set_option maxHeartbeats 40000000 in
theorem rmnti (l : Launch) (Z : State) (a0 : Array Value) (hw : ∀ d ∈ tables_1, d.before a0 Z = true) (ws : List Jvm.Cond) (p0 : Int32) (h0 : Heap) (n0 : Nat) (Z0 : n0 ≤ h0.size)  :
    own_Cw l Z (⟨"java/lang/Integer", "numberOfTrailingZeros", "(I)I"⟩ : MethodName) jdk_33_method_48_code 2 (some .int) ws (own_rr 0 0 0 0) #[(.int p0)] h0 (Qnti Z p0 h0 n0) := by
  refine own_body (plainFor_of_name pn_java_lang_Integer) ?_
  intro p e s m below meth c s₁ hx hby hml hZ hown hnm hret hlk X0 e0
  have N0 := Fr.nil n0
  refine own_go (fun t k => castTop (ef_nti m p0) k) ?_
  refine si X0 hx (dx hby dd51 0) ?_
  refine sc X0 hx (dx hby dd51 1) ?_
  refine og (XS.ixor X0.here hx rfl (dx hby dd51 2) rfl) ?_
  refine si X0 hx (dx hby dd51 3) ?_
  refine sc X0 hx (dx hby dd51 4) ?_
  refine og (XS.isub X0.here hx rfl (dx hby dd51 5) rfl) ?_
  refine og (XS.iand X0.here hx rfl (dx hby dd51 6) rfl) ?_
  refine og (XS.istoreN X0.here hx rfl (dx hby dd51 7) rfl (l' := #[vI ((p0 ^^^ (-1 : Int32)) &&& (p0 - (1 : Int32))), vU]) rfl) ?_
  show own_Gl _ _ _ _ (s₁.setTop (mkF m 8 #[vI ((p0 ^^^ (-1 : Int32)) &&& (p0 - (1 : Int32))), vU] []))
  obtain ⟨x41, en_x41⟩ : ∃ z, z = ((p0 ^^^ (-1 : Int32)) &&& (p0 - (1 : Int32))) := ⟨_, rfl⟩
  rw [← en_x41]
  refine si X0 hx (dx hby dd51 8) ?_
  by_cases hc9_42 : (0 : Int32) < x41
  · refine og (XS.ifYes X0.here hx rfl (pc0 := 9) (pc' := 17) rfl (dx hby dd51 9) rfl ((if0 _ _).trans (tlt hc9_42).2.2.1) (by decide) (by decide)) ?_
    refine sc X0 hx (dx hby dd51 14) ?_
    refine og (XS.istoreN X0.here hx rfl (dx hby dd51 15) rfl (l' := #[vI x41, vI (1 : Int32)]) rfl) ?_
    refine si X0 hx (dx hby dd51 16) ?_
    show own_Gl _ _ _ _ (s₁.setTop (mkF m 20 #[vI x41, vI (1 : Int32)] [(.int x41)]))
    refine og (X0.ldcwInt hx hown (mvT hZ (wx hw 364)) (g := (mkF m 20 #[vI x41, vI (1 : Int32)] [(.int x41)])) rfl (dx hby dd51 17) _) ?_
    refine own_jn (S := (s₁.setTop (mkF m 34 #[vI (if (65536 : Int32) < x41 then ((x41.toUInt32 >>> ((16 : Int32) &&& 31).toUInt32).toInt32) else x41), vI (if (65536 : Int32) < x41 then (17 : Int32) else (1 : Int32))] []))) ?_ (fun J43 => ?_)
    · show own_Gl _ _ _ _ (s₁.setTop (mkF m 34 #[vI (if (65536 : Int32) < x41 then ((x41.toUInt32 >>> ((16 : Int32) &&& 31).toUInt32).toInt32) else x41), vI (if (65536 : Int32) < x41 then (17 : Int32) else (1 : Int32))] []))
      obtain ⟨x44, en_x44⟩ : ∃ z, z = (if (65536 : Int32) < x41 then ((x41.toUInt32 >>> ((16 : Int32) &&& 31).toUInt32).toInt32) else x41) := ⟨_, rfl⟩
      rw [← en_x44]
      show own_Gl _ _ _ _ (s₁.setTop (mkF m 34 #[vI x44, vI (if (65536 : Int32) < x41 then (17 : Int32) else (1 : Int32))] []))
      obtain ⟨x45, en_x45⟩ : ∃ z, z = (if (65536 : Int32) < x41 then (17 : Int32) else (1 : Int32)) := ⟨_, rfl⟩
      rw [← en_x45]
      refine si X0 hx (dx hby dd51 24) ?_
      refine og (XS.sipush X0.here hx rfl (dx hby dd51 25)) ?_
      refine own_jn (S := (s₁.setTop (mkF m 49 #[vI (if (256 : Int32) < x44 then ((x44.toUInt32 >>> ((8 : Int32) &&& 31).toUInt32).toInt32) else x44), vI (if (256 : Int32) < x44 then (x45 + (8 : Int32)) else x45)] []))) ?_ (fun J46 => ?_)
      · show own_Gl _ _ _ _ (s₁.setTop (mkF m 49 #[vI (if (256 : Int32) < x44 then ((x44.toUInt32 >>> ((8 : Int32) &&& 31).toUInt32).toInt32) else x44), vI (if (256 : Int32) < x44 then (x45 + (8 : Int32)) else x45)] []))
        obtain ⟨x47, en_x47⟩ : ∃ z, z = (if (256 : Int32) < x44 then ((x44.toUInt32 >>> ((8 : Int32) &&& 31).toUInt32).toInt32) else x44) := ⟨_, rfl⟩
        rw [← en_x47]
        show own_Gl _ _ _ _ (s₁.setTop (mkF m 49 #[vI x47, vI (if (256 : Int32) < x44 then (x45 + (8 : Int32)) else x45)] []))
        obtain ⟨x48, en_x48⟩ : ∃ z, z = (if (256 : Int32) < x44 then (x45 + (8 : Int32)) else x45) := ⟨_, rfl⟩
        rw [← en_x48]
        refine si X0 hx (dx hby dd51 32) ?_
        refine og (XS.bipush X0.here hx rfl (dx hby dd51 33)) ?_
        refine own_jn (S := (s₁.setTop (mkF m 62 #[vI (if (16 : Int32) < x47 then ((x47.toUInt32 >>> ((4 : Int32) &&& 31).toUInt32).toInt32) else x47), vI (if (16 : Int32) < x47 then (x48 + (4 : Int32)) else x48)] []))) ?_ (fun J49 => ?_)
        · show own_Gl _ _ _ _ (s₁.setTop (mkF m 62 #[vI (if (16 : Int32) < x47 then ((x47.toUInt32 >>> ((4 : Int32) &&& 31).toUInt32).toInt32) else x47), vI (if (16 : Int32) < x47 then (x48 + (4 : Int32)) else x48)] []))
          obtain ⟨x50, en_x50⟩ : ∃ z, z = (if (16 : Int32) < x47 then ((x47.toUInt32 >>> ((4 : Int32) &&& 31).toUInt32).toInt32) else x47) := ⟨_, rfl⟩
          rw [← en_x50]
          show own_Gl _ _ _ _ (s₁.setTop (mkF m 62 #[vI x50, vI (if (16 : Int32) < x47 then (x48 + (4 : Int32)) else x48)] []))
          obtain ⟨x51, en_x51⟩ : ∃ z, z = (if (16 : Int32) < x47 then (x48 + (4 : Int32)) else x48) := ⟨_, rfl⟩
          rw [← en_x51]
          refine si X0 hx (dx hby dd51 40) ?_
          refine sc X0 hx (dx hby dd51 41) ?_
          refine own_jn (S := (s₁.setTop (mkF m 74 #[vI (if (4 : Int32) < x50 then ((x50.toUInt32 >>> ((2 : Int32) &&& 31).toUInt32).toInt32) else x50), vI (if (4 : Int32) < x50 then (x51 + (2 : Int32)) else x51)] []))) ?_ (fun J52 => ?_)
          · show own_Gl _ _ _ _ (s₁.setTop (mkF m 74 #[vI (if (4 : Int32) < x50 then ((x50.toUInt32 >>> ((2 : Int32) &&& 31).toUInt32).toInt32) else x50), vI (if (4 : Int32) < x50 then (x51 + (2 : Int32)) else x51)] []))
            obtain ⟨x53, en_x53⟩ : ∃ z, z = (if (4 : Int32) < x50 then ((x50.toUInt32 >>> ((2 : Int32) &&& 31).toUInt32).toInt32) else x50) := ⟨_, rfl⟩
            rw [← en_x53]
            show own_Gl _ _ _ _ (s₁.setTop (mkF m 74 #[vI x53, vI (if (4 : Int32) < x50 then (x51 + (2 : Int32)) else x51)] []))
            obtain ⟨x54, en_x54⟩ : ∃ z, z = (if (4 : Int32) < x50 then (x51 + (2 : Int32)) else x51) := ⟨_, rfl⟩
            rw [← en_x54]
            refine si X0 hx (dx hby dd51 48) ?_
            refine si X0 hx (dx hby dd51 49) ?_
            refine sc X0 hx (dx hby dd51 50) ?_
            refine og (XS.iushr X0.here hx rfl (dx hby dd51 51) rfl) ?_
            refine og (XS.iadd X0.here hx rfl (dx hby dd51 52) rfl) ?_
            subst en_x54
            subst en_x53
            subst en_x51
            subst en_x50
            subst en_x48
            subst en_x47
            subst en_x45
            subst en_x44
            subst en_x41
            exact own_retW X0 hx hret hlk rfl (Or.inl ⟨rfl, Or.inl rfl, _, rfl⟩) (dx hby dd51 53) e0 (by decide) (by decide) ⟨N0, (by rw [fnti, if_pos hc9_42] <;> rfl), rfl⟩
          · by_cases hc64_55 : (4 : Int32) < x50
            · refine og (XS.icmpNo X0.here hx rfl (dx hby dd51 42) rfl (tlt hc64_55).2.2.2) ?_
              refine og (XS.iinc X0.here hx rfl (dx hby dd51 43) rfl (l' := #[vI x50, vI (x51 + (2 : Int32))]) rfl) ?_
              refine si X0 hx (dx hby dd51 44) ?_
              refine sc X0 hx (dx hby dd51 45) ?_
              refine og (XS.iushr X0.here hx rfl (dx hby dd51 46) rfl) ?_
              refine og (XS.istoreN X0.here hx rfl (dx hby dd51 47) rfl (l' := #[vI ((x50.toUInt32 >>> ((2 : Int32) &&& 31).toUInt32).toInt32), vI (x51 + (2 : Int32))]) rfl) ?_
              show own_Gl _ _ _ _ (s₁.setTop (mkF m 74 #[vI ((x50.toUInt32 >>> ((2 : Int32) &&& 31).toUInt32).toInt32), vI (x51 + (2 : Int32))] []))
              simp only [if_pos hc64_55] at J52
              exact J52
            · refine og (XS.icmpYes X0.here hx rfl (pc0 := 64) (pc' := 74) rfl (dx hby dd51 42) rfl (flt hc64_55).2.2.2 (by decide) (by decide)) ?_
              show own_Gl _ _ _ _ (s₁.setTop (mkF m 74 #[vI x50, vI x51] []))
              simp only [if_neg hc64_55] at J52
              exact J52
        · by_cases hc52_56 : (16 : Int32) < x47
          · refine og (XS.icmpNo X0.here hx rfl (dx hby dd51 34) rfl (tlt hc52_56).2.2.2) ?_
            refine og (XS.iinc X0.here hx rfl (dx hby dd51 35) rfl (l' := #[vI x47, vI (x48 + (4 : Int32))]) rfl) ?_
            refine si X0 hx (dx hby dd51 36) ?_
            refine sc X0 hx (dx hby dd51 37) ?_
            refine og (XS.iushr X0.here hx rfl (dx hby dd51 38) rfl) ?_
            refine og (XS.istoreN X0.here hx rfl (dx hby dd51 39) rfl (l' := #[vI ((x47.toUInt32 >>> ((4 : Int32) &&& 31).toUInt32).toInt32), vI (x48 + (4 : Int32))]) rfl) ?_
            show own_Gl _ _ _ _ (s₁.setTop (mkF m 62 #[vI ((x47.toUInt32 >>> ((4 : Int32) &&& 31).toUInt32).toInt32), vI (x48 + (4 : Int32))] []))
            simp only [if_pos hc52_56] at J49
            exact J49
          · refine og (XS.icmpYes X0.here hx rfl (pc0 := 52) (pc' := 62) rfl (dx hby dd51 34) rfl (flt hc52_56).2.2.2 (by decide) (by decide)) ?_
            show own_Gl _ _ _ _ (s₁.setTop (mkF m 62 #[vI x47, vI x48] []))
            simp only [if_neg hc52_56] at J49
            exact J49
      · by_cases hc38_57 : (256 : Int32) < x44
        · refine og (XS.icmpNo X0.here hx rfl (dx hby dd51 26) rfl (tlt hc38_57).2.2.2) ?_
          refine og (XS.iinc X0.here hx rfl (dx hby dd51 27) rfl (l' := #[vI x44, vI (x45 + (8 : Int32))]) rfl) ?_
          refine si X0 hx (dx hby dd51 28) ?_
          refine og (XS.bipush X0.here hx rfl (dx hby dd51 29)) ?_
          refine og (XS.iushr X0.here hx rfl (dx hby dd51 30) rfl) ?_
          refine og (XS.istoreN X0.here hx rfl (dx hby dd51 31) rfl (l' := #[vI ((x44.toUInt32 >>> ((8 : Int32) &&& 31).toUInt32).toInt32), vI (x45 + (8 : Int32))]) rfl) ?_
          show own_Gl _ _ _ _ (s₁.setTop (mkF m 49 #[vI ((x44.toUInt32 >>> ((8 : Int32) &&& 31).toUInt32).toInt32), vI (x45 + (8 : Int32))] []))
          simp only [if_pos hc38_57] at J46
          exact J46
        · refine og (XS.icmpYes X0.here hx rfl (pc0 := 38) (pc' := 49) rfl (dx hby dd51 26) rfl (flt hc38_57).2.2.2 (by decide) (by decide)) ?_
          show own_Gl _ _ _ _ (s₁.setTop (mkF m 49 #[vI x44, vI x45] []))
          simp only [if_neg hc38_57] at J46
          exact J46
    · by_cases hc23_58 : (65536 : Int32) < x41
      · refine og (XS.icmpNo X0.here hx rfl (dx hby dd51 18) rfl (tlt hc23_58).2.2.2) ?_
        refine og (XS.iinc X0.here hx rfl (dx hby dd51 19) rfl (l' := #[vI x41, vI (17 : Int32)]) rfl) ?_
        refine si X0 hx (dx hby dd51 20) ?_
        refine og (XS.bipush X0.here hx rfl (dx hby dd51 21)) ?_
        refine og (XS.iushr X0.here hx rfl (dx hby dd51 22) rfl) ?_
        refine og (XS.istoreN X0.here hx rfl (dx hby dd51 23) rfl (l' := #[vI ((x41.toUInt32 >>> ((16 : Int32) &&& 31).toUInt32).toInt32), vI (17 : Int32)]) rfl) ?_
        show own_Gl _ _ _ _ (s₁.setTop (mkF m 34 #[vI ((x41.toUInt32 >>> ((16 : Int32) &&& 31).toUInt32).toInt32), vI (17 : Int32)] []))
        simp only [if_pos hc23_58] at J43
        exact J43
      · refine og (XS.icmpYes X0.here hx rfl (pc0 := 23) (pc' := 34) rfl (dx hby dd51 18) rfl (flt hc23_58).2.2.2 (by decide) (by decide)) ?_
        show own_Gl _ _ _ _ (s₁.setTop (mkF m 34 #[vI x41, vI (1 : Int32)] []))
        simp only [if_neg hc23_58] at J43
        exact J43
  · refine og (XS.ifNo X0.here hx rfl (dx hby dd51 9) rfl ((if0 _ _).trans (flt hc9_42).2.2.1)) ?_
    refine si X0 hx (dx hby dd51 10) ?_
    refine og (XS.bipush X0.here hx rfl (dx hby dd51 11)) ?_
    refine og (XS.iand X0.here hx rfl (dx hby dd51 12) rfl) ?_
    subst en_x41
    exact own_retW X0 hx hret hlk rfl (Or.inl ⟨rfl, Or.inl rfl, _, rfl⟩) (dx hby dd51 13) e0 (by decide) (by decide) ⟨N0, (by rw [fnti, if_neg hc9_42] <;> rfl), rfl⟩
theorem dd50 : own_dec jdk_35_method_49_code [(0, .lload_n 0, 1), (1, .l2i, 1), (2, .istore_n 2, 1), (3, .iload_n 2, 1), (4, .ifCond .ne 17, 3), (7, .bipush 32, 2), (9, .lload_n 0, 1), (10, .bipush 32, 2), (12, .lushr, 1), (13, .l2i, 1), (14, .invokestatic 311, 3), (17, .iadd, 1), (18, .goto 7, 3), (21, .iload_n 2, 1), (22, .invokestatic 311, 3), (25, .ireturn, 1)] := by unfold own_dec; decide +kernel
theorem pn_java_lang_Long : plainName "java/lang/Long" = true := by first | (simp [plainName, overriddenIn]; done) | decide +kernel
theorem ef_ntl (m : MethodId) (q0 : Int64) : entryFrame m #[(.long q0)] 3 = mkF m 0 #[.val (.long q0), .second, vU] [] := by first | (simp [entryFrame, mkF, argsToLocals, Value.category, vI, vR, vU]; done) | rfl
theorem pd_2 : parseMethodDescriptor "(I)I" = some ⟨[.int], some .int⟩ := by decide +kernel
def fntl (q0 : Int64) : Int32 := (if (q0.toInt32) = (0 : Int32) then ((32 : Int32) + (fnti (((q0.toUInt64 >>> ((32 : Int32) &&& 0x3f).toInt64.toUInt64).toInt64).toInt32))) else (fnti (q0.toInt32)))
def Qntl (Z : State) (q0 : Int64) (h0 : Heap) (n0 : Nat) (v : Option Value) (h : Heap) (L : List Loc) : Prop := Fr n0 L ∧ v = some (.int (fntl q0)) ∧ h = h0
set_option maxRecDepth 65536 in
set_option maxHeartbeats 40000000 in
theorem rmntl (l : Launch) (Z : State) (a0 : Array Value) (hw : ∀ d ∈ tables_1, d.before a0 Z = true) (ws : List Jvm.Cond) (q0 : Int64) (h0 : Heap) (n0 : Nat) (Z0 : n0 ≤ h0.size)  :
    own_Cw l Z (⟨"java/lang/Long", "numberOfTrailingZeros", "(J)I"⟩ : MethodName) jdk_35_method_49_code 3 (some .int) ws (own_rr 1 0 0 14) #[(.long q0)] h0 (Qntl Z q0 h0 n0) := by
  refine own_body (plainFor_of_name pn_java_lang_Long) ?_
  intro p e s m below meth c s₁ hx hby hml hZ hown hnm hret hlk X0 e0
  have N0 := Fr.nil n0
  refine own_go (fun t k => castTop (ef_ntl m q0) k) ?_
  refine og (XS.lloadN X0.here hx rfl (dx hby dd50 0) rfl) ?_
  show own_Gl _ _ _ _ (s₁.setTop (mkF m 1 #[.val (.long q0), .second, vU] [(.long q0)]))
  refine og (XS.l2i X0.here hx rfl (dx hby dd50 1) rfl) ?_
  refine og (XS.istoreN X0.here hx rfl (dx hby dd50 2) rfl (l' := #[.val (.long q0), .second, vI (q0.toInt32)]) rfl) ?_
  refine si X0 hx (dx hby dd50 3) ?_
  by_cases hc4_41 : (q0.toInt32) = (0 : Int32)
  · refine og (XS.ifNo X0.here hx rfl (dx hby dd50 4) rfl ((if0 _ _).trans (teq hc4_41).2)) ?_
    refine og (XS.bipush X0.here hx rfl (dx hby dd50 5)) ?_
    refine og (XS.lloadN X0.here hx rfl (dx hby dd50 6) rfl) ?_
    refine og (XS.bipush X0.here hx rfl (dx hby dd50 7)) ?_
    refine og (XS.lushr X0.here hx rfl (dx hby dd50 8) rfl) ?_
    refine og (XS.l2i X0.here hx rfl (dx hby dd50 9) rfl) ?_
    refine oc_static X0 hx hZ hown (wx hw 361) (wx hw 362) (wx hw 37) (wx hw 363) (by decide) (W := 1) (rmnti l Z a0 hw [] (((q0.toUInt64 >>> ((32 : Int32) &&& 0x3f).toInt64.toUInt64).toInt64).toInt32) h0 n0 Z0 ) (by decide) (by decide) (argsL := [(.int (((q0.toUInt64 >>> ((32 : Int32) &&& 0x3f).toInt64.toUInt64).toInt64).toInt32))]) (rest := [(.int (32 : Int32))]) (by rw [hml]; rfl) (lenOf pd_2 rfl) rfl (Nat.le_of_eq rfl) (dx hby dd50 10) rfl e0 (by decide) (by decide) (fun v42 T42 Lc42 hQ42 X42 => ?_)
    obtain ⟨N42q, rfl, hq42⟩ := hQ42
    have N42 := Fr.app N0 N42q
    refine og (XS.iadd X42.here hx rfl (dx hby dd50 11) rfl) ?_
    refine og (XS.goto X42.here hx rfl (pc0 := 18) (pc' := 25) rfl (dx hby dd50 12) (by decide) (by decide)) ?_
    show own_Gl _ _ _ _ (T42.setTop (mkF m 25 #[.val (.long q0), .second, vI (q0.toInt32)] [(.int ((32 : Int32) + (fnti (((q0.toUInt64 >>> ((32 : Int32) &&& 0x3f).toInt64.toUInt64).toInt64).toInt32))))]))
    exact own_retW X42 hx hret hlk rfl (Or.inl ⟨rfl, Or.inl rfl, _, rfl⟩) (dx hby dd50 15) hq42 (by decide) (by decide) ⟨N42, by rw [fntl, if_pos hc4_41], rfl⟩
  · refine og (XS.ifYes X0.here hx rfl (pc0 := 4) (pc' := 21) rfl (dx hby dd50 4) rfl ((if0 _ _).trans (feq hc4_41).2) (by decide) (by decide)) ?_
    refine si X0 hx (dx hby dd50 13) ?_
    refine oc_static X0 hx hZ hown (wx hw 361) (wx hw 362) (wx hw 37) (wx hw 363) (by decide) (W := 0) (rmnti l Z a0 hw [] (q0.toInt32) h0 n0 Z0 ) (by decide) (by decide) (argsL := [(.int (q0.toInt32))]) (rest := []) (by rw [hml]; rfl) (lenOf pd_2 rfl) rfl (Nat.le_of_eq rfl) (dx hby dd50 14) rfl e0 (by decide) (by decide) (fun v43 T43 Lc43 hQ43 X43 => ?_)
    obtain ⟨N43q, rfl, hq43⟩ := hQ43
    have N43 := Fr.app N0 N43q
    show own_Gl _ _ _ _ (T43.setTop (mkF m 25 #[.val (.long q0), .second, vI (q0.toInt32)] [(.int (fnti (q0.toInt32)))]))
    exact own_retW X43 hx hret hlk rfl (Or.inl ⟨rfl, Or.inl rfl, _, rfl⟩) (dx hby dd50 15) hq43 (by decide) (by decide) ⟨N43, by rw [fntl, if_neg hc4_41], rfl⟩
theorem dd64 : own_dec jdk_33_method_47_code [(0, .iload_n 0, 1), (1, .ifCond .gt 14, 3), (4, .iload_n 0, 1), (5, .ifCond .ne 8, 3), (8, .bipush 32, 2), (10, .goto 4, 3), (13, .iconst 0, 1), (14, .ireturn, 1), (15, .bipush 31, 2), (17, .istore_n 1, 1), (18, .iload_n 0, 1), (19, .ldc_w 264, 3), (22, .if_icmp .lt 11, 3), (25, .iinc 1 (-16), 3), (28, .iload_n 0, 1), (29, .bipush 16, 2), (31, .iushr, 1), (32, .istore_n 0, 1), (33, .iload_n 0, 1), (34, .sipush 256, 3), (37, .if_icmp .lt 11, 3), (40, .iinc 1 (-8), 3), (43, .iload_n 0, 1), (44, .bipush 8, 2), (46, .iushr, 1), (47, .istore_n 0, 1), (48, .iload_n 0, 1), (49, .bipush 16, 2), (51, .if_icmp .lt 10, 3), (54, .iinc 1 (-4), 3), (57, .iload_n 0, 1), (58, .iconst 4, 1), (59, .iushr, 1), (60, .istore_n 0, 1), (61, .iload_n 0, 1), (62, .iconst 4, 1), (63, .if_icmp .lt 10, 3), (66, .iinc 1 (-2), 3), (69, .iload_n 0, 1), (70, .iconst 2, 1), (71, .iushr, 1), (72, .istore_n 0, 1), (73, .iload_n 1, 1), (74, .iload_n 0, 1), (75, .iconst 1, 1), (76, .iushr, 1), (77, .isub, 1), (78, .ireturn, 1)] := by unfold own_dec; decide +kernel
theorem ef_nli (m : MethodId) (p0 : Int32) : entryFrame m #[(.int p0)] 2 = mkF m 0 #[vI p0, vU] [] := by first | (simp [entryFrame, mkF, argsToLocals, Value.category, vI, vR, vU]; done) | rfl
def Qnli (Z : State) (p0 : Int32) (h0 : Heap) (n0 : Nat) (v : Option Value) (h : Heap) (L : List Loc) : Prop := Fr n0 L ∧ v = some (.int (fnli p0)) ∧ h = h0
set_option maxRecDepth 65536 in
set_option maxHeartbeats 40000000 in
theorem rmnli (l : Launch) (Z : State) (a0 : Array Value) (hw : ∀ d ∈ tables_1, d.before a0 Z = true) (ws : List Jvm.Cond) (p0 : Int32) (h0 : Heap) (n0 : Nat) (Z0 : n0 ≤ h0.size)  :
    own_Cw l Z (⟨"java/lang/Integer", "numberOfLeadingZeros", "(I)I"⟩ : MethodName) jdk_33_method_47_code 2 (some .int) ws (own_rr 0 0 0 0) #[(.int p0)] h0 (Qnli Z p0 h0 n0) := by
  refine own_body (plainFor_of_name pn_java_lang_Integer) ?_
  intro p e s m below meth c s₁ hx hby hml hZ hown hnm hret hlk X0 e0
  have N0 := Fr.nil n0
  refine own_go (fun t k => castTop (ef_nli m p0) k) ?_
  refine si X0 hx (dx hby dd64 0) ?_
  by_cases hc1_41 : (0 : Int32) < p0
  · refine og (XS.ifYes X0.here hx rfl (pc0 := 1) (pc' := 15) rfl (dx hby dd64 1) rfl ((if0 _ _).trans (tlt hc1_41).2.2.1) (by decide) (by decide)) ?_
    refine og (XS.bipush X0.here hx rfl (dx hby dd64 8)) ?_
    refine og (XS.istoreN X0.here hx rfl (dx hby dd64 9) rfl (l' := #[vI p0, vI (31 : Int32)]) rfl) ?_
    refine si X0 hx (dx hby dd64 10) ?_
    show own_Gl _ _ _ _ (s₁.setTop (mkF m 19 #[vI p0, vI (31 : Int32)] [(.int p0)]))
    refine og (X0.ldcwInt hx hown (mvT hZ (wx hw 364)) (g := (mkF m 19 #[vI p0, vI (31 : Int32)] [(.int p0)])) rfl (dx hby dd64 11) _) ?_
    refine own_jn (S := (s₁.setTop (mkF m 33 #[vI (if p0 < (65536 : Int32) then p0 else ((p0.toUInt32 >>> ((16 : Int32) &&& 31).toUInt32).toInt32)), vI (if p0 < (65536 : Int32) then (31 : Int32) else (15 : Int32))] []))) ?_ (fun J42 => ?_)
    · show own_Gl _ _ _ _ (s₁.setTop (mkF m 33 #[vI (if p0 < (65536 : Int32) then p0 else ((p0.toUInt32 >>> ((16 : Int32) &&& 31).toUInt32).toInt32)), vI (if p0 < (65536 : Int32) then (31 : Int32) else (15 : Int32))] []))
      obtain ⟨x43, en_x43⟩ : ∃ z, z = (if p0 < (65536 : Int32) then p0 else ((p0.toUInt32 >>> ((16 : Int32) &&& 31).toUInt32).toInt32)) := ⟨_, rfl⟩
      rw [← en_x43]
      show own_Gl _ _ _ _ (s₁.setTop (mkF m 33 #[vI x43, vI (if p0 < (65536 : Int32) then (31 : Int32) else (15 : Int32))] []))
      obtain ⟨x44, en_x44⟩ : ∃ z, z = (if p0 < (65536 : Int32) then (31 : Int32) else (15 : Int32)) := ⟨_, rfl⟩
      rw [← en_x44]
      refine si X0 hx (dx hby dd64 18) ?_
      refine og (XS.sipush X0.here hx rfl (dx hby dd64 19)) ?_
      refine own_jn (S := (s₁.setTop (mkF m 48 #[vI (if x43 < (256 : Int32) then x43 else ((x43.toUInt32 >>> ((8 : Int32) &&& 31).toUInt32).toInt32)), vI (if x43 < (256 : Int32) then x44 else (x44 + (-8 : Int32)))] []))) ?_ (fun J45 => ?_)
      · show own_Gl _ _ _ _ (s₁.setTop (mkF m 48 #[vI (if x43 < (256 : Int32) then x43 else ((x43.toUInt32 >>> ((8 : Int32) &&& 31).toUInt32).toInt32)), vI (if x43 < (256 : Int32) then x44 else (x44 + (-8 : Int32)))] []))
        obtain ⟨x46, en_x46⟩ : ∃ z, z = (if x43 < (256 : Int32) then x43 else ((x43.toUInt32 >>> ((8 : Int32) &&& 31).toUInt32).toInt32)) := ⟨_, rfl⟩
        rw [← en_x46]
        show own_Gl _ _ _ _ (s₁.setTop (mkF m 48 #[vI x46, vI (if x43 < (256 : Int32) then x44 else (x44 + (-8 : Int32)))] []))
        obtain ⟨x47, en_x47⟩ : ∃ z, z = (if x43 < (256 : Int32) then x44 else (x44 + (-8 : Int32))) := ⟨_, rfl⟩
        rw [← en_x47]
        refine si X0 hx (dx hby dd64 26) ?_
        refine og (XS.bipush X0.here hx rfl (dx hby dd64 27)) ?_
        refine own_jn (S := (s₁.setTop (mkF m 61 #[vI (if x46 < (16 : Int32) then x46 else ((x46.toUInt32 >>> ((4 : Int32) &&& 31).toUInt32).toInt32)), vI (if x46 < (16 : Int32) then x47 else (x47 + (-4 : Int32)))] []))) ?_ (fun J48 => ?_)
        · show own_Gl _ _ _ _ (s₁.setTop (mkF m 61 #[vI (if x46 < (16 : Int32) then x46 else ((x46.toUInt32 >>> ((4 : Int32) &&& 31).toUInt32).toInt32)), vI (if x46 < (16 : Int32) then x47 else (x47 + (-4 : Int32)))] []))
          obtain ⟨x49, en_x49⟩ : ∃ z, z = (if x46 < (16 : Int32) then x46 else ((x46.toUInt32 >>> ((4 : Int32) &&& 31).toUInt32).toInt32)) := ⟨_, rfl⟩
          rw [← en_x49]
          show own_Gl _ _ _ _ (s₁.setTop (mkF m 61 #[vI x49, vI (if x46 < (16 : Int32) then x47 else (x47 + (-4 : Int32)))] []))
          obtain ⟨x50, en_x50⟩ : ∃ z, z = (if x46 < (16 : Int32) then x47 else (x47 + (-4 : Int32))) := ⟨_, rfl⟩
          rw [← en_x50]
          refine si X0 hx (dx hby dd64 34) ?_
          refine sc X0 hx (dx hby dd64 35) ?_
          refine own_jn (S := (s₁.setTop (mkF m 73 #[vI (if x49 < (4 : Int32) then x49 else ((x49.toUInt32 >>> ((2 : Int32) &&& 31).toUInt32).toInt32)), vI (if x49 < (4 : Int32) then x50 else (x50 + (-2 : Int32)))] []))) ?_ (fun J51 => ?_)
          · show own_Gl _ _ _ _ (s₁.setTop (mkF m 73 #[vI (if x49 < (4 : Int32) then x49 else ((x49.toUInt32 >>> ((2 : Int32) &&& 31).toUInt32).toInt32)), vI (if x49 < (4 : Int32) then x50 else (x50 + (-2 : Int32)))] []))
            obtain ⟨x52, en_x52⟩ : ∃ z, z = (if x49 < (4 : Int32) then x49 else ((x49.toUInt32 >>> ((2 : Int32) &&& 31).toUInt32).toInt32)) := ⟨_, rfl⟩
            rw [← en_x52]
            show own_Gl _ _ _ _ (s₁.setTop (mkF m 73 #[vI x52, vI (if x49 < (4 : Int32) then x50 else (x50 + (-2 : Int32)))] []))
            obtain ⟨x53, en_x53⟩ : ∃ z, z = (if x49 < (4 : Int32) then x50 else (x50 + (-2 : Int32))) := ⟨_, rfl⟩
            rw [← en_x53]
            refine si X0 hx (dx hby dd64 42) ?_
            refine si X0 hx (dx hby dd64 43) ?_
            refine sc X0 hx (dx hby dd64 44) ?_
            refine og (XS.iushr X0.here hx rfl (dx hby dd64 45) rfl) ?_
            refine og (XS.isub X0.here hx rfl (dx hby dd64 46) rfl) ?_
            subst en_x53
            subst en_x52
            subst en_x50
            subst en_x49
            subst en_x47
            subst en_x46
            subst en_x44
            subst en_x43
            exact own_retW X0 hx hret hlk rfl (Or.inl ⟨rfl, Or.inl rfl, _, rfl⟩) (dx hby dd64 47) e0 (by decide) (by decide) ⟨N0, (by rw [fnli, if_pos hc1_41] <;> rfl), rfl⟩
          · by_cases hc63_54 : x49 < (4 : Int32)
            · refine og (XS.icmpYes X0.here hx rfl (pc0 := 63) (pc' := 73) rfl (dx hby dd64 36) rfl (tlt hc63_54).1 (by decide) (by decide)) ?_
              show own_Gl _ _ _ _ (s₁.setTop (mkF m 73 #[vI x49, vI x50] []))
              simp only [if_pos hc63_54] at J51
              exact J51
            · refine og (XS.icmpNo X0.here hx rfl (dx hby dd64 36) rfl (flt hc63_54).1) ?_
              refine og (XS.iinc X0.here hx rfl (dx hby dd64 37) rfl (l' := #[vI x49, vI (x50 + (-2 : Int32))]) rfl) ?_
              refine si X0 hx (dx hby dd64 38) ?_
              refine sc X0 hx (dx hby dd64 39) ?_
              refine og (XS.iushr X0.here hx rfl (dx hby dd64 40) rfl) ?_
              refine og (XS.istoreN X0.here hx rfl (dx hby dd64 41) rfl (l' := #[vI ((x49.toUInt32 >>> ((2 : Int32) &&& 31).toUInt32).toInt32), vI (x50 + (-2 : Int32))]) rfl) ?_
              show own_Gl _ _ _ _ (s₁.setTop (mkF m 73 #[vI ((x49.toUInt32 >>> ((2 : Int32) &&& 31).toUInt32).toInt32), vI (x50 + (-2 : Int32))] []))
              simp only [if_neg hc63_54] at J51
              exact J51
        · by_cases hc51_55 : x46 < (16 : Int32)
          · refine og (XS.icmpYes X0.here hx rfl (pc0 := 51) (pc' := 61) rfl (dx hby dd64 28) rfl (tlt hc51_55).1 (by decide) (by decide)) ?_
            show own_Gl _ _ _ _ (s₁.setTop (mkF m 61 #[vI x46, vI x47] []))
            simp only [if_pos hc51_55] at J48
            exact J48
          · refine og (XS.icmpNo X0.here hx rfl (dx hby dd64 28) rfl (flt hc51_55).1) ?_
            refine og (XS.iinc X0.here hx rfl (dx hby dd64 29) rfl (l' := #[vI x46, vI (x47 + (-4 : Int32))]) rfl) ?_
            refine si X0 hx (dx hby dd64 30) ?_
            refine sc X0 hx (dx hby dd64 31) ?_
            refine og (XS.iushr X0.here hx rfl (dx hby dd64 32) rfl) ?_
            refine og (XS.istoreN X0.here hx rfl (dx hby dd64 33) rfl (l' := #[vI ((x46.toUInt32 >>> ((4 : Int32) &&& 31).toUInt32).toInt32), vI (x47 + (-4 : Int32))]) rfl) ?_
            show own_Gl _ _ _ _ (s₁.setTop (mkF m 61 #[vI ((x46.toUInt32 >>> ((4 : Int32) &&& 31).toUInt32).toInt32), vI (x47 + (-4 : Int32))] []))
            simp only [if_neg hc51_55] at J48
            exact J48
      · by_cases hc37_56 : x43 < (256 : Int32)
        · refine og (XS.icmpYes X0.here hx rfl (pc0 := 37) (pc' := 48) rfl (dx hby dd64 20) rfl (tlt hc37_56).1 (by decide) (by decide)) ?_
          show own_Gl _ _ _ _ (s₁.setTop (mkF m 48 #[vI x43, vI x44] []))
          simp only [if_pos hc37_56] at J45
          exact J45
        · refine og (XS.icmpNo X0.here hx rfl (dx hby dd64 20) rfl (flt hc37_56).1) ?_
          refine og (XS.iinc X0.here hx rfl (dx hby dd64 21) rfl (l' := #[vI x43, vI (x44 + (-8 : Int32))]) rfl) ?_
          refine si X0 hx (dx hby dd64 22) ?_
          refine og (XS.bipush X0.here hx rfl (dx hby dd64 23)) ?_
          refine og (XS.iushr X0.here hx rfl (dx hby dd64 24) rfl) ?_
          refine og (XS.istoreN X0.here hx rfl (dx hby dd64 25) rfl (l' := #[vI ((x43.toUInt32 >>> ((8 : Int32) &&& 31).toUInt32).toInt32), vI (x44 + (-8 : Int32))]) rfl) ?_
          show own_Gl _ _ _ _ (s₁.setTop (mkF m 48 #[vI ((x43.toUInt32 >>> ((8 : Int32) &&& 31).toUInt32).toInt32), vI (x44 + (-8 : Int32))] []))
          simp only [if_neg hc37_56] at J45
          exact J45
    · by_cases hc22_57 : p0 < (65536 : Int32)
      · refine og (XS.icmpYes X0.here hx rfl (pc0 := 22) (pc' := 33) rfl (dx hby dd64 12) rfl (tlt hc22_57).1 (by decide) (by decide)) ?_
        show own_Gl _ _ _ _ (s₁.setTop (mkF m 33 #[vI p0, vI (31 : Int32)] []))
        simp only [if_pos hc22_57] at J42
        exact J42
      · refine og (XS.icmpNo X0.here hx rfl (dx hby dd64 12) rfl (flt hc22_57).1) ?_
        refine og (XS.iinc X0.here hx rfl (dx hby dd64 13) rfl (l' := #[vI p0, vI (15 : Int32)]) rfl) ?_
        refine si X0 hx (dx hby dd64 14) ?_
        refine og (XS.bipush X0.here hx rfl (dx hby dd64 15)) ?_
        refine og (XS.iushr X0.here hx rfl (dx hby dd64 16) rfl) ?_
        refine og (XS.istoreN X0.here hx rfl (dx hby dd64 17) rfl (l' := #[vI ((p0.toUInt32 >>> ((16 : Int32) &&& 31).toUInt32).toInt32), vI (15 : Int32)]) rfl) ?_
        show own_Gl _ _ _ _ (s₁.setTop (mkF m 33 #[vI ((p0.toUInt32 >>> ((16 : Int32) &&& 31).toUInt32).toInt32), vI (15 : Int32)] []))
        simp only [if_neg hc22_57] at J42
        exact J42
  · refine og (XS.ifNo X0.here hx rfl (dx hby dd64 1) rfl ((if0 _ _).trans (flt hc1_41).2.2.1)) ?_
    refine si X0 hx (dx hby dd64 2) ?_
    by_cases hc5_58 : p0 = (0 : Int32)
    · refine og (XS.ifNo X0.here hx rfl (dx hby dd64 3) rfl ((if0 _ _).trans (teq hc5_58).2)) ?_
      refine og (XS.bipush X0.here hx rfl (dx hby dd64 4)) ?_
      refine og (XS.goto X0.here hx rfl (pc0 := 10) (pc' := 14) rfl (dx hby dd64 5) (by decide) (by decide)) ?_
      exact own_retW X0 hx hret hlk rfl (Or.inl ⟨rfl, Or.inl rfl, _, rfl⟩) (dx hby dd64 7) e0 (by decide) (by decide) ⟨N0, (by rw [fnli, if_neg hc1_41, if_pos hc5_58] <;> rfl), rfl⟩
    · refine og (XS.ifYes X0.here hx rfl (pc0 := 5) (pc' := 13) rfl (dx hby dd64 3) rfl ((if0 _ _).trans (feq hc5_58).2) (by decide) (by decide)) ?_
      refine sc X0 hx (dx hby dd64 6) ?_
      exact own_retW X0 hx hret hlk rfl (Or.inl ⟨rfl, Or.inl rfl, _, rfl⟩) (dx hby dd64 7) e0 (by decide) (by decide) ⟨N0, (by rw [fnli, if_neg hc1_41, if_neg hc5_58] <;> rfl), rfl⟩
theorem dd63 : own_dec jdk_35_method_48_code [(0, .lload_n 0, 1), (1, .bipush 32, 2), (3, .lushr, 1), (4, .l2i, 1), (5, .istore_n 2, 1), (6, .iload_n 2, 1), (7, .ifCond .ne 14, 3), (10, .bipush 32, 2), (12, .lload_n 0, 1), (13, .l2i, 1), (14, .invokestatic 308, 3), (17, .iadd, 1), (18, .goto 7, 3), (21, .iload_n 2, 1), (22, .invokestatic 308, 3), (25, .ireturn, 1)] := by unfold own_dec; decide +kernel
theorem ef_nll (m : MethodId) (q0 : Int64) : entryFrame m #[(.long q0)] 3 = mkF m 0 #[.val (.long q0), .second, vU] [] := by first | (simp [entryFrame, mkF, argsToLocals, Value.category, vI, vR, vU]; done) | rfl
def fnll (q0 : Int64) : Int32 := (if (((q0.toUInt64 >>> ((32 : Int32) &&& 0x3f).toInt64.toUInt64).toInt64).toInt32) = (0 : Int32) then ((32 : Int32) + (fnli (q0.toInt32))) else (fnli (((q0.toUInt64 >>> ((32 : Int32) &&& 0x3f).toInt64.toUInt64).toInt64).toInt32)))
def Qnll (Z : State) (q0 : Int64) (h0 : Heap) (n0 : Nat) (v : Option Value) (h : Heap) (L : List Loc) : Prop := Fr n0 L ∧ v = some (.int (fnll q0)) ∧ h = h0
set_option maxRecDepth 65536 in
set_option maxHeartbeats 40000000 in
theorem rmnll (l : Launch) (Z : State) (a0 : Array Value) (hw : ∀ d ∈ tables_1, d.before a0 Z = true) (ws : List Jvm.Cond) (q0 : Int64) (h0 : Heap) (n0 : Nat) (Z0 : n0 ≤ h0.size)  :
    own_Cw l Z (⟨"java/lang/Long", "numberOfLeadingZeros", "(J)I"⟩ : MethodName) jdk_35_method_48_code 3 (some .int) ws (own_rr 1 0 0 14) #[(.long q0)] h0 (Qnll Z q0 h0 n0) := by
  refine own_body (plainFor_of_name pn_java_lang_Long) ?_
  intro p e s m below meth c s₁ hx hby hml hZ hown hnm hret hlk X0 e0
  have N0 := Fr.nil n0
  refine own_go (fun t k => castTop (ef_nll m q0) k) ?_
  refine og (XS.lloadN X0.here hx rfl (dx hby dd63 0) rfl) ?_
  show own_Gl _ _ _ _ (s₁.setTop (mkF m 1 #[.val (.long q0), .second, vU] [(.long q0)]))
  refine og (XS.bipush X0.here hx rfl (dx hby dd63 1)) ?_
  refine og (XS.lushr X0.here hx rfl (dx hby dd63 2) rfl) ?_
  refine og (XS.l2i X0.here hx rfl (dx hby dd63 3) rfl) ?_
  refine og (XS.istoreN X0.here hx rfl (dx hby dd63 4) rfl (l' := #[.val (.long q0), .second, vI (((q0.toUInt64 >>> ((32 : Int32) &&& 0x3f).toInt64.toUInt64).toInt64).toInt32)]) rfl) ?_
  refine si X0 hx (dx hby dd63 5) ?_
  by_cases hc7_41 : (((q0.toUInt64 >>> ((32 : Int32) &&& 0x3f).toInt64.toUInt64).toInt64).toInt32) = (0 : Int32)
  · refine og (XS.ifNo X0.here hx rfl (dx hby dd63 6) rfl ((if0 _ _).trans (teq hc7_41).2)) ?_
    refine og (XS.bipush X0.here hx rfl (dx hby dd63 7)) ?_
    refine og (XS.lloadN X0.here hx rfl (dx hby dd63 8) rfl) ?_
    refine og (XS.l2i X0.here hx rfl (dx hby dd63 9) rfl) ?_
    refine oc_static X0 hx hZ hown (wx hw 424) (wx hw 425) (wx hw 37) (wx hw 426) (by decide) (W := 1) (rmnli l Z a0 hw [] (q0.toInt32) h0 n0 Z0 ) (by decide) (by decide) (argsL := [(.int (q0.toInt32))]) (rest := [(.int (32 : Int32))]) (by rw [hml]; rfl) (lenOf pd_2 rfl) rfl (Nat.le_of_eq rfl) (dx hby dd63 10) rfl e0 (by decide) (by decide) (fun v42 T42 Lc42 hQ42 X42 => ?_)
    obtain ⟨N42q, rfl, hq42⟩ := hQ42
    have N42 := Fr.app N0 N42q
    refine og (XS.iadd X42.here hx rfl (dx hby dd63 11) rfl) ?_
    refine og (XS.goto X42.here hx rfl (pc0 := 18) (pc' := 25) rfl (dx hby dd63 12) (by decide) (by decide)) ?_
    show own_Gl _ _ _ _ (T42.setTop (mkF m 25 #[.val (.long q0), .second, vI (((q0.toUInt64 >>> ((32 : Int32) &&& 0x3f).toInt64.toUInt64).toInt64).toInt32)] [(.int ((32 : Int32) + (fnli (q0.toInt32))))]))
    exact own_retW X42 hx hret hlk rfl (Or.inl ⟨rfl, Or.inl rfl, _, rfl⟩) (dx hby dd63 15) hq42 (by decide) (by decide) ⟨N42, by rw [fnll, if_pos hc7_41], rfl⟩
  · refine og (XS.ifYes X0.here hx rfl (pc0 := 7) (pc' := 21) rfl (dx hby dd63 6) rfl ((if0 _ _).trans (feq hc7_41).2) (by decide) (by decide)) ?_
    refine si X0 hx (dx hby dd63 13) ?_
    refine oc_static X0 hx hZ hown (wx hw 424) (wx hw 425) (wx hw 37) (wx hw 426) (by decide) (W := 0) (rmnli l Z a0 hw [] (((q0.toUInt64 >>> ((32 : Int32) &&& 0x3f).toInt64.toUInt64).toInt64).toInt32) h0 n0 Z0 ) (by decide) (by decide) (argsL := [(.int (((q0.toUInt64 >>> ((32 : Int32) &&& 0x3f).toInt64.toUInt64).toInt64).toInt32))]) (rest := []) (by rw [hml]; rfl) (lenOf pd_2 rfl) rfl (Nat.le_of_eq rfl) (dx hby dd63 14) rfl e0 (by decide) (by decide) (fun v43 T43 Lc43 hQ43 X43 => ?_)
    obtain ⟨N43q, rfl, hq43⟩ := hQ43
    have N43 := Fr.app N0 N43q
    show own_Gl _ _ _ _ (T43.setTop (mkF m 25 #[.val (.long q0), .second, vI (((q0.toUInt64 >>> ((32 : Int32) &&& 0x3f).toInt64.toUInt64).toInt64).toInt32)] [(.int (fnli (((q0.toUInt64 >>> ((32 : Int32) &&& 0x3f).toInt64.toUInt64).toInt64).toInt32)))]))
    exact own_retW X43 hx hret hlk rfl (Or.inl ⟨rfl, Or.inl rfl, _, rfl⟩) (dx hby dd63 15) hq43 (by decide) (by decide) ⟨N43, by rw [fnll, if_neg hc7_41], rfl⟩
/-- the word of a set in which a card lies -/
def own_sel (w0 w1 : Int64) (c : Int32) : Int64 := if c < (64 : Int32) then w0 else w1
theorem own_ix {c : Int32} (h : 1 ≤ c.toInt ∧ c.toInt ≤ 104) : ((c.toUInt32 >>> ((6 : Int32) &&& 31).toUInt32).toInt32) = if c < (64 : Int32) then 0 else 1 := by
  have z1 : (64 : Int32).toInt = 64 := rfl
  have e : (((c.toUInt32 >>> ((6 : Int32) &&& 31).toUInt32).toInt32)).toInt = c.toInt / 2 ^ 6 := Jvm.Kit.i32_iushr (k := 6) (by rw [Jvm.Kit.i32_nonneg]; omega) (by decide) (by decide)
  rw [← Int32.toInt_inj, e]
  split
  · rename_i q; rw [Int32.lt_iff_toInt_lt] at q; show c.toInt / 2 ^ 6 = 0; omega
  · rename_i q; rw [Int32.lt_iff_toInt_lt] at q; show c.toInt / 2 ^ 6 = 1; omega
theorem own_ixb {c : Int32} (h : 1 ≤ c.toInt ∧ c.toInt ≤ 104) : ¬ ((c.toUInt32 >>> ((6 : Int32) &&& 31).toUInt32).toInt32) < 0 ∧ ((c.toUInt32 >>> ((6 : Int32) &&& 31).toUInt32).toInt32) < (2 : Int32) := by
  rw [own_ix h]; split <;> decide
theorem own_ixa {c : Int32} (w0 w1 : Int64) (h : 1 ≤ c.toInt ∧ c.toInt ≤ 104) : ([(.long w0), (.long w1)] : List Value).getD (((c.toUInt32 >>> ((6 : Int32) &&& 31).toUInt32).toInt32)).toNatClampNeg (.long (0 : Int64)) = .long (own_sel w0 w1 c) := by
  rw [own_ix h, own_sel]; split <;> rfl
theorem own_ix0 {c : Int32} (h : 1 ≤ c.toInt ∧ c.toInt ≤ 104) (q : c < (64 : Int32)) : (((c.toUInt32 >>> ((6 : Int32) &&& 31).toUInt32).toInt32)).toNatClampNeg = 0 := by rw [own_ix h, if_pos q]; rfl
theorem own_ix1 {c : Int32} (h : 1 ≤ c.toInt ∧ c.toInt ≤ 104) (q : ¬ c < (64 : Int32)) : (((c.toUInt32 >>> ((6 : Int32) &&& 31).toUInt32).toInt32)).toNatClampNeg = 1 := by rw [own_ix h, if_neg q]; rfl
theorem dd37 : own_dec prog_42_method_4_code [(0, .iload_n 1, 1), (1, .invokestatic 38, 3), (4, .ifCond .eq 25, 3), (7, .aload_n 0, 1), (8, .getfield 7, 3), (11, .iload_n 1, 1), (12, .bipush 6, 2), (14, .iushr, 1), (15, .laload, 1), (16, .lconst 1, 1), (17, .iload_n 1, 1), (18, .lshl, 1), (19, .land, 1), (20, .lconst 0, 1), (21, .lcmp, 1), (22, .ifCond .eq 7, 3), (25, .iconst 1, 1), (26, .goto 4, 3), (29, .iconst 0, 1), (30, .ireturn, 1)] := by unfold own_dec; decide +kernel
theorem pn_com_example_sixfold_sixfold_rows_CardSet : plainName "com/example/sixfold/sixfold/rows/CardSet" = true := by first | (simp [plainName, overriddenIn]; done) | decide +kernel
theorem ef_has (m : MethodId) (r0 : Addr) (p0 : Int32) : entryFrame m #[(.ref r0), (.int p0)] 2 = mkF m 0 #[vR r0, vI p0] [] := by first | (simp [entryFrame, mkF, argsToLocals, Value.category, vI, vR, vU]; done) | rfl
def fhas (p0 : Int32) (w0 : Int64) (w1 : Int64) : Int32 := (if (fisc p0) = (0 : Int32) then (0 : Int32) else (if ((own_sel w0 w1 p0) &&& ((1 : Int64) <<< (p0 &&& 0x3f).toInt64)) = (0 : Int64) then (0 : Int32) else (1 : Int32)))
def Qhas (Z : State) (r0 : Addr) (p0 : Int32) (wa : Addr) (kW : ClassId) (w0 : Int64) (w1 : Int64) (h0 : Heap) (n0 : Nat) (v : Option Value) (h : Heap) (L : List Loc) : Prop := Fr n0 L ∧ v = some (.int (fhas p0 w0 w1)) ∧ h = h0
set_option maxRecDepth 65536 in
set_option maxHeartbeats 40000000 in
theorem rmhas (l : Launch) (Z : State) (a0 : Array Value) (hw : ∀ d ∈ tables_1, d.before a0 Z = true) (ws : List Jvm.Cond) (r0 : Addr) (p0 : Int32) (wa : Addr) (kW : ClassId) (w0 : Int64) (w1 : Int64) (h0 : Heap) (n0 : Nat) (Z0 : n0 ≤ h0.size) (P0 : Fld Z h0 r0 "com/example/sixfold/sixfold/rows/CardSet" "words" "[J" (.ref wa)) (P1 : Arv Z h0 wa kW .long (2 : Int32) [(.long w0), (.long w1)] (.long (0 : Int64))) :
    own_Cw l Z (⟨"com/example/sixfold/sixfold/rows/CardSet", "has", "(I)Z"⟩ : MethodName) prog_42_method_4_code 2 (some .boolean) ws (own_rr 1 0 0 12) #[(.ref r0), (.int p0)] h0 (Qhas Z r0 p0 wa kW w0 w1 h0 n0) := by
  refine own_body (plainFor_of_name pn_com_example_sixfold_sixfold_rows_CardSet) ?_
  intro p e s m below meth c s₁ hx hby hml hZ hown hnm hret hlk X0 e0
  have N0 := Fr.nil n0
  refine own_go (fun t k => castTop (ef_has m r0 p0) k) ?_
  refine si X0 hx (dx hby dd37 0) ?_
  show own_Gl _ _ _ _ (s₁.setTop (mkF m 1 #[vR r0, vI p0] [(.int p0)]))
  refine oc_static X0 hx hZ hown (wx hw 291) (wx hw 283) (wx hw 284) (wx hw 285) (by decide) (W := 0) (rmisc l Z a0 hw [] p0 h0 n0 Z0 ) (by decide) (by decide) (argsL := [(.int p0)]) (rest := []) (by rw [hml]; rfl) (lenOf pd_0 rfl) rfl (Nat.le_of_eq rfl) (dx hby dd37 1) rfl e0 (by decide) (by decide) (fun v41 T41 Lc41 hQ41 X41 => ?_)
  obtain ⟨N41q, rfl, hq41⟩ := hQ41
  have N41 := Fr.app N0 N41q
  by_cases hc4_42 : (fisc p0) = (0 : Int32)
  · refine og (XS.ifYes X41.here hx rfl (pc0 := 4) (pc' := 29) rfl (dx hby dd37 2) rfl ((if0 _ _).trans (teq hc4_42).1) (by decide) (by decide)) ?_
    refine sc X41 hx (dx hby dd37 18) ?_
    show own_Gl _ _ _ _ (T41.setTop (mkF m 30 #[vR r0, vI p0] [(.int (0 : Int32))]))
    exact own_retB X41 hx (t := .boolean) hret hlk (by simp) (dx hby dd37 19) hq41 (by decide) (by decide) ⟨N41, by rw [fhas, if_pos hc4_42] <;> rfl, rfl⟩
  · refine og (XS.ifNo X41.here hx rfl (dx hby dd37 2) rfl ((if0 _ _).trans (feq hc4_42).1)) ?_
    refine sa X41 hx (dx hby dd37 3) ?_
    refine oc_getF X41 hx hZ hown (host := "") (Or.inl (wx hw 103)) Via.refl hq41 P0 (dx hby dd37 4) (fun T43 X43 e43 => ?_)
    refine si X43 hx (dx hby dd37 5) ?_
    refine og (XS.bipush X43.here hx rfl (dx hby dd37 6)) ?_
    refine og (XS.iushr X43.here hx rfl (dx hby dd37 7) rfl) ?_
    show own_Gl _ _ _ _ (T43.setTop (mkF m 15 #[vR r0, vI p0] [(.int ((p0.toUInt32 >>> ((6 : Int32) &&& 31).toUInt32).toInt32)), (.ref wa)]))
    refine oc_laload X43 hx hZ e43 P1 (own_ixb (own_isc_of hc4_42)) (own_ixa w0 w1 (own_isc_of hc4_42)) (dx hby dd37 8) ?_
    refine og (XS.lconst X43.here hx rfl (dx hby dd37 9)) ?_
    refine si X43 hx (dx hby dd37 10) ?_
    refine og (XS.lshl X43.here hx rfl (dx hby dd37 11) rfl) ?_
    refine og (XS.land X43.here hx rfl (dx hby dd37 12) rfl) ?_
    refine og (XS.lconst X43.here hx rfl (dx hby dd37 13)) ?_
    refine og (XS.lcmp X43.here hx rfl (dx hby dd37 14) rfl) ?_
    by_cases hc22_45 : ((own_sel w0 w1 p0) &&& ((1 : Int64) <<< (p0 &&& 0x3f).toInt64)) = (0 : Int64)
    · refine og (XS.ifYes X43.here hx rfl (pc0 := 22) (pc' := 29) rfl (dx hby dd37 15) rfl ((if0 _ _).trans (teq ((lw_eq ((own_sel w0 w1 p0) &&& ((1 : Int64) <<< (p0 &&& 0x3f).toInt64)) (0 : Int64)).mpr hc22_45)).1) (by decide) (by decide)) ?_
      refine sc X43 hx (dx hby dd37 18) ?_
      show own_Gl _ _ _ _ (T43.setTop (mkF m 30 #[vR r0, vI p0] [(.int (0 : Int32))]))
      exact own_retB X43 hx (t := .boolean) hret hlk (by simp) (dx hby dd37 19) e43 (by decide) (by decide) ⟨N41, by rw [fhas, if_neg hc4_42, if_pos hc22_45] <;> rfl, rfl⟩
    · refine og (XS.ifNo X43.here hx rfl (dx hby dd37 15) rfl ((if0 _ _).trans (feq (fun q => hc22_45 ((lw_eq ((own_sel w0 w1 p0) &&& ((1 : Int64) <<< (p0 &&& 0x3f).toInt64)) (0 : Int64)).mp q))).1)) ?_
      refine sc X43 hx (dx hby dd37 16) ?_
      refine og (XS.goto X43.here hx rfl (pc0 := 26) (pc' := 30) rfl (dx hby dd37 17) (by decide) (by decide)) ?_
      show own_Gl _ _ _ _ (T43.setTop (mkF m 30 #[vR r0, vI p0] [(.int (1 : Int32))]))
      exact own_retB X43 hx (t := .boolean) hret hlk (by simp) (dx hby dd37 19) e43 (by decide) (by decide) ⟨N41, by rw [fhas, if_neg hc4_42, if_neg hc22_45] <;> rfl, rfl⟩
def own_pw0 (w0 w1 : Int64) (c : Int32) : Int64 := if c < (64 : Int32) then (own_sel w0 w1 c ||| ((1 : Int64) <<< (c &&& 0x3f).toInt64)) else w0
def own_pw1 (w0 w1 : Int64) (c : Int32) : Int64 := if c < (64 : Int32) then w1 else (own_sel w0 w1 c ||| ((1 : Int64) <<< (c &&& 0x3f).toInt64))
def own_tw0 (w0 w1 : Int64) (c : Int32) : Int64 := if (fhas c w0 w1) = (0 : Int32) then w0 else if c < (64 : Int32) then (own_sel w0 w1 c &&& (((1 : Int64) <<< (c &&& 0x3f).toInt64) ^^^ (-1 : Int64))) else w0
def own_tw1 (w0 w1 : Int64) (c : Int32) : Int64 := if (fhas c w0 w1) = (0 : Int32) then w1 else if c < (64 : Int32) then w1 else (own_sel w0 w1 c &&& (((1 : Int64) <<< (c &&& 0x3f).toInt64) ^^^ (-1 : Int64)))
theorem own_has_isc {c : Int32} {w0 w1 : Int64} (h : ¬ (fhas c w0 w1 = (0 : Int32))) : 1 ≤ c.toInt ∧ c.toInt ≤ 104 := by
  apply own_isc_of
  intro q; apply h; rw [fhas, if_pos q]
theorem dd38 : own_dec prog_42_method_5_code [(0, .iload_n 1, 1), (1, .invokestatic 44, 3), (4, .pop, 1), (5, .aload_n 0, 1), (6, .getfield 7, 3), (9, .iload_n 1, 1), (10, .bipush 6, 2), (12, .iushr, 1), (13, .laload, 1), (14, .ldc2_w 48, 3), (17, .lxor, 1), (18, .lconst 1, 1), (19, .iload_n 1, 1), (20, .lshl, 1), (21, .land, 1), (22, .lstore_n 2, 1), (23, .aload_n 0, 1), (24, .getfield 7, 3), (27, .iload_n 1, 1), (28, .bipush 6, 2), (30, .iushr, 1), (31, .dup2, 1), (32, .laload, 1), (33, .lconst 1, 1), (34, .iload_n 1, 1), (35, .lshl, 1), (36, .lor, 1), (37, .lastore, 1), (38, .lload_n 2, 1), (39, .lconst 0, 1), (40, .lcmp, 1), (41, .ifCond .eq 7, 3), (44, .iconst 1, 1), (45, .goto 4, 3), (48, .iconst 0, 1), (49, .ireturn, 1)] := by unfold own_dec; decide +kernel
theorem ef_put (m : MethodId) (r0 : Addr) (p0 : Int32) : entryFrame m #[(.ref r0), (.int p0)] 4 = mkF m 0 #[vR r0, vI p0, vU, vU] [] := by first | (simp [entryFrame, mkF, argsToLocals, Value.category, vI, vR, vU]; done) | rfl
def fput (p0 : Int32) (w0 : Int64) (w1 : Int64) : Int32 := (if p0 < (64 : Int32) then (if (((own_sel w0 w1 p0) ^^^ (-1 : Int64)) &&& ((1 : Int64) <<< (p0 &&& 0x3f).toInt64)) = (0 : Int64) then (0 : Int32) else (1 : Int32)) else (if (((own_sel w0 w1 p0) ^^^ (-1 : Int64)) &&& ((1 : Int64) <<< (p0 &&& 0x3f).toInt64)) = (0 : Int64) then (0 : Int32) else (1 : Int32)))
def Qput (Z : State) (r0 : Addr) (p0 : Int32) (wa : Addr) (kW : ClassId) (w0 : Int64) (w1 : Int64) (h0 : Heap) (n0 : Nat) (v : Option Value) (h : Heap) (L : List Loc) : Prop := Fr n0 L ∧ v = some (.int (fput p0 w0 w1)) ∧ Keep h0 h [wa] ∧ Arv Z h wa kW .long (2 : Int32) [(.long (own_pw0 w0 w1 p0)), (.long (own_pw1 w0 w1 p0))] (.long (0 : Int64))
set_option maxRecDepth 65536 in
set_option maxHeartbeats 40000000 in
theorem rmput (l : Launch) (Z : State) (a0 : Array Value) (hw : ∀ d ∈ tables_1, d.before a0 Z = true) (ws : List Jvm.Cond) (r0 : Addr) (p0 : Int32) (wa : Addr) (kW : ClassId) (w0 : Int64) (w1 : Int64) (h0 : Heap) (n0 : Nat) (Z0 : n0 ≤ h0.size) (P0 : Fld Z h0 r0 "com/example/sixfold/sixfold/rows/CardSet" "words" "[J" (.ref wa)) (P1 : Arv Z h0 wa kW .long (2 : Int32) [(.long w0), (.long w1)] (.long (0 : Int64))) (ne0 : r0 ≠ wa) (ge_wa : n0 ≤ wa) (hc : 1 ≤ p0.toInt ∧ p0.toInt ≤ 104) :
    own_Cw l Z (⟨"com/example/sixfold/sixfold/rows/CardSet", "put", "(I)Z"⟩ : MethodName) prog_42_method_5_code 4 (some .boolean) ws (own_rr 2 0 0 24) #[(.ref r0), (.int p0)] h0 (Qput Z r0 p0 wa kW w0 w1 h0 n0) := by
  refine own_body (plainFor_of_name pn_com_example_sixfold_sixfold_rows_CardSet) ?_
  intro p e s m below meth c s₁ hx hby hml hZ hown hnm hret hlk X0 e0
  have N0 := Fr.nil n0
  refine own_go (fun t k => castTop (ef_put m r0 p0) k) ?_
  refine si X0 hx (dx hby dd38 0) ?_
  show own_Gl _ _ _ _ (s₁.setTop (mkF m 1 #[vR r0, vI p0, vU, vU] [(.int p0)]))
  refine oc_static X0 hx hZ hown (wx hw 297) (wx hw 298) (wx hw 284) (wx hw 299) (by decide) (W := 0) (rmchk l Z a0 hw [] p0 h0 n0 Z0 hc) (by decide) (by decide) (argsL := [(.int p0)]) (rest := []) (by rw [hml]; rfl) (lenOf pd_2 rfl) rfl (Nat.le_of_eq rfl) (dx hby dd38 1) rfl e0 (by decide) (by decide) (fun v41 T41 Lc41 hQ41 X41 => ?_)
  obtain ⟨N41q, rfl, hq41⟩ := hQ41
  have N41 := Fr.app N0 N41q
  refine og (XS.pop X41.here hx rfl (dx hby dd38 2) rfl rfl) ?_
  refine sa X41 hx (dx hby dd38 3) ?_
  refine oc_getF X41 hx hZ hown (host := "") (Or.inl (wx hw 103)) Via.refl hq41 P0 (dx hby dd38 4) (fun T42 X42 e42 => ?_)
  refine si X42 hx (dx hby dd38 5) ?_
  refine og (XS.bipush X42.here hx rfl (dx hby dd38 6)) ?_
  refine og (XS.iushr X42.here hx rfl (dx hby dd38 7) rfl) ?_
  show own_Gl _ _ _ _ (T42.setTop (mkF m 13 #[vR r0, vI p0, vU, vU] [(.int ((p0.toUInt32 >>> ((6 : Int32) &&& 31).toUInt32).toInt32)), (.ref wa)]))
  refine oc_laload X42 hx hZ e42 P1 (own_ixb hc) (own_ixa w0 w1 hc) (dx hby dd38 8) ?_
  show own_Gl _ _ _ _ (T42.setTop (mkF m 14 #[vR r0, vI p0, vU, vU] [(.long (own_sel w0 w1 p0))]))
  refine og (X42.ldc2Long hx hown (mvT hZ (wx hw 301)) (g := (mkF m 14 #[vR r0, vI p0, vU, vU] [(.long (own_sel w0 w1 p0))])) rfl (dx hby dd38 9) _) ?_
  refine og (XS.lxor X42.here hx rfl (dx hby dd38 10) rfl) ?_
  refine og (XS.lconst X42.here hx rfl (dx hby dd38 11)) ?_
  refine si X42 hx (dx hby dd38 12) ?_
  refine og (XS.lshl X42.here hx rfl (dx hby dd38 13) rfl) ?_
  refine og (XS.land X42.here hx rfl (dx hby dd38 14) rfl) ?_
  refine og (XS.lstoreN X42.here hx rfl (dx hby dd38 15) rfl (l' := #[vR r0, vI p0, .val (.long (((own_sel w0 w1 p0) ^^^ (-1 : Int64)) &&& ((1 : Int64) <<< (p0 &&& 0x3f).toInt64))), .second]) rfl) ?_
  refine sa X42 hx (dx hby dd38 16) ?_
  refine oc_getF X42 hx hZ hown (host := "") (Or.inl (wx hw 103)) Via.refl e42 P0 (dx hby dd38 17) (fun T44 X44 e44 => ?_)
  refine si X44 hx (dx hby dd38 18) ?_
  refine og (XS.bipush X44.here hx rfl (dx hby dd38 19)) ?_
  show own_Gl _ _ _ _ (T44.setTop (mkF m 30 #[vR r0, vI p0, .val (.long (((own_sel w0 w1 p0) ^^^ (-1 : Int64)) &&& ((1 : Int64) <<< (p0 &&& 0x3f).toInt64))), .second] [(.int (6 : Int32)), (.int p0), (.ref wa)]))
  refine og (XS.iushr X44.here hx rfl (dx hby dd38 20) rfl) ?_
  refine og (XT.dup2 X44.here hx rfl (dx hby dd38 21) rfl rfl rfl) ?_
  show own_Gl _ _ _ _ (T44.setTop (mkF m 32 #[vR r0, vI p0, .val (.long (((own_sel w0 w1 p0) ^^^ (-1 : Int64)) &&& ((1 : Int64) <<< (p0 &&& 0x3f).toInt64))), .second] [(.int ((p0.toUInt32 >>> ((6 : Int32) &&& 31).toUInt32).toInt32)), (.ref wa), (.int ((p0.toUInt32 >>> ((6 : Int32) &&& 31).toUInt32).toInt32)), (.ref wa)]))
  refine oc_laload X44 hx hZ e44 P1 (own_ixb hc) (own_ixa w0 w1 hc) (dx hby dd38 22) ?_
  refine og (XS.lconst X44.here hx rfl (dx hby dd38 23)) ?_
  refine si X44 hx (dx hby dd38 24) ?_
  refine og (XS.lshl X44.here hx rfl (dx hby dd38 25) rfl) ?_
  refine og (XS.lor X44.here hx rfl (dx hby dd38 26) rfl) ?_
  show own_Gl _ _ _ _ (T44.setTop (mkF m 37 #[vR r0, vI p0, .val (.long (((own_sel w0 w1 p0) ^^^ (-1 : Int64)) &&& ((1 : Int64) <<< (p0 &&& 0x3f).toInt64))), .second] [(.long ((own_sel w0 w1 p0) ||| ((1 : Int64) <<< (p0 &&& 0x3f).toInt64))), (.int ((p0.toUInt32 >>> ((6 : Int32) &&& 31).toUInt32).toInt32)), (.ref wa)]))
  by_cases hc37_46 : p0 < (64 : Int32)
  · show own_Gl _ _ _ _ (T44.setTop (mkF m 37 #[vR r0, vI p0, .val (.long (((own_sel w0 w1 p0) ^^^ (-1 : Int64)) &&& ((1 : Int64) <<< (p0 &&& 0x3f).toInt64))), .second] [(.long ((own_sel w0 w1 p0) ||| ((1 : Int64) <<< (p0 &&& 0x3f).toInt64))), (.int ((p0.toUInt32 >>> ((6 : Int32) &&& 31).toUInt32).toInt32)), (.ref wa)]))
    refine oc_lastore X44 hx hZ e44 P1 (own_ixb hc) 0 (own_ix0 hc hc37_46) (Nat.le_of_ble_eq_true rfl) (dx hby dd38 27) (fun T47 h47 X47 e47 W47 V47 => ?_)
    have V47 : Arv Z h47 wa kW .long (2 : Int32) [(.long ((own_sel w0 w1 p0) ||| ((1 : Int64) <<< (p0 &&& 0x3f).toInt64))), (.long w1)] (.long (0 : Int64)) := V47
    have K47 : Keep h0 h47 [wa] := (Keep.refl h0 [wa]).wr W47 (Or.inl (List.mem_of_getElem? (i := 0) rfl))
    have N47 := Fr.snoc X47 N41 ge_wa
    have Z47 : n0 ≤ h47.size := Nat.le_trans Z0 (Keep.of_wr W47).1
    refine og (XS.lloadN X47.here hx rfl (dx hby dd38 28) rfl) ?_
    refine og (XS.lconst X47.here hx rfl (dx hby dd38 29)) ?_
    refine og (XS.lcmp X47.here hx rfl (dx hby dd38 30) rfl) ?_
    by_cases hc41_48 : (((own_sel w0 w1 p0) ^^^ (-1 : Int64)) &&& ((1 : Int64) <<< (p0 &&& 0x3f).toInt64)) = (0 : Int64)
    · refine og (XS.ifYes X47.here hx rfl (pc0 := 41) (pc' := 48) rfl (dx hby dd38 31) rfl ((if0 _ _).trans (teq ((lw_eq (((own_sel w0 w1 p0) ^^^ (-1 : Int64)) &&& ((1 : Int64) <<< (p0 &&& 0x3f).toInt64)) (0 : Int64)).mpr hc41_48)).1) (by decide) (by decide)) ?_
      refine sc X47 hx (dx hby dd38 34) ?_
      show own_Gl _ _ _ _ (T47.setTop (mkF m 49 #[vR r0, vI p0, .val (.long (((own_sel w0 w1 p0) ^^^ (-1 : Int64)) &&& ((1 : Int64) <<< (p0 &&& 0x3f).toInt64))), .second] [(.int (0 : Int32))]))
      exact own_retB X47 hx (t := .boolean) hret hlk (by simp) (dx hby dd38 35) e47 (by decide) (by decide) ⟨N47, by rw [fput, if_pos hc37_46, if_pos hc41_48] <;> rfl, K47, (by simp only [own_pw0, own_pw1, if_pos hc37_46, if_pos hc41_48]; exact V47)⟩
    · refine og (XS.ifNo X47.here hx rfl (dx hby dd38 31) rfl ((if0 _ _).trans (feq (fun q => hc41_48 ((lw_eq (((own_sel w0 w1 p0) ^^^ (-1 : Int64)) &&& ((1 : Int64) <<< (p0 &&& 0x3f).toInt64)) (0 : Int64)).mp q))).1)) ?_
      refine sc X47 hx (dx hby dd38 32) ?_
      refine og (XS.goto X47.here hx rfl (pc0 := 45) (pc' := 49) rfl (dx hby dd38 33) (by decide) (by decide)) ?_
      show own_Gl _ _ _ _ (T47.setTop (mkF m 49 #[vR r0, vI p0, .val (.long (((own_sel w0 w1 p0) ^^^ (-1 : Int64)) &&& ((1 : Int64) <<< (p0 &&& 0x3f).toInt64))), .second] [(.int (1 : Int32))]))
      exact own_retB X47 hx (t := .boolean) hret hlk (by simp) (dx hby dd38 35) e47 (by decide) (by decide) ⟨N47, by rw [fput, if_pos hc37_46, if_neg hc41_48] <;> rfl, K47, (by simp only [own_pw0, own_pw1, if_pos hc37_46, if_neg hc41_48]; exact V47)⟩
  · show own_Gl _ _ _ _ (T44.setTop (mkF m 37 #[vR r0, vI p0, .val (.long (((own_sel w0 w1 p0) ^^^ (-1 : Int64)) &&& ((1 : Int64) <<< (p0 &&& 0x3f).toInt64))), .second] [(.long ((own_sel w0 w1 p0) ||| ((1 : Int64) <<< (p0 &&& 0x3f).toInt64))), (.int ((p0.toUInt32 >>> ((6 : Int32) &&& 31).toUInt32).toInt32)), (.ref wa)]))
    refine oc_lastore X44 hx hZ e44 P1 (own_ixb hc) 1 (own_ix1 hc hc37_46) (Nat.le_of_ble_eq_true rfl) (dx hby dd38 27) (fun T49 h49 X49 e49 W49 V49 => ?_)
    have V49 : Arv Z h49 wa kW .long (2 : Int32) [(.long w0), (.long ((own_sel w0 w1 p0) ||| ((1 : Int64) <<< (p0 &&& 0x3f).toInt64)))] (.long (0 : Int64)) := V49
    have K49 : Keep h0 h49 [wa] := (Keep.refl h0 [wa]).wr W49 (Or.inl (List.mem_of_getElem? (i := 0) rfl))
    have N49 := Fr.snoc X49 N41 ge_wa
    have Z49 : n0 ≤ h49.size := Nat.le_trans Z0 (Keep.of_wr W49).1
    refine og (XS.lloadN X49.here hx rfl (dx hby dd38 28) rfl) ?_
    refine og (XS.lconst X49.here hx rfl (dx hby dd38 29)) ?_
    refine og (XS.lcmp X49.here hx rfl (dx hby dd38 30) rfl) ?_
    by_cases hc41_50 : (((own_sel w0 w1 p0) ^^^ (-1 : Int64)) &&& ((1 : Int64) <<< (p0 &&& 0x3f).toInt64)) = (0 : Int64)
    · refine og (XS.ifYes X49.here hx rfl (pc0 := 41) (pc' := 48) rfl (dx hby dd38 31) rfl ((if0 _ _).trans (teq ((lw_eq (((own_sel w0 w1 p0) ^^^ (-1 : Int64)) &&& ((1 : Int64) <<< (p0 &&& 0x3f).toInt64)) (0 : Int64)).mpr hc41_50)).1) (by decide) (by decide)) ?_
      refine sc X49 hx (dx hby dd38 34) ?_
      show own_Gl _ _ _ _ (T49.setTop (mkF m 49 #[vR r0, vI p0, .val (.long (((own_sel w0 w1 p0) ^^^ (-1 : Int64)) &&& ((1 : Int64) <<< (p0 &&& 0x3f).toInt64))), .second] [(.int (0 : Int32))]))
      exact own_retB X49 hx (t := .boolean) hret hlk (by simp) (dx hby dd38 35) e49 (by decide) (by decide) ⟨N49, by rw [fput, if_neg hc37_46, if_pos hc41_50] <;> rfl, K49, (by simp only [own_pw0, own_pw1, if_neg hc37_46, if_pos hc41_50]; exact V49)⟩
    · refine og (XS.ifNo X49.here hx rfl (dx hby dd38 31) rfl ((if0 _ _).trans (feq (fun q => hc41_50 ((lw_eq (((own_sel w0 w1 p0) ^^^ (-1 : Int64)) &&& ((1 : Int64) <<< (p0 &&& 0x3f).toInt64)) (0 : Int64)).mp q))).1)) ?_
      refine sc X49 hx (dx hby dd38 32) ?_
      refine og (XS.goto X49.here hx rfl (pc0 := 45) (pc' := 49) rfl (dx hby dd38 33) (by decide) (by decide)) ?_
      show own_Gl _ _ _ _ (T49.setTop (mkF m 49 #[vR r0, vI p0, .val (.long (((own_sel w0 w1 p0) ^^^ (-1 : Int64)) &&& ((1 : Int64) <<< (p0 &&& 0x3f).toInt64))), .second] [(.int (1 : Int32))]))
      exact own_retB X49 hx (t := .boolean) hret hlk (by simp) (dx hby dd38 35) e49 (by decide) (by decide) ⟨N49, by rw [fput, if_neg hc37_46, if_neg hc41_50] <;> rfl, K49, (by simp only [own_pw0, own_pw1, if_neg hc37_46, if_neg hc41_50]; exact V49)⟩
theorem dd52 : own_dec prog_42_method_6_code [(0, .aload_n 0, 1), (1, .iload_n 1, 1), (2, .invokevirtual 50, 3), (5, .ifCond .ne 5, 3), (8, .iconst 0, 1), (9, .ireturn, 1), (10, .aload_n 0, 1), (11, .getfield 7, 3), (14, .iload_n 1, 1), (15, .bipush 6, 2), (17, .iushr, 1), (18, .dup2, 1), (19, .laload, 1), (20, .lconst 1, 1), (21, .iload_n 1, 1), (22, .lshl, 1), (23, .ldc2_w 48, 3), (26, .lxor, 1), (27, .land, 1), (28, .lastore, 1), (29, .iconst 1, 1), (30, .ireturn, 1)] := by unfold own_dec; decide +kernel
theorem ef_tout (m : MethodId) (r0 : Addr) (p0 : Int32) : entryFrame m #[(.ref r0), (.int p0)] 2 = mkF m 0 #[vR r0, vI p0] [] := by first | (simp [entryFrame, mkF, argsToLocals, Value.category, vI, vR, vU]; done) | rfl
def ftout (p0 : Int32) (w0 : Int64) (w1 : Int64) : Int32 := (if (fhas p0 w0 w1) = (0 : Int32) then (0 : Int32) else (if p0 < (64 : Int32) then (1 : Int32) else (1 : Int32)))
def Qtout (Z : State) (r0 : Addr) (p0 : Int32) (wa : Addr) (kW : ClassId) (w0 : Int64) (w1 : Int64) (h0 : Heap) (n0 : Nat) (v : Option Value) (h : Heap) (L : List Loc) : Prop := Fr n0 L ∧ v = some (.int (ftout p0 w0 w1)) ∧ Keep h0 h [wa] ∧ Arv Z h wa kW .long (2 : Int32) [(.long (own_tw0 w0 w1 p0)), (.long (own_tw1 w0 w1 p0))] (.long (0 : Int64))
set_option maxRecDepth 65536 in
set_option maxHeartbeats 40000000 in
theorem rmtout (l : Launch) (Z : State) (a0 : Array Value) (hw : ∀ d ∈ tables_1, d.before a0 Z = true) (ws : List Jvm.Cond) (r0 : Addr) (p0 : Int32) (wa : Addr) (kW : ClassId) (w0 : Int64) (w1 : Int64) (h0 : Heap) (n0 : Nat) (Z0 : n0 ≤ h0.size) (P0 : Exa Z h0 r0 "com/example/sixfold/sixfold/rows/CardSet") (P1 : Fld Z h0 r0 "com/example/sixfold/sixfold/rows/CardSet" "words" "[J" (.ref wa)) (P2 : Arv Z h0 wa kW .long (2 : Int32) [(.long w0), (.long w1)] (.long (0 : Int64))) (ne0 : r0 ≠ wa) (ge_wa : n0 ≤ wa) :
    own_Cw l Z (⟨"com/example/sixfold/sixfold/rows/CardSet", "takeOut", "(I)Z"⟩ : MethodName) prog_42_method_6_code 2 (some .boolean) ws (own_rr 2 0 0 25) #[(.ref r0), (.int p0)] h0 (Qtout Z r0 p0 wa kW w0 w1 h0 n0) := by
  refine own_body (plainFor_of_name pn_com_example_sixfold_sixfold_rows_CardSet) ?_
  intro p e s m below meth c s₁ hx hby hml hZ hown hnm hret hlk X0 e0
  have N0 := Fr.nil n0
  refine own_go (fun t k => castTop (ef_tout m r0 p0) k) ?_
  refine sa X0 hx (dx hby dd52 0) ?_
  show own_Gl _ _ _ _ (s₁.setTop (mkF m 1 #[vR r0, vI p0] [(.ref r0)]))
  refine si X0 hx (dx hby dd52 1) ?_
  refine oc_virtual X0 hx hZ hown (wx hw 370) (wx hw 287) (wx hw 289) (wx hw 288) (wx hw 95) (wx hw 290) (by decide) (W := 0) (rmhas l Z a0 hw [] r0 p0 wa kW w0 w1 h0 n0 Z0 P1 P2) (by decide) (by decide) P0 (argsL := [(.int p0)]) (rest := []) (by rw [hml]; rfl) (lenOf pd_0 rfl) rfl (Nat.le_of_eq rfl) (dx hby dd52 2) rfl e0 (by decide) (by decide) (fun v41 T41 Lc41 hQ41 X41 => ?_)
  obtain ⟨N41q, rfl, hq41⟩ := hQ41
  have N41 := Fr.app N0 N41q
  by_cases hc5_42 : (fhas p0 w0 w1) = (0 : Int32)
  · refine og (XS.ifNo X41.here hx rfl (dx hby dd52 3) rfl ((if0 _ _).trans (teq hc5_42).2)) ?_
    refine sc X41 hx (dx hby dd52 4) ?_
    show own_Gl _ _ _ _ (T41.setTop (mkF m 9 #[vR r0, vI p0] [(.int (0 : Int32))]))
    exact own_retB X41 hx (t := .boolean) hret hlk (by simp) (dx hby dd52 5) hq41 (by decide) (by decide) ⟨N41, by rw [ftout, if_pos hc5_42] <;> rfl, Keep.refl _ _, (by simp only [own_tw0, own_tw1, if_pos hc5_42]; exact P2)⟩
  · refine og (XS.ifYes X41.here hx rfl (pc0 := 5) (pc' := 10) rfl (dx hby dd52 3) rfl ((if0 _ _).trans (feq hc5_42).2) (by decide) (by decide)) ?_
    refine sa X41 hx (dx hby dd52 6) ?_
    refine oc_getF X41 hx hZ hown (host := "") (Or.inl (wx hw 103)) Via.refl hq41 P1 (dx hby dd52 7) (fun T43 X43 e43 => ?_)
    refine si X43 hx (dx hby dd52 8) ?_
    refine og (XS.bipush X43.here hx rfl (dx hby dd52 9)) ?_
    refine og (XS.iushr X43.here hx rfl (dx hby dd52 10) rfl) ?_
    refine og (XT.dup2 X43.here hx rfl (dx hby dd52 11) rfl rfl rfl) ?_
    show own_Gl _ _ _ _ (T43.setTop (mkF m 19 #[vR r0, vI p0] [(.int ((p0.toUInt32 >>> ((6 : Int32) &&& 31).toUInt32).toInt32)), (.ref wa), (.int ((p0.toUInt32 >>> ((6 : Int32) &&& 31).toUInt32).toInt32)), (.ref wa)]))
    refine oc_laload X43 hx hZ e43 P2 (own_ixb (own_has_isc hc5_42)) (own_ixa w0 w1 (own_has_isc hc5_42)) (dx hby dd52 12) ?_
    refine og (XS.lconst X43.here hx rfl (dx hby dd52 13)) ?_
    refine si X43 hx (dx hby dd52 14) ?_
    refine og (XS.lshl X43.here hx rfl (dx hby dd52 15) rfl) ?_
    show own_Gl _ _ _ _ (T43.setTop (mkF m 23 #[vR r0, vI p0] [(.long ((1 : Int64) <<< (p0 &&& 0x3f).toInt64)), (.long (own_sel w0 w1 p0)), (.int ((p0.toUInt32 >>> ((6 : Int32) &&& 31).toUInt32).toInt32)), (.ref wa)]))
    refine og (X43.ldc2Long hx hown (mvT hZ (wx hw 301)) (g := (mkF m 23 #[vR r0, vI p0] [(.long ((1 : Int64) <<< (p0 &&& 0x3f).toInt64)), (.long (own_sel w0 w1 p0)), (.int ((p0.toUInt32 >>> ((6 : Int32) &&& 31).toUInt32).toInt32)), (.ref wa)])) rfl (dx hby dd52 16) _) ?_
    refine og (XS.lxor X43.here hx rfl (dx hby dd52 17) rfl) ?_
    refine og (XS.land X43.here hx rfl (dx hby dd52 18) rfl) ?_
    show own_Gl _ _ _ _ (T43.setTop (mkF m 28 #[vR r0, vI p0] [(.long ((own_sel w0 w1 p0) &&& (((1 : Int64) <<< (p0 &&& 0x3f).toInt64) ^^^ (-1 : Int64)))), (.int ((p0.toUInt32 >>> ((6 : Int32) &&& 31).toUInt32).toInt32)), (.ref wa)]))
    by_cases hc28_45 : p0 < (64 : Int32)
    · show own_Gl _ _ _ _ (T43.setTop (mkF m 28 #[vR r0, vI p0] [(.long ((own_sel w0 w1 p0) &&& (((1 : Int64) <<< (p0 &&& 0x3f).toInt64) ^^^ (-1 : Int64)))), (.int ((p0.toUInt32 >>> ((6 : Int32) &&& 31).toUInt32).toInt32)), (.ref wa)]))
      refine oc_lastore X43 hx hZ e43 P2 (own_ixb (own_has_isc hc5_42)) 0 (own_ix0 (own_has_isc hc5_42) hc28_45) (Nat.le_of_ble_eq_true rfl) (dx hby dd52 19) (fun T46 h46 X46 e46 W46 V46 => ?_)
      have V46 : Arv Z h46 wa kW .long (2 : Int32) [(.long ((own_sel w0 w1 p0) &&& (((1 : Int64) <<< (p0 &&& 0x3f).toInt64) ^^^ (-1 : Int64)))), (.long w1)] (.long (0 : Int64)) := V46
      have K46 : Keep h0 h46 [wa] := (Keep.refl h0 [wa]).wr W46 (Or.inl (List.mem_of_getElem? (i := 0) rfl))
      have N46 := Fr.snoc X46 N41 ge_wa
      have Z46 : n0 ≤ h46.size := Nat.le_trans Z0 (Keep.of_wr W46).1
      refine sc X46 hx (dx hby dd52 20) ?_
      show own_Gl _ _ _ _ (T46.setTop (mkF m 30 #[vR r0, vI p0] [(.int (1 : Int32))]))
      exact own_retB X46 hx (t := .boolean) hret hlk (by simp) (dx hby dd52 21) e46 (by decide) (by decide) ⟨N46, by rw [ftout, if_neg hc5_42, if_pos hc28_45] <;> rfl, K46, (by simp only [own_tw0, own_tw1, if_neg hc5_42, if_pos hc28_45]; exact V46)⟩
    · show own_Gl _ _ _ _ (T43.setTop (mkF m 28 #[vR r0, vI p0] [(.long ((own_sel w0 w1 p0) &&& (((1 : Int64) <<< (p0 &&& 0x3f).toInt64) ^^^ (-1 : Int64)))), (.int ((p0.toUInt32 >>> ((6 : Int32) &&& 31).toUInt32).toInt32)), (.ref wa)]))
      refine oc_lastore X43 hx hZ e43 P2 (own_ixb (own_has_isc hc5_42)) 1 (own_ix1 (own_has_isc hc5_42) hc28_45) (Nat.le_of_ble_eq_true rfl) (dx hby dd52 19) (fun T47 h47 X47 e47 W47 V47 => ?_)
      have V47 : Arv Z h47 wa kW .long (2 : Int32) [(.long w0), (.long ((own_sel w0 w1 p0) &&& (((1 : Int64) <<< (p0 &&& 0x3f).toInt64) ^^^ (-1 : Int64))))] (.long (0 : Int64)) := V47
      have K47 : Keep h0 h47 [wa] := (Keep.refl h0 [wa]).wr W47 (Or.inl (List.mem_of_getElem? (i := 0) rfl))
      have N47 := Fr.snoc X47 N41 ge_wa
      have Z47 : n0 ≤ h47.size := Nat.le_trans Z0 (Keep.of_wr W47).1
      refine sc X47 hx (dx hby dd52 20) ?_
      show own_Gl _ _ _ _ (T47.setTop (mkF m 30 #[vR r0, vI p0] [(.int (1 : Int32))]))
      exact own_retB X47 hx (t := .boolean) hret hlk (by simp) (dx hby dd52 21) e47 (by decide) (by decide) ⟨N47, by rw [ftout, if_neg hc5_42, if_neg hc28_45] <;> rfl, K47, (by simp only [own_tw0, own_tw1, if_neg hc5_42, if_neg hc28_45]; exact V47)⟩
theorem dd49 : own_dec prog_42_method_7_code [(0, .aload_n 0, 1), (1, .getfield 7, 3), (4, .iconst 0, 1), (5, .laload, 1), (6, .lconst 0, 1), (7, .lcmp, 1), (8, .ifCond .eq 13, 3), (11, .aload_n 0, 1), (12, .getfield 7, 3), (15, .iconst 0, 1), (16, .laload, 1), (17, .invokestatic 29, 3), (20, .ireturn, 1), (21, .aload_n 0, 1), (22, .getfield 7, 3), (25, .iconst 1, 1), (26, .laload, 1), (27, .lconst 0, 1), (28, .lcmp, 1), (29, .ifCond .eq 16, 3), (32, .bipush 64, 2), (34, .aload_n 0, 1), (35, .getfield 7, 3), (38, .iconst 1, 1), (39, .laload, 1), (40, .invokestatic 29, 3), (43, .iadd, 1), (44, .ireturn, 1), (45, .new 53, 3), (48, .dup, 1), (49, .ldc 55, 2), (51, .invokespecial 57, 3), (54, .athrow, 1)] := by unfold own_dec; decide +kernel
theorem ef_low (m : MethodId) (r0 : Addr) : entryFrame m #[(.ref r0)] 1 = mkF m 0 #[vR r0] [] := by first | (simp [entryFrame, mkF, argsToLocals, Value.category, vI, vR, vU]; done) | rfl
theorem pd_3 : parseMethodDescriptor "(J)I" = some ⟨[.long], some .int⟩ := by decide +kernel
def flow (w0 : Int64) (w1 : Int64) : Int32 := (if w0 = (0 : Int64) then ((64 : Int32) + (fntl w1)) else (fntl w0))
def Qlow (Z : State) (r0 : Addr) (wa : Addr) (kW : ClassId) (w0 : Int64) (w1 : Int64) (h0 : Heap) (n0 : Nat) (v : Option Value) (h : Heap) (L : List Loc) : Prop := Fr n0 L ∧ v = some (.int (flow w0 w1)) ∧ h = h0
set_option maxRecDepth 65536 in
set_option maxHeartbeats 40000000 in
theorem rmlow (l : Launch) (Z : State) (a0 : Array Value) (hw : ∀ d ∈ tables_1, d.before a0 Z = true) (ws : List Jvm.Cond) (r0 : Addr) (wa : Addr) (kW : ClassId) (w0 : Int64) (w1 : Int64) (h0 : Heap) (n0 : Nat) (Z0 : n0 ≤ h0.size) (P0 : Fld Z h0 r0 "com/example/sixfold/sixfold/rows/CardSet" "words" "[J" (.ref wa)) (P1 : Arv Z h0 wa kW .long (2 : Int32) [(.long w0), (.long w1)] (.long (0 : Int64))) (hne : ¬ (w0 = (0 : Int64) ∧ w1 = (0 : Int64))) :
    own_Cw l Z (⟨"com/example/sixfold/sixfold/rows/CardSet", "lowest", "()I"⟩ : MethodName) prog_42_method_7_code 1 (some .int) ws (own_rr 2 0 0 29) #[(.ref r0)] h0 (Qlow Z r0 wa kW w0 w1 h0 n0) := by
  refine own_body (plainFor_of_name pn_com_example_sixfold_sixfold_rows_CardSet) ?_
  intro p e s m below meth c s₁ hx hby hml hZ hown hnm hret hlk X0 e0
  have N0 := Fr.nil n0
  refine own_go (fun t k => castTop (ef_low m r0) k) ?_
  refine sa X0 hx (dx hby dd49 0) ?_
  show own_Gl _ _ _ _ (s₁.setTop (mkF m 1 #[vR r0] [(.ref r0)]))
  refine oc_getF X0 hx hZ hown (host := "") (Or.inl (wx hw 103)) Via.refl e0 P0 (dx hby dd49 1) (fun T41 X41 e41 => ?_)
  refine sc X41 hx (dx hby dd49 2) ?_
  show own_Gl _ _ _ _ (T41.setTop (mkF m 5 #[vR r0] [(.int (0 : Int32)), (.ref wa)]))
  refine oc_laload X41 hx hZ e41 P1 ⟨by decide, by decide⟩ rfl (dx hby dd49 3) ?_
  refine og (XS.lconst X41.here hx rfl (dx hby dd49 4)) ?_
  refine og (XS.lcmp X41.here hx rfl (dx hby dd49 5) rfl) ?_
  by_cases hc8_43 : w0 = (0 : Int64)
  · refine og (XS.ifYes X41.here hx rfl (pc0 := 8) (pc' := 21) rfl (dx hby dd49 6) rfl ((if0 _ _).trans (teq ((lw_eq w0 (0 : Int64)).mpr hc8_43)).1) (by decide) (by decide)) ?_
    refine sa X41 hx (dx hby dd49 13) ?_
    refine oc_getF X41 hx hZ hown (host := "") (Or.inl (wx hw 103)) Via.refl e41 P0 (dx hby dd49 14) (fun T44 X44 e44 => ?_)
    refine sc X44 hx (dx hby dd49 15) ?_
    show own_Gl _ _ _ _ (T44.setTop (mkF m 26 #[vR r0] [(.int (1 : Int32)), (.ref wa)]))
    refine oc_laload X44 hx hZ e44 P1 ⟨by decide, by decide⟩ rfl (dx hby dd49 16) ?_
    refine og (XS.lconst X44.here hx rfl (dx hby dd49 17)) ?_
    refine og (XS.lcmp X44.here hx rfl (dx hby dd49 18) rfl) ?_
    have hp46 : ¬ (w1 = (0 : Int64)) := fun q => hne ⟨hc8_43, q⟩
    refine og (XS.ifNo X44.here hx rfl (dx hby dd49 19) rfl ((if0 _ _).trans (feq (fun q => hp46 ((lw_eq w1 (0 : Int64)).mp q))).1)) ?_
    refine og (XS.bipush X44.here hx rfl (dx hby dd49 20)) ?_
    refine sa X44 hx (dx hby dd49 21) ?_
    refine oc_getF X44 hx hZ hown (host := "") (Or.inl (wx hw 103)) Via.refl e44 P0 (dx hby dd49 22) (fun T47 X47 e47 => ?_)
    refine sc X47 hx (dx hby dd49 23) ?_
    show own_Gl _ _ _ _ (T47.setTop (mkF m 39 #[vR r0] [(.int (1 : Int32)), (.ref wa), (.int (64 : Int32))]))
    refine oc_laload X47 hx hZ e47 P1 ⟨by decide, by decide⟩ rfl (dx hby dd49 24) ?_
    refine oc_static X47 hx hZ hown (wx hw 357) (wx hw 358) (wx hw 359) (wx hw 360) (by decide) (W := 1) (rmntl l Z a0 hw [] w1 h0 n0 Z0 ) (by decide) (by decide) (argsL := [(.long w1)]) (rest := [(.int (64 : Int32))]) (by rw [hml]; rfl) (lenOf pd_3 rfl) rfl (Nat.le_of_eq rfl) (dx hby dd49 25) rfl e47 (by decide) (by decide) (fun v49 T49 Lc49 hQ49 X49 => ?_)
    obtain ⟨N49q, rfl, hq49⟩ := hQ49
    have N49 := Fr.app N0 N49q
    refine og (XS.iadd X49.here hx rfl (dx hby dd49 26) rfl) ?_
    show own_Gl _ _ _ _ (T49.setTop (mkF m 44 #[vR r0] [(.int ((64 : Int32) + (fntl w1)))]))
    exact own_retW X49 hx hret hlk rfl (Or.inl ⟨rfl, Or.inl rfl, _, rfl⟩) (dx hby dd49 27) hq49 (by decide) (by decide) ⟨N49, by rw [flow, if_pos hc8_43], rfl⟩
  · refine og (XS.ifNo X41.here hx rfl (dx hby dd49 6) rfl ((if0 _ _).trans (feq (fun q => hc8_43 ((lw_eq w0 (0 : Int64)).mp q))).1)) ?_
    refine sa X41 hx (dx hby dd49 7) ?_
    refine oc_getF X41 hx hZ hown (host := "") (Or.inl (wx hw 103)) Via.refl e41 P0 (dx hby dd49 8) (fun T50 X50 e50 => ?_)
    refine sc X50 hx (dx hby dd49 9) ?_
    show own_Gl _ _ _ _ (T50.setTop (mkF m 16 #[vR r0] [(.int (0 : Int32)), (.ref wa)]))
    refine oc_laload X50 hx hZ e50 P1 ⟨by decide, by decide⟩ rfl (dx hby dd49 10) ?_
    refine oc_static X50 hx hZ hown (wx hw 357) (wx hw 358) (wx hw 359) (wx hw 360) (by decide) (W := 0) (rmntl l Z a0 hw [] w0 h0 n0 Z0 ) (by decide) (by decide) (argsL := [(.long w0)]) (rest := []) (by rw [hml]; rfl) (lenOf pd_3 rfl) rfl (Nat.le_of_eq rfl) (dx hby dd49 11) rfl e50 (by decide) (by decide) (fun v52 T52 Lc52 hQ52 X52 => ?_)
    obtain ⟨N52q, rfl, hq52⟩ := hQ52
    have N52 := Fr.app N0 N52q
    show own_Gl _ _ _ _ (T52.setTop (mkF m 20 #[vR r0] [(.int (fntl w0))]))
    exact own_retW X52 hx hret hlk rfl (Or.inl ⟨rfl, Or.inl rfl, _, rfl⟩) (dx hby dd49 12) hq52 (by decide) (by decide) ⟨N52, by rw [flow, if_neg hc8_43], rfl⟩
theorem dd57 : own_dec prog_42_method_8_code [(0, .iload_n 1, 1), (1, .invokestatic 44, 3), (4, .pop, 1), (5, .lconst 1, 1), (6, .iload_n 1, 1), (7, .lshl, 1), (8, .lconst 1, 1), (9, .lsub, 1), (10, .lstore_n 2, 1), (11, .iload_n 1, 1), (12, .bipush 64, 2), (14, .if_icmp .lt 14, 3), (17, .aload_n 0, 1), (18, .getfield 7, 3), (21, .iconst 1, 1), (22, .laload, 1), (23, .lload_n 2, 1), (24, .land, 1), (25, .goto 4, 3), (28, .lconst 0, 1), (29, .lstore 4, 2), (31, .iload_n 1, 1), (32, .bipush 64, 2), (34, .if_icmp .lt 12, 3), (37, .aload_n 0, 1), (38, .getfield 7, 3), (41, .iconst 0, 1), (42, .laload, 1), (43, .goto 11, 3), (46, .aload_n 0, 1), (47, .getfield 7, 3), (50, .iconst 0, 1), (51, .laload, 1), (52, .lload_n 2, 1), (53, .land, 1), (54, .lstore 6, 2), (56, .lload 4, 2), (58, .lconst 0, 1), (59, .lcmp, 1), (60, .ifCond .eq 12, 3), (63, .bipush 127, 2), (65, .lload 4, 2), (67, .invokestatic 60, 3), (70, .isub, 1), (71, .ireturn, 1), (72, .lload 6, 2), (74, .lconst 0, 1), (75, .lcmp, 1), (76, .ifCond .eq 12, 3), (79, .bipush 63, 2), (81, .lload 6, 2), (83, .invokestatic 60, 3), (86, .isub, 1), (87, .ireturn, 1), (88, .iconst 0, 1), (89, .ireturn, 1)] := by unfold own_dec; decide +kernel
theorem ef_hb (m : MethodId) (r0 : Addr) (p0 : Int32) : entryFrame m #[(.ref r0), (.int p0)] 8 = mkF m 0 #[vR r0, vI p0, vU, vU, vU, vU, vU, vU] [] := by first | (simp [entryFrame, mkF, argsToLocals, Value.category, vI, vR, vU]; done) | rfl
def fhb (p0 : Int32) (w0 : Int64) (w1 : Int64) : Int32 := (if p0 < (64 : Int32) then (if (w0 &&& (((1 : Int64) <<< (p0 &&& 0x3f).toInt64) - (1 : Int64))) = (0 : Int64) then (0 : Int32) else ((63 : Int32) - (fnll (w0 &&& (((1 : Int64) <<< (p0 &&& 0x3f).toInt64) - (1 : Int64)))))) else (if (w1 &&& (((1 : Int64) <<< (p0 &&& 0x3f).toInt64) - (1 : Int64))) = (0 : Int64) then (if w0 = (0 : Int64) then (0 : Int32) else ((63 : Int32) - (fnll w0))) else ((127 : Int32) - (fnll (w1 &&& (((1 : Int64) <<< (p0 &&& 0x3f).toInt64) - (1 : Int64)))))))
def Qhb (Z : State) (r0 : Addr) (p0 : Int32) (wa : Addr) (kW : ClassId) (w0 : Int64) (w1 : Int64) (h0 : Heap) (n0 : Nat) (v : Option Value) (h : Heap) (L : List Loc) : Prop := Fr n0 L ∧ v = some (.int (fhb p0 w0 w1)) ∧ h = h0
set_option maxRecDepth 65536 in
set_option maxHeartbeats 40000000 in
theorem rmhb (l : Launch) (Z : State) (a0 : Array Value) (hw : ∀ d ∈ tables_1, d.before a0 Z = true) (ws : List Jvm.Cond) (r0 : Addr) (p0 : Int32) (wa : Addr) (kW : ClassId) (w0 : Int64) (w1 : Int64) (h0 : Heap) (n0 : Nat) (Z0 : n0 ≤ h0.size) (P0 : Fld Z h0 r0 "com/example/sixfold/sixfold/rows/CardSet" "words" "[J" (.ref wa)) (P1 : Arv Z h0 wa kW .long (2 : Int32) [(.long w0), (.long w1)] (.long (0 : Int64))) (hc : 1 ≤ p0.toInt ∧ p0.toInt ≤ 104) :
    own_Cw l Z (⟨"com/example/sixfold/sixfold/rows/CardSet", "highestBelow", "(I)I"⟩ : MethodName) prog_42_method_8_code 8 (some .int) ws (own_rr 2 0 0 29) #[(.ref r0), (.int p0)] h0 (Qhb Z r0 p0 wa kW w0 w1 h0 n0) := by
  refine own_body (plainFor_of_name pn_com_example_sixfold_sixfold_rows_CardSet) ?_
  intro p e s m below meth c s₁ hx hby hml hZ hown hnm hret hlk X0 e0
  have N0 := Fr.nil n0
  refine own_go (fun t k => castTop (ef_hb m r0 p0) k) ?_
  refine si X0 hx (dx hby dd57 0) ?_
  show own_Gl _ _ _ _ (s₁.setTop (mkF m 1 #[vR r0, vI p0, vU, vU, vU, vU, vU, vU] [(.int p0)]))
  refine oc_static X0 hx hZ hown (wx hw 297) (wx hw 298) (wx hw 284) (wx hw 299) (by decide) (W := 0) (rmchk l Z a0 hw [] p0 h0 n0 Z0 hc) (by decide) (by decide) (argsL := [(.int p0)]) (rest := []) (by rw [hml]; rfl) (lenOf pd_2 rfl) rfl (Nat.le_of_eq rfl) (dx hby dd57 1) rfl e0 (by decide) (by decide) (fun v41 T41 Lc41 hQ41 X41 => ?_)
  obtain ⟨N41q, rfl, hq41⟩ := hQ41
  have N41 := Fr.app N0 N41q
  refine og (XS.pop X41.here hx rfl (dx hby dd57 2) rfl rfl) ?_
  refine og (XS.lconst X41.here hx rfl (dx hby dd57 3)) ?_
  refine si X41 hx (dx hby dd57 4) ?_
  refine og (XS.lshl X41.here hx rfl (dx hby dd57 5) rfl) ?_
  refine og (XS.lconst X41.here hx rfl (dx hby dd57 6)) ?_
  refine og (XS.lsub X41.here hx rfl (dx hby dd57 7) rfl) ?_
  refine og (XS.lstoreN X41.here hx rfl (dx hby dd57 8) rfl (l' := #[vR r0, vI p0, .val (.long (((1 : Int64) <<< (p0 &&& 0x3f).toInt64) - (1 : Int64))), .second, vU, vU, vU, vU]) rfl) ?_
  refine si X41 hx (dx hby dd57 9) ?_
  refine og (XS.bipush X41.here hx rfl (dx hby dd57 10)) ?_
  by_cases hc14_42 : p0 < (64 : Int32)
  · refine og (XS.icmpYes X41.here hx rfl (pc0 := 14) (pc' := 28) rfl (dx hby dd57 11) rfl (tlt hc14_42).1 (by decide) (by decide)) ?_
    show own_Gl _ _ _ _ (T41.setTop (mkF m 28 #[vR r0, vI p0, .val (.long (((1 : Int64) <<< (p0 &&& 0x3f).toInt64) - (1 : Int64))), .second, vU, vU, vU, vU] []))
    refine og (XS.lconst X41.here hx rfl (dx hby dd57 19)) ?_
    refine og (XS.lstore X41.here hx rfl (dx hby dd57 20) rfl (l' := #[vR r0, vI p0, .val (.long (((1 : Int64) <<< (p0 &&& 0x3f).toInt64) - (1 : Int64))), .second, .val (.long (0 : Int64)), .second, vU, vU]) rfl) ?_
    refine si X41 hx (dx hby dd57 21) ?_
    refine og (XS.bipush X41.here hx rfl (dx hby dd57 22)) ?_
    refine og (XS.icmpYes X41.here hx rfl (pc0 := 34) (pc' := 46) rfl (dx hby dd57 23) rfl (tlt hc14_42).1 (by decide) (by decide)) ?_
    refine sa X41 hx (dx hby dd57 29) ?_
    refine oc_getF X41 hx hZ hown (host := "") (Or.inl (wx hw 103)) Via.refl hq41 P0 (dx hby dd57 30) (fun T43 X43 e43 => ?_)
    refine sc X43 hx (dx hby dd57 31) ?_
    show own_Gl _ _ _ _ (T43.setTop (mkF m 51 #[vR r0, vI p0, .val (.long (((1 : Int64) <<< (p0 &&& 0x3f).toInt64) - (1 : Int64))), .second, .val (.long (0 : Int64)), .second, vU, vU] [(.int (0 : Int32)), (.ref wa)]))
    refine oc_laload X43 hx hZ e43 P1 ⟨by decide, by decide⟩ rfl (dx hby dd57 32) ?_
    refine og (XS.lloadN X43.here hx rfl (dx hby dd57 33) rfl) ?_
    refine og (XS.land X43.here hx rfl (dx hby dd57 34) rfl) ?_
    refine og (XS.lstore X43.here hx rfl (dx hby dd57 35) rfl (l' := #[vR r0, vI p0, .val (.long (((1 : Int64) <<< (p0 &&& 0x3f).toInt64) - (1 : Int64))), .second, .val (.long (0 : Int64)), .second, .val (.long (w0 &&& (((1 : Int64) <<< (p0 &&& 0x3f).toInt64) - (1 : Int64)))), .second]) rfl) ?_
    refine og (XS.lload X43.here hx rfl (dx hby dd57 36) rfl) ?_
    refine og (XS.lconst X43.here hx rfl (dx hby dd57 37)) ?_
    refine og (XS.lcmp X43.here hx rfl (dx hby dd57 38) rfl) ?_
    refine og (XS.ifYes X43.here hx rfl (pc0 := 60) (pc' := 72) rfl (dx hby dd57 39) rfl ((if0 _ _).trans (teq ((lw_eq (0 : Int64) (0 : Int64)).mpr (rfl : (0 : Int64) = (0 : Int64)))).1) (by decide) (by decide)) ?_
    refine og (XS.lload X43.here hx rfl (dx hby dd57 45) rfl) ?_
    refine og (XS.lconst X43.here hx rfl (dx hby dd57 46)) ?_
    refine og (XS.lcmp X43.here hx rfl (dx hby dd57 47) rfl) ?_
    show own_Gl _ _ _ _ (T43.setTop (mkF m 76 #[vR r0, vI p0, .val (.long (((1 : Int64) <<< (p0 &&& 0x3f).toInt64) - (1 : Int64))), .second, .val (.long (0 : Int64)), .second, .val (.long (w0 &&& (((1 : Int64) <<< (p0 &&& 0x3f).toInt64) - (1 : Int64)))), .second] [(.int (lcmpW (w0 &&& (((1 : Int64) <<< (p0 &&& 0x3f).toInt64) - (1 : Int64))) (0 : Int64)))]))
    by_cases hc76_45 : (w0 &&& (((1 : Int64) <<< (p0 &&& 0x3f).toInt64) - (1 : Int64))) = (0 : Int64)
    · refine og (XS.ifYes X43.here hx rfl (pc0 := 76) (pc' := 88) rfl (dx hby dd57 48) rfl ((if0 _ _).trans (teq ((lw_eq (w0 &&& (((1 : Int64) <<< (p0 &&& 0x3f).toInt64) - (1 : Int64))) (0 : Int64)).mpr hc76_45)).1) (by decide) (by decide)) ?_
      refine sc X43 hx (dx hby dd57 54) ?_
      show own_Gl _ _ _ _ (T43.setTop (mkF m 89 #[vR r0, vI p0, .val (.long (((1 : Int64) <<< (p0 &&& 0x3f).toInt64) - (1 : Int64))), .second, .val (.long (0 : Int64)), .second, .val (.long (w0 &&& (((1 : Int64) <<< (p0 &&& 0x3f).toInt64) - (1 : Int64)))), .second] [(.int (0 : Int32))]))
      exact own_retW X43 hx hret hlk rfl (Or.inl ⟨rfl, Or.inl rfl, _, rfl⟩) (dx hby dd57 55) e43 (by decide) (by decide) ⟨N41, by rw [fhb, if_pos hc14_42, if_pos hc76_45], rfl⟩
    · refine og (XS.ifNo X43.here hx rfl (dx hby dd57 48) rfl ((if0 _ _).trans (feq (fun q => hc76_45 ((lw_eq (w0 &&& (((1 : Int64) <<< (p0 &&& 0x3f).toInt64) - (1 : Int64))) (0 : Int64)).mp q))).1)) ?_
      refine og (XS.bipush X43.here hx rfl (dx hby dd57 49)) ?_
      refine og (XS.lload X43.here hx rfl (dx hby dd57 50) rfl) ?_
      refine oc_static X43 hx hZ hown (wx hw 421) (wx hw 422) (wx hw 359) (wx hw 423) (by decide) (W := 1) (rmnll l Z a0 hw [] (w0 &&& (((1 : Int64) <<< (p0 &&& 0x3f).toInt64) - (1 : Int64))) h0 n0 Z0 ) (by decide) (by decide) (argsL := [(.long (w0 &&& (((1 : Int64) <<< (p0 &&& 0x3f).toInt64) - (1 : Int64))))]) (rest := [(.int (63 : Int32))]) (by rw [hml]; rfl) (lenOf pd_3 rfl) rfl (Nat.le_of_eq rfl) (dx hby dd57 51) rfl e43 (by decide) (by decide) (fun v46 T46 Lc46 hQ46 X46 => ?_)
      obtain ⟨N46q, rfl, hq46⟩ := hQ46
      have N46 := Fr.app N41 N46q
      refine og (XS.isub X46.here hx rfl (dx hby dd57 52) rfl) ?_
      show own_Gl _ _ _ _ (T46.setTop (mkF m 87 #[vR r0, vI p0, .val (.long (((1 : Int64) <<< (p0 &&& 0x3f).toInt64) - (1 : Int64))), .second, .val (.long (0 : Int64)), .second, .val (.long (w0 &&& (((1 : Int64) <<< (p0 &&& 0x3f).toInt64) - (1 : Int64)))), .second] [(.int ((63 : Int32) - (fnll (w0 &&& (((1 : Int64) <<< (p0 &&& 0x3f).toInt64) - (1 : Int64))))))]))
      exact own_retW X46 hx hret hlk rfl (Or.inl ⟨rfl, Or.inl rfl, _, rfl⟩) (dx hby dd57 53) hq46 (by decide) (by decide) ⟨N46, by rw [fhb, if_pos hc14_42, if_neg hc76_45], rfl⟩
  · refine og (XS.icmpNo X41.here hx rfl (dx hby dd57 11) rfl (flt hc14_42).1) ?_
    show own_Gl _ _ _ _ (T41.setTop (mkF m 17 #[vR r0, vI p0, .val (.long (((1 : Int64) <<< (p0 &&& 0x3f).toInt64) - (1 : Int64))), .second, vU, vU, vU, vU] []))
    refine sa X41 hx (dx hby dd57 12) ?_
    refine oc_getF X41 hx hZ hown (host := "") (Or.inl (wx hw 103)) Via.refl hq41 P0 (dx hby dd57 13) (fun T47 X47 e47 => ?_)
    refine sc X47 hx (dx hby dd57 14) ?_
    show own_Gl _ _ _ _ (T47.setTop (mkF m 22 #[vR r0, vI p0, .val (.long (((1 : Int64) <<< (p0 &&& 0x3f).toInt64) - (1 : Int64))), .second, vU, vU, vU, vU] [(.int (1 : Int32)), (.ref wa)]))
    refine oc_laload X47 hx hZ e47 P1 ⟨by decide, by decide⟩ rfl (dx hby dd57 15) ?_
    refine og (XS.lloadN X47.here hx rfl (dx hby dd57 16) rfl) ?_
    refine og (XS.land X47.here hx rfl (dx hby dd57 17) rfl) ?_
    refine og (XS.goto X47.here hx rfl (pc0 := 25) (pc' := 29) rfl (dx hby dd57 18) (by decide) (by decide)) ?_
    refine og (XS.lstore X47.here hx rfl (dx hby dd57 20) rfl (l' := #[vR r0, vI p0, .val (.long (((1 : Int64) <<< (p0 &&& 0x3f).toInt64) - (1 : Int64))), .second, .val (.long (w1 &&& (((1 : Int64) <<< (p0 &&& 0x3f).toInt64) - (1 : Int64)))), .second, vU, vU]) rfl) ?_
    refine si X47 hx (dx hby dd57 21) ?_
    refine og (XS.bipush X47.here hx rfl (dx hby dd57 22)) ?_
    refine og (XS.icmpNo X47.here hx rfl (dx hby dd57 23) rfl (flt hc14_42).1) ?_
    refine sa X47 hx (dx hby dd57 24) ?_
    refine oc_getF X47 hx hZ hown (host := "") (Or.inl (wx hw 103)) Via.refl e47 P0 (dx hby dd57 25) (fun T49 X49 e49 => ?_)
    refine sc X49 hx (dx hby dd57 26) ?_
    show own_Gl _ _ _ _ (T49.setTop (mkF m 42 #[vR r0, vI p0, .val (.long (((1 : Int64) <<< (p0 &&& 0x3f).toInt64) - (1 : Int64))), .second, .val (.long (w1 &&& (((1 : Int64) <<< (p0 &&& 0x3f).toInt64) - (1 : Int64)))), .second, vU, vU] [(.int (0 : Int32)), (.ref wa)]))
    refine oc_laload X49 hx hZ e49 P1 ⟨by decide, by decide⟩ rfl (dx hby dd57 27) ?_
    refine og (XS.goto X49.here hx rfl (pc0 := 43) (pc' := 54) rfl (dx hby dd57 28) (by decide) (by decide)) ?_
    refine og (XS.lstore X49.here hx rfl (dx hby dd57 35) rfl (l' := #[vR r0, vI p0, .val (.long (((1 : Int64) <<< (p0 &&& 0x3f).toInt64) - (1 : Int64))), .second, .val (.long (w1 &&& (((1 : Int64) <<< (p0 &&& 0x3f).toInt64) - (1 : Int64)))), .second, .val (.long w0), .second]) rfl) ?_
    refine og (XS.lload X49.here hx rfl (dx hby dd57 36) rfl) ?_
    refine og (XS.lconst X49.here hx rfl (dx hby dd57 37)) ?_
    refine og (XS.lcmp X49.here hx rfl (dx hby dd57 38) rfl) ?_
    by_cases hc60_51 : (w1 &&& (((1 : Int64) <<< (p0 &&& 0x3f).toInt64) - (1 : Int64))) = (0 : Int64)
    · refine og (XS.ifYes X49.here hx rfl (pc0 := 60) (pc' := 72) rfl (dx hby dd57 39) rfl ((if0 _ _).trans (teq ((lw_eq (w1 &&& (((1 : Int64) <<< (p0 &&& 0x3f).toInt64) - (1 : Int64))) (0 : Int64)).mpr hc60_51)).1) (by decide) (by decide)) ?_
      refine og (XS.lload X49.here hx rfl (dx hby dd57 45) rfl) ?_
      refine og (XS.lconst X49.here hx rfl (dx hby dd57 46)) ?_
      refine og (XS.lcmp X49.here hx rfl (dx hby dd57 47) rfl) ?_
      by_cases hc76_52 : w0 = (0 : Int64)
      · refine og (XS.ifYes X49.here hx rfl (pc0 := 76) (pc' := 88) rfl (dx hby dd57 48) rfl ((if0 _ _).trans (teq ((lw_eq w0 (0 : Int64)).mpr hc76_52)).1) (by decide) (by decide)) ?_
        show own_Gl _ _ _ _ (T49.setTop (mkF m 88 #[vR r0, vI p0, .val (.long (((1 : Int64) <<< (p0 &&& 0x3f).toInt64) - (1 : Int64))), .second, .val (.long (w1 &&& (((1 : Int64) <<< (p0 &&& 0x3f).toInt64) - (1 : Int64)))), .second, .val (.long w0), .second] []))
        refine sc X49 hx (dx hby dd57 54) ?_
        show own_Gl _ _ _ _ (T49.setTop (mkF m 89 #[vR r0, vI p0, .val (.long (((1 : Int64) <<< (p0 &&& 0x3f).toInt64) - (1 : Int64))), .second, .val (.long (w1 &&& (((1 : Int64) <<< (p0 &&& 0x3f).toInt64) - (1 : Int64)))), .second, .val (.long w0), .second] [(.int (0 : Int32))]))
        exact own_retW X49 hx hret hlk rfl (Or.inl ⟨rfl, Or.inl rfl, _, rfl⟩) (dx hby dd57 55) e49 (by decide) (by decide) ⟨N41, by rw [fhb, if_neg hc14_42, if_pos hc60_51, if_pos hc76_52], rfl⟩
      · refine og (XS.ifNo X49.here hx rfl (dx hby dd57 48) rfl ((if0 _ _).trans (feq (fun q => hc76_52 ((lw_eq w0 (0 : Int64)).mp q))).1)) ?_
        show own_Gl _ _ _ _ (T49.setTop (mkF m 79 #[vR r0, vI p0, .val (.long (((1 : Int64) <<< (p0 &&& 0x3f).toInt64) - (1 : Int64))), .second, .val (.long (w1 &&& (((1 : Int64) <<< (p0 &&& 0x3f).toInt64) - (1 : Int64)))), .second, .val (.long w0), .second] []))
        refine og (XS.bipush X49.here hx rfl (dx hby dd57 49)) ?_
        refine og (XS.lload X49.here hx rfl (dx hby dd57 50) rfl) ?_
        refine oc_static X49 hx hZ hown (wx hw 421) (wx hw 422) (wx hw 359) (wx hw 423) (by decide) (W := 1) (rmnll l Z a0 hw [] w0 h0 n0 Z0 ) (by decide) (by decide) (argsL := [(.long w0)]) (rest := [(.int (63 : Int32))]) (by rw [hml]; rfl) (lenOf pd_3 rfl) rfl (Nat.le_of_eq rfl) (dx hby dd57 51) rfl e49 (by decide) (by decide) (fun v53 T53 Lc53 hQ53 X53 => ?_)
        obtain ⟨N53q, rfl, hq53⟩ := hQ53
        have N53 := Fr.app N41 N53q
        refine og (XS.isub X53.here hx rfl (dx hby dd57 52) rfl) ?_
        show own_Gl _ _ _ _ (T53.setTop (mkF m 87 #[vR r0, vI p0, .val (.long (((1 : Int64) <<< (p0 &&& 0x3f).toInt64) - (1 : Int64))), .second, .val (.long (w1 &&& (((1 : Int64) <<< (p0 &&& 0x3f).toInt64) - (1 : Int64)))), .second, .val (.long w0), .second] [(.int ((63 : Int32) - (fnll w0)))]))
        exact own_retW X53 hx hret hlk rfl (Or.inl ⟨rfl, Or.inl rfl, _, rfl⟩) (dx hby dd57 53) hq53 (by decide) (by decide) ⟨N53, by rw [fhb, if_neg hc14_42, if_pos hc60_51, if_neg hc76_52], rfl⟩
    · refine og (XS.ifNo X49.here hx rfl (dx hby dd57 39) rfl ((if0 _ _).trans (feq (fun q => hc60_51 ((lw_eq (w1 &&& (((1 : Int64) <<< (p0 &&& 0x3f).toInt64) - (1 : Int64))) (0 : Int64)).mp q))).1)) ?_
      refine og (XS.bipush X49.here hx rfl (dx hby dd57 40)) ?_
      refine og (XS.lload X49.here hx rfl (dx hby dd57 41) rfl) ?_
      refine oc_static X49 hx hZ hown (wx hw 421) (wx hw 422) (wx hw 359) (wx hw 423) (by decide) (W := 1) (rmnll l Z a0 hw [] (w1 &&& (((1 : Int64) <<< (p0 &&& 0x3f).toInt64) - (1 : Int64))) h0 n0 Z0 ) (by decide) (by decide) (argsL := [(.long (w1 &&& (((1 : Int64) <<< (p0 &&& 0x3f).toInt64) - (1 : Int64))))]) (rest := [(.int (127 : Int32))]) (by rw [hml]; rfl) (lenOf pd_3 rfl) rfl (Nat.le_of_eq rfl) (dx hby dd57 42) rfl e49 (by decide) (by decide) (fun v54 T54 Lc54 hQ54 X54 => ?_)
      obtain ⟨N54q, rfl, hq54⟩ := hQ54
      have N54 := Fr.app N41 N54q
      refine og (XS.isub X54.here hx rfl (dx hby dd57 43) rfl) ?_
      show own_Gl _ _ _ _ (T54.setTop (mkF m 71 #[vR r0, vI p0, .val (.long (((1 : Int64) <<< (p0 &&& 0x3f).toInt64) - (1 : Int64))), .second, .val (.long (w1 &&& (((1 : Int64) <<< (p0 &&& 0x3f).toInt64) - (1 : Int64)))), .second, .val (.long w0), .second] [(.int ((127 : Int32) - (fnll (w1 &&& (((1 : Int64) <<< (p0 &&& 0x3f).toInt64) - (1 : Int64))))))]))
      exact own_retW X54 hx hret hlk rfl (Or.inl ⟨rfl, Or.inl rfl, _, rfl⟩) (dx hby dd57 44) hq54 (by decide) (by decide) ⟨N54, by rw [fhb, if_neg hc14_42, if_neg hc60_51], rfl⟩
theorem dd27 : own_dec prog_42_method_12_code [(0, .aload_n 0, 1), (1, .getfield 7, 3), (4, .iconst 0, 1), (5, .lconst 0, 1), (6, .lastore, 1), (7, .aload_n 0, 1), (8, .getfield 7, 3), (11, .iconst 1, 1), (12, .lconst 0, 1), (13, .lastore, 1), (14, .return_, 1)] := by unfold own_dec; decide +kernel
theorem ef_cse (m : MethodId) (r0 : Addr) : entryFrame m #[(.ref r0)] 1 = mkF m 0 #[vR r0] [] := by first | (simp [entryFrame, mkF, argsToLocals, Value.category, vI, vR, vU]; done) | rfl
def Qcse (Z : State) (r0 : Addr) (wa : Addr) (kW : ClassId) (w0 : Int64) (w1 : Int64) (h0 : Heap) (n0 : Nat) (v : Option Value) (h : Heap) (L : List Loc) : Prop := Fr n0 L ∧ v = none ∧ Keep h0 h [wa] ∧ Arv Z h wa kW .long (2 : Int32) [(.long (0 : Int64)), (.long (0 : Int64))] (.long (0 : Int64))
set_option maxRecDepth 65536 in
set_option maxHeartbeats 40000000 in
theorem rmcse (l : Launch) (Z : State) (a0 : Array Value) (hw : ∀ d ∈ tables_1, d.before a0 Z = true) (ws : List Jvm.Cond) (r0 : Addr) (wa : Addr) (kW : ClassId) (w0 : Int64) (w1 : Int64) (h0 : Heap) (n0 : Nat) (Z0 : n0 ≤ h0.size) (P0 : Fld Z h0 r0 "com/example/sixfold/sixfold/rows/CardSet" "words" "[J" (.ref wa)) (P1 : Arv Z h0 wa kW .long (2 : Int32) [(.long w0), (.long w1)] (.long (0 : Int64))) (ne0 : r0 ≠ wa) (ge_wa : n0 ≤ wa) :
    own_Cw l Z (⟨"com/example/sixfold/sixfold/rows/CardSet", "empty", "()V"⟩ : MethodName) prog_42_method_12_code 1 none ws (own_rr 0 0 0 0) #[(.ref r0)] h0 (Qcse Z r0 wa kW w0 w1 h0 n0) := by
  refine own_body (plainFor_of_name pn_com_example_sixfold_sixfold_rows_CardSet) ?_
  intro p e s m below meth c s₁ hx hby hml hZ hown hnm hret hlk X0 e0
  have N0 := Fr.nil n0
  refine own_go (fun t k => castTop (ef_cse m r0) k) ?_
  refine sa X0 hx (dx hby dd27 0) ?_
  refine oc_getF X0 hx hZ hown (host := "") (Or.inl (wx hw 103)) Via.refl e0 P0 (dx hby dd27 1) (fun T41 X41 e41 => ?_)
  refine sc X41 hx (dx hby dd27 2) ?_
  refine og (XS.lconst X41.here hx rfl (dx hby dd27 3)) ?_
  show own_Gl _ _ _ _ (T41.setTop (mkF m 6 #[vR r0] [(.long (0 : Int64)), (.int (0 : Int32)), (.ref wa)]))
  refine oc_lastore X41 hx hZ e41 P1 ⟨by decide, by decide⟩ 0 rfl (Nat.le_of_ble_eq_true rfl) (dx hby dd27 4) (fun T42 h42 X42 e42 W42 V42 => ?_)
  have V42 : Arv Z h42 wa kW .long (2 : Int32) [(.long (0 : Int64)), (.long w1)] (.long (0 : Int64)) := V42
  have K42 : Keep h0 h42 [wa] := (Keep.refl h0 [wa]).wr W42 (Or.inl (List.mem_of_getElem? (i := 0) rfl))
  have N42 := Fr.snoc X42 N0 ge_wa
  have Z42 : n0 ≤ h42.size := Nat.le_trans Z0 (Keep.of_wr W42).1
  refine sa X42 hx (dx hby dd27 5) ?_
  have f_44 := P0.other W42 (Or.inl ne0)
  refine oc_getF X42 hx hZ hown (host := "") (Or.inl (wx hw 103)) Via.refl e42 f_44 (dx hby dd27 6) (fun T43 X43 e43 => ?_)
  refine sc X43 hx (dx hby dd27 7) ?_
  refine og (XS.lconst X43.here hx rfl (dx hby dd27 8)) ?_
  show own_Gl _ _ _ _ (T43.setTop (mkF m 13 #[vR r0] [(.long (0 : Int64)), (.int (1 : Int32)), (.ref wa)]))
  refine oc_lastore X43 hx hZ e43 V42 ⟨by decide, by decide⟩ 1 rfl (Nat.le_of_ble_eq_true rfl) (dx hby dd27 9) (fun T45 h45 X45 e45 W45 V45 => ?_)
  have V45 : Arv Z h45 wa kW .long (2 : Int32) [(.long (0 : Int64)), (.long (0 : Int64))] (.long (0 : Int64)) := V45
  have K45 : Keep h0 h45 [wa] := K42.wr W45 (Or.inl (List.mem_of_getElem? (i := 0) rfl))
  have N45 := Fr.snoc X45 N42 ge_wa
  have Z45 : n0 ≤ h45.size := Nat.le_trans Z42 (Keep.of_wr W45).1
  exact own_retV X45 hx hret hlk (dx hby dd27 10) e45 (by decide) (by decide) ⟨N45, rfl, K45, V45⟩
theorem dd4 : own_dec jdk_22_method_1_code [(0, .aload_n 0, 1), (1, .invokespecial 1, 3), (4, .return_, 1)] := by unfold own_dec; decide +kernel
theorem pn_java_util_AbstractCollection : plainName "java/util/AbstractCollection" = true := by first | (simp [plainName, overriddenIn]; done) | decide +kernel
theorem ef_abc (m : MethodId) (r0 : Addr) : entryFrame m #[(.ref r0)] 1 = mkF m 0 #[vR r0] [] := by first | (simp [entryFrame, mkF, argsToLocals, Value.category, vI, vR, vU]; done) | rfl
def Qabc (Z : State) (r0 : Addr) (h0 : Heap) (n0 : Nat) (v : Option Value) (h : Heap) (L : List Loc) : Prop := Fr n0 L ∧ v = none ∧ h = h0
set_option maxRecDepth 65536 in
set_option maxHeartbeats 40000000 in
theorem rmabc (l : Launch) (Z : State) (a0 : Array Value) (hw : ∀ d ∈ tables_1, d.before a0 Z = true) (ws : List Jvm.Cond) (r0 : Addr) (h0 : Heap) (n0 : Nat) (Z0 : n0 ≤ h0.size)  :
    own_Cw l Z (⟨"java/util/AbstractCollection", "<init>", "()V"⟩ : MethodName) jdk_22_method_1_code 1 none ws (own_rr 1 0 0 12) #[(.ref r0)] h0 (Qabc Z r0 h0 n0) := by
  refine own_body (plainFor_of_name pn_java_util_AbstractCollection) ?_
  intro p e s m below meth c s₁ hx hby hml hZ hown hnm hret hlk X0 e0
  have N0 := Fr.nil n0
  refine own_go (fun t k => castTop (ef_abc m r0) k) ?_
  refine sa X0 hx (dx hby dd4 0) ?_
  obtain ⟨T41, X41, e41, st41⟩ := initO X0 hx hZ hown (wx hw 24) (wx hw 25) (wx hw 26) e0 (g := (mkF m 1 #[vR r0] [(.ref r0)])) rfl (by rw [hml]; rfl) rfl (dx hby dd4 1) (by decide) (W := 0) (by show 2 * 0 + _ ≤ _; exact Nat.le_of_eq rfl) (by decide)
  refine og (st41 _) ?_
  exact own_retV X41 hx hret hlk (dx hby dd4 2) e41 (by decide) (by decide) ⟨N0, rfl, rfl⟩
theorem dd3 : own_dec jdk_39_method_1_code [(0, .aload_n 0, 1), (1, .invokespecial 1, 3), (4, .aload_n 0, 1), (5, .iconst 0, 1), (6, .putfield 7, 3), (9, .return_, 1)] := by unfold own_dec; decide +kernel
theorem pn_java_util_AbstractList : plainName "java/util/AbstractList" = true := by first | (simp [plainName, overriddenIn]; done) | decide +kernel
theorem ef_abl_il (m : MethodId) (r0 : Addr) : entryFrame m #[(.ref r0)] 1 = mkF m 0 #[vR r0] [] := by first | (simp [entryFrame, mkF, argsToLocals, Value.category, vI, vR, vU]; done) | rfl
theorem pd_4 : parseMethodDescriptor "()V" = some ⟨[], none⟩ := by decide +kernel
def Qabl_il (Z : State) (r0 : Addr) (h0 : Heap) (n0 : Nat) (v : Option Value) (h : Heap) (L : List Loc) : Prop := Fr n0 L ∧ v = none ∧ Keep h0 h [r0] ∧ Fld Z h r0 "java/util/AbstractList" "modCount" "I" (.int (0 : Int32)) ∧ Fld Z h r0 "com/example/sixfold/sixfold/rows/IntList" "values" "[I" .null ∧ Fld Z h r0 "com/example/sixfold/sixfold/rows/IntList" "size" "I" (.int (0 : Int32))
set_option maxRecDepth 65536 in
set_option maxHeartbeats 40000000 in
theorem rmabl_il (l : Launch) (Z : State) (a0 : Array Value) (hw : ∀ d ∈ tables_1, d.before a0 Z = true) (ws : List Jvm.Cond) (r0 : Addr) (h0 : Heap) (n0 : Nat) (Z0 : n0 ≤ h0.size) (P0 : Exa Z h0 r0 "com/example/sixfold/sixfold/rows/IntList") (P1 : Fld Z h0 r0 "java/util/AbstractList" "modCount" "I" (.int (0 : Int32))) (P2 : Fld Z h0 r0 "com/example/sixfold/sixfold/rows/IntList" "values" "[I" .null) (P3 : Fld Z h0 r0 "com/example/sixfold/sixfold/rows/IntList" "size" "I" (.int (0 : Int32))) (ge_r0 : n0 ≤ r0) :
    own_Cw l Z (⟨"java/util/AbstractList", "<init>", "()V"⟩ : MethodName) jdk_39_method_1_code 1 none ws (own_rr 2 0 0 24) #[(.ref r0)] h0 (Qabl_il Z r0 h0 n0) := by
  refine own_body (plainFor_of_name pn_java_util_AbstractList) ?_
  intro p e s m below meth c s₁ hx hby hml hZ hown hnm hret hlk X0 e0
  have N0 := Fr.nil n0
  refine own_go (fun t k => castTop (ef_abl_il m r0) k) ?_
  refine sa X0 hx (dx hby dd3 0) ?_
  refine oc_special X0 hx hZ hown rfl (wx hw 18) (wx hw 19) (wx hw 22) (wx hw 23) (by decide) (W := 0) (rmabc l Z a0 hw [] r0 h0 n0 Z0 ) (by decide) (by decide) (a := r0) (argsL := []) (rest := []) (by rw [hml]; rfl) (lenOf pd_4 rfl) rfl (Nat.le_of_eq rfl) (dx hby dd3 1) rfl e0 (by decide) (by decide) (fun v41 T41 Lc41 hQ41 X41 => ?_)
  obtain ⟨N41q, rfl, hq41⟩ := hQ41
  have N41 := Fr.app N0 N41q
  refine sa X41 hx (dx hby dd3 2) ?_
  refine sc X41 hx (dx hby dd3 3) ?_
  show own_Gl _ _ _ _ (T41.setTop (mkF m 6 #[vR r0] [(.int (0 : Int32)), (.ref r0)]))
  refine oc_putF X41 hx hZ hown (host := "") (Or.inl (wx hw 27)) Via.refl hq41 P1 P0 (Or.inl (wx hw 117)) (wx hw 110) (ty := .int) (by decide) rfl rfl (dx hby dd3 4) (fun T42 h42 X42 e42 W42 => ?_)
  have Fw42 : Fld Z h42 r0 "java/util/AbstractList" "modCount" "I" (.int (0 : Int32)) := P1.same W42
  have K42 : Keep h0 h42 [r0] := (Keep.refl h0 [r0]).wr W42 (Or.inl (List.mem_of_getElem? (i := 0) rfl))
  have N42 := Fr.snoc X42 N41 ge_r0
  have Z42 : n0 ≤ h42.size := Nat.le_trans Z0 (Keep.of_wr W42).1
  have f_43 := P2.other W42 (Or.inr (own_sn (Or.inr (wx hw 119)) (Or.inl (wx hw 117))))
  have f_44 := P3.other W42 (Or.inr (own_sn (Or.inl (wx hw 184)) (Or.inl (wx hw 117))))
  exact own_retV X42 hx hret hlk (dx hby dd3 5) e42 (by decide) (by decide) ⟨N42, rfl, K42, Fw42, f_43, f_44⟩
theorem ef_abl_cs (m : MethodId) (r0 : Addr) : entryFrame m #[(.ref r0)] 1 = mkF m 0 #[vR r0] [] := by first | (simp [entryFrame, mkF, argsToLocals, Value.category, vI, vR, vU]; done) | rfl
def Qabl_cs (Z : State) (r0 : Addr) (h0 : Heap) (n0 : Nat) (v : Option Value) (h : Heap) (L : List Loc) : Prop := Fr n0 L ∧ v = none ∧ Keep h0 h [r0] ∧ Fld Z h r0 "java/util/AbstractList" "modCount" "I" (.int (0 : Int32)) ∧ Fld Z h r0 "com/example/sixfold/sixfold/rows/CardSet" "words" "[J" .null
set_option maxRecDepth 65536 in
set_option maxHeartbeats 40000000 in
theorem rmabl_cs (l : Launch) (Z : State) (a0 : Array Value) (hw : ∀ d ∈ tables_1, d.before a0 Z = true) (ws : List Jvm.Cond) (r0 : Addr) (h0 : Heap) (n0 : Nat) (Z0 : n0 ≤ h0.size) (P0 : Exa Z h0 r0 "com/example/sixfold/sixfold/rows/CardSet") (P1 : Fld Z h0 r0 "java/util/AbstractList" "modCount" "I" (.int (0 : Int32))) (P2 : Fld Z h0 r0 "com/example/sixfold/sixfold/rows/CardSet" "words" "[J" .null) (ge_r0 : n0 ≤ r0) :
    own_Cw l Z (⟨"java/util/AbstractList", "<init>", "()V"⟩ : MethodName) jdk_39_method_1_code 1 none ws (own_rr 2 0 0 24) #[(.ref r0)] h0 (Qabl_cs Z r0 h0 n0) := by
  refine own_body (plainFor_of_name pn_java_util_AbstractList) ?_
  intro p e s m below meth c s₁ hx hby hml hZ hown hnm hret hlk X0 e0
  have N0 := Fr.nil n0
  refine own_go (fun t k => castTop (ef_abl_cs m r0) k) ?_
  refine sa X0 hx (dx hby dd3 0) ?_
  refine oc_special X0 hx hZ hown rfl (wx hw 18) (wx hw 19) (wx hw 22) (wx hw 23) (by decide) (W := 0) (rmabc l Z a0 hw [] r0 h0 n0 Z0 ) (by decide) (by decide) (a := r0) (argsL := []) (rest := []) (by rw [hml]; rfl) (lenOf pd_4 rfl) rfl (Nat.le_of_eq rfl) (dx hby dd3 1) rfl e0 (by decide) (by decide) (fun v41 T41 Lc41 hQ41 X41 => ?_)
  obtain ⟨N41q, rfl, hq41⟩ := hQ41
  have N41 := Fr.app N0 N41q
  refine sa X41 hx (dx hby dd3 2) ?_
  refine sc X41 hx (dx hby dd3 3) ?_
  show own_Gl _ _ _ _ (T41.setTop (mkF m 6 #[vR r0] [(.int (0 : Int32)), (.ref r0)]))
  refine oc_putF X41 hx hZ hown (host := "") (Or.inl (wx hw 27)) Via.refl hq41 P1 P0 (Or.inl (wx hw 101)) (wx hw 94) (ty := .int) (by decide) rfl rfl (dx hby dd3 4) (fun T42 h42 X42 e42 W42 => ?_)
  have Fw42 : Fld Z h42 r0 "java/util/AbstractList" "modCount" "I" (.int (0 : Int32)) := P1.same W42
  have K42 : Keep h0 h42 [r0] := (Keep.refl h0 [r0]).wr W42 (Or.inl (List.mem_of_getElem? (i := 0) rfl))
  have N42 := Fr.snoc X42 N41 ge_r0
  have Z42 : n0 ≤ h42.size := Nat.le_trans Z0 (Keep.of_wr W42).1
  have f_43 := P2.other W42 (Or.inr (own_sn (Or.inr (wx hw 104)) (Or.inl (wx hw 101))))
  exact own_retV X42 hx hret hlk (dx hby dd3 5) e42 (by decide) (by decide) ⟨N42, rfl, K42, Fw42, f_43⟩
theorem ef_abl_al (m : MethodId) (r0 : Addr) : entryFrame m #[(.ref r0)] 1 = mkF m 0 #[vR r0] [] := by first | (simp [entryFrame, mkF, argsToLocals, Value.category, vI, vR, vU]; done) | rfl
def Qabl_al (Z : State) (r0 : Addr) (h0 : Heap) (n0 : Nat) (v : Option Value) (h : Heap) (L : List Loc) : Prop := Fr n0 L ∧ v = none ∧ Keep h0 h [r0] ∧ Fld Z h r0 "java/util/AbstractList" "modCount" "I" (.int (0 : Int32)) ∧ Fld Z h r0 "java/util/ArrayList" "elementData" "[Ljava/lang/Object;" .null ∧ Fld Z h r0 "java/util/ArrayList" "size" "I" (.int (0 : Int32))
set_option maxRecDepth 65536 in
set_option maxHeartbeats 40000000 in
theorem rmabl_al (l : Launch) (Z : State) (a0 : Array Value) (hw : ∀ d ∈ tables_1, d.before a0 Z = true) (ws : List Jvm.Cond) (r0 : Addr) (h0 : Heap) (n0 : Nat) (Z0 : n0 ≤ h0.size) (P0 : Exa Z h0 r0 "java/util/ArrayList") (P1 : Fld Z h0 r0 "java/util/AbstractList" "modCount" "I" (.int (0 : Int32))) (P2 : Fld Z h0 r0 "java/util/ArrayList" "elementData" "[Ljava/lang/Object;" .null) (P3 : Fld Z h0 r0 "java/util/ArrayList" "size" "I" (.int (0 : Int32))) (ge_r0 : n0 ≤ r0) :
    own_Cw l Z (⟨"java/util/AbstractList", "<init>", "()V"⟩ : MethodName) jdk_39_method_1_code 1 none ws (own_rr 2 0 0 24) #[(.ref r0)] h0 (Qabl_al Z r0 h0 n0) := by
  refine own_body (plainFor_of_name pn_java_util_AbstractList) ?_
  intro p e s m below meth c s₁ hx hby hml hZ hown hnm hret hlk X0 e0
  have N0 := Fr.nil n0
  refine own_go (fun t k => castTop (ef_abl_al m r0) k) ?_
  refine sa X0 hx (dx hby dd3 0) ?_
  refine oc_special X0 hx hZ hown rfl (wx hw 18) (wx hw 19) (wx hw 22) (wx hw 23) (by decide) (W := 0) (rmabc l Z a0 hw [] r0 h0 n0 Z0 ) (by decide) (by decide) (a := r0) (argsL := []) (rest := []) (by rw [hml]; rfl) (lenOf pd_4 rfl) rfl (Nat.le_of_eq rfl) (dx hby dd3 1) rfl e0 (by decide) (by decide) (fun v41 T41 Lc41 hQ41 X41 => ?_)
  obtain ⟨N41q, rfl, hq41⟩ := hQ41
  have N41 := Fr.app N0 N41q
  refine sa X41 hx (dx hby dd3 2) ?_
  refine sc X41 hx (dx hby dd3 3) ?_
  show own_Gl _ _ _ _ (T41.setTop (mkF m 6 #[vR r0] [(.int (0 : Int32)), (.ref r0)]))
  refine oc_putF X41 hx hZ hown (host := "") (Or.inl (wx hw 27)) Via.refl hq41 P1 P0 (Or.inl (wx hw 28)) (wx hw 7) (ty := .int) (by decide) rfl rfl (dx hby dd3 4) (fun T42 h42 X42 e42 W42 => ?_)
  have Fw42 : Fld Z h42 r0 "java/util/AbstractList" "modCount" "I" (.int (0 : Int32)) := P1.same W42
  have K42 : Keep h0 h42 [r0] := (Keep.refl h0 [r0]).wr W42 (Or.inl (List.mem_of_getElem? (i := 0) rfl))
  have N42 := Fr.snoc X42 N41 ge_r0
  have Z42 : n0 ≤ h42.size := Nat.le_trans Z0 (Keep.of_wr W42).1
  have f_43 := P2.other W42 (Or.inr (own_sn (Or.inl (wx hw 31)) (Or.inl (wx hw 28))))
  have f_44 := P3.other W42 (Or.inr (own_sn (Or.inl (wx hw 50)) (Or.inl (wx hw 28))))
  exact own_retV X42 hx hret hlk (dx hby dd3 5) e42 (by decide) (by decide) ⟨N42, rfl, K42, Fw42, f_43, f_44⟩
theorem dd16 : own_dec prog_45_method_1_code [(0, .aload_n 0, 1), (1, .invokespecial 1, 3), (4, .aload_n 0, 1), (5, .iload_n 1, 1), (6, .newarray .int, 2), (8, .putfield 7, 3), (11, .return_, 1)] := by unfold own_dec; decide +kernel
theorem pn_com_example_sixfold_sixfold_rows_IntList : plainName "com/example/sixfold/sixfold/rows/IntList" = true := by first | (simp [plainName, overriddenIn]; done) | decide +kernel
theorem ef_ili (m : MethodId) (r0 : Addr) (p0 : Int32) : entryFrame m #[(.ref r0), (.int p0)] 2 = mkF m 0 #[vR r0, vI p0] [] := by first | (simp [entryFrame, mkF, argsToLocals, Value.category, vI, vR, vU]; done) | rfl
def Qili (Z : State) (r0 : Addr) (p0 : Int32) (h0 : Heap) (n0 : Nat) (v : Option Value) (h : Heap) (L : List Loc) : Prop := Fr n0 L ∧ ∃ (va : Addr) (kI : ClassId), n0 ≤ va ∧ h0.size ≤ va ∧ v = none ∧ Keep h0 h [r0] ∧ Fld Z h r0 "com/example/sixfold/sixfold/rows/IntList" "values" "[I" (.ref va) ∧ Fld Z h r0 "com/example/sixfold/sixfold/rows/IntList" "size" "I" (.int (0 : Int32)) ∧ Arv Z h va kI .int p0 [(.int (0 : Int32)), (.int (0 : Int32)), (.int (0 : Int32)), (.int (0 : Int32)), (.int (0 : Int32))] (.int (0 : Int32))
set_option maxRecDepth 65536 in
set_option maxHeartbeats 40000000 in
theorem rmili (l : Launch) (Z : State) (a0 : Array Value) (hw : ∀ d ∈ tables_1, d.before a0 Z = true) (ws : List Jvm.Cond) (r0 : Addr) (p0 : Int32) (h0 : Heap) (n0 : Nat) (Z0 : n0 ≤ h0.size) (P0 : Exa Z h0 r0 "com/example/sixfold/sixfold/rows/IntList") (P1 : Fld Z h0 r0 "java/util/AbstractList" "modCount" "I" (.int (0 : Int32))) (P2 : Fld Z h0 r0 "com/example/sixfold/sixfold/rows/IntList" "values" "[I" .null) (P3 : Fld Z h0 r0 "com/example/sixfold/sixfold/rows/IntList" "size" "I" (.int (0 : Int32))) (ge_r0 : n0 ≤ r0) (hz0 : ¬ p0 < 0) (hz5 : p0.toNatClampNeg ≤ 5) :
    own_Cw l Z (⟨"com/example/sixfold/sixfold/rows/IntList", "<init>", "(I)V"⟩ : MethodName) prog_45_method_1_code 2 none ws (own_rr 3 1 5 36) #[(.ref r0), (.int p0)] h0 (Qili Z r0 p0 h0 n0) := by
  refine own_body (plainFor_of_name pn_com_example_sixfold_sixfold_rows_IntList) ?_
  intro p e s m below meth c s₁ hx hby hml hZ hown hnm hret hlk X0 e0
  have N0 := Fr.nil n0
  refine own_go (fun t k => castTop (ef_ili m r0 p0) k) ?_
  refine sa X0 hx (dx hby dd16 0) ?_
  refine oc_special X0 hx hZ hown rfl (wx hw 115) (wx hw 13) (wx hw 16) (wx hw 17) (by decide) (W := 0) (rmabl_il l Z a0 hw [] r0 h0 n0 Z0 P0 P1 P2 P3 ge_r0) (by decide) (by decide) (a := r0) (argsL := []) (rest := []) (by rw [hml]; rfl) (lenOf pd_4 rfl) rfl (Nat.le_of_eq rfl) (dx hby dd16 1) rfl e0 (by decide) (by decide) (fun v41 T41 Lc41 hQ41 X41 => ?_)
  obtain ⟨N41q, rfl, K41q, po41_0, po41_1, po41_2⟩ := hQ41
  have N41 := Fr.app N0 N41q
  have K41 : Keep h0 T41.heap [r0] := (Keep.refl h0 [r0]).trans K41q (allS (Or.inl (List.mem_of_getElem? (i := 0) rfl)) all0)
  have Z41 : n0 ≤ T41.heap.size := Nat.le_trans Z0 K41q.1
  refine sa X41 hx (dx hby dd16 2) ?_
  refine si X41 hx (dx hby dd16 3) ?_
  show own_Gl _ _ _ _ (T41.setTop (mkF m 6 #[vR r0, vI p0] [(.int p0), (.ref r0)]))
  obtain ⟨T42, h42, k42, X42, e42, E42, A42, st42⟩ := newP X41 hx hZ (aty := .int) (wx hw 5) rfl (g := (mkF m 6 #[vR r0, vI p0] [(.int p0), (.ref r0)])) rfl (dx hby dd16 4) rfl hz0 (cap := 5) hz5 (by decide) (by decide) (by decide)
  obtain ⟨b42, g42⟩ : ∃ z, z = T41.heap.size := ⟨_, rfl⟩
  rw [← g42] at A42 st42
  have f_43 := P0.keep K41q
  have ne_r0_b42 : r0 ≠ b42 := Nat.ne_of_lt (Nat.lt_of_lt_of_le f_43.lt (Nat.le_of_eq g42.symm))
  have ge_b42 : n0 ≤ b42 := Nat.le_trans Z41 (Nat.le_of_eq g42.symm)
  have sz_b42 : h0.size ≤ b42 := Nat.le_trans K41.1 (Nat.le_of_eq g42.symm)
  refine og (st42 _) ?_
  have K42 : Keep h0 h42 [r0] := K41.ext E42
  have Z42 : n0 ≤ h42.size := Nat.le_trans Z41 E42.1
  have V42 : Arv Z h42 b42 k42 .int p0 [(.int (0 : Int32)), (.int (0 : Int32)), (.int (0 : Int32)), (.int (0 : Int32)), (.int (0 : Int32))] (.int (0 : Int32)) := (Arv.new A42 hz0).pad (pad_rep [] (.int (0 : Int32)) 5)
  show own_Gl _ _ _ _ (T42.setTop (mkF m 8 #[vR r0, vI p0] [(.ref b42), (.ref r0)]))
  have f_44 := po41_1.ext E42
  have f_45 := f_43.ext E42
  refine oc_putF X42 hx hZ hown (host := "") (Or.inl (wx hw 118)) Via.refl e42 f_44 f_45 (Or.inr ⟨(wx hw 119), rfl, hnm⟩) (wx hw 110) (ty := (.array .int)) (by decide) rfl rfl (dx hby dd16 5) (fun T46 h46 X46 e46 W46 => ?_)
  have Fw46 : Fld Z h46 r0 "com/example/sixfold/sixfold/rows/IntList" "values" "[I" (.ref b42) := f_44.same W46
  have K46 : Keep h0 h46 [r0] := K42.wr W46 (Or.inl (List.mem_of_getElem? (i := 0) rfl))
  have N46 := Fr.snoc X46 N41 ge_r0
  have Z46 : n0 ≤ h46.size := Nat.le_trans Z42 (Keep.of_wr W46).1
  have f_47 := (po41_2.ext E42).other W46 (Or.inr (own_sn (Or.inl (wx hw 184)) (Or.inr (wx hw 119))))
  have f_48 := V42.other W46 (Ne.symm ne_r0_b42)
  exact own_retV X46 hx hret hlk (dx hby dd16 6) e46 (by decide) (by decide) ⟨N46, b42, k42, ge_b42, sz_b42, rfl, K46, Fw46, f_47, f_48⟩
theorem dd15 : own_dec prog_42_method_1_code [(0, .aload_n 0, 1), (1, .invokespecial 1, 3), (4, .aload_n 0, 1), (5, .iconst 2, 1), (6, .newarray .long, 2), (8, .putfield 7, 3), (11, .return_, 1)] := by unfold own_dec; decide +kernel
theorem ef_csi (m : MethodId) (r0 : Addr) : entryFrame m #[(.ref r0)] 1 = mkF m 0 #[vR r0] [] := by first | (simp [entryFrame, mkF, argsToLocals, Value.category, vI, vR, vU]; done) | rfl
def Qcsi (Z : State) (r0 : Addr) (h0 : Heap) (n0 : Nat) (v : Option Value) (h : Heap) (L : List Loc) : Prop := Fr n0 L ∧ ∃ (va : Addr) (kI : ClassId), n0 ≤ va ∧ h0.size ≤ va ∧ v = none ∧ Keep h0 h [r0] ∧ Fld Z h r0 "com/example/sixfold/sixfold/rows/CardSet" "words" "[J" (.ref va) ∧ Arv Z h va kI .long (2 : Int32) [(.long (0 : Int64)), (.long (0 : Int64))] (.long (0 : Int64))
set_option maxRecDepth 65536 in
set_option maxHeartbeats 40000000 in
theorem rmcsi (l : Launch) (Z : State) (a0 : Array Value) (hw : ∀ d ∈ tables_1, d.before a0 Z = true) (ws : List Jvm.Cond) (r0 : Addr) (h0 : Heap) (n0 : Nat) (Z0 : n0 ≤ h0.size) (P0 : Exa Z h0 r0 "com/example/sixfold/sixfold/rows/CardSet") (P1 : Fld Z h0 r0 "java/util/AbstractList" "modCount" "I" (.int (0 : Int32))) (P2 : Fld Z h0 r0 "com/example/sixfold/sixfold/rows/CardSet" "words" "[J" .null) (ge_r0 : n0 ≤ r0) :
    own_Cw l Z (⟨"com/example/sixfold/sixfold/rows/CardSet", "<init>", "()V"⟩ : MethodName) prog_42_method_1_code 1 none ws (own_rr 3 1 2 36) #[(.ref r0)] h0 (Qcsi Z r0 h0 n0) := by
  refine own_body (plainFor_of_name pn_com_example_sixfold_sixfold_rows_CardSet) ?_
  intro p e s m below meth c s₁ hx hby hml hZ hown hnm hret hlk X0 e0
  have N0 := Fr.nil n0
  refine own_go (fun t k => castTop (ef_csi m r0) k) ?_
  refine sa X0 hx (dx hby dd15 0) ?_
  refine oc_special X0 hx hZ hown rfl (wx hw 99) (wx hw 13) (wx hw 16) (wx hw 17) (by decide) (W := 0) (rmabl_cs l Z a0 hw [] r0 h0 n0 Z0 P0 P1 P2 ge_r0) (by decide) (by decide) (a := r0) (argsL := []) (rest := []) (by rw [hml]; rfl) (lenOf pd_4 rfl) rfl (Nat.le_of_eq rfl) (dx hby dd15 1) rfl e0 (by decide) (by decide) (fun v41 T41 Lc41 hQ41 X41 => ?_)
  obtain ⟨N41q, rfl, K41q, po41_0, po41_1⟩ := hQ41
  have N41 := Fr.app N0 N41q
  have K41 : Keep h0 T41.heap [r0] := (Keep.refl h0 [r0]).trans K41q (allS (Or.inl (List.mem_of_getElem? (i := 0) rfl)) all0)
  have Z41 : n0 ≤ T41.heap.size := Nat.le_trans Z0 K41q.1
  refine sa X41 hx (dx hby dd15 2) ?_
  refine sc X41 hx (dx hby dd15 3) ?_
  show own_Gl _ _ _ _ (T41.setTop (mkF m 6 #[vR r0] [(.int (2 : Int32)), (.ref r0)]))
  obtain ⟨T42, h42, k42, X42, e42, E42, A42, st42⟩ := newP X41 hx hZ (aty := .long) (wx hw 102) rfl (g := (mkF m 6 #[vR r0] [(.int (2 : Int32)), (.ref r0)])) rfl (dx hby dd15 4) rfl (by decide) (cap := 2) (by decide) (by decide) (by decide) (by decide)
  obtain ⟨b42, g42⟩ : ∃ z, z = T41.heap.size := ⟨_, rfl⟩
  rw [← g42] at A42 st42
  have f_43 := P0.keep K41q
  have ne_r0_b42 : r0 ≠ b42 := Nat.ne_of_lt (Nat.lt_of_lt_of_le f_43.lt (Nat.le_of_eq g42.symm))
  have ge_b42 : n0 ≤ b42 := Nat.le_trans Z41 (Nat.le_of_eq g42.symm)
  have sz_b42 : h0.size ≤ b42 := Nat.le_trans K41.1 (Nat.le_of_eq g42.symm)
  refine og (st42 _) ?_
  have K42 : Keep h0 h42 [r0] := K41.ext E42
  have Z42 : n0 ≤ h42.size := Nat.le_trans Z41 E42.1
  have V42 : Arv Z h42 b42 k42 .long (2 : Int32) [(.long (0 : Int64)), (.long (0 : Int64))] (.long (0 : Int64)) := (Arv.new A42 (by decide)).pad (pad_rep [] (.long (0 : Int64)) 2)
  show own_Gl _ _ _ _ (T42.setTop (mkF m 8 #[vR r0] [(.ref b42), (.ref r0)]))
  have f_44 := po41_1.ext E42
  have f_45 := f_43.ext E42
  refine oc_putF X42 hx hZ hown (host := "") (Or.inl (wx hw 103)) Via.refl e42 f_44 f_45 (Or.inr ⟨(wx hw 104), rfl, hnm⟩) (wx hw 94) (ty := (.array .long)) (by decide) rfl rfl (dx hby dd15 5) (fun T46 h46 X46 e46 W46 => ?_)
  have Fw46 : Fld Z h46 r0 "com/example/sixfold/sixfold/rows/CardSet" "words" "[J" (.ref b42) := f_44.same W46
  have K46 : Keep h0 h46 [r0] := K42.wr W46 (Or.inl (List.mem_of_getElem? (i := 0) rfl))
  have N46 := Fr.snoc X46 N41 ge_r0
  have Z46 : n0 ≤ h46.size := Nat.le_trans Z42 (Keep.of_wr W46).1
  have f_47 := V42.other W46 (Ne.symm ne_r0_b42)
  exact own_retV X46 hx hret hlk (dx hby dd15 6) e46 (by decide) (by decide) ⟨N46, b42, k42, ge_b42, sz_b42, rfl, K46, Fw46, f_47⟩
theorem dd23 : own_dec prog_45_method_6_code [(0, .aload_n 0, 1), (1, .getfield 7, 3), (4, .aload_n 0, 1), (5, .getfield 23, 3), (8, .iload_n 1, 1), (9, .iastore, 1), (10, .aload_n 0, 1), (11, .dup, 1), (12, .getfield 23, 3), (15, .iconst 1, 1), (16, .iadd, 1), (17, .putfield 23, 3), (20, .return_, 1)] := by unfold own_dec; decide +kernel
theorem ef_app (m : MethodId) (r0 : Addr) (p0 : Int32) : entryFrame m #[(.ref r0), (.int p0)] 2 = mkF m 0 #[vR r0, vI p0] [] := by first | (simp [entryFrame, mkF, argsToLocals, Value.category, vI, vR, vU]; done) | rfl
def Qapp (Z : State) (r0 : Addr) (p0 : Int32) (va : Addr) (kI : ClassId) (cp : Int32) (n : Int32) (vs : List Value) (h0 : Heap) (n0 : Nat) (v : Option Value) (h : Heap) (L : List Loc) : Prop := Fr n0 L ∧ v = none ∧ Keep h0 h [r0, va] ∧ Fld Z h r0 "com/example/sixfold/sixfold/rows/IntList" "values" "[I" (.ref va) ∧ Fld Z h r0 "com/example/sixfold/sixfold/rows/IntList" "size" "I" (.int (n + (1 : Int32))) ∧ Arv Z h va kI .int cp (vs.set n.toNatClampNeg (.int p0)) (.int (0 : Int32))
set_option maxRecDepth 65536 in
set_option maxHeartbeats 40000000 in
theorem rmapp (l : Launch) (Z : State) (a0 : Array Value) (hw : ∀ d ∈ tables_1, d.before a0 Z = true) (ws : List Jvm.Cond) (r0 : Addr) (p0 : Int32) (va : Addr) (kI : ClassId) (cp : Int32) (n : Int32) (vs : List Value) (h0 : Heap) (n0 : Nat) (Z0 : n0 ≤ h0.size) (P0 : Exa Z h0 r0 "com/example/sixfold/sixfold/rows/IntList") (P1 : Fld Z h0 r0 "com/example/sixfold/sixfold/rows/IntList" "values" "[I" (.ref va)) (P2 : Fld Z h0 r0 "com/example/sixfold/sixfold/rows/IntList" "size" "I" (.int n)) (P3 : Arv Z h0 va kI .int cp vs (.int (0 : Int32))) (ne0 : r0 ≠ va) (ge_r0 : n0 ≤ r0) (ge_va : n0 ≤ va) (b0 : ¬ n < 0 ∧ n < cp) (bl : n.toNatClampNeg < vs.length) :
    own_Cw l Z (⟨"com/example/sixfold/sixfold/rows/IntList", "append", "(I)V"⟩ : MethodName) prog_45_method_6_code 2 none ws (own_rr 0 0 0 0) #[(.ref r0), (.int p0)] h0 (Qapp Z r0 p0 va kI cp n vs h0 n0) := by
  refine own_body (plainFor_of_name pn_com_example_sixfold_sixfold_rows_IntList) ?_
  intro p e s m below meth c s₁ hx hby hml hZ hown hnm hret hlk X0 e0
  have N0 := Fr.nil n0
  refine own_go (fun t k => castTop (ef_app m r0 p0) k) ?_
  refine sa X0 hx (dx hby dd23 0) ?_
  refine oc_getF X0 hx hZ hown (host := "") (Or.inl (wx hw 118)) Via.refl e0 P1 (dx hby dd23 1) (fun T41 X41 e41 => ?_)
  refine sa X41 hx (dx hby dd23 2) ?_
  refine oc_getF X41 hx hZ hown (host := "") (Or.inl (wx hw 183)) Via.refl e41 P2 (dx hby dd23 3) (fun T42 X42 e42 => ?_)
  refine si X42 hx (dx hby dd23 4) ?_
  show own_Gl _ _ _ _ (T42.setTop (mkF m 9 #[vR r0, vI p0] [(.int p0), (.int n), (.ref va)]))
  refine oc_iastore X42 hx hZ e42 P3 b0 n.toNatClampNeg rfl bl (dx hby dd23 5) (fun T43 h43 X43 e43 W43 V43 => ?_)
  have K43 : Keep h0 h43 [r0, va] := (Keep.refl h0 [r0, va]).wr W43 (Or.inl (List.mem_of_getElem? (i := 1) rfl))
  have N43 := Fr.snoc X43 N0 ge_va
  have Z43 : n0 ≤ h43.size := Nat.le_trans Z0 (Keep.of_wr W43).1
  refine sa X43 hx (dx hby dd23 6) ?_
  refine og (XS.dup X43.here hx rfl (dx hby dd23 7) rfl rfl) ?_
  have f_45 := P2.other W43 (Or.inl ne0)
  refine oc_getF X43 hx hZ hown (host := "") (Or.inl (wx hw 183)) Via.refl e43 f_45 (dx hby dd23 8) (fun T44 X44 e44 => ?_)
  refine sc X44 hx (dx hby dd23 9) ?_
  refine og (XS.iadd X44.here hx rfl (dx hby dd23 10) rfl) ?_
  show own_Gl _ _ _ _ (T44.setTop (mkF m 17 #[vR r0, vI p0] [(.int (n + (1 : Int32))), (.ref r0)]))
  have f_46 := P0.wr W43
  refine oc_putF X44 hx hZ hown (host := "") (Or.inl (wx hw 183)) Via.refl e44 f_45 f_46 (Or.inl (wx hw 184)) (wx hw 110) (ty := .int) (by decide) rfl rfl (dx hby dd23 11) (fun T47 h47 X47 e47 W47 => ?_)
  have Fw47 : Fld Z h47 r0 "com/example/sixfold/sixfold/rows/IntList" "size" "I" (.int (n + (1 : Int32))) := f_45.same W47
  have K47 : Keep h0 h47 [r0, va] := K43.wr W47 (Or.inl (List.mem_of_getElem? (i := 0) rfl))
  have N47 := Fr.snoc X47 N43 ge_r0
  have Z47 : n0 ≤ h47.size := Nat.le_trans Z43 (Keep.of_wr W47).1
  have f_48 := (P1.other W43 (Or.inl ne0)).other W47 (Or.inr (own_sn (Or.inr (wx hw 119)) (Or.inl (wx hw 184))))
  have f_49 := V43.other W47 (Ne.symm ne0)
  exact own_retV X47 hx hret hlk (dx hby dd23 12) e47 (by decide) (by decide) ⟨N47, rfl, K47, f_48, Fw47, f_49⟩
theorem dd55 : own_dec prog_45_method_4_code [(0, .aload_n 0, 1), (1, .getfield 7, 3), (4, .iload_n 1, 1), (5, .aload_n 0, 1), (6, .getfield 23, 3), (9, .invokestatic 27, 3), (12, .iaload, 1), (13, .ireturn, 1)] := by unfold own_dec; decide +kernel
theorem ef_at (m : MethodId) (r0 : Addr) (p0 : Int32) : entryFrame m #[(.ref r0), (.int p0)] 2 = mkF m 0 #[vR r0, vI p0] [] := by first | (simp [entryFrame, mkF, argsToLocals, Value.category, vI, vR, vU]; done) | rfl
theorem pd_5 : parseMethodDescriptor "(II)I" = some ⟨[.int, .int], some .int⟩ := by decide +kernel
def Qat (Z : State) (r0 : Addr) (p0 : Int32) (va : Addr) (kI : ClassId) (cp : Int32) (n : Int32) (vs : List Value) (x : Int32) (h0 : Heap) (n0 : Nat) (v : Option Value) (h : Heap) (L : List Loc) : Prop := Fr n0 L ∧ v = some (.int x) ∧ h = h0
set_option maxRecDepth 65536 in
set_option maxHeartbeats 40000000 in
theorem rmat (l : Launch) (Z : State) (a0 : Array Value) (hw : ∀ d ∈ tables_1, d.before a0 Z = true) (ws : List Jvm.Cond) (r0 : Addr) (p0 : Int32) (va : Addr) (kI : ClassId) (cp : Int32) (n : Int32) (vs : List Value) (x : Int32) (h0 : Heap) (n0 : Nat) (Z0 : n0 ≤ h0.size) (P0 : Fld Z h0 r0 "com/example/sixfold/sixfold/rows/IntList" "values" "[I" (.ref va)) (P1 : Fld Z h0 r0 "com/example/sixfold/sixfold/rows/IntList" "size" "I" (.int n)) (P2 : Arv Z h0 va kI .int cp vs (.int (0 : Int32))) (i0 : ¬ (p0 < (0 : Int32))) (i1 : p0 < n) (i2 : p0 < cp) (hv : vs.getD p0.toNatClampNeg (.int (0 : Int32)) = .int x) :
    own_Cw l Z (⟨"com/example/sixfold/sixfold/rows/IntList", "at", "(I)I"⟩ : MethodName) prog_45_method_4_code 2 (some .int) ws (own_rr 2 0 0 28) #[(.ref r0), (.int p0)] h0 (Qat Z r0 p0 va kI cp n vs x h0 n0) := by
  refine own_body (plainFor_of_name pn_com_example_sixfold_sixfold_rows_IntList) ?_
  intro p e s m below meth c s₁ hx hby hml hZ hown hnm hret hlk X0 e0
  have N0 := Fr.nil n0
  refine own_go (fun t k => castTop (ef_at m r0 p0) k) ?_
  refine sa X0 hx (dx hby dd55 0) ?_
  refine oc_getF X0 hx hZ hown (host := "") (Or.inl (wx hw 118)) Via.refl e0 P0 (dx hby dd55 1) (fun T41 X41 e41 => ?_)
  refine si X41 hx (dx hby dd55 2) ?_
  refine sa X41 hx (dx hby dd55 3) ?_
  refine oc_getF X41 hx hZ hown (host := "") (Or.inl (wx hw 183)) Via.refl e41 P1 (dx hby dd55 4) (fun T42 X42 e42 => ?_)
  refine oc_static X42 hx hZ hown (wx hw 384) (wx hw 317) (wx hw 132) (wx hw 318) (by decide) (W := 1) (rmoci l Z a0 hw [] p0 n h0 n0 Z0 i0 i1) (by decide) (by decide) (argsL := [(.int p0), (.int n)]) (rest := [(.ref va)]) (by rw [hml]; rfl) (lenOf pd_5 rfl) rfl (Nat.le_of_eq rfl) (dx hby dd55 5) rfl e42 (by decide) (by decide) (fun v43 T43 Lc43 hQ43 X43 => ?_)
  obtain ⟨N43q, rfl, hq43⟩ := hQ43
  have N43 := Fr.app N0 N43q
  show own_Gl _ _ _ _ (T43.setTop (mkF m 12 #[vR r0, vI p0] [(.int p0), (.ref va)]))
  refine oc_iaload X43 hx hZ hq43 P2 ⟨i0, i2⟩ hv (dx hby dd55 6) ?_
  exact own_retW X43 hx hret hlk rfl (Or.inl ⟨rfl, Or.inl rfl, _, rfl⟩) (dx hby dd55 7) hq43 (by decide) (by decide) ⟨N43, rfl, rfl⟩
theorem dd60 : own_dec prog_45_method_5_code [(0, .aload_n 0, 1), (1, .aload_n 0, 1), (2, .getfield 23, 3), (5, .iconst 1, 1), (6, .isub, 1), (7, .invokevirtual 13, 3), (10, .ireturn, 1)] := by unfold own_dec; decide +kernel
theorem ef_last (m : MethodId) (r0 : Addr) : entryFrame m #[(.ref r0)] 1 = mkF m 0 #[vR r0] [] := by first | (simp [entryFrame, mkF, argsToLocals, Value.category, vI, vR, vU]; done) | rfl
def Qlast (Z : State) (r0 : Addr) (va : Addr) (kI : ClassId) (cp : Int32) (n : Int32) (vs : List Value) (x : Int32) (h0 : Heap) (n0 : Nat) (v : Option Value) (h : Heap) (L : List Loc) : Prop := Fr n0 L ∧ v = some (.int x) ∧ h = h0
set_option maxRecDepth 65536 in
set_option maxHeartbeats 40000000 in
theorem rmlast (l : Launch) (Z : State) (a0 : Array Value) (hw : ∀ d ∈ tables_1, d.before a0 Z = true) (ws : List Jvm.Cond) (r0 : Addr) (va : Addr) (kI : ClassId) (cp : Int32) (n : Int32) (vs : List Value) (x : Int32) (h0 : Heap) (n0 : Nat) (Z0 : n0 ≤ h0.size) (P0 : Exa Z h0 r0 "com/example/sixfold/sixfold/rows/IntList") (P1 : Fld Z h0 r0 "com/example/sixfold/sixfold/rows/IntList" "values" "[I" (.ref va)) (P2 : Fld Z h0 r0 "com/example/sixfold/sixfold/rows/IntList" "size" "I" (.int n)) (P3 : Arv Z h0 va kI .int cp vs (.int (0 : Int32))) (i0 : ¬ ((n - (1 : Int32)) < (0 : Int32))) (i1 : (n - (1 : Int32)) < n) (i2 : (n - (1 : Int32)) < cp) (hv : vs.getD (n - (1 : Int32)).toNatClampNeg (.int (0 : Int32)) = .int x) :
    own_Cw l Z (⟨"com/example/sixfold/sixfold/rows/IntList", "last", "()I"⟩ : MethodName) prog_45_method_5_code 1 (some .int) ws (own_rr 3 0 0 41) #[(.ref r0)] h0 (Qlast Z r0 va kI cp n vs x h0 n0) := by
  refine own_body (plainFor_of_name pn_com_example_sixfold_sixfold_rows_IntList) ?_
  intro p e s m below meth c s₁ hx hby hml hZ hown hnm hret hlk X0 e0
  have N0 := Fr.nil n0
  refine own_go (fun t k => castTop (ef_last m r0) k) ?_
  refine sa X0 hx (dx hby dd60 0) ?_
  refine sa X0 hx (dx hby dd60 1) ?_
  refine oc_getF X0 hx hZ hown (host := "") (Or.inl (wx hw 183)) Via.refl e0 P2 (dx hby dd60 2) (fun T41 X41 e41 => ?_)
  refine sc X41 hx (dx hby dd60 3) ?_
  refine og (XS.isub X41.here hx rfl (dx hby dd60 4) rfl) ?_
  refine oc_virtual X41 hx hZ hown (wx hw 410) (wx hw 380) (wx hw 382) (wx hw 381) (wx hw 111) (wx hw 383) (by decide) (W := 0) (rmat l Z a0 hw [] r0 (n - (1 : Int32)) va kI cp n vs x h0 n0 Z0 P1 P2 P3 i0 i1 i2 hv) (by decide) (by decide) P0 (argsL := [(.int (n - (1 : Int32)))]) (rest := []) (by rw [hml]; rfl) (lenOf pd_2 rfl) rfl (Nat.le_of_eq rfl) (dx hby dd60 5) rfl e41 (by decide) (by decide) (fun v42 T42 Lc42 hQ42 X42 => ?_)
  obtain ⟨N42q, rfl, hq42⟩ := hQ42
  have N42 := Fr.app N0 N42q
  exact own_retW X42 hx hret hlk rfl (Or.inl ⟨rfl, Or.inl rfl, _, rfl⟩) (dx hby dd60 6) hq42 (by decide) (by decide) ⟨N42, rfl, rfl⟩
theorem dd62 : own_dec prog_45_method_7_code [(0, .aload_n 0, 1), (1, .getfield 7, 3), (4, .iload_n 1, 1), (5, .iload_n 2, 1), (6, .iastore, 1), (7, .return_, 1)] := by unfold own_dec; decide +kernel
theorem ef_repl (m : MethodId) (r0 : Addr) (p0 : Int32) (p1 : Int32) : entryFrame m #[(.ref r0), (.int p0), (.int p1)] 3 = mkF m 0 #[vR r0, vI p0, vI p1] [] := by first | (simp [entryFrame, mkF, argsToLocals, Value.category, vI, vR, vU]; done) | rfl
def Qrepl (Z : State) (r0 : Addr) (p0 : Int32) (p1 : Int32) (va : Addr) (kI : ClassId) (cp : Int32) (n : Int32) (vs : List Value) (h0 : Heap) (n0 : Nat) (v : Option Value) (h : Heap) (L : List Loc) : Prop := Fr n0 L ∧ v = none ∧ Keep h0 h [va] ∧ Arv Z h va kI .int cp (vs.set p0.toNatClampNeg (.int p1)) (.int (0 : Int32))
set_option maxRecDepth 65536 in
set_option maxHeartbeats 40000000 in
theorem rmrepl (l : Launch) (Z : State) (a0 : Array Value) (hw : ∀ d ∈ tables_1, d.before a0 Z = true) (ws : List Jvm.Cond) (r0 : Addr) (p0 : Int32) (p1 : Int32) (va : Addr) (kI : ClassId) (cp : Int32) (n : Int32) (vs : List Value) (h0 : Heap) (n0 : Nat) (Z0 : n0 ≤ h0.size) (P0 : Fld Z h0 r0 "com/example/sixfold/sixfold/rows/IntList" "values" "[I" (.ref va)) (P1 : Fld Z h0 r0 "com/example/sixfold/sixfold/rows/IntList" "size" "I" (.int n)) (P2 : Arv Z h0 va kI .int cp vs (.int (0 : Int32))) (ne0 : r0 ≠ va) (ge_va : n0 ≤ va) (b0 : ¬ p0 < 0 ∧ p0 < cp) (bl : p0.toNatClampNeg < vs.length) :
    own_Cw l Z (⟨"com/example/sixfold/sixfold/rows/IntList", "replace", "(II)V"⟩ : MethodName) prog_45_method_7_code 3 none ws (own_rr 0 0 0 0) #[(.ref r0), (.int p0), (.int p1)] h0 (Qrepl Z r0 p0 p1 va kI cp n vs h0 n0) := by
  refine own_body (plainFor_of_name pn_com_example_sixfold_sixfold_rows_IntList) ?_
  intro p e s m below meth c s₁ hx hby hml hZ hown hnm hret hlk X0 e0
  have N0 := Fr.nil n0
  refine own_go (fun t k => castTop (ef_repl m r0 p0 p1) k) ?_
  refine sa X0 hx (dx hby dd62 0) ?_
  refine oc_getF X0 hx hZ hown (host := "") (Or.inl (wx hw 118)) Via.refl e0 P0 (dx hby dd62 1) (fun T41 X41 e41 => ?_)
  refine si X41 hx (dx hby dd62 2) ?_
  refine si X41 hx (dx hby dd62 3) ?_
  show own_Gl _ _ _ _ (T41.setTop (mkF m 6 #[vR r0, vI p0, vI p1] [(.int p1), (.int p0), (.ref va)]))
  refine oc_iastore X41 hx hZ e41 P2 b0 p0.toNatClampNeg rfl bl (dx hby dd62 4) (fun T42 h42 X42 e42 W42 V42 => ?_)
  have K42 : Keep h0 h42 [va] := (Keep.refl h0 [va]).wr W42 (Or.inl (List.mem_of_getElem? (i := 0) rfl))
  have N42 := Fr.snoc X42 N0 ge_va
  have Z42 : n0 ≤ h42.size := Nat.le_trans Z0 (Keep.of_wr W42).1
  exact own_retV X42 hx hret hlk (dx hby dd62 5) e42 (by decide) (by decide) ⟨N42, rfl, K42, V42⟩
theorem dd28 : own_dec prog_45_method_8_code [(0, .aload_n 0, 1), (1, .iconst 0, 1), (2, .putfield 23, 3), (5, .return_, 1)] := by unfold own_dec; decide +kernel
theorem ef_ile (m : MethodId) (r0 : Addr) : entryFrame m #[(.ref r0)] 1 = mkF m 0 #[vR r0] [] := by first | (simp [entryFrame, mkF, argsToLocals, Value.category, vI, vR, vU]; done) | rfl
def Qile (Z : State) (r0 : Addr) (va : Addr) (n : Int32) (h0 : Heap) (n0 : Nat) (v : Option Value) (h : Heap) (L : List Loc) : Prop := Fr n0 L ∧ v = none ∧ Keep h0 h [r0] ∧ Fld Z h r0 "com/example/sixfold/sixfold/rows/IntList" "values" "[I" (.ref va) ∧ Fld Z h r0 "com/example/sixfold/sixfold/rows/IntList" "size" "I" (.int (0 : Int32))
set_option maxRecDepth 65536 in
set_option maxHeartbeats 40000000 in
theorem rmile (l : Launch) (Z : State) (a0 : Array Value) (hw : ∀ d ∈ tables_1, d.before a0 Z = true) (ws : List Jvm.Cond) (r0 : Addr) (va : Addr) (n : Int32) (h0 : Heap) (n0 : Nat) (Z0 : n0 ≤ h0.size) (P0 : Exa Z h0 r0 "com/example/sixfold/sixfold/rows/IntList") (P1 : Fld Z h0 r0 "com/example/sixfold/sixfold/rows/IntList" "values" "[I" (.ref va)) (P2 : Fld Z h0 r0 "com/example/sixfold/sixfold/rows/IntList" "size" "I" (.int n)) (ge_r0 : n0 ≤ r0) :
    own_Cw l Z (⟨"com/example/sixfold/sixfold/rows/IntList", "empty", "()V"⟩ : MethodName) prog_45_method_8_code 1 none ws (own_rr 0 0 0 0) #[(.ref r0)] h0 (Qile Z r0 va n h0 n0) := by
  refine own_body (plainFor_of_name pn_com_example_sixfold_sixfold_rows_IntList) ?_
  intro p e s m below meth c s₁ hx hby hml hZ hown hnm hret hlk X0 e0
  have N0 := Fr.nil n0
  refine own_go (fun t k => castTop (ef_ile m r0) k) ?_
  refine sa X0 hx (dx hby dd28 0) ?_
  refine sc X0 hx (dx hby dd28 1) ?_
  show own_Gl _ _ _ _ (s₁.setTop (mkF m 2 #[vR r0] [(.int (0 : Int32)), (.ref r0)]))
  refine oc_putF X0 hx hZ hown (host := "") (Or.inl (wx hw 183)) Via.refl e0 P2 P0 (Or.inl (wx hw 184)) (wx hw 110) (ty := .int) (by decide) rfl rfl (dx hby dd28 2) (fun T41 h41 X41 e41 W41 => ?_)
  have Fw41 : Fld Z h41 r0 "com/example/sixfold/sixfold/rows/IntList" "size" "I" (.int (0 : Int32)) := P2.same W41
  have K41 : Keep h0 h41 [r0] := (Keep.refl h0 [r0]).wr W41 (Or.inl (List.mem_of_getElem? (i := 0) rfl))
  have N41 := Fr.snoc X41 N0 ge_r0
  have Z41 : n0 ≤ h41.size := Nat.le_trans Z0 (Keep.of_wr W41).1
  have f_42 := P1.other W41 (Or.inr (own_sn (Or.inr (wx hw 119)) (Or.inl (wx hw 184))))
  exact own_retV X41 hx hret hlk (dx hby dd28 3) e41 (by decide) (by decide) ⟨N41, rfl, K41, f_42, Fw41⟩
theorem dd66 : own_dec prog_45_method_3_code [(0, .aload_n 0, 1), (1, .getfield 23, 3), (4, .ireturn, 1)] := by unfold own_dec; decide +kernel
theorem ef_ils (m : MethodId) (r0 : Addr) : entryFrame m #[(.ref r0)] 1 = mkF m 0 #[vR r0] [] := by first | (simp [entryFrame, mkF, argsToLocals, Value.category, vI, vR, vU]; done) | rfl
def Qils (Z : State) (r0 : Addr) (n : Int32) (h0 : Heap) (n0 : Nat) (v : Option Value) (h : Heap) (L : List Loc) : Prop := Fr n0 L ∧ v = some (.int n) ∧ h = h0
set_option maxRecDepth 65536 in
set_option maxHeartbeats 40000000 in
theorem rmils (l : Launch) (Z : State) (a0 : Array Value) (hw : ∀ d ∈ tables_1, d.before a0 Z = true) (ws : List Jvm.Cond) (r0 : Addr) (n : Int32) (h0 : Heap) (n0 : Nat) (Z0 : n0 ≤ h0.size) (P0 : Fld Z h0 r0 "com/example/sixfold/sixfold/rows/IntList" "size" "I" (.int n)) :
    own_Cw l Z (⟨"com/example/sixfold/sixfold/rows/IntList", "size", "()I"⟩ : MethodName) prog_45_method_3_code 1 (some .int) ws (own_rr 0 0 0 0) #[(.ref r0)] h0 (Qils Z r0 n h0 n0) := by
  refine own_body (plainFor_of_name pn_com_example_sixfold_sixfold_rows_IntList) ?_
  intro p e s m below meth c s₁ hx hby hml hZ hown hnm hret hlk X0 e0
  have N0 := Fr.nil n0
  refine own_go (fun t k => castTop (ef_ils m r0) k) ?_
  refine sa X0 hx (dx hby dd66 0) ?_
  refine oc_getF X0 hx hZ hown (host := "") (Or.inl (wx hw 183)) Via.refl e0 P0 (dx hby dd66 1) (fun T41 X41 e41 => ?_)
  exact own_retW X41 hx hret hlk rfl (Or.inl ⟨rfl, Or.inl rfl, _, rfl⟩) (dx hby dd66 2) e41 (by decide) (by decide) ⟨N0, rfl, rfl⟩
theorem dd2 : own_dec jdk_38_method_2_code [(0, .aload_n 0, 1), (1, .invokespecial 1, 3), (4, .aload_n 0, 1), (5, .getstatic 39, 3), (8, .putfield 9, 3), (11, .return_, 1)] := by unfold own_dec; decide +kernel
theorem pn_java_util_ArrayList : plainName "java/util/ArrayList" = true := by first | (simp [plainName, overriddenIn]; done) | decide +kernel
theorem ef_ali (m : MethodId) (r0 : Addr) : entryFrame m #[(.ref r0)] 1 = mkF m 0 #[vR r0] [] := by first | (simp [entryFrame, mkF, argsToLocals, Value.category, vI, vR, vU]; done) | rfl
def Qali (Z : State) (r0 : Addr) (dc : Addr) (h0 : Heap) (n0 : Nat) (v : Option Value) (h : Heap) (L : List Loc) : Prop := Fr n0 L ∧ v = none ∧ Keep h0 h [r0] ∧ Fld Z h r0 "java/util/AbstractList" "modCount" "I" (.int (0 : Int32)) ∧ Fld Z h r0 "java/util/ArrayList" "elementData" "[Ljava/lang/Object;" (.ref dc) ∧ Fld Z h r0 "java/util/ArrayList" "size" "I" (.int (0 : Int32))
set_option maxRecDepth 65536 in
set_option maxHeartbeats 40000000 in
theorem rmali (l : Launch) (Z : State) (a0 : Array Value) (hw : ∀ d ∈ tables_1, d.before a0 Z = true) (ws : List Jvm.Cond) (r0 : Addr) (dc : Addr) (h0 : Heap) (n0 : Nat) (Z0 : n0 ≤ h0.size) (P0 : Exa Z h0 r0 "java/util/ArrayList") (P1 : Fld Z h0 r0 "java/util/AbstractList" "modCount" "I" (.int (0 : Int32))) (P2 : Fld Z h0 r0 "java/util/ArrayList" "elementData" "[Ljava/lang/Object;" .null) (P3 : Fld Z h0 r0 "java/util/ArrayList" "size" "I" (.int (0 : Int32))) (P4 : Sta Z h0 "java/util/ArrayList" "DEFAULTCAPACITY_EMPTY_ELEMENTDATA" "[Ljava/lang/Object;" (.ref dc)) (ge_r0 : n0 ≤ r0) :
    own_Cw l Z (⟨"java/util/ArrayList", "<init>", "()V"⟩ : MethodName) jdk_38_method_2_code 1 none ws (own_rr 3 0 0 36) #[(.ref r0)] h0 (Qali Z r0 dc h0 n0) := by
  refine own_body (plainFor_of_name pn_java_util_ArrayList) ?_
  intro p e s m below meth c s₁ hx hby hml hZ hown hnm hret hlk X0 e0
  have N0 := Fr.nil n0
  refine own_go (fun t k => castTop (ef_ali m r0) k) ?_
  refine sa X0 hx (dx hby dd2 0) ?_
  refine oc_special X0 hx hZ hown rfl (wx hw 12) (wx hw 13) (wx hw 16) (wx hw 17) (by decide) (W := 0) (rmabl_al l Z a0 hw [] r0 h0 n0 Z0 P0 P1 P2 P3 ge_r0) (by decide) (by decide) (a := r0) (argsL := []) (rest := []) (by rw [hml]; rfl) (lenOf pd_4 rfl) rfl (Nat.le_of_eq rfl) (dx hby dd2 1) rfl e0 (by decide) (by decide) (fun v41 T41 Lc41 hQ41 X41 => ?_)
  obtain ⟨N41q, rfl, K41q, po41_0, po41_1, po41_2⟩ := hQ41
  have N41 := Fr.app N0 N41q
  have K41 : Keep h0 T41.heap [r0] := (Keep.refl h0 [r0]).trans K41q (allS (Or.inl (List.mem_of_getElem? (i := 0) rfl)) all0)
  have Z41 : n0 ≤ T41.heap.size := Nat.le_trans Z0 K41q.1
  refine sa X41 hx (dx hby dd2 2) ?_
  show own_Gl _ _ _ _ (T41.setTop (mkF m 5 #[vR r0] [(.ref r0)]))
  have f_43 := own_sta_keep P4 K41q (allS (own_exa_ns P0) all0)
  obtain ⟨T42, X42, e42, st42⟩ := getS2 X41 hx hZ hown (host := "") (Or.inl (wx hw 29)) Via.refl rfl f_43 (g := (mkF m 5 #[vR r0] [(.ref r0)])) rfl (dx hby dd2 3)
  refine og (st42 _) ?_
  show own_Gl _ _ _ _ (T42.setTop (mkF m 8 #[vR r0] [(.ref dc), (.ref r0)]))
  have f_44 := P0.keep K41q
  refine oc_putF X42 hx hZ hown (host := "") (Or.inl (wx hw 30)) Via.refl e42 po41_1 f_44 (Or.inl (wx hw 31)) (wx hw 7) (ty := (.array (.object "java/lang/Object"))) (by decide) rfl rfl (dx hby dd2 4) (fun T45 h45 X45 e45 W45 => ?_)
  have Fw45 : Fld Z h45 r0 "java/util/ArrayList" "elementData" "[Ljava/lang/Object;" (.ref dc) := po41_1.same W45
  have K45 : Keep h0 h45 [r0] := K41.wr W45 (Or.inl (List.mem_of_getElem? (i := 0) rfl))
  have N45 := Fr.snoc X45 N41 ge_r0
  have Z45 : n0 ≤ h45.size := Nat.le_trans Z41 (Keep.of_wr W45).1
  have f_46 := po41_0.other W45 (Or.inr (own_sn (Or.inl (wx hw 28)) (Or.inl (wx hw 31))))
  have f_47 := po41_2.other W45 (Or.inr (own_sn (Or.inl (wx hw 50)) (Or.inl (wx hw 31))))
  exact own_retV X45 hx hret hlk (dx hby dd2 5) e45 (by decide) (by decide) ⟨N45, rfl, K45, f_46, Fw45, f_47⟩
theorem dd11 : own_dec jdk_38_method_6_code [(0, .aload_n 0, 1), (1, .getfield 9, 3), (4, .arraylength, 1), (5, .istore_n 2, 1), (6, .iload_n 2, 1), (7, .ifCond .gt 13, 3), (10, .aload_n 0, 1), (11, .getfield 9, 3), (14, .getstatic 39, 3), (17, .if_acmp .eq 28, 3), (20, .iload_n 2, 1), (21, .iload_n 1, 1), (22, .iload_n 2, 1), (23, .isub, 1), (24, .iload_n 2, 1), (25, .iconst 1, 1), (26, .ishr, 1), (27, .invokestatic 73, 3), (30, .istore_n 3, 1), (31, .aload_n 0, 1), (32, .aload_n 0, 1), (33, .getfield 9, 3), (36, .iload_n 3, 1), (37, .invokestatic 66, 3), (40, .dup_x1, 1), (41, .putfield 9, 3), (44, .areturn, 1), (45, .aload_n 0, 1), (46, .bipush 10, 2), (48, .iload_n 1, 1), (49, .invokestatic 79, 3), (52, .anewarray 7, 3), (55, .dup_x1, 1), (56, .putfield 9, 3), (59, .areturn, 1)] := by unfold own_dec; decide +kernel
theorem ef_gr1 (m : MethodId) (r0 : Addr) (p0 : Int32) : entryFrame m #[(.ref r0), (.int p0)] 4 = mkF m 0 #[vR r0, vI p0, vU, vU] [] := by first | (simp [entryFrame, mkF, argsToLocals, Value.category, vI, vR, vU]; done) | rfl
def Qgr1 (Z : State) (r0 : Addr) (p0 : Int32) (dc : Addr) (kD : ClassId) (mc : Int32) (h0 : Heap) (n0 : Nat) (v : Option Value) (h : Heap) (L : List Loc) : Prop := Fr n0 L ∧ ∃ (ar : Addr) (kA : ClassId), n0 ≤ ar ∧ h0.size ≤ ar ∧ v = some (.ref ar) ∧ Keep h0 h [r0] ∧ Ovr Z kA "java/lang/Object" ∧ Fld Z h r0 "java/util/AbstractList" "modCount" "I" (.int mc) ∧ Fld Z h r0 "java/util/ArrayList" "elementData" "[Ljava/lang/Object;" (.ref ar) ∧ Fld Z h r0 "java/util/ArrayList" "size" "I" (.int (0 : Int32)) ∧ Arv Z h ar kA (.object "java/lang/Object") (10 : Int32) [.null, .null, .null, .null, .null, .null, .null, .null, .null, .null] .null
set_option maxRecDepth 65536 in
set_option maxHeartbeats 40000000 in
theorem rmgr1 (l : Launch) (Z : State) (a0 : Array Value) (hw : ∀ d ∈ tables_1, d.before a0 Z = true) (ws : List Jvm.Cond) (r0 : Addr) (p0 : Int32) (dc : Addr) (kD : ClassId) (mc : Int32) (h0 : Heap) (n0 : Nat) (Z0 : n0 ≤ h0.size) (P0 : Exa Z h0 r0 "java/util/ArrayList") (P1 : Fld Z h0 r0 "java/util/AbstractList" "modCount" "I" (.int mc)) (P2 : Fld Z h0 r0 "java/util/ArrayList" "elementData" "[Ljava/lang/Object;" (.ref dc)) (P3 : Fld Z h0 r0 "java/util/ArrayList" "size" "I" (.int (0 : Int32))) (P4 : Sta Z h0 "java/util/ArrayList" "DEFAULTCAPACITY_EMPTY_ELEMENTDATA" "[Ljava/lang/Object;" (.ref dc)) (P5 : Arv Z h0 dc kD (.object "java/lang/Object") (0 : Int32) [] .null) (ge_r0 : n0 ≤ r0) (h1 : p0 = (1 : Int32)) :
    own_Cw l Z (⟨"java/util/ArrayList", "grow", "(I)[Ljava/lang/Object;"⟩ : MethodName) jdk_38_method_6_code 4 (some (.array (.object "java/lang/Object"))) ws (own_rr 1 1 10 14) #[(.ref r0), (.int p0)] h0 (Qgr1 Z r0 p0 dc kD mc h0 n0) := by
  refine own_body (plainFor_of_name pn_java_util_ArrayList) ?_
  intro p e s m below meth c s₁ hx hby hml hZ hown hnm hret hlk X0 e0
  have N0 := Fr.nil n0
  refine own_go (fun t k => castTop (ef_gr1 m r0 p0) k) ?_
  refine sa X0 hx (dx hby dd11 0) ?_
  refine oc_getF X0 hx hZ hown (host := "") (Or.inl (wx hw 30)) Via.refl e0 P2 (dx hby dd11 1) (fun T41 X41 e41 => ?_)
  refine oc_len X41 hx hZ e41 P5 (dx hby dd11 2) ?_
  refine og (XS.istoreN X41.here hx rfl (dx hby dd11 3) rfl (l' := #[vR r0, vI p0, vI (0 : Int32), vU]) rfl) ?_
  refine si X41 hx (dx hby dd11 4) ?_
  refine og (XS.ifNo X41.here hx rfl (dx hby dd11 5) rfl ((if0 _ _).trans (flt (by decide : ¬ ((0 : Int32) < (0 : Int32)))).2.2.1)) ?_
  refine sa X41 hx (dx hby dd11 6) ?_
  refine oc_getF X41 hx hZ hown (host := "") (Or.inl (wx hw 30)) Via.refl e41 P2 (dx hby dd11 7) (fun T42 X42 e42 => ?_)
  show own_Gl _ _ _ _ (T42.setTop (mkF m 14 #[vR r0, vI p0, vI (0 : Int32), vU] [(.ref dc)]))
  obtain ⟨T43, X43, e43, st43⟩ := getS2 X42 hx hZ hown (host := "") (Or.inl (wx hw 29)) Via.refl e42 P4 (g := (mkF m 14 #[vR r0, vI p0, vI (0 : Int32), vU] [(.ref dc)])) rfl (dx hby dd11 8)
  refine og (st43 _) ?_
  show own_Gl _ _ _ _ (T43.setTop (mkF m 17 #[vR r0, vI p0, vI (0 : Int32), vU] [(.ref dc), (.ref dc)]))
  refine og (Jvm.RoadKit.acmp (g := (mkF m 17 #[vR r0, vI p0, vI (0 : Int32), vU] [(.ref dc), (.ref dc)])) X43 hx rfl rfl rfl (pc0 := 17) (pc' := 45) (same := true) rfl (dx hby dd11 9) rfl (decide_eq_true rfl) (by decide) (by decide)) ?_
  refine sa X43 hx (dx hby dd11 27) ?_
  refine og (XS.bipush X43.here hx rfl (dx hby dd11 28)) ?_
  refine si X43 hx (dx hby dd11 29) ?_
  refine oc_static X43 hx hZ hown (wx hw 66) (wx hw 67) (wx hw 68) (wx hw 69) (by decide) (W := 1) (rmmax l Z a0 hw [] (10 : Int32) p0 h0 n0 Z0 ) (by decide) (by decide) (argsL := [(.int (10 : Int32)), (.int p0)]) (rest := [(.ref r0)]) (by rw [hml]; rfl) (lenOf pd_5 rfl) rfl (Nat.le_of_eq rfl) (dx hby dd11 30) rfl e43 (by decide) (by decide) (fun v44 T44 Lc44 hQ44 X44 => ?_)
  obtain ⟨N44q, rfl, hq44⟩ := hQ44
  have N44 := Fr.app N0 N44q
  show own_Gl _ _ _ _ (T44.setTop (mkF m 52 #[vR r0, vI p0, vI (0 : Int32), vU] [(.int (fmax (10 : Int32) p0)), (.ref r0)]))
  have hs45 : (fmax (10 : Int32) p0) = (10 : Int32) := by rw [h1]; rfl
  rw [hs45]
  show own_Gl _ _ _ _ (T44.setTop (mkF m 52 #[vR r0, vI p0, vI (0 : Int32), vU] [(.int (10 : Int32)), (.ref r0)]))
  obtain ⟨T46, h46, k46, X46, e46, E46, A46, O46, st46⟩ := newR X44 hx hZ hown (wx hw 70) (wx hw 71) hq44 (g := (mkF m 52 #[vR r0, vI p0, vI (0 : Int32), vU] [(.int (10 : Int32)), (.ref r0)])) rfl (dx hby dd11 31) rfl (by decide) (cap := 10) (by decide) (by decide) (by decide) (by decide)
  obtain ⟨b46, g46⟩ : ∃ z, z = h0.size := ⟨_, rfl⟩
  rw [← g46] at A46 st46
  have ne_r0_b46 : r0 ≠ b46 := Nat.ne_of_lt (Nat.lt_of_lt_of_le P0.lt (Nat.le_of_eq g46.symm))
  have ne_dc_b46 : dc ≠ b46 := Nat.ne_of_lt (Nat.lt_of_lt_of_le P5.lt (Nat.le_of_eq g46.symm))
  have ge_b46 : n0 ≤ b46 := Nat.le_trans Z0 (Nat.le_of_eq g46.symm)
  have sz_b46 : h0.size ≤ b46 := Nat.le_trans (Keep.refl h0 [r0]).1 (Nat.le_of_eq g46.symm)
  refine og (st46 _) ?_
  have K46 : Keep h0 h46 [r0] := (Keep.refl h0 [r0]).ext E46
  have Z46 : n0 ≤ h46.size := Nat.le_trans Z0 E46.1
  have V46 : Arv Z h46 b46 k46 (.object "java/lang/Object") (10 : Int32) [.null, .null, .null, .null, .null, .null, .null, .null, .null, .null] .null := (Arv.new A46 (by decide)).pad (pad_rep [] .null 10)
  refine og (XS.dupX1 X46.here hx rfl (dx hby dd11 32) rfl rfl rfl) ?_
  show own_Gl _ _ _ _ (T46.setTop (mkF m 56 #[vR r0, vI p0, vI (0 : Int32), vU] [(.ref b46), (.ref r0), (.ref b46)]))
  have f_47 := P2.ext E46
  have f_48 := P0.ext E46
  refine oc_putF X46 hx hZ hown (host := "") (Or.inl (wx hw 30)) Via.refl e46 f_47 f_48 (Or.inl (wx hw 31)) (wx hw 7) (ty := (.array (.object "java/lang/Object"))) (by decide) rfl rfl (dx hby dd11 33) (fun T49 h49 X49 e49 W49 => ?_)
  have Fw49 : Fld Z h49 r0 "java/util/ArrayList" "elementData" "[Ljava/lang/Object;" (.ref b46) := f_47.same W49
  have K49 : Keep h0 h49 [r0] := K46.wr W49 (Or.inl (List.mem_of_getElem? (i := 0) rfl))
  have N49 := Fr.snoc X49 N44 ge_r0
  have Z49 : n0 ≤ h49.size := Nat.le_trans Z46 (Keep.of_wr W49).1
  have f_50 := (P1.ext E46).other W49 (Or.inr (own_sn (Or.inl (wx hw 28)) (Or.inl (wx hw 31))))
  have f_51 := (P3.ext E46).other W49 (Or.inr (own_sn (Or.inl (wx hw 50)) (Or.inl (wx hw 31))))
  have f_52 := V46.other W49 (Ne.symm ne_r0_b46)
  exact own_retW X49 hx hret hlk rfl (Or.inr (Or.inr (Or.inr (Or.inr ⟨rfl, rfl, rfl⟩)))) (dx hby dd11 34) e49 (by decide) (by decide) ⟨N49, b46, k46, ge_b46, sz_b46, rfl, K49, O46, f_50, Fw49, f_51, f_52⟩
theorem dd10 : own_dec jdk_38_method_7_code [(0, .aload_n 0, 1), (1, .aload_n 0, 1), (2, .getfield 48, 3), (5, .iconst 1, 1), (6, .iadd, 1), (7, .invokevirtual 69, 3), (10, .areturn, 1)] := by unfold own_dec; decide +kernel
theorem ef_gr0 (m : MethodId) (r0 : Addr) : entryFrame m #[(.ref r0)] 1 = mkF m 0 #[vR r0] [] := by first | (simp [entryFrame, mkF, argsToLocals, Value.category, vI, vR, vU]; done) | rfl
theorem pd_6 : parseMethodDescriptor "(I)[Ljava/lang/Object;" = some ⟨[.int], some (.array (.object "java/lang/Object"))⟩ := by decide +kernel
def Qgr0 (Z : State) (r0 : Addr) (dc : Addr) (kD : ClassId) (mc : Int32) (h0 : Heap) (n0 : Nat) (v : Option Value) (h : Heap) (L : List Loc) : Prop := Fr n0 L ∧ ∃ (ar : Addr) (kA : ClassId), n0 ≤ ar ∧ h0.size ≤ ar ∧ v = some (.ref ar) ∧ Keep h0 h [r0] ∧ Ovr Z kA "java/lang/Object" ∧ Fld Z h r0 "java/util/AbstractList" "modCount" "I" (.int mc) ∧ Fld Z h r0 "java/util/ArrayList" "elementData" "[Ljava/lang/Object;" (.ref ar) ∧ Fld Z h r0 "java/util/ArrayList" "size" "I" (.int (0 : Int32)) ∧ Arv Z h ar kA (.object "java/lang/Object") (10 : Int32) [.null, .null, .null, .null, .null, .null, .null, .null, .null, .null] .null
set_option maxRecDepth 65536 in
set_option maxHeartbeats 40000000 in
theorem rmgr0 (l : Launch) (Z : State) (a0 : Array Value) (hw : ∀ d ∈ tables_1, d.before a0 Z = true) (ws : List Jvm.Cond) (r0 : Addr) (dc : Addr) (kD : ClassId) (mc : Int32) (h0 : Heap) (n0 : Nat) (Z0 : n0 ≤ h0.size) (P0 : Exa Z h0 r0 "java/util/ArrayList") (P1 : Fld Z h0 r0 "java/util/AbstractList" "modCount" "I" (.int mc)) (P2 : Fld Z h0 r0 "java/util/ArrayList" "elementData" "[Ljava/lang/Object;" (.ref dc)) (P3 : Fld Z h0 r0 "java/util/ArrayList" "size" "I" (.int (0 : Int32))) (P4 : Sta Z h0 "java/util/ArrayList" "DEFAULTCAPACITY_EMPTY_ELEMENTDATA" "[Ljava/lang/Object;" (.ref dc)) (P5 : Arv Z h0 dc kD (.object "java/lang/Object") (0 : Int32) [] .null) (ge_r0 : n0 ≤ r0) :
    own_Cw l Z (⟨"java/util/ArrayList", "grow", "()[Ljava/lang/Object;"⟩ : MethodName) jdk_38_method_7_code 1 (some (.array (.object "java/lang/Object"))) ws (own_rr 2 1 10 29) #[(.ref r0)] h0 (Qgr0 Z r0 dc kD mc h0 n0) := by
  refine own_body (plainFor_of_name pn_java_util_ArrayList) ?_
  intro p e s m below meth c s₁ hx hby hml hZ hown hnm hret hlk X0 e0
  have N0 := Fr.nil n0
  refine own_go (fun t k => castTop (ef_gr0 m r0) k) ?_
  refine sa X0 hx (dx hby dd10 0) ?_
  refine sa X0 hx (dx hby dd10 1) ?_
  refine oc_getF X0 hx hZ hown (host := "") (Or.inl (wx hw 49)) Via.refl e0 P3 (dx hby dd10 2) (fun T41 X41 e41 => ?_)
  refine sc X41 hx (dx hby dd10 3) ?_
  refine og (XS.iadd X41.here hx rfl (dx hby dd10 4) rfl) ?_
  refine oc_private X41 hx hZ hown (wx hw 61) (wx hw 63) (wx hw 7) (wx hw 62) (wx hw 8) (wx hw 65) (by decide) (W := 0) (rmgr1 l Z a0 hw [] r0 (1 : Int32) dc kD mc h0 n0 Z0 P0 P1 P2 P3 P4 P5 ge_r0 rfl) (by decide) (by decide) P0 (argsL := [(.int (1 : Int32))]) (rest := []) (by rw [hml]; rfl) (lenOf pd_6 rfl) rfl (Nat.le_of_eq rfl) (dx hby dd10 5) rfl e41 (by decide) (by decide) (fun v42 T42 Lc42 hQ42 X42 => ?_)
  obtain ⟨N42q, w42_ar, w42_kA, gn_w42_ar, sz0_w42_ar, rfl, K42q, qx42_0, po42_0, po42_1, po42_2, po42_3⟩ := hQ42
  have N42 := Fr.app N0 N42q
  have ne_r0_w42_ar : r0 ≠ w42_ar := Nat.ne_of_lt (Nat.lt_of_lt_of_le P0.lt sz0_w42_ar)
  have ne_dc_w42_ar : dc ≠ w42_ar := Nat.ne_of_lt (Nat.lt_of_lt_of_le P5.lt sz0_w42_ar)
  have sz_w42_ar : h0.size ≤ w42_ar := Nat.le_trans (Keep.refl h0 [r0]).1 sz0_w42_ar
  have K42 : Keep h0 T42.heap [r0] := (Keep.refl h0 [r0]).trans K42q (allS (Or.inl (List.mem_of_getElem? (i := 0) rfl)) all0)
  have Z42 : n0 ≤ T42.heap.size := Nat.le_trans Z0 K42q.1
  exact own_retW X42 hx hret hlk rfl (Or.inr (Or.inr (Or.inr (Or.inr ⟨rfl, rfl, rfl⟩)))) (dx hby dd10 6) rfl (by decide) (by decide) ⟨N42, w42_ar, w42_kA, gn_w42_ar, sz_w42_ar, rfl, K42, qx42_0, po42_0, po42_1, po42_2, po42_3⟩
theorem dd9 : own_dec jdk_38_method_24_code [(0, .iload_n 3, 1), (1, .aload_n 2, 1), (2, .arraylength, 1), (3, .if_icmp .ne 8, 3), (6, .aload_n 0, 1), (7, .invokevirtual 129, 3), (10, .astore_n 2, 1), (11, .aload_n 2, 1), (12, .iload_n 3, 1), (13, .aload_n 1, 1), (14, .aastore, 1), (15, .aload_n 0, 1), (16, .iload_n 3, 1), (17, .iconst 1, 1), (18, .iadd, 1), (19, .putfield 48, 3), (22, .return_, 1)] := by unfold own_dec; decide +kernel
theorem ef_had_0 (m : MethodId) (r0 : Addr) (r1 : Addr) (dc : Addr) (p0 : Int32) : entryFrame m #[(.ref r0), (.ref r1), (.ref dc), (.int p0)] 4 = mkF m 0 #[vR r0, vR r1, vR dc, vI p0] [] := by first | (simp [entryFrame, mkF, argsToLocals, Value.category, vI, vR, vU]; done) | rfl
theorem pd_7 : parseMethodDescriptor "()[Ljava/lang/Object;" = some ⟨[], some (.array (.object "java/lang/Object"))⟩ := by decide +kernel
def Qhad_0 (Z : State) (r0 : Addr) (r1 : Addr) (dc : Addr) (p0 : Int32) (kD : ClassId) (mc : Int32) (h0 : Heap) (n0 : Nat) (v : Option Value) (h : Heap) (L : List Loc) : Prop := Fr n0 L ∧ ∃ (ar : Addr) (kA : ClassId), n0 ≤ ar ∧ h0.size ≤ ar ∧ v = none ∧ Keep h0 h [r0] ∧ Ovr Z kA "java/lang/Object" ∧ Fld Z h r0 "java/util/AbstractList" "modCount" "I" (.int mc) ∧ Fld Z h r0 "java/util/ArrayList" "elementData" "[Ljava/lang/Object;" (.ref ar) ∧ Fld Z h r0 "java/util/ArrayList" "size" "I" (.int (1 : Int32)) ∧ Arv Z h ar kA (.object "java/lang/Object") (10 : Int32) [(.ref r1), .null, .null, .null, .null, .null, .null, .null, .null, .null] .null
set_option maxRecDepth 65536 in
set_option maxHeartbeats 40000000 in
theorem rmhad_0 (l : Launch) (Z : State) (a0 : Array Value) (hw : ∀ d ∈ tables_1, d.before a0 Z = true) (ws : List Jvm.Cond) (r0 : Addr) (r1 : Addr) (dc : Addr) (p0 : Int32) (kD : ClassId) (mc : Int32) (h0 : Heap) (n0 : Nat) (Z0 : n0 ≤ h0.size) (P0 : Exa Z h0 r0 "java/util/ArrayList") (P1 : Fld Z h0 r0 "java/util/AbstractList" "modCount" "I" (.int mc)) (P2 : Fld Z h0 r0 "java/util/ArrayList" "elementData" "[Ljava/lang/Object;" (.ref dc)) (P3 : Fld Z h0 r0 "java/util/ArrayList" "size" "I" (.int (0 : Int32))) (P4 : Sta Z h0 "java/util/ArrayList" "DEFAULTCAPACITY_EMPTY_ELEMENTDATA" "[Ljava/lang/Object;" (.ref dc)) (P5 : Arv Z h0 dc kD (.object "java/lang/Object") (0 : Int32) [] .null) (P6 : Exa Z h0 r1 "java/lang/Integer") (ge_r0 : n0 ≤ r0) (hz : p0 = (0 : Int32)) :
    own_Cw l Z (⟨"java/util/ArrayList", "add", "(Ljava/lang/Object;[Ljava/lang/Object;I)V"⟩ : MethodName) jdk_38_method_24_code 4 none ws (own_rr 3 1 10 41) #[(.ref r0), (.ref r1), (.ref dc), (.int p0)] h0 (Qhad_0 Z r0 r1 dc p0 kD mc h0 n0) := by
  refine own_body (plainFor_of_name pn_java_util_ArrayList) ?_
  intro p e s m below meth c s₁ hx hby hml hZ hown hnm hret hlk X0 e0
  have N0 := Fr.nil n0
  refine own_go (fun t k => castTop (ef_had_0 m r0 r1 dc p0) k) ?_
  show own_Gl _ _ _ _ (s₁.setTop (mkF m 0 #[vR r0, vR r1, vR dc, vI p0] []))
  have hs41 : p0 = (0 : Int32) := hz
  rw [hs41]
  refine si X0 hx (dx hby dd9 0) ?_
  refine sa X0 hx (dx hby dd9 1) ?_
  refine oc_len X0 hx hZ e0 P5 (dx hby dd9 2) ?_
  refine og (XS.icmpNo X0.here hx rfl (dx hby dd9 3) rfl (teq (rfl : (0 : Int32) = (0 : Int32))).2) ?_
  refine sa X0 hx (dx hby dd9 4) ?_
  refine oc_private X0 hx hZ hown (wx hw 56) (wx hw 58) (wx hw 7) (wx hw 57) (wx hw 8) (wx hw 60) (by decide) (W := 0) (rmgr0 l Z a0 hw [] r0 dc kD mc h0 n0 Z0 P0 P1 P2 P3 P4 P5 ge_r0) (by decide) (by decide) P0 (argsL := []) (rest := []) (by rw [hml]; rfl) (lenOf pd_7 rfl) rfl (Nat.le_of_eq rfl) (dx hby dd9 5) rfl e0 (by decide) (by decide) (fun v42 T42 Lc42 hQ42 X42 => ?_)
  obtain ⟨N42q, w42_ar, w42_kA, gn_w42_ar, sz0_w42_ar, rfl, K42q, qx42_0, po42_0, po42_1, po42_2, po42_3⟩ := hQ42
  have N42 := Fr.app N0 N42q
  have ne_r0_w42_ar : r0 ≠ w42_ar := Nat.ne_of_lt (Nat.lt_of_lt_of_le P0.lt sz0_w42_ar)
  have ne_dc_w42_ar : dc ≠ w42_ar := Nat.ne_of_lt (Nat.lt_of_lt_of_le P5.lt sz0_w42_ar)
  have ne_r1_w42_ar : r1 ≠ w42_ar := Nat.ne_of_lt (Nat.lt_of_lt_of_le P6.lt sz0_w42_ar)
  have sz_w42_ar : h0.size ≤ w42_ar := Nat.le_trans (Keep.refl h0 [r0]).1 sz0_w42_ar
  have K42 : Keep h0 T42.heap [r0] := (Keep.refl h0 [r0]).trans K42q (allS (Or.inl (List.mem_of_getElem? (i := 0) rfl)) all0)
  have Z42 : n0 ≤ T42.heap.size := Nat.le_trans Z0 K42q.1
  refine og (XS.astoreN X42.here hx rfl (dx hby dd9 6) rfl rfl (l' := #[vR r0, vR r1, vR w42_ar, vI (0 : Int32)]) rfl) ?_
  refine sa X42 hx (dx hby dd9 7) ?_
  refine si X42 hx (dx hby dd9 8) ?_
  refine sa X42 hx (dx hby dd9 9) ?_
  show own_Gl _ _ _ _ (T42.setTop (mkF m 14 #[vR r0, vR r1, vR w42_ar, vI (0 : Int32)] [(.ref r1), (.int (0 : Int32)), (.ref w42_ar)]))
  have f_44 := P6.keep K42q
  refine oc_aastore X42 hx hZ rfl po42_3 ⟨by decide, by decide⟩ 0 rfl (Nat.le_of_ble_eq_true rfl) (Or.inr ⟨qx42_0, _, _, rfl, rfl, (Ins.of_exa f_44 (wx hw 72))⟩) (dx hby dd9 10) (fun T43 h43 X43 e43 W43 V43 => ?_)
  have V43 : Arv Z h43 w42_ar w42_kA (.object "java/lang/Object") (10 : Int32) [(.ref r1), .null, .null, .null, .null, .null, .null, .null, .null, .null] .null := V43
  have K43 : Keep h0 h43 [r0] := K42.wr W43 (Or.inr sz_w42_ar)
  have N43 := Fr.snoc X43 N42 gn_w42_ar
  have Z43 : n0 ≤ h43.size := Nat.le_trans Z42 (Keep.of_wr W43).1
  refine sa X43 hx (dx hby dd9 11) ?_
  refine si X43 hx (dx hby dd9 12) ?_
  refine sc X43 hx (dx hby dd9 13) ?_
  refine og (XS.iadd X43.here hx rfl (dx hby dd9 14) rfl) ?_
  show own_Gl _ _ _ _ (T43.setTop (mkF m 19 #[vR r0, vR r1, vR w42_ar, vI (0 : Int32)] [(.int (1 : Int32)), (.ref r0)]))
  have f_45 := po42_2.other W43 (Or.inl ne_r0_w42_ar)
  have f_46 := (P0.keep K42q).wr W43
  refine oc_putF X43 hx hZ hown (host := "") (Or.inl (wx hw 49)) Via.refl e43 f_45 f_46 (Or.inl (wx hw 50)) (wx hw 7) (ty := .int) (by decide) rfl rfl (dx hby dd9 15) (fun T47 h47 X47 e47 W47 => ?_)
  have Fw47 : Fld Z h47 r0 "java/util/ArrayList" "size" "I" (.int (1 : Int32)) := f_45.same W47
  have K47 : Keep h0 h47 [r0] := K43.wr W47 (Or.inl (List.mem_of_getElem? (i := 0) rfl))
  have N47 := Fr.snoc X47 N43 ge_r0
  have Z47 : n0 ≤ h47.size := Nat.le_trans Z43 (Keep.of_wr W47).1
  have f_48 := (po42_0.other W43 (Or.inl ne_r0_w42_ar)).other W47 (Or.inr (own_sn (Or.inl (wx hw 28)) (Or.inl (wx hw 50))))
  have f_49 := (po42_1.other W43 (Or.inl ne_r0_w42_ar)).other W47 (Or.inr (own_sn (Or.inl (wx hw 31)) (Or.inl (wx hw 50))))
  have f_50 := V43.other W47 (Ne.symm ne_r0_w42_ar)
  exact own_retV X47 hx hret hlk (dx hby dd9 16) e47 (by decide) (by decide) ⟨N47, w42_ar, w42_kA, gn_w42_ar, sz_w42_ar, rfl, K47, qx42_0, f_48, f_49, Fw47, f_50⟩
theorem dd8 : own_dec jdk_38_method_25_code [(0, .aload_n 0, 1), (1, .dup, 1), (2, .getfield 63, 3), (5, .iconst 1, 1), (6, .iadd, 1), (7, .putfield 63, 3), (10, .aload_n 0, 1), (11, .aload_n 1, 1), (12, .aload_n 0, 1), (13, .getfield 9, 3), (16, .aload_n 0, 1), (17, .getfield 48, 3), (20, .invokevirtual 131, 3), (23, .iconst 1, 1), (24, .ireturn, 1)] := by unfold own_dec; decide +kernel
theorem ef_add_0 (m : MethodId) (r0 : Addr) (r1 : Addr) : entryFrame m #[(.ref r0), (.ref r1)] 2 = mkF m 0 #[vR r0, vR r1] [] := by first | (simp [entryFrame, mkF, argsToLocals, Value.category, vI, vR, vU]; done) | rfl
theorem pd_8 : parseMethodDescriptor "(Ljava/lang/Object;[Ljava/lang/Object;I)V" = some ⟨[(.object "java/lang/Object"), (.array (.object "java/lang/Object")), .int], none⟩ := by decide +kernel
def Qadd_0 (Z : State) (r0 : Addr) (r1 : Addr) (dc : Addr) (kD : ClassId) (mc : Int32) (h0 : Heap) (n0 : Nat) (v : Option Value) (h : Heap) (L : List Loc) : Prop := Fr n0 L ∧ ∃ (ar : Addr) (kA : ClassId), n0 ≤ ar ∧ h0.size ≤ ar ∧ v = some (.int (1 : Int32)) ∧ Keep h0 h [r0] ∧ Ovr Z kA "java/lang/Object" ∧ Fld Z h r0 "java/util/AbstractList" "modCount" "I" (.int (mc + (1 : Int32))) ∧ Fld Z h r0 "java/util/ArrayList" "elementData" "[Ljava/lang/Object;" (.ref ar) ∧ Fld Z h r0 "java/util/ArrayList" "size" "I" (.int (1 : Int32)) ∧ Arv Z h ar kA (.object "java/lang/Object") (10 : Int32) [(.ref r1), .null, .null, .null, .null, .null, .null, .null, .null, .null] .null
set_option maxRecDepth 65536 in
set_option maxHeartbeats 40000000 in
theorem rmadd_0 (l : Launch) (Z : State) (a0 : Array Value) (hw : ∀ d ∈ tables_1, d.before a0 Z = true) (ws : List Jvm.Cond) (r0 : Addr) (r1 : Addr) (dc : Addr) (kD : ClassId) (mc : Int32) (h0 : Heap) (n0 : Nat) (Z0 : n0 ≤ h0.size) (P0 : Exa Z h0 r0 "java/util/ArrayList") (P1 : Fld Z h0 r0 "java/util/AbstractList" "modCount" "I" (.int mc)) (P2 : Fld Z h0 r0 "java/util/ArrayList" "elementData" "[Ljava/lang/Object;" (.ref dc)) (P3 : Fld Z h0 r0 "java/util/ArrayList" "size" "I" (.int (0 : Int32))) (P4 : Sta Z h0 "java/util/ArrayList" "DEFAULTCAPACITY_EMPTY_ELEMENTDATA" "[Ljava/lang/Object;" (.ref dc)) (P5 : Arv Z h0 dc kD (.object "java/lang/Object") (0 : Int32) [] .null) (P6 : Exa Z h0 r1 "java/lang/Integer") (ge_r0 : n0 ≤ r0) :
    own_Cw l Z (⟨"java/util/ArrayList", "add", "(Ljava/lang/Object;)Z"⟩ : MethodName) jdk_38_method_25_code 2 (some .boolean) ws (own_rr 4 1 10 56) #[(.ref r0), (.ref r1)] h0 (Qadd_0 Z r0 r1 dc kD mc h0 n0) := by
  refine own_body (plainFor_of_name pn_java_util_ArrayList) ?_
  intro p e s m below meth c s₁ hx hby hml hZ hown hnm hret hlk X0 e0
  have N0 := Fr.nil n0
  refine own_go (fun t k => castTop (ef_add_0 m r0 r1) k) ?_
  refine sa X0 hx (dx hby dd8 0) ?_
  refine og (XS.dup X0.here hx rfl (dx hby dd8 1) rfl rfl) ?_
  refine oc_getF X0 hx hZ hown (host := "") (Or.inl (wx hw 47)) (Via.of (wx hw 48)) e0 P1 (dx hby dd8 2) (fun T41 X41 e41 => ?_)
  refine sc X41 hx (dx hby dd8 3) ?_
  refine og (XS.iadd X41.here hx rfl (dx hby dd8 4) rfl) ?_
  show own_Gl _ _ _ _ (T41.setTop (mkF m 7 #[vR r0, vR r1] [(.int (mc + (1 : Int32))), (.ref r0)]))
  refine oc_putF X41 hx hZ hown (host := "") (Or.inl (wx hw 47)) (Via.of (wx hw 48)) e41 P1 P0 (Or.inl (wx hw 28)) (wx hw 7) (ty := .int) (by decide) rfl rfl (dx hby dd8 5) (fun T42 h42 X42 e42 W42 => ?_)
  have Fw42 : Fld Z h42 r0 "java/util/AbstractList" "modCount" "I" (.int (mc + (1 : Int32))) := P1.same W42
  have K42 : Keep h0 h42 [r0] := (Keep.refl h0 [r0]).wr W42 (Or.inl (List.mem_of_getElem? (i := 0) rfl))
  have N42 := Fr.snoc X42 N0 ge_r0
  have Z42 : n0 ≤ h42.size := Nat.le_trans Z0 (Keep.of_wr W42).1
  refine sa X42 hx (dx hby dd8 6) ?_
  refine sa X42 hx (dx hby dd8 7) ?_
  refine sa X42 hx (dx hby dd8 8) ?_
  have f_44 := P2.other W42 (Or.inr (own_sn (Or.inl (wx hw 31)) (Or.inl (wx hw 28))))
  refine oc_getF X42 hx hZ hown (host := "") (Or.inl (wx hw 30)) Via.refl e42 f_44 (dx hby dd8 9) (fun T43 X43 e43 => ?_)
  refine sa X43 hx (dx hby dd8 10) ?_
  have f_46 := P3.other W42 (Or.inr (own_sn (Or.inl (wx hw 50)) (Or.inl (wx hw 28))))
  refine oc_getF X43 hx hZ hown (host := "") (Or.inl (wx hw 49)) Via.refl e43 f_46 (dx hby dd8 11) (fun T45 X45 e45 => ?_)
  have f_47 := P0.wr W42
  have f_48 := P4.wr W42
  have ne_49 : dc ≠ r0 := (Ne.symm (own_ne_arv P0 (wx hw 7) P5))
  have f_50 := P5.other W42 ne_49
  have f_51 := P6.wr W42
  refine oc_private X45 hx hZ hown (wx hw 51) (wx hw 53) (wx hw 7) (wx hw 52) (wx hw 8) (wx hw 55) (by decide) (W := 0) (rmhad_0 l Z a0 hw [] r0 r1 dc (0 : Int32) kD (mc + (1 : Int32)) h42 n0 Z42 f_47 Fw42 f_44 f_46 f_48 f_50 f_51 ge_r0 rfl) (by decide) (by decide) f_47 (argsL := [(.ref r1), (.ref dc), (.int (0 : Int32))]) (rest := []) (by rw [hml]; rfl) (lenOf pd_8 rfl) rfl (Nat.le_of_eq rfl) (dx hby dd8 12) rfl e45 (by decide) (by decide) (fun v52 T52 Lc52 hQ52 X52 => ?_)
  obtain ⟨N52q, w52_ar, w52_kA, gn_w52_ar, sz0_w52_ar, rfl, K52q, qx52_0, po52_0, po52_1, po52_2, po52_3⟩ := hQ52
  have N52 := Fr.app N42 N52q
  have ne_r0_w52_ar : r0 ≠ w52_ar := Nat.ne_of_lt (Nat.lt_of_lt_of_le f_47.lt sz0_w52_ar)
  have ne_dc_w52_ar : dc ≠ w52_ar := Nat.ne_of_lt (Nat.lt_of_lt_of_le f_50.lt sz0_w52_ar)
  have ne_r1_w52_ar : r1 ≠ w52_ar := Nat.ne_of_lt (Nat.lt_of_lt_of_le f_51.lt sz0_w52_ar)
  have sz_w52_ar : h0.size ≤ w52_ar := Nat.le_trans K42.1 sz0_w52_ar
  have K52 : Keep h0 T52.heap [r0] := K42.trans K52q (allS (Or.inl (List.mem_of_getElem? (i := 0) rfl)) all0)
  have Z52 : n0 ≤ T52.heap.size := Nat.le_trans Z42 K52q.1
  refine sc X52 hx (dx hby dd8 13) ?_
  exact own_retB X52 hx (t := .boolean) hret hlk (by simp) (dx hby dd8 14) rfl (by decide) (by decide) ⟨N52, w52_ar, w52_kA, gn_w52_ar, sz_w52_ar, rfl, K52, qx52_0, po52_0, po52_1, po52_2, po52_3⟩
theorem ef_had_1 (m : MethodId) (r0 : Addr) (r1 : Addr) (ar : Addr) (p0 : Int32) : entryFrame m #[(.ref r0), (.ref r1), (.ref ar), (.int p0)] 4 = mkF m 0 #[vR r0, vR r1, vR ar, vI p0] [] := by first | (simp [entryFrame, mkF, argsToLocals, Value.category, vI, vR, vU]; done) | rfl
def Qhad_1 (Z : State) (r0 : Addr) (r1 : Addr) (ar : Addr) (p0 : Int32) (kA : ClassId) (mc : Int32) (v0 : Value) (v1 : Value) (v2 : Value) (v3 : Value) (v4 : Value) (v5 : Value) (v6 : Value) (v7 : Value) (v8 : Value) (v9 : Value) (h0 : Heap) (n0 : Nat) (v : Option Value) (h : Heap) (L : List Loc) : Prop := Fr n0 L ∧ v = none ∧ Keep h0 h [r0, ar] ∧ Fld Z h r0 "java/util/AbstractList" "modCount" "I" (.int mc) ∧ Fld Z h r0 "java/util/ArrayList" "elementData" "[Ljava/lang/Object;" (.ref ar) ∧ Fld Z h r0 "java/util/ArrayList" "size" "I" (.int (2 : Int32)) ∧ Arv Z h ar kA (.object "java/lang/Object") (10 : Int32) [v0, (.ref r1), v2, v3, v4, v5, v6, v7, v8, v9] .null
set_option maxRecDepth 65536 in
set_option maxHeartbeats 40000000 in
theorem rmhad_1 (l : Launch) (Z : State) (a0 : Array Value) (hw : ∀ d ∈ tables_1, d.before a0 Z = true) (ws : List Jvm.Cond) (r0 : Addr) (r1 : Addr) (ar : Addr) (p0 : Int32) (kA : ClassId) (mc : Int32) (v0 : Value) (v1 : Value) (v2 : Value) (v3 : Value) (v4 : Value) (v5 : Value) (v6 : Value) (v7 : Value) (v8 : Value) (v9 : Value) (h0 : Heap) (n0 : Nat) (Z0 : n0 ≤ h0.size) (P0 : Exa Z h0 r0 "java/util/ArrayList") (P1 : Fld Z h0 r0 "java/util/AbstractList" "modCount" "I" (.int mc)) (P2 : Fld Z h0 r0 "java/util/ArrayList" "elementData" "[Ljava/lang/Object;" (.ref ar)) (P3 : Fld Z h0 r0 "java/util/ArrayList" "size" "I" (.int (1 : Int32))) (P4 : Arv Z h0 ar kA (.object "java/lang/Object") (10 : Int32) [v0, v1, v2, v3, v4, v5, v6, v7, v8, v9] .null) (P5 : Exa Z h0 r1 "java/lang/Integer") (ne0 : r0 ≠ ar) (ge_r0 : n0 ≤ r0) (ge_ar : n0 ≤ ar) (hz : p0 = (1 : Int32)) (ov : Ovr Z kA "java/lang/Object") :
    own_Cw l Z (⟨"java/util/ArrayList", "add", "(Ljava/lang/Object;[Ljava/lang/Object;I)V"⟩ : MethodName) jdk_38_method_24_code 4 none ws (own_rr 0 0 0 0) #[(.ref r0), (.ref r1), (.ref ar), (.int p0)] h0 (Qhad_1 Z r0 r1 ar p0 kA mc v0 v1 v2 v3 v4 v5 v6 v7 v8 v9 h0 n0) := by
  refine own_body (plainFor_of_name pn_java_util_ArrayList) ?_
  intro p e s m below meth c s₁ hx hby hml hZ hown hnm hret hlk X0 e0
  have N0 := Fr.nil n0
  refine own_go (fun t k => castTop (ef_had_1 m r0 r1 ar p0) k) ?_
  show own_Gl _ _ _ _ (s₁.setTop (mkF m 0 #[vR r0, vR r1, vR ar, vI p0] []))
  have hs41 : p0 = (1 : Int32) := hz
  rw [hs41]
  refine si X0 hx (dx hby dd9 0) ?_
  refine sa X0 hx (dx hby dd9 1) ?_
  refine oc_len X0 hx hZ e0 P4 (dx hby dd9 2) ?_
  refine og (XS.icmpYes X0.here hx rfl (pc0 := 3) (pc' := 11) rfl (dx hby dd9 3) rfl (feq (by decide : ¬ ((1 : Int32) = (10 : Int32)))).2 (by decide) (by decide)) ?_
  refine sa X0 hx (dx hby dd9 7) ?_
  refine si X0 hx (dx hby dd9 8) ?_
  refine sa X0 hx (dx hby dd9 9) ?_
  show own_Gl _ _ _ _ (s₁.setTop (mkF m 14 #[vR r0, vR r1, vR ar, vI (1 : Int32)] [(.ref r1), (.int (1 : Int32)), (.ref ar)]))
  refine oc_aastore X0 hx hZ e0 P4 ⟨by decide, by decide⟩ 1 rfl (Nat.le_of_ble_eq_true rfl) (Or.inr ⟨ov, _, _, rfl, rfl, (Ins.of_exa P5 (wx hw 72))⟩) (dx hby dd9 10) (fun T42 h42 X42 e42 W42 V42 => ?_)
  have V42 : Arv Z h42 ar kA (.object "java/lang/Object") (10 : Int32) [v0, (.ref r1), v2, v3, v4, v5, v6, v7, v8, v9] .null := V42
  have K42 : Keep h0 h42 [r0, ar] := (Keep.refl h0 [r0, ar]).wr W42 (Or.inl (List.mem_of_getElem? (i := 1) rfl))
  have N42 := Fr.snoc X42 N0 ge_ar
  have Z42 : n0 ≤ h42.size := Nat.le_trans Z0 (Keep.of_wr W42).1
  refine sa X42 hx (dx hby dd9 11) ?_
  refine si X42 hx (dx hby dd9 12) ?_
  refine sc X42 hx (dx hby dd9 13) ?_
  refine og (XS.iadd X42.here hx rfl (dx hby dd9 14) rfl) ?_
  show own_Gl _ _ _ _ (T42.setTop (mkF m 19 #[vR r0, vR r1, vR ar, vI (1 : Int32)] [(.int (2 : Int32)), (.ref r0)]))
  have f_43 := P3.other W42 (Or.inl ne0)
  have f_44 := P0.wr W42
  refine oc_putF X42 hx hZ hown (host := "") (Or.inl (wx hw 49)) Via.refl e42 f_43 f_44 (Or.inl (wx hw 50)) (wx hw 7) (ty := .int) (by decide) rfl rfl (dx hby dd9 15) (fun T45 h45 X45 e45 W45 => ?_)
  have Fw45 : Fld Z h45 r0 "java/util/ArrayList" "size" "I" (.int (2 : Int32)) := f_43.same W45
  have K45 : Keep h0 h45 [r0, ar] := K42.wr W45 (Or.inl (List.mem_of_getElem? (i := 0) rfl))
  have N45 := Fr.snoc X45 N42 ge_r0
  have Z45 : n0 ≤ h45.size := Nat.le_trans Z42 (Keep.of_wr W45).1
  have f_46 := (P1.other W42 (Or.inl ne0)).other W45 (Or.inr (own_sn (Or.inl (wx hw 28)) (Or.inl (wx hw 50))))
  have f_47 := (P2.other W42 (Or.inl ne0)).other W45 (Or.inr (own_sn (Or.inl (wx hw 31)) (Or.inl (wx hw 50))))
  have f_48 := V42.other W45 (Ne.symm ne0)
  exact own_retV X45 hx hret hlk (dx hby dd9 16) e45 (by decide) (by decide) ⟨N45, rfl, K45, f_46, f_47, Fw45, f_48⟩
theorem ef_add_1 (m : MethodId) (r0 : Addr) (r1 : Addr) : entryFrame m #[(.ref r0), (.ref r1)] 2 = mkF m 0 #[vR r0, vR r1] [] := by first | (simp [entryFrame, mkF, argsToLocals, Value.category, vI, vR, vU]; done) | rfl
def Qadd_1 (Z : State) (r0 : Addr) (r1 : Addr) (ar : Addr) (kA : ClassId) (mc : Int32) (v0 : Value) (v1 : Value) (v2 : Value) (v3 : Value) (v4 : Value) (v5 : Value) (v6 : Value) (v7 : Value) (v8 : Value) (v9 : Value) (h0 : Heap) (n0 : Nat) (v : Option Value) (h : Heap) (L : List Loc) : Prop := Fr n0 L ∧ v = some (.int (1 : Int32)) ∧ Keep h0 h [r0, ar] ∧ Fld Z h r0 "java/util/AbstractList" "modCount" "I" (.int (mc + (1 : Int32))) ∧ Fld Z h r0 "java/util/ArrayList" "elementData" "[Ljava/lang/Object;" (.ref ar) ∧ Fld Z h r0 "java/util/ArrayList" "size" "I" (.int (2 : Int32)) ∧ Arv Z h ar kA (.object "java/lang/Object") (10 : Int32) [v0, (.ref r1), v2, v3, v4, v5, v6, v7, v8, v9] .null
set_option maxRecDepth 65536 in
set_option maxHeartbeats 40000000 in
theorem rmadd_1 (l : Launch) (Z : State) (a0 : Array Value) (hw : ∀ d ∈ tables_1, d.before a0 Z = true) (ws : List Jvm.Cond) (r0 : Addr) (r1 : Addr) (ar : Addr) (kA : ClassId) (mc : Int32) (v0 : Value) (v1 : Value) (v2 : Value) (v3 : Value) (v4 : Value) (v5 : Value) (v6 : Value) (v7 : Value) (v8 : Value) (v9 : Value) (h0 : Heap) (n0 : Nat) (Z0 : n0 ≤ h0.size) (P0 : Exa Z h0 r0 "java/util/ArrayList") (P1 : Fld Z h0 r0 "java/util/AbstractList" "modCount" "I" (.int mc)) (P2 : Fld Z h0 r0 "java/util/ArrayList" "elementData" "[Ljava/lang/Object;" (.ref ar)) (P3 : Fld Z h0 r0 "java/util/ArrayList" "size" "I" (.int (1 : Int32))) (P4 : Arv Z h0 ar kA (.object "java/lang/Object") (10 : Int32) [v0, v1, v2, v3, v4, v5, v6, v7, v8, v9] .null) (P5 : Exa Z h0 r1 "java/lang/Integer") (ne0 : r0 ≠ ar) (ge_r0 : n0 ≤ r0) (ge_ar : n0 ≤ ar) (ov : Ovr Z kA "java/lang/Object") :
    own_Cw l Z (⟨"java/util/ArrayList", "add", "(Ljava/lang/Object;)Z"⟩ : MethodName) jdk_38_method_25_code 2 (some .boolean) ws (own_rr 1 0 0 15) #[(.ref r0), (.ref r1)] h0 (Qadd_1 Z r0 r1 ar kA mc v0 v1 v2 v3 v4 v5 v6 v7 v8 v9 h0 n0) := by
  refine own_body (plainFor_of_name pn_java_util_ArrayList) ?_
  intro p e s m below meth c s₁ hx hby hml hZ hown hnm hret hlk X0 e0
  have N0 := Fr.nil n0
  refine own_go (fun t k => castTop (ef_add_1 m r0 r1) k) ?_
  refine sa X0 hx (dx hby dd8 0) ?_
  refine og (XS.dup X0.here hx rfl (dx hby dd8 1) rfl rfl) ?_
  refine oc_getF X0 hx hZ hown (host := "") (Or.inl (wx hw 47)) (Via.of (wx hw 48)) e0 P1 (dx hby dd8 2) (fun T41 X41 e41 => ?_)
  refine sc X41 hx (dx hby dd8 3) ?_
  refine og (XS.iadd X41.here hx rfl (dx hby dd8 4) rfl) ?_
  show own_Gl _ _ _ _ (T41.setTop (mkF m 7 #[vR r0, vR r1] [(.int (mc + (1 : Int32))), (.ref r0)]))
  refine oc_putF X41 hx hZ hown (host := "") (Or.inl (wx hw 47)) (Via.of (wx hw 48)) e41 P1 P0 (Or.inl (wx hw 28)) (wx hw 7) (ty := .int) (by decide) rfl rfl (dx hby dd8 5) (fun T42 h42 X42 e42 W42 => ?_)
  have Fw42 : Fld Z h42 r0 "java/util/AbstractList" "modCount" "I" (.int (mc + (1 : Int32))) := P1.same W42
  have K42 : Keep h0 h42 [r0, ar] := (Keep.refl h0 [r0, ar]).wr W42 (Or.inl (List.mem_of_getElem? (i := 0) rfl))
  have N42 := Fr.snoc X42 N0 ge_r0
  have Z42 : n0 ≤ h42.size := Nat.le_trans Z0 (Keep.of_wr W42).1
  refine sa X42 hx (dx hby dd8 6) ?_
  refine sa X42 hx (dx hby dd8 7) ?_
  refine sa X42 hx (dx hby dd8 8) ?_
  have f_44 := P2.other W42 (Or.inr (own_sn (Or.inl (wx hw 31)) (Or.inl (wx hw 28))))
  refine oc_getF X42 hx hZ hown (host := "") (Or.inl (wx hw 30)) Via.refl e42 f_44 (dx hby dd8 9) (fun T43 X43 e43 => ?_)
  refine sa X43 hx (dx hby dd8 10) ?_
  have f_46 := P3.other W42 (Or.inr (own_sn (Or.inl (wx hw 50)) (Or.inl (wx hw 28))))
  refine oc_getF X43 hx hZ hown (host := "") (Or.inl (wx hw 49)) Via.refl e43 f_46 (dx hby dd8 11) (fun T45 X45 e45 => ?_)
  have f_47 := P0.wr W42
  have f_48 := P4.other W42 (Ne.symm ne0)
  have f_49 := P5.wr W42
  refine oc_private X45 hx hZ hown (wx hw 51) (wx hw 53) (wx hw 7) (wx hw 52) (wx hw 8) (wx hw 55) (by decide) (W := 0) (rmhad_1 l Z a0 hw [] r0 r1 ar (1 : Int32) kA (mc + (1 : Int32)) v0 v1 v2 v3 v4 v5 v6 v7 v8 v9 h42 n0 Z42 f_47 Fw42 f_44 f_46 f_48 f_49 ne0 ge_r0 ge_ar rfl ov) (by decide) (by decide) f_47 (argsL := [(.ref r1), (.ref ar), (.int (1 : Int32))]) (rest := []) (by rw [hml]; rfl) (lenOf pd_8 rfl) rfl (Nat.le_of_eq rfl) (dx hby dd8 12) rfl e45 (by decide) (by decide) (fun v50 T50 Lc50 hQ50 X50 => ?_)
  obtain ⟨N50q, rfl, K50q, po50_0, po50_1, po50_2, po50_3⟩ := hQ50
  have N50 := Fr.app N42 N50q
  have K50 : Keep h0 T50.heap [r0, ar] := K42.trans K50q (allS (Or.inl (List.mem_of_getElem? (i := 0) rfl)) (allS (Or.inl (List.mem_of_getElem? (i := 1) rfl)) all0))
  have Z50 : n0 ≤ T50.heap.size := Nat.le_trans Z42 K50q.1
  refine sc X50 hx (dx hby dd8 13) ?_
  exact own_retB X50 hx (t := .boolean) hret hlk (by simp) (dx hby dd8 14) rfl (by decide) (by decide) ⟨N50, rfl, K50, po50_0, po50_1, po50_2, po50_3⟩
theorem ef_had_2 (m : MethodId) (r0 : Addr) (r1 : Addr) (ar : Addr) (p0 : Int32) : entryFrame m #[(.ref r0), (.ref r1), (.ref ar), (.int p0)] 4 = mkF m 0 #[vR r0, vR r1, vR ar, vI p0] [] := by first | (simp [entryFrame, mkF, argsToLocals, Value.category, vI, vR, vU]; done) | rfl
def Qhad_2 (Z : State) (r0 : Addr) (r1 : Addr) (ar : Addr) (p0 : Int32) (kA : ClassId) (mc : Int32) (v0 : Value) (v1 : Value) (v2 : Value) (v3 : Value) (v4 : Value) (v5 : Value) (v6 : Value) (v7 : Value) (v8 : Value) (v9 : Value) (h0 : Heap) (n0 : Nat) (v : Option Value) (h : Heap) (L : List Loc) : Prop := Fr n0 L ∧ v = none ∧ Keep h0 h [r0, ar] ∧ Fld Z h r0 "java/util/AbstractList" "modCount" "I" (.int mc) ∧ Fld Z h r0 "java/util/ArrayList" "elementData" "[Ljava/lang/Object;" (.ref ar) ∧ Fld Z h r0 "java/util/ArrayList" "size" "I" (.int (3 : Int32)) ∧ Arv Z h ar kA (.object "java/lang/Object") (10 : Int32) [v0, v1, (.ref r1), v3, v4, v5, v6, v7, v8, v9] .null
set_option maxRecDepth 65536 in
set_option maxHeartbeats 40000000 in
theorem rmhad_2 (l : Launch) (Z : State) (a0 : Array Value) (hw : ∀ d ∈ tables_1, d.before a0 Z = true) (ws : List Jvm.Cond) (r0 : Addr) (r1 : Addr) (ar : Addr) (p0 : Int32) (kA : ClassId) (mc : Int32) (v0 : Value) (v1 : Value) (v2 : Value) (v3 : Value) (v4 : Value) (v5 : Value) (v6 : Value) (v7 : Value) (v8 : Value) (v9 : Value) (h0 : Heap) (n0 : Nat) (Z0 : n0 ≤ h0.size) (P0 : Exa Z h0 r0 "java/util/ArrayList") (P1 : Fld Z h0 r0 "java/util/AbstractList" "modCount" "I" (.int mc)) (P2 : Fld Z h0 r0 "java/util/ArrayList" "elementData" "[Ljava/lang/Object;" (.ref ar)) (P3 : Fld Z h0 r0 "java/util/ArrayList" "size" "I" (.int (2 : Int32))) (P4 : Arv Z h0 ar kA (.object "java/lang/Object") (10 : Int32) [v0, v1, v2, v3, v4, v5, v6, v7, v8, v9] .null) (P5 : Exa Z h0 r1 "java/lang/Integer") (ne0 : r0 ≠ ar) (ge_r0 : n0 ≤ r0) (ge_ar : n0 ≤ ar) (hz : p0 = (2 : Int32)) (ov : Ovr Z kA "java/lang/Object") :
    own_Cw l Z (⟨"java/util/ArrayList", "add", "(Ljava/lang/Object;[Ljava/lang/Object;I)V"⟩ : MethodName) jdk_38_method_24_code 4 none ws (own_rr 0 0 0 0) #[(.ref r0), (.ref r1), (.ref ar), (.int p0)] h0 (Qhad_2 Z r0 r1 ar p0 kA mc v0 v1 v2 v3 v4 v5 v6 v7 v8 v9 h0 n0) := by
  refine own_body (plainFor_of_name pn_java_util_ArrayList) ?_
  intro p e s m below meth c s₁ hx hby hml hZ hown hnm hret hlk X0 e0
  have N0 := Fr.nil n0
  refine own_go (fun t k => castTop (ef_had_2 m r0 r1 ar p0) k) ?_
  show own_Gl _ _ _ _ (s₁.setTop (mkF m 0 #[vR r0, vR r1, vR ar, vI p0] []))
  have hs41 : p0 = (2 : Int32) := hz
  rw [hs41]
  refine si X0 hx (dx hby dd9 0) ?_
  refine sa X0 hx (dx hby dd9 1) ?_
  refine oc_len X0 hx hZ e0 P4 (dx hby dd9 2) ?_
  refine og (XS.icmpYes X0.here hx rfl (pc0 := 3) (pc' := 11) rfl (dx hby dd9 3) rfl (feq (by decide : ¬ ((2 : Int32) = (10 : Int32)))).2 (by decide) (by decide)) ?_
  refine sa X0 hx (dx hby dd9 7) ?_
  refine si X0 hx (dx hby dd9 8) ?_
  refine sa X0 hx (dx hby dd9 9) ?_
  show own_Gl _ _ _ _ (s₁.setTop (mkF m 14 #[vR r0, vR r1, vR ar, vI (2 : Int32)] [(.ref r1), (.int (2 : Int32)), (.ref ar)]))
  refine oc_aastore X0 hx hZ e0 P4 ⟨by decide, by decide⟩ 2 rfl (Nat.le_of_ble_eq_true rfl) (Or.inr ⟨ov, _, _, rfl, rfl, (Ins.of_exa P5 (wx hw 72))⟩) (dx hby dd9 10) (fun T42 h42 X42 e42 W42 V42 => ?_)
  have V42 : Arv Z h42 ar kA (.object "java/lang/Object") (10 : Int32) [v0, v1, (.ref r1), v3, v4, v5, v6, v7, v8, v9] .null := V42
  have K42 : Keep h0 h42 [r0, ar] := (Keep.refl h0 [r0, ar]).wr W42 (Or.inl (List.mem_of_getElem? (i := 1) rfl))
  have N42 := Fr.snoc X42 N0 ge_ar
  have Z42 : n0 ≤ h42.size := Nat.le_trans Z0 (Keep.of_wr W42).1
  refine sa X42 hx (dx hby dd9 11) ?_
  refine si X42 hx (dx hby dd9 12) ?_
  refine sc X42 hx (dx hby dd9 13) ?_
  refine og (XS.iadd X42.here hx rfl (dx hby dd9 14) rfl) ?_
  show own_Gl _ _ _ _ (T42.setTop (mkF m 19 #[vR r0, vR r1, vR ar, vI (2 : Int32)] [(.int (3 : Int32)), (.ref r0)]))
  have f_43 := P3.other W42 (Or.inl ne0)
  have f_44 := P0.wr W42
  refine oc_putF X42 hx hZ hown (host := "") (Or.inl (wx hw 49)) Via.refl e42 f_43 f_44 (Or.inl (wx hw 50)) (wx hw 7) (ty := .int) (by decide) rfl rfl (dx hby dd9 15) (fun T45 h45 X45 e45 W45 => ?_)
  have Fw45 : Fld Z h45 r0 "java/util/ArrayList" "size" "I" (.int (3 : Int32)) := f_43.same W45
  have K45 : Keep h0 h45 [r0, ar] := K42.wr W45 (Or.inl (List.mem_of_getElem? (i := 0) rfl))
  have N45 := Fr.snoc X45 N42 ge_r0
  have Z45 : n0 ≤ h45.size := Nat.le_trans Z42 (Keep.of_wr W45).1
  have f_46 := (P1.other W42 (Or.inl ne0)).other W45 (Or.inr (own_sn (Or.inl (wx hw 28)) (Or.inl (wx hw 50))))
  have f_47 := (P2.other W42 (Or.inl ne0)).other W45 (Or.inr (own_sn (Or.inl (wx hw 31)) (Or.inl (wx hw 50))))
  have f_48 := V42.other W45 (Ne.symm ne0)
  exact own_retV X45 hx hret hlk (dx hby dd9 16) e45 (by decide) (by decide) ⟨N45, rfl, K45, f_46, f_47, Fw45, f_48⟩
theorem ef_add_2 (m : MethodId) (r0 : Addr) (r1 : Addr) : entryFrame m #[(.ref r0), (.ref r1)] 2 = mkF m 0 #[vR r0, vR r1] [] := by first | (simp [entryFrame, mkF, argsToLocals, Value.category, vI, vR, vU]; done) | rfl
def Qadd_2 (Z : State) (r0 : Addr) (r1 : Addr) (ar : Addr) (kA : ClassId) (mc : Int32) (v0 : Value) (v1 : Value) (v2 : Value) (v3 : Value) (v4 : Value) (v5 : Value) (v6 : Value) (v7 : Value) (v8 : Value) (v9 : Value) (h0 : Heap) (n0 : Nat) (v : Option Value) (h : Heap) (L : List Loc) : Prop := Fr n0 L ∧ v = some (.int (1 : Int32)) ∧ Keep h0 h [r0, ar] ∧ Fld Z h r0 "java/util/AbstractList" "modCount" "I" (.int (mc + (1 : Int32))) ∧ Fld Z h r0 "java/util/ArrayList" "elementData" "[Ljava/lang/Object;" (.ref ar) ∧ Fld Z h r0 "java/util/ArrayList" "size" "I" (.int (3 : Int32)) ∧ Arv Z h ar kA (.object "java/lang/Object") (10 : Int32) [v0, v1, (.ref r1), v3, v4, v5, v6, v7, v8, v9] .null
set_option maxRecDepth 65536 in
set_option maxHeartbeats 40000000 in
theorem rmadd_2 (l : Launch) (Z : State) (a0 : Array Value) (hw : ∀ d ∈ tables_1, d.before a0 Z = true) (ws : List Jvm.Cond) (r0 : Addr) (r1 : Addr) (ar : Addr) (kA : ClassId) (mc : Int32) (v0 : Value) (v1 : Value) (v2 : Value) (v3 : Value) (v4 : Value) (v5 : Value) (v6 : Value) (v7 : Value) (v8 : Value) (v9 : Value) (h0 : Heap) (n0 : Nat) (Z0 : n0 ≤ h0.size) (P0 : Exa Z h0 r0 "java/util/ArrayList") (P1 : Fld Z h0 r0 "java/util/AbstractList" "modCount" "I" (.int mc)) (P2 : Fld Z h0 r0 "java/util/ArrayList" "elementData" "[Ljava/lang/Object;" (.ref ar)) (P3 : Fld Z h0 r0 "java/util/ArrayList" "size" "I" (.int (2 : Int32))) (P4 : Arv Z h0 ar kA (.object "java/lang/Object") (10 : Int32) [v0, v1, v2, v3, v4, v5, v6, v7, v8, v9] .null) (P5 : Exa Z h0 r1 "java/lang/Integer") (ne0 : r0 ≠ ar) (ge_r0 : n0 ≤ r0) (ge_ar : n0 ≤ ar) (ov : Ovr Z kA "java/lang/Object") :
    own_Cw l Z (⟨"java/util/ArrayList", "add", "(Ljava/lang/Object;)Z"⟩ : MethodName) jdk_38_method_25_code 2 (some .boolean) ws (own_rr 1 0 0 15) #[(.ref r0), (.ref r1)] h0 (Qadd_2 Z r0 r1 ar kA mc v0 v1 v2 v3 v4 v5 v6 v7 v8 v9 h0 n0) := by
  refine own_body (plainFor_of_name pn_java_util_ArrayList) ?_
  intro p e s m below meth c s₁ hx hby hml hZ hown hnm hret hlk X0 e0
  have N0 := Fr.nil n0
  refine own_go (fun t k => castTop (ef_add_2 m r0 r1) k) ?_
  refine sa X0 hx (dx hby dd8 0) ?_
  refine og (XS.dup X0.here hx rfl (dx hby dd8 1) rfl rfl) ?_
  refine oc_getF X0 hx hZ hown (host := "") (Or.inl (wx hw 47)) (Via.of (wx hw 48)) e0 P1 (dx hby dd8 2) (fun T41 X41 e41 => ?_)
  refine sc X41 hx (dx hby dd8 3) ?_
  refine og (XS.iadd X41.here hx rfl (dx hby dd8 4) rfl) ?_
  show own_Gl _ _ _ _ (T41.setTop (mkF m 7 #[vR r0, vR r1] [(.int (mc + (1 : Int32))), (.ref r0)]))
  refine oc_putF X41 hx hZ hown (host := "") (Or.inl (wx hw 47)) (Via.of (wx hw 48)) e41 P1 P0 (Or.inl (wx hw 28)) (wx hw 7) (ty := .int) (by decide) rfl rfl (dx hby dd8 5) (fun T42 h42 X42 e42 W42 => ?_)
  have Fw42 : Fld Z h42 r0 "java/util/AbstractList" "modCount" "I" (.int (mc + (1 : Int32))) := P1.same W42
  have K42 : Keep h0 h42 [r0, ar] := (Keep.refl h0 [r0, ar]).wr W42 (Or.inl (List.mem_of_getElem? (i := 0) rfl))
  have N42 := Fr.snoc X42 N0 ge_r0
  have Z42 : n0 ≤ h42.size := Nat.le_trans Z0 (Keep.of_wr W42).1
  refine sa X42 hx (dx hby dd8 6) ?_
  refine sa X42 hx (dx hby dd8 7) ?_
  refine sa X42 hx (dx hby dd8 8) ?_
  have f_44 := P2.other W42 (Or.inr (own_sn (Or.inl (wx hw 31)) (Or.inl (wx hw 28))))
  refine oc_getF X42 hx hZ hown (host := "") (Or.inl (wx hw 30)) Via.refl e42 f_44 (dx hby dd8 9) (fun T43 X43 e43 => ?_)
  refine sa X43 hx (dx hby dd8 10) ?_
  have f_46 := P3.other W42 (Or.inr (own_sn (Or.inl (wx hw 50)) (Or.inl (wx hw 28))))
  refine oc_getF X43 hx hZ hown (host := "") (Or.inl (wx hw 49)) Via.refl e43 f_46 (dx hby dd8 11) (fun T45 X45 e45 => ?_)
  have f_47 := P0.wr W42
  have f_48 := P4.other W42 (Ne.symm ne0)
  have f_49 := P5.wr W42
  refine oc_private X45 hx hZ hown (wx hw 51) (wx hw 53) (wx hw 7) (wx hw 52) (wx hw 8) (wx hw 55) (by decide) (W := 0) (rmhad_2 l Z a0 hw [] r0 r1 ar (2 : Int32) kA (mc + (1 : Int32)) v0 v1 v2 v3 v4 v5 v6 v7 v8 v9 h42 n0 Z42 f_47 Fw42 f_44 f_46 f_48 f_49 ne0 ge_r0 ge_ar rfl ov) (by decide) (by decide) f_47 (argsL := [(.ref r1), (.ref ar), (.int (2 : Int32))]) (rest := []) (by rw [hml]; rfl) (lenOf pd_8 rfl) rfl (Nat.le_of_eq rfl) (dx hby dd8 12) rfl e45 (by decide) (by decide) (fun v50 T50 Lc50 hQ50 X50 => ?_)
  obtain ⟨N50q, rfl, K50q, po50_0, po50_1, po50_2, po50_3⟩ := hQ50
  have N50 := Fr.app N42 N50q
  have K50 : Keep h0 T50.heap [r0, ar] := K42.trans K50q (allS (Or.inl (List.mem_of_getElem? (i := 0) rfl)) (allS (Or.inl (List.mem_of_getElem? (i := 1) rfl)) all0))
  have Z50 : n0 ≤ T50.heap.size := Nat.le_trans Z42 K50q.1
  refine sc X50 hx (dx hby dd8 13) ?_
  exact own_retB X50 hx (t := .boolean) hret hlk (by simp) (dx hby dd8 14) rfl (by decide) (by decide) ⟨N50, rfl, K50, po50_0, po50_1, po50_2, po50_3⟩
theorem ef_had_3 (m : MethodId) (r0 : Addr) (r1 : Addr) (ar : Addr) (p0 : Int32) : entryFrame m #[(.ref r0), (.ref r1), (.ref ar), (.int p0)] 4 = mkF m 0 #[vR r0, vR r1, vR ar, vI p0] [] := by first | (simp [entryFrame, mkF, argsToLocals, Value.category, vI, vR, vU]; done) | rfl
def Qhad_3 (Z : State) (r0 : Addr) (r1 : Addr) (ar : Addr) (p0 : Int32) (kA : ClassId) (mc : Int32) (v0 : Value) (v1 : Value) (v2 : Value) (v3 : Value) (v4 : Value) (v5 : Value) (v6 : Value) (v7 : Value) (v8 : Value) (v9 : Value) (h0 : Heap) (n0 : Nat) (v : Option Value) (h : Heap) (L : List Loc) : Prop := Fr n0 L ∧ v = none ∧ Keep h0 h [r0, ar] ∧ Fld Z h r0 "java/util/AbstractList" "modCount" "I" (.int mc) ∧ Fld Z h r0 "java/util/ArrayList" "elementData" "[Ljava/lang/Object;" (.ref ar) ∧ Fld Z h r0 "java/util/ArrayList" "size" "I" (.int (4 : Int32)) ∧ Arv Z h ar kA (.object "java/lang/Object") (10 : Int32) [v0, v1, v2, (.ref r1), v4, v5, v6, v7, v8, v9] .null
set_option maxRecDepth 65536 in
set_option maxHeartbeats 40000000 in
theorem rmhad_3 (l : Launch) (Z : State) (a0 : Array Value) (hw : ∀ d ∈ tables_1, d.before a0 Z = true) (ws : List Jvm.Cond) (r0 : Addr) (r1 : Addr) (ar : Addr) (p0 : Int32) (kA : ClassId) (mc : Int32) (v0 : Value) (v1 : Value) (v2 : Value) (v3 : Value) (v4 : Value) (v5 : Value) (v6 : Value) (v7 : Value) (v8 : Value) (v9 : Value) (h0 : Heap) (n0 : Nat) (Z0 : n0 ≤ h0.size) (P0 : Exa Z h0 r0 "java/util/ArrayList") (P1 : Fld Z h0 r0 "java/util/AbstractList" "modCount" "I" (.int mc)) (P2 : Fld Z h0 r0 "java/util/ArrayList" "elementData" "[Ljava/lang/Object;" (.ref ar)) (P3 : Fld Z h0 r0 "java/util/ArrayList" "size" "I" (.int (3 : Int32))) (P4 : Arv Z h0 ar kA (.object "java/lang/Object") (10 : Int32) [v0, v1, v2, v3, v4, v5, v6, v7, v8, v9] .null) (P5 : Exa Z h0 r1 "java/lang/Integer") (ne0 : r0 ≠ ar) (ge_r0 : n0 ≤ r0) (ge_ar : n0 ≤ ar) (hz : p0 = (3 : Int32)) (ov : Ovr Z kA "java/lang/Object") :
    own_Cw l Z (⟨"java/util/ArrayList", "add", "(Ljava/lang/Object;[Ljava/lang/Object;I)V"⟩ : MethodName) jdk_38_method_24_code 4 none ws (own_rr 0 0 0 0) #[(.ref r0), (.ref r1), (.ref ar), (.int p0)] h0 (Qhad_3 Z r0 r1 ar p0 kA mc v0 v1 v2 v3 v4 v5 v6 v7 v8 v9 h0 n0) := by
  refine own_body (plainFor_of_name pn_java_util_ArrayList) ?_
  intro p e s m below meth c s₁ hx hby hml hZ hown hnm hret hlk X0 e0
  have N0 := Fr.nil n0
  refine own_go (fun t k => castTop (ef_had_3 m r0 r1 ar p0) k) ?_
  show own_Gl _ _ _ _ (s₁.setTop (mkF m 0 #[vR r0, vR r1, vR ar, vI p0] []))
  have hs41 : p0 = (3 : Int32) := hz
  rw [hs41]
  refine si X0 hx (dx hby dd9 0) ?_
  refine sa X0 hx (dx hby dd9 1) ?_
  refine oc_len X0 hx hZ e0 P4 (dx hby dd9 2) ?_
  refine og (XS.icmpYes X0.here hx rfl (pc0 := 3) (pc' := 11) rfl (dx hby dd9 3) rfl (feq (by decide : ¬ ((3 : Int32) = (10 : Int32)))).2 (by decide) (by decide)) ?_
  refine sa X0 hx (dx hby dd9 7) ?_
  refine si X0 hx (dx hby dd9 8) ?_
  refine sa X0 hx (dx hby dd9 9) ?_
  show own_Gl _ _ _ _ (s₁.setTop (mkF m 14 #[vR r0, vR r1, vR ar, vI (3 : Int32)] [(.ref r1), (.int (3 : Int32)), (.ref ar)]))
  refine oc_aastore X0 hx hZ e0 P4 ⟨by decide, by decide⟩ 3 rfl (Nat.le_of_ble_eq_true rfl) (Or.inr ⟨ov, _, _, rfl, rfl, (Ins.of_exa P5 (wx hw 72))⟩) (dx hby dd9 10) (fun T42 h42 X42 e42 W42 V42 => ?_)
  have V42 : Arv Z h42 ar kA (.object "java/lang/Object") (10 : Int32) [v0, v1, v2, (.ref r1), v4, v5, v6, v7, v8, v9] .null := V42
  have K42 : Keep h0 h42 [r0, ar] := (Keep.refl h0 [r0, ar]).wr W42 (Or.inl (List.mem_of_getElem? (i := 1) rfl))
  have N42 := Fr.snoc X42 N0 ge_ar
  have Z42 : n0 ≤ h42.size := Nat.le_trans Z0 (Keep.of_wr W42).1
  refine sa X42 hx (dx hby dd9 11) ?_
  refine si X42 hx (dx hby dd9 12) ?_
  refine sc X42 hx (dx hby dd9 13) ?_
  refine og (XS.iadd X42.here hx rfl (dx hby dd9 14) rfl) ?_
  show own_Gl _ _ _ _ (T42.setTop (mkF m 19 #[vR r0, vR r1, vR ar, vI (3 : Int32)] [(.int (4 : Int32)), (.ref r0)]))
  have f_43 := P3.other W42 (Or.inl ne0)
  have f_44 := P0.wr W42
  refine oc_putF X42 hx hZ hown (host := "") (Or.inl (wx hw 49)) Via.refl e42 f_43 f_44 (Or.inl (wx hw 50)) (wx hw 7) (ty := .int) (by decide) rfl rfl (dx hby dd9 15) (fun T45 h45 X45 e45 W45 => ?_)
  have Fw45 : Fld Z h45 r0 "java/util/ArrayList" "size" "I" (.int (4 : Int32)) := f_43.same W45
  have K45 : Keep h0 h45 [r0, ar] := K42.wr W45 (Or.inl (List.mem_of_getElem? (i := 0) rfl))
  have N45 := Fr.snoc X45 N42 ge_r0
  have Z45 : n0 ≤ h45.size := Nat.le_trans Z42 (Keep.of_wr W45).1
  have f_46 := (P1.other W42 (Or.inl ne0)).other W45 (Or.inr (own_sn (Or.inl (wx hw 28)) (Or.inl (wx hw 50))))
  have f_47 := (P2.other W42 (Or.inl ne0)).other W45 (Or.inr (own_sn (Or.inl (wx hw 31)) (Or.inl (wx hw 50))))
  have f_48 := V42.other W45 (Ne.symm ne0)
  exact own_retV X45 hx hret hlk (dx hby dd9 16) e45 (by decide) (by decide) ⟨N45, rfl, K45, f_46, f_47, Fw45, f_48⟩
theorem ef_add_3 (m : MethodId) (r0 : Addr) (r1 : Addr) : entryFrame m #[(.ref r0), (.ref r1)] 2 = mkF m 0 #[vR r0, vR r1] [] := by first | (simp [entryFrame, mkF, argsToLocals, Value.category, vI, vR, vU]; done) | rfl
def Qadd_3 (Z : State) (r0 : Addr) (r1 : Addr) (ar : Addr) (kA : ClassId) (mc : Int32) (v0 : Value) (v1 : Value) (v2 : Value) (v3 : Value) (v4 : Value) (v5 : Value) (v6 : Value) (v7 : Value) (v8 : Value) (v9 : Value) (h0 : Heap) (n0 : Nat) (v : Option Value) (h : Heap) (L : List Loc) : Prop := Fr n0 L ∧ v = some (.int (1 : Int32)) ∧ Keep h0 h [r0, ar] ∧ Fld Z h r0 "java/util/AbstractList" "modCount" "I" (.int (mc + (1 : Int32))) ∧ Fld Z h r0 "java/util/ArrayList" "elementData" "[Ljava/lang/Object;" (.ref ar) ∧ Fld Z h r0 "java/util/ArrayList" "size" "I" (.int (4 : Int32)) ∧ Arv Z h ar kA (.object "java/lang/Object") (10 : Int32) [v0, v1, v2, (.ref r1), v4, v5, v6, v7, v8, v9] .null
set_option maxRecDepth 65536 in
set_option maxHeartbeats 40000000 in
theorem rmadd_3 (l : Launch) (Z : State) (a0 : Array Value) (hw : ∀ d ∈ tables_1, d.before a0 Z = true) (ws : List Jvm.Cond) (r0 : Addr) (r1 : Addr) (ar : Addr) (kA : ClassId) (mc : Int32) (v0 : Value) (v1 : Value) (v2 : Value) (v3 : Value) (v4 : Value) (v5 : Value) (v6 : Value) (v7 : Value) (v8 : Value) (v9 : Value) (h0 : Heap) (n0 : Nat) (Z0 : n0 ≤ h0.size) (P0 : Exa Z h0 r0 "java/util/ArrayList") (P1 : Fld Z h0 r0 "java/util/AbstractList" "modCount" "I" (.int mc)) (P2 : Fld Z h0 r0 "java/util/ArrayList" "elementData" "[Ljava/lang/Object;" (.ref ar)) (P3 : Fld Z h0 r0 "java/util/ArrayList" "size" "I" (.int (3 : Int32))) (P4 : Arv Z h0 ar kA (.object "java/lang/Object") (10 : Int32) [v0, v1, v2, v3, v4, v5, v6, v7, v8, v9] .null) (P5 : Exa Z h0 r1 "java/lang/Integer") (ne0 : r0 ≠ ar) (ge_r0 : n0 ≤ r0) (ge_ar : n0 ≤ ar) (ov : Ovr Z kA "java/lang/Object") :
    own_Cw l Z (⟨"java/util/ArrayList", "add", "(Ljava/lang/Object;)Z"⟩ : MethodName) jdk_38_method_25_code 2 (some .boolean) ws (own_rr 1 0 0 15) #[(.ref r0), (.ref r1)] h0 (Qadd_3 Z r0 r1 ar kA mc v0 v1 v2 v3 v4 v5 v6 v7 v8 v9 h0 n0) := by
  refine own_body (plainFor_of_name pn_java_util_ArrayList) ?_
  intro p e s m below meth c s₁ hx hby hml hZ hown hnm hret hlk X0 e0
  have N0 := Fr.nil n0
  refine own_go (fun t k => castTop (ef_add_3 m r0 r1) k) ?_
  refine sa X0 hx (dx hby dd8 0) ?_
  refine og (XS.dup X0.here hx rfl (dx hby dd8 1) rfl rfl) ?_
  refine oc_getF X0 hx hZ hown (host := "") (Or.inl (wx hw 47)) (Via.of (wx hw 48)) e0 P1 (dx hby dd8 2) (fun T41 X41 e41 => ?_)
  refine sc X41 hx (dx hby dd8 3) ?_
  refine og (XS.iadd X41.here hx rfl (dx hby dd8 4) rfl) ?_
  show own_Gl _ _ _ _ (T41.setTop (mkF m 7 #[vR r0, vR r1] [(.int (mc + (1 : Int32))), (.ref r0)]))
  refine oc_putF X41 hx hZ hown (host := "") (Or.inl (wx hw 47)) (Via.of (wx hw 48)) e41 P1 P0 (Or.inl (wx hw 28)) (wx hw 7) (ty := .int) (by decide) rfl rfl (dx hby dd8 5) (fun T42 h42 X42 e42 W42 => ?_)
  have Fw42 : Fld Z h42 r0 "java/util/AbstractList" "modCount" "I" (.int (mc + (1 : Int32))) := P1.same W42
  have K42 : Keep h0 h42 [r0, ar] := (Keep.refl h0 [r0, ar]).wr W42 (Or.inl (List.mem_of_getElem? (i := 0) rfl))
  have N42 := Fr.snoc X42 N0 ge_r0
  have Z42 : n0 ≤ h42.size := Nat.le_trans Z0 (Keep.of_wr W42).1
  refine sa X42 hx (dx hby dd8 6) ?_
  refine sa X42 hx (dx hby dd8 7) ?_
  refine sa X42 hx (dx hby dd8 8) ?_
  have f_44 := P2.other W42 (Or.inr (own_sn (Or.inl (wx hw 31)) (Or.inl (wx hw 28))))
  refine oc_getF X42 hx hZ hown (host := "") (Or.inl (wx hw 30)) Via.refl e42 f_44 (dx hby dd8 9) (fun T43 X43 e43 => ?_)
  refine sa X43 hx (dx hby dd8 10) ?_
  have f_46 := P3.other W42 (Or.inr (own_sn (Or.inl (wx hw 50)) (Or.inl (wx hw 28))))
  refine oc_getF X43 hx hZ hown (host := "") (Or.inl (wx hw 49)) Via.refl e43 f_46 (dx hby dd8 11) (fun T45 X45 e45 => ?_)
  have f_47 := P0.wr W42
  have f_48 := P4.other W42 (Ne.symm ne0)
  have f_49 := P5.wr W42
  refine oc_private X45 hx hZ hown (wx hw 51) (wx hw 53) (wx hw 7) (wx hw 52) (wx hw 8) (wx hw 55) (by decide) (W := 0) (rmhad_3 l Z a0 hw [] r0 r1 ar (3 : Int32) kA (mc + (1 : Int32)) v0 v1 v2 v3 v4 v5 v6 v7 v8 v9 h42 n0 Z42 f_47 Fw42 f_44 f_46 f_48 f_49 ne0 ge_r0 ge_ar rfl ov) (by decide) (by decide) f_47 (argsL := [(.ref r1), (.ref ar), (.int (3 : Int32))]) (rest := []) (by rw [hml]; rfl) (lenOf pd_8 rfl) rfl (Nat.le_of_eq rfl) (dx hby dd8 12) rfl e45 (by decide) (by decide) (fun v50 T50 Lc50 hQ50 X50 => ?_)
  obtain ⟨N50q, rfl, K50q, po50_0, po50_1, po50_2, po50_3⟩ := hQ50
  have N50 := Fr.app N42 N50q
  have K50 : Keep h0 T50.heap [r0, ar] := K42.trans K50q (allS (Or.inl (List.mem_of_getElem? (i := 0) rfl)) (allS (Or.inl (List.mem_of_getElem? (i := 1) rfl)) all0))
  have Z50 : n0 ≤ T50.heap.size := Nat.le_trans Z42 K50q.1
  refine sc X50 hx (dx hby dd8 13) ?_
  exact own_retB X50 hx (t := .boolean) hret hlk (by simp) (dx hby dd8 14) rfl (by decide) (by decide) ⟨N50, rfl, K50, po50_0, po50_1, po50_2, po50_3⟩
theorem dd7 : own_dec jdk_33_method_22_code [(0, .iload_n 0, 1), (1, .bipush (-128), 2), (3, .if_icmp .lt 20, 3), (6, .iload_n 0, 1), (7, .getstatic 191, 3), (10, .if_icmp .gt 13, 3), (13, .getstatic 195, 3), (16, .iload_n 0, 1), (17, .sipush 128, 3), (20, .iadd, 1), (21, .aaload, 1), (22, .areturn, 1), (23, .new 1, 3), (26, .dup, 1), (27, .iload_n 0, 1), (28, .invokespecial 199, 3), (31, .areturn, 1)] := by unfold own_dec; decide +kernel
theorem ef_iv (m : MethodId) (p0 : Int32) : entryFrame m #[(.int p0)] 1 = mkF m 0 #[vI p0] [] := by first | (simp [entryFrame, mkF, argsToLocals, Value.category, vI, vR, vU]; done) | rfl
def Qiv (Z : State) (p0 : Int32) (ca : Addr) (kC : ClassId) (cs : List Value) (w : Addr) (h0 : Heap) (n0 : Nat) (v : Option Value) (h : Heap) (L : List Loc) : Prop := Fr n0 L ∧ v = some (.ref w) ∧ h = h0
set_option maxRecDepth 65536 in
set_option maxHeartbeats 40000000 in
theorem rmiv (l : Launch) (Z : State) (a0 : Array Value) (hw : ∀ d ∈ tables_1, d.before a0 Z = true) (ws : List Jvm.Cond) (p0 : Int32) (ca : Addr) (kC : ClassId) (cs : List Value) (w : Addr) (h0 : Heap) (n0 : Nat) (Z0 : n0 ≤ h0.size) (P0 : Sta Z h0 "java/lang/Integer$IntegerCache" "high" "I" (.int (127 : Int32))) (P1 : Sta Z h0 "java/lang/Integer$IntegerCache" "cache" "[Ljava/lang/Integer;" (.ref ca)) (P2 : Arv Z h0 ca kC (.object "java/lang/Integer") (256 : Int32) cs .null) (c1 : ¬ (p0 < (-128 : Int32))) (c2 : ¬ ((127 : Int32) < p0)) (c3 : ¬ (p0 + (128 : Int32)) < 0 ∧ (p0 + (128 : Int32)) < (256 : Int32)) (c4 : cs.getD (p0 + (128 : Int32)).toNatClampNeg .null = .ref w) :
    own_Cw l Z (⟨"java/lang/Integer", "valueOf", "(I)Ljava/lang/Integer;"⟩ : MethodName) jdk_33_method_22_code 1 (some (.object "java/lang/Integer")) ws (own_rr 0 0 0 0) #[(.int p0)] h0 (Qiv Z p0 ca kC cs w h0 n0) := by
  refine own_body (plainFor_of_name pn_java_lang_Integer) ?_
  intro p e s m below meth c s₁ hx hby hml hZ hown hnm hret hlk X0 e0
  have N0 := Fr.nil n0
  refine own_go (fun t k => castTop (ef_iv m p0) k) ?_
  refine si X0 hx (dx hby dd7 0) ?_
  refine og (XS.bipush X0.here hx rfl (dx hby dd7 1)) ?_
  refine og (XS.icmpNo X0.here hx rfl (dx hby dd7 2) rfl (flt c1).1) ?_
  refine si X0 hx (dx hby dd7 3) ?_
  show own_Gl _ _ _ _ (s₁.setTop (mkF m 7 #[vI p0] [(.int p0)]))
  obtain ⟨T41, X41, e41, st41⟩ := getS2 X0 hx hZ hown (host := "") (Or.inl (wx hw 39)) Via.refl e0 P0 (g := (mkF m 7 #[vI p0] [(.int p0)])) rfl (dx hby dd7 4)
  refine og (st41 _) ?_
  refine og (XS.icmpNo X41.here hx rfl (dx hby dd7 5) rfl (flt c2).2.2.1) ?_
  show own_Gl _ _ _ _ (T41.setTop (mkF m 13 #[vI p0] []))
  obtain ⟨T42, X42, e42, st42⟩ := getS2 X41 hx hZ hown (host := "") (Or.inl (wx hw 41)) Via.refl e41 P1 (g := (mkF m 13 #[vI p0] [])) rfl (dx hby dd7 6)
  refine og (st42 _) ?_
  refine si X42 hx (dx hby dd7 7) ?_
  refine og (XS.sipush X42.here hx rfl (dx hby dd7 8)) ?_
  refine og (XS.iadd X42.here hx rfl (dx hby dd7 9) rfl) ?_
  show own_Gl _ _ _ _ (T42.setTop (mkF m 21 #[vI p0] [(.int (p0 + (128 : Int32))), (.ref ca)]))
  refine oc_aaload (v := (.ref w)) X42 hx hZ e42 P2 c3 c4 (dx hby dd7 10) ?_
  exact own_retW X42 hx hret hlk rfl (Or.inr (Or.inr (Or.inr (Or.inr ⟨rfl, rfl, rfl⟩)))) (dx hby dd7 11) e42 (by decide) (by decide) ⟨N0, rfl, rfl⟩
theorem dd34 : own_dec jdk_33_method_27_code [(0, .aload_n 0, 1), (1, .getfield 205, 3), (4, .ireturn, 1)] := by unfold own_dec; decide +kernel
theorem ef_ival (m : MethodId) (r0 : Addr) : entryFrame m #[(.ref r0)] 1 = mkF m 0 #[vR r0] [] := by first | (simp [entryFrame, mkF, argsToLocals, Value.category, vI, vR, vU]; done) | rfl
def Qival (Z : State) (r0 : Addr) (x : Int32) (h0 : Heap) (n0 : Nat) (v : Option Value) (h : Heap) (L : List Loc) : Prop := Fr n0 L ∧ v = some (.int x) ∧ h = h0
set_option maxRecDepth 65536 in
set_option maxHeartbeats 40000000 in
theorem rmival (l : Launch) (Z : State) (a0 : Array Value) (hw : ∀ d ∈ tables_1, d.before a0 Z = true) (ws : List Jvm.Cond) (r0 : Addr) (x : Int32) (h0 : Heap) (n0 : Nat) (Z0 : n0 ≤ h0.size) (P0 : Fld Z h0 r0 "java/lang/Integer" "value" "I" (.int x)) :
    own_Cw l Z (⟨"java/lang/Integer", "intValue", "()I"⟩ : MethodName) jdk_33_method_27_code 1 (some .int) ws (own_rr 0 0 0 0) #[(.ref r0)] h0 (Qival Z r0 x h0 n0) := by
  refine own_body (plainFor_of_name pn_java_lang_Integer) ?_
  intro p e s m below meth c s₁ hx hby hml hZ hown hnm hret hlk X0 e0
  have N0 := Fr.nil n0
  refine own_go (fun t k => castTop (ef_ival m r0) k) ?_
  refine sa X0 hx (dx hby dd34 0) ?_
  refine oc_getF X0 hx hZ hown (host := "") (Or.inl (wx hw 276)) Via.refl e0 P0 (dx hby dd34 1) (fun T41 X41 e41 => ?_)
  exact own_retW X41 hx hret hlk rfl (Or.inl ⟨rfl, Or.inl rfl, _, rfl⟩) (dx hby dd34 2) e41 (by decide) (by decide) ⟨N0, rfl, rfl⟩
theorem dd30 : own_dec jdk_49_method_1_code [(0, .aload_n 0, 1), (1, .aload_n 1, 1), (2, .putfield 1, 3), (5, .aload_n 0, 1), (6, .invokespecial 7, 3), (9, .aload_n 0, 1), (10, .iconst (-1), 1), (11, .putfield 13, 3), (14, .aload_n 0, 1), (15, .aload_n 0, 1), (16, .getfield 1, 3), (19, .getfield 17, 3), (22, .putfield 22, 3), (25, .return_, 1)] := by unfold own_dec; decide +kernel
theorem pn_java_util_ArrayList_Itr : plainName "java/util/ArrayList$Itr" = true := by first | (simp [plainName, overriddenIn]; done) | decide +kernel
theorem ef_iti (m : MethodId) (r0 : Addr) (r1 : Addr) : entryFrame m #[(.ref r0), (.ref r1)] 2 = mkF m 0 #[vR r0, vR r1] [] := by first | (simp [entryFrame, mkF, argsToLocals, Value.category, vI, vR, vU]; done) | rfl
def Qiti (Z : State) (r0 : Addr) (r1 : Addr) (mc : Int32) (h0 : Heap) (n0 : Nat) (v : Option Value) (h : Heap) (L : List Loc) : Prop := Fr n0 L ∧ v = none ∧ Keep h0 h [r0] ∧ Fld Z h r0 "java/util/ArrayList$Itr" "this$0" "Ljava/util/ArrayList;" (.ref r1) ∧ Fld Z h r0 "java/util/ArrayList$Itr" "cursor" "I" (.int (0 : Int32)) ∧ Fld Z h r0 "java/util/ArrayList$Itr" "lastRet" "I" (.int (-1 : Int32)) ∧ Fld Z h r0 "java/util/ArrayList$Itr" "expectedModCount" "I" (.int mc)
set_option maxRecDepth 65536 in
set_option maxHeartbeats 40000000 in
theorem rmiti (l : Launch) (Z : State) (a0 : Array Value) (hw : ∀ d ∈ tables_1, d.before a0 Z = true) (ws : List Jvm.Cond) (r0 : Addr) (r1 : Addr) (mc : Int32) (h0 : Heap) (n0 : Nat) (Z0 : n0 ≤ h0.size) (P0 : Exa Z h0 r0 "java/util/ArrayList$Itr") (P1 : Fld Z h0 r0 "java/util/ArrayList$Itr" "this$0" "Ljava/util/ArrayList;" .null) (P2 : Fld Z h0 r0 "java/util/ArrayList$Itr" "cursor" "I" (.int (0 : Int32))) (P3 : Fld Z h0 r0 "java/util/ArrayList$Itr" "lastRet" "I" (.int (0 : Int32))) (P4 : Fld Z h0 r0 "java/util/ArrayList$Itr" "expectedModCount" "I" (.int (0 : Int32))) (P5 : Fld Z h0 r1 "java/util/AbstractList" "modCount" "I" (.int mc)) (ne0 : r1 ≠ r0) (ge_r0 : n0 ≤ r0) :
    own_Cw l Z (⟨"java/util/ArrayList$Itr", "<init>", "(Ljava/util/ArrayList;)V"⟩ : MethodName) jdk_49_method_1_code 2 none ws (own_rr 1 0 0 12) #[(.ref r0), (.ref r1)] h0 (Qiti Z r0 r1 mc h0 n0) := by
  refine own_body (plainFor_of_name pn_java_util_ArrayList_Itr) ?_
  intro p e s m below meth c s₁ hx hby hml hZ hown hnm hret hlk X0 e0
  have N0 := Fr.nil n0
  refine own_go (fun t k => castTop (ef_iti m r0 r1) k) ?_
  refine sa X0 hx (dx hby dd30 0) ?_
  refine sa X0 hx (dx hby dd30 1) ?_
  show own_Gl _ _ _ _ (s₁.setTop (mkF m 2 #[vR r0, vR r1] [(.ref r1), (.ref r0)]))
  refine oc_putF X0 hx hZ hown (host := "") (Or.inl (wx hw 235)) Via.refl e0 P1 P0 (Or.inr ⟨(wx hw 236), rfl, hnm⟩) (wx hw 229) (ty := (.object "java/util/ArrayList")) (by decide) rfl rfl (dx hby dd30 2) (fun T41 h41 X41 e41 W41 => ?_)
  have Fw41 : Fld Z h41 r0 "java/util/ArrayList$Itr" "this$0" "Ljava/util/ArrayList;" (.ref r1) := P1.same W41
  have K41 : Keep h0 h41 [r0] := (Keep.refl h0 [r0]).wr W41 (Or.inl (List.mem_of_getElem? (i := 0) rfl))
  have N41 := Fr.snoc X41 N0 ge_r0
  have Z41 : n0 ≤ h41.size := Nat.le_trans Z0 (Keep.of_wr W41).1
  refine sa X41 hx (dx hby dd30 3) ?_
  obtain ⟨T42, X42, e42, st42⟩ := initO X41 hx hZ hown (wx hw 237) (wx hw 25) (wx hw 26) e41 (g := (mkF m 6 #[vR r0, vR r1] [(.ref r0)])) rfl (by rw [hml]; rfl) rfl (dx hby dd30 4) (by decide) (W := 0) (by show 2 * 0 + _ ≤ _; exact Nat.le_of_eq rfl) (by decide)
  refine og (st42 _) ?_
  refine sa X42 hx (dx hby dd30 5) ?_
  refine sc X42 hx (dx hby dd30 6) ?_
  show own_Gl _ _ _ _ (T42.setTop (mkF m 11 #[vR r0, vR r1] [(.int (-1 : Int32)), (.ref r0)]))
  have f_43 := P3.other W41 (Or.inr (own_sn (Or.inl (wx hw 239)) (Or.inr (wx hw 236))))
  have f_44 := P0.wr W41
  refine oc_putF X42 hx hZ hown (host := "") (Or.inl (wx hw 238)) Via.refl e42 f_43 f_44 (Or.inl (wx hw 239)) (wx hw 229) (ty := .int) (by decide) rfl rfl (dx hby dd30 7) (fun T45 h45 X45 e45 W45 => ?_)
  have Fw45 : Fld Z h45 r0 "java/util/ArrayList$Itr" "lastRet" "I" (.int (-1 : Int32)) := f_43.same W45
  have K45 : Keep h0 h45 [r0] := K41.wr W45 (Or.inl (List.mem_of_getElem? (i := 0) rfl))
  have N45 := Fr.snoc X45 N41 ge_r0
  have Z45 : n0 ≤ h45.size := Nat.le_trans Z41 (Keep.of_wr W45).1
  refine sa X45 hx (dx hby dd30 8) ?_
  refine sa X45 hx (dx hby dd30 9) ?_
  have f_47 := Fw41.other W45 (Or.inr (own_sn (Or.inr (wx hw 236)) (Or.inl (wx hw 239))))
  refine oc_getF X45 hx hZ hown (host := "") (Or.inl (wx hw 235)) Via.refl e45 f_47 (dx hby dd30 10) (fun T46 X46 e46 => ?_)
  have f_49 := (P5.other W41 (Or.inl ne0)).other W45 (Or.inl ne0)
  refine oc_getF X46 hx hZ hown (host := "") (Or.inl (wx hw 240)) (Via.of (wx hw 48)) e46 f_49 (dx hby dd30 11) (fun T48 X48 e48 => ?_)
  show own_Gl _ _ _ _ (T48.setTop (mkF m 22 #[vR r0, vR r1] [(.int mc), (.ref r0)]))
  have f_50 := (P4.other W41 (Or.inr (own_sn (Or.inl (wx hw 242)) (Or.inr (wx hw 236))))).other W45 (Or.inr (own_sn (Or.inl (wx hw 242)) (Or.inl (wx hw 239))))
  have f_51 := f_44.wr W45
  refine oc_putF X48 hx hZ hown (host := "") (Or.inl (wx hw 241)) Via.refl e48 f_50 f_51 (Or.inl (wx hw 242)) (wx hw 229) (ty := .int) (by decide) rfl rfl (dx hby dd30 12) (fun T52 h52 X52 e52 W52 => ?_)
  have Fw52 : Fld Z h52 r0 "java/util/ArrayList$Itr" "expectedModCount" "I" (.int mc) := f_50.same W52
  have K52 : Keep h0 h52 [r0] := K45.wr W52 (Or.inl (List.mem_of_getElem? (i := 0) rfl))
  have N52 := Fr.snoc X52 N45 ge_r0
  have Z52 : n0 ≤ h52.size := Nat.le_trans Z45 (Keep.of_wr W52).1
  have f_53 := f_47.other W52 (Or.inr (own_sn (Or.inr (wx hw 236)) (Or.inl (wx hw 242))))
  have f_54 := ((P2.other W41 (Or.inr (own_sn (Or.inl (wx hw 253)) (Or.inr (wx hw 236))))).other W45 (Or.inr (own_sn (Or.inl (wx hw 253)) (Or.inl (wx hw 239))))).other W52 (Or.inr (own_sn (Or.inl (wx hw 253)) (Or.inl (wx hw 242))))
  have f_55 := Fw45.other W52 (Or.inr (own_sn (Or.inl (wx hw 239)) (Or.inl (wx hw 242))))
  exact own_retV X52 hx hret hlk (dx hby dd30 13) e52 (by decide) (by decide) ⟨N52, rfl, K52, f_53, f_54, f_55, Fw52⟩
theorem dd29 : own_dec jdk_38_method_55_code [(0, .new 267, 3), (3, .dup, 1), (4, .aload_n 0, 1), (5, .invokespecial 269, 3), (8, .areturn, 1)] := by unfold own_dec; decide +kernel
theorem ef_iter (m : MethodId) (r0 : Addr) : entryFrame m #[(.ref r0)] 1 = mkF m 0 #[vR r0] [] := by first | (simp [entryFrame, mkF, argsToLocals, Value.category, vI, vR, vU]; done) | rfl
theorem pd_9 : parseMethodDescriptor "(Ljava/util/ArrayList;)V" = some ⟨[(.object "java/util/ArrayList")], none⟩ := by decide +kernel
def Qiter (Z : State) (r0 : Addr) (mc : Int32) (h0 : Heap) (n0 : Nat) (v : Option Value) (h : Heap) (L : List Loc) : Prop := Fr n0 L ∧ ∃ (it : Addr), n0 ≤ it ∧ h0.size ≤ it ∧ v = some (.ref it) ∧ Keep h0 h [] ∧ Exa Z h it "java/util/ArrayList$Itr" ∧ Fld Z h it "java/util/ArrayList$Itr" "this$0" "Ljava/util/ArrayList;" (.ref r0) ∧ Fld Z h it "java/util/ArrayList$Itr" "cursor" "I" (.int (0 : Int32)) ∧ Fld Z h it "java/util/ArrayList$Itr" "lastRet" "I" (.int (-1 : Int32)) ∧ Fld Z h it "java/util/ArrayList$Itr" "expectedModCount" "I" (.int mc)
set_option maxRecDepth 65536 in
set_option maxHeartbeats 40000000 in
theorem rmiter (l : Launch) (Z : State) (a0 : Array Value) (hw : ∀ d ∈ tables_1, d.before a0 Z = true) (ws : List Jvm.Cond) (r0 : Addr) (mc : Int32) (h0 : Heap) (n0 : Nat) (Z0 : n0 ≤ h0.size) (P0 : Fld Z h0 r0 "java/util/AbstractList" "modCount" "I" (.int mc)) :
    own_Cw l Z (⟨"java/util/ArrayList", "iterator", "()Ljava/util/Iterator;"⟩ : MethodName) jdk_38_method_55_code 1 (some (.object "java/util/Iterator")) ws (own_rr 2 1 4 26) #[(.ref r0)] h0 (Qiter Z r0 mc h0 n0) := by
  refine own_body (plainFor_of_name pn_java_util_ArrayList) ?_
  intro p e s m below meth c s₁ hx hby hml hZ hown hnm hret hlk X0 e0
  have N0 := Fr.nil n0
  refine own_go (fun t k => castTop (ef_iter m r0) k) ?_
  show own_Gl _ _ _ _ (s₁.setTop (mkF m 0 #[vR r0] []))
  obtain ⟨T41, h41, X41, e41, E41, A41, D41, -, st41⟩ := newO X0 hx hZ hown (wx hw 228) (wx hw 229) (wx hw 230) e0 (g := (mkF m 0 #[vR r0] [])) rfl (dx hby dd29 0) (by decide) (by decide)
  obtain ⟨b41, g41⟩ : ∃ z, z = h0.size := ⟨_, rfl⟩
  rw [← g41] at A41 D41 st41
  have ne_r0_b41 : r0 ≠ b41 := Nat.ne_of_lt (Nat.lt_of_lt_of_le P0.lt (Nat.le_of_eq g41.symm))
  have ge_b41 : n0 ≤ b41 := Nat.le_trans Z0 (Nat.le_of_eq g41.symm)
  have sz_b41 : h0.size ≤ b41 := Nat.le_trans (Keep.refl h0 []).1 (Nat.le_of_eq g41.symm)
  refine og (st41 _) ?_
  have K41 : Keep h0 h41 [] := (Keep.refl h0 []).ext E41
  have Z41 : n0 ≤ h41.size := Nat.le_trans Z0 E41.1
  have F41_236 : Fld Z h41 b41 "java/util/ArrayList$Itr" "this$0" "Ljava/util/ArrayList;" .null := D41 (Or.inr (wx hw 236)) (ty := (.object "java/util/ArrayList")) (by decide)
  have F41_239 : Fld Z h41 b41 "java/util/ArrayList$Itr" "lastRet" "I" (.int (0 : Int32)) := D41 (Or.inl (wx hw 239)) (ty := .int) (by decide)
  have F41_242 : Fld Z h41 b41 "java/util/ArrayList$Itr" "expectedModCount" "I" (.int (0 : Int32)) := D41 (Or.inl (wx hw 242)) (ty := .int) (by decide)
  have F41_253 : Fld Z h41 b41 "java/util/ArrayList$Itr" "cursor" "I" (.int (0 : Int32)) := D41 (Or.inl (wx hw 253)) (ty := .int) (by decide)
  refine og (XS.dup X41.here hx rfl (dx hby dd29 1) rfl rfl) ?_
  refine sa X41 hx (dx hby dd29 2) ?_
  have f_42 : Fld Z h41 r0 "java/util/AbstractList" "modCount" "I" (.int mc) := (P0.ext (own_ext K41))
  refine oc_special X41 hx hZ hown rfl (wx hw 231) (wx hw 232) (wx hw 230) (wx hw 234) (by decide) (W := 1) (rmiti l Z a0 hw [] b41 r0 mc h41 n0 Z41 A41 F41_236 F41_253 F41_239 F41_242 f_42 ne_r0_b41 ge_b41) (by decide) (by decide) (a := b41) (argsL := [(.ref r0)]) (rest := [(.ref b41)]) (by rw [hml]; rfl) (lenOf pd_9 rfl) rfl (Nat.le_of_eq rfl) (dx hby dd29 3) rfl e41 (by decide) (by decide) (fun v43 T43 Lc43 hQ43 X43 => ?_)
  obtain ⟨N43q, rfl, K43q, po43_0, po43_1, po43_2, po43_3⟩ := hQ43
  have N43 := Fr.app N0 N43q
  have K43 : Keep h0 T43.heap [] := K41.trans K43q (allS (Or.inr sz_b41) all0)
  have Z43 : n0 ≤ T43.heap.size := Nat.le_trans Z41 K43q.1
  have f_44 := A41.keep K43q
  exact own_retW X43 hx hret hlk rfl (Or.inr (Or.inr (Or.inr (Or.inr ⟨rfl, rfl, rfl⟩)))) (dx hby dd29 4) rfl (by decide) (by decide) ⟨N43, b41, ge_b41, sz_b41, rfl, K43, f_44, po43_0, po43_1, po43_2, po43_3⟩
theorem dd31 : own_dec jdk_49_method_2_code [(0, .aload_n 0, 1), (1, .getfield 25, 3), (4, .aload_n 0, 1), (5, .getfield 1, 3), (8, .getfield 28, 3), (11, .if_icmp .eq 7, 3), (14, .iconst 1, 1), (15, .goto 4, 3), (18, .iconst 0, 1), (19, .ireturn, 1)] := by unfold own_dec; decide +kernel
theorem ef_hasn (m : MethodId) (r0 : Addr) : entryFrame m #[(.ref r0)] 1 = mkF m 0 #[vR r0] [] := by first | (simp [entryFrame, mkF, argsToLocals, Value.category, vI, vR, vU]; done) | rfl
def fhasn (ci : Int32) (sz : Int32) : Int32 := (if ci = sz then (0 : Int32) else (1 : Int32))
def Qhasn (Z : State) (r0 : Addr) (al : Addr) (ci : Int32) (sz : Int32) (h0 : Heap) (n0 : Nat) (v : Option Value) (h : Heap) (L : List Loc) : Prop := Fr n0 L ∧ v = some (.int (fhasn ci sz)) ∧ h = h0
set_option maxRecDepth 65536 in
set_option maxHeartbeats 40000000 in
theorem rmhasn (l : Launch) (Z : State) (a0 : Array Value) (hw : ∀ d ∈ tables_1, d.before a0 Z = true) (ws : List Jvm.Cond) (r0 : Addr) (al : Addr) (ci : Int32) (sz : Int32) (h0 : Heap) (n0 : Nat) (Z0 : n0 ≤ h0.size) (P0 : Fld Z h0 r0 "java/util/ArrayList$Itr" "cursor" "I" (.int ci)) (P1 : Fld Z h0 r0 "java/util/ArrayList$Itr" "this$0" "Ljava/util/ArrayList;" (.ref al)) (P2 : Fld Z h0 al "java/util/ArrayList" "size" "I" (.int sz)) :
    own_Cw l Z (⟨"java/util/ArrayList$Itr", "hasNext", "()Z"⟩ : MethodName) jdk_49_method_2_code 1 (some .boolean) ws (own_rr 0 0 0 0) #[(.ref r0)] h0 (Qhasn Z r0 al ci sz h0 n0) := by
  refine own_body (plainFor_of_name pn_java_util_ArrayList_Itr) ?_
  intro p e s m below meth c s₁ hx hby hml hZ hown hnm hret hlk X0 e0
  have N0 := Fr.nil n0
  refine own_go (fun t k => castTop (ef_hasn m r0) k) ?_
  refine sa X0 hx (dx hby dd31 0) ?_
  show own_Gl _ _ _ _ (s₁.setTop (mkF m 1 #[vR r0] [(.ref r0)]))
  refine oc_getF X0 hx hZ hown (host := "") (Or.inl (wx hw 252)) Via.refl e0 P0 (dx hby dd31 1) (fun T41 X41 e41 => ?_)
  refine sa X41 hx (dx hby dd31 2) ?_
  refine oc_getF X41 hx hZ hown (host := "") (Or.inl (wx hw 235)) Via.refl e41 P1 (dx hby dd31 3) (fun T42 X42 e42 => ?_)
  refine oc_getF X42 hx hZ hown (Or.inr (wx hw 254)) Via.refl e42 P2 (dx hby dd31 4) (fun T43 X43 e43 => ?_)
  by_cases hc11_44 : ci = sz
  · refine og (XS.icmpYes X43.here hx rfl (pc0 := 11) (pc' := 18) rfl (dx hby dd31 5) rfl (teq hc11_44).1 (by decide) (by decide)) ?_
    refine sc X43 hx (dx hby dd31 8) ?_
    show own_Gl _ _ _ _ (T43.setTop (mkF m 19 #[vR r0] [(.int (0 : Int32))]))
    exact own_retB X43 hx (t := .boolean) hret hlk (by simp) (dx hby dd31 9) e43 (by decide) (by decide) ⟨N0, by rw [fhasn, if_pos hc11_44] <;> rfl, rfl⟩
  · refine og (XS.icmpNo X43.here hx rfl (dx hby dd31 5) rfl (feq hc11_44).1) ?_
    refine sc X43 hx (dx hby dd31 6) ?_
    refine og (XS.goto X43.here hx rfl (pc0 := 15) (pc' := 19) rfl (dx hby dd31 7) (by decide) (by decide)) ?_
    show own_Gl _ _ _ _ (T43.setTop (mkF m 19 #[vR r0] [(.int (1 : Int32))]))
    exact own_retB X43 hx (t := .boolean) hret hlk (by simp) (dx hby dd31 9) e43 (by decide) (by decide) ⟨N0, by rw [fhasn, if_neg hc11_44] <;> rfl, rfl⟩
theorem dd33 : own_dec jdk_49_method_6_code [(0, .aload_n 0, 1), (1, .getfield 1, 3), (4, .getfield 17, 3), (7, .aload_n 0, 1), (8, .getfield 22, 3), (11, .if_icmp .eq 11, 3), (14, .new 41, 3), (17, .dup, 1), (18, .invokespecial 43, 3), (21, .athrow, 1), (22, .return_, 1)] := by unfold own_dec; decide +kernel
theorem ef_cfc (m : MethodId) (r0 : Addr) : entryFrame m #[(.ref r0)] 1 = mkF m 0 #[vR r0] [] := by first | (simp [entryFrame, mkF, argsToLocals, Value.category, vI, vR, vU]; done) | rfl
def Qcfc (Z : State) (r0 : Addr) (al : Addr) (mc : Int32) (h0 : Heap) (n0 : Nat) (v : Option Value) (h : Heap) (L : List Loc) : Prop := Fr n0 L ∧ v = none ∧ h = h0
set_option maxRecDepth 65536 in
set_option maxHeartbeats 40000000 in
theorem rmcfc (l : Launch) (Z : State) (a0 : Array Value) (hw : ∀ d ∈ tables_1, d.before a0 Z = true) (ws : List Jvm.Cond) (r0 : Addr) (al : Addr) (mc : Int32) (h0 : Heap) (n0 : Nat) (Z0 : n0 ≤ h0.size) (P0 : Fld Z h0 r0 "java/util/ArrayList$Itr" "this$0" "Ljava/util/ArrayList;" (.ref al)) (P1 : Fld Z h0 al "java/util/AbstractList" "modCount" "I" (.int mc)) (P2 : Fld Z h0 r0 "java/util/ArrayList$Itr" "expectedModCount" "I" (.int mc)) :
    own_Cw l Z (⟨"java/util/ArrayList$Itr", "checkForComodification", "()V"⟩ : MethodName) jdk_49_method_6_code 1 none ws (own_rr 0 0 0 0) #[(.ref r0)] h0 (Qcfc Z r0 al mc h0 n0) := by
  refine own_body (plainFor_of_name pn_java_util_ArrayList_Itr) ?_
  intro p e s m below meth c s₁ hx hby hml hZ hown hnm hret hlk X0 e0
  have N0 := Fr.nil n0
  refine own_go (fun t k => castTop (ef_cfc m r0) k) ?_
  refine sa X0 hx (dx hby dd33 0) ?_
  refine oc_getF X0 hx hZ hown (host := "") (Or.inl (wx hw 235)) Via.refl e0 P0 (dx hby dd33 1) (fun T41 X41 e41 => ?_)
  refine oc_getF X41 hx hZ hown (host := "") (Or.inl (wx hw 240)) (Via.of (wx hw 48)) e41 P1 (dx hby dd33 2) (fun T42 X42 e42 => ?_)
  refine sa X42 hx (dx hby dd33 3) ?_
  refine oc_getF X42 hx hZ hown (host := "") (Or.inl (wx hw 241)) Via.refl e42 P2 (dx hby dd33 4) (fun T43 X43 e43 => ?_)
  refine og (XS.icmpYes X43.here hx rfl (pc0 := 11) (pc' := 22) rfl (dx hby dd33 5) rfl (teq (rfl : mc = mc)).1 (by decide) (by decide)) ?_
  exact own_retV X43 hx hret hlk (dx hby dd33 10) e43 (by decide) (by decide) ⟨N0, rfl, rfl⟩
theorem dd32 : own_dec jdk_49_method_3_code [(0, .aload_n 0, 1), (1, .invokevirtual 31, 3), (4, .aload_n 0, 1), (5, .getfield 25, 3), (8, .istore_n 1, 1), (9, .iload_n 1, 1), (10, .aload_n 0, 1), (11, .getfield 1, 3), (14, .getfield 28, 3), (17, .if_icmp .lt 11, 3), (20, .new 34, 3), (23, .dup, 1), (24, .invokespecial 36, 3), (27, .athrow, 1), (28, .aload_n 0, 1), (29, .getfield 1, 3), (32, .getfield 37, 3), (35, .astore_n 2, 1), (36, .iload_n 1, 1), (37, .aload_n 2, 1), (38, .arraylength, 1), (39, .if_icmp .lt 11, 3), (42, .new 41, 3), (45, .dup, 1), (46, .invokespecial 43, 3), (49, .athrow, 1), (50, .aload_n 0, 1), (51, .iload_n 1, 1), (52, .iconst 1, 1), (53, .iadd, 1), (54, .putfield 25, 3), (57, .aload_n 2, 1), (58, .aload_n 0, 1), (59, .iload_n 1, 1), (60, .dup_x1, 1), (61, .putfield 13, 3), (64, .aaload, 1), (65, .areturn, 1)] := by unfold own_dec; decide +kernel
theorem ef_next (m : MethodId) (r0 : Addr) : entryFrame m #[(.ref r0)] 3 = mkF m 0 #[vR r0, vU, vU] [] := by first | (simp [entryFrame, mkF, argsToLocals, Value.category, vI, vR, vU]; done) | rfl
def Qnext (Z : State) (r0 : Addr) (al : Addr) (ci : Int32) (sz : Int32) (mc : Int32) (ar : Addr) (kA : ClassId) (vs : List Value) (x : Addr) (lr : Value) (h0 : Heap) (n0 : Nat) (v : Option Value) (h : Heap) (L : List Loc) : Prop := Fr n0 L ∧ v = some (.ref x) ∧ Keep h0 h [r0] ∧ Fld Z h r0 "java/util/ArrayList$Itr" "cursor" "I" (.int (ci + (1 : Int32))) ∧ Fld Z h r0 "java/util/ArrayList$Itr" "this$0" "Ljava/util/ArrayList;" (.ref al) ∧ Fld Z h r0 "java/util/ArrayList$Itr" "expectedModCount" "I" (.int mc) ∧ Fld Z h r0 "java/util/ArrayList$Itr" "lastRet" "I" (.int ci)
set_option maxRecDepth 65536 in
set_option maxHeartbeats 40000000 in
theorem rmnext (l : Launch) (Z : State) (a0 : Array Value) (hw : ∀ d ∈ tables_1, d.before a0 Z = true) (ws : List Jvm.Cond) (r0 : Addr) (al : Addr) (ci : Int32) (sz : Int32) (mc : Int32) (ar : Addr) (kA : ClassId) (vs : List Value) (x : Addr) (lr : Value) (h0 : Heap) (n0 : Nat) (Z0 : n0 ≤ h0.size) (P0 : Exa Z h0 r0 "java/util/ArrayList$Itr") (P1 : Fld Z h0 r0 "java/util/ArrayList$Itr" "cursor" "I" (.int ci)) (P2 : Fld Z h0 r0 "java/util/ArrayList$Itr" "this$0" "Ljava/util/ArrayList;" (.ref al)) (P3 : Fld Z h0 r0 "java/util/ArrayList$Itr" "expectedModCount" "I" (.int mc)) (P4 : Fld Z h0 r0 "java/util/ArrayList$Itr" "lastRet" "I" lr) (P5 : Fld Z h0 al "java/util/AbstractList" "modCount" "I" (.int mc)) (P6 : Fld Z h0 al "java/util/ArrayList" "size" "I" (.int sz)) (P7 : Fld Z h0 al "java/util/ArrayList" "elementData" "[Ljava/lang/Object;" (.ref ar)) (P8 : Arv Z h0 ar kA (.object "java/lang/Object") (10 : Int32) vs .null) (ne0 : al ≠ r0) (ne1 : ar ≠ r0) (ge_r0 : n0 ≤ r0) (i0 : ¬ (ci < (0 : Int32))) (i1 : ci < sz) (i2 : ci < (10 : Int32)) (hv : vs.getD ci.toNatClampNeg .null = .ref x) :
    own_Cw l Z (⟨"java/util/ArrayList$Itr", "next", "()Ljava/lang/Object;"⟩ : MethodName) jdk_49_method_3_code 3 (some (.object "java/lang/Object")) ws (own_rr 1 0 0 12) #[(.ref r0)] h0 (Qnext Z r0 al ci sz mc ar kA vs x lr h0 n0) := by
  refine own_body (plainFor_of_name pn_java_util_ArrayList_Itr) ?_
  intro p e s m below meth c s₁ hx hby hml hZ hown hnm hret hlk X0 e0
  have N0 := Fr.nil n0
  refine own_go (fun t k => castTop (ef_next m r0) k) ?_
  refine sa X0 hx (dx hby dd32 0) ?_
  refine oc_virtual X0 hx hZ hown (wx hw 263) (wx hw 264) (wx hw 266) (wx hw 265) (wx hw 230) (wx hw 267) (by decide) (W := 0) (rmcfc l Z a0 hw [] r0 al mc h0 n0 Z0 P2 P5 P3) (by decide) (by decide) P0 (argsL := []) (rest := []) (by rw [hml]; rfl) (lenOf pd_4 rfl) rfl (Nat.le_of_eq rfl) (dx hby dd32 1) rfl e0 (by decide) (by decide) (fun v41 T41 Lc41 hQ41 X41 => ?_)
  obtain ⟨N41q, rfl, hq41⟩ := hQ41
  have N41 := Fr.app N0 N41q
  refine sa X41 hx (dx hby dd32 2) ?_
  refine oc_getF X41 hx hZ hown (host := "") (Or.inl (wx hw 252)) Via.refl hq41 P1 (dx hby dd32 3) (fun T42 X42 e42 => ?_)
  refine og (XS.istoreN X42.here hx rfl (dx hby dd32 4) rfl (l' := #[vR r0, vI ci, vU]) rfl) ?_
  refine si X42 hx (dx hby dd32 5) ?_
  refine sa X42 hx (dx hby dd32 6) ?_
  refine oc_getF X42 hx hZ hown (host := "") (Or.inl (wx hw 235)) Via.refl e42 P2 (dx hby dd32 7) (fun T43 X43 e43 => ?_)
  refine oc_getF X43 hx hZ hown (Or.inr (wx hw 254)) Via.refl e43 P6 (dx hby dd32 8) (fun T44 X44 e44 => ?_)
  refine og (XS.icmpYes X44.here hx rfl (pc0 := 17) (pc' := 28) rfl (dx hby dd32 9) rfl (tlt i1).1 (by decide) (by decide)) ?_
  refine sa X44 hx (dx hby dd32 14) ?_
  refine oc_getF X44 hx hZ hown (host := "") (Or.inl (wx hw 235)) Via.refl e44 P2 (dx hby dd32 15) (fun T45 X45 e45 => ?_)
  refine oc_getF X45 hx hZ hown (host := "") (Or.inl (wx hw 268)) Via.refl e45 P7 (dx hby dd32 16) (fun T46 X46 e46 => ?_)
  refine og (XS.astoreN X46.here hx rfl (dx hby dd32 17) rfl rfl (l' := #[vR r0, vI ci, vR ar]) rfl) ?_
  refine si X46 hx (dx hby dd32 18) ?_
  refine sa X46 hx (dx hby dd32 19) ?_
  refine oc_len X46 hx hZ e46 P8 (dx hby dd32 20) ?_
  refine og (XS.icmpYes X46.here hx rfl (pc0 := 39) (pc' := 50) rfl (dx hby dd32 21) rfl (tlt i2).1 (by decide) (by decide)) ?_
  refine sa X46 hx (dx hby dd32 26) ?_
  refine si X46 hx (dx hby dd32 27) ?_
  refine sc X46 hx (dx hby dd32 28) ?_
  refine og (XS.iadd X46.here hx rfl (dx hby dd32 29) rfl) ?_
  show own_Gl _ _ _ _ (T46.setTop (mkF m 54 #[vR r0, vI ci, vR ar] [(.int (ci + (1 : Int32))), (.ref r0)]))
  refine oc_putF X46 hx hZ hown (host := "") (Or.inl (wx hw 252)) Via.refl e46 P1 P0 (Or.inl (wx hw 253)) (wx hw 229) (ty := .int) (by decide) rfl rfl (dx hby dd32 30) (fun T47 h47 X47 e47 W47 => ?_)
  have Fw47 : Fld Z h47 r0 "java/util/ArrayList$Itr" "cursor" "I" (.int (ci + (1 : Int32))) := P1.same W47
  have K47 : Keep h0 h47 [r0] := (Keep.refl h0 [r0]).wr W47 (Or.inl (List.mem_of_getElem? (i := 0) rfl))
  have N47 := Fr.snoc X47 N41 ge_r0
  have Z47 : n0 ≤ h47.size := Nat.le_trans Z0 (Keep.of_wr W47).1
  refine sa X47 hx (dx hby dd32 31) ?_
  refine sa X47 hx (dx hby dd32 32) ?_
  refine si X47 hx (dx hby dd32 33) ?_
  refine og (XS.dupX1 X47.here hx rfl (dx hby dd32 34) rfl rfl rfl) ?_
  show own_Gl _ _ _ _ (T47.setTop (mkF m 61 #[vR r0, vI ci, vR ar] [(.int ci), (.ref r0), (.int ci), (.ref ar)]))
  have f_48 := P4.other W47 (Or.inr (own_sn (Or.inl (wx hw 239)) (Or.inl (wx hw 253))))
  have f_49 := P0.wr W47
  refine oc_putF X47 hx hZ hown (host := "") (Or.inl (wx hw 238)) Via.refl e47 f_48 f_49 (Or.inl (wx hw 239)) (wx hw 229) (ty := .int) (by decide) rfl rfl (dx hby dd32 35) (fun T50 h50 X50 e50 W50 => ?_)
  have Fw50 : Fld Z h50 r0 "java/util/ArrayList$Itr" "lastRet" "I" (.int ci) := f_48.same W50
  have K50 : Keep h0 h50 [r0] := K47.wr W50 (Or.inl (List.mem_of_getElem? (i := 0) rfl))
  have N50 := Fr.snoc X50 N47 ge_r0
  have Z50 : n0 ≤ h50.size := Nat.le_trans Z47 (Keep.of_wr W50).1
  show own_Gl _ _ _ _ (T50.setTop (mkF m 64 #[vR r0, vI ci, vR ar] [(.int ci), (.ref ar)]))
  have f_51 := (P8.other W47 ne1).other W50 ne1
  refine oc_aaload (v := (.ref x)) X50 hx hZ e50 f_51 ⟨i0, i2⟩ hv (dx hby dd32 36) ?_
  have f_53 := Fw47.other W50 (Or.inr (own_sn (Or.inl (wx hw 253)) (Or.inl (wx hw 239))))
  have f_54 := (P2.other W47 (Or.inr (own_sn (Or.inr (wx hw 236)) (Or.inl (wx hw 253))))).other W50 (Or.inr (own_sn (Or.inr (wx hw 236)) (Or.inl (wx hw 239))))
  have f_55 := (P3.other W47 (Or.inr (own_sn (Or.inl (wx hw 242)) (Or.inl (wx hw 253))))).other W50 (Or.inr (own_sn (Or.inl (wx hw 242)) (Or.inl (wx hw 239))))
  exact own_retW X50 hx hret hlk rfl (Or.inr (Or.inr (Or.inr (Or.inr ⟨rfl, rfl, rfl⟩)))) (dx hby dd32 37) e50 (by decide) (by decide) ⟨N50, rfl, K50, f_53, f_54, f_55, Fw50⟩
theorem dd26 : own_dec jdk_38_method_8_code [(0, .aload_n 0, 1), (1, .getfield 48, 3), (4, .ireturn, 1)] := by unfold own_dec; decide +kernel
theorem ef_alsz (m : MethodId) (r0 : Addr) : entryFrame m #[(.ref r0)] 1 = mkF m 0 #[vR r0] [] := by first | (simp [entryFrame, mkF, argsToLocals, Value.category, vI, vR, vU]; done) | rfl
def Qalsz (Z : State) (r0 : Addr) (sz : Int32) (h0 : Heap) (n0 : Nat) (v : Option Value) (h : Heap) (L : List Loc) : Prop := Fr n0 L ∧ v = some (.int sz) ∧ h = h0
set_option maxRecDepth 65536 in
set_option maxHeartbeats 40000000 in
theorem rmalsz (l : Launch) (Z : State) (a0 : Array Value) (hw : ∀ d ∈ tables_1, d.before a0 Z = true) (ws : List Jvm.Cond) (r0 : Addr) (sz : Int32) (h0 : Heap) (n0 : Nat) (Z0 : n0 ≤ h0.size) (P0 : Fld Z h0 r0 "java/util/ArrayList" "size" "I" (.int sz)) :
    own_Cw l Z (⟨"java/util/ArrayList", "size", "()I"⟩ : MethodName) jdk_38_method_8_code 1 (some .int) ws (own_rr 0 0 0 0) #[(.ref r0)] h0 (Qalsz Z r0 sz h0 n0) := by
  refine own_body (plainFor_of_name pn_java_util_ArrayList) ?_
  intro p e s m below meth c s₁ hx hby hml hZ hown hnm hret hlk X0 e0
  have N0 := Fr.nil n0
  refine own_go (fun t k => castTop (ef_alsz m r0) k) ?_
  refine sa X0 hx (dx hby dd26 0) ?_
  refine oc_getF X0 hx hZ hown (host := "") (Or.inl (wx hw 49)) Via.refl e0 P0 (dx hby dd26 1) (fun T41 X41 e41 => ?_)
  exact own_retW X41 hx hret hlk rfl (Or.inl ⟨rfl, Or.inl rfl, _, rfl⟩) (dx hby dd26 2) e41 (by decide) (by decide) ⟨N0, rfl, rfl⟩
theorem dd44 : own_dec jdk_38_method_18_code [(0, .aload_n 0, 1), (1, .getfield 9, 3), (4, .iload_n 1, 1), (5, .aaload, 1), (6, .areturn, 1)] := by unfold own_dec; decide +kernel
theorem ef_eld (m : MethodId) (r0 : Addr) (p0 : Int32) : entryFrame m #[(.ref r0), (.int p0)] 2 = mkF m 0 #[vR r0, vI p0] [] := by first | (simp [entryFrame, mkF, argsToLocals, Value.category, vI, vR, vU]; done) | rfl
def Qeld (Z : State) (r0 : Addr) (p0 : Int32) (ar : Addr) (kA : ClassId) (vs : List Value) (x : Addr) (h0 : Heap) (n0 : Nat) (v : Option Value) (h : Heap) (L : List Loc) : Prop := Fr n0 L ∧ v = some (.ref x) ∧ h = h0
set_option maxRecDepth 65536 in
set_option maxHeartbeats 40000000 in
theorem rmeld (l : Launch) (Z : State) (a0 : Array Value) (hw : ∀ d ∈ tables_1, d.before a0 Z = true) (ws : List Jvm.Cond) (r0 : Addr) (p0 : Int32) (ar : Addr) (kA : ClassId) (vs : List Value) (x : Addr) (h0 : Heap) (n0 : Nat) (Z0 : n0 ≤ h0.size) (P0 : Fld Z h0 r0 "java/util/ArrayList" "elementData" "[Ljava/lang/Object;" (.ref ar)) (P1 : Arv Z h0 ar kA (.object "java/lang/Object") (10 : Int32) vs .null) (i0 : ¬ (p0 < (0 : Int32))) (i2 : p0 < (10 : Int32)) (hv : vs.getD p0.toNatClampNeg .null = .ref x) :
    own_Cw l Z (⟨"java/util/ArrayList", "elementData", "(I)Ljava/lang/Object;"⟩ : MethodName) jdk_38_method_18_code 2 (some (.object "java/lang/Object")) ws (own_rr 0 0 0 0) #[(.ref r0), (.int p0)] h0 (Qeld Z r0 p0 ar kA vs x h0 n0) := by
  refine own_body (plainFor_of_name pn_java_util_ArrayList) ?_
  intro p e s m below meth c s₁ hx hby hml hZ hown hnm hret hlk X0 e0
  have N0 := Fr.nil n0
  refine own_go (fun t k => castTop (ef_eld m r0 p0) k) ?_
  refine sa X0 hx (dx hby dd44 0) ?_
  refine oc_getF X0 hx hZ hown (host := "") (Or.inl (wx hw 30)) Via.refl e0 P0 (dx hby dd44 1) (fun T41 X41 e41 => ?_)
  refine si X41 hx (dx hby dd44 2) ?_
  show own_Gl _ _ _ _ (T41.setTop (mkF m 5 #[vR r0, vI p0] [(.int p0), (.ref ar)]))
  refine oc_aaload (v := (.ref x)) X41 hx hZ e41 P1 ⟨i0, i2⟩ hv (dx hby dd44 3) ?_
  exact own_retW X41 hx hret hlk rfl (Or.inr (Or.inr (Or.inr (Or.inr ⟨rfl, rfl, rfl⟩)))) (dx hby dd44 4) e41 (by decide) (by decide) ⟨N0, rfl, rfl⟩
theorem dd41 : own_dec jdk_38_method_20_code [(0, .iload_n 1, 1), (1, .aload_n 0, 1), (2, .getfield 48, 3), (5, .invokestatic 118, 3), (8, .pop, 1), (9, .aload_n 0, 1), (10, .iload_n 1, 1), (11, .invokevirtual 123, 3), (14, .areturn, 1)] := by unfold own_dec; decide +kernel
theorem ef_get (m : MethodId) (r0 : Addr) (p0 : Int32) : entryFrame m #[(.ref r0), (.int p0)] 2 = mkF m 0 #[vR r0, vI p0] [] := by first | (simp [entryFrame, mkF, argsToLocals, Value.category, vI, vR, vU]; done) | rfl
theorem pd_10 : parseMethodDescriptor "(I)Ljava/lang/Object;" = some ⟨[.int], some (.object "java/lang/Object")⟩ := by decide +kernel
def Qget (Z : State) (r0 : Addr) (p0 : Int32) (sz : Int32) (ar : Addr) (kA : ClassId) (vs : List Value) (x : Addr) (h0 : Heap) (n0 : Nat) (v : Option Value) (h : Heap) (L : List Loc) : Prop := Fr n0 L ∧ v = some (.ref x) ∧ h = h0
set_option maxRecDepth 65536 in
set_option maxHeartbeats 40000000 in
theorem rmget (l : Launch) (Z : State) (a0 : Array Value) (hw : ∀ d ∈ tables_1, d.before a0 Z = true) (ws : List Jvm.Cond) (r0 : Addr) (p0 : Int32) (sz : Int32) (ar : Addr) (kA : ClassId) (vs : List Value) (x : Addr) (h0 : Heap) (n0 : Nat) (Z0 : n0 ≤ h0.size) (P0 : Exa Z h0 r0 "java/util/ArrayList") (P1 : Fld Z h0 r0 "java/util/ArrayList" "size" "I" (.int sz)) (P2 : Fld Z h0 r0 "java/util/ArrayList" "elementData" "[Ljava/lang/Object;" (.ref ar)) (P3 : Arv Z h0 ar kA (.object "java/lang/Object") (10 : Int32) vs .null) (i0 : ¬ (p0 < (0 : Int32))) (i2 : p0 < (10 : Int32)) (hv : vs.getD p0.toNatClampNeg .null = .ref x) (i1 : p0 < sz) :
    own_Cw l Z (⟨"java/util/ArrayList", "get", "(I)Ljava/lang/Object;"⟩ : MethodName) jdk_38_method_20_code 2 (some (.object "java/lang/Object")) ws (own_rr 2 0 0 27) #[(.ref r0), (.int p0)] h0 (Qget Z r0 p0 sz ar kA vs x h0 n0) := by
  refine own_body (plainFor_of_name pn_java_util_ArrayList) ?_
  intro p e s m below meth c s₁ hx hby hml hZ hown hnm hret hlk X0 e0
  have N0 := Fr.nil n0
  refine own_go (fun t k => castTop (ef_get m r0 p0) k) ?_
  refine si X0 hx (dx hby dd41 0) ?_
  refine sa X0 hx (dx hby dd41 1) ?_
  refine oc_getF X0 hx hZ hown (host := "") (Or.inl (wx hw 49)) Via.refl e0 P1 (dx hby dd41 2) (fun T41 X41 e41 => ?_)
  refine oc_static X41 hx hZ hown (wx hw 316) (wx hw 317) (wx hw 132) (wx hw 318) (by decide) (W := 0) (rmoci l Z a0 hw [] p0 sz h0 n0 Z0 i0 i1) (by decide) (by decide) (argsL := [(.int p0), (.int sz)]) (rest := []) (by rw [hml]; rfl) (lenOf pd_5 rfl) rfl (Nat.le_of_eq rfl) (dx hby dd41 3) rfl e41 (by decide) (by decide) (fun v42 T42 Lc42 hQ42 X42 => ?_)
  obtain ⟨N42q, rfl, hq42⟩ := hQ42
  have N42 := Fr.app N0 N42q
  refine og (XS.pop X42.here hx rfl (dx hby dd41 4) rfl rfl) ?_
  refine sa X42 hx (dx hby dd41 5) ?_
  refine si X42 hx (dx hby dd41 6) ?_
  refine oc_virtual X42 hx hZ hown (wx hw 323) (wx hw 324) (wx hw 326) (wx hw 325) (wx hw 8) (wx hw 327) (by decide) (W := 0) (rmeld l Z a0 hw [] r0 p0 ar kA vs x h0 n0 Z0 P2 P3 i0 i2 hv) (by decide) (by decide) P0 (argsL := [(.int p0)]) (rest := []) (by rw [hml]; rfl) (lenOf pd_10 rfl) rfl (Nat.le_of_eq rfl) (dx hby dd41 7) rfl hq42 (by decide) (by decide) (fun v43 T43 Lc43 hQ43 X43 => ?_)
  obtain ⟨N43q, rfl, hq43⟩ := hQ43
  have N43 := Fr.app N42 N43q
  exact own_retW X43 hx hret hlk rfl (Or.inr (Or.inr (Or.inr (Or.inr ⟨rfl, rfl, rfl⟩)))) (dx hby dd41 8) hq43 (by decide) (by decide) ⟨N43, rfl, rfl⟩
theorem dd19 : own_dec jdk_31_method_10_code [(0, .aload_n 0, 1), (1, .ifnonnull 11, 3), (4, .new 84, 3), (7, .dup, 1), (8, .invokespecial 86, 3), (11, .athrow, 1), (12, .aload_n 0, 1), (13, .areturn, 1)] := by unfold own_dec; decide +kernel
theorem ef_rnn (m : MethodId) (r0 : Addr) : entryFrame m #[(.ref r0)] 1 = mkF m 0 #[vR r0] [] := by first | (simp [entryFrame, mkF, argsToLocals, Value.category, vI, vR, vU]; done) | rfl
def Qrnn (Z : State) (r0 : Addr) (h0 : Heap) (n0 : Nat) (v : Option Value) (h : Heap) (L : List Loc) : Prop := Fr n0 L ∧ v = some (.ref r0) ∧ h = h0
set_option maxRecDepth 65536 in
set_option maxHeartbeats 40000000 in
theorem rmrnn (l : Launch) (Z : State) (a0 : Array Value) (hw : ∀ d ∈ tables_1, d.before a0 Z = true) (ws : List Jvm.Cond) (r0 : Addr) (h0 : Heap) (n0 : Nat) (Z0 : n0 ≤ h0.size)  :
    own_Cw l Z (⟨"java/util/Objects", "requireNonNull", "(Ljava/lang/Object;)Ljava/lang/Object;"⟩ : MethodName) jdk_31_method_10_code 1 (some (.object "java/lang/Object")) ws (own_rr 0 0 0 0) #[(.ref r0)] h0 (Qrnn Z r0 h0 n0) := by
  refine own_body (plainFor_of_name pn_java_util_Objects) ?_
  intro p e s m below meth c s₁ hx hby hml hZ hown hnm hret hlk X0 e0
  have N0 := Fr.nil n0
  refine own_go (fun t k => castTop (ef_rnn m r0) k) ?_
  refine sa X0 hx (dx hby dd19 0) ?_
  refine og (XS.ifnonnullYes X0.here hx rfl (pc0 := 1) (pc' := 12) rfl (dx hby dd19 1) rfl (by decide) (by decide)) ?_
  refine sa X0 hx (dx hby dd19 6) ?_
  exact own_retW X0 hx hret hlk rfl (Or.inr (Or.inr (Or.inr (Or.inr ⟨rfl, rfl, rfl⟩)))) (dx hby dd19 7) e0 (by decide) (by decide) ⟨N0, rfl, rfl⟩
theorem dd22 : own_dec jdk_47_method_1_code [(0, .aload_n 0, 1), (1, .invokespecial 1, 3), (4, .return_, 1)] := by unfold own_dec; decide +kernel
theorem pn_java_util_ImmutableCollections_AbstractImmutableCollection : plainName "java/util/ImmutableCollections$AbstractImmutableCollection" = true := by first | (simp [plainName, overriddenIn]; done) | decide +kernel
theorem ef_aic (m : MethodId) (r0 : Addr) : entryFrame m #[(.ref r0)] 1 = mkF m 0 #[vR r0] [] := by first | (simp [entryFrame, mkF, argsToLocals, Value.category, vI, vR, vU]; done) | rfl
def Qaic (Z : State) (r0 : Addr) (h0 : Heap) (n0 : Nat) (v : Option Value) (h : Heap) (L : List Loc) : Prop := Fr n0 L ∧ v = none ∧ h = h0
set_option maxRecDepth 65536 in
set_option maxHeartbeats 40000000 in
theorem rmaic (l : Launch) (Z : State) (a0 : Array Value) (hw : ∀ d ∈ tables_1, d.before a0 Z = true) (ws : List Jvm.Cond) (r0 : Addr) (h0 : Heap) (n0 : Nat) (Z0 : n0 ≤ h0.size)  :
    own_Cw l Z (⟨"java/util/ImmutableCollections$AbstractImmutableCollection", "<init>", "()V"⟩ : MethodName) jdk_47_method_1_code 1 none ws (own_rr 2 0 0 24) #[(.ref r0)] h0 (Qaic Z r0 h0 n0) := by
  refine own_body (plainFor_of_name pn_java_util_ImmutableCollections_AbstractImmutableCollection) ?_
  intro p e s m below meth c s₁ hx hby hml hZ hown hnm hret hlk X0 e0
  have N0 := Fr.nil n0
  refine own_go (fun t k => castTop (ef_aic m r0) k) ?_
  refine sa X0 hx (dx hby dd22 0) ?_
  refine oc_special X0 hx hZ hown rfl (wx hw 154) (wx hw 19) (wx hw 22) (wx hw 23) (by decide) (W := 0) (rmabc l Z a0 hw [] r0 h0 n0 Z0 ) (by decide) (by decide) (a := r0) (argsL := []) (rest := []) (by rw [hml]; rfl) (lenOf pd_4 rfl) rfl (Nat.le_of_eq rfl) (dx hby dd22 1) rfl e0 (by decide) (by decide) (fun v41 T41 Lc41 hQ41 X41 => ?_)
  obtain ⟨N41q, rfl, hq41⟩ := hQ41
  have N41 := Fr.app N0 N41q
  exact own_retV X41 hx hret hlk (dx hby dd22 2) hq41 (by decide) (by decide) ⟨N41, rfl, rfl⟩
theorem dd21 : own_dec jdk_46_method_1_code [(0, .aload_n 0, 1), (1, .invokespecial 1, 3), (4, .return_, 1)] := by unfold own_dec; decide +kernel
theorem pn_java_util_ImmutableCollections_AbstractImmutableList : plainName "java/util/ImmutableCollections$AbstractImmutableList" = true := by first | (simp [plainName, overriddenIn]; done) | decide +kernel
theorem ef_aill (m : MethodId) (r0 : Addr) : entryFrame m #[(.ref r0)] 1 = mkF m 0 #[vR r0] [] := by first | (simp [entryFrame, mkF, argsToLocals, Value.category, vI, vR, vU]; done) | rfl
def Qaill (Z : State) (r0 : Addr) (h0 : Heap) (n0 : Nat) (v : Option Value) (h : Heap) (L : List Loc) : Prop := Fr n0 L ∧ v = none ∧ h = h0
set_option maxRecDepth 65536 in
set_option maxHeartbeats 40000000 in
theorem rmaill (l : Launch) (Z : State) (a0 : Array Value) (hw : ∀ d ∈ tables_1, d.before a0 Z = true) (ws : List Jvm.Cond) (r0 : Addr) (h0 : Heap) (n0 : Nat) (Z0 : n0 ≤ h0.size)  :
    own_Cw l Z (⟨"java/util/ImmutableCollections$AbstractImmutableList", "<init>", "()V"⟩ : MethodName) jdk_46_method_1_code 1 none ws (own_rr 3 0 0 36) #[(.ref r0)] h0 (Qaill Z r0 h0 n0) := by
  refine own_body (plainFor_of_name pn_java_util_ImmutableCollections_AbstractImmutableList) ?_
  intro p e s m below meth c s₁ hx hby hml hZ hown hnm hret hlk X0 e0
  have N0 := Fr.nil n0
  refine own_go (fun t k => castTop (ef_aill m r0) k) ?_
  refine sa X0 hx (dx hby dd21 0) ?_
  refine oc_special X0 hx hZ hown rfl (wx hw 148) (wx hw 149) (wx hw 152) (wx hw 153) (by decide) (W := 0) (rmaic l Z a0 hw [] r0 h0 n0 Z0 ) (by decide) (by decide) (a := r0) (argsL := []) (rest := []) (by rw [hml]; rfl) (lenOf pd_4 rfl) rfl (Nat.le_of_eq rfl) (dx hby dd21 1) rfl e0 (by decide) (by decide) (fun v41 T41 Lc41 hQ41 X41 => ?_)
  obtain ⟨N41q, rfl, hq41⟩ := hQ41
  have N41 := Fr.app N0 N41q
  exact own_retV X41 hx hret hlk (dx hby dd21 2) hq41 (by decide) (by decide) ⟨N41, rfl, rfl⟩
theorem dd20 : own_dec jdk_45_method_1_code [(0, .aload_n 0, 1), (1, .invokespecial 1, 3), (4, .aload_n 0, 1), (5, .aload_n 1, 1), (6, .putfield 7, 3), (9, .aload_n 0, 1), (10, .iload_n 2, 1), (11, .putfield 13, 3), (14, .return_, 1)] := by unfold own_dec; decide +kernel
theorem pn_java_util_ImmutableCollections_ListN : plainName "java/util/ImmutableCollections$ListN" = true := by first | (simp [plainName, overriddenIn]; done) | decide +kernel
theorem ef_lni (m : MethodId) (r0 : Addr) (r1 : Addr) (p0 : Int32) : entryFrame m #[(.ref r0), (.ref r1), (.int p0)] 3 = mkF m 0 #[vR r0, vR r1, vI p0] [] := by first | (simp [entryFrame, mkF, argsToLocals, Value.category, vI, vR, vU]; done) | rfl
def Qlni (Z : State) (r0 : Addr) (r1 : Addr) (p0 : Int32) (h0 : Heap) (n0 : Nat) (v : Option Value) (h : Heap) (L : List Loc) : Prop := Fr n0 L ∧ v = none ∧ Keep h0 h [r0]
set_option maxRecDepth 65536 in
set_option maxHeartbeats 40000000 in
theorem rmlni (l : Launch) (Z : State) (a0 : Array Value) (hw : ∀ d ∈ tables_1, d.before a0 Z = true) (ws : List Jvm.Cond) (r0 : Addr) (r1 : Addr) (p0 : Int32) (h0 : Heap) (n0 : Nat) (Z0 : n0 ≤ h0.size) (P0 : Exa Z h0 r0 "java/util/ImmutableCollections$ListN") (P1 : Fld Z h0 r0 "java/util/ImmutableCollections$ListN" "elements" "[Ljava/lang/Object;" .null) (P2 : Fld Z h0 r0 "java/util/ImmutableCollections$ListN" "allowNulls" "Z" (.int (0 : Int32))) (ge_r0 : n0 ≤ r0) (hz : p0 = (0 : Int32)) :
    own_Cw l Z (⟨"java/util/ImmutableCollections$ListN", "<init>", "([Ljava/lang/Object;Z)V"⟩ : MethodName) jdk_45_method_1_code 3 none ws (own_rr 4 0 0 48) #[(.ref r0), (.ref r1), (.int p0)] h0 (Qlni Z r0 r1 p0 h0 n0) := by
  refine own_body (plainFor_of_name pn_java_util_ImmutableCollections_ListN) ?_
  intro p e s m below meth c s₁ hx hby hml hZ hown hnm hret hlk X0 e0
  have N0 := Fr.nil n0
  refine own_go (fun t k => castTop (ef_lni m r0 r1 p0) k) ?_
  show own_Gl _ _ _ _ (s₁.setTop (mkF m 0 #[vR r0, vR r1, vI p0] []))
  have hs41 : p0 = (0 : Int32) := hz
  rw [hs41]
  refine sa X0 hx (dx hby dd20 0) ?_
  refine oc_special X0 hx hZ hown rfl (wx hw 142) (wx hw 143) (wx hw 146) (wx hw 147) (by decide) (W := 0) (rmaill l Z a0 hw [] r0 h0 n0 Z0 ) (by decide) (by decide) (a := r0) (argsL := []) (rest := []) (by rw [hml]; rfl) (lenOf pd_4 rfl) rfl (Nat.le_of_eq rfl) (dx hby dd20 1) rfl e0 (by decide) (by decide) (fun v42 T42 Lc42 hQ42 X42 => ?_)
  obtain ⟨N42q, rfl, hq42⟩ := hQ42
  have N42 := Fr.app N0 N42q
  refine sa X42 hx (dx hby dd20 2) ?_
  refine sa X42 hx (dx hby dd20 3) ?_
  show own_Gl _ _ _ _ (T42.setTop (mkF m 6 #[vR r0, vR r1, vI (0 : Int32)] [(.ref r1), (.ref r0)]))
  refine oc_putF X42 hx hZ hown (host := "") (Or.inl (wx hw 156)) Via.refl hq42 P1 P0 (Or.inr ⟨(wx hw 157), rfl, hnm⟩) (wx hw 136) (ty := (.array (.object "java/lang/Object"))) (by decide) rfl rfl (dx hby dd20 4) (fun T43 h43 X43 e43 W43 => ?_)
  have Fw43 : Fld Z h43 r0 "java/util/ImmutableCollections$ListN" "elements" "[Ljava/lang/Object;" (.ref r1) := P1.same W43
  have K43 : Keep h0 h43 [r0] := (Keep.refl h0 [r0]).wr W43 (Or.inl (List.mem_of_getElem? (i := 0) rfl))
  have N43 := Fr.snoc X43 N42 ge_r0
  have Z43 : n0 ≤ h43.size := Nat.le_trans Z0 (Keep.of_wr W43).1
  refine sa X43 hx (dx hby dd20 5) ?_
  refine si X43 hx (dx hby dd20 6) ?_
  show own_Gl _ _ _ _ (T43.setTop (mkF m 11 #[vR r0, vR r1, vI (0 : Int32)] [(.int (0 : Int32)), (.ref r0)]))
  have f_44 := P2.other W43 (Or.inr (own_sn (Or.inr (wx hw 159)) (Or.inr (wx hw 157))))
  have f_45 := P0.wr W43
  obtain ⟨T46, h46, X46, e46, W46, st46⟩ := putFN X43 hx hZ hown (wx hw 158) Via.refl e43 f_44 f_45 (Or.inr ⟨(wx hw 159), rfl, hnm⟩) (wx hw 136) (ty := .boolean) (v' := (.int (0 : Int32))) (by decide) rfl (fits_nar_bool (0 : Int32)) (g := (mkF m 11 #[vR r0, vR r1, vI (0 : Int32)] [(.int (0 : Int32)), (.ref r0)])) rfl rfl (dx hby dd20 7)
  refine og (st46 _) ?_
  have Fw46 : Fld Z h46 r0 "java/util/ImmutableCollections$ListN" "allowNulls" "Z" (.int (0 : Int32)) := f_44.same W46
  have K46 : Keep h0 h46 [r0] := K43.wr W46 (Or.inl (List.mem_of_getElem? (i := 0) rfl))
  have N46 := Fr.snoc X46 N43 ge_r0
  have Z46 : n0 ≤ h46.size := Nat.le_trans Z43 (Keep.of_wr W46).1
  exact own_retV X46 hx hret hlk (dx hby dd20 8) e46 (by decide) (by decide) ⟨N46, rfl, K46⟩
theorem dd18 : own_dec jdk_56_method_4_code [(0, .aload_n 0, 1), (1, .arraylength, 1), (2, .anewarray 2, 3), (5, .astore_n 1, 1), (6, .iconst 0, 1), (7, .istore_n 2, 1), (8, .iload_n 2, 1), (9, .aload_n 0, 1), (10, .arraylength, 1), (11, .if_icmp .ge 18, 3), (14, .aload_n 1, 1), (15, .iload_n 2, 1), (16, .aload_n 0, 1), (17, .iload_n 2, 1), (18, .aaload, 1), (19, .invokestatic 37, 3), (22, .aastore, 1), (23, .iinc 2 1, 3), (26, .goto (-18), 3), (29, .new 12, 3), (32, .dup, 1), (33, .aload_n 1, 1), (34, .iconst 0, 1), (35, .invokespecial 43, 3), (38, .areturn, 1)] := by unfold own_dec; decide +kernel
theorem pn_java_util_ImmutableCollections : plainName "java/util/ImmutableCollections" = true := by first | (simp [plainName, overriddenIn]; done) | decide +kernel
theorem ef_lfa (m : MethodId) (r0 : Addr) : entryFrame m #[(.ref r0)] 3 = mkF m 0 #[vR r0, vU, vU] [] := by first | (simp [entryFrame, mkF, argsToLocals, Value.category, vI, vR, vU]; done) | rfl
theorem pd_11 : parseMethodDescriptor "(Ljava/lang/Object;)Ljava/lang/Object;" = some ⟨[(.object "java/lang/Object")], some (.object "java/lang/Object")⟩ := by decide +kernel
theorem pd_12 : parseMethodDescriptor "([Ljava/lang/Object;Z)V" = some ⟨[(.array (.object "java/lang/Object")), .boolean], none⟩ := by decide +kernel
def Qlfa (Z : State) (r0 : Addr) (kA : ClassId) (x0 : Addr) (x1 : Addr) (x2 : Addr) (x3 : Addr) (h0 : Heap) (n0 : Nat) (v : Option Value) (h : Heap) (L : List Loc) : Prop := Fr n0 L ∧ ∃ (w : Addr), n0 ≤ w ∧ h0.size ≤ w ∧ v = some (.ref w) ∧ Keep h0 h []
set_option maxRecDepth 65536 in
set_option maxHeartbeats 40000000 in
theorem rmlfa (l : Launch) (Z : State) (a0 : Array Value) (hw : ∀ d ∈ tables_1, d.before a0 Z = true) (ws : List Jvm.Cond) (r0 : Addr) (kA : ClassId) (x0 : Addr) (x1 : Addr) (x2 : Addr) (x3 : Addr) (h0 : Heap) (n0 : Nat) (Z0 : n0 ≤ h0.size) (P0 : Arv Z h0 r0 kA (.object "com/example/sixfold/sixfold/rows/IntList") (4 : Int32) [(.ref x0), (.ref x1), (.ref x2), (.ref x3)] .null) (P1 : Exa Z h0 x0 "com/example/sixfold/sixfold/rows/IntList") (P2 : Exa Z h0 x1 "com/example/sixfold/sixfold/rows/IntList") (P3 : Exa Z h0 x2 "com/example/sixfold/sixfold/rows/IntList") (P4 : Exa Z h0 x3 "com/example/sixfold/sixfold/rows/IntList") :
    own_Cw l Z (⟨"java/util/ImmutableCollections", "listFromArray", "([Ljava/lang/Object;)Ljava/util/List;"⟩ : MethodName) jdk_56_method_4_code 3 (some (.object "java/util/List")) ws (own_rr 5 2 6 63) #[(.ref r0)] h0 (Qlfa Z r0 kA x0 x1 x2 x3 h0 n0) := by
  refine own_body (plainFor_of_name pn_java_util_ImmutableCollections) ?_
  intro p e s m below meth c s₁ hx hby hml hZ hown hnm hret hlk X0 e0
  have N0 := Fr.nil n0
  refine own_go (fun t k => castTop (ef_lfa m r0) k) ?_
  refine sa X0 hx (dx hby dd18 0) ?_
  refine oc_len X0 hx hZ e0 P0 (dx hby dd18 1) ?_
  show own_Gl _ _ _ _ (s₁.setTop (mkF m 2 #[vR r0, vU, vU] [(.int (4 : Int32))]))
  obtain ⟨T41, h41, k41, X41, e41, E41, A41, O41, st41⟩ := newR X0 hx hZ hown (wx hw 129) (wx hw 71) e0 (g := (mkF m 2 #[vR r0, vU, vU] [(.int (4 : Int32))])) rfl (dx hby dd18 2) rfl (by decide) (cap := 4) (by decide) (by decide) (by decide) (by decide)
  obtain ⟨b41, g41⟩ : ∃ z, z = h0.size := ⟨_, rfl⟩
  rw [← g41] at A41 st41
  have ne_r0_b41 : r0 ≠ b41 := Nat.ne_of_lt (Nat.lt_of_lt_of_le P0.lt (Nat.le_of_eq g41.symm))
  have ne_x0_b41 : x0 ≠ b41 := Nat.ne_of_lt (Nat.lt_of_lt_of_le P1.lt (Nat.le_of_eq g41.symm))
  have ne_x1_b41 : x1 ≠ b41 := Nat.ne_of_lt (Nat.lt_of_lt_of_le P2.lt (Nat.le_of_eq g41.symm))
  have ne_x2_b41 : x2 ≠ b41 := Nat.ne_of_lt (Nat.lt_of_lt_of_le P3.lt (Nat.le_of_eq g41.symm))
  have ne_x3_b41 : x3 ≠ b41 := Nat.ne_of_lt (Nat.lt_of_lt_of_le P4.lt (Nat.le_of_eq g41.symm))
  have ge_b41 : n0 ≤ b41 := Nat.le_trans Z0 (Nat.le_of_eq g41.symm)
  have sz_b41 : h0.size ≤ b41 := Nat.le_trans (Keep.refl h0 []).1 (Nat.le_of_eq g41.symm)
  refine og (st41 _) ?_
  have K41 : Keep h0 h41 [] := (Keep.refl h0 []).ext E41
  have Z41 : n0 ≤ h41.size := Nat.le_trans Z0 E41.1
  have V41 : Arv Z h41 b41 k41 (.object "java/lang/Object") (4 : Int32) [.null, .null, .null, .null] .null := (Arv.new A41 (by decide)).pad (pad_rep [] .null 4)
  refine og (XS.astoreN X41.here hx rfl (dx hby dd18 3) rfl rfl (l' := #[vR r0, vR b41, vU]) rfl) ?_
  refine sc X41 hx (dx hby dd18 4) ?_
  refine og (XS.istoreN X41.here hx rfl (dx hby dd18 5) rfl (l' := #[vR r0, vR b41, vI (0 : Int32)]) rfl) ?_
  refine si X41 hx (dx hby dd18 6) ?_
  refine sa X41 hx (dx hby dd18 7) ?_
  have f_42 : Arv Z h41 r0 kA (.object "com/example/sixfold/sixfold/rows/IntList") (4 : Int32) [(.ref x0), (.ref x1), (.ref x2), (.ref x3)] .null := (P0.ext (own_ext K41))
  refine oc_len X41 hx hZ e41 f_42 (dx hby dd18 8) ?_
  refine og (XS.icmpNo X41.here hx rfl (dx hby dd18 9) rfl (tlt (by decide : (0 : Int32) < (4 : Int32))).2.1) ?_
  refine sa X41 hx (dx hby dd18 10) ?_
  refine si X41 hx (dx hby dd18 11) ?_
  refine sa X41 hx (dx hby dd18 12) ?_
  refine si X41 hx (dx hby dd18 13) ?_
  show own_Gl _ _ _ _ (T41.setTop (mkF m 18 #[vR r0, vR b41, vI (0 : Int32)] [(.int (0 : Int32)), (.ref r0), (.int (0 : Int32)), (.ref b41)]))
  refine oc_aaload (v := (.ref x0)) X41 hx hZ e41 f_42 ⟨by decide, by decide⟩ rfl (dx hby dd18 14) ?_
  refine oc_static X41 hx hZ hown (wx hw 130) (wx hw 131) (wx hw 132) (wx hw 133) (by decide) (W := 2) (rmrnn l Z a0 hw [] x0 h41 n0 Z41 ) (by decide) (by decide) (argsL := [(.ref x0)]) (rest := [(.int (0 : Int32)), (.ref b41)]) (by rw [hml]; rfl) (lenOf pd_11 rfl) rfl (Nat.le_of_eq rfl) (dx hby dd18 15) rfl e41 (by decide) (by decide) (fun v44 T44 Lc44 hQ44 X44 => ?_)
  obtain ⟨N44q, rfl, hq44⟩ := hQ44
  have N44 := Fr.app N0 N44q
  show own_Gl _ _ _ _ (T44.setTop (mkF m 22 #[vR r0, vR b41, vI (0 : Int32)] [(.ref x0), (.int (0 : Int32)), (.ref b41)]))
  have f_46 : Exa Z h41 x0 "com/example/sixfold/sixfold/rows/IntList" := (P1.ext (own_ext K41))
  refine oc_aastore X44 hx hZ hq44 V41 ⟨by decide, by decide⟩ 0 rfl (Nat.le_of_ble_eq_true rfl) (Or.inr ⟨O41, _, _, rfl, rfl, (Ins.of_exa f_46 (wx hw 134))⟩) (dx hby dd18 16) (fun T45 h45 X45 e45 W45 V45 => ?_)
  have V45 : Arv Z h45 b41 k41 (.object "java/lang/Object") (4 : Int32) [(.ref x0), .null, .null, .null] .null := V45
  have K45 : Keep h0 h45 [] := K41.wr W45 (Or.inr sz_b41)
  have N45 := Fr.snoc X45 N44 ge_b41
  have Z45 : n0 ≤ h45.size := Nat.le_trans Z41 (Keep.of_wr W45).1
  refine og (XS.iinc X45.here hx rfl (dx hby dd18 17) rfl (l' := #[vR r0, vR b41, vI (1 : Int32)]) rfl) ?_
  refine og (XS.goto X45.here hx rfl (pc0 := 26) (pc' := 8) rfl (dx hby dd18 18) (by decide) (by decide)) ?_
  refine si X45 hx (dx hby dd18 6) ?_
  refine sa X45 hx (dx hby dd18 7) ?_
  have f_47 : Arv Z h45 r0 kA (.object "com/example/sixfold/sixfold/rows/IntList") (4 : Int32) [(.ref x0), (.ref x1), (.ref x2), (.ref x3)] .null := (P0.ext (own_ext K45))
  refine oc_len X45 hx hZ e45 f_47 (dx hby dd18 8) ?_
  refine og (XS.icmpNo X45.here hx rfl (dx hby dd18 9) rfl (tlt (by decide : (1 : Int32) < (4 : Int32))).2.1) ?_
  refine sa X45 hx (dx hby dd18 10) ?_
  refine si X45 hx (dx hby dd18 11) ?_
  refine sa X45 hx (dx hby dd18 12) ?_
  refine si X45 hx (dx hby dd18 13) ?_
  show own_Gl _ _ _ _ (T45.setTop (mkF m 18 #[vR r0, vR b41, vI (1 : Int32)] [(.int (1 : Int32)), (.ref r0), (.int (1 : Int32)), (.ref b41)]))
  refine oc_aaload (v := (.ref x1)) X45 hx hZ e45 f_47 ⟨by decide, by decide⟩ rfl (dx hby dd18 14) ?_
  refine oc_static X45 hx hZ hown (wx hw 130) (wx hw 131) (wx hw 132) (wx hw 133) (by decide) (W := 2) (rmrnn l Z a0 hw [] x1 h45 n0 Z45 ) (by decide) (by decide) (argsL := [(.ref x1)]) (rest := [(.int (1 : Int32)), (.ref b41)]) (by rw [hml]; rfl) (lenOf pd_11 rfl) rfl (Nat.le_of_eq rfl) (dx hby dd18 15) rfl e45 (by decide) (by decide) (fun v49 T49 Lc49 hQ49 X49 => ?_)
  obtain ⟨N49q, rfl, hq49⟩ := hQ49
  have N49 := Fr.app N45 N49q
  show own_Gl _ _ _ _ (T49.setTop (mkF m 22 #[vR r0, vR b41, vI (1 : Int32)] [(.ref x1), (.int (1 : Int32)), (.ref b41)]))
  have f_51 : Exa Z h45 x1 "com/example/sixfold/sixfold/rows/IntList" := (P2.ext (own_ext K45))
  refine oc_aastore X49 hx hZ hq49 V45 ⟨by decide, by decide⟩ 1 rfl (Nat.le_of_ble_eq_true rfl) (Or.inr ⟨O41, _, _, rfl, rfl, (Ins.of_exa f_51 (wx hw 134))⟩) (dx hby dd18 16) (fun T50 h50 X50 e50 W50 V50 => ?_)
  have V50 : Arv Z h50 b41 k41 (.object "java/lang/Object") (4 : Int32) [(.ref x0), (.ref x1), .null, .null] .null := V50
  have K50 : Keep h0 h50 [] := K45.wr W50 (Or.inr sz_b41)
  have N50 := Fr.snoc X50 N49 ge_b41
  have Z50 : n0 ≤ h50.size := Nat.le_trans Z45 (Keep.of_wr W50).1
  refine og (XS.iinc X50.here hx rfl (dx hby dd18 17) rfl (l' := #[vR r0, vR b41, vI (2 : Int32)]) rfl) ?_
  refine og (XS.goto X50.here hx rfl (pc0 := 26) (pc' := 8) rfl (dx hby dd18 18) (by decide) (by decide)) ?_
  refine si X50 hx (dx hby dd18 6) ?_
  refine sa X50 hx (dx hby dd18 7) ?_
  have f_52 : Arv Z h50 r0 kA (.object "com/example/sixfold/sixfold/rows/IntList") (4 : Int32) [(.ref x0), (.ref x1), (.ref x2), (.ref x3)] .null := (P0.ext (own_ext K50))
  refine oc_len X50 hx hZ e50 f_52 (dx hby dd18 8) ?_
  refine og (XS.icmpNo X50.here hx rfl (dx hby dd18 9) rfl (tlt (by decide : (2 : Int32) < (4 : Int32))).2.1) ?_
  refine sa X50 hx (dx hby dd18 10) ?_
  refine si X50 hx (dx hby dd18 11) ?_
  refine sa X50 hx (dx hby dd18 12) ?_
  refine si X50 hx (dx hby dd18 13) ?_
  show own_Gl _ _ _ _ (T50.setTop (mkF m 18 #[vR r0, vR b41, vI (2 : Int32)] [(.int (2 : Int32)), (.ref r0), (.int (2 : Int32)), (.ref b41)]))
  refine oc_aaload (v := (.ref x2)) X50 hx hZ e50 f_52 ⟨by decide, by decide⟩ rfl (dx hby dd18 14) ?_
  refine oc_static X50 hx hZ hown (wx hw 130) (wx hw 131) (wx hw 132) (wx hw 133) (by decide) (W := 2) (rmrnn l Z a0 hw [] x2 h50 n0 Z50 ) (by decide) (by decide) (argsL := [(.ref x2)]) (rest := [(.int (2 : Int32)), (.ref b41)]) (by rw [hml]; rfl) (lenOf pd_11 rfl) rfl (Nat.le_of_eq rfl) (dx hby dd18 15) rfl e50 (by decide) (by decide) (fun v54 T54 Lc54 hQ54 X54 => ?_)
  obtain ⟨N54q, rfl, hq54⟩ := hQ54
  have N54 := Fr.app N50 N54q
  show own_Gl _ _ _ _ (T54.setTop (mkF m 22 #[vR r0, vR b41, vI (2 : Int32)] [(.ref x2), (.int (2 : Int32)), (.ref b41)]))
  have f_56 : Exa Z h50 x2 "com/example/sixfold/sixfold/rows/IntList" := (P3.ext (own_ext K50))
  refine oc_aastore X54 hx hZ hq54 V50 ⟨by decide, by decide⟩ 2 rfl (Nat.le_of_ble_eq_true rfl) (Or.inr ⟨O41, _, _, rfl, rfl, (Ins.of_exa f_56 (wx hw 134))⟩) (dx hby dd18 16) (fun T55 h55 X55 e55 W55 V55 => ?_)
  have V55 : Arv Z h55 b41 k41 (.object "java/lang/Object") (4 : Int32) [(.ref x0), (.ref x1), (.ref x2), .null] .null := V55
  have K55 : Keep h0 h55 [] := K50.wr W55 (Or.inr sz_b41)
  have N55 := Fr.snoc X55 N54 ge_b41
  have Z55 : n0 ≤ h55.size := Nat.le_trans Z50 (Keep.of_wr W55).1
  refine og (XS.iinc X55.here hx rfl (dx hby dd18 17) rfl (l' := #[vR r0, vR b41, vI (3 : Int32)]) rfl) ?_
  refine og (XS.goto X55.here hx rfl (pc0 := 26) (pc' := 8) rfl (dx hby dd18 18) (by decide) (by decide)) ?_
  refine si X55 hx (dx hby dd18 6) ?_
  refine sa X55 hx (dx hby dd18 7) ?_
  have f_57 : Arv Z h55 r0 kA (.object "com/example/sixfold/sixfold/rows/IntList") (4 : Int32) [(.ref x0), (.ref x1), (.ref x2), (.ref x3)] .null := (P0.ext (own_ext K55))
  refine oc_len X55 hx hZ e55 f_57 (dx hby dd18 8) ?_
  refine og (XS.icmpNo X55.here hx rfl (dx hby dd18 9) rfl (tlt (by decide : (3 : Int32) < (4 : Int32))).2.1) ?_
  refine sa X55 hx (dx hby dd18 10) ?_
  refine si X55 hx (dx hby dd18 11) ?_
  refine sa X55 hx (dx hby dd18 12) ?_
  refine si X55 hx (dx hby dd18 13) ?_
  show own_Gl _ _ _ _ (T55.setTop (mkF m 18 #[vR r0, vR b41, vI (3 : Int32)] [(.int (3 : Int32)), (.ref r0), (.int (3 : Int32)), (.ref b41)]))
  refine oc_aaload (v := (.ref x3)) X55 hx hZ e55 f_57 ⟨by decide, by decide⟩ rfl (dx hby dd18 14) ?_
  refine oc_static X55 hx hZ hown (wx hw 130) (wx hw 131) (wx hw 132) (wx hw 133) (by decide) (W := 2) (rmrnn l Z a0 hw [] x3 h55 n0 Z55 ) (by decide) (by decide) (argsL := [(.ref x3)]) (rest := [(.int (3 : Int32)), (.ref b41)]) (by rw [hml]; rfl) (lenOf pd_11 rfl) rfl (Nat.le_of_eq rfl) (dx hby dd18 15) rfl e55 (by decide) (by decide) (fun v59 T59 Lc59 hQ59 X59 => ?_)
  obtain ⟨N59q, rfl, hq59⟩ := hQ59
  have N59 := Fr.app N55 N59q
  show own_Gl _ _ _ _ (T59.setTop (mkF m 22 #[vR r0, vR b41, vI (3 : Int32)] [(.ref x3), (.int (3 : Int32)), (.ref b41)]))
  have f_61 : Exa Z h55 x3 "com/example/sixfold/sixfold/rows/IntList" := (P4.ext (own_ext K55))
  refine oc_aastore X59 hx hZ hq59 V55 ⟨by decide, by decide⟩ 3 rfl (Nat.le_of_ble_eq_true rfl) (Or.inr ⟨O41, _, _, rfl, rfl, (Ins.of_exa f_61 (wx hw 134))⟩) (dx hby dd18 16) (fun T60 h60 X60 e60 W60 V60 => ?_)
  have V60 : Arv Z h60 b41 k41 (.object "java/lang/Object") (4 : Int32) [(.ref x0), (.ref x1), (.ref x2), (.ref x3)] .null := V60
  have K60 : Keep h0 h60 [] := K55.wr W60 (Or.inr sz_b41)
  have N60 := Fr.snoc X60 N59 ge_b41
  have Z60 : n0 ≤ h60.size := Nat.le_trans Z55 (Keep.of_wr W60).1
  refine og (XS.iinc X60.here hx rfl (dx hby dd18 17) rfl (l' := #[vR r0, vR b41, vI (4 : Int32)]) rfl) ?_
  refine og (XS.goto X60.here hx rfl (pc0 := 26) (pc' := 8) rfl (dx hby dd18 18) (by decide) (by decide)) ?_
  refine si X60 hx (dx hby dd18 6) ?_
  refine sa X60 hx (dx hby dd18 7) ?_
  have f_62 : Arv Z h60 r0 kA (.object "com/example/sixfold/sixfold/rows/IntList") (4 : Int32) [(.ref x0), (.ref x1), (.ref x2), (.ref x3)] .null := (P0.ext (own_ext K60))
  refine oc_len X60 hx hZ e60 f_62 (dx hby dd18 8) ?_
  refine og (XS.icmpYes X60.here hx rfl (pc0 := 11) (pc' := 29) rfl (dx hby dd18 9) rfl (flt (by decide : ¬ ((4 : Int32) < (4 : Int32)))).2.1 (by decide) (by decide)) ?_
  show own_Gl _ _ _ _ (T60.setTop (mkF m 29 #[vR r0, vR b41, vI (4 : Int32)] []))
  obtain ⟨T63, h63, X63, e63, E63, A63, D63, -, st63⟩ := newO X60 hx hZ hown (wx hw 135) (wx hw 136) (wx hw 137) e60 (g := (mkF m 29 #[vR r0, vR b41, vI (4 : Int32)] [])) rfl (dx hby dd18 19) (by decide) (by decide)
  obtain ⟨b63, g63⟩ : ∃ z, z = h60.size := ⟨_, rfl⟩
  rw [← g63] at A63 D63 st63
  have ne_r0_b63 : r0 ≠ b63 := Nat.ne_of_lt (Nat.lt_of_lt_of_le f_62.lt (Nat.le_of_eq g63.symm))
  have f_64 : Exa Z h60 x0 "com/example/sixfold/sixfold/rows/IntList" := (P1.ext (own_ext K60))
  have ne_x0_b63 : x0 ≠ b63 := Nat.ne_of_lt (Nat.lt_of_lt_of_le f_64.lt (Nat.le_of_eq g63.symm))
  have f_65 : Exa Z h60 x1 "com/example/sixfold/sixfold/rows/IntList" := (P2.ext (own_ext K60))
  have ne_x1_b63 : x1 ≠ b63 := Nat.ne_of_lt (Nat.lt_of_lt_of_le f_65.lt (Nat.le_of_eq g63.symm))
  have f_66 : Exa Z h60 x2 "com/example/sixfold/sixfold/rows/IntList" := (P3.ext (own_ext K60))
  have ne_x2_b63 : x2 ≠ b63 := Nat.ne_of_lt (Nat.lt_of_lt_of_le f_66.lt (Nat.le_of_eq g63.symm))
  have f_67 : Exa Z h60 x3 "com/example/sixfold/sixfold/rows/IntList" := (P4.ext (own_ext K60))
  have ne_x3_b63 : x3 ≠ b63 := Nat.ne_of_lt (Nat.lt_of_lt_of_le f_67.lt (Nat.le_of_eq g63.symm))
  have ne_b41_b63 : b41 ≠ b63 := Nat.ne_of_lt (Nat.lt_of_lt_of_le V60.lt (Nat.le_of_eq g63.symm))
  have ge_b63 : n0 ≤ b63 := Nat.le_trans Z60 (Nat.le_of_eq g63.symm)
  have sz_b63 : h0.size ≤ b63 := Nat.le_trans K60.1 (Nat.le_of_eq g63.symm)
  refine og (st63 _) ?_
  have K63 : Keep h0 h63 [] := K60.ext E63
  have Z63 : n0 ≤ h63.size := Nat.le_trans Z60 E63.1
  have F63_157 : Fld Z h63 b63 "java/util/ImmutableCollections$ListN" "elements" "[Ljava/lang/Object;" .null := D63 (Or.inr (wx hw 157)) (ty := (.array (.object "java/lang/Object"))) (by decide)
  have F63_159 : Fld Z h63 b63 "java/util/ImmutableCollections$ListN" "allowNulls" "Z" (.int (0 : Int32)) := D63 (Or.inr (wx hw 159)) (ty := .boolean) (by decide)
  refine og (XS.dup X63.here hx rfl (dx hby dd18 20) rfl rfl) ?_
  refine sa X63 hx (dx hby dd18 21) ?_
  refine sc X63 hx (dx hby dd18 22) ?_
  obtain ⟨_, _, ⟨T68, L68, kk68, nn68⟩, -, X68, ⟨Lc68, hQ68, l68, y68, z68⟩, st68⟩ := X63.specialBackNest hx (y := (⟨"java/util/ImmutableCollections$ListN", "<init>", "([Ljava/lang/Object;Z)V"⟩ : MethodName)) rfl hown (own_mvM hZ (wx hw 138)) (mvT hZ (wx hw 139)) (mvT hZ (wx hw 141)) (by decide) (backOf (W := 1) (rmlni l Z a0 hw [] b63 b41 (0 : Int32) h63 n0 Z63 A63 F63_157 F63_159 ge_b63 rfl) hZ (wx hw 141) (wx hw 137) (by decide) (by decide)) (g := (mkF m 35 #[vR r0, vR b41, vI (4 : Int32)] [(.int (0 : Int32)), (.ref b41), (.ref b63), (.ref b63)])) rfl (by rw [hml]; rfl) (Steps.refl _) (a := b63) (argsL := [(.ref b41), (.int (0 : Int32))]) (rest := [(.ref b63)]) (lenOf pd_12 rfl) rfl (by show 2 * 0 + _ ≤ _; exact Nat.le_of_eq rfl) (dx hby dd18 23) (fun _ _ => ⟨rfl, e63, (by decide : 2 + 0 ≤ _), (by decide : 6 + 0 ≤ _)⟩)
  dsimp only [Pt.U, Pt.locs, Pt.cells, Pt.slots] at X68 l68 y68 z68 st68 hQ68
  subst l68 y68 z68
  obtain ⟨N68q, rfl, K68q⟩ := hQ68
  have N68 := Fr.app N60 N68q
  have K68 : Keep h0 T68.heap [] := K63.trans K68q (allS (Or.inr sz_b63) all0)
  have Z68 : n0 ≤ T68.heap.size := Nat.le_trans Z63 K68q.1
  refine own_go (fun t k => st68.trans k) ?_
  exact own_retW X68 hx hret hlk rfl (Or.inr (Or.inr (Or.inr (Or.inr ⟨rfl, rfl, rfl⟩)))) (dx hby dd18 24) rfl (by decide) (by decide) ⟨N68, b63, ge_b63, sz_b63, rfl, K68⟩
theorem dd17 : own_dec jdk_40_method_47_code [(0, .aload_n 0, 1), (1, .arraylength, 1), (2, .tableswitch 57 0 2 #[26, 32, 43], 26), (28, .getstatic 90, 3), (31, .astore_n 1, 1), (32, .aload_n 1, 1), (33, .areturn, 1), (34, .new 96, 3), (37, .dup, 1), (38, .aload_n 0, 1), (39, .iconst 0, 1), (40, .aaload, 1), (41, .invokespecial 98, 3), (44, .areturn, 1), (45, .new 96, 3), (48, .dup, 1), (49, .aload_n 0, 1), (50, .iconst 0, 1), (51, .aaload, 1), (52, .aload_n 0, 1), (53, .iconst 1, 1), (54, .aaload, 1), (55, .invokespecial 100, 3), (58, .areturn, 1), (59, .aload_n 0, 1), (60, .invokestatic 109, 3), (63, .areturn, 1)] := by unfold own_dec; decide +kernel
theorem pn_java_util_List : plainName "java/util/List" = true := by first | (simp [plainName, overriddenIn]; done) | decide +kernel
theorem ef_lof (m : MethodId) (r0 : Addr) : entryFrame m #[(.ref r0)] 2 = mkF m 0 #[vR r0, vU] [] := by first | (simp [entryFrame, mkF, argsToLocals, Value.category, vI, vR, vU]; done) | rfl
theorem pd_13 : parseMethodDescriptor "([Ljava/lang/Object;)Ljava/util/List;" = some ⟨[(.array (.object "java/lang/Object"))], some (.object "java/util/List")⟩ := by decide +kernel
def Qlof (Z : State) (r0 : Addr) (kA : ClassId) (x0 : Addr) (x1 : Addr) (x2 : Addr) (x3 : Addr) (h0 : Heap) (n0 : Nat) (v : Option Value) (h : Heap) (L : List Loc) : Prop := Fr n0 L ∧ ∃ (w : Addr), n0 ≤ w ∧ h0.size ≤ w ∧ v = some (.ref w) ∧ Keep h0 h []
set_option maxRecDepth 65536 in
set_option maxHeartbeats 40000000 in
theorem rmlof (l : Launch) (Z : State) (a0 : Array Value) (hw : ∀ d ∈ tables_1, d.before a0 Z = true) (ws : List Jvm.Cond) (r0 : Addr) (kA : ClassId) (x0 : Addr) (x1 : Addr) (x2 : Addr) (x3 : Addr) (h0 : Heap) (n0 : Nat) (Z0 : n0 ≤ h0.size) (P0 : Arv Z h0 r0 kA (.object "com/example/sixfold/sixfold/rows/IntList") (4 : Int32) [(.ref x0), (.ref x1), (.ref x2), (.ref x3)] .null) (P1 : Exa Z h0 x0 "com/example/sixfold/sixfold/rows/IntList") (P2 : Exa Z h0 x1 "com/example/sixfold/sixfold/rows/IntList") (P3 : Exa Z h0 x2 "com/example/sixfold/sixfold/rows/IntList") (P4 : Exa Z h0 x3 "com/example/sixfold/sixfold/rows/IntList") :
    own_Cw l Z (⟨"java/util/List", "of", "([Ljava/lang/Object;)Ljava/util/List;"⟩ : MethodName) jdk_40_method_47_code 2 (some (.object "java/util/List")) ws (own_rr 6 2 6 77) #[(.ref r0)] h0 (Qlof Z r0 kA x0 x1 x2 x3 h0 n0) := by
  refine own_body (plainFor_of_name pn_java_util_List) ?_
  intro p e s m below meth c s₁ hx hby hml hZ hown hnm hret hlk X0 e0
  have N0 := Fr.nil n0
  refine own_go (fun t k => castTop (ef_lof m r0) k) ?_
  refine sa X0 hx (dx hby dd17 0) ?_
  refine oc_len X0 hx hZ e0 P0 (dx hby dd17 1) ?_
  refine og (XS.tswOut X0.here hx rfl (pc0 := 2) (pc' := 59) rfl (dx hby dd17 2) rfl (by decide) (by decide) (by decide)) ?_
  refine sa X0 hx (dx hby dd17 24) ?_
  refine oc_static X0 hx hZ hown (wx hw 125) (wx hw 126) (wx hw 127) (wx hw 128) (by decide) (W := 0) (rmlfa l Z a0 hw [] r0 kA x0 x1 x2 x3 h0 n0 Z0 P0 P1 P2 P3 P4) (by decide) (by decide) (argsL := [(.ref r0)]) (rest := []) (by rw [hml]; rfl) (lenOf pd_13 rfl) rfl (Nat.le_of_eq rfl) (dx hby dd17 25) rfl e0 (by decide) (by decide) (fun v41 T41 Lc41 hQ41 X41 => ?_)
  obtain ⟨N41q, w41_w, gn_w41_w, sz0_w41_w, rfl, K41q⟩ := hQ41
  have N41 := Fr.app N0 N41q
  have ne_r0_w41_w : r0 ≠ w41_w := Nat.ne_of_lt (Nat.lt_of_lt_of_le P0.lt sz0_w41_w)
  have ne_x0_w41_w : x0 ≠ w41_w := Nat.ne_of_lt (Nat.lt_of_lt_of_le P1.lt sz0_w41_w)
  have ne_x1_w41_w : x1 ≠ w41_w := Nat.ne_of_lt (Nat.lt_of_lt_of_le P2.lt sz0_w41_w)
  have ne_x2_w41_w : x2 ≠ w41_w := Nat.ne_of_lt (Nat.lt_of_lt_of_le P3.lt sz0_w41_w)
  have ne_x3_w41_w : x3 ≠ w41_w := Nat.ne_of_lt (Nat.lt_of_lt_of_le P4.lt sz0_w41_w)
  have sz_w41_w : h0.size ≤ w41_w := Nat.le_trans (Keep.refl h0 []).1 sz0_w41_w
  have K41 : Keep h0 T41.heap [] := (Keep.refl h0 []).trans K41q all0
  have Z41 : n0 ≤ T41.heap.size := Nat.le_trans Z0 K41q.1
  exact own_retW X41 hx hret hlk rfl (Or.inr (Or.inr (Or.inr (Or.inr ⟨rfl, rfl, rfl⟩)))) (dx hby dd17 26) rfl (by decide) (by decide) ⟨N41, w41_w, gn_w41_w, sz_w41_w, rfl, K41⟩
/-- the objects of a table, elder ones first: 0 Table, 1 Rows, 2 cards, 3 heads, 4 lasts, 5 its words, 6 rowEnding, 7 9 11 13 the rows, 8 10 12 14 their values, 15 played, 16 its words, 17 turn, 18 its words, 19 seatRevealing, 20 totals, 21 its values, 22 order, 23 revealed, 24 its values -/
def own_Inc (A : Nat → Addr) (n : Nat) : Prop := ∀ i j, i < j → j < n → A i < A j
theorem own_ne {A : Nat → Addr} {n i j : Nat} (hA : own_Inc A n) (hi : i < n) (hj : j < n) (h : i ≠ j) : A i ≠ A j := by
  rcases Nat.lt_or_gt_of_ne h with q | q
  · exact Nat.ne_of_lt (hA i j q hj)
  · exact (Nat.ne_of_lt (hA j i q hi)).symm
theorem own_nin {A : Nat → Addr} {n : Nat} (hA : own_Inc A n) {i : Nat} (hi : i < n) {l : List Nat} (hl : ∀ j ∈ l, j < n ∧ j ≠ i) : A i ∉ l.map A := by
  intro q
  obtain ⟨j, hj, e⟩ := List.mem_map.mp q
  exact own_ne hA (hl j hj).1 hi (hl j hj).2 e
def own_ints (vs : List Value) : Prop := ∀ j, ∃ x, vs.getD j (.int (0 : Int32)) = .int x
def own_rows (vs : List Value) : Prop := ∀ j, ∃ x : Int32, vs.getD j (.int (0 : Int32)) = .int x ∧ 0 ≤ x.toInt ∧ x.toInt ≤ 3
theorem own_getD_set (vs : List Value) (i j : Nat) (v d : Value) : (vs.set i v).getD j d = vs.getD j d ∨ (vs.set i v).getD j d = v := by
  simp only [List.getD_eq_getElem?_getD, List.getElem?_set]
  by_cases h : i = j
  · subst h
    by_cases q : i < vs.length
    · right; simp [q]
    · left; simp [q, List.getElem?_eq_none (Nat.le_of_not_lt q)]
  · left; simp [h]
theorem own_ints_set {vs : List Value} (H : own_ints vs) (i : Nat) (x : Int32) : own_ints (vs.set i (.int x)) := fun j => by
  rcases own_getD_set vs i j (.int x) (.int (0 : Int32)) with e | e
  · rw [e]; exact H j
  · exact ⟨x, e⟩
theorem own_rows_set {vs : List Value} (H : own_rows vs) (i : Nat) (x : Int32) (h : 0 ≤ x.toInt ∧ x.toInt ≤ 3) : own_rows (vs.set i (.int x)) := fun j => by
  rcases own_getD_set vs i j (.int x) (.int (0 : Int32)) with e | e
  · rw [e]; exact H j
  · exact ⟨x, e, h⟩
def own_N5 (lo b : Int) (n : Int32) (vs : List Value) : Prop := lo ≤ n.toInt ∧ n.toInt ≤ b ∧ vs.length = 5 ∧ own_ints vs
def own_CSB (Z : State) (h : Heap) (cs wa : Addr) (P : Int64 → Int64 → Prop) : Prop := Exa Z h cs "com/example/sixfold/sixfold/rows/CardSet" ∧ Fld Z h cs "com/example/sixfold/sixfold/rows/CardSet" "words" "[J" (.ref wa) ∧ ∃ k w0 w1, Arv Z h wa k .long (2 : Int32) [(.long w0), (.long w1)] (.long (0 : Int64)) ∧ P w0 w1
def own_ILB (Z : State) (h : Heap) (il va : Addr) (cp : Int32) (N : Int32 → List Value → Prop) : Prop := Exa Z h il "com/example/sixfold/sixfold/rows/IntList" ∧ Fld Z h il "com/example/sixfold/sixfold/rows/IntList" "values" "[I" (.ref va) ∧ ∃ k n vs, Fld Z h il "com/example/sixfold/sixfold/rows/IntList" "size" "I" (.int n) ∧ Arv Z h va k .int cp vs (.int (0 : Int32)) ∧ N n vs
def own_RWB (Z : State) (h : Heap) (A : Nat → Addr) (lo b : Int) (P : Int64 → Int64 → Prop) : Prop := Exa Z h (A 1) "com/example/sixfold/sixfold/rows/Rows" ∧ Fld Z h (A 1) "com/example/sixfold/sixfold/rows/Rows" "cards" "[Lcom/example/sixfold/sixfold/rows/IntList;" (.ref (A 2)) ∧ Fld Z h (A 1) "com/example/sixfold/sixfold/rows/Rows" "heads" "[I" (.ref (A 3)) ∧ Fld Z h (A 1) "com/example/sixfold/sixfold/rows/Rows" "lasts" "Lcom/example/sixfold/sixfold/rows/CardSet;" (.ref (A 4)) ∧ Fld Z h (A 1) "com/example/sixfold/sixfold/rows/Rows" "rowEnding" "[B" (.ref (A 6)) ∧ (∃ k, Arv Z h (A 2) k (.object "com/example/sixfold/sixfold/rows/IntList") (4 : Int32) [(.ref (A 7)), (.ref (A 9)), (.ref (A 11)), (.ref (A 13))] .null) ∧ (∃ k vs, Arv Z h (A 3) k .int (4 : Int32) vs (.int (0 : Int32)) ∧ vs.length = 4 ∧ own_ints vs) ∧ own_CSB Z h (A 4) (A 5) P ∧ (∃ k vs, Arv Z h (A 6) k .byte (105 : Int32) vs (.int (0 : Int32)) ∧ vs.length = 105 ∧ own_rows vs) ∧ own_ILB Z h (A 7) (A 8) (5 : Int32) (own_N5 lo b) ∧ own_ILB Z h (A 9) (A 10) (5 : Int32) (own_N5 lo b) ∧ own_ILB Z h (A 11) (A 12) (5 : Int32) (own_N5 lo b) ∧ own_ILB Z h (A 13) (A 14) (5 : Int32) (own_N5 lo b)
theorem own_bidx {c : Int32} (h : 1 ≤ c.toInt ∧ c.toInt ≤ 104) : ¬ c < 0 ∧ c < (105 : Int32) := by
  have z0 : (0 : Int32).toInt = 0 := rfl
  have z1 : (105 : Int32).toInt = 105 := rfl
  simp only [Int32.lt_iff_toInt_lt]; omega
theorem own_blen {c : Int32} {vs : List Value} (h : 1 ≤ c.toInt ∧ c.toInt ≤ 104) (hl : vs.length = 105) : c.toNatClampNeg < vs.length := by
  rw [hl]; simp only [Int32.toNatClampNeg]; omega
theorem dd46 : own_dec prog_41_method_2_code [(0, .getstatic 7, 3), (3, .iload_n 0, 1), (4, .invokestatic 13, 3), (7, .baload, 1), (8, .ireturn, 1)] := by unfold own_dec; decide +kernel
theorem ef_heads (m : MethodId) (p0 : Int32) : entryFrame m #[(.int p0)] 1 = mkF m 0 #[vI p0] [] := by first | (simp [entryFrame, mkF, argsToLocals, Value.category, vI, vR, vU]; done) | rfl
def Qheads (Z : State) (p0 : Int32) (hd : Addr) (kH : ClassId) (hv : List Value) (x : Int32) (h0 : Heap) (n0 : Nat) (v : Option Value) (h : Heap) (L : List Loc) : Prop := Fr n0 L ∧ v = some (.int x) ∧ h = h0
set_option maxRecDepth 65536 in
set_option maxHeartbeats 40000000 in
theorem rmheads (l : Launch) (Z : State) (a0 : Array Value) (hw : ∀ d ∈ tables_1, d.before a0 Z = true) (ws : List Jvm.Cond) (p0 : Int32) (hd : Addr) (kH : ClassId) (hv : List Value) (x : Int32) (h0 : Heap) (n0 : Nat) (Z0 : n0 ≤ h0.size) (P0 : Sta Z h0 "com/example/sixfold/sixfold/rows/Card" "HEADS" "[B" (.ref hd)) (P1 : Arv Z h0 hd kH .byte (105 : Int32) hv (.int (0 : Int32))) (hc : 1 ≤ p0.toInt ∧ p0.toInt ≤ 104) (hxv : hv.getD p0.toNatClampNeg (.int (0 : Int32)) = .int x) :
    own_Cw l Z (⟨"com/example/sixfold/sixfold/rows/Card", "heads", "(I)I"⟩ : MethodName) prog_41_method_2_code 1 (some .int) ws (own_rr 2 0 0 25) #[(.int p0)] h0 (Qheads Z p0 hd kH hv x h0 n0) := by
  refine own_body (plainFor_of_name pn_com_example_sixfold_sixfold_rows_Card) ?_
  intro p e s m below meth c s₁ hx hby hml hZ hown hnm hret hlk X0 e0
  have N0 := Fr.nil n0
  refine own_go (fun t k => castTop (ef_heads m p0) k) ?_
  show own_Gl _ _ _ _ (s₁.setTop (mkF m 0 #[vI p0] []))
  obtain ⟨T41, X41, e41, st41⟩ := getS2 X0 hx hZ hown (host := "") (Or.inl (wx hw 339)) Via.refl e0 P0 (g := (mkF m 0 #[vI p0] [])) rfl (dx hby dd46 0)
  refine og (st41 _) ?_
  refine si X41 hx (dx hby dd46 1) ?_
  refine oc_static X41 hx hZ hown (wx hw 341) (wx hw 298) (wx hw 284) (wx hw 299) (by decide) (W := 1) (rmchk l Z a0 hw [] p0 h0 n0 Z0 hc) (by decide) (by decide) (argsL := [(.int p0)]) (rest := [(.ref hd)]) (by rw [hml]; rfl) (lenOf pd_2 rfl) rfl (Nat.le_of_eq rfl) (dx hby dd46 2) rfl e41 (by decide) (by decide) (fun v42 T42 Lc42 hQ42 X42 => ?_)
  obtain ⟨N42q, rfl, hq42⟩ := hQ42
  have N42 := Fr.app N0 N42q
  show own_Gl _ _ _ _ (T42.setTop (mkF m 7 #[vI p0] [(.int p0), (.ref hd)]))
  refine oc_baload X42 hx hZ hq42 P1 (own_bidx hc) hxv (dx hby dd46 3) ?_
  exact own_retW X42 hx hret hlk rfl (Or.inl ⟨rfl, Or.inl rfl, _, rfl⟩) (dx hby dd46 4) hq42 (by decide) (by decide) ⟨N42, rfl, rfl⟩
theorem dd47 : own_dec prog_55_method_16_code [(0, .aload_n 0, 1), (1, .getfield 24, 3), (4, .iload_n 2, 1), (5, .invokevirtual 121, 3), (8, .pop, 1), (9, .aload_n 0, 1), (10, .getfield 30, 3), (13, .iload_n 2, 1), (14, .iload_n 1, 1), (15, .i2b, 1), (16, .bastore, 1), (17, .return_, 1)] := by unfold own_dec; decide +kernel
theorem pn_com_example_sixfold_sixfold_rows_Rows : plainName "com/example/sixfold/sixfold/rows/Rows" = true := by first | (simp [plainName, overriddenIn]; done) | decide +kernel
theorem ef_ends (m : MethodId) (A : Nat → Addr) (p0 : Int32) (p1 : Int32) : entryFrame m #[(.ref (A 1)), (.int p0), (.int p1)] 3 = mkF m 0 #[vR (A 1), vI p0, vI p1] [] := by first | (simp [entryFrame, mkF, argsToLocals, Value.category, vI, vR, vU]; done) | rfl
def Qends (Z : State) (p0 : Int32) (p1 : Int32) (A : Nat → Addr) (k5 : ClassId) (w0 : Int64) (w1 : Int64) (k6 : ClassId) (re : List Value) (h0 : Heap) (n0 : Nat) (v : Option Value) (h : Heap) (L : List Loc) : Prop := Fr n0 L ∧ v = none ∧ Keep h0 h [(A 5), (A 6)] ∧ Arv Z h (A 5) k5 .long (2 : Int32) [(.long (own_pw0 w0 w1 p1)), (.long (own_pw1 w0 w1 p1))] (.long (0 : Int64)) ∧ Arv Z h (A 6) k6 .byte (105 : Int32) (re.set p1.toNatClampNeg (.int (nar .byte (p0.toInt8.toInt32)))) (.int (0 : Int32))
set_option maxRecDepth 65536 in
set_option maxHeartbeats 40000000 in
theorem rmends (l : Launch) (Z : State) (a0 : Array Value) (hw : ∀ d ∈ tables_1, d.before a0 Z = true) (ws : List Jvm.Cond) (p0 : Int32) (p1 : Int32) (A : Nat → Addr) (k5 : ClassId) (w0 : Int64) (w1 : Int64) (k6 : ClassId) (re : List Value) (h0 : Heap) (n0 : Nat) (Z0 : n0 ≤ h0.size) (P0 : Fld Z h0 (A 1) "com/example/sixfold/sixfold/rows/Rows" "lasts" "Lcom/example/sixfold/sixfold/rows/CardSet;" (.ref (A 4))) (P1 : Fld Z h0 (A 1) "com/example/sixfold/sixfold/rows/Rows" "rowEnding" "[B" (.ref (A 6))) (P2 : Exa Z h0 (A 4) "com/example/sixfold/sixfold/rows/CardSet") (P3 : Fld Z h0 (A 4) "com/example/sixfold/sixfold/rows/CardSet" "words" "[J" (.ref (A 5))) (P4 : Arv Z h0 (A 5) k5 .long (2 : Int32) [(.long w0), (.long w1)] (.long (0 : Int64))) (P5 : Arv Z h0 (A 6) k6 .byte (105 : Int32) re (.int (0 : Int32))) (hA : own_Inc A 25) (hge : ∀ i, i < 25 → n0 ≤ A i) (hc : 1 ≤ p1.toInt ∧ p1.toInt ≤ 104) (rel : re.length = 105) :
    own_Cw l Z (⟨"com/example/sixfold/sixfold/rows/Rows", "ends", "(II)V"⟩ : MethodName) prog_55_method_16_code 3 none ws (own_rr 3 0 0 39) #[(.ref (A 1)), (.int p0), (.int p1)] h0 (Qends Z p0 p1 A k5 w0 w1 k6 re h0 n0) := by
  refine own_body (plainFor_of_name pn_com_example_sixfold_sixfold_rows_Rows) ?_
  intro p e s m below meth c s₁ hx hby hml hZ hown hnm hret hlk X0 e0
  have N0 := Fr.nil n0
  refine own_go (fun t k => castTop (ef_ends m A p0 p1) k) ?_
  have na : ∀ i, (i < 25 ∧ ∀ j ∈ [5, 6], j < 25 ∧ j ≠ i) → A i ∉ [(A 5), (A 6)] := fun i h => own_nin hA h.1 h.2
  have ng : ∀ w ∈ [(A 5), (A 6)], n0 ≤ w := (allS (hge 5 (by decide)) (allS (hge 6 (by decide)) all0))
  refine sa X0 hx (dx hby dd47 0) ?_
  refine oc_getF X0 hx hZ hown (host := "") (Or.inl (wx hw 105)) Via.refl e0 P0 (dx hby dd47 1) (fun T41 X41 e41 => ?_)
  refine si X41 hx (dx hby dd47 2) ?_
  refine oc_virtual X41 hx hZ hown (wx hw 346) (wx hw 293) (wx hw 295) (wx hw 294) (wx hw 95) (wx hw 296) (by decide) (W := 0) (rmput l Z a0 hw [] (A 4) p1 (A 5) k5 w0 w1 h0 n0 Z0 P3 P4 (own_ne hA (i := 4) (j := 5) (by decide) (by decide) (by decide)) (hge 5 (by decide)) hc) (by decide) (by decide) P2 (argsL := [(.int p1)]) (rest := []) (by rw [hml]; rfl) (lenOf pd_0 rfl) rfl (Nat.le_of_eq rfl) (dx hby dd47 3) rfl e41 (by decide) (by decide) (fun v42 T42 Lc42 hQ42 X42 => ?_)
  obtain ⟨N42q, rfl, K42q, po42_0⟩ := hQ42
  have N42 := Fr.app N0 N42q
  have K42 : Keep h0 T42.heap [(A 5), (A 6)] := (Keep.refl h0 [(A 5), (A 6)]).trans K42q (allS (Or.inl (List.mem_of_getElem? (i := 0) rfl)) all0)
  have Z42 : n0 ≤ T42.heap.size := Nat.le_trans Z0 K42q.1
  refine og (XS.pop X42.here hx rfl (dx hby dd47 4) rfl rfl) ?_
  refine sa X42 hx (dx hby dd47 5) ?_
  have f_44 := P1.keep K42 (na 1 (by decide))
  refine oc_getF X42 hx hZ hown (host := "") (Or.inl (wx hw 108)) Via.refl rfl f_44 (dx hby dd47 6) (fun T43 X43 e43 => ?_)
  refine si X43 hx (dx hby dd47 7) ?_
  refine si X43 hx (dx hby dd47 8) ?_
  refine og (XS.i2b X43.here hx rfl (dx hby dd47 9) rfl) ?_
  show own_Gl _ _ _ _ (T43.setTop (mkF m 16 #[vR (A 1), vI p0, vI p1] [(.int (p0.toInt8.toInt32)), (.int p1), (.ref (A 6))]))
  have f_45 := P5.keep K42q (own_nin hA (i := 6) (l := [5]) (by decide) (by decide))
  refine oc_bastore X43 hx hZ e43 f_45 (own_bidx hc) p1.toNatClampNeg rfl (own_blen hc rel) (dx hby dd47 10) (fun T46 h46 X46 e46 W46 V46 => ?_)
  have K46 : Keep h0 h46 [(A 5), (A 6)] := K42.wr W46 (Or.inl (List.mem_of_getElem? (i := 1) rfl))
  have N46 := Fr.snoc X46 N42 (hge 6 (by decide))
  have Z46 : n0 ≤ h46.size := Nat.le_trans Z42 (Keep.of_wr W46).1
  have f_47 := po42_0.other W46 (own_ne hA (i := 5) (j := 6) (by decide) (by decide) (by decide))
  exact own_retV X46 hx hret hlk (dx hby dd47 11) e46 (by decide) (by decide) ⟨N46, rfl, K46, f_47, V46⟩
theorem own_cardat (A : Nat → Addr) {r i : Nat} (hr : r < 4) (hi : i = 7 + 2 * r) {n : Nat} (hn : n = r) : ([(.ref (A 7)), (.ref (A 9)), (.ref (A 11)), (.ref (A 13))] : List Value).getD n .null = .ref (A i) := by
  subst hi hn
  match n, hr with
  | 0, _ => rfl
  | 1, _ => rfl
  | 2, _ => rfl
  | 3, _ => rfl
theorem own_row {p : Int32} {r : Nat} (h : p = Int32.ofInt (r : Int)) (hr : r < 4) : (¬ p < 0 ∧ p < (4 : Int32)) ∧ p.toNatClampNeg = r ∧ 0 ≤ (nar .byte (p.toInt8.toInt32)).toInt ∧ (nar .byte (p.toInt8.toInt32)).toInt ≤ 3 := by
  subst h
  match r, hr with
  | 0, _ => decide
  | 1, _ => decide
  | 2, _ => decide
  | 3, _ => decide
theorem dd45 : own_dec prog_55_method_15_code [(0, .aload_n 0, 1), (1, .getfield 11, 3), (4, .iload_n 1, 1), (5, .aaload, 1), (6, .invokevirtual 64, 3), (9, .aload_n 0, 1), (10, .getfield 11, 3), (13, .iload_n 1, 1), (14, .aaload, 1), (15, .iload_n 2, 1), (16, .invokevirtual 79, 3), (19, .aload_n 0, 1), (20, .getfield 17, 3), (23, .iload_n 1, 1), (24, .iload_n 2, 1), (25, .invokestatic 82, 3), (28, .iastore, 1), (29, .aload_n 0, 1), (30, .iload_n 1, 1), (31, .iload_n 2, 1), (32, .invokevirtual 88, 3), (35, .return_, 1)] := by unfold own_dec; decide +kernel
theorem ef_rst (m : MethodId) (A : Nat → Addr) (p0 : Int32) (p1 : Int32) : entryFrame m #[(.ref (A 1)), (.int p0), (.int p1)] 3 = mkF m 0 #[vR (A 1), vI p0, vI p1] [] := by first | (simp [entryFrame, mkF, argsToLocals, Value.category, vI, vR, vU]; done) | rfl
theorem pd_14 : parseMethodDescriptor "(I)V" = some ⟨[.int], none⟩ := by decide +kernel
theorem pd_15 : parseMethodDescriptor "(II)V" = some ⟨[.int, .int], none⟩ := by decide +kernel
def Qrst (Z : State) (p0 : Int32) (p1 : Int32) (A : Nat → Addr) (k5 : ClassId) (w0 : Int64) (w1 : Int64) (k6 : ClassId) (re : List Value) (k2 : ClassId) (k3 : ClassId) (hs : List Value) (k8 : ClassId) (n7 : Int32) (vs7 : List Value) (hd : Addr) (kH : ClassId) (hv : List Value) (ri : Nat) (i7 : Nat) (i8 : Nat) (h0 : Heap) (n0 : Nat) (v : Option Value) (h : Heap) (L : List Loc) : Prop := Fr n0 L ∧ ∃ (y : Int32), v = none ∧ Keep h0 h [(A 3), (A 5), (A 6), (A i7), (A i8)] ∧ Arv Z h (A 5) k5 .long (2 : Int32) [(.long (own_pw0 w0 w1 p1)), (.long (own_pw1 w0 w1 p1))] (.long (0 : Int64)) ∧ Arv Z h (A 6) k6 .byte (105 : Int32) (re.set p1.toNatClampNeg (.int (nar .byte (p0.toInt8.toInt32)))) (.int (0 : Int32)) ∧ Arv Z h (A 3) k3 .int (4 : Int32) (hs.set ri (.int y)) (.int (0 : Int32)) ∧ Fld Z h (A i7) "com/example/sixfold/sixfold/rows/IntList" "values" "[I" (.ref (A i8)) ∧ Fld Z h (A i7) "com/example/sixfold/sixfold/rows/IntList" "size" "I" (.int (1 : Int32)) ∧ Arv Z h (A i8) k8 .int (5 : Int32) (vs7.set 0 (.int p1)) (.int (0 : Int32))
set_option maxRecDepth 65536 in
set_option maxHeartbeats 40000000 in
theorem rmrst (l : Launch) (Z : State) (a0 : Array Value) (hw : ∀ d ∈ tables_1, d.before a0 Z = true) (ws : List Jvm.Cond) (p0 : Int32) (p1 : Int32) (A : Nat → Addr) (k5 : ClassId) (w0 : Int64) (w1 : Int64) (k6 : ClassId) (re : List Value) (k2 : ClassId) (k3 : ClassId) (hs : List Value) (k8 : ClassId) (n7 : Int32) (vs7 : List Value) (hd : Addr) (kH : ClassId) (hv : List Value) (ri : Nat) (i7 : Nat) (i8 : Nat) (h0 : Heap) (n0 : Nat) (Z0 : n0 ≤ h0.size) (P0 : Exa Z h0 (A 1) "com/example/sixfold/sixfold/rows/Rows") (P1 : Fld Z h0 (A 1) "com/example/sixfold/sixfold/rows/Rows" "lasts" "Lcom/example/sixfold/sixfold/rows/CardSet;" (.ref (A 4))) (P2 : Fld Z h0 (A 1) "com/example/sixfold/sixfold/rows/Rows" "rowEnding" "[B" (.ref (A 6))) (P3 : Fld Z h0 (A 1) "com/example/sixfold/sixfold/rows/Rows" "cards" "[Lcom/example/sixfold/sixfold/rows/IntList;" (.ref (A 2))) (P4 : Fld Z h0 (A 1) "com/example/sixfold/sixfold/rows/Rows" "heads" "[I" (.ref (A 3))) (P5 : Exa Z h0 (A 4) "com/example/sixfold/sixfold/rows/CardSet") (P6 : Fld Z h0 (A 4) "com/example/sixfold/sixfold/rows/CardSet" "words" "[J" (.ref (A 5))) (P7 : Arv Z h0 (A 5) k5 .long (2 : Int32) [(.long w0), (.long w1)] (.long (0 : Int64))) (P8 : Arv Z h0 (A 6) k6 .byte (105 : Int32) re (.int (0 : Int32))) (P9 : Arv Z h0 (A 2) k2 (.object "com/example/sixfold/sixfold/rows/IntList") (4 : Int32) [(.ref (A 7)), (.ref (A 9)), (.ref (A 11)), (.ref (A 13))] .null) (P10 : Arv Z h0 (A 3) k3 .int (4 : Int32) hs (.int (0 : Int32))) (P11 : Old Z n0 h0) (P12 : Exa Z h0 (A i7) "com/example/sixfold/sixfold/rows/IntList") (P13 : Fld Z h0 (A i7) "com/example/sixfold/sixfold/rows/IntList" "values" "[I" (.ref (A i8))) (P14 : Fld Z h0 (A i7) "com/example/sixfold/sixfold/rows/IntList" "size" "I" (.int n7)) (P15 : Arv Z h0 (A i8) k8 .int (5 : Int32) vs7 (.int (0 : Int32))) (hA : own_Inc A 25) (hge : ∀ i, i < 25 → n0 ≤ A i) (hc : 1 ≤ p1.toInt ∧ p1.toInt ≤ 104) (rel : re.length = 105) (hsl : hs.length = 4) (vl : vs7.length = 5) (hri : ri < 4) (hi7 : i7 = 7 + 2 * ri) (hi8 : i8 = 8 + 2 * ri) (hpr : p0 = Int32.ofInt (ri : Int)) (hS : Sta Z Z.heap "com/example/sixfold/sixfold/rows/Card" "HEADS" "[B" (.ref hd)) (hV : Arv Z Z.heap hd kH .byte (105 : Int32) hv (.int (0 : Int32))) (hints : own_ints hv) :
    own_Cw l Z (⟨"com/example/sixfold/sixfold/rows/Rows", "restart", "(II)V"⟩ : MethodName) prog_55_method_15_code 3 none ws (own_rr 4 0 0 53) #[(.ref (A 1)), (.int p0), (.int p1)] h0 (Qrst Z p0 p1 A k5 w0 w1 k6 re k2 k3 hs k8 n7 vs7 hd kH hv ri i7 i8 h0 n0) := by
  refine own_body (plainFor_of_name pn_com_example_sixfold_sixfold_rows_Rows) ?_
  intro p e s m below meth c s₁ hx hby hml hZ hown hnm hret hlk X0 e0
  have N0 := Fr.nil n0
  refine own_go (fun t k => castTop (ef_rst m A p0 p1) k) ?_
  refine sa X0 hx (dx hby dd45 0) ?_
  refine oc_getF X0 hx hZ hown (host := "") (Or.inl (wx hw 89)) Via.refl e0 P3 (dx hby dd45 1) (fun T41 X41 e41 => ?_)
  refine si X41 hx (dx hby dd45 2) ?_
  show own_Gl _ _ _ _ (T41.setTop (mkF m 5 #[vR (A 1), vI p0, vI p1] [(.int p0), (.ref (A 2))]))
  refine oc_aaload (v := (.ref (A i7))) X41 hx hZ e41 P9 (own_row hpr hri).1 (own_cardat A hri hi7 (own_row hpr hri).2.1) (dx hby dd45 3) ?_
  refine oc_virtual X41 hx hZ hown (wx hw 334) (wx hw 216) (wx hw 218) (wx hw 217) (wx hw 111) (wx hw 219) (by decide) (W := 0) (rmile l Z a0 hw [] (A i7) (A i8) n7 h0 n0 Z0 P12 P13 P14 (hge i7 (by omega))) (by decide) (by decide) P12 (argsL := []) (rest := []) (by rw [hml]; rfl) (lenOf pd_4 rfl) rfl (Nat.le_of_eq rfl) (dx hby dd45 4) rfl e41 (by decide) (by decide) (fun v43 T43 Lc43 hQ43 X43 => ?_)
  obtain ⟨N43q, rfl, K43q, po43_0, po43_1⟩ := hQ43
  have N43 := Fr.app N0 N43q
  have K43 : Keep h0 T43.heap [(A 3), (A 5), (A 6), (A i7), (A i8)] := (Keep.refl h0 [(A 3), (A 5), (A 6), (A i7), (A i8)]).trans K43q (allS (Or.inl (List.mem_of_getElem? (i := 3) rfl)) all0)
  have Z43 : n0 ≤ T43.heap.size := Nat.le_trans Z0 K43q.1
  refine sa X43 hx (dx hby dd45 5) ?_
  have f_45 := P3.keep K43q (ninS (own_ne hA (i := 1) (j := i7) (by omega) (by omega) (by omega)) nin0)
  refine oc_getF X43 hx hZ hown (host := "") (Or.inl (wx hw 89)) Via.refl rfl f_45 (dx hby dd45 6) (fun T44 X44 e44 => ?_)
  refine si X44 hx (dx hby dd45 7) ?_
  show own_Gl _ _ _ _ (T44.setTop (mkF m 14 #[vR (A 1), vI p0, vI p1] [(.int p0), (.ref (A 2))]))
  have f_46 := P9.keep K43q (ninS (own_ne hA (i := 2) (j := i7) (by omega) (by omega) (by omega)) nin0)
  refine oc_aaload (v := (.ref (A i7))) X44 hx hZ e44 f_46 (own_row hpr hri).1 (own_cardat A hri hi7 (own_row hpr hri).2.1) (dx hby dd45 8) ?_
  refine si X44 hx (dx hby dd45 9) ?_
  have f_48 := P12.keep K43q
  have f_49 := P15.keep K43q (ninS (own_ne hA (i := i8) (j := i7) (by omega) (by omega) (by omega)) nin0)
  refine oc_virtual X44 hx hZ hown (wx hw 335) (wx hw 179) (wx hw 181) (wx hw 180) (wx hw 111) (wx hw 182) (by decide) (W := 0) (rmapp l Z a0 hw [] (A i7) p1 (A i8) k8 (5 : Int32) (0 : Int32) vs7 T43.heap n0 Z43 f_48 po43_0 po43_1 f_49 (own_ne hA (i := i7) (j := i8) (by omega) (by omega) (by omega)) (hge i7 (by omega)) (hge i8 (by omega)) ⟨by decide, by decide⟩ (by rw [vl]; decide)) (by decide) (by decide) f_48 (argsL := [(.int p1)]) (rest := []) (by rw [hml]; rfl) (lenOf pd_14 rfl) rfl (Nat.le_of_eq rfl) (dx hby dd45 10) rfl e44 (by decide) (by decide) (fun v50 T50 Lc50 hQ50 X50 => ?_)
  obtain ⟨N50q, rfl, K50q, po50_0, po50_1, po50_2⟩ := hQ50
  have N50 := Fr.app N43 N50q
  have K50 : Keep h0 T50.heap [(A 3), (A 5), (A 6), (A i7), (A i8)] := K43.trans K50q (allS (Or.inl (List.mem_of_getElem? (i := 3) rfl)) (allS (Or.inl (List.mem_of_getElem? (i := 4) rfl)) all0))
  have Z50 : n0 ≤ T50.heap.size := Nat.le_trans Z43 K50q.1
  have po50_1' : Fld Z T50.heap (A i7) "com/example/sixfold/sixfold/rows/IntList" "size" "I" (.int (1 : Int32)) := po50_1
  refine sa X50 hx (dx hby dd45 11) ?_
  have f_52 := (P4.keep K43q (ninS (own_ne hA (i := 1) (j := i7) (by omega) (by omega) (by omega)) nin0)).keep K50q (ninS (own_ne hA (i := 1) (j := i7) (by omega) (by omega) (by omega)) (ninS (own_ne hA (i := 1) (j := i8) (by omega) (by omega) (by omega)) nin0))
  refine oc_getF X50 hx hZ hown (host := "") (Or.inl (wx hw 91)) Via.refl rfl f_52 (dx hby dd45 12) (fun T51 X51 e51 => ?_)
  refine si X51 hx (dx hby dd45 13) ?_
  refine si X51 hx (dx hby dd45 14) ?_
  obtain ⟨xh53, exh53⟩ := hints p1.toNatClampNeg
  have f_54 : Old Z n0 T50.heap := ((P11.keep K43q (allS (hge i7 (by omega)) all0)).keep K50q (allS (hge i7 (by omega)) (allS (hge i8 (by omega)) all0)))
  have f_55 : Sta Z T50.heap "com/example/sixfold/sixfold/rows/Card" "HEADS" "[B" (.ref hd) := hS.ext f_54.2
  have f_56 : Arv Z T50.heap hd kH .byte (105 : Int32) hv (.int (0 : Int32)) := hV.ext f_54.2
  refine oc_static X51 hx hZ hown (wx hw 336) (wx hw 337) (wx hw 284) (wx hw 338) (by decide) (W := 2) (rmheads l Z a0 hw [] p1 hd kH hv xh53 T50.heap n0 Z50 f_55 f_56 hc exh53) (by decide) (by decide) (argsL := [(.int p1)]) (rest := [(.int p0), (.ref (A 3))]) (by rw [hml]; rfl) (lenOf pd_2 rfl) rfl (Nat.le_of_eq rfl) (dx hby dd45 15) rfl e51 (by decide) (by decide) (fun v57 T57 Lc57 hQ57 X57 => ?_)
  obtain ⟨N57q, rfl, hq57⟩ := hQ57
  have N57 := Fr.app N50 N57q
  show own_Gl _ _ _ _ (T57.setTop (mkF m 28 #[vR (A 1), vI p0, vI p1] [(.int xh53), (.int p0), (.ref (A 3))]))
  have f_58 := (P10.keep K43q (ninS (own_ne hA (i := 3) (j := i7) (by omega) (by omega) (by omega)) nin0)).keep K50q (ninS (own_ne hA (i := 3) (j := i7) (by omega) (by omega) (by omega)) (ninS (own_ne hA (i := 3) (j := i8) (by omega) (by omega) (by omega)) nin0))
  refine oc_iastore X57 hx hZ hq57 f_58 (own_row hpr hri).1 ri (own_row hpr hri).2.1 (by rw [hsl]; exact hri) (dx hby dd45 16) (fun T59 h59 X59 e59 W59 V59 => ?_)
  have K59 : Keep h0 h59 [(A 3), (A 5), (A 6), (A i7), (A i8)] := K50.wr W59 (Or.inl (List.mem_of_getElem? (i := 0) rfl))
  have N59 := Fr.snoc X59 N57 (hge 3 (by decide))
  have Z59 : n0 ≤ h59.size := Nat.le_trans Z50 (Keep.of_wr W59).1
  refine sa X59 hx (dx hby dd45 17) ?_
  refine si X59 hx (dx hby dd45 18) ?_
  refine si X59 hx (dx hby dd45 19) ?_
  have f_60 := ((P1.keep K43q (ninS (own_ne hA (i := 1) (j := i7) (by omega) (by omega) (by omega)) nin0)).keep K50q (ninS (own_ne hA (i := 1) (j := i7) (by omega) (by omega) (by omega)) (ninS (own_ne hA (i := 1) (j := i8) (by omega) (by omega) (by omega)) nin0))).other W59 (Or.inl (own_ne hA (i := 1) (j := 3) (by decide) (by decide) (by decide)))
  have f_61 := ((P2.keep K43q (ninS (own_ne hA (i := 1) (j := i7) (by omega) (by omega) (by omega)) nin0)).keep K50q (ninS (own_ne hA (i := 1) (j := i7) (by omega) (by omega) (by omega)) (ninS (own_ne hA (i := 1) (j := i8) (by omega) (by omega) (by omega)) nin0))).other W59 (Or.inl (own_ne hA (i := 1) (j := 3) (by decide) (by decide) (by decide)))
  have f_62 := ((P5.keep K43q).keep K50q).wr W59
  have f_63 := ((P6.keep K43q (ninS (own_ne hA (i := 4) (j := i7) (by omega) (by omega) (by omega)) nin0)).keep K50q (ninS (own_ne hA (i := 4) (j := i7) (by omega) (by omega) (by omega)) (ninS (own_ne hA (i := 4) (j := i8) (by omega) (by omega) (by omega)) nin0))).other W59 (Or.inl (own_ne hA (i := 4) (j := 3) (by decide) (by decide) (by decide)))
  have f_64 := ((P7.keep K43q (ninS (own_ne hA (i := 5) (j := i7) (by omega) (by omega) (by omega)) nin0)).keep K50q (ninS (own_ne hA (i := 5) (j := i7) (by omega) (by omega) (by omega)) (ninS (own_ne hA (i := 5) (j := i8) (by omega) (by omega) (by omega)) nin0))).other W59 (own_ne hA (i := 5) (j := 3) (by decide) (by decide) (by decide))
  have f_65 := ((P8.keep K43q (ninS (own_ne hA (i := 6) (j := i7) (by omega) (by omega) (by omega)) nin0)).keep K50q (ninS (own_ne hA (i := 6) (j := i7) (by omega) (by omega) (by omega)) (ninS (own_ne hA (i := 6) (j := i8) (by omega) (by omega) (by omega)) nin0))).other W59 (own_ne hA (i := 6) (j := 3) (by decide) (by decide) (by decide))
  have f_67 := ((P0.keep K43q).keep K50q).wr W59
  refine oc_private X59 hx hZ hown (wx hw 342) (wx hw 344) (wx hw 81) (wx hw 343) (wx hw 82) (wx hw 345) (by decide) (W := 0) (rmends l Z a0 hw [] p0 p1 A k5 w0 w1 k6 re h59 n0 Z59 f_60 f_61 f_62 f_63 f_64 f_65 hA hge hc rel) (by decide) (by decide) f_67 (argsL := [(.int p0), (.int p1)]) (rest := []) (by rw [hml]; rfl) (lenOf pd_15 rfl) rfl (Nat.le_of_eq rfl) (dx hby dd45 20) rfl e59 (by decide) (by decide) (fun v66 T66 Lc66 hQ66 X66 => ?_)
  obtain ⟨N66q, rfl, K66q, po66_0, po66_1⟩ := hQ66
  have N66 := Fr.app N59 N66q
  have K66 : Keep h0 T66.heap [(A 3), (A 5), (A 6), (A i7), (A i8)] := K59.trans K66q (allS (Or.inl (List.mem_of_getElem? (i := 1) rfl)) (allS (Or.inl (List.mem_of_getElem? (i := 2) rfl)) all0))
  have Z66 : n0 ≤ T66.heap.size := Nat.le_trans Z59 K66q.1
  have f_68 := V59.keep K66q (own_nin hA (i := 3) (l := [5, 6]) (by decide) (by decide))
  have f_69 := (po50_0.other W59 (Or.inl (own_ne hA (i := i7) (j := 3) (by omega) (by omega) (by omega)))).keep K66q (ninS (own_ne hA (i := i7) (j := 5) (by omega) (by omega) (by omega)) (ninS (own_ne hA (i := i7) (j := 6) (by omega) (by omega) (by omega)) nin0))
  have f_70 := (po50_1'.other W59 (Or.inl (own_ne hA (i := i7) (j := 3) (by omega) (by omega) (by omega)))).keep K66q (ninS (own_ne hA (i := i7) (j := 5) (by omega) (by omega) (by omega)) (ninS (own_ne hA (i := i7) (j := 6) (by omega) (by omega) (by omega)) nin0))
  have f_71 := (po50_2.other W59 (own_ne hA (i := i8) (j := 3) (by omega) (by omega) (by omega))).keep K66q (ninS (own_ne hA (i := i8) (j := 5) (by omega) (by omega) (by omega)) (ninS (own_ne hA (i := i8) (j := 6) (by omega) (by omega) (by omega)) nin0))
  exact own_retV X66 hx hret hlk (dx hby dd45 21) rfl (by decide) (by decide) ⟨N66, xh53, rfl, K66, po66_0, po66_1, f_68, f_69, f_70, f_71⟩
theorem own_below {A : Nat → Addr} {n : Nat} {x : Addr} (hA : own_Inc A n) (h : x < A 0) {i : Nat} (hi : i < n) : x ≠ A i := by
  rcases Nat.eq_zero_or_pos i with q | q
  · subst q; exact Nat.ne_of_lt h
  · exact Nat.ne_of_lt (Nat.lt_trans h (hA 0 i q hi))
theorem own_ninb {A : Nat → Addr} {n : Nat} {x : Addr} (hA : own_Inc A n) (h : x < A 0) {l : List Nat} (hl : ∀ j ∈ l, j < n) : x ∉ l.map A := by
  intro q
  obtain ⟨j, hj, e⟩ := List.mem_map.mp q
  exact own_below hA h (hl j hj) e.symm
def own_mem (w0 w1 : Int64) (c : Int32) : Prop := ¬ (fhas c w0 w1 = (0 : Int32))
theorem own_N5_mono {lo b lo' b' : Int} {n : Int32} {vs : List Value} (h : own_N5 lo b n vs) (h1 : lo' ≤ lo) (h2 : b ≤ b') : own_N5 lo' b' n vs := ⟨by have := h.1; omega, by have := h.2.1; omega, h.2.2⟩
theorem own_N5_app {lo b : Int} {n : Int32} {vs : List Value} (h : own_N5 lo b n vs) (hb : 1 ≤ lo ∧ b ≤ 4) (c : Int32) : own_N5 1 (b + 1) (n + (1 : Int32)) (vs.set n.toNatClampNeg (.int c)) := by
  have z : (1 : Int32).toInt = 1 := rfl
  obtain ⟨h1, h2, h3, h4⟩ := h
  have e : (n + (1 : Int32)).toInt = n.toInt + (1 : Int32).toInt := Jvm.Kit.i32_add (by omega) (by omega)
  exact ⟨by omega, by omega, by rw [List.length_set]; exact h3, own_ints_set h4 _ _⟩
theorem own_N5_one {lo b : Int} {n : Int32} {vs : List Value} (h : own_N5 lo b n vs) {b' : Int} (hb : 1 ≤ b') (c : Int32) : own_N5 1 b' (1 : Int32) (vs.set 0 (.int c)) := by
  have z : (1 : Int32).toInt = 1 := rfl
  exact ⟨by omega, by omega, by rw [List.length_set]; exact h.2.2.1, own_ints_set h.2.2.2 _ _⟩
theorem own_N5_ne5 {lo b : Int} {n : Int32} {vs : List Value} (h : own_N5 lo b n vs) (hb : 1 ≤ lo ∧ b ≤ 4) : ¬ (n = (5 : Int32)) := by
  intro q; have z : (5 : Int32).toInt = 5 := rfl
  have := h.2.1; rw [q] at this; omega
theorem own_N5_last {lo b : Int} {n : Int32} {vs : List Value} (h : own_N5 lo b n vs) (hb : 1 ≤ lo ∧ b ≤ 5) : ¬ ((n - (1 : Int32)) < (0 : Int32)) ∧ (n - (1 : Int32)) < n ∧ (n - (1 : Int32)) < (5 : Int32) := by
  have z : (1 : Int32).toInt = 1 := rfl
  have z0 : (0 : Int32).toInt = 0 := rfl
  have z5 : (5 : Int32).toInt = 5 := rfl
  obtain ⟨h1, h2, -⟩ := h
  have e : (n - (1 : Int32)).toInt = n.toInt - (1 : Int32).toInt := Jvm.Kit.i32_sub (by omega) (by omega)
  simp only [Int32.lt_iff_toInt_lt]; omega
theorem own_N5_in {lo b : Int} {n : Int32} {vs : List Value} (h : own_N5 lo b n vs) (hb : 1 ≤ lo ∧ b ≤ 4) : (¬ n < 0 ∧ n < (5 : Int32)) ∧ n.toNatClampNeg < vs.length := by
  have z0 : (0 : Int32).toInt = 0 := rfl
  have z5 : (5 : Int32).toInt = 5 := rfl
  obtain ⟨h1, h2, h3, -⟩ := h
  rw [h3]; simp only [Int32.lt_iff_toInt_lt, Int32.toNatClampNeg]; omega
theorem own_i2b {p : Int32} (h : p = 0 ∨ p = 1 ∨ p = 2 ∨ p = 3) : 0 ≤ (nar .byte (p.toInt8.toInt32)).toInt ∧ (nar .byte (p.toInt8.toInt32)).toInt ≤ 3 := by
  rcases h with rfl | rfl | rfl | rfl <;> decide
def own_q (l : List Int32) : Int64 × Int64 := l.foldl (fun w c => (own_pw0 w.1 w.2 c, own_pw1 w.1 w.2 c)) (0, 0)
def own_q1 (l : List Int32) : Int64 := (own_q l).1
def own_q2 (l : List Int32) : Int64 := (own_q l).2
theorem own_absorb (x y : Int64) : (x ||| y) &&& y = y := by
  apply Int64.toBitVec_inj.1
  rw [Int64.toBitVec_and, Int64.toBitVec_or]
  ext i hi
  simp only [BitVec.getElem_and, BitVec.getElem_or]
  cases x.toBitVec[i] <;> cases y.toBitVec[i] <;> rfl
theorem own_bit0 : ∀ k : Fin 105, ¬ (((1 : Int64) <<< ((Int32.ofInt (k.val : Int)) &&& 0x3f).toInt64) = (0 : Int64)) := by decide
theorem own_has_put (w0 w1 : Int64) {c : Int32} (h : 1 ≤ c.toInt ∧ c.toInt ≤ 104) : own_mem (own_pw0 w0 w1 c) (own_pw1 w0 w1 c) c := by
  have hs : own_sel (own_pw0 w0 w1 c) (own_pw1 w0 w1 c) c = (own_sel w0 w1 c ||| ((1 : Int64) <<< (c &&& 0x3f).toInt64)) := by
    by_cases q : c < (64 : Int32)
    · simp only [own_sel, own_pw0, own_pw1, if_pos q]
    · simp only [own_sel, own_pw0, own_pw1, if_neg q]
  have hc : fisc c = 1 := by
    unfold fisc; rw [if_neg (by rw [Int32.lt_iff_toInt_lt]; have : (1 : Int32).toInt = 1 := rfl; omega), if_neg (by rw [Int32.lt_iff_toInt_lt]; have : (104 : Int32).toInt = 104 := rfl; omega)]
  unfold own_mem fhas
  rw [hc, hs, own_absorb, if_neg (by decide)]
  obtain ⟨k, rfl⟩ := own_range 105 c (by omega) (by omega)
  rw [if_neg (own_bit0 k)]; decide
theorem own_CSB_keep {Z : State} {h h' : Heap} {a b : Addr} {P : Int64 → Int64 → Prop} {ws : List Addr} (F : own_CSB Z h a b P) (K : Keep h h' ws) (h1 : a ∉ ws) (h2 : b ∉ ws) : own_CSB Z h' a b P := by
  obtain ⟨e, f, k, w0, w1, v, p⟩ := F; exact ⟨e.keep K, f.keep K h1, k, w0, w1, v.keep K h2, p⟩
theorem own_ILB_keep {Z : State} {h h' : Heap} {a b : Addr} {cp : Int32} {N : Int32 → List Value → Prop} {ws : List Addr} (F : own_ILB Z h a b cp N) (K : Keep h h' ws) (h1 : a ∉ ws) (h2 : b ∉ ws) : own_ILB Z h' a b cp N := by
  obtain ⟨e, f, k, n, vs, s, v, p⟩ := F; exact ⟨e.keep K, f.keep K h1, k, n, vs, s.keep K h1, v.keep K h2, p⟩
theorem own_RWB_keepG {Z : State} {h h' : Heap} {A : Nat → Addr} {lo b : Int} {P : Int64 → Int64 → Prop} {ws : List Addr} (R : own_RWB Z h A lo b P) (K : Keep h h' ws) (hn : ∀ i, 1 ≤ i → i ≤ 14 → A i ∉ ws) : own_RWB Z h' A lo b P := by
  obtain ⟨e1, f2, f3, f4, f6, ⟨k2, v2⟩, ⟨k3, hs, v3, hsl, hsi⟩, c4, ⟨k6, re, v6, rel, rei⟩, i7, i9, i11, i13⟩ := R
  exact ⟨e1.keep K, f2.keep K (hn 1 (by decide) (by decide)), f3.keep K (hn 1 (by decide) (by decide)), f4.keep K (hn 1 (by decide) (by decide)), f6.keep K (hn 1 (by decide) (by decide)), ⟨k2, v2.keep K (hn 2 (by decide) (by decide))⟩, ⟨k3, hs, v3.keep K (hn 3 (by decide) (by decide)), hsl, hsi⟩, own_CSB_keep c4 K (hn 4 (by decide) (by decide)) (hn 5 (by decide) (by decide)), ⟨k6, re, v6.keep K (hn 6 (by decide) (by decide)), rel, rei⟩, own_ILB_keep i7 K (hn 7 (by decide) (by decide)) (hn 8 (by decide) (by decide)), own_ILB_keep i9 K (hn 9 (by decide) (by decide)) (hn 10 (by decide) (by decide)), own_ILB_keep i11 K (hn 11 (by decide) (by decide)) (hn 12 (by decide) (by decide)), own_ILB_keep i13 K (hn 13 (by decide) (by decide)) (hn 14 (by decide) (by decide))⟩
theorem own_RWB_keep {Z : State} {h h' : Heap} {A : Nat → Addr} {lo b : Int} {P : Int64 → Int64 → Prop} (hA : own_Inc A 25) (R : own_RWB Z h A lo b P) {l : List Nat} (K : Keep h h' (l.map A)) (hl : ∀ j ∈ l, j < 25 ∧ (j = 0 ∨ 14 < j)) : own_RWB Z h' A lo b P :=
  own_RWB_keepG R K fun i h1 h2 => own_nin hA (by omega) fun j hj => ⟨(hl j hj).1, by have := (hl j hj).2; omega⟩
theorem own_RWB_keep1 {Z : State} {h h' : Heap} {A : Nat → Addr} {lo b : Int} {P : Int64 → Int64 → Prop} {x : Addr} (R : own_RWB Z h A lo b P) (K : Keep h h' [x]) (hx : ∀ i, i < 25 → A i ≠ x) : own_RWB Z h' A lo b P :=
  own_RWB_keepG R K fun i h1 h2 => ninS (hx i (by omega)) nin0
theorem own_RWB_ext {Z : State} {h h' : Heap} {A : Nat → Addr} {lo b : Int} {P : Int64 → Int64 → Prop} (R : own_RWB Z h A lo b P) (E : Ext h h') : own_RWB Z h' A lo b P :=
  own_RWB_keepG R ((Keep.refl h []).ext E) fun i _ _ => nin0
theorem own_RWB_il {Z : State} {h : Heap} {A : Nat → Addr} {lo b : Int} {P : Int64 → Int64 → Prop} (R : own_RWB Z h A lo b P) {r i j : Nat} (hr : r < 4) (hi : i = 7 + 2 * r) (hj : j = 8 + 2 * r) : own_ILB Z h (A i) (A j) (5 : Int32) (own_N5 lo b) := by
  obtain ⟨-, -, -, -, -, -, -, -, -, i7, i9, i11, i13⟩ := R
  subst hi hj
  match r, hr with
  | 0, _ => exact i7
  | 1, _ => exact i9
  | 2, _ => exact i11
  | 3, _ => exact i13
theorem own_ILB_mono {Z : State} {h : Heap} {a c : Addr} {lo b lo' b' : Int} (F : own_ILB Z h a c (5 : Int32) (own_N5 lo b)) (h1 : lo' ≤ lo) (h2 : b ≤ b') : own_ILB Z h a c (5 : Int32) (own_N5 lo' b') := by
  obtain ⟨e, f, k, n, vs, s, v, p⟩ := F; exact ⟨e, f, k, n, vs, s, v, own_N5_mono p h1 h2⟩
theorem own_RWB_upd {Z : State} {h h' : Heap} {A : Nat → Addr} {lo b lo' b' : Int} {P P' : Int64 → Int64 → Prop} (hA : own_Inc A 25) (R : own_RWB Z h A lo b P) {r i j : Nat} (hr : r < 4) (hi : i = 7 + 2 * r) (hj : j = 8 + 2 * r) (K : Keep h h' [(A 3), (A 5), (A 6), (A i), (A j)])
    (v3 : ∃ k vs, Arv Z h' (A 3) k .int (4 : Int32) vs (.int (0 : Int32)) ∧ vs.length = 4 ∧ own_ints vs) (v5 : ∃ k w0 w1, Arv Z h' (A 5) k .long (2 : Int32) [(.long w0), (.long w1)] (.long (0 : Int64)) ∧ P' w0 w1) (v6 : ∃ k vs, Arv Z h' (A 6) k .byte (105 : Int32) vs (.int (0 : Int32)) ∧ vs.length = 105 ∧ own_rows vs)
    (il : own_ILB Z h' (A i) (A j) (5 : Int32) (own_N5 lo' b')) (h1 : lo' ≤ lo) (h2 : b ≤ b') : own_RWB Z h' A lo' b' P' := by
  have fam : ∀ q u w, q < 4 → u = 7 + 2 * q → w = 8 + 2 * q → own_ILB Z h' (A u) (A w) (5 : Int32) (own_N5 lo' b') := fun q u w hq hu hw => by
    by_cases e : q = r
    · subst e; subst hu hw hi hj; exact il
    · have n1 : ∀ x, (x = u ∨ x = w) → A x ∉ [(A 3), (A 5), (A 6), (A i), (A j)] := fun x hx => ninS (own_ne hA (by omega) (by omega) (by omega)) (ninS (own_ne hA (by omega) (by omega) (by omega)) (ninS (own_ne hA (by omega) (by omega) (by omega)) (ninS (own_ne hA (by omega) (by omega) (by omega)) (ninS (own_ne hA (by omega) (by omega) (by omega)) nin0))))
      exact own_ILB_mono (own_ILB_keep (own_RWB_il R hq hu hw) K (n1 u (Or.inl rfl)) (n1 w (Or.inr rfl))) h1 h2
  have n2 : ∀ x, x < 5 → x ≠ 3 → A x ∉ [(A 3), (A 5), (A 6), (A i), (A j)] := fun x hx hn => ninS (own_ne hA (by omega) (by omega) (by omega)) (ninS (own_ne hA (by omega) (by omega) (by omega)) (ninS (own_ne hA (by omega) (by omega) (by omega)) (ninS (own_ne hA (by omega) (by omega) (by omega)) (ninS (own_ne hA (by omega) (by omega) (by omega)) nin0))))
  obtain ⟨e1, f2, f3, f4, f6, ⟨k2, v2⟩, -, ⟨e4, f5, -⟩, -⟩ := R
  exact ⟨e1.keep K, f2.keep K (n2 1 (by decide) (by decide)), f3.keep K (n2 1 (by decide) (by decide)), f4.keep K (n2 1 (by decide) (by decide)), f6.keep K (n2 1 (by decide) (by decide)), ⟨k2, v2.keep K (n2 2 (by decide) (by decide))⟩, v3, ⟨e4.keep K, f5.keep K (n2 4 (by decide) (by decide)), v5⟩, v6, fam 0 _ _ (by decide) rfl rfl, fam 1 _ _ (by decide) rfl rfl, fam 2 _ _ (by decide) rfl rfl, fam 3 _ _ (by decide) rfl rfl⟩
theorem dd56 : own_dec prog_55_method_6_code [(0, .aload_n 0, 1), (1, .getfield 24, 3), (4, .iload_n 1, 1), (5, .invokevirtual 98, 3), (8, .istore_n 2, 1), (9, .iload_n 2, 1), (10, .ifCond .ne 7, 3), (13, .iconst (-1), 1), (14, .goto 9, 3), (17, .aload_n 0, 1), (18, .getfield 30, 3), (21, .iload_n 2, 1), (22, .baload, 1), (23, .ireturn, 1)] := by unfold own_dec; decide +kernel
theorem ef_rfn (m : MethodId) (A : Nat → Addr) (p0 : Int32) : entryFrame m #[(.ref (A 1)), (.int p0)] 3 = mkF m 0 #[vR (A 1), vI p0, vU] [] := by first | (simp [entryFrame, mkF, argsToLocals, Value.category, vI, vR, vU]; done) | rfl
def Qrfn (Z : State) (p0 : Int32) (A : Nat → Addr) (k5 : ClassId) (w0 : Int64) (w1 : Int64) (k6 : ClassId) (re : List Value) (h0 : Heap) (n0 : Nat) (v : Option Value) (h : Heap) (L : List Loc) : Prop := Fr n0 L ∧ v = some (.int (-1 : Int32)) ∧ h = h0
set_option maxRecDepth 65536 in
set_option maxHeartbeats 40000000 in
theorem rmrfn (l : Launch) (Z : State) (a0 : Array Value) (hw : ∀ d ∈ tables_1, d.before a0 Z = true) (ws : List Jvm.Cond) (p0 : Int32) (A : Nat → Addr) (k5 : ClassId) (w0 : Int64) (w1 : Int64) (k6 : ClassId) (re : List Value) (h0 : Heap) (n0 : Nat) (Z0 : n0 ≤ h0.size) (P0 : Fld Z h0 (A 1) "com/example/sixfold/sixfold/rows/Rows" "lasts" "Lcom/example/sixfold/sixfold/rows/CardSet;" (.ref (A 4))) (P1 : Fld Z h0 (A 1) "com/example/sixfold/sixfold/rows/Rows" "rowEnding" "[B" (.ref (A 6))) (P2 : Exa Z h0 (A 4) "com/example/sixfold/sixfold/rows/CardSet") (P3 : Fld Z h0 (A 4) "com/example/sixfold/sixfold/rows/CardSet" "words" "[J" (.ref (A 5))) (P4 : Arv Z h0 (A 5) k5 .long (2 : Int32) [(.long w0), (.long w1)] (.long (0 : Int64))) (P5 : Arv Z h0 (A 6) k6 .byte (105 : Int32) re (.int (0 : Int32))) (hA : own_Inc A 25) (hge : ∀ i, i < 25 → n0 ≤ A i) (hc : 1 ≤ p0.toInt ∧ p0.toInt ≤ 104) (hz : (fhb p0 w0 w1) = (0 : Int32)) :
    own_Cw l Z (⟨"com/example/sixfold/sixfold/rows/Rows", "rowFor", "(I)I"⟩ : MethodName) prog_55_method_6_code 3 (some .int) ws (own_rr 3 0 0 48) #[(.ref (A 1)), (.int p0)] h0 (Qrfn Z p0 A k5 w0 w1 k6 re h0 n0) := by
  refine own_body (plainFor_of_name pn_com_example_sixfold_sixfold_rows_Rows) ?_
  intro p e s m below meth c s₁ hx hby hml hZ hown hnm hret hlk X0 e0
  have N0 := Fr.nil n0
  refine own_go (fun t k => castTop (ef_rfn m A p0) k) ?_
  refine sa X0 hx (dx hby dd56 0) ?_
  refine oc_getF X0 hx hZ hown (host := "") (Or.inl (wx hw 105)) Via.refl e0 P0 (dx hby dd56 1) (fun T41 X41 e41 => ?_)
  refine si X41 hx (dx hby dd56 2) ?_
  refine oc_virtual X41 hx hZ hown (wx hw 390) (wx hw 391) (wx hw 393) (wx hw 392) (wx hw 95) (wx hw 394) (by decide) (W := 0) (rmhb l Z a0 hw [] (A 4) p0 (A 5) k5 w0 w1 h0 n0 Z0 P3 P4 hc) (by decide) (by decide) P2 (argsL := [(.int p0)]) (rest := []) (by rw [hml]; rfl) (lenOf pd_2 rfl) rfl (Nat.le_of_eq rfl) (dx hby dd56 3) rfl e41 (by decide) (by decide) (fun v42 T42 Lc42 hQ42 X42 => ?_)
  obtain ⟨N42q, rfl, hq42⟩ := hQ42
  have N42 := Fr.app N0 N42q
  refine og (XS.istoreN X42.here hx rfl (dx hby dd56 4) rfl (l' := #[vR (A 1), vI p0, vI (fhb p0 w0 w1)]) rfl) ?_
  refine si X42 hx (dx hby dd56 5) ?_
  refine og (XS.ifNo X42.here hx rfl (dx hby dd56 6) rfl ((if0 _ _).trans (teq hz).2)) ?_
  refine sc X42 hx (dx hby dd56 7) ?_
  refine og (XS.goto X42.here hx rfl (pc0 := 14) (pc' := 23) rfl (dx hby dd56 8) (by decide) (by decide)) ?_
  exact own_retW X42 hx hret hlk rfl (Or.inl ⟨rfl, Or.inl rfl, _, rfl⟩) (dx hby dd56 13) hq42 (by decide) (by decide) ⟨N42, rfl, rfl⟩
theorem ef_rfy (m : MethodId) (A : Nat → Addr) (p0 : Int32) : entryFrame m #[(.ref (A 1)), (.int p0)] 3 = mkF m 0 #[vR (A 1), vI p0, vU] [] := by first | (simp [entryFrame, mkF, argsToLocals, Value.category, vI, vR, vU]; done) | rfl
def Qrfy (Z : State) (p0 : Int32) (A : Nat → Addr) (k5 : ClassId) (w0 : Int64) (w1 : Int64) (k6 : ClassId) (re : List Value) (x : Int32) (h0 : Heap) (n0 : Nat) (v : Option Value) (h : Heap) (L : List Loc) : Prop := Fr n0 L ∧ v = some (.int x) ∧ h = h0
set_option maxRecDepth 65536 in
set_option maxHeartbeats 40000000 in
theorem rmrfy (l : Launch) (Z : State) (a0 : Array Value) (hw : ∀ d ∈ tables_1, d.before a0 Z = true) (ws : List Jvm.Cond) (p0 : Int32) (A : Nat → Addr) (k5 : ClassId) (w0 : Int64) (w1 : Int64) (k6 : ClassId) (re : List Value) (x : Int32) (h0 : Heap) (n0 : Nat) (Z0 : n0 ≤ h0.size) (P0 : Fld Z h0 (A 1) "com/example/sixfold/sixfold/rows/Rows" "lasts" "Lcom/example/sixfold/sixfold/rows/CardSet;" (.ref (A 4))) (P1 : Fld Z h0 (A 1) "com/example/sixfold/sixfold/rows/Rows" "rowEnding" "[B" (.ref (A 6))) (P2 : Exa Z h0 (A 4) "com/example/sixfold/sixfold/rows/CardSet") (P3 : Fld Z h0 (A 4) "com/example/sixfold/sixfold/rows/CardSet" "words" "[J" (.ref (A 5))) (P4 : Arv Z h0 (A 5) k5 .long (2 : Int32) [(.long w0), (.long w1)] (.long (0 : Int64))) (P5 : Arv Z h0 (A 6) k6 .byte (105 : Int32) re (.int (0 : Int32))) (hA : own_Inc A 25) (hge : ∀ i, i < 25 → n0 ≤ A i) (hc : 1 ≤ p0.toInt ∧ p0.toInt ≤ 104) (hz : ¬ ((fhb p0 w0 w1) = (0 : Int32))) (hin : ¬ (fhb p0 w0 w1) < 0 ∧ (fhb p0 w0 w1) < (105 : Int32)) (hxv : re.getD (fhb p0 w0 w1).toNatClampNeg (.int (0 : Int32)) = .int x) :
    own_Cw l Z (⟨"com/example/sixfold/sixfold/rows/Rows", "rowFor", "(I)I"⟩ : MethodName) prog_55_method_6_code 3 (some .int) ws (own_rr 3 0 0 48) #[(.ref (A 1)), (.int p0)] h0 (Qrfy Z p0 A k5 w0 w1 k6 re x h0 n0) := by
  refine own_body (plainFor_of_name pn_com_example_sixfold_sixfold_rows_Rows) ?_
  intro p e s m below meth c s₁ hx hby hml hZ hown hnm hret hlk X0 e0
  have N0 := Fr.nil n0
  refine own_go (fun t k => castTop (ef_rfy m A p0) k) ?_
  refine sa X0 hx (dx hby dd56 0) ?_
  refine oc_getF X0 hx hZ hown (host := "") (Or.inl (wx hw 105)) Via.refl e0 P0 (dx hby dd56 1) (fun T41 X41 e41 => ?_)
  refine si X41 hx (dx hby dd56 2) ?_
  refine oc_virtual X41 hx hZ hown (wx hw 390) (wx hw 391) (wx hw 393) (wx hw 392) (wx hw 95) (wx hw 394) (by decide) (W := 0) (rmhb l Z a0 hw [] (A 4) p0 (A 5) k5 w0 w1 h0 n0 Z0 P3 P4 hc) (by decide) (by decide) P2 (argsL := [(.int p0)]) (rest := []) (by rw [hml]; rfl) (lenOf pd_2 rfl) rfl (Nat.le_of_eq rfl) (dx hby dd56 3) rfl e41 (by decide) (by decide) (fun v42 T42 Lc42 hQ42 X42 => ?_)
  obtain ⟨N42q, rfl, hq42⟩ := hQ42
  have N42 := Fr.app N0 N42q
  refine og (XS.istoreN X42.here hx rfl (dx hby dd56 4) rfl (l' := #[vR (A 1), vI p0, vI (fhb p0 w0 w1)]) rfl) ?_
  refine si X42 hx (dx hby dd56 5) ?_
  refine og (XS.ifYes X42.here hx rfl (pc0 := 10) (pc' := 17) rfl (dx hby dd56 6) rfl ((if0 _ _).trans (feq hz).2) (by decide) (by decide)) ?_
  refine sa X42 hx (dx hby dd56 9) ?_
  refine oc_getF X42 hx hZ hown (host := "") (Or.inl (wx hw 108)) Via.refl hq42 P1 (dx hby dd56 10) (fun T43 X43 e43 => ?_)
  refine si X43 hx (dx hby dd56 11) ?_
  show own_Gl _ _ _ _ (T43.setTop (mkF m 22 #[vR (A 1), vI p0, vI (fhb p0 w0 w1)] [(.int (fhb p0 w0 w1)), (.ref (A 6))]))
  refine oc_baload X43 hx hZ e43 P5 hin hxv (dx hby dd56 12) ?_
  exact own_retW X43 hx hret hlk rfl (Or.inl ⟨rfl, Or.inl rfl, _, rfl⟩) (dx hby dd56 13) e43 (by decide) (by decide) ⟨N42, rfl, rfl⟩
theorem dd65 : own_dec prog_55_method_13_code [(0, .aload_n 0, 1), (1, .getfield 11, 3), (4, .iload_n 1, 1), (5, .aaload, 1), (6, .astore_n 3, 1), (7, .aload_n 3, 1), (8, .invokevirtual 101, 3), (11, .iconst 5, 1), (12, .if_icmp .ne 10, 3), (15, .aload_n 0, 1), (16, .iload_n 1, 1), (17, .iload_n 2, 1), (18, .invokevirtual 114, 3), (21, .ireturn, 1), (22, .aload_n 0, 1), (23, .getfield 24, 3), (26, .aload_n 3, 1), (27, .invokevirtual 85, 3), (30, .invokevirtual 117, 3), (33, .pop, 1), (34, .aload_n 3, 1), (35, .iload_n 2, 1), (36, .invokevirtual 79, 3), (39, .aload_n 0, 1), (40, .getfield 17, 3), (43, .iload_n 1, 1), (44, .dup2, 1), (45, .iaload, 1), (46, .iload_n 2, 1), (47, .invokestatic 82, 3), (50, .iadd, 1), (51, .iastore, 1), (52, .aload_n 0, 1), (53, .iload_n 1, 1), (54, .iload_n 2, 1), (55, .invokevirtual 88, 3), (58, .iconst 0, 1), (59, .ireturn, 1)] := by unfold own_dec; decide +kernel
theorem ef_rpl (m : MethodId) (A : Nat → Addr) (p0 : Int32) (p1 : Int32) : entryFrame m #[(.ref (A 1)), (.int p0), (.int p1)] 4 = mkF m 0 #[vR (A 1), vI p0, vI p1, vU] [] := by first | (simp [entryFrame, mkF, argsToLocals, Value.category, vI, vR, vU]; done) | rfl
theorem pd_16 : parseMethodDescriptor "()I" = some ⟨[], some .int⟩ := by decide +kernel
def Qrpl (Z : State) (p0 : Int32) (p1 : Int32) (A : Nat → Addr) (lo : Int) (b : Int) (P : Int64 → Int64 → Prop) (hd : Addr) (kH : ClassId) (hv : List Value) (ri : Nat) (i7 : Nat) (i8 : Nat) (h0 : Heap) (n0 : Nat) (v : Option Value) (h : Heap) (L : List Loc) : Prop := Fr n0 L ∧ v = some (.int (0 : Int32)) ∧ Keep h0 h [(A 3), (A 5), (A 6), (A i7), (A i8)] ∧ own_RWB Z h A 1 (b + 1) (fun w0 w1 => own_mem w0 w1 p1)
set_option maxRecDepth 65536 in
set_option maxHeartbeats 40000000 in
theorem rmrpl (l : Launch) (Z : State) (a0 : Array Value) (hw : ∀ d ∈ tables_1, d.before a0 Z = true) (ws : List Jvm.Cond) (p0 : Int32) (p1 : Int32) (A : Nat → Addr) (lo : Int) (b : Int) (P : Int64 → Int64 → Prop) (hd : Addr) (kH : ClassId) (hv : List Value) (ri : Nat) (i7 : Nat) (i8 : Nat) (h0 : Heap) (n0 : Nat) (Z0 : n0 ≤ h0.size) (P0 : own_RWB Z h0 A lo b P) (P1 : Old Z n0 h0) (hA : own_Inc A 25) (hge : ∀ i, i < 25 → n0 ≤ A i) (hc : 1 ≤ p1.toInt ∧ p1.toInt ≤ 104) (hbd : 1 ≤ lo ∧ b ≤ 4) (hri : ri < 4) (hi7 : i7 = 7 + 2 * ri) (hi8 : i8 = 8 + 2 * ri) (hpr : p0 = Int32.ofInt (ri : Int)) (hS : Sta Z Z.heap "com/example/sixfold/sixfold/rows/Card" "HEADS" "[B" (.ref hd)) (hV : Arv Z Z.heap hd kH .byte (105 : Int32) hv (.int (0 : Int32))) (hints : own_ints hv) :
    own_Cw l Z (⟨"com/example/sixfold/sixfold/rows/Rows", "place", "(II)I"⟩ : MethodName) prog_55_method_13_code 4 (some .int) ws (own_rr 4 0 0 54) #[(.ref (A 1)), (.int p0), (.int p1)] h0 (Qrpl Z p0 p1 A lo b P hd kH hv ri i7 i8 h0 n0) := by
  refine own_body (plainFor_of_name pn_com_example_sixfold_sixfold_rows_Rows) ?_
  intro p e s m below meth c s₁ hx hby hml hZ hown hnm hret hlk X0 e0
  have N0 := Fr.nil n0
  refine own_go (fun t k => castTop (ef_rpl m A p0 p1) k) ?_
  obtain ⟨e1, f2, f3, f4, f6, ⟨k2, v2⟩, ⟨k3, hs, v3, hsl, hsi⟩, ⟨e4, f5, k5, w0, w1, v5, hP⟩, ⟨k6, re, v6, rel, rei⟩, -⟩ := id P0
  obtain ⟨e7, f7, k8, n7, vs7, s7, v8, N7⟩ := own_RWB_il P0 hri hi7 hi8
  refine sa X0 hx (dx hby dd65 0) ?_
  refine oc_getF X0 hx hZ hown (host := "") (Or.inl (wx hw 89)) Via.refl e0 f2 (dx hby dd65 1) (fun T41 X41 e41 => ?_)
  refine si X41 hx (dx hby dd65 2) ?_
  show own_Gl _ _ _ _ (T41.setTop (mkF m 5 #[vR (A 1), vI p0, vI p1, vU] [(.int p0), (.ref (A 2))]))
  refine oc_aaload (v := (.ref (A i7))) X41 hx hZ e41 v2 (own_row hpr hri).1 (own_cardat A hri hi7 (own_row hpr hri).2.1) (dx hby dd65 3) ?_
  refine og (XS.astoreN X41.here hx rfl (dx hby dd65 4) rfl rfl (l' := #[vR (A 1), vI p0, vI p1, vR (A i7)]) rfl) ?_
  refine sa X41 hx (dx hby dd65 5) ?_
  refine oc_virtual X41 hx hZ hown (wx hw 432) (wx hw 433) (wx hw 435) (wx hw 434) (wx hw 111) (wx hw 436) (by decide) (W := 0) (rmils l Z a0 hw [] (A i7) n7 h0 n0 Z0 s7) (by decide) (by decide) e7 (argsL := []) (rest := []) (by rw [hml]; rfl) (lenOf pd_16 rfl) rfl (Nat.le_of_eq rfl) (dx hby dd65 6) rfl e41 (by decide) (by decide) (fun v43 T43 Lc43 hQ43 X43 => ?_)
  obtain ⟨N43q, rfl, hq43⟩ := hQ43
  have N43 := Fr.app N0 N43q
  refine sc X43 hx (dx hby dd65 7) ?_
  have hp44 : ¬ (n7 = (5 : Int32)) := own_N5_ne5 N7 hbd
  refine og (XS.icmpYes X43.here hx rfl (pc0 := 12) (pc' := 22) rfl (dx hby dd65 8) rfl (feq hp44).2 (by decide) (by decide)) ?_
  refine sa X43 hx (dx hby dd65 14) ?_
  refine oc_getF X43 hx hZ hown (host := "") (Or.inl (wx hw 105)) Via.refl hq43 f4 (dx hby dd65 15) (fun T45 X45 e45 => ?_)
  refine sa X45 hx (dx hby dd65 16) ?_
  obtain ⟨xl46, exl46⟩ := N7.2.2.2 (n7 - (1 : Int32)).toNatClampNeg
  have hlxl46 := own_N5_last N7 ⟨hbd.1, by omega⟩
  refine oc_virtual X45 hx hZ hown (wx hw 405) (wx hw 406) (wx hw 408) (wx hw 407) (wx hw 111) (wx hw 409) (by decide) (W := 1) (rmlast l Z a0 hw [] (A i7) (A i8) k8 (5 : Int32) n7 vs7 xl46 h0 n0 Z0 e7 f7 s7 v8 hlxl46.1 hlxl46.2.1 hlxl46.2.2 exl46) (by decide) (by decide) e7 (argsL := []) (rest := [(.ref (A 4))]) (by rw [hml]; rfl) (lenOf pd_16 rfl) rfl (Nat.le_of_eq rfl) (dx hby dd65 17) rfl e45 (by decide) (by decide) (fun v47 T47 Lc47 hQ47 X47 => ?_)
  obtain ⟨N47q, rfl, hq47⟩ := hQ47
  have N47 := Fr.app N43 N47q
  refine oc_virtual X47 hx hZ hown (wx hw 411) (wx hw 366) (wx hw 368) (wx hw 367) (wx hw 95) (wx hw 369) (by decide) (W := 0) (rmtout l Z a0 hw [] (A 4) xl46 (A 5) k5 w0 w1 h0 n0 Z0 e4 f5 v5 (own_ne hA (i := 4) (j := 5) (by decide) (by decide) (by decide)) (hge 5 (by decide))) (by decide) (by decide) e4 (argsL := [(.int xl46)]) (rest := []) (by rw [hml]; rfl) (lenOf pd_0 rfl) rfl (Nat.le_of_eq rfl) (dx hby dd65 18) rfl hq47 (by decide) (by decide) (fun v48 T48 Lc48 hQ48 X48 => ?_)
  obtain ⟨N48q, rfl, K48q, po48_0⟩ := hQ48
  have N48 := Fr.app N47 N48q
  have K48 : Keep h0 T48.heap [(A 3), (A 5), (A 6), (A i7), (A i8)] := (Keep.refl h0 [(A 3), (A 5), (A 6), (A i7), (A i8)]).trans K48q (allS (Or.inl (List.mem_of_getElem? (i := 1) rfl)) all0)
  have Z48 : n0 ≤ T48.heap.size := Nat.le_trans Z0 K48q.1
  refine og (XS.pop X48.here hx rfl (dx hby dd65 19) rfl rfl) ?_
  refine sa X48 hx (dx hby dd65 20) ?_
  refine si X48 hx (dx hby dd65 21) ?_
  have f_49 := e7.keep K48q
  have f_50 := f7.keep K48q (ninS (own_ne hA (i := i7) (j := 5) (by omega) (by omega) (by omega)) nin0)
  have f_51 := s7.keep K48q (ninS (own_ne hA (i := i7) (j := 5) (by omega) (by omega) (by omega)) nin0)
  have f_52 := v8.keep K48q (ninS (own_ne hA (i := i8) (j := 5) (by omega) (by omega) (by omega)) nin0)
  refine oc_virtual X48 hx hZ hown (wx hw 335) (wx hw 179) (wx hw 181) (wx hw 180) (wx hw 111) (wx hw 182) (by decide) (W := 0) (rmapp l Z a0 hw [] (A i7) p1 (A i8) k8 (5 : Int32) n7 vs7 T48.heap n0 Z48 f_49 f_50 f_51 f_52 (own_ne hA (i := i7) (j := i8) (by omega) (by omega) (by omega)) (hge i7 (by omega)) (hge i8 (by omega)) (own_N5_in N7 hbd).1 (own_N5_in N7 hbd).2) (by decide) (by decide) f_49 (argsL := [(.int p1)]) (rest := []) (by rw [hml]; rfl) (lenOf pd_14 rfl) rfl (Nat.le_of_eq rfl) (dx hby dd65 22) rfl rfl (by decide) (by decide) (fun v53 T53 Lc53 hQ53 X53 => ?_)
  obtain ⟨N53q, rfl, K53q, po53_0, po53_1, po53_2⟩ := hQ53
  have N53 := Fr.app N48 N53q
  have K53 : Keep h0 T53.heap [(A 3), (A 5), (A 6), (A i7), (A i8)] := K48.trans K53q (allS (Or.inl (List.mem_of_getElem? (i := 3) rfl)) (allS (Or.inl (List.mem_of_getElem? (i := 4) rfl)) all0))
  have Z53 : n0 ≤ T53.heap.size := Nat.le_trans Z48 K53q.1
  refine sa X53 hx (dx hby dd65 23) ?_
  have f_55 := (f3.keep K48q (own_nin hA (i := 1) (l := [5]) (by decide) (by decide))).keep K53q (ninS (own_ne hA (i := 1) (j := i7) (by omega) (by omega) (by omega)) (ninS (own_ne hA (i := 1) (j := i8) (by omega) (by omega) (by omega)) nin0))
  refine oc_getF X53 hx hZ hown (host := "") (Or.inl (wx hw 91)) Via.refl rfl f_55 (dx hby dd65 24) (fun T54 X54 e54 => ?_)
  refine si X54 hx (dx hby dd65 25) ?_
  refine og (XT.dup2 X54.here hx rfl (dx hby dd65 26) rfl rfl rfl) ?_
  obtain ⟨xq56, exq56⟩ := hsi p0.toNatClampNeg
  show own_Gl _ _ _ _ (T54.setTop (mkF m 45 #[vR (A 1), vI p0, vI p1, vR (A i7)] [(.int p0), (.ref (A 3)), (.int p0), (.ref (A 3))]))
  have f_57 := (v3.keep K48q (own_nin hA (i := 3) (l := [5]) (by decide) (by decide))).keep K53q (ninS (own_ne hA (i := 3) (j := i7) (by omega) (by omega) (by omega)) (ninS (own_ne hA (i := 3) (j := i8) (by omega) (by omega) (by omega)) nin0))
  refine oc_iaload X54 hx hZ e54 f_57 (own_row hpr hri).1 exq56 (dx hby dd65 27) ?_
  refine si X54 hx (dx hby dd65 28) ?_
  obtain ⟨xh59, exh59⟩ := hints p1.toNatClampNeg
  have f_60 : Old Z n0 T53.heap := ((P1.keep K48q (allS (hge 5 (by decide)) all0)).keep K53q (allS (hge i7 (by omega)) (allS (hge i8 (by omega)) all0)))
  have f_61 : Sta Z T53.heap "com/example/sixfold/sixfold/rows/Card" "HEADS" "[B" (.ref hd) := hS.ext f_60.2
  have f_62 : Arv Z T53.heap hd kH .byte (105 : Int32) hv (.int (0 : Int32)) := hV.ext f_60.2
  refine oc_static X54 hx hZ hown (wx hw 336) (wx hw 337) (wx hw 284) (wx hw 338) (by decide) (W := 3) (rmheads l Z a0 hw [] p1 hd kH hv xh59 T53.heap n0 Z53 f_61 f_62 hc exh59) (by decide) (by decide) (argsL := [(.int p1)]) (rest := [(.int xq56), (.int p0), (.ref (A 3))]) (by rw [hml]; rfl) (lenOf pd_2 rfl) rfl (Nat.le_of_eq rfl) (dx hby dd65 29) rfl e54 (by decide) (by decide) (fun v63 T63 Lc63 hQ63 X63 => ?_)
  obtain ⟨N63q, rfl, hq63⟩ := hQ63
  have N63 := Fr.app N53 N63q
  refine og (XS.iadd X63.here hx rfl (dx hby dd65 30) rfl) ?_
  show own_Gl _ _ _ _ (T63.setTop (mkF m 51 #[vR (A 1), vI p0, vI p1, vR (A i7)] [(.int (xq56 + xh59)), (.int p0), (.ref (A 3))]))
  refine oc_iastore X63 hx hZ hq63 f_57 (own_row hpr hri).1 ri (own_row hpr hri).2.1 (by rw [hsl]; exact hri) (dx hby dd65 31) (fun T64 h64 X64 e64 W64 V64 => ?_)
  have K64 : Keep h0 h64 [(A 3), (A 5), (A 6), (A i7), (A i8)] := K53.wr W64 (Or.inl (List.mem_of_getElem? (i := 0) rfl))
  have N64 := Fr.snoc X64 N63 (hge 3 (by decide))
  have Z64 : n0 ≤ h64.size := Nat.le_trans Z53 (Keep.of_wr W64).1
  refine sa X64 hx (dx hby dd65 32) ?_
  refine si X64 hx (dx hby dd65 33) ?_
  refine si X64 hx (dx hby dd65 34) ?_
  have f_65 := ((f4.keep K48q (own_nin hA (i := 1) (l := [5]) (by decide) (by decide))).keep K53q (ninS (own_ne hA (i := 1) (j := i7) (by omega) (by omega) (by omega)) (ninS (own_ne hA (i := 1) (j := i8) (by omega) (by omega) (by omega)) nin0))).other W64 (Or.inl (own_ne hA (i := 1) (j := 3) (by decide) (by decide) (by decide)))
  have f_66 := ((f6.keep K48q (own_nin hA (i := 1) (l := [5]) (by decide) (by decide))).keep K53q (ninS (own_ne hA (i := 1) (j := i7) (by omega) (by omega) (by omega)) (ninS (own_ne hA (i := 1) (j := i8) (by omega) (by omega) (by omega)) nin0))).other W64 (Or.inl (own_ne hA (i := 1) (j := 3) (by decide) (by decide) (by decide)))
  have f_67 := ((e4.keep K48q).keep K53q).wr W64
  have f_68 := ((f5.keep K48q (own_nin hA (i := 4) (l := [5]) (by decide) (by decide))).keep K53q (ninS (own_ne hA (i := 4) (j := i7) (by omega) (by omega) (by omega)) (ninS (own_ne hA (i := 4) (j := i8) (by omega) (by omega) (by omega)) nin0))).other W64 (Or.inl (own_ne hA (i := 4) (j := 3) (by decide) (by decide) (by decide)))
  have f_69 := (po48_0.keep K53q (ninS (own_ne hA (i := 5) (j := i7) (by omega) (by omega) (by omega)) (ninS (own_ne hA (i := 5) (j := i8) (by omega) (by omega) (by omega)) nin0))).other W64 (own_ne hA (i := 5) (j := 3) (by decide) (by decide) (by decide))
  have f_70 := ((v6.keep K48q (own_nin hA (i := 6) (l := [5]) (by decide) (by decide))).keep K53q (ninS (own_ne hA (i := 6) (j := i7) (by omega) (by omega) (by omega)) (ninS (own_ne hA (i := 6) (j := i8) (by omega) (by omega) (by omega)) nin0))).other W64 (own_ne hA (i := 6) (j := 3) (by decide) (by decide) (by decide))
  have f_72 := ((e1.keep K48q).keep K53q).wr W64
  refine oc_private X64 hx hZ hown (wx hw 342) (wx hw 344) (wx hw 81) (wx hw 343) (wx hw 82) (wx hw 345) (by decide) (W := 0) (rmends l Z a0 hw [] p0 p1 A k5 (own_tw0 w0 w1 xl46) (own_tw1 w0 w1 xl46) k6 re h64 n0 Z64 f_65 f_66 f_67 f_68 f_69 f_70 hA hge hc rel) (by decide) (by decide) f_72 (argsL := [(.int p0), (.int p1)]) (rest := []) (by rw [hml]; rfl) (lenOf pd_15 rfl) rfl (Nat.le_of_eq rfl) (dx hby dd65 35) rfl e64 (by decide) (by decide) (fun v71 T71 Lc71 hQ71 X71 => ?_)
  obtain ⟨N71q, rfl, K71q, po71_0, po71_1⟩ := hQ71
  have N71 := Fr.app N64 N71q
  have K71 : Keep h0 T71.heap [(A 3), (A 5), (A 6), (A i7), (A i8)] := K64.trans K71q (allS (Or.inl (List.mem_of_getElem? (i := 1) rfl)) (allS (Or.inl (List.mem_of_getElem? (i := 2) rfl)) all0))
  have Z71 : n0 ≤ T71.heap.size := Nat.le_trans Z64 K71q.1
  refine sc X71 hx (dx hby dd65 36) ?_
  have f_73 := V64.keep K71q (own_nin hA (i := 3) (l := [5, 6]) (by decide) (by decide))
  have f_74 := ((f_49.keep K53q).wr W64).keep K71q
  have f_75 := (po53_0.other W64 (Or.inl (own_ne hA (i := i7) (j := 3) (by omega) (by omega) (by omega)))).keep K71q (ninS (own_ne hA (i := i7) (j := 5) (by omega) (by omega) (by omega)) (ninS (own_ne hA (i := i7) (j := 6) (by omega) (by omega) (by omega)) nin0))
  have f_76 := (po53_1.other W64 (Or.inl (own_ne hA (i := i7) (j := 3) (by omega) (by omega) (by omega)))).keep K71q (ninS (own_ne hA (i := i7) (j := 5) (by omega) (by omega) (by omega)) (ninS (own_ne hA (i := i7) (j := 6) (by omega) (by omega) (by omega)) nin0))
  have f_77 := (po53_2.other W64 (own_ne hA (i := i8) (j := 3) (by omega) (by omega) (by omega))).keep K71q (ninS (own_ne hA (i := i8) (j := 5) (by omega) (by omega) (by omega)) (ninS (own_ne hA (i := i8) (j := 6) (by omega) (by omega) (by omega)) nin0))
  exact own_retW X71 hx hret hlk rfl (Or.inl ⟨rfl, Or.inl rfl, _, rfl⟩) (dx hby dd65 37) rfl (by decide) (by decide) ⟨N71, rfl, K71, (own_RWB_upd hA P0 hri hi7 hi8 K71 ⟨_, _, f_73, (by rw [List.length_set]; exact hsl), (own_ints_set hsi _ _)⟩ ⟨_, _, _, po71_0, (own_has_put _ _ hc)⟩ ⟨_, _, po71_1, (by rw [List.length_set]; exact rel), (own_rows_set rei _ _ (own_row hpr hri).2.2)⟩ ⟨f_74, f_75, _, _, _, f_76, f_77, (own_N5_app N7 hbd _)⟩ hbd.1 (by omega))⟩
theorem dd59 : own_dec prog_55_method_14_code [(0, .aload_n 0, 1), (1, .getfield 17, 3), (4, .iload_n 1, 1), (5, .iaload, 1), (6, .istore_n 3, 1), (7, .aload_n 0, 1), (8, .getfield 24, 3), (11, .aload_n 0, 1), (12, .getfield 11, 3), (15, .iload_n 1, 1), (16, .aaload, 1), (17, .invokevirtual 85, 3), (20, .invokevirtual 117, 3), (23, .pop, 1), (24, .aload_n 0, 1), (25, .iload_n 1, 1), (26, .iload_n 2, 1), (27, .invokevirtual 60, 3), (30, .iload_n 3, 1), (31, .ireturn, 1)] := by unfold own_dec; decide +kernel
theorem ef_rtk (m : MethodId) (A : Nat → Addr) (p0 : Int32) (p1 : Int32) : entryFrame m #[(.ref (A 1)), (.int p0), (.int p1)] 4 = mkF m 0 #[vR (A 1), vI p0, vI p1, vU] [] := by first | (simp [entryFrame, mkF, argsToLocals, Value.category, vI, vR, vU]; done) | rfl
def Qrtk (Z : State) (p0 : Int32) (p1 : Int32) (A : Nat → Addr) (lo : Int) (b : Int) (P : Int64 → Int64 → Prop) (hd : Addr) (kH : ClassId) (hv : List Value) (ri : Nat) (i7 : Nat) (i8 : Nat) (h0 : Heap) (n0 : Nat) (v : Option Value) (h : Heap) (L : List Loc) : Prop := Fr n0 L ∧ ∃ (y : Int32), v = some (.int y) ∧ Keep h0 h [(A 3), (A 5), (A 6), (A i7), (A i8)] ∧ own_RWB Z h A 1 b (fun w0 w1 => own_mem w0 w1 p1)
set_option maxRecDepth 65536 in
set_option maxHeartbeats 40000000 in
theorem rmrtk (l : Launch) (Z : State) (a0 : Array Value) (hw : ∀ d ∈ tables_1, d.before a0 Z = true) (ws : List Jvm.Cond) (p0 : Int32) (p1 : Int32) (A : Nat → Addr) (lo : Int) (b : Int) (P : Int64 → Int64 → Prop) (hd : Addr) (kH : ClassId) (hv : List Value) (ri : Nat) (i7 : Nat) (i8 : Nat) (h0 : Heap) (n0 : Nat) (Z0 : n0 ≤ h0.size) (P0 : own_RWB Z h0 A lo b P) (P1 : Old Z n0 h0) (hA : own_Inc A 25) (hge : ∀ i, i < 25 → n0 ≤ A i) (hc : 1 ≤ p1.toInt ∧ p1.toInt ≤ 104) (hbd : 1 ≤ lo ∧ 1 ≤ b ∧ b ≤ 5) (hri : ri < 4) (hi7 : i7 = 7 + 2 * ri) (hi8 : i8 = 8 + 2 * ri) (hpr : p0 = Int32.ofInt (ri : Int)) (hS : Sta Z Z.heap "com/example/sixfold/sixfold/rows/Card" "HEADS" "[B" (.ref hd)) (hV : Arv Z Z.heap hd kH .byte (105 : Int32) hv (.int (0 : Int32))) (hints : own_ints hv) :
    own_Cw l Z (⟨"com/example/sixfold/sixfold/rows/Rows", "take", "(II)I"⟩ : MethodName) prog_55_method_14_code 4 (some .int) ws (own_rr 5 0 0 67) #[(.ref (A 1)), (.int p0), (.int p1)] h0 (Qrtk Z p0 p1 A lo b P hd kH hv ri i7 i8 h0 n0) := by
  refine own_body (plainFor_of_name pn_com_example_sixfold_sixfold_rows_Rows) ?_
  intro p e s m below meth c s₁ hx hby hml hZ hown hnm hret hlk X0 e0
  have N0 := Fr.nil n0
  refine own_go (fun t k => castTop (ef_rtk m A p0 p1) k) ?_
  obtain ⟨e1, f2, f3, f4, f6, ⟨k2, v2⟩, ⟨k3, hs, v3, hsl, hsi⟩, ⟨e4, f5, k5, w0, w1, v5, hP⟩, ⟨k6, re, v6, rel, rei⟩, -⟩ := id P0
  obtain ⟨e7, f7, k8, n7, vs7, s7, v8, N7⟩ := own_RWB_il P0 hri hi7 hi8
  refine sa X0 hx (dx hby dd59 0) ?_
  refine oc_getF X0 hx hZ hown (host := "") (Or.inl (wx hw 91)) Via.refl e0 f3 (dx hby dd59 1) (fun T41 X41 e41 => ?_)
  refine si X41 hx (dx hby dd59 2) ?_
  obtain ⟨xq42, exq42⟩ := hsi p0.toNatClampNeg
  show own_Gl _ _ _ _ (T41.setTop (mkF m 5 #[vR (A 1), vI p0, vI p1, vU] [(.int p0), (.ref (A 3))]))
  refine oc_iaload X41 hx hZ e41 v3 (own_row hpr hri).1 exq42 (dx hby dd59 3) ?_
  refine og (XS.istoreN X41.here hx rfl (dx hby dd59 4) rfl (l' := #[vR (A 1), vI p0, vI p1, vI xq42]) rfl) ?_
  refine sa X41 hx (dx hby dd59 5) ?_
  refine oc_getF X41 hx hZ hown (host := "") (Or.inl (wx hw 105)) Via.refl e41 f4 (dx hby dd59 6) (fun T44 X44 e44 => ?_)
  refine sa X44 hx (dx hby dd59 7) ?_
  refine oc_getF X44 hx hZ hown (host := "") (Or.inl (wx hw 89)) Via.refl e44 f2 (dx hby dd59 8) (fun T45 X45 e45 => ?_)
  refine si X45 hx (dx hby dd59 9) ?_
  show own_Gl _ _ _ _ (T45.setTop (mkF m 16 #[vR (A 1), vI p0, vI p1, vI xq42] [(.int p0), (.ref (A 2)), (.ref (A 4))]))
  refine oc_aaload (v := (.ref (A i7))) X45 hx hZ e45 v2 (own_row hpr hri).1 (own_cardat A hri hi7 (own_row hpr hri).2.1) (dx hby dd59 10) ?_
  have hbe : 1 ≤ lo ∧ b ≤ 5 := ⟨hbd.1, hbd.2.2⟩
  obtain ⟨xl47, exl47⟩ := N7.2.2.2 (n7 - (1 : Int32)).toNatClampNeg
  have hlxl47 := own_N5_last N7 ⟨hbd.1, by omega⟩
  refine oc_virtual X45 hx hZ hown (wx hw 405) (wx hw 406) (wx hw 408) (wx hw 407) (wx hw 111) (wx hw 409) (by decide) (W := 1) (rmlast l Z a0 hw [] (A i7) (A i8) k8 (5 : Int32) n7 vs7 xl47 h0 n0 Z0 e7 f7 s7 v8 hlxl47.1 hlxl47.2.1 hlxl47.2.2 exl47) (by decide) (by decide) e7 (argsL := []) (rest := [(.ref (A 4))]) (by rw [hml]; rfl) (lenOf pd_16 rfl) rfl (Nat.le_of_eq rfl) (dx hby dd59 11) rfl e45 (by decide) (by decide) (fun v48 T48 Lc48 hQ48 X48 => ?_)
  obtain ⟨N48q, rfl, hq48⟩ := hQ48
  have N48 := Fr.app N0 N48q
  refine oc_virtual X48 hx hZ hown (wx hw 411) (wx hw 366) (wx hw 368) (wx hw 367) (wx hw 95) (wx hw 369) (by decide) (W := 0) (rmtout l Z a0 hw [] (A 4) xl47 (A 5) k5 w0 w1 h0 n0 Z0 e4 f5 v5 (own_ne hA (i := 4) (j := 5) (by decide) (by decide) (by decide)) (hge 5 (by decide))) (by decide) (by decide) e4 (argsL := [(.int xl47)]) (rest := []) (by rw [hml]; rfl) (lenOf pd_0 rfl) rfl (Nat.le_of_eq rfl) (dx hby dd59 12) rfl hq48 (by decide) (by decide) (fun v49 T49 Lc49 hQ49 X49 => ?_)
  obtain ⟨N49q, rfl, K49q, po49_0⟩ := hQ49
  have N49 := Fr.app N48 N49q
  have K49 : Keep h0 T49.heap [(A 3), (A 5), (A 6), (A i7), (A i8)] := (Keep.refl h0 [(A 3), (A 5), (A 6), (A i7), (A i8)]).trans K49q (allS (Or.inl (List.mem_of_getElem? (i := 1) rfl)) all0)
  have Z49 : n0 ≤ T49.heap.size := Nat.le_trans Z0 K49q.1
  refine og (XS.pop X49.here hx rfl (dx hby dd59 13) rfl rfl) ?_
  refine sa X49 hx (dx hby dd59 14) ?_
  refine si X49 hx (dx hby dd59 15) ?_
  refine si X49 hx (dx hby dd59 16) ?_
  have f_50 := e1.keep K49q
  have f_51 := f4.keep K49q (own_nin hA (i := 1) (l := [5]) (by decide) (by decide))
  have f_52 := f6.keep K49q (own_nin hA (i := 1) (l := [5]) (by decide) (by decide))
  have f_53 := f2.keep K49q (own_nin hA (i := 1) (l := [5]) (by decide) (by decide))
  have f_54 := f3.keep K49q (own_nin hA (i := 1) (l := [5]) (by decide) (by decide))
  have f_55 := e4.keep K49q
  have f_56 := f5.keep K49q (own_nin hA (i := 4) (l := [5]) (by decide) (by decide))
  have f_57 := v6.keep K49q (own_nin hA (i := 6) (l := [5]) (by decide) (by decide))
  have f_58 := v2.keep K49q (own_nin hA (i := 2) (l := [5]) (by decide) (by decide))
  have f_59 := v3.keep K49q (own_nin hA (i := 3) (l := [5]) (by decide) (by decide))
  have f_60 : Old Z n0 T49.heap := (P1.keep K49q (allS (hge 5 (by decide)) all0))
  have f_61 := e7.keep K49q
  have f_62 := f7.keep K49q (ninS (own_ne hA (i := i7) (j := 5) (by omega) (by omega) (by omega)) nin0)
  have f_63 := s7.keep K49q (ninS (own_ne hA (i := i7) (j := 5) (by omega) (by omega) (by omega)) nin0)
  have f_64 := v8.keep K49q (ninS (own_ne hA (i := i8) (j := 5) (by omega) (by omega) (by omega)) nin0)
  refine oc_private X49 hx hZ hown (wx hw 330) (wx hw 332) (wx hw 81) (wx hw 331) (wx hw 82) (wx hw 333) (by decide) (W := 0) (rmrst l Z a0 hw [] p0 p1 A k5 (own_tw0 w0 w1 xl47) (own_tw1 w0 w1 xl47) k6 re k2 k3 hs k8 n7 vs7 hd kH hv ri i7 i8 T49.heap n0 Z49 f_50 f_51 f_52 f_53 f_54 f_55 f_56 po49_0 f_57 f_58 f_59 f_60 f_61 f_62 f_63 f_64 hA hge hc rel hsl N7.2.2.1 hri hi7 hi8 hpr hS hV hints) (by decide) (by decide) f_50 (argsL := [(.int p0), (.int p1)]) (rest := []) (by rw [hml]; rfl) (lenOf pd_15 rfl) rfl (Nat.le_of_eq rfl) (dx hby dd59 17) rfl rfl (by decide) (by decide) (fun v65 T65 Lc65 hQ65 X65 => ?_)
  obtain ⟨N65q, w65_y, rfl, K65q, po65_0, po65_1, po65_2, po65_3, po65_4, po65_5⟩ := hQ65
  have N65 := Fr.app N49 N65q
  have K65 : Keep h0 T65.heap [(A 3), (A 5), (A 6), (A i7), (A i8)] := K49.trans K65q (allS (Or.inl (List.mem_of_getElem? (i := 0) rfl)) (allS (Or.inl (List.mem_of_getElem? (i := 1) rfl)) (allS (Or.inl (List.mem_of_getElem? (i := 2) rfl)) (allS (Or.inl (List.mem_of_getElem? (i := 3) rfl)) (allS (Or.inl (List.mem_of_getElem? (i := 4) rfl)) all0)))))
  have Z65 : n0 ≤ T65.heap.size := Nat.le_trans Z49 K65q.1
  refine si X65 hx (dx hby dd59 18) ?_
  have f_66 := f_61.keep K65q
  exact own_retW X65 hx hret hlk rfl (Or.inl ⟨rfl, Or.inl rfl, _, rfl⟩) (dx hby dd59 19) rfl (by decide) (by decide) ⟨N65, xq42, rfl, K65, (own_RWB_upd hA P0 hri hi7 hi8 K65 ⟨_, _, po65_2, (by rw [List.length_set]; exact hsl), (own_ints_set hsi _ _)⟩ ⟨_, _, _, po65_0, (own_has_put _ _ hc)⟩ ⟨_, _, po65_1, (by rw [List.length_set]; exact rel), (own_rows_set rei _ _ (own_row hpr hri).2.2)⟩ ⟨f_66, po65_3, _, _, _, po65_4, po65_5, (own_N5_one N7 hbd.2.1 _)⟩ hbd.1 (by omega))⟩
theorem own_RWB_all {Z : State} {h h' : Heap} {A : Nat → Addr} {lo b lo' b' : Int} {P P' : Int64 → Int64 → Prop} (hA : own_Inc A 25) (R : own_RWB Z h A lo b P) (K : Keep h h' [(A 3), (A 5), (A 6), (A 7), (A 8), (A 9), (A 10), (A 11), (A 12), (A 13), (A 14)])
    (v3 : ∃ k vs, Arv Z h' (A 3) k .int (4 : Int32) vs (.int (0 : Int32)) ∧ vs.length = 4 ∧ own_ints vs) (v5 : ∃ k w0 w1, Arv Z h' (A 5) k .long (2 : Int32) [(.long w0), (.long w1)] (.long (0 : Int64)) ∧ P' w0 w1) (v6 : ∃ k vs, Arv Z h' (A 6) k .byte (105 : Int32) vs (.int (0 : Int32)) ∧ vs.length = 105 ∧ own_rows vs)
    (i7 : own_ILB Z h' (A 7) (A 8) (5 : Int32) (own_N5 lo' b')) (i9 : own_ILB Z h' (A 9) (A 10) (5 : Int32) (own_N5 lo' b')) (i11 : own_ILB Z h' (A 11) (A 12) (5 : Int32) (own_N5 lo' b')) (i13 : own_ILB Z h' (A 13) (A 14) (5 : Int32) (own_N5 lo' b')) : own_RWB Z h' A lo' b' P' := by
  have n2 : ∀ x, x < 5 → x ≠ 3 → A x ∉ ([3, 5, 6, 7, 8, 9, 10, 11, 12, 13, 14] : List Nat).map A := fun x hx hn => own_nin hA (by omega) fun j hj => by simp only [List.mem_cons, List.not_mem_nil, or_false] at hj; omega
  obtain ⟨e1, f2, f3, f4, f6, ⟨k2, v2⟩, -, ⟨e4, f5, -⟩, -⟩ := R
  exact ⟨e1.keep K, f2.keep K (n2 1 (by decide) (by decide)), f3.keep K (n2 1 (by decide) (by decide)), f4.keep K (n2 1 (by decide) (by decide)), f6.keep K (n2 1 (by decide) (by decide)), ⟨k2, v2.keep K (n2 2 (by decide) (by decide))⟩, v3, ⟨e4.keep K, f5.keep K (n2 4 (by decide) (by decide)), v5⟩, v6, i7, i9, i11, i13⟩
theorem dd40 : own_dec prog_55_method_3_code [(0, .aload_n 0, 1), (1, .getfield 24, 3), (4, .invokevirtual 47, 3), (7, .iconst 0, 1), (8, .istore_n 2, 1), (9, .iload_n 2, 1), (10, .iconst 4, 1), (11, .if_icmp .ge 27, 3), (14, .aload_n 0, 1), (15, .iload_n 2, 1), (16, .aload_n 1, 1), (17, .iload_n 2, 1), (18, .invokeinterface 50 2, 5), (23, .checkcast 54, 3), (26, .invokevirtual 56, 3), (29, .invokevirtual 60, 3), (32, .iinc 2 1, 3), (35, .goto (-26), 3), (38, .return_, 1)] := by unfold own_dec; decide +kernel
theorem ef_rstart (m : MethodId) (A : Nat → Addr) (r1 : Addr) : entryFrame m #[(.ref (A 1)), (.ref r1)] 3 = mkF m 0 #[vR (A 1), vR r1, vU] [] := by first | (simp [entryFrame, mkF, argsToLocals, Value.category, vI, vR, vU]; done) | rfl
def Qrstart (Z : State) (r1 : Addr) (A : Nat → Addr) (lo : Int) (b : Int) (P : Int64 → Int64 → Prop) (hd : Addr) (kH : ClassId) (hv : List Value) (ar : Addr) (kA : ClassId) (y0 : Addr) (y1 : Addr) (y2 : Addr) (y3 : Addr) (u4 : Value) (u5 : Value) (u6 : Value) (u7 : Value) (u8 : Value) (u9 : Value) (c0 : Int32) (c1 : Int32) (c2 : Int32) (c3 : Int32) (h0 : Heap) (n0 : Nat) (v : Option Value) (h : Heap) (L : List Loc) : Prop := Fr n0 L ∧ v = none ∧ Keep h0 h [(A 3), (A 5), (A 6), (A 7), (A 8), (A 9), (A 10), (A 11), (A 12), (A 13), (A 14)] ∧ own_RWB Z h A 1 1 (fun j0 j1 => j0 = own_q1 [c0, c1, c2, c3] ∧ j1 = own_q2 [c0, c1, c2, c3])
set_option maxRecDepth 65536 in
set_option maxHeartbeats 40000000 in
theorem rmrstart (l : Launch) (Z : State) (a0 : Array Value) (hw : ∀ d ∈ tables_1, d.before a0 Z = true) (ws : List Jvm.Cond) (r1 : Addr) (A : Nat → Addr) (lo : Int) (b : Int) (P : Int64 → Int64 → Prop) (hd : Addr) (kH : ClassId) (hv : List Value) (ar : Addr) (kA : ClassId) (y0 : Addr) (y1 : Addr) (y2 : Addr) (y3 : Addr) (u4 : Value) (u5 : Value) (u6 : Value) (u7 : Value) (u8 : Value) (u9 : Value) (c0 : Int32) (c1 : Int32) (c2 : Int32) (c3 : Int32) (h0 : Heap) (n0 : Nat) (Z0 : n0 ≤ h0.size) (P0 : own_RWB Z h0 A lo b P) (P1 : Old Z n0 h0) (P2 : Exa Z h0 r1 "java/util/ArrayList") (P3 : Fld Z h0 r1 "java/util/ArrayList" "size" "I" (.int (4 : Int32))) (P4 : Fld Z h0 r1 "java/util/ArrayList" "elementData" "[Ljava/lang/Object;" (.ref ar)) (P5 : Arv Z h0 ar kA (.object "java/lang/Object") (10 : Int32) [(.ref y0), (.ref y1), (.ref y2), (.ref y3), u4, u5, u6, u7, u8, u9] .null) (P6 : Exa Z h0 y0 "java/lang/Integer") (P7 : Fld Z h0 y0 "java/lang/Integer" "value" "I" (.int c0)) (P8 : Exa Z h0 y1 "java/lang/Integer") (P9 : Fld Z h0 y1 "java/lang/Integer" "value" "I" (.int c1)) (P10 : Exa Z h0 y2 "java/lang/Integer") (P11 : Fld Z h0 y2 "java/lang/Integer" "value" "I" (.int c2)) (P12 : Exa Z h0 y3 "java/lang/Integer") (P13 : Fld Z h0 y3 "java/lang/Integer" "value" "I" (.int c3)) (hA : own_Inc A 25) (hge : ∀ i, i < 25 → n0 ≤ A i) (hl_r1 : r1 < A 0) (hl_ar : ar < A 0) (hl_y0 : y0 < A 0) (hl_y1 : y1 < A 0) (hl_y2 : y2 < A 0) (hl_y3 : y3 < A 0) (hc_c0 : 1 ≤ c0.toInt ∧ c0.toInt ≤ 104) (hc_c1 : 1 ≤ c1.toInt ∧ c1.toInt ≤ 104) (hc_c2 : 1 ≤ c2.toInt ∧ c2.toInt ≤ 104) (hc_c3 : 1 ≤ c3.toInt ∧ c3.toInt ≤ 104) (hS : Sta Z Z.heap "com/example/sixfold/sixfold/rows/Card" "HEADS" "[B" (.ref hd)) (hV : Arv Z Z.heap hd kH .byte (105 : Int32) hv (.int (0 : Int32))) (hints : own_ints hv) :
    own_Cw l Z (⟨"com/example/sixfold/sixfold/rows/Rows", "start", "(Ljava/util/List;)V"⟩ : MethodName) prog_55_method_3_code 3 none ws (own_rr 5 0 0 67) #[(.ref (A 1)), (.ref r1)] h0 (Qrstart Z r1 A lo b P hd kH hv ar kA y0 y1 y2 y3 u4 u5 u6 u7 u8 u9 c0 c1 c2 c3 h0 n0) := by
  refine own_body (plainFor_of_name pn_com_example_sixfold_sixfold_rows_Rows) ?_
  intro p e s m below meth c s₁ hx hby hml hZ hown hnm hret hlk X0 e0
  have N0 := Fr.nil n0
  refine own_go (fun t k => castTop (ef_rstart m A r1) k) ?_
  obtain ⟨e1, f2, f3, f4, f6, ⟨k2, v2⟩, ⟨k3, hs, v3, hsl, hsi⟩, ⟨e4, f5, k5, w0, w1, v5, hP⟩, ⟨k6, re, v6, rel, rei⟩, -⟩ := id P0
  obtain ⟨e7, f7, k8, n7, vs7, s7, v8, N7⟩ := own_RWB_il P0 (r := 0) (i := 7) (j := 8) (by decide) rfl rfl
  obtain ⟨e9, f9, k10, n9, vs9, s9, v10, N9⟩ := own_RWB_il P0 (r := 1) (i := 9) (j := 10) (by decide) rfl rfl
  obtain ⟨e11, f11, k12, n11, vs11, s11, v12, N11⟩ := own_RWB_il P0 (r := 2) (i := 11) (j := 12) (by decide) rfl rfl
  obtain ⟨e13, f13, k14, n13, vs13, s13, v14, N13⟩ := own_RWB_il P0 (r := 3) (i := 13) (j := 14) (by decide) rfl rfl
  have na : ∀ i, (i < 25 ∧ ∀ j ∈ [3, 5, 6, 7, 8, 9, 10, 11, 12, 13, 14], j < 25 ∧ j ≠ i) → A i ∉ [(A 3), (A 5), (A 6), (A 7), (A 8), (A 9), (A 10), (A 11), (A 12), (A 13), (A 14)] := fun i h => own_nin hA h.1 h.2
  have ng : ∀ w ∈ [(A 3), (A 5), (A 6), (A 7), (A 8), (A 9), (A 10), (A 11), (A 12), (A 13), (A 14)], n0 ≤ w := (allS (hge 3 (by decide)) (allS (hge 5 (by decide)) (allS (hge 6 (by decide)) (allS (hge 7 (by decide)) (allS (hge 8 (by decide)) (allS (hge 9 (by decide)) (allS (hge 10 (by decide)) (allS (hge 11 (by decide)) (allS (hge 12 (by decide)) (allS (hge 13 (by decide)) (allS (hge 14 (by decide)) all0)))))))))))
  have nb : ∀ {w}, w < A 0 → w ∉ [(A 3), (A 5), (A 6), (A 7), (A 8), (A 9), (A 10), (A 11), (A 12), (A 13), (A 14)] := fun h => own_ninb hA h (l := [3, 5, 6, 7, 8, 9, 10, 11, 12, 13, 14]) (by decide)
  refine sa X0 hx (dx hby dd40 0) ?_
  refine oc_getF X0 hx hZ hown (host := "") (Or.inl (wx hw 105)) Via.refl e0 f4 (dx hby dd40 1) (fun T41 X41 e41 => ?_)
  refine oc_virtual X41 hx hZ hown (wx hw 307) (wx hw 211) (wx hw 213) (wx hw 212) (wx hw 95) (wx hw 214) (by decide) (W := 0) (rmcse l Z a0 hw [] (A 4) (A 5) k5 w0 w1 h0 n0 Z0 f5 v5 (own_ne hA (i := 4) (j := 5) (by decide) (by decide) (by decide)) (hge 5 (by decide))) (by decide) (by decide) e4 (argsL := []) (rest := []) (by rw [hml]; rfl) (lenOf pd_4 rfl) rfl (Nat.le_of_eq rfl) (dx hby dd40 2) rfl e41 (by decide) (by decide) (fun v42 T42 Lc42 hQ42 X42 => ?_)
  obtain ⟨N42q, rfl, K42q, po42_0⟩ := hQ42
  have N42 := Fr.app N0 N42q
  have K42 : Keep h0 T42.heap [(A 3), (A 5), (A 6), (A 7), (A 8), (A 9), (A 10), (A 11), (A 12), (A 13), (A 14)] := (Keep.refl h0 [(A 3), (A 5), (A 6), (A 7), (A 8), (A 9), (A 10), (A 11), (A 12), (A 13), (A 14)]).trans K42q (allS (Or.inl (List.mem_of_getElem? (i := 1) rfl)) all0)
  have Z42 : n0 ≤ T42.heap.size := Nat.le_trans Z0 K42q.1
  refine sc X42 hx (dx hby dd40 3) ?_
  refine og (XS.istoreN X42.here hx rfl (dx hby dd40 4) rfl (l' := #[vR (A 1), vR r1, vI (0 : Int32)]) rfl) ?_
  refine si X42 hx (dx hby dd40 5) ?_
  refine sc X42 hx (dx hby dd40 6) ?_
  refine og (XS.icmpNo X42.here hx rfl (dx hby dd40 7) rfl (tlt (by decide : (0 : Int32) < (4 : Int32))).2.1) ?_
  refine sa X42 hx (dx hby dd40 8) ?_
  refine si X42 hx (dx hby dd40 9) ?_
  refine sa X42 hx (dx hby dd40 10) ?_
  refine si X42 hx (dx hby dd40 11) ?_
  show own_Gl _ _ _ _ (T42.setTop (mkF m 18 #[vR (A 1), vR r1, vI (0 : Int32)] [(.int (0 : Int32)), (.ref r1), (.int (0 : Int32)), (.ref (A 1))]))
  have f_43 := P2.keep K42
  have f_44 := P3.keep K42 (nb hl_r1)
  have f_45 := P4.keep K42 (nb hl_r1)
  have f_46 := P5.keep K42 (nb hl_ar)
  refine oc_iface X42 hx hZ hown (wx hw 308) (wx hw 309) (wx hw 310) (wx hw 311) (wx hw 312) (wx hw 313) (wx hw 314) (wx hw 208) (wx hw 8) (wx hw 315) (by decide) (W := 2) (rmget l Z a0 hw [] r1 (0 : Int32) (4 : Int32) ar kA [(.ref y0), (.ref y1), (.ref y2), (.ref y3), u4, u5, u6, u7, u8, u9] y0 T42.heap n0 Z42 f_43 f_44 f_45 f_46 (by decide) (by decide) rfl (by decide)) (by decide) (by decide) f_43 (argsL := [(.int (0 : Int32))]) (rest := [(.int (0 : Int32)), (.ref (A 1))]) (by rw [hml]; rfl) (lenOf pd_10 rfl) rfl (Nat.le_of_eq rfl) (dx hby dd40 12) rfl rfl (by decide) (by decide) (fun v47 T47 Lc47 hQ47 X47 => ?_)
  obtain ⟨N47q, rfl, hq47⟩ := hQ47
  have N47 := Fr.app N42 N47q
  show own_Gl _ _ _ _ (T47.setTop (mkF m 23 #[vR (A 1), vR r1, vI (0 : Int32)] [(.ref y0), (.int (0 : Int32)), (.ref (A 1))]))
  have f_49 := P6.keep K42
  obtain ⟨T48, X48, e48, st48⟩ := castY X47 hx hZ hown (wx hw 328) hq47 (Ins.self f_49) (g := (mkF m 23 #[vR (A 1), vR r1, vI (0 : Int32)] [(.ref y0), (.int (0 : Int32)), (.ref (A 1))])) rfl rfl (dx hby dd40 13)
  refine og (st48 _) ?_
  have f_50 := P7.keep K42 (nb hl_y0)
  refine oc_virtual X48 hx hZ hown (wx hw 329) (wx hw 272) (wx hw 274) (wx hw 273) (wx hw 37) (wx hw 275) (by decide) (W := 2) (rmival l Z a0 hw [] y0 c0 T42.heap n0 Z42 f_50) (by decide) (by decide) f_49 (argsL := []) (rest := [(.int (0 : Int32)), (.ref (A 1))]) (by rw [hml]; rfl) (lenOf pd_16 rfl) rfl (Nat.le_of_eq rfl) (dx hby dd40 14) rfl e48 (by decide) (by decide) (fun v51 T51 Lc51 hQ51 X51 => ?_)
  obtain ⟨N51q, rfl, hq51⟩ := hQ51
  have N51 := Fr.app N47 N51q
  have f_52 := e1.keep K42
  have f_53 := f4.keep K42 (na 1 (by decide))
  have f_54 := f6.keep K42 (na 1 (by decide))
  have f_55 := f2.keep K42 (na 1 (by decide))
  have f_56 := f3.keep K42 (na 1 (by decide))
  have f_57 := e4.keep K42
  have f_58 := f5.keep K42 (na 4 (by decide))
  have f_59 := v6.keep K42q (own_nin hA (i := 6) (l := [5]) (by decide) (by decide))
  have f_60 := v2.keep K42 (na 2 (by decide))
  have f_61 := v3.keep K42q (own_nin hA (i := 3) (l := [5]) (by decide) (by decide))
  have f_62 := P1.keep K42 ng
  have f_63 := e7.keep K42q
  have f_64 := f7.keep K42q (own_nin hA (i := 7) (l := [5]) (by decide) (by decide))
  have f_65 := s7.keep K42q (own_nin hA (i := 7) (l := [5]) (by decide) (by decide))
  have f_66 := v8.keep K42q (own_nin hA (i := 8) (l := [5]) (by decide) (by decide))
  refine oc_private X51 hx hZ hown (wx hw 330) (wx hw 332) (wx hw 81) (wx hw 331) (wx hw 82) (wx hw 333) (by decide) (W := 0) (rmrst l Z a0 hw [] (0 : Int32) c0 A k5 (0 : Int64) (0 : Int64) k6 re k2 k3 hs k8 n7 vs7 hd kH hv 0 7 8 T42.heap n0 Z42 f_52 f_53 f_54 f_55 f_56 f_57 f_58 po42_0 f_59 f_60 f_61 f_62 f_63 f_64 f_65 f_66 hA hge hc_c0 (by first | exact rel | (simp only [List.length_set]; exact rel)) (by first | exact hsl | (simp only [List.length_set]; exact hsl)) N7.2.2.1 (by decide) (by decide) (by decide) (by decide) hS hV hints) (by decide) (by decide) f_52 (argsL := [(.int (0 : Int32)), (.int c0)]) (rest := []) (by rw [hml]; rfl) (lenOf pd_15 rfl) rfl (Nat.le_of_eq rfl) (dx hby dd40 15) rfl hq51 (by decide) (by decide) (fun v67 T67 Lc67 hQ67 X67 => ?_)
  obtain ⟨N67q, w67_y, rfl, K67q, po67_0, po67_1, po67_2, po67_3, po67_4, po67_5⟩ := hQ67
  have N67 := Fr.app N51 N67q
  have K67 : Keep h0 T67.heap [(A 3), (A 5), (A 6), (A 7), (A 8), (A 9), (A 10), (A 11), (A 12), (A 13), (A 14)] := K42.trans K67q (allS (Or.inl (List.mem_of_getElem? (i := 0) rfl)) (allS (Or.inl (List.mem_of_getElem? (i := 1) rfl)) (allS (Or.inl (List.mem_of_getElem? (i := 2) rfl)) (allS (Or.inl (List.mem_of_getElem? (i := 3) rfl)) (allS (Or.inl (List.mem_of_getElem? (i := 4) rfl)) all0)))))
  have Z67 : n0 ≤ T67.heap.size := Nat.le_trans Z42 K67q.1
  refine og (XS.iinc X67.here hx rfl (dx hby dd40 16) rfl (l' := #[vR (A 1), vR r1, vI (1 : Int32)]) rfl) ?_
  refine og (XS.goto X67.here hx rfl (pc0 := 35) (pc' := 9) rfl (dx hby dd40 17) (by decide) (by decide)) ?_
  refine si X67 hx (dx hby dd40 5) ?_
  refine sc X67 hx (dx hby dd40 6) ?_
  refine og (XS.icmpNo X67.here hx rfl (dx hby dd40 7) rfl (tlt (by decide : (1 : Int32) < (4 : Int32))).2.1) ?_
  refine sa X67 hx (dx hby dd40 8) ?_
  refine si X67 hx (dx hby dd40 9) ?_
  refine sa X67 hx (dx hby dd40 10) ?_
  refine si X67 hx (dx hby dd40 11) ?_
  show own_Gl _ _ _ _ (T67.setTop (mkF m 18 #[vR (A 1), vR r1, vI (1 : Int32)] [(.int (1 : Int32)), (.ref r1), (.int (1 : Int32)), (.ref (A 1))]))
  have f_68 := P2.keep K67
  have f_69 := P3.keep K67 (nb hl_r1)
  have f_70 := P4.keep K67 (nb hl_r1)
  have f_71 := P5.keep K67 (nb hl_ar)
  refine oc_iface X67 hx hZ hown (wx hw 308) (wx hw 309) (wx hw 310) (wx hw 311) (wx hw 312) (wx hw 313) (wx hw 314) (wx hw 208) (wx hw 8) (wx hw 315) (by decide) (W := 2) (rmget l Z a0 hw [] r1 (1 : Int32) (4 : Int32) ar kA [(.ref y0), (.ref y1), (.ref y2), (.ref y3), u4, u5, u6, u7, u8, u9] y1 T67.heap n0 Z67 f_68 f_69 f_70 f_71 (by decide) (by decide) rfl (by decide)) (by decide) (by decide) f_68 (argsL := [(.int (1 : Int32))]) (rest := [(.int (1 : Int32)), (.ref (A 1))]) (by rw [hml]; rfl) (lenOf pd_10 rfl) rfl (Nat.le_of_eq rfl) (dx hby dd40 12) rfl rfl (by decide) (by decide) (fun v72 T72 Lc72 hQ72 X72 => ?_)
  obtain ⟨N72q, rfl, hq72⟩ := hQ72
  have N72 := Fr.app N67 N72q
  show own_Gl _ _ _ _ (T72.setTop (mkF m 23 #[vR (A 1), vR r1, vI (1 : Int32)] [(.ref y1), (.int (1 : Int32)), (.ref (A 1))]))
  have f_74 := P8.keep K67
  obtain ⟨T73, X73, e73, st73⟩ := castY X72 hx hZ hown (wx hw 328) hq72 (Ins.self f_74) (g := (mkF m 23 #[vR (A 1), vR r1, vI (1 : Int32)] [(.ref y1), (.int (1 : Int32)), (.ref (A 1))])) rfl rfl (dx hby dd40 13)
  refine og (st73 _) ?_
  have f_75 := P9.keep K67 (nb hl_y1)
  refine oc_virtual X73 hx hZ hown (wx hw 329) (wx hw 272) (wx hw 274) (wx hw 273) (wx hw 37) (wx hw 275) (by decide) (W := 2) (rmival l Z a0 hw [] y1 c1 T67.heap n0 Z67 f_75) (by decide) (by decide) f_74 (argsL := []) (rest := [(.int (1 : Int32)), (.ref (A 1))]) (by rw [hml]; rfl) (lenOf pd_16 rfl) rfl (Nat.le_of_eq rfl) (dx hby dd40 14) rfl e73 (by decide) (by decide) (fun v76 T76 Lc76 hQ76 X76 => ?_)
  obtain ⟨N76q, rfl, hq76⟩ := hQ76
  have N76 := Fr.app N72 N76q
  have f_77 := e1.keep K67
  have f_78 := f4.keep K67 (na 1 (by decide))
  have f_79 := f6.keep K67 (na 1 (by decide))
  have f_80 := f2.keep K67 (na 1 (by decide))
  have f_81 := f3.keep K67 (na 1 (by decide))
  have f_82 := e4.keep K67
  have f_83 := f5.keep K67 (na 4 (by decide))
  have f_84 := v2.keep K67 (na 2 (by decide))
  have f_85 := P1.keep K67 ng
  have f_86 := (e9.keep K42q).keep K67q
  have f_87 := (f9.keep K42q (own_nin hA (i := 9) (l := [5]) (by decide) (by decide))).keep K67q (own_nin hA (i := 9) (l := [3, 5, 6, 7, 8]) (by decide) (by decide))
  have f_88 := (s9.keep K42q (own_nin hA (i := 9) (l := [5]) (by decide) (by decide))).keep K67q (own_nin hA (i := 9) (l := [3, 5, 6, 7, 8]) (by decide) (by decide))
  have f_89 := (v10.keep K42q (own_nin hA (i := 10) (l := [5]) (by decide) (by decide))).keep K67q (own_nin hA (i := 10) (l := [3, 5, 6, 7, 8]) (by decide) (by decide))
  refine oc_private X76 hx hZ hown (wx hw 330) (wx hw 332) (wx hw 81) (wx hw 331) (wx hw 82) (wx hw 333) (by decide) (W := 0) (rmrst l Z a0 hw [] (1 : Int32) c1 A k5 (own_pw0 (0 : Int64) (0 : Int64) c0) (own_pw1 (0 : Int64) (0 : Int64) c0) k6 (re.set c0.toNatClampNeg (.int (nar .byte ((0 : Int32).toInt8.toInt32)))) k2 k3 (hs.set 0 (.int w67_y)) k10 n9 vs9 hd kH hv 1 9 10 T67.heap n0 Z67 f_77 f_78 f_79 f_80 f_81 f_82 f_83 po67_0 po67_1 f_84 po67_2 f_85 f_86 f_87 f_88 f_89 hA hge hc_c1 (by first | exact rel | (simp only [List.length_set]; exact rel)) (by first | exact hsl | (simp only [List.length_set]; exact hsl)) N9.2.2.1 (by decide) (by decide) (by decide) (by decide) hS hV hints) (by decide) (by decide) f_77 (argsL := [(.int (1 : Int32)), (.int c1)]) (rest := []) (by rw [hml]; rfl) (lenOf pd_15 rfl) rfl (Nat.le_of_eq rfl) (dx hby dd40 15) rfl hq76 (by decide) (by decide) (fun v90 T90 Lc90 hQ90 X90 => ?_)
  obtain ⟨N90q, w90_y, rfl, K90q, po90_0, po90_1, po90_2, po90_3, po90_4, po90_5⟩ := hQ90
  have N90 := Fr.app N76 N90q
  have K90 : Keep h0 T90.heap [(A 3), (A 5), (A 6), (A 7), (A 8), (A 9), (A 10), (A 11), (A 12), (A 13), (A 14)] := K67.trans K90q (allS (Or.inl (List.mem_of_getElem? (i := 0) rfl)) (allS (Or.inl (List.mem_of_getElem? (i := 1) rfl)) (allS (Or.inl (List.mem_of_getElem? (i := 2) rfl)) (allS (Or.inl (List.mem_of_getElem? (i := 5) rfl)) (allS (Or.inl (List.mem_of_getElem? (i := 6) rfl)) all0)))))
  have Z90 : n0 ≤ T90.heap.size := Nat.le_trans Z67 K90q.1
  refine og (XS.iinc X90.here hx rfl (dx hby dd40 16) rfl (l' := #[vR (A 1), vR r1, vI (2 : Int32)]) rfl) ?_
  refine og (XS.goto X90.here hx rfl (pc0 := 35) (pc' := 9) rfl (dx hby dd40 17) (by decide) (by decide)) ?_
  refine si X90 hx (dx hby dd40 5) ?_
  refine sc X90 hx (dx hby dd40 6) ?_
  refine og (XS.icmpNo X90.here hx rfl (dx hby dd40 7) rfl (tlt (by decide : (2 : Int32) < (4 : Int32))).2.1) ?_
  refine sa X90 hx (dx hby dd40 8) ?_
  refine si X90 hx (dx hby dd40 9) ?_
  refine sa X90 hx (dx hby dd40 10) ?_
  refine si X90 hx (dx hby dd40 11) ?_
  show own_Gl _ _ _ _ (T90.setTop (mkF m 18 #[vR (A 1), vR r1, vI (2 : Int32)] [(.int (2 : Int32)), (.ref r1), (.int (2 : Int32)), (.ref (A 1))]))
  have f_91 := P2.keep K90
  have f_92 := P3.keep K90 (nb hl_r1)
  have f_93 := P4.keep K90 (nb hl_r1)
  have f_94 := P5.keep K90 (nb hl_ar)
  refine oc_iface X90 hx hZ hown (wx hw 308) (wx hw 309) (wx hw 310) (wx hw 311) (wx hw 312) (wx hw 313) (wx hw 314) (wx hw 208) (wx hw 8) (wx hw 315) (by decide) (W := 2) (rmget l Z a0 hw [] r1 (2 : Int32) (4 : Int32) ar kA [(.ref y0), (.ref y1), (.ref y2), (.ref y3), u4, u5, u6, u7, u8, u9] y2 T90.heap n0 Z90 f_91 f_92 f_93 f_94 (by decide) (by decide) rfl (by decide)) (by decide) (by decide) f_91 (argsL := [(.int (2 : Int32))]) (rest := [(.int (2 : Int32)), (.ref (A 1))]) (by rw [hml]; rfl) (lenOf pd_10 rfl) rfl (Nat.le_of_eq rfl) (dx hby dd40 12) rfl rfl (by decide) (by decide) (fun v95 T95 Lc95 hQ95 X95 => ?_)
  obtain ⟨N95q, rfl, hq95⟩ := hQ95
  have N95 := Fr.app N90 N95q
  show own_Gl _ _ _ _ (T95.setTop (mkF m 23 #[vR (A 1), vR r1, vI (2 : Int32)] [(.ref y2), (.int (2 : Int32)), (.ref (A 1))]))
  have f_97 := P10.keep K90
  obtain ⟨T96, X96, e96, st96⟩ := castY X95 hx hZ hown (wx hw 328) hq95 (Ins.self f_97) (g := (mkF m 23 #[vR (A 1), vR r1, vI (2 : Int32)] [(.ref y2), (.int (2 : Int32)), (.ref (A 1))])) rfl rfl (dx hby dd40 13)
  refine og (st96 _) ?_
  have f_98 := P11.keep K90 (nb hl_y2)
  refine oc_virtual X96 hx hZ hown (wx hw 329) (wx hw 272) (wx hw 274) (wx hw 273) (wx hw 37) (wx hw 275) (by decide) (W := 2) (rmival l Z a0 hw [] y2 c2 T90.heap n0 Z90 f_98) (by decide) (by decide) f_97 (argsL := []) (rest := [(.int (2 : Int32)), (.ref (A 1))]) (by rw [hml]; rfl) (lenOf pd_16 rfl) rfl (Nat.le_of_eq rfl) (dx hby dd40 14) rfl e96 (by decide) (by decide) (fun v99 T99 Lc99 hQ99 X99 => ?_)
  obtain ⟨N99q, rfl, hq99⟩ := hQ99
  have N99 := Fr.app N95 N99q
  have f_100 := e1.keep K90
  have f_101 := f4.keep K90 (na 1 (by decide))
  have f_102 := f6.keep K90 (na 1 (by decide))
  have f_103 := f2.keep K90 (na 1 (by decide))
  have f_104 := f3.keep K90 (na 1 (by decide))
  have f_105 := e4.keep K90
  have f_106 := f5.keep K90 (na 4 (by decide))
  have f_107 := v2.keep K90 (na 2 (by decide))
  have f_108 := P1.keep K90 ng
  have f_109 := ((e11.keep K42q).keep K67q).keep K90q
  have f_110 := ((f11.keep K42q (own_nin hA (i := 11) (l := [5]) (by decide) (by decide))).keep K67q (own_nin hA (i := 11) (l := [3, 5, 6, 7, 8]) (by decide) (by decide))).keep K90q (own_nin hA (i := 11) (l := [3, 5, 6, 9, 10]) (by decide) (by decide))
  have f_111 := ((s11.keep K42q (own_nin hA (i := 11) (l := [5]) (by decide) (by decide))).keep K67q (own_nin hA (i := 11) (l := [3, 5, 6, 7, 8]) (by decide) (by decide))).keep K90q (own_nin hA (i := 11) (l := [3, 5, 6, 9, 10]) (by decide) (by decide))
  have f_112 := ((v12.keep K42q (own_nin hA (i := 12) (l := [5]) (by decide) (by decide))).keep K67q (own_nin hA (i := 12) (l := [3, 5, 6, 7, 8]) (by decide) (by decide))).keep K90q (own_nin hA (i := 12) (l := [3, 5, 6, 9, 10]) (by decide) (by decide))
  refine oc_private X99 hx hZ hown (wx hw 330) (wx hw 332) (wx hw 81) (wx hw 331) (wx hw 82) (wx hw 333) (by decide) (W := 0) (rmrst l Z a0 hw [] (2 : Int32) c2 A k5 (own_pw0 (own_pw0 (0 : Int64) (0 : Int64) c0) (own_pw1 (0 : Int64) (0 : Int64) c0) c1) (own_pw1 (own_pw0 (0 : Int64) (0 : Int64) c0) (own_pw1 (0 : Int64) (0 : Int64) c0) c1) k6 ((re.set c0.toNatClampNeg (.int (nar .byte ((0 : Int32).toInt8.toInt32)))).set c1.toNatClampNeg (.int (nar .byte ((1 : Int32).toInt8.toInt32)))) k2 k3 ((hs.set 0 (.int w67_y)).set 1 (.int w90_y)) k12 n11 vs11 hd kH hv 2 11 12 T90.heap n0 Z90 f_100 f_101 f_102 f_103 f_104 f_105 f_106 po90_0 po90_1 f_107 po90_2 f_108 f_109 f_110 f_111 f_112 hA hge hc_c2 (by first | exact rel | (simp only [List.length_set]; exact rel)) (by first | exact hsl | (simp only [List.length_set]; exact hsl)) N11.2.2.1 (by decide) (by decide) (by decide) (by decide) hS hV hints) (by decide) (by decide) f_100 (argsL := [(.int (2 : Int32)), (.int c2)]) (rest := []) (by rw [hml]; rfl) (lenOf pd_15 rfl) rfl (Nat.le_of_eq rfl) (dx hby dd40 15) rfl hq99 (by decide) (by decide) (fun v113 T113 Lc113 hQ113 X113 => ?_)
  obtain ⟨N113q, w113_y, rfl, K113q, po113_0, po113_1, po113_2, po113_3, po113_4, po113_5⟩ := hQ113
  have N113 := Fr.app N99 N113q
  have K113 : Keep h0 T113.heap [(A 3), (A 5), (A 6), (A 7), (A 8), (A 9), (A 10), (A 11), (A 12), (A 13), (A 14)] := K90.trans K113q (allS (Or.inl (List.mem_of_getElem? (i := 0) rfl)) (allS (Or.inl (List.mem_of_getElem? (i := 1) rfl)) (allS (Or.inl (List.mem_of_getElem? (i := 2) rfl)) (allS (Or.inl (List.mem_of_getElem? (i := 7) rfl)) (allS (Or.inl (List.mem_of_getElem? (i := 8) rfl)) all0)))))
  have Z113 : n0 ≤ T113.heap.size := Nat.le_trans Z90 K113q.1
  refine og (XS.iinc X113.here hx rfl (dx hby dd40 16) rfl (l' := #[vR (A 1), vR r1, vI (3 : Int32)]) rfl) ?_
  refine og (XS.goto X113.here hx rfl (pc0 := 35) (pc' := 9) rfl (dx hby dd40 17) (by decide) (by decide)) ?_
  refine si X113 hx (dx hby dd40 5) ?_
  refine sc X113 hx (dx hby dd40 6) ?_
  refine og (XS.icmpNo X113.here hx rfl (dx hby dd40 7) rfl (tlt (by decide : (3 : Int32) < (4 : Int32))).2.1) ?_
  refine sa X113 hx (dx hby dd40 8) ?_
  refine si X113 hx (dx hby dd40 9) ?_
  refine sa X113 hx (dx hby dd40 10) ?_
  refine si X113 hx (dx hby dd40 11) ?_
  show own_Gl _ _ _ _ (T113.setTop (mkF m 18 #[vR (A 1), vR r1, vI (3 : Int32)] [(.int (3 : Int32)), (.ref r1), (.int (3 : Int32)), (.ref (A 1))]))
  have f_114 := P2.keep K113
  have f_115 := P3.keep K113 (nb hl_r1)
  have f_116 := P4.keep K113 (nb hl_r1)
  have f_117 := P5.keep K113 (nb hl_ar)
  refine oc_iface X113 hx hZ hown (wx hw 308) (wx hw 309) (wx hw 310) (wx hw 311) (wx hw 312) (wx hw 313) (wx hw 314) (wx hw 208) (wx hw 8) (wx hw 315) (by decide) (W := 2) (rmget l Z a0 hw [] r1 (3 : Int32) (4 : Int32) ar kA [(.ref y0), (.ref y1), (.ref y2), (.ref y3), u4, u5, u6, u7, u8, u9] y3 T113.heap n0 Z113 f_114 f_115 f_116 f_117 (by decide) (by decide) rfl (by decide)) (by decide) (by decide) f_114 (argsL := [(.int (3 : Int32))]) (rest := [(.int (3 : Int32)), (.ref (A 1))]) (by rw [hml]; rfl) (lenOf pd_10 rfl) rfl (Nat.le_of_eq rfl) (dx hby dd40 12) rfl rfl (by decide) (by decide) (fun v118 T118 Lc118 hQ118 X118 => ?_)
  obtain ⟨N118q, rfl, hq118⟩ := hQ118
  have N118 := Fr.app N113 N118q
  show own_Gl _ _ _ _ (T118.setTop (mkF m 23 #[vR (A 1), vR r1, vI (3 : Int32)] [(.ref y3), (.int (3 : Int32)), (.ref (A 1))]))
  have f_120 := P12.keep K113
  obtain ⟨T119, X119, e119, st119⟩ := castY X118 hx hZ hown (wx hw 328) hq118 (Ins.self f_120) (g := (mkF m 23 #[vR (A 1), vR r1, vI (3 : Int32)] [(.ref y3), (.int (3 : Int32)), (.ref (A 1))])) rfl rfl (dx hby dd40 13)
  refine og (st119 _) ?_
  have f_121 := P13.keep K113 (nb hl_y3)
  refine oc_virtual X119 hx hZ hown (wx hw 329) (wx hw 272) (wx hw 274) (wx hw 273) (wx hw 37) (wx hw 275) (by decide) (W := 2) (rmival l Z a0 hw [] y3 c3 T113.heap n0 Z113 f_121) (by decide) (by decide) f_120 (argsL := []) (rest := [(.int (3 : Int32)), (.ref (A 1))]) (by rw [hml]; rfl) (lenOf pd_16 rfl) rfl (Nat.le_of_eq rfl) (dx hby dd40 14) rfl e119 (by decide) (by decide) (fun v122 T122 Lc122 hQ122 X122 => ?_)
  obtain ⟨N122q, rfl, hq122⟩ := hQ122
  have N122 := Fr.app N118 N122q
  have f_123 := e1.keep K113
  have f_124 := f4.keep K113 (na 1 (by decide))
  have f_125 := f6.keep K113 (na 1 (by decide))
  have f_126 := f2.keep K113 (na 1 (by decide))
  have f_127 := f3.keep K113 (na 1 (by decide))
  have f_128 := e4.keep K113
  have f_129 := f5.keep K113 (na 4 (by decide))
  have f_130 := v2.keep K113 (na 2 (by decide))
  have f_131 := P1.keep K113 ng
  have f_132 := (((e13.keep K42q).keep K67q).keep K90q).keep K113q
  have f_133 := (((f13.keep K42q (own_nin hA (i := 13) (l := [5]) (by decide) (by decide))).keep K67q (own_nin hA (i := 13) (l := [3, 5, 6, 7, 8]) (by decide) (by decide))).keep K90q (own_nin hA (i := 13) (l := [3, 5, 6, 9, 10]) (by decide) (by decide))).keep K113q (own_nin hA (i := 13) (l := [3, 5, 6, 11, 12]) (by decide) (by decide))
  have f_134 := (((s13.keep K42q (own_nin hA (i := 13) (l := [5]) (by decide) (by decide))).keep K67q (own_nin hA (i := 13) (l := [3, 5, 6, 7, 8]) (by decide) (by decide))).keep K90q (own_nin hA (i := 13) (l := [3, 5, 6, 9, 10]) (by decide) (by decide))).keep K113q (own_nin hA (i := 13) (l := [3, 5, 6, 11, 12]) (by decide) (by decide))
  have f_135 := (((v14.keep K42q (own_nin hA (i := 14) (l := [5]) (by decide) (by decide))).keep K67q (own_nin hA (i := 14) (l := [3, 5, 6, 7, 8]) (by decide) (by decide))).keep K90q (own_nin hA (i := 14) (l := [3, 5, 6, 9, 10]) (by decide) (by decide))).keep K113q (own_nin hA (i := 14) (l := [3, 5, 6, 11, 12]) (by decide) (by decide))
  refine oc_private X122 hx hZ hown (wx hw 330) (wx hw 332) (wx hw 81) (wx hw 331) (wx hw 82) (wx hw 333) (by decide) (W := 0) (rmrst l Z a0 hw [] (3 : Int32) c3 A k5 (own_pw0 (own_pw0 (own_pw0 (0 : Int64) (0 : Int64) c0) (own_pw1 (0 : Int64) (0 : Int64) c0) c1) (own_pw1 (own_pw0 (0 : Int64) (0 : Int64) c0) (own_pw1 (0 : Int64) (0 : Int64) c0) c1) c2) (own_pw1 (own_pw0 (own_pw0 (0 : Int64) (0 : Int64) c0) (own_pw1 (0 : Int64) (0 : Int64) c0) c1) (own_pw1 (own_pw0 (0 : Int64) (0 : Int64) c0) (own_pw1 (0 : Int64) (0 : Int64) c0) c1) c2) k6 (((re.set c0.toNatClampNeg (.int (nar .byte ((0 : Int32).toInt8.toInt32)))).set c1.toNatClampNeg (.int (nar .byte ((1 : Int32).toInt8.toInt32)))).set c2.toNatClampNeg (.int (nar .byte ((2 : Int32).toInt8.toInt32)))) k2 k3 (((hs.set 0 (.int w67_y)).set 1 (.int w90_y)).set 2 (.int w113_y)) k14 n13 vs13 hd kH hv 3 13 14 T113.heap n0 Z113 f_123 f_124 f_125 f_126 f_127 f_128 f_129 po113_0 po113_1 f_130 po113_2 f_131 f_132 f_133 f_134 f_135 hA hge hc_c3 (by first | exact rel | (simp only [List.length_set]; exact rel)) (by first | exact hsl | (simp only [List.length_set]; exact hsl)) N13.2.2.1 (by decide) (by decide) (by decide) (by decide) hS hV hints) (by decide) (by decide) f_123 (argsL := [(.int (3 : Int32)), (.int c3)]) (rest := []) (by rw [hml]; rfl) (lenOf pd_15 rfl) rfl (Nat.le_of_eq rfl) (dx hby dd40 15) rfl hq122 (by decide) (by decide) (fun v136 T136 Lc136 hQ136 X136 => ?_)
  obtain ⟨N136q, w136_y, rfl, K136q, po136_0, po136_1, po136_2, po136_3, po136_4, po136_5⟩ := hQ136
  have N136 := Fr.app N122 N136q
  have K136 : Keep h0 T136.heap [(A 3), (A 5), (A 6), (A 7), (A 8), (A 9), (A 10), (A 11), (A 12), (A 13), (A 14)] := K113.trans K136q (allS (Or.inl (List.mem_of_getElem? (i := 0) rfl)) (allS (Or.inl (List.mem_of_getElem? (i := 1) rfl)) (allS (Or.inl (List.mem_of_getElem? (i := 2) rfl)) (allS (Or.inl (List.mem_of_getElem? (i := 9) rfl)) (allS (Or.inl (List.mem_of_getElem? (i := 10) rfl)) all0)))))
  have Z136 : n0 ≤ T136.heap.size := Nat.le_trans Z113 K136q.1
  refine og (XS.iinc X136.here hx rfl (dx hby dd40 16) rfl (l' := #[vR (A 1), vR r1, vI (4 : Int32)]) rfl) ?_
  refine og (XS.goto X136.here hx rfl (pc0 := 35) (pc' := 9) rfl (dx hby dd40 17) (by decide) (by decide)) ?_
  refine si X136 hx (dx hby dd40 5) ?_
  refine sc X136 hx (dx hby dd40 6) ?_
  refine og (XS.icmpYes X136.here hx rfl (pc0 := 11) (pc' := 38) rfl (dx hby dd40 7) rfl (flt (by decide : ¬ ((4 : Int32) < (4 : Int32)))).2.1 (by decide) (by decide)) ?_
  have f_137 := (((f_63.keep K67q).keep K90q).keep K113q).keep K136q
  have f_138 := ((po67_3.keep K90q (own_nin hA (i := 7) (l := [3, 5, 6, 9, 10]) (by decide) (by decide))).keep K113q (own_nin hA (i := 7) (l := [3, 5, 6, 11, 12]) (by decide) (by decide))).keep K136q (own_nin hA (i := 7) (l := [3, 5, 6, 13, 14]) (by decide) (by decide))
  have f_139 := ((po67_4.keep K90q (own_nin hA (i := 7) (l := [3, 5, 6, 9, 10]) (by decide) (by decide))).keep K113q (own_nin hA (i := 7) (l := [3, 5, 6, 11, 12]) (by decide) (by decide))).keep K136q (own_nin hA (i := 7) (l := [3, 5, 6, 13, 14]) (by decide) (by decide))
  have f_140 := ((po67_5.keep K90q (own_nin hA (i := 8) (l := [3, 5, 6, 9, 10]) (by decide) (by decide))).keep K113q (own_nin hA (i := 8) (l := [3, 5, 6, 11, 12]) (by decide) (by decide))).keep K136q (own_nin hA (i := 8) (l := [3, 5, 6, 13, 14]) (by decide) (by decide))
  have f_141 := ((f_86.keep K90q).keep K113q).keep K136q
  have f_142 := (po90_3.keep K113q (own_nin hA (i := 9) (l := [3, 5, 6, 11, 12]) (by decide) (by decide))).keep K136q (own_nin hA (i := 9) (l := [3, 5, 6, 13, 14]) (by decide) (by decide))
  have f_143 := (po90_4.keep K113q (own_nin hA (i := 9) (l := [3, 5, 6, 11, 12]) (by decide) (by decide))).keep K136q (own_nin hA (i := 9) (l := [3, 5, 6, 13, 14]) (by decide) (by decide))
  have f_144 := (po90_5.keep K113q (own_nin hA (i := 10) (l := [3, 5, 6, 11, 12]) (by decide) (by decide))).keep K136q (own_nin hA (i := 10) (l := [3, 5, 6, 13, 14]) (by decide) (by decide))
  have f_145 := (f_109.keep K113q).keep K136q
  have f_146 := po113_3.keep K136q (own_nin hA (i := 11) (l := [3, 5, 6, 13, 14]) (by decide) (by decide))
  have f_147 := po113_4.keep K136q (own_nin hA (i := 11) (l := [3, 5, 6, 13, 14]) (by decide) (by decide))
  have f_148 := po113_5.keep K136q (own_nin hA (i := 12) (l := [3, 5, 6, 13, 14]) (by decide) (by decide))
  have f_149 := f_132.keep K136q
  exact own_retV X136 hx hret hlk (dx hby dd40 18) rfl (by decide) (by decide) ⟨N136, rfl, K136, (own_RWB_all hA P0 K136 ⟨_, _, po136_2, (by first | exact hsl | (simp only [List.length_set]; exact hsl)), (own_ints_set (own_ints_set (own_ints_set (own_ints_set hsi _ _) _ _) _ _) _ _)⟩ ⟨_, _, _, po136_0, rfl, rfl⟩ ⟨_, _, po136_1, (by first | exact rel | (simp only [List.length_set]; exact rel)), (own_rows_set (own_rows_set (own_rows_set (own_rows_set rei _ _ (by decide)) _ _ (by decide)) _ _ (by decide)) _ _ (by decide))⟩ ⟨f_137, f_138, _, _, _, f_139, f_140, (own_N5_one N7 (by decide) _)⟩ ⟨f_141, f_142, _, _, _, f_143, f_144, (own_N5_one N9 (by decide) _)⟩ ⟨f_145, f_146, _, _, _, f_147, f_148, (own_N5_one N11 (by decide) _)⟩ ⟨f_149, po136_3, _, _, _, po136_4, po136_5, (own_N5_one N13 (by decide) _)⟩)⟩
theorem dd61 : own_dec prog_66_method_14_code [(0, .aload_n 0, 1), (1, .getfield 52, 3), (4, .iload_n 1, 1), (5, .aload_n 0, 1), (6, .getfield 52, 3), (9, .iload_n 1, 1), (10, .invokevirtual 119, 3), (13, .iload_n 2, 1), (14, .iadd, 1), (15, .invokevirtual 188, 3), (18, .return_, 1)] := by unfold own_dec; decide +kernel
theorem pn_com_example_sixfold_sixfold_rows_Table : plainName "com/example/sixfold/sixfold/rows/Table" = true := by first | (simp [plainName, overriddenIn]; done) | decide +kernel
theorem ef_charge (m : MethodId) (A : Nat → Addr) (p0 : Int32) (p1 : Int32) : entryFrame m #[(.ref (A 0)), (.int p0), (.int p1)] 3 = mkF m 0 #[vR (A 0), vI p0, vI p1] [] := by first | (simp [entryFrame, mkF, argsToLocals, Value.category, vI, vR, vU]; done) | rfl
def Qcharge (Z : State) (p0 : Int32) (p1 : Int32) (A : Nat → Addr) (k21 : ClassId) (n20 : Int32) (vt : List Value) (s0 : Int32) (x : Int32) (h0 : Heap) (n0 : Nat) (v : Option Value) (h : Heap) (L : List Loc) : Prop := Fr n0 L ∧ v = none ∧ Keep h0 h [(A 21)] ∧ Arv Z h (A 21) k21 .int s0 (vt.set p0.toNatClampNeg (.int (x + p1))) (.int (0 : Int32))
set_option maxRecDepth 65536 in
set_option maxHeartbeats 40000000 in
theorem rmcharge (l : Launch) (Z : State) (a0 : Array Value) (hw : ∀ d ∈ tables_1, d.before a0 Z = true) (ws : List Jvm.Cond) (p0 : Int32) (p1 : Int32) (A : Nat → Addr) (k21 : ClassId) (n20 : Int32) (vt : List Value) (s0 : Int32) (x : Int32) (h0 : Heap) (n0 : Nat) (Z0 : n0 ≤ h0.size) (P0 : Fld Z h0 (A 0) "com/example/sixfold/sixfold/rows/Table" "totals" "Lcom/example/sixfold/sixfold/rows/IntList;" (.ref (A 20))) (P1 : Exa Z h0 (A 20) "com/example/sixfold/sixfold/rows/IntList") (P2 : Fld Z h0 (A 20) "com/example/sixfold/sixfold/rows/IntList" "values" "[I" (.ref (A 21))) (P3 : Fld Z h0 (A 20) "com/example/sixfold/sixfold/rows/IntList" "size" "I" (.int n20)) (P4 : Arv Z h0 (A 21) k21 .int s0 vt (.int (0 : Int32))) (hA : own_Inc A 25) (hge : ∀ i, i < 25 → n0 ≤ A i) (i0 : ¬ (p0 < (0 : Int32))) (j2 : p0 < s0) (j1 : p0 < n20) (hv : vt.getD p0.toNatClampNeg (.int (0 : Int32)) = .int x) (vl : p0.toNatClampNeg < vt.length) :
    own_Cw l Z (⟨"com/example/sixfold/sixfold/rows/Table", "charge", "(II)V"⟩ : MethodName) prog_66_method_14_code 3 none ws (own_rr 3 0 0 43) #[(.ref (A 0)), (.int p0), (.int p1)] h0 (Qcharge Z p0 p1 A k21 n20 vt s0 x h0 n0) := by
  refine own_body (plainFor_of_name pn_com_example_sixfold_sixfold_rows_Table) ?_
  intro p e s m below meth c s₁ hx hby hml hZ hown hnm hret hlk X0 e0
  have N0 := Fr.nil n0
  refine own_go (fun t k => castTop (ef_charge m A p0 p1) k) ?_
  have na : ∀ i, (i < 25 ∧ ∀ j ∈ [21], j < 25 ∧ j ≠ i) → A i ∉ [(A 21)] := fun i h => own_nin hA h.1 h.2
  have ng : ∀ w ∈ [(A 21)], n0 ≤ w := (allS (hge 21 (by decide)) all0)
  refine sa X0 hx (dx hby dd61 0) ?_
  refine oc_getF X0 hx hZ hown (host := "") (Or.inl (wx hw 176)) Via.refl e0 P0 (dx hby dd61 1) (fun T41 X41 e41 => ?_)
  refine si X41 hx (dx hby dd61 2) ?_
  refine sa X41 hx (dx hby dd61 3) ?_
  refine oc_getF X41 hx hZ hown (host := "") (Or.inl (wx hw 176)) Via.refl e41 P0 (dx hby dd61 4) (fun T42 X42 e42 => ?_)
  refine si X42 hx (dx hby dd61 5) ?_
  refine oc_virtual X42 hx hZ hown (wx hw 379) (wx hw 380) (wx hw 382) (wx hw 381) (wx hw 111) (wx hw 383) (by decide) (W := 2) (rmat l Z a0 hw [] (A 20) p0 (A 21) k21 s0 n20 vt x h0 n0 Z0 P2 P3 P4 i0 j1 j2 hv) (by decide) (by decide) P1 (argsL := [(.int p0)]) (rest := [(.int p0), (.ref (A 20))]) (by rw [hml]; rfl) (lenOf pd_2 rfl) rfl (Nat.le_of_eq rfl) (dx hby dd61 6) rfl e42 (by decide) (by decide) (fun v43 T43 Lc43 hQ43 X43 => ?_)
  obtain ⟨N43q, rfl, hq43⟩ := hQ43
  have N43 := Fr.app N0 N43q
  refine si X43 hx (dx hby dd61 7) ?_
  refine og (XS.iadd X43.here hx rfl (dx hby dd61 8) rfl) ?_
  refine oc_virtual X43 hx hZ hown (wx hw 416) (wx hw 417) (wx hw 419) (wx hw 418) (wx hw 111) (wx hw 420) (by decide) (W := 0) (rmrepl l Z a0 hw [] (A 20) p0 (x + p1) (A 21) k21 s0 n20 vt h0 n0 Z0 P2 P3 P4 (own_ne hA (i := 20) (j := 21) (by decide) (by decide) (by decide)) (hge 21 (by decide)) ⟨i0, j2⟩ vl) (by decide) (by decide) P1 (argsL := [(.int p0), (.int (x + p1))]) (rest := []) (by rw [hml]; rfl) (lenOf pd_15 rfl) rfl (Nat.le_of_eq rfl) (dx hby dd61 9) rfl hq43 (by decide) (by decide) (fun v44 T44 Lc44 hQ44 X44 => ?_)
  obtain ⟨N44q, rfl, K44q, po44_0⟩ := hQ44
  have N44 := Fr.app N43 N44q
  have K44 : Keep h0 T44.heap [(A 21)] := (Keep.refl h0 [(A 21)]).trans K44q (allS (Or.inl (List.mem_of_getElem? (i := 0) rfl)) all0)
  have Z44 : n0 ≤ T44.heap.size := Nat.le_trans Z0 K44q.1
  exact own_retV X44 hx hret hlk (dx hby dd61 10) rfl (by decide) (by decide) ⟨N44, rfl, K44, po44_0⟩
theorem own_shr (x : Int32) (k : Int32) (n : Nat) (hk : (k &&& 31).toUInt32.toNat = n) (hn : n < 32) (hx : 0 ≤ x.toInt) : ((x.toUInt32 >>> (k &&& 31).toUInt32).toInt32).toInt = x.toInt / 2 ^ n := by
  have e1 : x.toInt = (x.toUInt32.toNat : Int) := by
    have := Int32.toInt_toBitVec x
    have h2 : x.toUInt32.toNat = x.toBitVec.toNat := rfl
    rw [h2, ← this]; rw [← this] at hx
    rw [BitVec.toInt_eq_toNat_cond] at hx ⊢
    split at hx <;> simp_all <;> omega
  have hlt : x.toUInt32.toNat < 2 ^ 31 := by have := Int32.toInt_lt x; omega
  have e2 : (x.toUInt32 >>> (k &&& 31).toUInt32).toNat = x.toUInt32.toNat / 2 ^ n := by
    rw [UInt32.toNat_shiftRight, hk, Nat.mod_eq_of_lt hn, Nat.shiftRight_eq_div_pow]
  have hle : x.toUInt32.toNat / 2 ^ n ≤ x.toUInt32.toNat := Nat.div_le_self _ _
  generalize hy : x.toUInt32 >>> (k &&& 31).toUInt32 = y at *
  have e3 : y.toInt32.toInt = (y.toNat : Int) := by
    rw [← Int32.toInt_toBitVec]
    have h2 : y.toInt32.toBitVec.toNat = y.toNat := rfl
    rw [BitVec.toInt_eq_toNat_cond, h2, if_pos (by omega)]
  rw [e3, e2, e1]; exact Int.natCast_ediv _ _ |>.trans (by simp)
theorem own_subi (a x : Int32) (h0 : 0 ≤ a.toInt) (h1 : 0 ≤ x.toInt) : (a - x).toInt = a.toInt - x.toInt := by
  rw [Int32.toInt_sub]
  have := Int32.toInt_lt a; have := Int32.toInt_lt x
  apply Int.bmod_eq_of_le <;> omega
theorem own_lI_v {t k i : Int32} (n : Nat) (hk : (k &&& 31).toUInt32.toNat = n) (hn : n < 32) (hi : 0 ≤ i.toInt) : (i.toInt < t.toInt ∧ (own_lI t k i).toInt = i.toInt) ∨ (¬ i.toInt < t.toInt ∧ (own_lI t k i).toInt = i.toInt / 2 ^ n) := by
  unfold own_lI
  by_cases q : i < t
  · rw [if_pos q]; rw [Int32.lt_iff_toInt_lt] at q; exact Or.inl ⟨q, rfl⟩
  · rw [if_neg q]; rw [Int32.lt_iff_toInt_lt] at q; exact Or.inr ⟨q, own_shr i k n hk hn hi⟩
theorem own_lN_v {t k i n : Int32} (hk : -16 ≤ k.toInt ∧ k.toInt ≤ 0) (hn : 0 ≤ n.toInt ∧ n.toInt ≤ 31) : (i.toInt < t.toInt ∧ (own_lN t k i n).toInt = n.toInt) ∨ (¬ i.toInt < t.toInt ∧ (own_lN t k i n).toInt = n.toInt + k.toInt) := by
  unfold own_lN
  by_cases q : i < t
  · rw [if_pos q]; rw [Int32.lt_iff_toInt_lt] at q; exact Or.inl ⟨q, rfl⟩
  · rw [if_neg q]; rw [Int32.lt_iff_toInt_lt] at q
    exact Or.inr ⟨q, by rw [Int32.toInt_add, Int.bmod_eq_of_le (by omega) (by omega)]⟩
theorem own_nli {p : Int32} (h : 0 < p.toInt) : 0 ≤ (fnli p).toInt ∧ (fnli p).toInt ≤ 31 ∧ ((fnli p).toInt = 31 → p.toInt = 1) ∧ (p.toInt < 256 → 24 ≤ (fnli p).toInt) := by
  have hl := Int32.toInt_lt p
  have k0 : (0 : Int32).toInt = 0 := rfl
  have k4 : (4 : Int32).toInt = 4 := rfl
  have k16 : (16 : Int32).toInt = 16 := rfl
  have k256 : (256 : Int32).toInt = 256 := rfl
  have k6 : (65536 : Int32).toInt = 65536 := rfl
  have k31 : (31 : Int32).toInt = 31 := rfl
  have k15 : (15 : Int32).toInt = 15 := rfl
  have m8 : (-8 : Int32).toInt = -8 := rfl
  have m4 : (-4 : Int32).toInt = -4 := rfl
  have m2 : (-2 : Int32).toInt = -2 := rfl
  unfold fnli
  rw [if_pos (by rw [Int32.lt_iff_toInt_lt, k0]; exact h)]
  have c1 := own_lI_v (t := 65536) (k := 16) (i := p) 16 rfl (by decide) (by omega)
  have d1 : (p.toInt < 65536 ∧ (if p < (65536 : Int32) then (31 : Int32) else (15 : Int32)).toInt = 31) ∨ (¬ p.toInt < 65536 ∧ (if p < (65536 : Int32) then (31 : Int32) else (15 : Int32)).toInt = 15) := by
    by_cases q : p < (65536 : Int32)
    · rw [if_pos q]; rw [Int32.lt_iff_toInt_lt] at q; exact Or.inl ⟨q, rfl⟩
    · rw [if_neg q]; rw [Int32.lt_iff_toInt_lt] at q; exact Or.inr ⟨q, rfl⟩
  generalize own_lI 65536 16 p = i1 at *
  generalize (if p < (65536 : Int32) then (31 : Int32) else (15 : Int32)) = n1 at *
  rw [k6] at c1
  have b1 : 0 < i1.toInt ∧ i1.toInt < 65536 ∧ (n1.toInt = 31 ∧ i1.toInt = p.toInt ∨ n1.toInt = 15 ∧ i1.toInt = p.toInt / 65536 ∧ 65536 ≤ p.toInt) := by omega
  clear c1 d1
  unfold own_l1
  have c2 := own_lI_v (t := 256) (k := 8) (i := i1) 8 rfl (by decide) (by omega)
  have d2 := own_lN_v (t := 256) (k := -8) (i := i1) (n := n1) (by decide) (by omega)
  generalize own_lI 256 8 i1 = i2 at *
  generalize own_lN 256 (-8) i1 n1 = n2 at *
  rw [k256] at c2 d2; rw [m8] at d2
  have b2 : 0 < i2.toInt ∧ i2.toInt < 256 ∧ (n2.toInt = n1.toInt ∧ i2.toInt = i1.toInt ∨ n2.toInt = n1.toInt - 8 ∧ i2.toInt = i1.toInt / 256 ∧ 256 ≤ i1.toInt) := by omega
  clear c2 d2
  unfold own_l2
  have c3 := own_lI_v (t := 16) (k := 4) (i := i2) 4 rfl (by decide) (by omega)
  have d3 := own_lN_v (t := 16) (k := -4) (i := i2) (n := n2) (by decide) (by omega)
  generalize own_lI 16 4 i2 = i3 at *
  generalize own_lN 16 (-4) i2 n2 = n3 at *
  rw [k16] at c3 d3; rw [m4] at d3
  have b3 : 0 < i3.toInt ∧ i3.toInt < 16 ∧ (n3.toInt = n2.toInt ∧ i3.toInt = i2.toInt ∨ n3.toInt = n2.toInt - 4 ∧ i3.toInt = i2.toInt / 16 ∧ 16 ≤ i2.toInt) := by omega
  clear c3 d3
  unfold own_l3
  have c4 := own_lI_v (t := 4) (k := 2) (i := i3) 2 rfl (by decide) (by omega)
  have d4 := own_lN_v (t := 4) (k := -2) (i := i3) (n := n3) (by decide) (by omega)
  generalize own_lI 4 2 i3 = i4 at *
  generalize own_lN 4 (-2) i3 n3 = n4 at *
  rw [k4] at c4 d4; rw [m2] at d4
  have b4 : 0 < i4.toInt ∧ i4.toInt < 4 ∧ (n4.toInt = n3.toInt ∧ i4.toInt = i3.toInt ∨ n4.toInt = n3.toInt - 2 ∧ i4.toInt = i3.toInt / 4 ∧ 4 ≤ i3.toInt) := by omega
  clear c4 d4
  have s1 := own_shr i4 1 1 rfl (by decide) (by omega)
  have e : (n4 - ((i4.toUInt32 >>> ((1 : Int32) &&& 31).toUInt32).toInt32)).toInt = n4.toInt - i4.toInt / 2 := by
    rw [own_subi _ _ (by omega) (by omega), s1]; rfl
  rw [e]
  generalize i4.toInt = a4 at *
  generalize n4.toInt = g4 at *
  generalize i3.toInt = a3 at *
  generalize n3.toInt = g3 at *
  generalize i2.toInt = a2 at *
  generalize n2.toInt = g2 at *
  generalize i1.toInt = a1 at *
  generalize n1.toInt = g1 at *
  generalize p.toInt = w at *
  clear e s1 hl k0 k4 k16 k256 k6 k31 k15 m8 m4 m2
  obtain ⟨x1, y1, ⟨u1, v1⟩ | ⟨u1, v1⟩⟩ := b1 <;> obtain ⟨x2, y2, ⟨u2, v2⟩ | ⟨u2, v2⟩⟩ := b2 <;> obtain ⟨x3, y3, ⟨u3, v3⟩ | ⟨u3, v3⟩⟩ := b3 <;> obtain ⟨x4, y4, ⟨u4, v4⟩ | ⟨u4, v4⟩⟩ := b4 <;> omega
theorem own_nliz {p : Int32} (h : ¬ (p = (0 : Int32))) : 0 ≤ (fnli p).toInt ∧ (fnli p).toInt ≤ 31 ∧ ((fnli p).toInt = 31 → p.toInt = 1) ∧ (0 ≤ p.toInt → p.toInt < 256 → 24 ≤ (fnli p).toInt) := by
  have k0 : (0 : Int32).toInt = 0 := rfl
  by_cases q : 0 < p.toInt
  · obtain ⟨a, b, c, d⟩ := own_nli q
    exact ⟨a, b, c, fun _ => d⟩
  · have e : fnli p = 0 := by unfold fnli; rw [if_neg (by rw [Int32.lt_iff_toInt_lt, k0]; exact q), if_neg h]
    rw [e, k0]
    refine ⟨by omega, by omega, fun r => absurd r (by omega), fun r _ => absurd (Int32.toInt_inj.1 (show p.toInt = (0 : Int32).toInt by rw [k0]; omega)) h⟩
theorem own_lo (x : Int64) : x.toInt32.toBitVec.toNat = x.toBitVec.toNat % 2 ^ 32 := by
  rw [Int64.toBitVec_toInt32, BitVec.signExtend_eq_setWidth_of_le _ (by decide), BitVec.toNat_setWidth]
theorem own_hi (x : Int64) : (((x.toUInt64 >>> ((32 : Int32) &&& 0x3f).toInt64.toUInt64).toInt64).toInt32).toBitVec.toNat = x.toBitVec.toNat / 2 ^ 32 := by
  rw [own_lo]
  have e : ((x.toUInt64 >>> ((32 : Int32) &&& 0x3f).toInt64.toUInt64).toInt64).toBitVec.toNat = (x.toUInt64 >>> ((32 : Int32) &&& 0x3f).toInt64.toUInt64).toNat := rfl
  have e2 : (((32 : Int32) &&& 0x3f).toInt64.toUInt64).toNat % 64 = 32 := by decide
  have e3 : x.toUInt64.toNat = x.toBitVec.toNat := rfl
  rw [e, UInt64.toNat_shiftRight, e2, Nat.shiftRight_eq_div_pow, e3]
  have := x.toBitVec.isLt
  exact Nat.mod_eq_of_lt (by omega)
theorem own_tn (p : Int32) : p.toInt = if 2 * p.toBitVec.toNat < 2 ^ 32 then (p.toBitVec.toNat : Int) else (p.toBitVec.toNat : Int) - (2 ^ 32 : Nat) := by
  rw [← Int32.toInt_toBitVec, BitVec.toInt_eq_toNat_cond]
theorem own_nll {x : Int64} (h : ¬ (x.toBitVec.toNat = 0)) : 0 ≤ (fnll x).toInt ∧ (fnll x).toInt ≤ 63 ∧ ((fnll x).toInt = 63 → x.toBitVec.toNat = 1) ∧ (x.toBitVec.toNat < 2 ^ 40 → 24 ≤ (fnll x).toInt) := by
  have hl := own_lo x
  have hh := own_hi x
  have hb := x.toBitVec.isLt
  unfold fnll
  generalize ((x.toUInt64 >>> ((32 : Int32) &&& 0x3f).toInt64.toUInt64).toInt64).toInt32 = hi at *
  generalize x.toInt32 = lo at *
  generalize x.toBitVec.toNat = n at *
  have z0 : (0 : Int32).toBitVec.toNat = 0 := rfl
  by_cases q : hi = 0
  · rw [if_pos q]
    rw [q, z0] at hh
    have hlo : ¬ (lo = (0 : Int32)) := fun r => by rw [r, z0] at hl; omega
    obtain ⟨a, b, c, d⟩ := own_nliz hlo
    have e : ((32 : Int32) + fnli lo).toInt = 32 + (fnli lo).toInt := by
      rw [Int32.toInt_add]; have : (32 : Int32).toInt = 32 := rfl
      rw [this]; apply Int.bmod_eq_of_le <;> omega
    rw [e]
    have t := own_tn lo
    refine ⟨by omega, by omega, fun r => ?_, fun _ => by omega⟩
    have := c (by omega)
    rw [this] at t; split at t <;> omega
  · rw [if_neg q]
    obtain ⟨a, b, c, d⟩ := own_nliz q
    have t := own_tn hi
    refine ⟨a, by omega, fun r => by omega, fun r => ?_⟩
    split at t
    · exact d (by omega) (by omega)
    · omega
theorem own_bitn : ∀ k : Fin 105, ((1 : Int64) <<< ((Int32.ofInt (k.val : Int)) &&& 0x3f).toInt64).toBitVec.toNat = 2 ^ (k.val % 64) := by decide
theorem own_mskn : ∀ k : Fin 105, (((1 : Int64) <<< ((Int32.ofInt (k.val : Int)) &&& 0x3f).toInt64) - (1 : Int64)).toBitVec.toNat = 2 ^ (k.val % 64) - 1 := by decide
theorem own_ofk : ∀ k : Fin 105, (Int32.ofInt (k.val : Int)).toInt = k.val := by decide
theorem own_w0 (x : Int64) : x = (0 : Int64) ↔ x.toBitVec.toNat = 0 := by
  constructor
  · intro h; rw [h]; rfl
  · intro h; exact Int64.toBitVec_inj.1 (BitVec.eq_of_toNat_eq (h.trans (rfl : 0 = (0 : Int64).toBitVec.toNat)))
theorem own_mk (w : Int64) (k : Fin 105) : (w &&& (((1 : Int64) <<< ((Int32.ofInt (k.val : Int)) &&& 0x3f).toInt64) - (1 : Int64))).toBitVec.toNat = w.toBitVec.toNat % 2 ^ (k.val % 64) := by
  rw [Int64.toBitVec_and, BitVec.toNat_and, own_mskn, Nat.and_two_pow_sub_one_eq_mod]
theorem own_lt64 (k : Fin 105) : Int32.ofInt (k.val : Int) < (64 : Int32) ↔ k.val < 64 := by
  rw [Int32.lt_iff_toInt_lt, own_ofk]; have : (64 : Int32).toInt = 64 := rfl
  rw [this]; omega
theorem own_and2 {w i : Nat} (h : w.testBit i = false) : w &&& 2 ^ i = 0 := by
  apply Nat.eq_of_testBit_eq; intro m
  rw [Nat.testBit_and, Nat.testBit_two_pow, Nat.zero_testBit]
  by_cases q : i = m
  · rw [← q, h]; rfl
  · simp [q]
theorem own_memb {w0 w1 : Int64} {k : Fin 105} (h : own_mem w0 w1 (Int32.ofInt (k.val : Int))) : (if k.val < 64 then w0 else w1).toBitVec.toNat.testBit (k.val % 64) = true := by
  unfold own_mem fhas at h
  by_cases q : (fisc (Int32.ofInt (k.val : Int))) = (0 : Int32)
  · rw [if_pos q] at h; exact absurd rfl h
  rw [if_neg q] at h
  have e : own_sel w0 w1 (Int32.ofInt (k.val : Int)) = if k.val < 64 then w0 else w1 := by
    unfold own_sel; by_cases r : k.val < 64
    · rw [if_pos r, if_pos ((own_lt64 k).2 r)]
    · rw [if_neg r, if_neg (fun x => r ((own_lt64 k).1 x))]
  rw [e] at h
  generalize (if k.val < 64 then w0 else w1) = w at *
  cases hb : w.toBitVec.toNat.testBit (k.val % 64) with
  | true => rfl
  | false =>
    rw [if_pos ((own_w0 _).2 (by rw [Int64.toBitVec_and, BitVec.toNat_and, own_bitn, own_and2 hb]))] at h
    exact absurd rfl h
theorem own_hb_val {k : Fin 105} (w0 w1 : Int64) : (k.val < 64 ∧ ((w0.toBitVec.toNat % 2 ^ (k.val % 64) = 0 ∧ (fhb (Int32.ofInt (k.val : Int)) w0 w1).toInt = 0) ∨ (¬ w0.toBitVec.toNat % 2 ^ (k.val % 64) = 0 ∧ 0 ≤ (fhb (Int32.ofInt (k.val : Int)) w0 w1).toInt ∧ (fhb (Int32.ofInt (k.val : Int)) w0 w1).toInt ≤ 63 ∧ ((fhb (Int32.ofInt (k.val : Int)) w0 w1).toInt = 0 → w0.toBitVec.toNat % 2 ^ (k.val % 64) = 1)))) ∨ (¬ k.val < 64 ∧ ((¬ w1.toBitVec.toNat % 2 ^ (k.val % 64) = 0 ∧ 64 ≤ (fhb (Int32.ofInt (k.val : Int)) w0 w1).toInt ∧ (fhb (Int32.ofInt (k.val : Int)) w0 w1).toInt ≤ 103) ∨ (w1.toBitVec.toNat % 2 ^ (k.val % 64) = 0 ∧ w0.toBitVec.toNat = 0 ∧ (fhb (Int32.ofInt (k.val : Int)) w0 w1).toInt = 0) ∨ (w1.toBitVec.toNat % 2 ^ (k.val % 64) = 0 ∧ ¬ w0.toBitVec.toNat = 0 ∧ 0 ≤ (fhb (Int32.ofInt (k.val : Int)) w0 w1).toInt ∧ (fhb (Int32.ofInt (k.val : Int)) w0 w1).toInt ≤ 63 ∧ ((fhb (Int32.ofInt (k.val : Int)) w0 w1).toInt = 0 → w0.toBitVec.toNat = 1)))) := by
  have k63 : (63 : Int32).toInt = 63 := rfl
  have k127 : (127 : Int32).toInt = 127 := rfl
  have hk := k.isLt
  unfold fhb
  by_cases q : k.val < 64
  · left; refine ⟨q, ?_⟩
    rw [if_pos ((own_lt64 k).2 q)]
    have e := own_mk w0 k
    generalize (w0 &&& (((1 : Int64) <<< ((Int32.ofInt (k.val : Int)) &&& 0x3f).toInt64) - (1 : Int64))) = x at *
    rw [← e]
    by_cases r : x.toBitVec.toNat = 0
    · left; rw [if_pos ((own_w0 x).2 r)]; exact ⟨r, rfl⟩
    · right; rw [if_neg (fun z => r ((own_w0 x).1 z))]
      obtain ⟨a, b, c, d⟩ := own_nll r
      rw [own_subi _ _ (by decide) a, k63]
      exact ⟨r, by omega, by omega, fun z => c (by omega)⟩
  · right; refine ⟨q, ?_⟩
    rw [if_neg (fun z => q ((own_lt64 k).1 z))]
    have e := own_mk w1 k
    generalize (w1 &&& (((1 : Int64) <<< ((Int32.ofInt (k.val : Int)) &&& 0x3f).toInt64) - (1 : Int64))) = x at *
    have hlt : x.toBitVec.toNat < 2 ^ 40 := by
      rw [e]; exact Nat.lt_of_lt_of_le (Nat.mod_lt _ (Nat.two_pow_pos _)) (Nat.pow_le_pow_right (by decide) (by omega))
    rw [← e]
    by_cases r : x.toBitVec.toNat = 0
    · right; rw [if_pos ((own_w0 x).2 r)]
      by_cases r2 : w0.toBitVec.toNat = 0
      · left; rw [if_pos ((own_w0 w0).2 r2)]; exact ⟨r, r2, rfl⟩
      · right; rw [if_neg (fun z => r2 ((own_w0 w0).1 z))]
        obtain ⟨a, b, c, d⟩ := own_nll r2
        rw [own_subi _ _ (by decide) a, k63]
        exact ⟨r, r2, by omega, by omega, fun z => c (by omega)⟩
    · left; rw [if_neg (fun z => r ((own_w0 x).1 z))]
      obtain ⟨a, b, c, d⟩ := own_nll r
      rw [own_subi _ _ (by decide) a, k127]
      have := d hlt
      exact ⟨r, by omega, by omega⟩
theorem own_hb_in {c : Int32} (w0 w1 : Int64) (h : 1 ≤ c.toInt ∧ c.toInt ≤ 104) : ¬ (fhb c w0 w1) < 0 ∧ (fhb c w0 w1) < (105 : Int32) := by
  obtain ⟨k, rfl⟩ := own_range 105 c (by omega) (by omega)
  have k0 : (0 : Int32).toInt = 0 := rfl
  have k105 : (105 : Int32).toInt = 105 := rfl
  rw [Int32.lt_iff_toInt_lt, Int32.lt_iff_toInt_lt, k0, k105]
  have v := own_hb_val (k := k) w0 w1
  generalize (fhb (Int32.ofInt (k.val : Int)) w0 w1).toInt = z at *
  rcases v with ⟨_, ⟨_, v⟩ | ⟨_, v⟩⟩ | ⟨_, ⟨_, v⟩ | ⟨_, _, v⟩ | ⟨_, _, v⟩⟩ <;> omega
theorem own_hb_mem {c d : Int32} (hd : 1 ≤ d.toInt) (hdc : d.toInt < c.toInt) (hc : c.toInt ≤ 104) : ∀ w0 w1, own_mem w0 w1 d → ¬ (fhb c w0 w1 = (0 : Int32)) := by
  intro w0 w1 hm hz
  obtain ⟨k, rfl⟩ := own_range 105 c (by omega) (by omega)
  obtain ⟨j, rfl⟩ := own_range 105 d (by omega) (by omega)
  rw [own_ofk] at hd hdc hc
  rw [own_ofk] at hdc
  have b := own_memb hm
  have v := own_hb_val (k := k) w0 w1
  have z0 : (0 : Int32).toInt = 0 := rfl
  rw [hz, z0] at v
  have t1 : ∀ i, 1 ≤ i → Nat.testBit 1 i = false := fun i hi => Bool.eq_false_iff.2 (fun h => by have := Nat.testBit_one_eq_true_iff_self_eq_zero.1 h; omega)
  have tm : ∀ (w n i : Nat), i < n → w.testBit i = true → (w % 2 ^ n).testBit i = true := fun w n i hi hw => by
    rw [Nat.testBit_mod_two_pow, hw]; simp [hi]
  rcases v with ⟨q, ⟨v, _⟩ | ⟨_, _, _, v⟩⟩ | ⟨q, ⟨_, v⟩ | ⟨u, v, _⟩ | ⟨u, _, _, _, v⟩⟩
  · rw [if_pos (by omega)] at b
    have := tm _ (k.val % 64) _ (by omega) b
    rw [v, Nat.zero_testBit] at this; exact Bool.noConfusion this
  · rw [if_pos (by omega)] at b
    have := tm _ (k.val % 64) _ (by omega) b
    rw [v rfl, t1 _ (by omega)] at this; exact Bool.noConfusion this
  · omega
  · by_cases r : j.val < 64
    · rw [if_pos r, v, Nat.zero_testBit] at b; exact Bool.noConfusion b
    · rw [if_neg r] at b
      have := tm _ (k.val % 64) _ (by omega) b
      rw [u, Nat.zero_testBit] at this; exact Bool.noConfusion this
  · by_cases r : j.val < 64
    · rw [if_pos r, v rfl, t1 _ (by omega)] at b; exact Bool.noConfusion b
    · rw [if_neg r] at b
      have := tm _ (k.val % 64) _ (by omega) b
      rw [u, Nat.zero_testBit] at this; exact Bool.noConfusion this
theorem own_m1 {x : Int32} (h : 0 ≤ x.toInt) : ¬ (x = (-1 : Int32)) := by
  intro q; rw [q] at h; exact absurd h (by decide)
theorem own_ri {x : Int32} (h0 : 0 ≤ x.toInt) (h3 : x.toInt ≤ 3) : ∃ r : Nat, r < 4 ∧ x = Int32.ofInt (r : Int) := by
  obtain ⟨k, e⟩ := own_range 4 x h0 (by omega)
  exact ⟨k.val, k.isLt, e⟩
theorem own_memw (A : Nat → Addr) {r i : Nat} (hr : r < 4) (hi : i = 7 + 2 * r ∨ i = 8 + 2 * r) (L : List Addr) : A i ∈ [(A 3), (A 5), (A 6), (A 7), (A 8), (A 9), (A 10), (A 11), (A 12), (A 13), (A 14)] ++ L := by
  apply List.mem_append_left
  have : i = 7 ∨ i = 8 ∨ i = 9 ∨ i = 10 ∨ i = 11 ∨ i = 12 ∨ i = 13 ∨ i = 14 := by omega
  rcases this with rfl | rfl | rfl | rfl | rfl | rfl | rfl | rfl <;> simp
theorem dd54 : own_dec prog_66_method_13_code [(0, .aload_n 0, 1), (1, .getfield 63, 3), (4, .iload_n 1, 1), (5, .invokevirtual 119, 3), (8, .istore_n 2, 1), (9, .aload_n 0, 1), (10, .getfield 10, 3), (13, .iload_n 2, 1), (14, .invokevirtual 183, 3), (17, .istore_n 3, 1), (18, .iload_n 3, 1), (19, .iconst (-1), 1), (20, .if_icmp .ne 5, 3), (23, .iconst 0, 1), (24, .ireturn, 1), (25, .aload_n 0, 1), (26, .iload_n 1, 1), (27, .aload_n 0, 1), (28, .getfield 10, 3), (31, .iload_n 3, 1), (32, .iload_n 2, 1), (33, .invokevirtual 186, 3), (36, .invokevirtual 155, 3), (39, .iconst 1, 1), (40, .ireturn, 1)] := by unfold own_dec; decide +kernel
theorem ef_plF (m : MethodId) (A : Nat → Addr) (p0 : Int32) : entryFrame m #[(.ref (A 0)), (.int p0)] 4 = mkF m 0 #[vR (A 0), vI p0, vU, vU] [] := by first | (simp [entryFrame, mkF, argsToLocals, Value.category, vI, vR, vU]; done) | rfl
def QplF (Z : State) (p0 : Int32) (A : Nat → Addr) (lo : Int) (b : Int) (P : Int64 → Int64 → Prop) (hd : Addr) (kH : ClassId) (hv : List Value) (k24 : ClassId) (n23 : Int32) (rv : List Value) (cd : Int32) (k21 : ClassId) (n20 : Int32) (vt : List Value) (s0 : Int32) (h0 : Heap) (n0 : Nat) (v : Option Value) (h : Heap) (L : List Loc) : Prop := Fr n0 L ∧ v = some (.int (0 : Int32)) ∧ h = h0
set_option maxRecDepth 65536 in
set_option maxHeartbeats 40000000 in
theorem rmplF (l : Launch) (Z : State) (a0 : Array Value) (hw : ∀ d ∈ tables_1, d.before a0 Z = true) (ws : List Jvm.Cond) (p0 : Int32) (A : Nat → Addr) (lo : Int) (b : Int) (P : Int64 → Int64 → Prop) (hd : Addr) (kH : ClassId) (hv : List Value) (k24 : ClassId) (n23 : Int32) (rv : List Value) (cd : Int32) (k21 : ClassId) (n20 : Int32) (vt : List Value) (s0 : Int32) (h0 : Heap) (n0 : Nat) (Z0 : n0 ≤ h0.size) (P0 : Exa Z h0 (A 0) "com/example/sixfold/sixfold/rows/Table") (P1 : Fld Z h0 (A 0) "com/example/sixfold/sixfold/rows/Table" "rows" "Lcom/example/sixfold/sixfold/rows/Rows;" (.ref (A 1))) (P2 : Fld Z h0 (A 0) "com/example/sixfold/sixfold/rows/Table" "revealed" "Lcom/example/sixfold/sixfold/rows/IntList;" (.ref (A 23))) (P3 : Fld Z h0 (A 0) "com/example/sixfold/sixfold/rows/Table" "totals" "Lcom/example/sixfold/sixfold/rows/IntList;" (.ref (A 20))) (P4 : own_RWB Z h0 A lo b P) (P5 : Old Z n0 h0) (P6 : Exa Z h0 (A 23) "com/example/sixfold/sixfold/rows/IntList") (P7 : Fld Z h0 (A 23) "com/example/sixfold/sixfold/rows/IntList" "values" "[I" (.ref (A 24))) (P8 : Fld Z h0 (A 23) "com/example/sixfold/sixfold/rows/IntList" "size" "I" (.int n23)) (P9 : Arv Z h0 (A 24) k24 .int s0 rv (.int (0 : Int32))) (P10 : Exa Z h0 (A 20) "com/example/sixfold/sixfold/rows/IntList") (P11 : Fld Z h0 (A 20) "com/example/sixfold/sixfold/rows/IntList" "values" "[I" (.ref (A 21))) (P12 : Fld Z h0 (A 20) "com/example/sixfold/sixfold/rows/IntList" "size" "I" (.int n20)) (P13 : Arv Z h0 (A 21) k21 .int s0 vt (.int (0 : Int32))) (hA : own_Inc A 25) (hge : ∀ i, i < 25 → n0 ≤ A i) (i0 : ¬ (p0 < (0 : Int32))) (j2 : p0 < s0) (r1_ : p0 < n23) (hcv : rv.getD p0.toNatClampNeg (.int (0 : Int32)) = .int cd) (hcd : 1 ≤ cd.toInt ∧ cd.toInt ≤ 104) (hbz : ∀ w0 w1, P w0 w1 → fhb cd w0 w1 = (0 : Int32)) (hS : Sta Z Z.heap "com/example/sixfold/sixfold/rows/Card" "HEADS" "[B" (.ref hd)) (hV : Arv Z Z.heap hd kH .byte (105 : Int32) hv (.int (0 : Int32))) (hints : own_ints hv) :
    own_Cw l Z (⟨"com/example/sixfold/sixfold/rows/Table", "place", "(I)Z"⟩ : MethodName) prog_66_method_13_code 4 (some .boolean) ws (own_rr 4 0 0 62) #[(.ref (A 0)), (.int p0)] h0 (QplF Z p0 A lo b P hd kH hv k24 n23 rv cd k21 n20 vt s0 h0 n0) := by
  refine own_body (plainFor_of_name pn_com_example_sixfold_sixfold_rows_Table) ?_
  intro p e s m below meth c s₁ hx hby hml hZ hown hnm hret hlk X0 e0
  have N0 := Fr.nil n0
  refine own_go (fun t k => castTop (ef_plF m A p0) k) ?_
  obtain ⟨e1, f2, f3, f4, f6, ⟨k2, v2⟩, -, ⟨e4, f5, k5, w0, w1, v5, hP⟩, ⟨k6, re, v6, rel, rei⟩, -⟩ := id P4
  refine sa X0 hx (dx hby dd54 0) ?_
  refine oc_getF X0 hx hZ hown (host := "") (Or.inl (wx hw 187)) Via.refl e0 P2 (dx hby dd54 1) (fun T41 X41 e41 => ?_)
  refine si X41 hx (dx hby dd54 2) ?_
  refine oc_virtual X41 hx hZ hown (wx hw 379) (wx hw 380) (wx hw 382) (wx hw 381) (wx hw 111) (wx hw 383) (by decide) (W := 0) (rmat l Z a0 hw [] (A 23) p0 (A 24) k24 s0 n23 rv cd h0 n0 Z0 P7 P8 P9 i0 r1_ j2 hcv) (by decide) (by decide) P6 (argsL := [(.int p0)]) (rest := []) (by rw [hml]; rfl) (lenOf pd_2 rfl) rfl (Nat.le_of_eq rfl) (dx hby dd54 3) rfl e41 (by decide) (by decide) (fun v42 T42 Lc42 hQ42 X42 => ?_)
  obtain ⟨N42q, rfl, hq42⟩ := hQ42
  have N42 := Fr.app N0 N42q
  refine og (XS.istoreN X42.here hx rfl (dx hby dd54 4) rfl (l' := #[vR (A 0), vI p0, vI cd, vU]) rfl) ?_
  refine sa X42 hx (dx hby dd54 5) ?_
  refine oc_getF X42 hx hZ hown (host := "") (Or.inl (wx hw 162)) Via.refl hq42 P1 (dx hby dd54 6) (fun T43 X43 e43 => ?_)
  refine si X43 hx (dx hby dd54 7) ?_
  refine oc_virtual X43 hx hZ hown (wx hw 385) (wx hw 386) (wx hw 388) (wx hw 387) (wx hw 82) (wx hw 389) (by decide) (W := 0) (rmrfn l Z a0 hw [] cd A k5 w0 w1 k6 re h0 n0 Z0 f4 f6 e4 f5 v5 v6 hA hge hcd (hbz _ _ hP)) (by decide) (by decide) e1 (argsL := [(.int cd)]) (rest := []) (by rw [hml]; rfl) (lenOf pd_2 rfl) rfl (Nat.le_of_eq rfl) (dx hby dd54 8) rfl e43 (by decide) (by decide) (fun v44 T44 Lc44 hQ44 X44 => ?_)
  obtain ⟨N44q, rfl, hq44⟩ := hQ44
  have N44 := Fr.app N42 N44q
  refine og (XS.istoreN X44.here hx rfl (dx hby dd54 9) rfl (l' := #[vR (A 0), vI p0, vI cd, vI (-1 : Int32)]) rfl) ?_
  refine si X44 hx (dx hby dd54 10) ?_
  refine sc X44 hx (dx hby dd54 11) ?_
  refine og (XS.icmpNo X44.here hx rfl (dx hby dd54 12) rfl (teq (rfl : (-1 : Int32) = (-1 : Int32))).2) ?_
  refine sc X44 hx (dx hby dd54 13) ?_
  exact own_retB X44 hx (t := .boolean) hret hlk (by simp) (dx hby dd54 14) hq44 (by decide) (by decide) ⟨N44, rfl, rfl⟩
theorem ef_plT (m : MethodId) (A : Nat → Addr) (p0 : Int32) : entryFrame m #[(.ref (A 0)), (.int p0)] 4 = mkF m 0 #[vR (A 0), vI p0, vU, vU] [] := by first | (simp [entryFrame, mkF, argsToLocals, Value.category, vI, vR, vU]; done) | rfl
def QplT (Z : State) (p0 : Int32) (A : Nat → Addr) (lo : Int) (b : Int) (P : Int64 → Int64 → Prop) (hd : Addr) (kH : ClassId) (hv : List Value) (k24 : ClassId) (n23 : Int32) (rv : List Value) (cd : Int32) (k21 : ClassId) (n20 : Int32) (vt : List Value) (s0 : Int32) (h0 : Heap) (n0 : Nat) (v : Option Value) (h : Heap) (L : List Loc) : Prop := Fr n0 L ∧ ∃ (xn : Int32), v = some (.int (1 : Int32)) ∧ Keep h0 h [(A 3), (A 5), (A 6), (A 7), (A 8), (A 9), (A 10), (A 11), (A 12), (A 13), (A 14), (A 21)] ∧ own_RWB Z h A 1 (b + 1) (fun w0 w1 => own_mem w0 w1 cd) ∧ Arv Z h (A 21) k21 .int s0 (vt.set p0.toNatClampNeg (.int xn)) (.int (0 : Int32))
set_option maxRecDepth 65536 in
set_option maxHeartbeats 40000000 in
theorem rmplT (l : Launch) (Z : State) (a0 : Array Value) (hw : ∀ d ∈ tables_1, d.before a0 Z = true) (ws : List Jvm.Cond) (p0 : Int32) (A : Nat → Addr) (lo : Int) (b : Int) (P : Int64 → Int64 → Prop) (hd : Addr) (kH : ClassId) (hv : List Value) (k24 : ClassId) (n23 : Int32) (rv : List Value) (cd : Int32) (k21 : ClassId) (n20 : Int32) (vt : List Value) (s0 : Int32) (h0 : Heap) (n0 : Nat) (Z0 : n0 ≤ h0.size) (P0 : Exa Z h0 (A 0) "com/example/sixfold/sixfold/rows/Table") (P1 : Fld Z h0 (A 0) "com/example/sixfold/sixfold/rows/Table" "rows" "Lcom/example/sixfold/sixfold/rows/Rows;" (.ref (A 1))) (P2 : Fld Z h0 (A 0) "com/example/sixfold/sixfold/rows/Table" "revealed" "Lcom/example/sixfold/sixfold/rows/IntList;" (.ref (A 23))) (P3 : Fld Z h0 (A 0) "com/example/sixfold/sixfold/rows/Table" "totals" "Lcom/example/sixfold/sixfold/rows/IntList;" (.ref (A 20))) (P4 : own_RWB Z h0 A lo b P) (P5 : Old Z n0 h0) (P6 : Exa Z h0 (A 23) "com/example/sixfold/sixfold/rows/IntList") (P7 : Fld Z h0 (A 23) "com/example/sixfold/sixfold/rows/IntList" "values" "[I" (.ref (A 24))) (P8 : Fld Z h0 (A 23) "com/example/sixfold/sixfold/rows/IntList" "size" "I" (.int n23)) (P9 : Arv Z h0 (A 24) k24 .int s0 rv (.int (0 : Int32))) (P10 : Exa Z h0 (A 20) "com/example/sixfold/sixfold/rows/IntList") (P11 : Fld Z h0 (A 20) "com/example/sixfold/sixfold/rows/IntList" "values" "[I" (.ref (A 21))) (P12 : Fld Z h0 (A 20) "com/example/sixfold/sixfold/rows/IntList" "size" "I" (.int n20)) (P13 : Arv Z h0 (A 21) k21 .int s0 vt (.int (0 : Int32))) (hA : own_Inc A 25) (hge : ∀ i, i < 25 → n0 ≤ A i) (i0 : ¬ (p0 < (0 : Int32))) (j2 : p0 < s0) (r1_ : p0 < n23) (hcv : rv.getD p0.toNatClampNeg (.int (0 : Int32)) = .int cd) (hcd : 1 ≤ cd.toInt ∧ cd.toInt ≤ 104) (hbd : 1 ≤ lo ∧ b ≤ 4) (hbn : ∀ w0 w1, P w0 w1 → ¬ (fhb cd w0 w1 = (0 : Int32))) (hti : own_ints vt) (j1 : p0 < n20) (vl : p0.toNatClampNeg < vt.length) (hS : Sta Z Z.heap "com/example/sixfold/sixfold/rows/Card" "HEADS" "[B" (.ref hd)) (hV : Arv Z Z.heap hd kH .byte (105 : Int32) hv (.int (0 : Int32))) (hints : own_ints hv) :
    own_Cw l Z (⟨"com/example/sixfold/sixfold/rows/Table", "place", "(I)Z"⟩ : MethodName) prog_66_method_13_code 4 (some .boolean) ws (own_rr 5 0 0 71) #[(.ref (A 0)), (.int p0)] h0 (QplT Z p0 A lo b P hd kH hv k24 n23 rv cd k21 n20 vt s0 h0 n0) := by
  refine own_body (plainFor_of_name pn_com_example_sixfold_sixfold_rows_Table) ?_
  intro p e s m below meth c s₁ hx hby hml hZ hown hnm hret hlk X0 e0
  have N0 := Fr.nil n0
  refine own_go (fun t k => castTop (ef_plT m A p0) k) ?_
  obtain ⟨e1, f2, f3, f4, f6, ⟨k2, v2⟩, -, ⟨e4, f5, k5, w0, w1, v5, hP⟩, ⟨k6, re, v6, rel, rei⟩, -⟩ := id P4
  have na : ∀ i, (i < 25 ∧ ∀ j ∈ [3, 5, 6, 7, 8, 9, 10, 11, 12, 13, 14, 21], j < 25 ∧ j ≠ i) → A i ∉ [(A 3), (A 5), (A 6), (A 7), (A 8), (A 9), (A 10), (A 11), (A 12), (A 13), (A 14), (A 21)] := fun i h => own_nin hA h.1 h.2
  have ng : ∀ w ∈ [(A 3), (A 5), (A 6), (A 7), (A 8), (A 9), (A 10), (A 11), (A 12), (A 13), (A 14), (A 21)], n0 ≤ w := (allS (hge 3 (by decide)) (allS (hge 5 (by decide)) (allS (hge 6 (by decide)) (allS (hge 7 (by decide)) (allS (hge 8 (by decide)) (allS (hge 9 (by decide)) (allS (hge 10 (by decide)) (allS (hge 11 (by decide)) (allS (hge 12 (by decide)) (allS (hge 13 (by decide)) (allS (hge 14 (by decide)) (allS (hge 21 (by decide)) all0))))))))))))
  refine sa X0 hx (dx hby dd54 0) ?_
  refine oc_getF X0 hx hZ hown (host := "") (Or.inl (wx hw 187)) Via.refl e0 P2 (dx hby dd54 1) (fun T41 X41 e41 => ?_)
  refine si X41 hx (dx hby dd54 2) ?_
  refine oc_virtual X41 hx hZ hown (wx hw 379) (wx hw 380) (wx hw 382) (wx hw 381) (wx hw 111) (wx hw 383) (by decide) (W := 0) (rmat l Z a0 hw [] (A 23) p0 (A 24) k24 s0 n23 rv cd h0 n0 Z0 P7 P8 P9 i0 r1_ j2 hcv) (by decide) (by decide) P6 (argsL := [(.int p0)]) (rest := []) (by rw [hml]; rfl) (lenOf pd_2 rfl) rfl (Nat.le_of_eq rfl) (dx hby dd54 3) rfl e41 (by decide) (by decide) (fun v42 T42 Lc42 hQ42 X42 => ?_)
  obtain ⟨N42q, rfl, hq42⟩ := hQ42
  have N42 := Fr.app N0 N42q
  refine og (XS.istoreN X42.here hx rfl (dx hby dd54 4) rfl (l' := #[vR (A 0), vI p0, vI cd, vU]) rfl) ?_
  refine sa X42 hx (dx hby dd54 5) ?_
  refine oc_getF X42 hx hZ hown (host := "") (Or.inl (wx hw 162)) Via.refl hq42 P1 (dx hby dd54 6) (fun T43 X43 e43 => ?_)
  refine si X43 hx (dx hby dd54 7) ?_
  obtain ⟨xr, exr, hx0, hx3⟩ := rei (fhb cd w0 w1).toNatClampNeg
  obtain ⟨ri, hri, hpr⟩ := own_ri hx0 hx3
  obtain ⟨i7, hi7⟩ : ∃ z, z = 7 + 2 * ri := ⟨_, rfl⟩
  obtain ⟨i8, hi8⟩ : ∃ z, z = 8 + 2 * ri := ⟨_, rfl⟩
  obtain ⟨xt, ext⟩ := hti p0.toNatClampNeg
  refine oc_virtual X43 hx hZ hown (wx hw 385) (wx hw 386) (wx hw 388) (wx hw 387) (wx hw 82) (wx hw 389) (by decide) (W := 0) (rmrfy l Z a0 hw [] cd A k5 w0 w1 k6 re xr h0 n0 Z0 f4 f6 e4 f5 v5 v6 hA hge hcd (hbn _ _ hP) (own_hb_in _ _ hcd) exr) (by decide) (by decide) e1 (argsL := [(.int cd)]) (rest := []) (by rw [hml]; rfl) (lenOf pd_2 rfl) rfl (Nat.le_of_eq rfl) (dx hby dd54 8) rfl e43 (by decide) (by decide) (fun v44 T44 Lc44 hQ44 X44 => ?_)
  obtain ⟨N44q, rfl, hq44⟩ := hQ44
  have N44 := Fr.app N42 N44q
  refine og (XS.istoreN X44.here hx rfl (dx hby dd54 9) rfl (l' := #[vR (A 0), vI p0, vI cd, vI xr]) rfl) ?_
  refine si X44 hx (dx hby dd54 10) ?_
  refine sc X44 hx (dx hby dd54 11) ?_
  have hp45 : ¬ (xr = (-1 : Int32)) := own_m1 hx0
  refine og (XS.icmpYes X44.here hx rfl (pc0 := 20) (pc' := 25) rfl (dx hby dd54 12) rfl (feq hp45).2 (by decide) (by decide)) ?_
  refine sa X44 hx (dx hby dd54 15) ?_
  refine si X44 hx (dx hby dd54 16) ?_
  refine sa X44 hx (dx hby dd54 17) ?_
  refine oc_getF X44 hx hZ hown (host := "") (Or.inl (wx hw 162)) Via.refl hq44 P1 (dx hby dd54 18) (fun T46 X46 e46 => ?_)
  refine si X46 hx (dx hby dd54 19) ?_
  refine si X46 hx (dx hby dd54 20) ?_
  refine oc_virtual X46 hx hZ hown (wx hw 427) (wx hw 428) (wx hw 430) (wx hw 429) (wx hw 82) (wx hw 431) (by decide) (W := 2) (rmrpl l Z a0 hw [] xr cd A lo b P hd kH hv ri i7 i8 h0 n0 Z0 P4 P5 hA hge hcd hbd hri hi7 hi8 hpr hS hV hints) (by decide) (by decide) e1 (argsL := [(.int xr), (.int cd)]) (rest := [(.int p0), (.ref (A 0))]) (by rw [hml]; rfl) (lenOf pd_5 rfl) rfl (Nat.le_of_eq rfl) (dx hby dd54 21) rfl e46 (by decide) (by decide) (fun v47 T47 Lc47 hQ47 X47 => ?_)
  obtain ⟨N47q, rfl, K47q, po47_0⟩ := hQ47
  have N47 := Fr.app N44 N47q
  have K47 : Keep h0 T47.heap [(A 3), (A 5), (A 6), (A 7), (A 8), (A 9), (A 10), (A 11), (A 12), (A 13), (A 14), (A 21)] := (Keep.refl h0 [(A 3), (A 5), (A 6), (A 7), (A 8), (A 9), (A 10), (A 11), (A 12), (A 13), (A 14), (A 21)]).trans K47q (allS (Or.inl (List.mem_of_getElem? (i := 0) rfl)) (allS (Or.inl (List.mem_of_getElem? (i := 1) rfl)) (allS (Or.inl (List.mem_of_getElem? (i := 2) rfl)) (allS (Or.inl (own_memw A hri (Or.inl hi7) [(A 21)])) (allS (Or.inl (own_memw A hri (Or.inr hi8) [(A 21)])) all0)))))
  have Z47 : n0 ≤ T47.heap.size := Nat.le_trans Z0 K47q.1
  have f_48 := P3.keep K47 (na 0 (by decide))
  have f_49 := P10.keep K47
  have f_50 := P11.keep K47 (na 20 (by decide))
  have f_51 := P12.keep K47 (na 20 (by decide))
  have f_52 := P13.keep K47q (ninS (own_ne hA (i := 21) (j := 3) (by decide) (by decide) (by decide)) (ninS (own_ne hA (i := 21) (j := 5) (by decide) (by decide) (by decide)) (ninS (own_ne hA (i := 21) (j := 6) (by decide) (by decide) (by decide)) (ninS (own_ne hA (i := 21) (j := i7) (by omega) (by omega) (by omega)) (ninS (own_ne hA (i := 21) (j := i8) (by omega) (by omega) (by omega)) nin0)))))
  have f_54 := P0.keep K47
  refine oc_private X47 hx hZ hown (wx hw 412) (wx hw 414) (wx hw 74) (wx hw 413) (wx hw 75) (wx hw 415) (by decide) (W := 0) (rmcharge l Z a0 hw [] p0 (0 : Int32) A k21 n20 vt s0 xt T47.heap n0 Z47 f_48 f_49 f_50 f_51 f_52 hA hge i0 j2 j1 ext vl) (by decide) (by decide) f_54 (argsL := [(.int p0), (.int (0 : Int32))]) (rest := []) (by rw [hml]; rfl) (lenOf pd_15 rfl) rfl (Nat.le_of_eq rfl) (dx hby dd54 22) rfl rfl (by decide) (by decide) (fun v53 T53 Lc53 hQ53 X53 => ?_)
  obtain ⟨N53q, rfl, K53q, po53_0⟩ := hQ53
  have N53 := Fr.app N47 N53q
  have K53 : Keep h0 T53.heap [(A 3), (A 5), (A 6), (A 7), (A 8), (A 9), (A 10), (A 11), (A 12), (A 13), (A 14), (A 21)] := K47.trans K53q (allS (Or.inl (List.mem_of_getElem? (i := 11) rfl)) all0)
  have Z53 : n0 ≤ T53.heap.size := Nat.le_trans Z47 K53q.1
  refine sc X53 hx (dx hby dd54 23) ?_
  have f_55 : own_RWB Z T53.heap A 1 (b + 1) (fun w0 w1 => own_mem w0 w1 cd) := (own_RWB_keep hA po47_0 (l := [21]) K53q (by decide))
  exact own_retB X53 hx (t := .boolean) hret hlk (by simp) (dx hby dd54 24) rfl (by decide) (by decide) ⟨N53, (xt + (0 : Int32)), rfl, K53, f_55, po53_0⟩
theorem dd24 : own_dec prog_66_method_5_code [(0, .aload_n 0, 1), (1, .getfield 66, 3), (4, .aload_n 0, 1), (5, .getfield 43, 3), (8, .if_icmp .ge 17, 3), (11, .aload_n 0, 1), (12, .getfield 59, 3), (15, .aload_n 0, 1), (16, .getfield 66, 3), (19, .iaload, 1), (20, .iconst 1, 1), (21, .iadd, 1), (22, .goto 4, 3), (25, .iconst 0, 1), (26, .ireturn, 1)] := by unfold own_dec; decide +kernel
theorem ef_wN (m : MethodId) (A : Nat → Addr)  : entryFrame m #[(.ref (A 0))] 1 = mkF m 0 #[vR (A 0)] [] := by first | (simp [entryFrame, mkF, argsToLocals, Value.category, vI, vR, vU]; done) | rfl
def QwN (Z : State) (A : Nat → Addr) (s0 : Int32) (pl : Int32) (h0 : Heap) (n0 : Nat) (v : Option Value) (h : Heap) (L : List Loc) : Prop := Fr n0 L ∧ v = some (.int (0 : Int32)) ∧ h = h0
set_option maxRecDepth 65536 in
set_option maxHeartbeats 40000000 in
theorem rmwN (l : Launch) (Z : State) (a0 : Array Value) (hw : ∀ d ∈ tables_1, d.before a0 Z = true) (ws : List Jvm.Cond) (A : Nat → Addr) (s0 : Int32) (pl : Int32) (h0 : Heap) (n0 : Nat) (Z0 : n0 ≤ h0.size) (P0 : Fld Z h0 (A 0) "com/example/sixfold/sixfold/rows/Table" "placed" "I" (.int pl)) (P1 : Fld Z h0 (A 0) "com/example/sixfold/sixfold/rows/Table" "seats" "I" (.int s0)) (hz : ¬ (pl < s0)) :
    own_Cw l Z (⟨"com/example/sixfold/sixfold/rows/Table", "waiting", "()I"⟩ : MethodName) prog_66_method_5_code 1 (some .int) ws (own_rr 0 0 0 0) #[(.ref (A 0))] h0 (QwN Z A s0 pl h0 n0) := by
  refine own_body (plainFor_of_name pn_com_example_sixfold_sixfold_rows_Table) ?_
  intro p e s m below meth c s₁ hx hby hml hZ hown hnm hret hlk X0 e0
  have N0 := Fr.nil n0
  refine own_go (fun t k => castTop (ef_wN m A ) k) ?_
  refine sa X0 hx (dx hby dd24 0) ?_
  refine oc_getF X0 hx hZ hown (host := "") (Or.inl (wx hw 189)) Via.refl e0 P0 (dx hby dd24 1) (fun T41 X41 e41 => ?_)
  refine sa X41 hx (dx hby dd24 2) ?_
  refine oc_getF X41 hx hZ hown (host := "") (Or.inl (wx hw 172)) Via.refl e41 P1 (dx hby dd24 3) (fun T42 X42 e42 => ?_)
  refine og (XS.icmpYes X42.here hx rfl (pc0 := 8) (pc' := 25) rfl (dx hby dd24 4) rfl (flt hz).2.1 (by decide) (by decide)) ?_
  refine sc X42 hx (dx hby dd24 13) ?_
  exact own_retW X42 hx hret hlk rfl (Or.inl ⟨rfl, Or.inl rfl, _, rfl⟩) (dx hby dd24 14) e42 (by decide) (by decide) ⟨N0, rfl, rfl⟩
theorem ef_wY (m : MethodId) (A : Nat → Addr)  : entryFrame m #[(.ref (A 0))] 1 = mkF m 0 #[vR (A 0)] [] := by first | (simp [entryFrame, mkF, argsToLocals, Value.category, vI, vR, vU]; done) | rfl
def QwY (Z : State) (A : Nat → Addr) (s0 : Int32) (pl : Int32) (k22 : ClassId) (os : List Value) (o : Int32) (h0 : Heap) (n0 : Nat) (v : Option Value) (h : Heap) (L : List Loc) : Prop := Fr n0 L ∧ v = some (.int (o + (1 : Int32))) ∧ h = h0
set_option maxRecDepth 65536 in
set_option maxHeartbeats 40000000 in
theorem rmwY (l : Launch) (Z : State) (a0 : Array Value) (hw : ∀ d ∈ tables_1, d.before a0 Z = true) (ws : List Jvm.Cond) (A : Nat → Addr) (s0 : Int32) (pl : Int32) (k22 : ClassId) (os : List Value) (o : Int32) (h0 : Heap) (n0 : Nat) (Z0 : n0 ≤ h0.size) (P0 : Fld Z h0 (A 0) "com/example/sixfold/sixfold/rows/Table" "placed" "I" (.int pl)) (P1 : Fld Z h0 (A 0) "com/example/sixfold/sixfold/rows/Table" "seats" "I" (.int s0)) (P2 : Fld Z h0 (A 0) "com/example/sixfold/sixfold/rows/Table" "order" "[I" (.ref (A 22))) (P3 : Arv Z h0 (A 22) k22 .int s0 os (.int (0 : Int32))) (hz : pl < s0) (hnn : ¬ pl < 0) (hv : os.getD pl.toNatClampNeg (.int (0 : Int32)) = .int o) :
    own_Cw l Z (⟨"com/example/sixfold/sixfold/rows/Table", "waiting", "()I"⟩ : MethodName) prog_66_method_5_code 1 (some .int) ws (own_rr 0 0 0 0) #[(.ref (A 0))] h0 (QwY Z A s0 pl k22 os o h0 n0) := by
  refine own_body (plainFor_of_name pn_com_example_sixfold_sixfold_rows_Table) ?_
  intro p e s m below meth c s₁ hx hby hml hZ hown hnm hret hlk X0 e0
  have N0 := Fr.nil n0
  refine own_go (fun t k => castTop (ef_wY m A ) k) ?_
  refine sa X0 hx (dx hby dd24 0) ?_
  refine oc_getF X0 hx hZ hown (host := "") (Or.inl (wx hw 189)) Via.refl e0 P0 (dx hby dd24 1) (fun T41 X41 e41 => ?_)
  refine sa X41 hx (dx hby dd24 2) ?_
  refine oc_getF X41 hx hZ hown (host := "") (Or.inl (wx hw 172)) Via.refl e41 P1 (dx hby dd24 3) (fun T42 X42 e42 => ?_)
  refine og (XS.icmpNo X42.here hx rfl (dx hby dd24 4) rfl (tlt hz).2.1) ?_
  refine sa X42 hx (dx hby dd24 5) ?_
  refine oc_getF X42 hx hZ hown (host := "") (Or.inl (wx hw 185)) Via.refl e42 P2 (dx hby dd24 6) (fun T43 X43 e43 => ?_)
  refine sa X43 hx (dx hby dd24 7) ?_
  refine oc_getF X43 hx hZ hown (host := "") (Or.inl (wx hw 189)) Via.refl e43 P0 (dx hby dd24 8) (fun T44 X44 e44 => ?_)
  show own_Gl _ _ _ _ (T44.setTop (mkF m 19 #[vR (A 0)] [(.int pl), (.ref (A 22))]))
  refine oc_iaload X44 hx hZ e44 P3 ⟨hnn, hz⟩ hv (dx hby dd24 9) ?_
  refine sc X44 hx (dx hby dd24 10) ?_
  refine og (XS.iadd X44.here hx rfl (dx hby dd24 11) rfl) ?_
  refine og (XS.goto X44.here hx rfl (pc0 := 22) (pc' := 26) rfl (dx hby dd24 12) (by decide) (by decide)) ?_
  exact own_retW X44 hx hret hlk rfl (Or.inl ⟨rfl, Or.inl rfl, _, rfl⟩) (dx hby dd24 14) e44 (by decide) (by decide) ⟨N0, rfl, rfl⟩
theorem dd53 : own_dec prog_66_method_12_code [(0, .aload_n 0, 1), (1, .getfield 66, 3), (4, .aload_n 0, 1), (5, .getfield 43, 3), (8, .if_icmp .ge 32, 3), (11, .aload_n 0, 1), (12, .aload_n 0, 1), (13, .getfield 59, 3), (16, .aload_n 0, 1), (17, .getfield 66, 3), (20, .iaload, 1), (21, .invokevirtual 180, 3), (24, .ifCond .eq 16, 3), (27, .aload_n 0, 1), (28, .dup, 1), (29, .getfield 66, 3), (32, .iconst 1, 1), (33, .iadd, 1), (34, .putfield 66, 3), (37, .goto (-37), 3), (40, .return_, 1)] := by unfold own_dec; decide +kernel
theorem ef_poA (m : MethodId) (A : Nat → Addr)  : entryFrame m #[(.ref (A 0))] 1 = mkF m 0 #[vR (A 0)] [] := by first | (simp [entryFrame, mkF, argsToLocals, Value.category, vI, vR, vU]; done) | rfl
def QpoA (Z : State) (A : Nat → Addr) (lo : Int) (b : Int) (P : Int64 → Int64 → Prop) (hd : Addr) (kH : ClassId) (hv : List Value) (k24 : ClassId) (n23 : Int32) (rv : List Value) (cd : Int32) (k21 : ClassId) (n20 : Int32) (vt : List Value) (s0 : Int32) (k22 : ClassId) (os : List Value) (o : Int32) (h0 : Heap) (n0 : Nat) (v : Option Value) (h : Heap) (L : List Loc) : Prop := Fr n0 L ∧ v = none ∧ h = h0
set_option maxRecDepth 65536 in
set_option maxHeartbeats 40000000 in
theorem rmpoA (l : Launch) (Z : State) (a0 : Array Value) (hw : ∀ d ∈ tables_1, d.before a0 Z = true) (ws : List Jvm.Cond) (A : Nat → Addr) (lo : Int) (b : Int) (P : Int64 → Int64 → Prop) (hd : Addr) (kH : ClassId) (hv : List Value) (k24 : ClassId) (n23 : Int32) (rv : List Value) (cd : Int32) (k21 : ClassId) (n20 : Int32) (vt : List Value) (s0 : Int32) (k22 : ClassId) (os : List Value) (o : Int32) (h0 : Heap) (n0 : Nat) (Z0 : n0 ≤ h0.size) (P0 : Exa Z h0 (A 0) "com/example/sixfold/sixfold/rows/Table") (P1 : Fld Z h0 (A 0) "com/example/sixfold/sixfold/rows/Table" "rows" "Lcom/example/sixfold/sixfold/rows/Rows;" (.ref (A 1))) (P2 : Fld Z h0 (A 0) "com/example/sixfold/sixfold/rows/Table" "revealed" "Lcom/example/sixfold/sixfold/rows/IntList;" (.ref (A 23))) (P3 : Fld Z h0 (A 0) "com/example/sixfold/sixfold/rows/Table" "totals" "Lcom/example/sixfold/sixfold/rows/IntList;" (.ref (A 20))) (P4 : own_RWB Z h0 A lo b P) (P5 : Old Z n0 h0) (P6 : Exa Z h0 (A 23) "com/example/sixfold/sixfold/rows/IntList") (P7 : Fld Z h0 (A 23) "com/example/sixfold/sixfold/rows/IntList" "values" "[I" (.ref (A 24))) (P8 : Fld Z h0 (A 23) "com/example/sixfold/sixfold/rows/IntList" "size" "I" (.int n23)) (P9 : Arv Z h0 (A 24) k24 .int s0 rv (.int (0 : Int32))) (P10 : Exa Z h0 (A 20) "com/example/sixfold/sixfold/rows/IntList") (P11 : Fld Z h0 (A 20) "com/example/sixfold/sixfold/rows/IntList" "values" "[I" (.ref (A 21))) (P12 : Fld Z h0 (A 20) "com/example/sixfold/sixfold/rows/IntList" "size" "I" (.int n20)) (P13 : Arv Z h0 (A 21) k21 .int s0 vt (.int (0 : Int32))) (P14 : Fld Z h0 (A 0) "com/example/sixfold/sixfold/rows/Table" "placed" "I" (.int (0 : Int32))) (P15 : Fld Z h0 (A 0) "com/example/sixfold/sixfold/rows/Table" "seats" "I" (.int s0)) (P16 : Fld Z h0 (A 0) "com/example/sixfold/sixfold/rows/Table" "order" "[I" (.ref (A 22))) (P17 : Arv Z h0 (A 22) k22 .int s0 os (.int (0 : Int32))) (hA : own_Inc A 25) (hge : ∀ i, i < 25 → n0 ≤ A i) (hs0 : (0 : Int32) < s0) (hv0 : os.getD (0 : Int32).toNatClampNeg (.int (0 : Int32)) = .int o) (i0 : ¬ (o < (0 : Int32))) (j2 : o < s0) (r1_ : o < n23) (hcv : rv.getD o.toNatClampNeg (.int (0 : Int32)) = .int cd) (hcd : 1 ≤ cd.toInt ∧ cd.toInt ≤ 104) (hbz : ∀ w0 w1, P w0 w1 → fhb cd w0 w1 = (0 : Int32)) (hS : Sta Z Z.heap "com/example/sixfold/sixfold/rows/Card" "HEADS" "[B" (.ref hd)) (hV : Arv Z Z.heap hd kH .byte (105 : Int32) hv (.int (0 : Int32))) (hints : own_ints hv) :
    own_Cw l Z (⟨"com/example/sixfold/sixfold/rows/Table", "placeOn", "()V"⟩ : MethodName) prog_66_method_12_code 1 none ws (own_rr 5 0 0 77) #[(.ref (A 0))] h0 (QpoA Z A lo b P hd kH hv k24 n23 rv cd k21 n20 vt s0 k22 os o h0 n0) := by
  refine own_body (plainFor_of_name pn_com_example_sixfold_sixfold_rows_Table) ?_
  intro p e s m below meth c s₁ hx hby hml hZ hown hnm hret hlk X0 e0
  have N0 := Fr.nil n0
  refine own_go (fun t k => castTop (ef_poA m A ) k) ?_
  refine sa X0 hx (dx hby dd53 0) ?_
  refine oc_getF X0 hx hZ hown (host := "") (Or.inl (wx hw 189)) Via.refl e0 P14 (dx hby dd53 1) (fun T41 X41 e41 => ?_)
  refine sa X41 hx (dx hby dd53 2) ?_
  refine oc_getF X41 hx hZ hown (host := "") (Or.inl (wx hw 172)) Via.refl e41 P15 (dx hby dd53 3) (fun T42 X42 e42 => ?_)
  refine og (XS.icmpNo X42.here hx rfl (dx hby dd53 4) rfl (tlt hs0).2.1) ?_
  refine sa X42 hx (dx hby dd53 5) ?_
  refine sa X42 hx (dx hby dd53 6) ?_
  refine oc_getF X42 hx hZ hown (host := "") (Or.inl (wx hw 185)) Via.refl e42 P16 (dx hby dd53 7) (fun T43 X43 e43 => ?_)
  refine sa X43 hx (dx hby dd53 8) ?_
  refine oc_getF X43 hx hZ hown (host := "") (Or.inl (wx hw 189)) Via.refl e43 P14 (dx hby dd53 9) (fun T44 X44 e44 => ?_)
  show own_Gl _ _ _ _ (T44.setTop (mkF m 20 #[vR (A 0)] [(.int (0 : Int32)), (.ref (A 22)), (.ref (A 0))]))
  refine oc_iaload X44 hx hZ e44 P17 ⟨by decide, hs0⟩ hv0 (dx hby dd53 10) ?_
  refine oc_private X44 hx hZ hown (wx hw 375) (wx hw 377) (wx hw 74) (wx hw 376) (wx hw 75) (wx hw 378) (by decide) (W := 0) (rmplF l Z a0 hw [] o A lo b P hd kH hv k24 n23 rv cd k21 n20 vt s0 h0 n0 Z0 P0 P1 P2 P3 P4 P5 P6 P7 P8 P9 P10 P11 P12 P13 hA hge i0 j2 r1_ hcv hcd hbz hS hV hints) (by decide) (by decide) P0 (argsL := [(.int o)]) (rest := []) (by rw [hml]; rfl) (lenOf pd_0 rfl) rfl (Nat.le_of_eq rfl) (dx hby dd53 11) rfl e44 (by decide) (by decide) (fun v46 T46 Lc46 hQ46 X46 => ?_)
  obtain ⟨N46q, rfl, hq46⟩ := hQ46
  have N46 := Fr.app N0 N46q
  refine og (XS.ifYes X46.here hx rfl (pc0 := 24) (pc' := 40) rfl (dx hby dd53 12) rfl ((if0 _ _).trans (teq (rfl : (0 : Int32) = (0 : Int32))).1) (by decide) (by decide)) ?_
  exact own_retV X46 hx hret hlk (dx hby dd53 20) hq46 (by decide) (by decide) ⟨N46, rfl, rfl⟩
theorem own_loopH {p : Program} {l : Launch} {e : Env} {R : Room} {s : State} {m : MethodId} {args : Array Value} {below : List Frame} {meth : Method} {c : Code} {T : State} {locs : List Loc} {cells slots : Nat} {P : Outcome → State → Prop} {pc : Nat} {Ls : Array Slot} {n : Nat} (X : Stand p l e R s m args below meth c T locs cells slots) (I : Nat → Heap → List Loc → Array Slot → Prop)
    (step : ∀ n T h locs Ls, T.heap = h → Stand p l e R s m args below meth c T locs cells slots → (∀ n', n' < n → ∀ T' h' locs' Ls', T'.heap = h' → Stand p l e R s m args below meth c T' locs' cells slots → I n' h' locs' Ls' → own_Gl p e below P (T'.setTop (mkF m pc Ls' []))) → I n h locs Ls → own_Gl p e below P (T.setTop (mkF m pc Ls []))) {h : Heap} (eh : T.heap = h) (hI : I n h locs Ls) : own_Gl p e below P (T.setTop (mkF m pc Ls [])) := by
  induction n using Nat.strongRecOn generalizing T h locs Ls with
  | ind n ih => exact step n T h locs Ls eh X (fun n' hn T' h' locs' Ls' e' X' i' => ih n' hn X' e' i') hI
def own_PO (rv os : List Value) (s0 : Int32) (o d : Nat → Int32) (k : Nat) : Prop := ∀ t, k ≤ t → t < s0.toNatClampNeg → os.getD t (.int (0 : Int32)) = .int (o t) ∧ ¬ (o t < (0 : Int32)) ∧ o t < s0 ∧ (o t).toNatClampNeg < s0.toNatClampNeg ∧ rv.getD (o t).toNatClampNeg (.int (0 : Int32)) = .int (d t) ∧ (1 ≤ (d t).toInt ∧ (d t).toInt ≤ 104) ∧ (t + 1 < s0.toNatClampNeg → (d t).toInt < (d (t + 1)).toInt)
theorem own_PO_s {rv os : List Value} {s0 : Int32} {o d : Nat → Int32} {x : Int32} (h : own_PO rv os s0 o d x.toNatClampNeg) (q : (x + (1 : Int32)).toInt = x.toInt + 1) : own_PO rv os s0 o d (x + (1 : Int32)).toNatClampNeg := by
  intro t ht hs
  exact h t (by simp only [Int32.toNatClampNeg] at *; omega) hs
theorem own_PO_h {rv os : List Value} {s0 : Int32} {o d : Nat → Int32} {x : Int32} (h : own_PO rv os s0 o d x.toNatClampNeg) (q : (x + (1 : Int32)).toInt = x.toInt + 1) (h0 : 0 ≤ x.toInt) : (x + (1 : Int32)).toInt < s0.toInt → ∀ w0 w1, own_mem w0 w1 (d x.toNatClampNeg) → ¬ (fhb (d (x + (1 : Int32)).toNatClampNeg) w0 w1 = (0 : Int32)) := by
  intro hs
  have e : (x + (1 : Int32)).toNatClampNeg = x.toNatClampNeg + 1 := by simp only [Int32.toNatClampNeg]; omega
  have l1 : x.toNatClampNeg + 1 < s0.toNatClampNeg := by simp only [Int32.toNatClampNeg]; omega
  rw [e]
  obtain ⟨-, -, -, -, -, a, b⟩ := h x.toNatClampNeg (Nat.le_refl _) (by omega)
  obtain ⟨-, -, -, -, -, a', -⟩ := h (x.toNatClampNeg + 1) (by omega) l1
  exact own_hb_mem a.1 (b l1) a'.2
theorem ef_poB (m : MethodId) (A : Nat → Addr)  : entryFrame m #[(.ref (A 0))] 1 = mkF m 0 #[vR (A 0)] [] := by first | (simp [entryFrame, mkF, argsToLocals, Value.category, vI, vR, vU]; done) | rfl
def QpoB (Z : State) (A : Nat → Addr) (lo : Int) (b : Int) (P : Int64 → Int64 → Prop) (hd : Addr) (kH : ClassId) (hv : List Value) (k24 : ClassId) (rv : List Value) (k21 : ClassId) (vt : List Value) (k22 : ClassId) (os : List Value) (o : Nat → Int32) (d : Nat → Int32) (s0 : Int32) (pl : Int32) (h0 : Heap) (n0 : Nat) (v : Option Value) (h : Heap) (L : List Loc) : Prop := Fr n0 L ∧ v = none ∧ Keep h0 h [(A 3), (A 5), (A 6), (A 7), (A 8), (A 9), (A 10), (A 11), (A 12), (A 13), (A 14), (A 21), (A 0)] ∧ Fld Z h (A 0) "com/example/sixfold/sixfold/rows/Table" "placed" "I" (.int s0) ∧ Fld Z h (A 0) "com/example/sixfold/sixfold/rows/Table" "seats" "I" (.int s0)
set_option maxRecDepth 65536 in
set_option maxHeartbeats 40000000 in
theorem rmpoB (l : Launch) (Z : State) (a0 : Array Value) (hw : ∀ d ∈ tables_1, d.before a0 Z = true) (ws : List Jvm.Cond) (A : Nat → Addr) (lo : Int) (b : Int) (P : Int64 → Int64 → Prop) (hd : Addr) (kH : ClassId) (hv : List Value) (k24 : ClassId) (rv : List Value) (k21 : ClassId) (vt : List Value) (k22 : ClassId) (os : List Value) (o : Nat → Int32) (d : Nat → Int32) (s0 : Int32) (pl : Int32) (h0 : Heap) (n0 : Nat) (Z0 : n0 ≤ h0.size) (P0 : Exa Z h0 (A 0) "com/example/sixfold/sixfold/rows/Table") (P1 : Fld Z h0 (A 0) "com/example/sixfold/sixfold/rows/Table" "rows" "Lcom/example/sixfold/sixfold/rows/Rows;" (.ref (A 1))) (P2 : Fld Z h0 (A 0) "com/example/sixfold/sixfold/rows/Table" "revealed" "Lcom/example/sixfold/sixfold/rows/IntList;" (.ref (A 23))) (P3 : Fld Z h0 (A 0) "com/example/sixfold/sixfold/rows/Table" "totals" "Lcom/example/sixfold/sixfold/rows/IntList;" (.ref (A 20))) (P4 : own_RWB Z h0 A lo b P) (P5 : Old Z n0 h0) (P6 : Exa Z h0 (A 23) "com/example/sixfold/sixfold/rows/IntList") (P7 : Fld Z h0 (A 23) "com/example/sixfold/sixfold/rows/IntList" "values" "[I" (.ref (A 24))) (P8 : Fld Z h0 (A 23) "com/example/sixfold/sixfold/rows/IntList" "size" "I" (.int s0)) (P9 : Arv Z h0 (A 24) k24 .int s0 rv (.int (0 : Int32))) (P10 : Exa Z h0 (A 20) "com/example/sixfold/sixfold/rows/IntList") (P11 : Fld Z h0 (A 20) "com/example/sixfold/sixfold/rows/IntList" "values" "[I" (.ref (A 21))) (P12 : Fld Z h0 (A 20) "com/example/sixfold/sixfold/rows/IntList" "size" "I" (.int s0)) (P13 : Arv Z h0 (A 21) k21 .int s0 vt (.int (0 : Int32))) (P14 : Fld Z h0 (A 0) "com/example/sixfold/sixfold/rows/Table" "placed" "I" (.int pl)) (P15 : Fld Z h0 (A 0) "com/example/sixfold/sixfold/rows/Table" "seats" "I" (.int s0)) (P16 : Fld Z h0 (A 0) "com/example/sixfold/sixfold/rows/Table" "order" "[I" (.ref (A 22))) (P17 : Arv Z h0 (A 22) k22 .int s0 os (.int (0 : Int32))) (hA : own_Inc A 25) (hge : ∀ i, i < 25 → n0 ≤ A i) (hpo : own_PO rv os s0 o d pl.toNatClampNeg) (hp0 : 0 ≤ pl.toInt ∧ pl.toInt ≤ s0.toInt ∧ s0.toInt ≤ 4) (hbd : 1 ≤ lo ∧ b + (s0.toInt - pl.toInt) ≤ 5) (hti : own_ints vt) (htl : s0.toNatClampNeg ≤ vt.length) (hbn : pl.toInt < s0.toInt → ∀ w0 w1, P w0 w1 → ¬ (fhb (d pl.toNatClampNeg) w0 w1 = (0 : Int32))) (hS : Sta Z Z.heap "com/example/sixfold/sixfold/rows/Card" "HEADS" "[B" (.ref hd)) (hV : Arv Z Z.heap hd kH .byte (105 : Int32) hv (.int (0 : Int32))) (hints : own_ints hv) :
    own_Cw l Z (⟨"com/example/sixfold/sixfold/rows/Table", "placeOn", "()V"⟩ : MethodName) prog_66_method_12_code 1 none ws (own_rr 6 0 0 86) #[(.ref (A 0))] h0 (QpoB Z A lo b P hd kH hv k24 rv k21 vt k22 os o d s0 pl h0 n0) := by
  refine own_body (plainFor_of_name pn_com_example_sixfold_sixfold_rows_Table) ?_
  intro p e s m below meth c s₁ hx hby hml hZ hown hnm hret hlk X0 e0
  have N0 := Fr.nil n0
  refine own_go (fun t k => castTop (ef_poB m A ) k) ?_
  have na : ∀ i, (i < 25 ∧ ∀ j ∈ [3, 5, 6, 7, 8, 9, 10, 11, 12, 13, 14, 21, 0], j < 25 ∧ j ≠ i) → A i ∉ [(A 3), (A 5), (A 6), (A 7), (A 8), (A 9), (A 10), (A 11), (A 12), (A 13), (A 14), (A 21), (A 0)] := fun i h => own_nin hA h.1 h.2
  have ng : ∀ w ∈ [(A 3), (A 5), (A 6), (A 7), (A 8), (A 9), (A 10), (A 11), (A 12), (A 13), (A 14), (A 21), (A 0)], n0 ≤ w := (allS (hge 3 (by decide)) (allS (hge 5 (by decide)) (allS (hge 6 (by decide)) (allS (hge 7 (by decide)) (allS (hge 8 (by decide)) (allS (hge 9 (by decide)) (allS (hge 10 (by decide)) (allS (hge 11 (by decide)) (allS (hge 12 (by decide)) (allS (hge 13 (by decide)) (allS (hge 14 (by decide)) (allS (hge 21 (by decide)) (allS (hge 0 (by decide)) all0)))))))))))))
  show own_Gl _ _ _ _ (s₁.setTop (mkF m 0 #[vR (A 0)] []))
  refine own_loopH X0 (n := (s0.toInt - pl.toInt).toNat) (fun n h L Ls => ∃ (lo1 b1 : Int) (P1 : Int64 → Int64 → Prop) (vt1 : List Value) (pl1 : Int32), Ls = #[vR (A 0)] ∧ Fr n0 L ∧ Keep h0 h [(A 3), (A 5), (A 6), (A 7), (A 8), (A 9), (A 10), (A 11), (A 12), (A 13), (A 14), (A 21), (A 0)] ∧ own_RWB Z h A lo1 b1 P1 ∧ Fld Z h (A 0) "com/example/sixfold/sixfold/rows/Table" "placed" "I" (.int pl1) ∧ Arv Z h (A 21) k21 .int s0 vt1 (.int (0 : Int32)) ∧ Fld Z h (A 0) "com/example/sixfold/sixfold/rows/Table" "rows" "Lcom/example/sixfold/sixfold/rows/Rows;" (.ref (A 1)) ∧ Fld Z h (A 0) "com/example/sixfold/sixfold/rows/Table" "revealed" "Lcom/example/sixfold/sixfold/rows/IntList;" (.ref (A 23)) ∧ Fld Z h (A 0) "com/example/sixfold/sixfold/rows/Table" "totals" "Lcom/example/sixfold/sixfold/rows/IntList;" (.ref (A 20)) ∧ Fld Z h (A 0) "com/example/sixfold/sixfold/rows/Table" "seats" "I" (.int s0) ∧ Fld Z h (A 0) "com/example/sixfold/sixfold/rows/Table" "order" "[I" (.ref (A 22)) ∧ own_PO rv os s0 o d pl1.toNatClampNeg ∧ (0 ≤ pl1.toInt ∧ pl1.toInt ≤ s0.toInt ∧ s0.toInt ≤ 4 ∧ pl1.toInt + n = s0.toInt) ∧ (1 ≤ lo1 ∧ b1 + (s0.toInt - pl1.toInt) ≤ 5) ∧ own_ints vt1 ∧ s0.toNatClampNeg ≤ vt1.length ∧ (pl1.toInt < s0.toInt → ∀ w0 w1, P1 w0 w1 → ¬ (fhb (d pl1.toNatClampNeg) w0 w1 = (0 : Int32)))) (fun n TL hL LcL Ls eL XL ih hI => ?_) e0 ⟨lo, b, P, vt, pl, rfl, N0, Keep.refl _ _, P4, P14, P13, P1, P2, P3, P15, P16, hpo, by omega, hbd, hti, htl, hbn⟩
  obtain ⟨lo1, b1, P1, vt1, pl1, rfl, NL, KL, G0, G1, G2, G3, G4, G5, G6, G7, hpo1, hp1, hbd1, hti1, htl1, hbn1⟩ := hI
  have ZL : n0 ≤ hL.size := Nat.le_trans Z0 KL.1
  refine sa XL hx (dx hby dd53 0) ?_
  refine oc_getF XL hx hZ hown (host := "") (Or.inl (wx hw 189)) Via.refl eL G1 (dx hby dd53 1) (fun T41 X41 e41 => ?_)
  refine sa X41 hx (dx hby dd53 2) ?_
  refine oc_getF X41 hx hZ hown (host := "") (Or.inl (wx hw 172)) Via.refl e41 G6 (dx hby dd53 3) (fun T42 X42 e42 => ?_)
  by_cases hc8_43 : pl1 < s0
  · refine og (XS.icmpNo X42.here hx rfl (dx hby dd53 4) rfl (tlt hc8_43).2.1) ?_
    have hlt : pl1.toInt < s0.toInt := by have q := hc8_43; rw [Int32.lt_iff_toInt_lt] at q; exact q
    obtain ⟨v1, v2, v3, v4, v5, v6, v7⟩ := hpo1 pl1.toNatClampNeg (Nat.le_refl _) (by simp only [Int32.toNatClampNeg]; omega)
    have hq1 : (pl1 + (1 : Int32)).toInt = pl1.toInt + 1 := Jvm.Kit.i32_add (by have z : (1 : Int32).toInt = 1 := rfl; omega) (by have z : (1 : Int32).toInt = 1 := rfl; omega)
    refine sa X42 hx (dx hby dd53 5) ?_
    refine sa X42 hx (dx hby dd53 6) ?_
    refine oc_getF X42 hx hZ hown (host := "") (Or.inl (wx hw 185)) Via.refl e42 G7 (dx hby dd53 7) (fun T44 X44 e44 => ?_)
    refine sa X44 hx (dx hby dd53 8) ?_
    refine oc_getF X44 hx hZ hown (host := "") (Or.inl (wx hw 189)) Via.refl e44 G1 (dx hby dd53 9) (fun T45 X45 e45 => ?_)
    show own_Gl _ _ _ _ (T45.setTop (mkF m 20 #[vR (A 0)] [(.int pl1), (.ref (A 22)), (.ref (A 0))]))
    have f_46 := P17.keep KL (na 22 (by decide))
    refine oc_iaload X45 hx hZ e45 f_46 ⟨by rw [Int32.lt_iff_toInt_lt]; have z : (0 : Int32).toInt = 0 := rfl; omega, hc8_43⟩ v1 (dx hby dd53 10) ?_
    have f_48 := P0.keep KL
    have f_49 := P5.keep KL ng
    have f_50 := P6.keep KL
    have f_51 := P7.keep KL (na 23 (by decide))
    have f_52 := P8.keep KL (na 23 (by decide))
    have f_53 := P9.keep KL (na 24 (by decide))
    have f_54 := P10.keep KL
    have f_55 := P11.keep KL (na 20 (by decide))
    have f_56 := P12.keep KL (na 20 (by decide))
    refine oc_private X45 hx hZ hown (wx hw 375) (wx hw 377) (wx hw 74) (wx hw 376) (wx hw 75) (wx hw 378) (by decide) (W := 0) (rmplT l Z a0 hw [] (o pl1.toNatClampNeg) A lo1 b1 P1 hd kH hv k24 s0 rv (d pl1.toNatClampNeg) k21 s0 vt1 s0 hL n0 ZL f_48 G3 G4 G5 G0 f_49 f_50 f_51 f_52 f_53 f_54 f_55 f_56 G2 hA hge v2 v3 v3 v5 v6 ⟨hbd1.1, by omega⟩ (hbn1 hlt) hti1 v3 (Nat.lt_of_lt_of_le v4 htl1) hS hV hints) (by decide) (by decide) f_48 (argsL := [(.int (o pl1.toNatClampNeg))]) (rest := []) (by rw [hml]; rfl) (lenOf pd_0 rfl) rfl (Nat.le_of_eq rfl) (dx hby dd53 11) rfl e45 (by decide) (by decide) (fun v57 T57 Lc57 hQ57 X57 => ?_)
    obtain ⟨N57q, w57_xn, rfl, K57q, po57_0, po57_1⟩ := hQ57
    have N57 := Fr.app NL N57q
    have K57 : Keep h0 T57.heap [(A 3), (A 5), (A 6), (A 7), (A 8), (A 9), (A 10), (A 11), (A 12), (A 13), (A 14), (A 21), (A 0)] := KL.trans K57q (allS (Or.inl (List.mem_of_getElem? (i := 0) rfl)) (allS (Or.inl (List.mem_of_getElem? (i := 1) rfl)) (allS (Or.inl (List.mem_of_getElem? (i := 2) rfl)) (allS (Or.inl (List.mem_of_getElem? (i := 3) rfl)) (allS (Or.inl (List.mem_of_getElem? (i := 4) rfl)) (allS (Or.inl (List.mem_of_getElem? (i := 5) rfl)) (allS (Or.inl (List.mem_of_getElem? (i := 6) rfl)) (allS (Or.inl (List.mem_of_getElem? (i := 7) rfl)) (allS (Or.inl (List.mem_of_getElem? (i := 8) rfl)) (allS (Or.inl (List.mem_of_getElem? (i := 9) rfl)) (allS (Or.inl (List.mem_of_getElem? (i := 10) rfl)) (allS (Or.inl (List.mem_of_getElem? (i := 11) rfl)) all0))))))))))))
    have Z57 : n0 ≤ T57.heap.size := Nat.le_trans ZL K57q.1
    refine og (XS.ifNo X57.here hx rfl (dx hby dd53 12) rfl ((if0 _ _).trans (feq (by decide : ¬ ((1 : Int32) = (0 : Int32)))).1)) ?_
    refine sa X57 hx (dx hby dd53 13) ?_
    refine og (XS.dup X57.here hx rfl (dx hby dd53 14) rfl rfl) ?_
    have f_59 := G1.keep K57q (own_nin hA (i := 0) (l := [3, 5, 6, 7, 8, 9, 10, 11, 12, 13, 14, 21]) (by decide) (by decide))
    refine oc_getF X57 hx hZ hown (host := "") (Or.inl (wx hw 189)) Via.refl rfl f_59 (dx hby dd53 15) (fun T58 X58 e58 => ?_)
    refine sc X58 hx (dx hby dd53 16) ?_
    refine og (XS.iadd X58.here hx rfl (dx hby dd53 17) rfl) ?_
    show own_Gl _ _ _ _ (T58.setTop (mkF m 34 #[vR (A 0)] [(.int (pl1 + (1 : Int32))), (.ref (A 0))]))
    have f_60 := f_48.keep K57q
    refine oc_putF X58 hx hZ hown (host := "") (Or.inl (wx hw 189)) Via.refl e58 f_59 f_60 (Or.inl (wx hw 190)) (wx hw 74) (ty := .int) (by decide) rfl rfl (dx hby dd53 18) (fun T61 h61 X61 e61 W61 => ?_)
    have Fw61 : Fld Z h61 (A 0) "com/example/sixfold/sixfold/rows/Table" "placed" "I" (.int (pl1 + (1 : Int32))) := f_59.same W61
    have K61 : Keep h0 h61 [(A 3), (A 5), (A 6), (A 7), (A 8), (A 9), (A 10), (A 11), (A 12), (A 13), (A 14), (A 21), (A 0)] := K57.wr W61 (Or.inl (List.mem_of_getElem? (i := 12) rfl))
    have N61 := Fr.snoc X61 N57 (hge 0 (by decide))
    have Z61 : n0 ≤ h61.size := Nat.le_trans Z57 (Keep.of_wr W61).1
    refine og (XS.goto X61.here hx rfl (pc0 := 37) (pc' := 0) rfl (dx hby dd53 19) (by decide) (by decide)) ?_
    show own_Gl _ _ _ _ (T61.setTop (mkF m 0 #[vR (A 0)] []))
    have f_62 : own_RWB Z h61 A 1 (b1 + 1) (fun w0 w1 => own_mem w0 w1 (d pl1.toNatClampNeg)) := (own_RWB_keep hA po57_0 (l := [0]) (Keep.of_wr W61) (by decide))
    have f_63 := po57_1.other W61 (own_ne hA (i := 21) (j := 0) (by decide) (by decide) (by decide))
    have f_64 := (G3.keep K57q (own_nin hA (i := 0) (l := [3, 5, 6, 7, 8, 9, 10, 11, 12, 13, 14, 21]) (by decide) (by decide))).other W61 (Or.inr (own_sn (Or.inr (wx hw 163)) (Or.inl (wx hw 190))))
    have f_65 := (G4.keep K57q (own_nin hA (i := 0) (l := [3, 5, 6, 7, 8, 9, 10, 11, 12, 13, 14, 21]) (by decide) (by decide))).other W61 (Or.inr (own_sn (Or.inr (wx hw 188)) (Or.inl (wx hw 190))))
    have f_66 := (G5.keep K57q (own_nin hA (i := 0) (l := [3, 5, 6, 7, 8, 9, 10, 11, 12, 13, 14, 21]) (by decide) (by decide))).other W61 (Or.inr (own_sn (Or.inr (wx hw 177)) (Or.inl (wx hw 190))))
    have f_67 := (G6.keep K57q (own_nin hA (i := 0) (l := [3, 5, 6, 7, 8, 9, 10, 11, 12, 13, 14, 21]) (by decide) (by decide))).other W61 (Or.inr (own_sn (Or.inr (wx hw 173)) (Or.inl (wx hw 190))))
    have f_68 := (G7.keep K57q (own_nin hA (i := 0) (l := [3, 5, 6, 7, 8, 9, 10, 11, 12, 13, 14, 21]) (by decide) (by decide))).other W61 (Or.inr (own_sn (Or.inr (wx hw 186)) (Or.inl (wx hw 190))))
    exact ih (n - 1) (by omega) _ _ _ _ e61 X61 ⟨1, _, _, _, _, rfl, N61, K61, f_62, Fw61, f_63, f_64, f_65, f_66, f_67, f_68, own_PO_s hpo1 hq1, by omega, ⟨by decide, by omega⟩, own_ints_set hti1 _ _, by rw [List.length_set]; exact htl1, own_PO_h hpo1 hq1 hp1.1⟩
  · refine og (XS.icmpYes X42.here hx rfl (pc0 := 8) (pc' := 40) rfl (dx hby dd53 4) rfl (flt hc8_43).2.1 (by decide) (by decide)) ?_
    have hpe : pl1 = s0 := by have q := hc8_43; rw [Int32.lt_iff_toInt_lt] at q; exact Int32.toInt_inj.1 (by omega)
    exact own_retV X42 hx hret hlk (dx hby dd53 20) e42 (by decide) (by decide) ⟨NL, rfl, KL, (hpe ▸ G1), G6⟩
theorem dd35 : own_dec prog_66_method_11_code [(0, .iload_n 1, 1), (1, .invokestatic 174, 3), (4, .ifCond .eq 18, 3), (7, .aload_n 0, 1), (8, .getfield 19, 3), (11, .iload_n 1, 1), (12, .invokevirtual 177, 3), (15, .ifCond .ne 7, 3), (18, .iconst 1, 1), (19, .goto 4, 3), (22, .iconst 0, 1), (23, .ireturn, 1)] := by unfold own_dec; decide +kernel
theorem ef_pla (m : MethodId) (A : Nat → Addr) (p0 : Int32) : entryFrame m #[(.ref (A 0)), (.int p0)] 2 = mkF m 0 #[vR (A 0), vI p0] [] := by first | (simp [entryFrame, mkF, argsToLocals, Value.category, vI, vR, vU]; done) | rfl
def Qpla (Z : State) (p0 : Int32) (A : Nat → Addr) (k16 : ClassId) (w0 : Int64) (w1 : Int64) (h0 : Heap) (n0 : Nat) (v : Option Value) (h : Heap) (L : List Loc) : Prop := Fr n0 L ∧ v = some (.int (1 : Int32)) ∧ h = h0
set_option maxRecDepth 65536 in
set_option maxHeartbeats 40000000 in
theorem rmpla (l : Launch) (Z : State) (a0 : Array Value) (hw : ∀ d ∈ tables_1, d.before a0 Z = true) (ws : List Jvm.Cond) (p0 : Int32) (A : Nat → Addr) (k16 : ClassId) (w0 : Int64) (w1 : Int64) (h0 : Heap) (n0 : Nat) (Z0 : n0 ≤ h0.size) (P0 : Fld Z h0 (A 0) "com/example/sixfold/sixfold/rows/Table" "played" "Lcom/example/sixfold/sixfold/rows/CardSet;" (.ref (A 15))) (P1 : Exa Z h0 (A 15) "com/example/sixfold/sixfold/rows/CardSet") (P2 : Fld Z h0 (A 15) "com/example/sixfold/sixfold/rows/CardSet" "words" "[J" (.ref (A 16))) (P3 : Arv Z h0 (A 16) k16 .long (2 : Int32) [(.long w0), (.long w1)] (.long (0 : Int64))) (hc : 1 ≤ p0.toInt ∧ p0.toInt ≤ 104) (hno : (fhas p0 w0 w1) = (0 : Int32)) :
    own_Cw l Z (⟨"com/example/sixfold/sixfold/rows/Table", "playable", "(I)Z"⟩ : MethodName) prog_66_method_11_code 2 (some .boolean) ws (own_rr 2 0 0 25) #[(.ref (A 0)), (.int p0)] h0 (Qpla Z p0 A k16 w0 w1 h0 n0) := by
  refine own_body (plainFor_of_name pn_com_example_sixfold_sixfold_rows_Table) ?_
  intro p e s m below meth c s₁ hx hby hml hZ hown hnm hret hlk X0 e0
  have N0 := Fr.nil n0
  refine own_go (fun t k => castTop (ef_pla m A p0) k) ?_
  refine si X0 hx (dx hby dd35 0) ?_
  refine oc_static X0 hx hZ hown (wx hw 282) (wx hw 283) (wx hw 284) (wx hw 285) (by decide) (W := 0) (rmisc l Z a0 hw [] p0 h0 n0 Z0 ) (by decide) (by decide) (argsL := [(.int p0)]) (rest := []) (by rw [hml]; rfl) (lenOf pd_0 rfl) rfl (Nat.le_of_eq rfl) (dx hby dd35 1) rfl e0 (by decide) (by decide) (fun v41 T41 Lc41 hQ41 X41 => ?_)
  obtain ⟨N41q, rfl, hq41⟩ := hQ41
  have N41 := Fr.app N0 N41q
  have hp42 : ¬ ((fisc p0) = (0 : Int32)) := own_iscn hc
  refine og (XS.ifNo X41.here hx rfl (dx hby dd35 2) rfl ((if0 _ _).trans (feq hp42).1)) ?_
  refine sa X41 hx (dx hby dd35 3) ?_
  refine oc_getF X41 hx hZ hown (host := "") (Or.inl (wx hw 166)) Via.refl hq41 P0 (dx hby dd35 4) (fun T43 X43 e43 => ?_)
  refine si X43 hx (dx hby dd35 5) ?_
  refine oc_virtual X43 hx hZ hown (wx hw 286) (wx hw 287) (wx hw 289) (wx hw 288) (wx hw 95) (wx hw 290) (by decide) (W := 0) (rmhas l Z a0 hw [] (A 15) p0 (A 16) k16 w0 w1 h0 n0 Z0 P2 P3) (by decide) (by decide) P1 (argsL := [(.int p0)]) (rest := []) (by rw [hml]; rfl) (lenOf pd_0 rfl) rfl (Nat.le_of_eq rfl) (dx hby dd35 6) rfl e43 (by decide) (by decide) (fun v44 T44 Lc44 hQ44 X44 => ?_)
  obtain ⟨N44q, rfl, hq44⟩ := hQ44
  have N44 := Fr.app N41 N44q
  refine og (XS.ifNo X44.here hx rfl (dx hby dd35 7) rfl ((if0 _ _).trans (teq hno).2)) ?_
  refine sc X44 hx (dx hby dd35 8) ?_
  refine og (XS.goto X44.here hx rfl (pc0 := 19) (pc' := 23) rfl (dx hby dd35 9) (by decide) (by decide)) ?_
  exact own_retB X44 hx (t := .boolean) hret hlk (by simp) (dx hby dd35 11) hq44 (by decide) (by decide) ⟨N44, rfl, rfl⟩
theorem dd58 : own_dec prog_66_method_6_code [(0, .aload_n 0, 1), (1, .getfield 66, 3), (4, .aload_n 0, 1), (5, .getfield 43, 3), (8, .if_icmp .ne 13, 3), (11, .new 132, 3), (14, .dup, 1), (15, .ldc 150, 2), (17, .invokespecial 135, 3), (20, .athrow, 1), (21, .iload_n 1, 1), (22, .iconst 1, 1), (23, .if_icmp .lt 8, 3), (26, .iload_n 1, 1), (27, .iconst 4, 1), (28, .if_icmp .le 17, 3), (31, .new 34, 3), (34, .dup, 1), (35, .iload_n 1, 1), (45, .aload_n 0, 1), (46, .getfield 59, 3), (49, .aload_n 0, 1), (50, .getfield 66, 3), (53, .iaload, 1), (54, .istore_n 2, 1), (55, .aload_n 0, 1), (56, .iload_n 2, 1), (57, .aload_n 0, 1), (58, .getfield 10, 3), (61, .iload_n 1, 1), (62, .iconst 1, 1), (63, .isub, 1), (64, .aload_n 0, 1), (65, .getfield 63, 3), (68, .iload_n 2, 1), (69, .invokevirtual 119, 3), (72, .invokevirtual 153, 3), (75, .invokevirtual 155, 3), (78, .aload_n 0, 1), (79, .dup, 1), (80, .getfield 66, 3), (83, .iconst 1, 1), (84, .iadd, 1), (85, .putfield 66, 3), (88, .aload_n 0, 1), (89, .invokevirtual 147, 3), (92, .return_, 1)] := by unfold own_dec; decide +kernel
theorem ef_tk (m : MethodId) (A : Nat → Addr) (p0 : Int32) : entryFrame m #[(.ref (A 0)), (.int p0)] 3 = mkF m 0 #[vR (A 0), vI p0, vU] [] := by first | (simp [entryFrame, mkF, argsToLocals, Value.category, vI, vR, vU]; done) | rfl
def Qtk (Z : State) (p0 : Int32) (A : Nat → Addr) (lo : Int) (b : Int) (P : Int64 → Int64 → Prop) (hd : Addr) (kH : ClassId) (hv : List Value) (k24 : ClassId) (rv : List Value) (k21 : ClassId) (vt : List Value) (k22 : ClassId) (os : List Value) (o : Nat → Int32) (d : Nat → Int32) (s0 : Int32) (ri : Nat) (i7 : Nat) (i8 : Nat) (h0 : Heap) (n0 : Nat) (v : Option Value) (h : Heap) (L : List Loc) : Prop := Fr n0 L ∧ v = none ∧ Keep h0 h [(A 3), (A 5), (A 6), (A 7), (A 8), (A 9), (A 10), (A 11), (A 12), (A 13), (A 14), (A 21), (A 0)] ∧ Fld Z h (A 0) "com/example/sixfold/sixfold/rows/Table" "placed" "I" (.int s0) ∧ Fld Z h (A 0) "com/example/sixfold/sixfold/rows/Table" "seats" "I" (.int s0)
set_option maxRecDepth 65536 in
set_option maxHeartbeats 40000000 in
theorem rmtk (l : Launch) (Z : State) (a0 : Array Value) (hw : ∀ d ∈ tables_1, d.before a0 Z = true) (ws : List Jvm.Cond) (p0 : Int32) (A : Nat → Addr) (lo : Int) (b : Int) (P : Int64 → Int64 → Prop) (hd : Addr) (kH : ClassId) (hv : List Value) (k24 : ClassId) (rv : List Value) (k21 : ClassId) (vt : List Value) (k22 : ClassId) (os : List Value) (o : Nat → Int32) (d : Nat → Int32) (s0 : Int32) (ri : Nat) (i7 : Nat) (i8 : Nat) (h0 : Heap) (n0 : Nat) (Z0 : n0 ≤ h0.size) (P0 : Exa Z h0 (A 0) "com/example/sixfold/sixfold/rows/Table") (P1 : Fld Z h0 (A 0) "com/example/sixfold/sixfold/rows/Table" "rows" "Lcom/example/sixfold/sixfold/rows/Rows;" (.ref (A 1))) (P2 : Fld Z h0 (A 0) "com/example/sixfold/sixfold/rows/Table" "revealed" "Lcom/example/sixfold/sixfold/rows/IntList;" (.ref (A 23))) (P3 : Fld Z h0 (A 0) "com/example/sixfold/sixfold/rows/Table" "totals" "Lcom/example/sixfold/sixfold/rows/IntList;" (.ref (A 20))) (P4 : own_RWB Z h0 A lo b P) (P5 : Old Z n0 h0) (P6 : Exa Z h0 (A 23) "com/example/sixfold/sixfold/rows/IntList") (P7 : Fld Z h0 (A 23) "com/example/sixfold/sixfold/rows/IntList" "values" "[I" (.ref (A 24))) (P8 : Fld Z h0 (A 23) "com/example/sixfold/sixfold/rows/IntList" "size" "I" (.int s0)) (P9 : Arv Z h0 (A 24) k24 .int s0 rv (.int (0 : Int32))) (P10 : Exa Z h0 (A 20) "com/example/sixfold/sixfold/rows/IntList") (P11 : Fld Z h0 (A 20) "com/example/sixfold/sixfold/rows/IntList" "values" "[I" (.ref (A 21))) (P12 : Fld Z h0 (A 20) "com/example/sixfold/sixfold/rows/IntList" "size" "I" (.int s0)) (P13 : Arv Z h0 (A 21) k21 .int s0 vt (.int (0 : Int32))) (P14 : Fld Z h0 (A 0) "com/example/sixfold/sixfold/rows/Table" "placed" "I" (.int (0 : Int32))) (P15 : Fld Z h0 (A 0) "com/example/sixfold/sixfold/rows/Table" "seats" "I" (.int s0)) (P16 : Fld Z h0 (A 0) "com/example/sixfold/sixfold/rows/Table" "order" "[I" (.ref (A 22))) (P17 : Arv Z h0 (A 22) k22 .int s0 os (.int (0 : Int32))) (hA : own_Inc A 25) (hge : ∀ i, i < 25 → n0 ≤ A i) (hri : ri < 4) (hi7 : i7 = 7 + 2 * ri) (hi8 : i8 = 8 + 2 * ri) (hpr : p0 - (1 : Int32) = Int32.ofInt (ri : Int)) (hp1 : ¬ (p0 < (1 : Int32))) (hp4 : ¬ ((4 : Int32) < p0)) (hpo : own_PO rv os s0 o d 0) (hs0 : 1 ≤ s0.toInt ∧ s0.toInt ≤ 4) (hbd : 1 ≤ lo ∧ 1 ≤ b ∧ b + (s0.toInt - 1) ≤ 5) (hti : own_ints vt) (htl : s0.toNatClampNeg ≤ vt.length) (hS : Sta Z Z.heap "com/example/sixfold/sixfold/rows/Card" "HEADS" "[B" (.ref hd)) (hV : Arv Z Z.heap hd kH .byte (105 : Int32) hv (.int (0 : Int32))) (hints : own_ints hv) :
    own_Cw l Z (⟨"com/example/sixfold/sixfold/rows/Table", "take", "(I)V"⟩ : MethodName) prog_66_method_6_code 3 none ws (own_rr 7 0 0 98) #[(.ref (A 0)), (.int p0)] h0 (Qtk Z p0 A lo b P hd kH hv k24 rv k21 vt k22 os o d s0 ri i7 i8 h0 n0) := by
  refine own_body (plainFor_of_name pn_com_example_sixfold_sixfold_rows_Table) ?_
  intro p e s m below meth c s₁ hx hby hml hZ hown hnm hret hlk X0 e0
  have N0 := Fr.nil n0
  refine own_go (fun t k => castTop (ef_tk m A p0) k) ?_
  have na : ∀ i, (i < 25 ∧ ∀ j ∈ [3, 5, 6, 7, 8, 9, 10, 11, 12, 13, 14, 21, 0], j < 25 ∧ j ≠ i) → A i ∉ [(A 3), (A 5), (A 6), (A 7), (A 8), (A 9), (A 10), (A 11), (A 12), (A 13), (A 14), (A 21), (A 0)] := fun i h => own_nin hA h.1 h.2
  have ng : ∀ w ∈ [(A 3), (A 5), (A 6), (A 7), (A 8), (A 9), (A 10), (A 11), (A 12), (A 13), (A 14), (A 21), (A 0)], n0 ≤ w := (allS (hge 3 (by decide)) (allS (hge 5 (by decide)) (allS (hge 6 (by decide)) (allS (hge 7 (by decide)) (allS (hge 8 (by decide)) (allS (hge 9 (by decide)) (allS (hge 10 (by decide)) (allS (hge 11 (by decide)) (allS (hge 12 (by decide)) (allS (hge 13 (by decide)) (allS (hge 14 (by decide)) (allS (hge 21 (by decide)) (allS (hge 0 (by decide)) all0)))))))))))))
  refine sa X0 hx (dx hby dd58 0) ?_
  refine oc_getF X0 hx hZ hown (host := "") (Or.inl (wx hw 189)) Via.refl e0 P14 (dx hby dd58 1) (fun T41 X41 e41 => ?_)
  refine sa X41 hx (dx hby dd58 2) ?_
  refine oc_getF X41 hx hZ hown (host := "") (Or.inl (wx hw 172)) Via.refl e41 P15 (dx hby dd58 3) (fun T42 X42 e42 => ?_)
  have hp43 : ¬ ((0 : Int32) = s0) := (by intro q; rw [← q] at hs0; exact absurd hs0.1 (by decide))
  refine og (XS.icmpYes X42.here hx rfl (pc0 := 8) (pc' := 21) rfl (dx hby dd58 4) rfl (feq hp43).2 (by decide) (by decide)) ?_
  refine si X42 hx (dx hby dd58 10) ?_
  refine sc X42 hx (dx hby dd58 11) ?_
  refine og (XS.icmpNo X42.here hx rfl (dx hby dd58 12) rfl (flt hp1).1) ?_
  refine si X42 hx (dx hby dd58 13) ?_
  refine sc X42 hx (dx hby dd58 14) ?_
  refine og (XS.icmpYes X42.here hx rfl (pc0 := 28) (pc' := 45) rfl (dx hby dd58 15) rfl (flt hp4).2.2.2 (by decide) (by decide)) ?_
  obtain ⟨v1, v2, v3, v4, v5, v6, v7⟩ := hpo 0 (Nat.le_refl _) (by simp only [Int32.toNatClampNeg]; omega)
  have z0 : (0 : Int32).toInt = 0 := rfl
  have hq1 : ((0 : Int32) + (1 : Int32)).toInt = (0 : Int32).toInt + 1 := rfl
  obtain ⟨xt, ext⟩ := hti (o 0).toNatClampNeg
  refine sa X42 hx (dx hby dd58 19) ?_
  refine oc_getF X42 hx hZ hown (host := "") (Or.inl (wx hw 185)) Via.refl e42 P16 (dx hby dd58 20) (fun T44 X44 e44 => ?_)
  refine sa X44 hx (dx hby dd58 21) ?_
  refine oc_getF X44 hx hZ hown (host := "") (Or.inl (wx hw 189)) Via.refl e44 P14 (dx hby dd58 22) (fun T45 X45 e45 => ?_)
  show own_Gl _ _ _ _ (T45.setTop (mkF m 53 #[vR (A 0), vI p0, vU] [(.int (0 : Int32)), (.ref (A 22))]))
  refine oc_iaload X45 hx hZ e45 P17 ⟨by decide, by rw [Int32.lt_iff_toInt_lt]; omega⟩ v1 (dx hby dd58 23) ?_
  refine og (XS.istoreN X45.here hx rfl (dx hby dd58 24) rfl (l' := #[vR (A 0), vI p0, vI (o 0)]) rfl) ?_
  refine sa X45 hx (dx hby dd58 25) ?_
  refine si X45 hx (dx hby dd58 26) ?_
  refine sa X45 hx (dx hby dd58 27) ?_
  refine oc_getF X45 hx hZ hown (host := "") (Or.inl (wx hw 162)) Via.refl e45 P1 (dx hby dd58 28) (fun T47 X47 e47 => ?_)
  refine si X47 hx (dx hby dd58 29) ?_
  refine sc X47 hx (dx hby dd58 30) ?_
  refine og (XS.isub X47.here hx rfl (dx hby dd58 31) rfl) ?_
  refine sa X47 hx (dx hby dd58 32) ?_
  refine oc_getF X47 hx hZ hown (host := "") (Or.inl (wx hw 187)) Via.refl e47 P2 (dx hby dd58 33) (fun T48 X48 e48 => ?_)
  refine si X48 hx (dx hby dd58 34) ?_
  refine oc_virtual X48 hx hZ hown (wx hw 379) (wx hw 380) (wx hw 382) (wx hw 381) (wx hw 111) (wx hw 383) (by decide) (W := 4) (rmat l Z a0 hw [] (A 23) (o 0) (A 24) k24 s0 s0 rv (d 0) h0 n0 Z0 P7 P8 P9 v2 v3 v3 v5) (by decide) (by decide) P6 (argsL := [(.int (o 0))]) (rest := [(.int (p0 - (1 : Int32))), (.ref (A 1)), (.int (o 0)), (.ref (A 0))]) (by rw [hml]; rfl) (lenOf pd_2 rfl) rfl (Nat.le_of_eq rfl) (dx hby dd58 35) rfl e48 (by decide) (by decide) (fun v49 T49 Lc49 hQ49 X49 => ?_)
  obtain ⟨N49q, rfl, hq49⟩ := hQ49
  have N49 := Fr.app N0 N49q
  refine oc_virtual X49 hx hZ hown (wx hw 400) (wx hw 401) (wx hw 403) (wx hw 402) (wx hw 82) (wx hw 404) (by decide) (W := 2) (rmrtk l Z a0 hw [] (p0 - (1 : Int32)) (d 0) A lo b P hd kH hv ri i7 i8 h0 n0 Z0 P4 P5 hA hge v6 ⟨hbd.1, hbd.2.1, by omega⟩ hri hi7 hi8 hpr hS hV hints) (by decide) (by decide) P4.1 (argsL := [(.int (p0 - (1 : Int32))), (.int (d 0))]) (rest := [(.int (o 0)), (.ref (A 0))]) (by rw [hml]; rfl) (lenOf pd_5 rfl) rfl (Nat.le_of_eq rfl) (dx hby dd58 36) rfl hq49 (by decide) (by decide) (fun v50 T50 Lc50 hQ50 X50 => ?_)
  obtain ⟨N50q, w50_y, rfl, K50q, po50_0⟩ := hQ50
  have N50 := Fr.app N49 N50q
  have K50 : Keep h0 T50.heap [(A 3), (A 5), (A 6), (A 7), (A 8), (A 9), (A 10), (A 11), (A 12), (A 13), (A 14), (A 21), (A 0)] := (Keep.refl h0 [(A 3), (A 5), (A 6), (A 7), (A 8), (A 9), (A 10), (A 11), (A 12), (A 13), (A 14), (A 21), (A 0)]).trans K50q (allS (Or.inl (List.mem_of_getElem? (i := 0) rfl)) (allS (Or.inl (List.mem_of_getElem? (i := 1) rfl)) (allS (Or.inl (List.mem_of_getElem? (i := 2) rfl)) (allS (Or.inl (own_memw A hri (Or.inl hi7) [(A 21), (A 0)])) (allS (Or.inl (own_memw A hri (Or.inr hi8) [(A 21), (A 0)])) all0)))))
  have Z50 : n0 ≤ T50.heap.size := Nat.le_trans Z0 K50q.1
  have f_51 := P3.keep K50q (ninS (own_ne hA (i := 0) (j := 3) (by decide) (by decide) (by decide)) (ninS (own_ne hA (i := 0) (j := 5) (by decide) (by decide) (by decide)) (ninS (own_ne hA (i := 0) (j := 6) (by decide) (by decide) (by decide)) (ninS (own_ne hA (i := 0) (j := i7) (by omega) (by omega) (by omega)) (ninS (own_ne hA (i := 0) (j := i8) (by omega) (by omega) (by omega)) nin0)))))
  have f_52 := P10.keep K50
  have f_53 := P11.keep K50 (na 20 (by decide))
  have f_54 := P12.keep K50 (na 20 (by decide))
  have f_55 := P13.keep K50q (ninS (own_ne hA (i := 21) (j := 3) (by decide) (by decide) (by decide)) (ninS (own_ne hA (i := 21) (j := 5) (by decide) (by decide) (by decide)) (ninS (own_ne hA (i := 21) (j := 6) (by decide) (by decide) (by decide)) (ninS (own_ne hA (i := 21) (j := i7) (by omega) (by omega) (by omega)) (ninS (own_ne hA (i := 21) (j := i8) (by omega) (by omega) (by omega)) nin0)))))
  have f_57 := P0.keep K50q
  refine oc_private X50 hx hZ hown (wx hw 412) (wx hw 414) (wx hw 74) (wx hw 413) (wx hw 75) (wx hw 415) (by decide) (W := 0) (rmcharge l Z a0 hw [] (o 0) w50_y A k21 s0 vt s0 xt T50.heap n0 Z50 f_51 f_52 f_53 f_54 f_55 hA hge v2 v3 v3 ext (Nat.lt_of_lt_of_le v4 htl)) (by decide) (by decide) f_57 (argsL := [(.int (o 0)), (.int w50_y)]) (rest := []) (by rw [hml]; rfl) (lenOf pd_15 rfl) rfl (Nat.le_of_eq rfl) (dx hby dd58 37) rfl rfl (by decide) (by decide) (fun v56 T56 Lc56 hQ56 X56 => ?_)
  obtain ⟨N56q, rfl, K56q, po56_0⟩ := hQ56
  have N56 := Fr.app N50 N56q
  have K56 : Keep h0 T56.heap [(A 3), (A 5), (A 6), (A 7), (A 8), (A 9), (A 10), (A 11), (A 12), (A 13), (A 14), (A 21), (A 0)] := K50.trans K56q (allS (Or.inl (List.mem_of_getElem? (i := 11) rfl)) all0)
  have Z56 : n0 ≤ T56.heap.size := Nat.le_trans Z50 K56q.1
  refine sa X56 hx (dx hby dd58 38) ?_
  refine og (XS.dup X56.here hx rfl (dx hby dd58 39) rfl rfl) ?_
  have f_59 := (P14.keep K50q (ninS (own_ne hA (i := 0) (j := 3) (by decide) (by decide) (by decide)) (ninS (own_ne hA (i := 0) (j := 5) (by decide) (by decide) (by decide)) (ninS (own_ne hA (i := 0) (j := 6) (by decide) (by decide) (by decide)) (ninS (own_ne hA (i := 0) (j := i7) (by omega) (by omega) (by omega)) (ninS (own_ne hA (i := 0) (j := i8) (by omega) (by omega) (by omega)) nin0)))))).keep K56q (own_nin hA (i := 0) (l := [21]) (by decide) (by decide))
  refine oc_getF X56 hx hZ hown (host := "") (Or.inl (wx hw 189)) Via.refl rfl f_59 (dx hby dd58 40) (fun T58 X58 e58 => ?_)
  refine sc X58 hx (dx hby dd58 41) ?_
  refine og (XS.iadd X58.here hx rfl (dx hby dd58 42) rfl) ?_
  show own_Gl _ _ _ _ (T58.setTop (mkF m 85 #[vR (A 0), vI p0, vI (o 0)] [(.int (1 : Int32)), (.ref (A 0))]))
  have f_60 := f_57.keep K56q
  refine oc_putF X58 hx hZ hown (host := "") (Or.inl (wx hw 189)) Via.refl e58 f_59 f_60 (Or.inl (wx hw 190)) (wx hw 74) (ty := .int) (by decide) rfl rfl (dx hby dd58 43) (fun T61 h61 X61 e61 W61 => ?_)
  have Fw61 : Fld Z h61 (A 0) "com/example/sixfold/sixfold/rows/Table" "placed" "I" (.int (1 : Int32)) := f_59.same W61
  have K61 : Keep h0 h61 [(A 3), (A 5), (A 6), (A 7), (A 8), (A 9), (A 10), (A 11), (A 12), (A 13), (A 14), (A 21), (A 0)] := K56.wr W61 (Or.inl (List.mem_of_getElem? (i := 12) rfl))
  have N61 := Fr.snoc X61 N56 (hge 0 (by decide))
  have Z61 : n0 ≤ h61.size := Nat.le_trans Z56 (Keep.of_wr W61).1
  refine sa X61 hx (dx hby dd58 44) ?_
  have f_62 := f_60.wr W61
  have f_63 := ((P1.keep K50q (ninS (own_ne hA (i := 0) (j := 3) (by decide) (by decide) (by decide)) (ninS (own_ne hA (i := 0) (j := 5) (by decide) (by decide) (by decide)) (ninS (own_ne hA (i := 0) (j := 6) (by decide) (by decide) (by decide)) (ninS (own_ne hA (i := 0) (j := i7) (by omega) (by omega) (by omega)) (ninS (own_ne hA (i := 0) (j := i8) (by omega) (by omega) (by omega)) nin0)))))).keep K56q (own_nin hA (i := 0) (l := [21]) (by decide) (by decide))).other W61 (Or.inr (own_sn (Or.inr (wx hw 163)) (Or.inl (wx hw 190))))
  have f_64 := ((P2.keep K50q (ninS (own_ne hA (i := 0) (j := 3) (by decide) (by decide) (by decide)) (ninS (own_ne hA (i := 0) (j := 5) (by decide) (by decide) (by decide)) (ninS (own_ne hA (i := 0) (j := 6) (by decide) (by decide) (by decide)) (ninS (own_ne hA (i := 0) (j := i7) (by omega) (by omega) (by omega)) (ninS (own_ne hA (i := 0) (j := i8) (by omega) (by omega) (by omega)) nin0)))))).keep K56q (own_nin hA (i := 0) (l := [21]) (by decide) (by decide))).other W61 (Or.inr (own_sn (Or.inr (wx hw 188)) (Or.inl (wx hw 190))))
  have f_65 := (f_51.keep K56q (own_nin hA (i := 0) (l := [21]) (by decide) (by decide))).other W61 (Or.inr (own_sn (Or.inr (wx hw 177)) (Or.inl (wx hw 190))))
  have f_66 : own_RWB Z h61 A 1 b (fun w0 w1 => own_mem w0 w1 (d 0)) := (own_RWB_keep hA (own_RWB_keep hA po50_0 (l := [21]) K56q (by decide)) (l := [0]) (Keep.of_wr W61) (by decide))
  have f_67 := P5.keep K61 ng
  have f_68 := P6.keep K61
  have f_69 := P7.keep K61 (na 23 (by decide))
  have f_70 := P8.keep K61 (na 23 (by decide))
  have f_71 := P9.keep K61 (na 24 (by decide))
  have f_72 := P10.keep K61
  have f_73 := P11.keep K61 (na 20 (by decide))
  have f_74 := P12.keep K61 (na 20 (by decide))
  have f_75 := po56_0.other W61 (own_ne hA (i := 21) (j := 0) (by decide) (by decide) (by decide))
  have f_76 := ((P15.keep K50q (ninS (own_ne hA (i := 0) (j := 3) (by decide) (by decide) (by decide)) (ninS (own_ne hA (i := 0) (j := 5) (by decide) (by decide) (by decide)) (ninS (own_ne hA (i := 0) (j := 6) (by decide) (by decide) (by decide)) (ninS (own_ne hA (i := 0) (j := i7) (by omega) (by omega) (by omega)) (ninS (own_ne hA (i := 0) (j := i8) (by omega) (by omega) (by omega)) nin0)))))).keep K56q (own_nin hA (i := 0) (l := [21]) (by decide) (by decide))).other W61 (Or.inr (own_sn (Or.inr (wx hw 173)) (Or.inl (wx hw 190))))
  have f_77 := ((P16.keep K50q (ninS (own_ne hA (i := 0) (j := 3) (by decide) (by decide) (by decide)) (ninS (own_ne hA (i := 0) (j := 5) (by decide) (by decide) (by decide)) (ninS (own_ne hA (i := 0) (j := 6) (by decide) (by decide) (by decide)) (ninS (own_ne hA (i := 0) (j := i7) (by omega) (by omega) (by omega)) (ninS (own_ne hA (i := 0) (j := i8) (by omega) (by omega) (by omega)) nin0)))))).keep K56q (own_nin hA (i := 0) (l := [21]) (by decide) (by decide))).other W61 (Or.inr (own_sn (Or.inr (wx hw 186)) (Or.inl (wx hw 190))))
  have f_78 := P17.keep K61 (na 22 (by decide))
  refine oc_private X61 hx hZ hown (wx hw 371) (wx hw 373) (wx hw 74) (wx hw 372) (wx hw 75) (wx hw 374) (by decide) (W := 0) (rmpoB l Z a0 hw [] A 1 b (fun w0 w1 => own_mem w0 w1 (d 0)) hd kH hv k24 rv k21 (vt.set (o 0).toNatClampNeg (.int (xt + w50_y))) k22 os o d s0 (1 : Int32) h61 n0 Z61 f_62 f_63 f_64 f_65 f_66 f_67 f_68 f_69 f_70 f_71 f_72 f_73 f_74 f_75 Fw61 f_76 f_77 f_78 hA hge (own_PO_s (x := (0 : Int32)) hpo hq1) ⟨by decide, by have z : (1 : Int32).toInt = 1 := rfl; omega, hs0.2⟩ ⟨by decide, by have z : (1 : Int32).toInt = 1 := rfl; omega⟩ (own_ints_set hti _ _) (by rw [List.length_set]; exact htl) (own_PO_h (x := (0 : Int32)) hpo hq1 (by decide)) hS hV hints) (by decide) (by decide) f_62 (argsL := []) (rest := []) (by rw [hml]; rfl) (lenOf pd_4 rfl) rfl (Nat.le_of_eq rfl) (dx hby dd58 45) rfl e61 (by decide) (by decide) (fun v79 T79 Lc79 hQ79 X79 => ?_)
  obtain ⟨N79q, rfl, K79q, po79_0, po79_1⟩ := hQ79
  have N79 := Fr.app N61 N79q
  have K79 : Keep h0 T79.heap [(A 3), (A 5), (A 6), (A 7), (A 8), (A 9), (A 10), (A 11), (A 12), (A 13), (A 14), (A 21), (A 0)] := K61.trans K79q (allS (Or.inl (List.mem_of_getElem? (i := 0) rfl)) (allS (Or.inl (List.mem_of_getElem? (i := 1) rfl)) (allS (Or.inl (List.mem_of_getElem? (i := 2) rfl)) (allS (Or.inl (List.mem_of_getElem? (i := 3) rfl)) (allS (Or.inl (List.mem_of_getElem? (i := 4) rfl)) (allS (Or.inl (List.mem_of_getElem? (i := 5) rfl)) (allS (Or.inl (List.mem_of_getElem? (i := 6) rfl)) (allS (Or.inl (List.mem_of_getElem? (i := 7) rfl)) (allS (Or.inl (List.mem_of_getElem? (i := 8) rfl)) (allS (Or.inl (List.mem_of_getElem? (i := 9) rfl)) (allS (Or.inl (List.mem_of_getElem? (i := 10) rfl)) (allS (Or.inl (List.mem_of_getElem? (i := 11) rfl)) (allS (Or.inl (List.mem_of_getElem? (i := 12) rfl)) all0)))))))))))))
  have Z79 : n0 ≤ T79.heap.size := Nat.le_trans Z61 K79q.1
  exact own_retV X79 hx hret hlk (dx hby dd58 46) rfl (by decide) (by decide) ⟨N79, rfl, K79, po79_0, po79_1⟩
def own_bt (w0 w1 : Int64) (k : Nat) : Bool := (if k < 64 then w0 else w1).toBitVec.toNat.testBit (k % 64)
theorem own_bsel (w0 w1 : Int64) (k : Fin 105) : own_sel w0 w1 (Int32.ofInt (k.val : Int)) = if k.val < 64 then w0 else w1 := by
  unfold own_sel; by_cases r : k.val < 64
  · rw [if_pos r, if_pos ((own_lt64 k).2 r)]
  · rw [if_neg r, if_neg (fun x => r ((own_lt64 k).1 x))]
theorem own_tand (w : Int64) (k : Fin 105) : (w &&& ((1 : Int64) <<< ((Int32.ofInt (k.val : Int)) &&& 0x3f).toInt64)) = (0 : Int64) ↔ w.toBitVec.toNat.testBit (k.val % 64) = false := by
  rw [own_w0, Int64.toBitVec_and, BitVec.toNat_and, own_bitn]
  constructor
  · intro h
    have := congrArg (fun x => Nat.testBit x (k.val % 64)) h
    simp only [Nat.testBit_and, Nat.testBit_two_pow_self, Nat.zero_testBit, Bool.and_true] at this
    exact this
  · exact own_and2
theorem own_fisk (k : Fin 105) (h : 1 ≤ k.val) : ¬ (fisc (Int32.ofInt (k.val : Int)) = (0 : Int32)) := own_iscn (by rw [own_ofk]; omega)
theorem own_mem_iff {w0 w1 : Int64} (k : Fin 105) (h : 1 ≤ k.val) : own_mem w0 w1 (Int32.ofInt (k.val : Int)) ↔ own_bt w0 w1 k.val = true := by
  unfold own_mem fhas own_bt
  rw [if_neg (own_fisk k h), own_bsel]
  have t := own_tand (if k.val < 64 then w0 else w1) k
  by_cases q : ((if k.val < 64 then w0 else w1) &&& ((1 : Int64) <<< ((Int32.ofInt (k.val : Int)) &&& 0x3f).toInt64)) = (0 : Int64)
  · rw [if_pos q, t.1 q]; simp
  · rw [if_neg q]
    have : (if k.val < 64 then w0 else w1).toBitVec.toNat.testBit (k.val % 64) = true := by
      cases e : (if k.val < 64 then w0 else w1).toBitVec.toNat.testBit (k.val % 64)
      · exact absurd (t.2 e) q
      · rfl
    rw [this]; simp
theorem own_bt_put (w0 w1 : Int64) (c : Fin 105) (k : Nat) (hk : k < 128) : own_bt (own_pw0 w0 w1 (Int32.ofInt (c.val : Int))) (own_pw1 w0 w1 (Int32.ofInt (c.val : Int))) k = (own_bt w0 w1 k || decide (c.val = k)) := by
  unfold own_bt own_pw0 own_pw1
  have hc := c.isLt
  rw [own_bsel]
  by_cases q : c.val < 64
  · rw [if_pos ((own_lt64 c).2 q), if_pos ((own_lt64 c).2 q), if_pos q]
    by_cases r : k < 64
    · rw [if_pos r, if_pos r, Int64.toBitVec_or, BitVec.toNat_or, Nat.testBit_or, own_bitn, Nat.testBit_two_pow]
      congr 1; apply decide_eq_decide.2; omega
    · rw [if_neg r, if_neg r]
      have : ¬ c.val = k := by omega
      simp [this]
  · rw [if_neg (fun x => q ((own_lt64 c).1 x)), if_neg (fun x => q ((own_lt64 c).1 x)), if_neg q]
    by_cases r : k < 64
    · rw [if_pos r, if_pos r]
      have : ¬ c.val = k := by omega
      simp [this]
    · rw [if_neg r, if_neg r, Int64.toBitVec_or, BitVec.toNat_or, Nat.testBit_or, own_bitn, Nat.testBit_two_pow]
      congr 1; apply decide_eq_decide.2; omega
theorem own_m1n : (-1 : Int64).toBitVec.toNat = 2 ^ 64 - 1 := by decide
theorem own_tinv (w : Int64) (c : Fin 105) (i : Nat) (hi : i < 64) : (w &&& (((1 : Int64) <<< ((Int32.ofInt (c.val : Int)) &&& 0x3f).toInt64) ^^^ (-1 : Int64))).toBitVec.toNat.testBit i = (w.toBitVec.toNat.testBit i && !decide (c.val % 64 = i)) := by
  rw [Int64.toBitVec_and, BitVec.toNat_and, Nat.testBit_and, Int64.toBitVec_xor, BitVec.toNat_xor, Nat.testBit_xor, own_bitn, own_m1n, Nat.testBit_two_pow, Nat.testBit_two_pow_sub_one]
  simp [hi]
theorem own_bt_tout (w0 w1 : Int64) (c : Fin 105) (h1 : 1 ≤ c.val) (k : Nat) (hk : k < 128) : own_bt (own_tw0 w0 w1 (Int32.ofInt (c.val : Int))) (own_tw1 w0 w1 (Int32.ofInt (c.val : Int))) k = (own_bt w0 w1 k && !decide (c.val = k)) := by
  have hc := c.isLt
  by_cases z : fhas (Int32.ofInt (c.val : Int)) w0 w1 = (0 : Int32)
  · unfold own_tw0 own_tw1
    rw [if_pos z, if_pos z]
    by_cases e : c.val = k
    · subst e
      have : own_bt w0 w1 c.val = false := by
        cases q : own_bt w0 w1 c.val
        · rfl
        · exact absurd z ((own_mem_iff c h1).2 q)
      rw [this]; rfl
    · simp [e]
  unfold own_bt own_tw0 own_tw1
  rw [if_neg z, if_neg z, own_bsel]
  by_cases q : c.val < 64
  · rw [if_pos ((own_lt64 c).2 q), if_pos ((own_lt64 c).2 q), if_pos q]
    by_cases r : k < 64
    · rw [if_pos r, if_pos r, own_tinv _ _ _ (by omega)]
      congr 2; apply decide_eq_decide.2; omega
    · rw [if_neg r, if_neg r]
      have : ¬ c.val = k := by omega
      simp [this]
  · rw [if_neg (fun x => q ((own_lt64 c).1 x)), if_neg (fun x => q ((own_lt64 c).1 x)), if_neg q]
    by_cases r : k < 64
    · rw [if_pos r, if_pos r]
      have : ¬ c.val = k := by omega
      simp [this]
    · rw [if_neg r, if_neg r, own_tinv _ _ _ (by omega)]
      congr 2; apply decide_eq_decide.2; omega
theorem own_fput {w0 w1 : Int64} (c : Fin 105) (h : own_bt w0 w1 c.val = false) : ¬ (fput (Int32.ofInt (c.val : Int)) w0 w1 = (0 : Int32)) := by
  have e : ¬ ((own_sel w0 w1 (Int32.ofInt (c.val : Int)) ^^^ (-1 : Int64)) &&& ((1 : Int64) <<< ((Int32.ofInt (c.val : Int)) &&& 0x3f).toInt64)) = (0 : Int64) := by
    rw [own_tand, own_bsel, Int64.toBitVec_xor, BitVec.toNat_xor, Nat.testBit_xor, own_m1n, Nat.testBit_two_pow_sub_one]
    unfold own_bt at h; rw [h]
    have : c.val % 64 < 64 := Nat.mod_lt _ (by decide)
    simp [this]
  unfold fput
  rw [if_neg e]; split <;> decide
theorem own_odd (n j : Nat) (h : n.testBit j = true) (h0 : ∀ i, i < j → n.testBit i = false) : ∃ m, n = 2 ^ j * (2 * m + 1) := by
  have a : n % 2 ^ j = 0 := by
    apply Nat.eq_of_testBit_eq; intro i
    rw [Nat.testBit_mod_two_pow, Nat.zero_testBit]
    by_cases q : i < j
    · rw [h0 i q]; simp
    · simp [q]
  have b : n / 2 ^ j % 2 = 1 := by
    rw [Nat.testBit_eq_decide_div_mod_eq] at h; exact of_decide_eq_true h
  refine ⟨n / 2 ^ j / 2, ?_⟩
  have e1 := Nat.div_add_mod n (2 ^ j)
  have e2 := Nat.div_add_mod (n / 2 ^ j) 2
  rw [b] at e2; rw [a] at e1
  rw [e2]; omega
theorem own_lowmask (n j : Nat) (hj : j < 32) (hn : n < 2 ^ 32) (h : n.testBit j = true) (h0 : ∀ i, i < j → n.testBit i = false) : (n ^^^ (2 ^ 32 - 1)) &&& (n - 1) = 2 ^ j - 1 := by
  obtain ⟨m, e⟩ := own_odd n j h h0
  have hp : 0 < 2 ^ j := Nat.two_pow_pos j
  have e1 : n - 1 = 2 ^ j * (2 * m) + (2 ^ j - 1) := by rw [e, Nat.mul_add, Nat.mul_one]; omega
  apply Nat.eq_of_testBit_eq; intro i
  rw [Nat.testBit_and, Nat.testBit_xor, Nat.testBit_two_pow_sub_one, Nat.testBit_two_pow_sub_one, e1, Nat.testBit_two_pow_mul_add _ (by omega)]
  by_cases q : i < j
  · rw [h0 i q, if_pos q, Nat.testBit_two_pow_sub_one]
    have : i < 32 := by omega
    simp [q, this]
  · rw [if_neg q]
    have r : n.testBit i = (2 * m + 1).testBit (i - j) := by
      have z : n = 2 ^ j * (2 * m + 1) + 0 := by omega
      rw [z, Nat.testBit_two_pow_mul_add _ hp, if_neg q]
    by_cases g : i = j
    · subst g
      rw [h]; simp [hj]
    · obtain ⟨u, hu⟩ : ∃ u, i - j = u + 1 := ⟨i - j - 1, by omega⟩
      have s : (2 * m).testBit (i - j) = n.testBit i := by
        rw [r, hu, Nat.testBit_succ, Nat.testBit_succ]
        congr 1; omega
      rw [s]
      by_cases v : i < 32
      · simp [v, q]
      · have : n.testBit i = false := Nat.testBit_lt_two_pow (Nat.lt_of_lt_of_le hn (Nat.pow_le_pow_right (by decide) (by omega)))
        simp [this, q]
theorem own_nti {x : Int32} {j : Nat} (hj : j < 32) (h : x.toBitVec.toNat.testBit j = true) (h0 : ∀ i, i < j → x.toBitVec.toNat.testBit i = false) : (fnti x).toInt = j := by
  have hn := x.toBitVec.isLt
  have hp : 1 ≤ x.toBitVec.toNat := by
    rcases Nat.eq_zero_or_pos x.toBitVec.toNat with z | z
    · rw [z, Nat.zero_testBit] at h; exact Bool.noConfusion h
    · exact z
  have e : ((x ^^^ (-1 : Int32)) &&& (x - (1 : Int32))).toBitVec.toNat = 2 ^ j - 1 := by
    rw [Int32.toBitVec_and, BitVec.toNat_and, Int32.toBitVec_xor, BitVec.toNat_xor, Int32.toBitVec_sub, BitVec.toNat_sub]
    have a : (-1 : Int32).toBitVec.toNat = 2 ^ 32 - 1 := by decide
    have b : (1 : Int32).toBitVec.toNat = 1 := by decide
    have c : (2 ^ 32 - 1 + x.toBitVec.toNat) % 2 ^ 32 = x.toBitVec.toNat - 1 := by omega
    rw [a, b, c]; exact own_lowmask _ j hj hn h h0
  have e2 : ((x ^^^ (-1 : Int32)) &&& (x - (1 : Int32))) = Int32.ofNat (2 ^ j - 1) := by
    apply Int32.toBitVec_inj.1; apply BitVec.eq_of_toNat_eq
    have l : 2 ^ j ≤ 2 ^ 31 := Nat.pow_le_pow_right (by decide) (by omega)
    rw [e, Int32.toBitVec_ofNat', BitVec.toNat_ofNat, Nat.mod_eq_of_lt (by omega)]
  unfold fnti
  rw [e2]
  clear e e2 hp hn h h0
  revert j
  decide
theorem own_nti0 : fnti (0 : Int32) = (32 : Int32) := by decide
theorem own_ntl {x : Int64} {j : Nat} (hj : j < 64) (h : x.toBitVec.toNat.testBit j = true) (h0 : ∀ i, i < j → x.toBitVec.toNat.testBit i = false) : (fntl x).toInt = j := by
  have hl := own_lo x
  have hh := own_hi x
  have hb := x.toBitVec.isLt
  unfold fntl
  generalize ((x.toUInt64 >>> ((32 : Int32) &&& 0x3f).toInt64.toUInt64).toInt64).toInt32 = hi at *
  generalize x.toInt32 = lo at *
  generalize x.toBitVec.toNat = n at *
  have z0 : (0 : Int32).toBitVec.toNat = 0 := rfl
  have tl : ∀ i, i < 32 → lo.toBitVec.toNat.testBit i = n.testBit i := fun i hi => by rw [hl, Nat.testBit_mod_two_pow]; simp [hi]
  have th : ∀ i, hi.toBitVec.toNat.testBit i = n.testBit (32 + i) := fun i => by rw [hh, Nat.testBit_div_two_pow, Nat.add_comm]
  by_cases q : lo = 0
  · rw [if_pos q]
    have g : 32 ≤ j := by
      apply Nat.le_of_not_lt; intro r
      have := tl j r
      rw [h, q, z0, Nat.zero_testBit] at this; exact Bool.noConfusion this
    have e := own_nti (x := hi) (j := j - 32) (by omega) (by rw [th, ← h]; congr 1; omega) (fun i hi => by rw [th]; exact h0 _ (by omega))
    have e2 : ((32 : Int32) + fnti hi).toInt = 32 + (fnti hi).toInt := by
      rw [Int32.toInt_add]; have : (32 : Int32).toInt = 32 := rfl
      rw [this]; apply Int.bmod_eq_of_le <;> omega
    rw [e2, e]; omega
  · rw [if_neg q]
    have g : j < 32 := by
      apply Nat.lt_of_not_le; intro r
      apply q
      apply Int32.toBitVec_inj.1; apply BitVec.eq_of_toNat_eq
      rw [z0]
      apply Nat.eq_of_testBit_eq; intro i
      rw [Nat.zero_testBit]
      by_cases v : i < 32
      · rw [tl i v]; exact h0 i (by omega)
      · rw [hl, Nat.testBit_mod_two_pow]; simp [v]
    exact own_nti g (by rw [tl j g]; exact h) (fun i hi => by rw [tl i (by omega)]; exact h0 i hi)
theorem own_wz {w : Int64} (h : ∀ i, i < 64 → w.toBitVec.toNat.testBit i = false) : w = (0 : Int64) := by
  rw [own_w0]
  apply Nat.eq_of_testBit_eq; intro i
  rw [Nat.zero_testBit]
  by_cases v : i < 64
  · exact h i v
  · exact Nat.testBit_lt_two_pow (Nat.lt_of_lt_of_le w.toBitVec.isLt (Nat.pow_le_pow_right (by decide) (by omega)))
theorem own_low {w0 w1 : Int64} {m : Nat} (hm : m < 128) (h : own_bt w0 w1 m = true) (h0 : ∀ i, i < m → own_bt w0 w1 i = false) : (flow w0 w1).toInt = m := by
  unfold own_bt at h h0
  unfold flow
  by_cases q : w0 = 0
  · rw [if_pos q]
    have g : 64 ≤ m := by
      apply Nat.le_of_not_lt; intro r
      rw [if_pos r, q] at h
      have : (0 : Int64).toBitVec.toNat = 0 := rfl
      rw [this, Nat.zero_testBit] at h; exact Bool.noConfusion h
    rw [if_neg (by omega)] at h
    have e := own_ntl (x := w1) (j := m - 64) (by omega) (by rw [← h]; congr 1; omega) (fun i hi => by
      have := h0 (i + 64) (by omega)
      rw [if_neg (by omega)] at this; rw [← this]; congr 1; omega)
    have e2 : ((64 : Int32) + fntl w1).toInt = 64 + (fntl w1).toInt := by
      rw [Int32.toInt_add]; have : (64 : Int32).toInt = 64 := rfl
      rw [this]; apply Int.bmod_eq_of_le <;> omega
    rw [e2, e]; omega
  · rw [if_neg q]
    have g : m < 64 := by
      apply Nat.lt_of_not_le; intro r
      apply q; apply own_wz; intro i hi
      have := h0 i (by omega)
      rw [if_pos hi] at this; rw [← this]; congr 1; omega
    rw [if_pos g] at h
    exact own_ntl g (by rw [← h]; congr 1; omega) (fun i hi => by
      have := h0 i hi
      rw [if_pos (by omega)] at this; rw [← this]; congr 1; omega)
theorem own_least (p : Nat → Bool) (k : Nat) (h : p k = true) : ∃ m, m ≤ k ∧ p m = true ∧ ∀ i, i < m → p i = false := by
  induction k using Nat.strongRecOn with
  | ind k ih =>
    by_cases q : ∃ i, i < k ∧ p i = true
    · obtain ⟨i, hi, e⟩ := q
      obtain ⟨m, a, b, c⟩ := ih i hi e
      exact ⟨m, by omega, b, c⟩
    · exact ⟨k, Nat.le_refl _, h, fun i hi => by
        cases e : p i
        · rfl
        · exact absurd ⟨i, hi, e⟩ q⟩
/-- the set holds just the cards of the seats in l -/
def own_TS (w0 w1 : Int64) (cd : Nat → Int32) (l : List Nat) : Prop := ∀ k : Nat, k < 128 → (own_bt w0 w1 k = true ↔ ∃ t, t ∈ l ∧ (cd t).toInt = (k : Int))
def own_CB (cd : Nat → Int32) (n : Nat) : Prop := (∀ t, t < n → 1 ≤ (cd t).toInt ∧ (cd t).toInt ≤ 104) ∧ ∀ t u, t < n → u < n → t ≠ u → cd t ≠ cd u
theorem own_TS0 (cd : Nat → Int32) : own_TS 0 0 cd [] := by
  intro k hk
  have : own_bt 0 0 k = false := by
    unfold own_bt
    have : (0 : Int64).toBitVec.toNat = 0 := rfl
    rw [ite_self, this, Nat.zero_testBit]
  rw [this]; simp
theorem own_TS_put {w0 w1 : Int64} {cd : Nat → Int32} {l : List Nat} (h : own_TS w0 w1 cd l) {t : Nat} (hc : 1 ≤ (cd t).toInt ∧ (cd t).toInt ≤ 104) : own_TS (own_pw0 w0 w1 (cd t)) (own_pw1 w0 w1 (cd t)) cd (t :: l) := by
  intro k hk
  obtain ⟨c, e⟩ := own_range 105 (cd t) (by omega) (by omega)
  have ec : (cd t).toInt = (c.val : Int) := by rw [e, own_ofk]
  rw [e, own_bt_put _ _ _ _ hk]
  have := h k hk
  simp only [Bool.or_eq_true, decide_eq_true_eq, this, List.mem_cons]
  constructor
  · rintro (⟨u, a, b⟩ | r)
    · exact ⟨u, Or.inr a, b⟩
    · exact ⟨t, Or.inl rfl, by rw [ec, r]⟩
  · rintro ⟨u, rfl | a, b⟩
    · right; rw [ec] at b; omega
    · left; exact ⟨u, a, b⟩
theorem own_TS_fput {w0 w1 : Int64} {cd : Nat → Int32} {l : List Nat} {n : Nat} (h : own_TS w0 w1 cd l) (hcb : own_CB cd n) {t : Nat} (ht : t < n) (hl : ∀ u, u ∈ l → u < n ∧ u ≠ t) : ¬ (fput (cd t) w0 w1 = (0 : Int32)) := by
  have hc := hcb.1 t ht
  obtain ⟨c, e⟩ := own_range 105 (cd t) (by omega) (by omega)
  have ec : (cd t).toInt = (c.val : Int) := by rw [e, own_ofk]
  rw [e]; apply own_fput
  cases q : own_bt w0 w1 c.val
  · rfl
  · obtain ⟨u, a, b⟩ := (h c.val (by have := c.isLt; omega)).1 q
    exact absurd (Int32.toInt_inj.1 (b.trans ec.symm)) (hcb.2 u t (hl u a).1 ht (hl u a).2)
theorem own_TS_low {w0 w1 : Int64} {cd : Nat → Int32} {l : List Nat} {n : Nat} (h : own_TS w0 w1 cd l) (hcb : own_CB cd n) (hl : ∀ u, u ∈ l → u < n) (hnd : l.Nodup) (hne : 0 < l.length) : ¬ (w0 = (0 : Int64) ∧ w1 = (0 : Int64)) ∧ ∃ t, t ∈ l ∧ flow w0 w1 = cd t ∧ (∀ u, u ∈ l → u ≠ t → (cd t).toInt < (cd u).toInt) ∧ own_TS (own_tw0 w0 w1 (cd t)) (own_tw1 w0 w1 (cd t)) cd (l.erase t) := by
  obtain ⟨u, hu⟩ : ∃ u, u ∈ l := by
    cases l with
    | nil => exact absurd hne (by decide)
    | cons x _ => exact ⟨x, List.mem_cons_self⟩
  have hcu := hcb.1 u (hl u hu)
  have bu : own_bt w0 w1 (cd u).toInt.toNat = true := (h _ (by omega)).2 ⟨u, hu, by omega⟩
  obtain ⟨m, a, b, c⟩ := own_least (own_bt w0 w1) _ bu
  obtain ⟨t, ht, et⟩ := (h m (by omega)).1 b
  have hct := hcb.1 t (hl t ht)
  refine ⟨fun z => ?_, t, ht, Int32.toInt_inj.1 ((own_low (by omega) b c).trans et.symm), fun v hv hn => ?_, ?_⟩
  · rw [z.1, z.2] at bu
    have := (own_TS0 cd _ (by omega)).1 bu
    simp at this
  · have hcv := hcb.1 v (hl v hv)
    have bv : own_bt w0 w1 (cd v).toInt.toNat = true := (h _ (by omega)).2 ⟨v, hv, by omega⟩
    have ne : (cd v).toInt ≠ (cd t).toInt := fun q => hcb.2 v t (hl v hv) (hl t ht) hn (Int32.toInt_inj.1 q)
    apply Int.lt_of_not_ge; intro r
    have := c (cd v).toInt.toNat (by omega)
    rw [bv] at this; exact Bool.noConfusion this
  · intro k hk
    obtain ⟨f, e⟩ := own_range 105 (cd t) (by omega) (by omega)
    have ec : (cd t).toInt = (f.val : Int) := by rw [e, own_ofk]
    rw [e, own_bt_tout _ _ _ (by omega) _ hk]
    simp only [Bool.and_eq_true, Bool.not_eq_true', decide_eq_false_iff_not, h k hk]
    constructor
    · rintro ⟨⟨v, hv, ev⟩, ne⟩
      exact ⟨v, (hnd.mem_erase_iff).2 ⟨fun q => ne (by rw [q] at ev; omega), hv⟩, ev⟩
    · rintro ⟨v, hv, ev⟩
      obtain ⟨x, y⟩ := (hnd.mem_erase_iff).1 hv
      exact ⟨⟨v, y, ev⟩, fun q => hcb.2 v t (hl v y) (hl t ht) x (Int32.toInt_inj.1 (by omega))⟩
theorem own_bt_q (l : List Int32) (hl : ∀ c, c ∈ l → 1 ≤ c.toInt ∧ c.toInt ≤ 104) (a b : Int64) (k : Nat) (hk : k < 128) : own_bt (l.foldl (fun w c => (own_pw0 w.1 w.2 c, own_pw1 w.1 w.2 c)) (a, b)).1 (l.foldl (fun w c => (own_pw0 w.1 w.2 c, own_pw1 w.1 w.2 c)) (a, b)).2 k = true ↔ own_bt a b k = true ∨ ∃ c, c ∈ l ∧ c.toInt = (k : Int) := by
  induction l generalizing a b with
  | nil => simp
  | cons x l ih =>
    rw [List.foldl_cons, ih (fun c hc => hl c (List.mem_cons_of_mem _ hc))]
    have hx := hl x List.mem_cons_self
    obtain ⟨c, e⟩ := own_range 105 x (by omega) (by omega)
    have ec : x.toInt = (c.val : Int) := by rw [e, own_ofk]
    have p := own_bt_put a b c k hk
    rw [← e] at p
    show own_bt (own_pw0 a b x) (own_pw1 a b x) k = true ∨ _ ↔ _
    rw [p]
    simp only [Bool.or_eq_true, decide_eq_true_eq, List.mem_cons]
    constructor
    · rintro ((r | r) | ⟨y, r, s⟩)
      · exact Or.inl r
      · exact Or.inr ⟨x, Or.inl rfl, by omega⟩
      · exact Or.inr ⟨y, Or.inr r, s⟩
    · rintro (r | ⟨y, rfl | r, s⟩)
      · exact Or.inl (Or.inl r)
      · exact Or.inl (Or.inr (by omega))
      · exact Or.inr ⟨y, r, s⟩
theorem own_q_bt {l : List Int32} (hl : ∀ c, c ∈ l → 1 ≤ c.toInt ∧ c.toInt ≤ 104) {k : Nat} (hk : k < 128) : own_bt (own_q1 l) (own_q2 l) k = true ↔ ∃ c, c ∈ l ∧ c.toInt = (k : Int) := by
  unfold own_q1 own_q2 own_q
  rw [own_bt_q l hl _ _ _ hk]
  have : own_bt 0 0 k = false := by
    unfold own_bt
    have : (0 : Int64).toBitVec.toNat = 0 := rfl
    rw [ite_self, this, Nat.zero_testBit]
  rw [this]; simp
theorem own_q_mem {l : List Int32} (hl : ∀ c, c ∈ l → 1 ≤ c.toInt ∧ c.toInt ≤ 104) {x : Int32} (hx : 1 ≤ x.toInt ∧ x.toInt ≤ 104) : own_mem (own_q1 l) (own_q2 l) x ↔ x ∈ l := by
  obtain ⟨c, e⟩ := own_range 105 x (by omega) (by omega)
  have ec : x.toInt = (c.val : Int) := by rw [e, own_ofk]
  have hc := c.isLt
  rw [e, own_mem_iff c (by omega), own_q_bt hl (by omega), ← e]
  constructor
  · rintro ⟨y, a, b⟩
    have : y = x := Int32.toInt_inj.1 (by omega)
    rw [← this]; exact a
  · intro a; exact ⟨x, a, ec⟩
theorem own_q_no {l : List Int32} (hl : ∀ c, c ∈ l → 1 ≤ c.toInt ∧ c.toInt ≤ 104) {x : Int32} (hx : 1 ≤ x.toInt ∧ x.toInt ≤ 104) (h : x ∉ l) : fhas x (own_q1 l) (own_q2 l) = (0 : Int32) := by
  by_cases q : fhas x (own_q1 l) (own_q2 l) = (0 : Int32)
  · exact q
  · exact absurd ((own_q_mem hl hx).1 q) h
theorem own_q_hb {l : List Int32} (hl : ∀ c, c ∈ l → 1 ≤ c.toInt ∧ c.toInt ≤ 104) {x : Int32} (hx : 1 ≤ x.toInt ∧ x.toInt ≤ 104) (h : ∀ c, c ∈ l → x.toInt < c.toInt) : fhb x (own_q1 l) (own_q2 l) = (0 : Int32) := by
  have nb : ∀ k : Nat, (k : Int) ≤ x.toInt → own_bt (own_q1 l) (own_q2 l) k = false := fun k hk => by
    cases q : own_bt (own_q1 l) (own_q2 l) k
    · rfl
    · obtain ⟨c, a, b⟩ := (own_q_bt hl (by omega)).1 q
      have := h c a; omega
  generalize own_q1 l = w0 at *
  generalize own_q2 l = w1 at *
  obtain ⟨k, e⟩ := own_range 105 x (by omega) (by omega)
  have ec : x.toInt = (k.val : Int) := by rw [e, own_ofk]
  have hk := k.isLt
  have mz : ∀ (w n : Nat), (∀ i, i < n → w.testBit i = false) → w % 2 ^ n = 0 := fun w n hw => by
    apply Nat.eq_of_testBit_eq; intro i
    rw [Nat.testBit_mod_two_pow, Nat.zero_testBit]
    by_cases q : i < n
    · rw [hw i q]; simp
    · simp [q]
  unfold own_bt at nb
  rw [e]; apply Int32.toInt_inj.1
  have z0 : (0 : Int32).toInt = 0 := rfl
  rw [z0]
  have v := own_hb_val (k := k) w0 w1
  rcases v with ⟨q, ⟨_, v⟩ | ⟨u, _⟩⟩ | ⟨q, ⟨u, _⟩ | ⟨_, _, v⟩ | ⟨_, u, _⟩⟩
  · exact v
  · refine absurd (mz _ _ fun i hi => ?_) u
    have := nb i (by omega)
    rw [if_pos (by omega)] at this; rw [← this]; congr 1; omega
  · refine absurd (mz _ _ fun i hi => ?_) u
    have := nb (64 + i) (by omega)
    rw [if_neg (by omega)] at this; rw [← this]; congr 1; omega
  · exact v
  · refine absurd ((own_w0 w0).1 (own_wz fun i hi => ?_)) u
    have := nb i (by omega)
    rw [if_pos (by omega)] at this; rw [← this]; congr 1; omega
theorem own_nd {l1 l2 : List Int32} {x : Int32} (h : (l1 ++ x :: l2).Nodup) : x ∉ l1 := fun hx => (List.nodup_append.1 h).2.2 x hx x List.mem_cons_self rfl
theorem dd25 : own_dec prog_66_method_2_code [(0, .aload_n 1, 1), (1, .invokeinterface 69 1, 5), (6, .iconst 4, 1), (7, .if_icmp .eq 13, 3), (10, .new 34, 3), (13, .dup, 1), (14, .ldc 75, 2), (16, .invokespecial 40, 3), (19, .athrow, 1), (20, .aload_n 0, 1), (21, .getfield 19, 3), (24, .invokevirtual 77, 3), (27, .aload_n 0, 1), (28, .getfield 63, 3), (31, .invokevirtual 80, 3), (34, .aload_n 0, 1), (35, .aload_n 0, 1), (36, .getfield 43, 3), (39, .putfield 66, 3), (42, .aload_n 1, 1), (43, .invokeinterface 81 1, 5), (48, .astore_n 2, 1), (49, .aload_n 2, 1), (50, .invokeinterface 85 1, 5), (55, .ifCond .eq 50, 3), (58, .aload_n 2, 1), (59, .invokeinterface 91 1, 5), (64, .checkcast 95, 3), (67, .invokevirtual 97, 3), (70, .istore_n 3, 1), (71, .aload_n 0, 1), (72, .iload_n 3, 1), (73, .invokevirtual 100, 3), (76, .ifCond .ne 17, 3), (79, .new 34, 3), (82, .dup, 1), (83, .iload_n 3, 1), (93, .aload_n 0, 1), (94, .getfield 19, 3), (97, .iload_n 3, 1), (98, .invokevirtual 105, 3), (101, .pop, 1), (102, .goto (-53), 3), (105, .aload_n 0, 1), (106, .getfield 10, 3), (109, .aload_n 1, 1), (110, .invokevirtual 108, 3), (113, .return_, 1)] := by unfold own_dec; decide +kernel
theorem ef_deal (m : MethodId) (A : Nat → Addr) (r1 : Addr) : entryFrame m #[(.ref (A 0)), (.ref r1)] 4 = mkF m 0 #[vR (A 0), vR r1, vU, vU] [] := by first | (simp [entryFrame, mkF, argsToLocals, Value.category, vI, vR, vU]; done) | rfl
theorem pd_17 : parseMethodDescriptor "()Ljava/util/Iterator;" = some ⟨[], some (.object "java/util/Iterator")⟩ := by decide +kernel
theorem pd_18 : parseMethodDescriptor "()Z" = some ⟨[], some .boolean⟩ := by decide +kernel
theorem pd_19 : parseMethodDescriptor "()Ljava/lang/Object;" = some ⟨[], some (.object "java/lang/Object")⟩ := by decide +kernel
theorem pd_20 : parseMethodDescriptor "(Ljava/util/List;)V" = some ⟨[(.object "java/util/List")], none⟩ := by decide +kernel
def Qdeal (Z : State) (r1 : Addr) (A : Nat → Addr) (lo : Int) (b : Int) (P : Int64 → Int64 → Prop) (hd : Addr) (kH : ClassId) (hv : List Value) (ar : Addr) (kA : ClassId) (y0 : Addr) (y1 : Addr) (y2 : Addr) (y3 : Addr) (u4 : Value) (u5 : Value) (u6 : Value) (u7 : Value) (u8 : Value) (u9 : Value) (c0 : Int32) (c1 : Int32) (c2 : Int32) (c3 : Int32) (mc : Int32) (k16 : ClassId) (w0 : Int64) (w1 : Int64) (n23 : Int32) (s0 : Int32) (pl : Int32) (h0 : Heap) (n0 : Nat) (v : Option Value) (h : Heap) (L : List Loc) : Prop := Fr n0 L ∧ v = none ∧ Keep h0 h [(A 3), (A 5), (A 6), (A 7), (A 8), (A 9), (A 10), (A 11), (A 12), (A 13), (A 14), (A 16), (A 23), (A 0)] ∧ Fld Z h (A 0) "com/example/sixfold/sixfold/rows/Table" "rows" "Lcom/example/sixfold/sixfold/rows/Rows;" (.ref (A 1)) ∧ Fld Z h (A 0) "com/example/sixfold/sixfold/rows/Table" "totals" "Lcom/example/sixfold/sixfold/rows/IntList;" (.ref (A 20)) ∧ Fld Z h (A 0) "com/example/sixfold/sixfold/rows/Table" "played" "Lcom/example/sixfold/sixfold/rows/CardSet;" (.ref (A 15)) ∧ Fld Z h (A 0) "com/example/sixfold/sixfold/rows/Table" "order" "[I" (.ref (A 22)) ∧ Fld Z h (A 0) "com/example/sixfold/sixfold/rows/Table" "turn" "Lcom/example/sixfold/sixfold/rows/CardSet;" (.ref (A 17)) ∧ Fld Z h (A 0) "com/example/sixfold/sixfold/rows/Table" "seatRevealing" "[B" (.ref (A 19)) ∧ Fld Z h (A 0) "com/example/sixfold/sixfold/rows/Table" "revealed" "Lcom/example/sixfold/sixfold/rows/IntList;" (.ref (A 23)) ∧ Fld Z h (A 0) "com/example/sixfold/sixfold/rows/Table" "seats" "I" (.int s0) ∧ Fld Z h (A 0) "com/example/sixfold/sixfold/rows/Table" "placed" "I" (.int s0) ∧ own_RWB Z h A 1 1 (fun j0 j1 => j0 = own_q1 [c0, c1, c2, c3] ∧ j1 = own_q2 [c0, c1, c2, c3]) ∧ Arv Z h (A 16) k16 .long (2 : Int32) [(.long (own_q1 [c0, c1, c2, c3])), (.long (own_q2 [c0, c1, c2, c3]))] (.long (0 : Int64)) ∧ Fld Z h (A 23) "com/example/sixfold/sixfold/rows/IntList" "values" "[I" (.ref (A 24)) ∧ Fld Z h (A 23) "com/example/sixfold/sixfold/rows/IntList" "size" "I" (.int (0 : Int32))
set_option maxRecDepth 65536 in
set_option maxHeartbeats 40000000 in
theorem rmdeal (l : Launch) (Z : State) (a0 : Array Value) (hw : ∀ d ∈ tables_1, d.before a0 Z = true) (ws : List Jvm.Cond) (r1 : Addr) (A : Nat → Addr) (lo : Int) (b : Int) (P : Int64 → Int64 → Prop) (hd : Addr) (kH : ClassId) (hv : List Value) (ar : Addr) (kA : ClassId) (y0 : Addr) (y1 : Addr) (y2 : Addr) (y3 : Addr) (u4 : Value) (u5 : Value) (u6 : Value) (u7 : Value) (u8 : Value) (u9 : Value) (c0 : Int32) (c1 : Int32) (c2 : Int32) (c3 : Int32) (mc : Int32) (k16 : ClassId) (w0 : Int64) (w1 : Int64) (n23 : Int32) (s0 : Int32) (pl : Int32) (h0 : Heap) (n0 : Nat) (Z0 : n0 ≤ h0.size) (P0 : Exa Z h0 (A 0) "com/example/sixfold/sixfold/rows/Table") (P1 : Fld Z h0 (A 0) "com/example/sixfold/sixfold/rows/Table" "rows" "Lcom/example/sixfold/sixfold/rows/Rows;" (.ref (A 1))) (P2 : Fld Z h0 (A 0) "com/example/sixfold/sixfold/rows/Table" "totals" "Lcom/example/sixfold/sixfold/rows/IntList;" (.ref (A 20))) (P3 : Fld Z h0 (A 0) "com/example/sixfold/sixfold/rows/Table" "played" "Lcom/example/sixfold/sixfold/rows/CardSet;" (.ref (A 15))) (P4 : Fld Z h0 (A 0) "com/example/sixfold/sixfold/rows/Table" "order" "[I" (.ref (A 22))) (P5 : Fld Z h0 (A 0) "com/example/sixfold/sixfold/rows/Table" "turn" "Lcom/example/sixfold/sixfold/rows/CardSet;" (.ref (A 17))) (P6 : Fld Z h0 (A 0) "com/example/sixfold/sixfold/rows/Table" "seatRevealing" "[B" (.ref (A 19))) (P7 : Fld Z h0 (A 0) "com/example/sixfold/sixfold/rows/Table" "revealed" "Lcom/example/sixfold/sixfold/rows/IntList;" (.ref (A 23))) (P8 : Fld Z h0 (A 0) "com/example/sixfold/sixfold/rows/Table" "seats" "I" (.int s0)) (P9 : Fld Z h0 (A 0) "com/example/sixfold/sixfold/rows/Table" "placed" "I" (.int pl)) (P10 : own_RWB Z h0 A lo b P) (P11 : Old Z n0 h0) (P12 : Exa Z h0 r1 "java/util/ArrayList") (P13 : Fld Z h0 r1 "java/util/ArrayList" "size" "I" (.int (4 : Int32))) (P14 : Fld Z h0 r1 "java/util/ArrayList" "elementData" "[Ljava/lang/Object;" (.ref ar)) (P15 : Arv Z h0 ar kA (.object "java/lang/Object") (10 : Int32) [(.ref y0), (.ref y1), (.ref y2), (.ref y3), u4, u5, u6, u7, u8, u9] .null) (P16 : Exa Z h0 y0 "java/lang/Integer") (P17 : Fld Z h0 y0 "java/lang/Integer" "value" "I" (.int c0)) (P18 : Exa Z h0 y1 "java/lang/Integer") (P19 : Fld Z h0 y1 "java/lang/Integer" "value" "I" (.int c1)) (P20 : Exa Z h0 y2 "java/lang/Integer") (P21 : Fld Z h0 y2 "java/lang/Integer" "value" "I" (.int c2)) (P22 : Exa Z h0 y3 "java/lang/Integer") (P23 : Fld Z h0 y3 "java/lang/Integer" "value" "I" (.int c3)) (P24 : Fld Z h0 r1 "java/util/AbstractList" "modCount" "I" (.int mc)) (P25 : Exa Z h0 (A 15) "com/example/sixfold/sixfold/rows/CardSet") (P26 : Fld Z h0 (A 15) "com/example/sixfold/sixfold/rows/CardSet" "words" "[J" (.ref (A 16))) (P27 : Arv Z h0 (A 16) k16 .long (2 : Int32) [(.long w0), (.long w1)] (.long (0 : Int64))) (P28 : Exa Z h0 (A 23) "com/example/sixfold/sixfold/rows/IntList") (P29 : Fld Z h0 (A 23) "com/example/sixfold/sixfold/rows/IntList" "values" "[I" (.ref (A 24))) (P30 : Fld Z h0 (A 23) "com/example/sixfold/sixfold/rows/IntList" "size" "I" (.int n23)) (hA : own_Inc A 25) (hge : ∀ i, i < 25 → n0 ≤ A i) (hl_r1 : r1 < A 0) (hl_ar : ar < A 0) (hl_y0 : y0 < A 0) (hl_y1 : y1 < A 0) (hl_y2 : y2 < A 0) (hl_y3 : y3 < A 0) (hc_c0 : 1 ≤ c0.toInt ∧ c0.toInt ≤ 104) (hc_c1 : 1 ≤ c1.toInt ∧ c1.toInt ≤ 104) (hc_c2 : 1 ≤ c2.toInt ∧ c2.toInt ≤ 104) (hc_c3 : 1 ≤ c3.toInt ∧ c3.toInt ≤ 104) (hAz : ∀ i, i < 25 → A i < h0.size) (hd4 : [c0, c1, c2, c3].Nodup) (hS : Sta Z Z.heap "com/example/sixfold/sixfold/rows/Card" "HEADS" "[B" (.ref hd)) (hV : Arv Z Z.heap hd kH .byte (105 : Int32) hv (.int (0 : Int32))) (hints : own_ints hv) :
    own_Cw l Z (⟨"com/example/sixfold/sixfold/rows/Table", "deal", "(Ljava/util/List;)V"⟩ : MethodName) prog_66_method_2_code 4 none ws (own_rr 6 1 4 81) #[(.ref (A 0)), (.ref r1)] h0 (Qdeal Z r1 A lo b P hd kH hv ar kA y0 y1 y2 y3 u4 u5 u6 u7 u8 u9 c0 c1 c2 c3 mc k16 w0 w1 n23 s0 pl h0 n0) := by
  refine own_body (plainFor_of_name pn_com_example_sixfold_sixfold_rows_Table) ?_
  intro p e s m below meth c s₁ hx hby hml hZ hown hnm hret hlk X0 e0
  have N0 := Fr.nil n0
  refine own_go (fun t k => castTop (ef_deal m A r1) k) ?_
  have hc4 : ∀ c, c ∈ [c0, c1, c2, c3] → 1 ≤ c.toInt ∧ c.toInt ≤ 104 := by simp only [List.mem_cons, List.not_mem_nil, or_false, forall_eq_or_imp, forall_eq]; exact ⟨hc_c0, hc_c1, hc_c2, hc_c3⟩
  have na : ∀ i, (i < 25 ∧ ∀ j ∈ [3, 5, 6, 7, 8, 9, 10, 11, 12, 13, 14, 16, 23, 0], j < 25 ∧ j ≠ i) → A i ∉ [(A 3), (A 5), (A 6), (A 7), (A 8), (A 9), (A 10), (A 11), (A 12), (A 13), (A 14), (A 16), (A 23), (A 0)] := fun i h => own_nin hA h.1 h.2
  have ng : ∀ w ∈ [(A 3), (A 5), (A 6), (A 7), (A 8), (A 9), (A 10), (A 11), (A 12), (A 13), (A 14), (A 16), (A 23), (A 0)], n0 ≤ w := (allS (hge 3 (by decide)) (allS (hge 5 (by decide)) (allS (hge 6 (by decide)) (allS (hge 7 (by decide)) (allS (hge 8 (by decide)) (allS (hge 9 (by decide)) (allS (hge 10 (by decide)) (allS (hge 11 (by decide)) (allS (hge 12 (by decide)) (allS (hge 13 (by decide)) (allS (hge 14 (by decide)) (allS (hge 16 (by decide)) (allS (hge 23 (by decide)) (allS (hge 0 (by decide)) all0))))))))))))))
  have nb : ∀ {w}, w < A 0 → w ∉ [(A 3), (A 5), (A 6), (A 7), (A 8), (A 9), (A 10), (A 11), (A 12), (A 13), (A 14), (A 16), (A 23), (A 0)] := fun h => own_ninb hA h (l := [3, 5, 6, 7, 8, 9, 10, 11, 12, 13, 14, 16, 23, 0]) (by decide)
  refine sa X0 hx (dx hby dd25 0) ?_
  show own_Gl _ _ _ _ (s₁.setTop (mkF m 1 #[vR (A 0), vR r1, vU, vU] [(.ref r1)]))
  refine oc_iface X0 hx hZ hown (wx hw 201) (wx hw 202) (wx hw 203) (wx hw 204) (wx hw 205) (wx hw 206) (wx hw 207) (wx hw 208) (wx hw 8) (wx hw 209) (by decide) (W := 0) (rmalsz l Z a0 hw [] r1 (4 : Int32) h0 n0 Z0 P13) (by decide) (by decide) P12 (argsL := []) (rest := []) (by rw [hml]; rfl) (lenOf pd_16 rfl) rfl (Nat.le_of_eq rfl) (dx hby dd25 1) rfl e0 (by decide) (by decide) (fun v41 T41 Lc41 hQ41 X41 => ?_)
  obtain ⟨N41q, rfl, hq41⟩ := hQ41
  have N41 := Fr.app N0 N41q
  refine sc X41 hx (dx hby dd25 2) ?_
  refine og (XS.icmpYes X41.here hx rfl (pc0 := 7) (pc' := 20) rfl (dx hby dd25 3) rfl (teq (rfl : (4 : Int32) = (4 : Int32))).1 (by decide) (by decide)) ?_
  refine sa X41 hx (dx hby dd25 9) ?_
  refine oc_getF X41 hx hZ hown (host := "") (Or.inl (wx hw 166)) Via.refl hq41 P3 (dx hby dd25 10) (fun T42 X42 e42 => ?_)
  refine oc_virtual X42 hx hZ hown (wx hw 210) (wx hw 211) (wx hw 213) (wx hw 212) (wx hw 95) (wx hw 214) (by decide) (W := 0) (rmcse l Z a0 hw [] (A 15) (A 16) k16 w0 w1 h0 n0 Z0 P26 P27 (own_ne hA (i := 15) (j := 16) (by decide) (by decide) (by decide)) (hge 16 (by decide))) (by decide) (by decide) P25 (argsL := []) (rest := []) (by rw [hml]; rfl) (lenOf pd_4 rfl) rfl (Nat.le_of_eq rfl) (dx hby dd25 11) rfl e42 (by decide) (by decide) (fun v43 T43 Lc43 hQ43 X43 => ?_)
  obtain ⟨N43q, rfl, K43q, po43_0⟩ := hQ43
  have N43 := Fr.app N41 N43q
  have K43 : Keep h0 T43.heap [(A 3), (A 5), (A 6), (A 7), (A 8), (A 9), (A 10), (A 11), (A 12), (A 13), (A 14), (A 16), (A 23), (A 0)] := (Keep.refl h0 [(A 3), (A 5), (A 6), (A 7), (A 8), (A 9), (A 10), (A 11), (A 12), (A 13), (A 14), (A 16), (A 23), (A 0)]).trans K43q (allS (Or.inl (List.mem_of_getElem? (i := 11) rfl)) all0)
  have Z43 : n0 ≤ T43.heap.size := Nat.le_trans Z0 K43q.1
  have vq0 : Arv Z T43.heap (A 16) k16 .long (2 : Int32) [(.long (own_q1 [])), (.long (own_q2 []))] (.long (0 : Int64)) := po43_0
  refine sa X43 hx (dx hby dd25 12) ?_
  have f_45 := P7.keep K43q (own_nin hA (i := 0) (l := [16]) (by decide) (by decide))
  refine oc_getF X43 hx hZ hown (host := "") (Or.inl (wx hw 187)) Via.refl rfl f_45 (dx hby dd25 13) (fun T44 X44 e44 => ?_)
  have f_46 := P28.keep K43q
  have f_47 := P29.keep K43q (own_nin hA (i := 23) (l := [16]) (by decide) (by decide))
  have f_48 := P30.keep K43q (own_nin hA (i := 23) (l := [16]) (by decide) (by decide))
  refine oc_virtual X44 hx hZ hown (wx hw 215) (wx hw 216) (wx hw 218) (wx hw 217) (wx hw 111) (wx hw 219) (by decide) (W := 0) (rmile l Z a0 hw [] (A 23) (A 24) n23 T43.heap n0 Z43 f_46 f_47 f_48 (hge 23 (by decide))) (by decide) (by decide) f_46 (argsL := []) (rest := []) (by rw [hml]; rfl) (lenOf pd_4 rfl) rfl (Nat.le_of_eq rfl) (dx hby dd25 14) rfl e44 (by decide) (by decide) (fun v49 T49 Lc49 hQ49 X49 => ?_)
  obtain ⟨N49q, rfl, K49q, po49_0, po49_1⟩ := hQ49
  have N49 := Fr.app N43 N49q
  have K49 : Keep h0 T49.heap [(A 3), (A 5), (A 6), (A 7), (A 8), (A 9), (A 10), (A 11), (A 12), (A 13), (A 14), (A 16), (A 23), (A 0)] := K43.trans K49q (allS (Or.inl (List.mem_of_getElem? (i := 12) rfl)) all0)
  have Z49 : n0 ≤ T49.heap.size := Nat.le_trans Z43 K49q.1
  refine sa X49 hx (dx hby dd25 15) ?_
  refine sa X49 hx (dx hby dd25 16) ?_
  have f_51 := (P8.keep K43q (own_nin hA (i := 0) (l := [16]) (by decide) (by decide))).keep K49q (own_nin hA (i := 0) (l := [23]) (by decide) (by decide))
  refine oc_getF X49 hx hZ hown (host := "") (Or.inl (wx hw 172)) Via.refl rfl f_51 (dx hby dd25 17) (fun T50 X50 e50 => ?_)
  show own_Gl _ _ _ _ (T50.setTop (mkF m 39 #[vR (A 0), vR r1, vU, vU] [(.int s0), (.ref (A 0))]))
  have f_52 := (P9.keep K43q (own_nin hA (i := 0) (l := [16]) (by decide) (by decide))).keep K49q (own_nin hA (i := 0) (l := [23]) (by decide) (by decide))
  have f_53 := (P0.keep K43q).keep K49q
  refine oc_putF X50 hx hZ hown (host := "") (Or.inl (wx hw 189)) Via.refl e50 f_52 f_53 (Or.inl (wx hw 190)) (wx hw 74) (ty := .int) (by decide) rfl rfl (dx hby dd25 18) (fun T54 h54 X54 e54 W54 => ?_)
  have Fw54 : Fld Z h54 (A 0) "com/example/sixfold/sixfold/rows/Table" "placed" "I" (.int s0) := f_52.same W54
  have K54 : Keep h0 h54 [(A 3), (A 5), (A 6), (A 7), (A 8), (A 9), (A 10), (A 11), (A 12), (A 13), (A 14), (A 16), (A 23), (A 0)] := K49.wr W54 (Or.inl (List.mem_of_getElem? (i := 13) rfl))
  have N54 := Fr.snoc X54 N49 (hge 0 (by decide))
  have Z54 : n0 ≤ h54.size := Nat.le_trans Z49 (Keep.of_wr W54).1
  refine sa X54 hx (dx hby dd25 19) ?_
  show own_Gl _ _ _ _ (T54.setTop (mkF m 43 #[vR (A 0), vR r1, vU, vU] [(.ref r1)]))
  have f_55 := P24.keep K54 (nb hl_r1)
  have f_57 := P12.keep K54
  refine oc_iface X54 hx hZ hown (wx hw 220) (wx hw 221) (wx hw 222) (wx hw 223) (wx hw 224) (wx hw 225) (wx hw 226) (wx hw 208) (wx hw 8) (wx hw 227) (by decide) (W := 0) (rmiter l Z a0 hw [] r1 mc h54 n0 Z54 f_55) (by decide) (by decide) f_57 (argsL := []) (rest := []) (by rw [hml]; rfl) (lenOf pd_17 rfl) rfl (Nat.le_of_eq rfl) (dx hby dd25 20) rfl e54 (by decide) (by decide) (fun v56 T56 Lc56 hQ56 X56 => ?_)
  obtain ⟨N56q, w56_it, gn_w56_it, sz0_w56_it, rfl, K56q, po56_0, po56_1, po56_2, po56_3, po56_4⟩ := hQ56
  have N56 := Fr.app N54 N56q
  have ne_r1_w56_it : r1 ≠ w56_it := Nat.ne_of_lt (Nat.lt_of_lt_of_le f_57.lt sz0_w56_it)
  have f_58 := P15.keep K54 (nb hl_ar)
  have ne_ar_w56_it : ar ≠ w56_it := Nat.ne_of_lt (Nat.lt_of_lt_of_le f_58.lt sz0_w56_it)
  have f_59 := P16.keep K54
  have ne_y0_w56_it : y0 ≠ w56_it := Nat.ne_of_lt (Nat.lt_of_lt_of_le f_59.lt sz0_w56_it)
  have f_60 := P18.keep K54
  have ne_y1_w56_it : y1 ≠ w56_it := Nat.ne_of_lt (Nat.lt_of_lt_of_le f_60.lt sz0_w56_it)
  have f_61 := P20.keep K54
  have ne_y2_w56_it : y2 ≠ w56_it := Nat.ne_of_lt (Nat.lt_of_lt_of_le f_61.lt sz0_w56_it)
  have f_62 := P22.keep K54
  have ne_y3_w56_it : y3 ≠ w56_it := Nat.ne_of_lt (Nat.lt_of_lt_of_le f_62.lt sz0_w56_it)
  have sz_w56_it : h0.size ≤ w56_it := Nat.le_trans K54.1 sz0_w56_it
  have K56 : Keep h0 T56.heap [(A 3), (A 5), (A 6), (A 7), (A 8), (A 9), (A 10), (A 11), (A 12), (A 13), (A 14), (A 16), (A 23), (A 0)] := K54.trans K56q all0
  have Z56 : n0 ≤ T56.heap.size := Nat.le_trans Z54 K56q.1
  have ab56 : ∀ i, i < 25 → A i ≠ w56_it := fun i hi => Nat.ne_of_lt (Nat.lt_of_lt_of_le (hAz i hi) sz_w56_it)
  refine og (XS.astoreN X56.here hx rfl (dx hby dd25 21) rfl rfl (l' := #[vR (A 0), vR r1, vR w56_it, vU]) rfl) ?_
  refine sa X56 hx (dx hby dd25 22) ?_
  show own_Gl _ _ _ _ (T56.setTop (mkF m 50 #[vR (A 0), vR r1, vR w56_it, vU] [(.ref w56_it)]))
  have f_63 := P13.keep K56 (nb hl_r1)
  refine oc_iface X56 hx hZ hown (wx hw 243) (wx hw 244) (wx hw 245) (wx hw 246) (wx hw 247) (wx hw 248) (wx hw 249) (wx hw 250) (wx hw 230) (wx hw 251) (by decide) (W := 0) (rmhasn l Z a0 hw [] w56_it r1 (0 : Int32) (4 : Int32) T56.heap n0 Z56 po56_2 po56_1 f_63) (by decide) (by decide) po56_0 (argsL := []) (rest := []) (by rw [hml]; rfl) (lenOf pd_18 rfl) rfl (Nat.le_of_eq rfl) (dx hby dd25 23) rfl rfl (by decide) (by decide) (fun v64 T64 Lc64 hQ64 X64 => ?_)
  obtain ⟨N64q, rfl, hq64⟩ := hQ64
  have N64 := Fr.app N56 N64q
  have hp65 : ¬ ((fhasn (0 : Int32) (4 : Int32)) = (0 : Int32)) := by decide
  refine og (XS.ifNo X64.here hx rfl (dx hby dd25 24) rfl ((if0 _ _).trans (feq hp65).1)) ?_
  refine sa X64 hx (dx hby dd25 25) ?_
  show own_Gl _ _ _ _ (T64.setTop (mkF m 59 #[vR (A 0), vR r1, vR w56_it, vU] [(.ref w56_it)]))
  have f_66 := P24.keep K56 (nb hl_r1)
  have f_67 := P14.keep K56 (nb hl_r1)
  have f_68 := P15.keep K56 (nb hl_ar)
  refine oc_iface X64 hx hZ hown (wx hw 255) (wx hw 256) (wx hw 257) (wx hw 258) (wx hw 259) (wx hw 260) (wx hw 261) (wx hw 250) (wx hw 230) (wx hw 262) (by decide) (W := 0) (rmnext l Z a0 hw [] w56_it r1 (0 : Int32) (4 : Int32) mc ar kA [(.ref y0), (.ref y1), (.ref y2), (.ref y3), u4, u5, u6, u7, u8, u9] y0 (.int (-1 : Int32)) T56.heap n0 Z56 po56_0 po56_2 po56_1 po56_4 po56_3 f_66 f_63 f_67 f_68 ne_r1_w56_it ne_ar_w56_it gn_w56_it (by decide) (by decide) (by decide) rfl) (by decide) (by decide) po56_0 (argsL := []) (rest := []) (by rw [hml]; rfl) (lenOf pd_19 rfl) rfl (Nat.le_of_eq rfl) (dx hby dd25 26) rfl hq64 (by decide) (by decide) (fun v69 T69 Lc69 hQ69 X69 => ?_)
  obtain ⟨N69q, rfl, K69q, po69_0, po69_1, po69_2, po69_3⟩ := hQ69
  have N69 := Fr.app N64 N69q
  have K69 : Keep h0 T69.heap [(A 3), (A 5), (A 6), (A 7), (A 8), (A 9), (A 10), (A 11), (A 12), (A 13), (A 14), (A 16), (A 23), (A 0)] := K56.trans K69q (allS (Or.inr sz_w56_it) all0)
  have Z69 : n0 ≤ T69.heap.size := Nat.le_trans Z56 K69q.1
  have po69_0' : Fld Z T69.heap w56_it "java/util/ArrayList$Itr" "cursor" "I" (.int (1 : Int32)) := po69_0
  show own_Gl _ _ _ _ (T69.setTop (mkF m 64 #[vR (A 0), vR r1, vR w56_it, vU] [(.ref y0)]))
  have f_71 := P16.keep K69
  obtain ⟨T70, X70, e70, st70⟩ := castY X69 hx hZ hown (wx hw 269) rfl (Ins.self f_71) (g := (mkF m 64 #[vR (A 0), vR r1, vR w56_it, vU] [(.ref y0)])) rfl rfl (dx hby dd25 27)
  refine og (st70 _) ?_
  have f_72 := P17.keep K69 (nb hl_y0)
  refine oc_virtual X70 hx hZ hown (wx hw 271) (wx hw 272) (wx hw 274) (wx hw 273) (wx hw 37) (wx hw 275) (by decide) (W := 0) (rmival l Z a0 hw [] y0 c0 T69.heap n0 Z69 f_72) (by decide) (by decide) f_71 (argsL := []) (rest := []) (by rw [hml]; rfl) (lenOf pd_16 rfl) rfl (Nat.le_of_eq rfl) (dx hby dd25 28) rfl e70 (by decide) (by decide) (fun v73 T73 Lc73 hQ73 X73 => ?_)
  obtain ⟨N73q, rfl, hq73⟩ := hQ73
  have N73 := Fr.app N69 N73q
  refine og (XS.istoreN X73.here hx rfl (dx hby dd25 29) rfl (l' := #[vR (A 0), vR r1, vR w56_it, vI c0]) rfl) ?_
  refine sa X73 hx (dx hby dd25 30) ?_
  refine si X73 hx (dx hby dd25 31) ?_
  have f_74 := ((((P3.keep K43q (own_nin hA (i := 0) (l := [16]) (by decide) (by decide))).keep K49q (own_nin hA (i := 0) (l := [23]) (by decide) (by decide))).other W54 (Or.inr (own_sn (Or.inr (wx hw 167)) (Or.inl (wx hw 190))))).keep K56q nin0).keep K69q (ninS (ab56 0 (by decide)) nin0)
  have f_75 := P25.keep K69
  have f_76 := P26.keep K69 (na 15 (by decide))
  have f_77 := (((vq0.keep K49q (own_nin hA (i := 16) (l := [23]) (by decide) (by decide))).other W54 (own_ne hA (i := 16) (j := 0) (by decide) (by decide) (by decide))).keep K56q nin0).keep K69q (ninS (ab56 16 (by decide)) nin0)
  have f_79 := ((f_53.wr W54).keep K56q).keep K69q
  refine oc_private X73 hx hZ hown (wx hw 278) (wx hw 280) (wx hw 74) (wx hw 279) (wx hw 75) (wx hw 281) (by decide) (W := 0) (rmpla l Z a0 hw [] c0 A k16 (own_q1 []) (own_q2 []) T69.heap n0 Z69 f_74 f_75 f_76 f_77 hc_c0 (own_q_no (l := []) (fun c h => hc4 c (List.mem_append_left [c0, c1, c2, c3] h)) hc_c0 (own_nd (l1 := []) (l2 := [c1, c2, c3]) hd4))) (by decide) (by decide) f_79 (argsL := [(.int c0)]) (rest := []) (by rw [hml]; rfl) (lenOf pd_0 rfl) rfl (Nat.le_of_eq rfl) (dx hby dd25 32) rfl hq73 (by decide) (by decide) (fun v78 T78 Lc78 hQ78 X78 => ?_)
  obtain ⟨N78q, rfl, hq78⟩ := hQ78
  have N78 := Fr.app N73 N78q
  refine og (XS.ifYes X78.here hx rfl (pc0 := 76) (pc' := 93) rfl (dx hby dd25 33) rfl ((if0 _ _).trans (feq (by decide : ¬ ((1 : Int32) = (0 : Int32)))).2) (by decide) (by decide)) ?_
  refine sa X78 hx (dx hby dd25 37) ?_
  refine oc_getF X78 hx hZ hown (host := "") (Or.inl (wx hw 166)) Via.refl hq78 f_74 (dx hby dd25 38) (fun T80 X80 e80 => ?_)
  refine si X80 hx (dx hby dd25 39) ?_
  refine oc_virtual X80 hx hZ hown (wx hw 292) (wx hw 293) (wx hw 295) (wx hw 294) (wx hw 95) (wx hw 296) (by decide) (W := 0) (rmput l Z a0 hw [] (A 15) c0 (A 16) k16 (own_q1 []) (own_q2 []) T69.heap n0 Z69 f_76 f_77 (own_ne hA (i := 15) (j := 16) (by decide) (by decide) (by decide)) (hge 16 (by decide)) hc_c0) (by decide) (by decide) f_75 (argsL := [(.int c0)]) (rest := []) (by rw [hml]; rfl) (lenOf pd_0 rfl) rfl (Nat.le_of_eq rfl) (dx hby dd25 40) rfl e80 (by decide) (by decide) (fun v81 T81 Lc81 hQ81 X81 => ?_)
  obtain ⟨N81q, rfl, K81q, po81_0⟩ := hQ81
  have N81 := Fr.app N78 N81q
  have K81 : Keep h0 T81.heap [(A 3), (A 5), (A 6), (A 7), (A 8), (A 9), (A 10), (A 11), (A 12), (A 13), (A 14), (A 16), (A 23), (A 0)] := K69.trans K81q (allS (Or.inl (List.mem_of_getElem? (i := 11) rfl)) all0)
  have Z81 : n0 ≤ T81.heap.size := Nat.le_trans Z69 K81q.1
  have vq1 : Arv Z T81.heap (A 16) k16 .long (2 : Int32) [(.long (own_q1 [c0])), (.long (own_q2 [c0]))] (.long (0 : Int64)) := po81_0
  refine og (XS.pop X81.here hx rfl (dx hby dd25 41) rfl rfl) ?_
  refine og (XS.goto X81.here hx rfl (pc0 := 102) (pc' := 49) rfl (dx hby dd25 42) (by decide) (by decide)) ?_
  refine sa X81 hx (dx hby dd25 22) ?_
  show own_Gl _ _ _ _ (T81.setTop (mkF m 50 #[vR (A 0), vR r1, vR w56_it, vI c0] [(.ref w56_it)]))
  have f_82 := po69_0'.keep K81q (ninS (Ne.symm (ab56 16 (by decide))) nin0)
  have f_83 := po69_1.keep K81q (ninS (Ne.symm (ab56 16 (by decide))) nin0)
  have f_84 := P13.keep K81 (nb hl_r1)
  have f_86 := (po56_0.keep K69q).keep K81q
  refine oc_iface X81 hx hZ hown (wx hw 243) (wx hw 244) (wx hw 245) (wx hw 246) (wx hw 247) (wx hw 248) (wx hw 249) (wx hw 250) (wx hw 230) (wx hw 251) (by decide) (W := 0) (rmhasn l Z a0 hw [] w56_it r1 (1 : Int32) (4 : Int32) T81.heap n0 Z81 f_82 f_83 f_84) (by decide) (by decide) f_86 (argsL := []) (rest := []) (by rw [hml]; rfl) (lenOf pd_18 rfl) rfl (Nat.le_of_eq rfl) (dx hby dd25 23) rfl rfl (by decide) (by decide) (fun v85 T85 Lc85 hQ85 X85 => ?_)
  obtain ⟨N85q, rfl, hq85⟩ := hQ85
  have N85 := Fr.app N81 N85q
  have hp87 : ¬ ((fhasn (1 : Int32) (4 : Int32)) = (0 : Int32)) := by decide
  refine og (XS.ifNo X85.here hx rfl (dx hby dd25 24) rfl ((if0 _ _).trans (feq hp87).1)) ?_
  refine sa X85 hx (dx hby dd25 25) ?_
  show own_Gl _ _ _ _ (T85.setTop (mkF m 59 #[vR (A 0), vR r1, vR w56_it, vI c0] [(.ref w56_it)]))
  have f_88 := po69_2.keep K81q (ninS (Ne.symm (ab56 16 (by decide))) nin0)
  have f_89 := po69_3.keep K81q (ninS (Ne.symm (ab56 16 (by decide))) nin0)
  have f_90 := P24.keep K81 (nb hl_r1)
  have f_91 := P14.keep K81 (nb hl_r1)
  have f_92 := P15.keep K81 (nb hl_ar)
  refine oc_iface X85 hx hZ hown (wx hw 255) (wx hw 256) (wx hw 257) (wx hw 258) (wx hw 259) (wx hw 260) (wx hw 261) (wx hw 250) (wx hw 230) (wx hw 262) (by decide) (W := 0) (rmnext l Z a0 hw [] w56_it r1 (1 : Int32) (4 : Int32) mc ar kA [(.ref y0), (.ref y1), (.ref y2), (.ref y3), u4, u5, u6, u7, u8, u9] y1 (.int (0 : Int32)) T81.heap n0 Z81 f_86 f_82 f_83 f_88 f_89 f_90 f_84 f_91 f_92 ne_r1_w56_it ne_ar_w56_it gn_w56_it (by decide) (by decide) (by decide) rfl) (by decide) (by decide) f_86 (argsL := []) (rest := []) (by rw [hml]; rfl) (lenOf pd_19 rfl) rfl (Nat.le_of_eq rfl) (dx hby dd25 26) rfl hq85 (by decide) (by decide) (fun v93 T93 Lc93 hQ93 X93 => ?_)
  obtain ⟨N93q, rfl, K93q, po93_0, po93_1, po93_2, po93_3⟩ := hQ93
  have N93 := Fr.app N85 N93q
  have K93 : Keep h0 T93.heap [(A 3), (A 5), (A 6), (A 7), (A 8), (A 9), (A 10), (A 11), (A 12), (A 13), (A 14), (A 16), (A 23), (A 0)] := K81.trans K93q (allS (Or.inr sz_w56_it) all0)
  have Z93 : n0 ≤ T93.heap.size := Nat.le_trans Z81 K93q.1
  have po93_0' : Fld Z T93.heap w56_it "java/util/ArrayList$Itr" "cursor" "I" (.int (2 : Int32)) := po93_0
  show own_Gl _ _ _ _ (T93.setTop (mkF m 64 #[vR (A 0), vR r1, vR w56_it, vI c0] [(.ref y1)]))
  have f_95 := P18.keep K93
  obtain ⟨T94, X94, e94, st94⟩ := castY X93 hx hZ hown (wx hw 269) rfl (Ins.self f_95) (g := (mkF m 64 #[vR (A 0), vR r1, vR w56_it, vI c0] [(.ref y1)])) rfl rfl (dx hby dd25 27)
  refine og (st94 _) ?_
  have f_96 := P19.keep K93 (nb hl_y1)
  refine oc_virtual X94 hx hZ hown (wx hw 271) (wx hw 272) (wx hw 274) (wx hw 273) (wx hw 37) (wx hw 275) (by decide) (W := 0) (rmival l Z a0 hw [] y1 c1 T93.heap n0 Z93 f_96) (by decide) (by decide) f_95 (argsL := []) (rest := []) (by rw [hml]; rfl) (lenOf pd_16 rfl) rfl (Nat.le_of_eq rfl) (dx hby dd25 28) rfl e94 (by decide) (by decide) (fun v97 T97 Lc97 hQ97 X97 => ?_)
  obtain ⟨N97q, rfl, hq97⟩ := hQ97
  have N97 := Fr.app N93 N97q
  refine og (XS.istoreN X97.here hx rfl (dx hby dd25 29) rfl (l' := #[vR (A 0), vR r1, vR w56_it, vI c1]) rfl) ?_
  refine sa X97 hx (dx hby dd25 30) ?_
  refine si X97 hx (dx hby dd25 31) ?_
  have f_98 := (f_74.keep K81q (own_nin hA (i := 0) (l := [16]) (by decide) (by decide))).keep K93q (ninS (ab56 0 (by decide)) nin0)
  have f_99 := P25.keep K93
  have f_100 := P26.keep K93 (na 15 (by decide))
  have f_101 := vq1.keep K93q (ninS (ab56 16 (by decide)) nin0)
  have f_103 := (f_79.keep K81q).keep K93q
  refine oc_private X97 hx hZ hown (wx hw 278) (wx hw 280) (wx hw 74) (wx hw 279) (wx hw 75) (wx hw 281) (by decide) (W := 0) (rmpla l Z a0 hw [] c1 A k16 (own_q1 [c0]) (own_q2 [c0]) T93.heap n0 Z93 f_98 f_99 f_100 f_101 hc_c1 (own_q_no (l := [c0]) (fun c h => hc4 c (List.mem_append_left [c1, c2, c3] h)) hc_c1 (own_nd (l1 := [c0]) (l2 := [c2, c3]) hd4))) (by decide) (by decide) f_103 (argsL := [(.int c1)]) (rest := []) (by rw [hml]; rfl) (lenOf pd_0 rfl) rfl (Nat.le_of_eq rfl) (dx hby dd25 32) rfl hq97 (by decide) (by decide) (fun v102 T102 Lc102 hQ102 X102 => ?_)
  obtain ⟨N102q, rfl, hq102⟩ := hQ102
  have N102 := Fr.app N97 N102q
  refine og (XS.ifYes X102.here hx rfl (pc0 := 76) (pc' := 93) rfl (dx hby dd25 33) rfl ((if0 _ _).trans (feq (by decide : ¬ ((1 : Int32) = (0 : Int32)))).2) (by decide) (by decide)) ?_
  refine sa X102 hx (dx hby dd25 37) ?_
  refine oc_getF X102 hx hZ hown (host := "") (Or.inl (wx hw 166)) Via.refl hq102 f_98 (dx hby dd25 38) (fun T104 X104 e104 => ?_)
  refine si X104 hx (dx hby dd25 39) ?_
  refine oc_virtual X104 hx hZ hown (wx hw 292) (wx hw 293) (wx hw 295) (wx hw 294) (wx hw 95) (wx hw 296) (by decide) (W := 0) (rmput l Z a0 hw [] (A 15) c1 (A 16) k16 (own_q1 [c0]) (own_q2 [c0]) T93.heap n0 Z93 f_100 f_101 (own_ne hA (i := 15) (j := 16) (by decide) (by decide) (by decide)) (hge 16 (by decide)) hc_c1) (by decide) (by decide) f_99 (argsL := [(.int c1)]) (rest := []) (by rw [hml]; rfl) (lenOf pd_0 rfl) rfl (Nat.le_of_eq rfl) (dx hby dd25 40) rfl e104 (by decide) (by decide) (fun v105 T105 Lc105 hQ105 X105 => ?_)
  obtain ⟨N105q, rfl, K105q, po105_0⟩ := hQ105
  have N105 := Fr.app N102 N105q
  have K105 : Keep h0 T105.heap [(A 3), (A 5), (A 6), (A 7), (A 8), (A 9), (A 10), (A 11), (A 12), (A 13), (A 14), (A 16), (A 23), (A 0)] := K93.trans K105q (allS (Or.inl (List.mem_of_getElem? (i := 11) rfl)) all0)
  have Z105 : n0 ≤ T105.heap.size := Nat.le_trans Z93 K105q.1
  have vq2 : Arv Z T105.heap (A 16) k16 .long (2 : Int32) [(.long (own_q1 [c0, c1])), (.long (own_q2 [c0, c1]))] (.long (0 : Int64)) := po105_0
  refine og (XS.pop X105.here hx rfl (dx hby dd25 41) rfl rfl) ?_
  refine og (XS.goto X105.here hx rfl (pc0 := 102) (pc' := 49) rfl (dx hby dd25 42) (by decide) (by decide)) ?_
  refine sa X105 hx (dx hby dd25 22) ?_
  show own_Gl _ _ _ _ (T105.setTop (mkF m 50 #[vR (A 0), vR r1, vR w56_it, vI c1] [(.ref w56_it)]))
  have f_106 := po93_0'.keep K105q (ninS (Ne.symm (ab56 16 (by decide))) nin0)
  have f_107 := po93_1.keep K105q (ninS (Ne.symm (ab56 16 (by decide))) nin0)
  have f_108 := P13.keep K105 (nb hl_r1)
  have f_110 := (f_86.keep K93q).keep K105q
  refine oc_iface X105 hx hZ hown (wx hw 243) (wx hw 244) (wx hw 245) (wx hw 246) (wx hw 247) (wx hw 248) (wx hw 249) (wx hw 250) (wx hw 230) (wx hw 251) (by decide) (W := 0) (rmhasn l Z a0 hw [] w56_it r1 (2 : Int32) (4 : Int32) T105.heap n0 Z105 f_106 f_107 f_108) (by decide) (by decide) f_110 (argsL := []) (rest := []) (by rw [hml]; rfl) (lenOf pd_18 rfl) rfl (Nat.le_of_eq rfl) (dx hby dd25 23) rfl rfl (by decide) (by decide) (fun v109 T109 Lc109 hQ109 X109 => ?_)
  obtain ⟨N109q, rfl, hq109⟩ := hQ109
  have N109 := Fr.app N105 N109q
  have hp111 : ¬ ((fhasn (2 : Int32) (4 : Int32)) = (0 : Int32)) := by decide
  refine og (XS.ifNo X109.here hx rfl (dx hby dd25 24) rfl ((if0 _ _).trans (feq hp111).1)) ?_
  refine sa X109 hx (dx hby dd25 25) ?_
  show own_Gl _ _ _ _ (T109.setTop (mkF m 59 #[vR (A 0), vR r1, vR w56_it, vI c1] [(.ref w56_it)]))
  have f_112 := po93_2.keep K105q (ninS (Ne.symm (ab56 16 (by decide))) nin0)
  have f_113 := po93_3.keep K105q (ninS (Ne.symm (ab56 16 (by decide))) nin0)
  have f_114 := P24.keep K105 (nb hl_r1)
  have f_115 := P14.keep K105 (nb hl_r1)
  have f_116 := P15.keep K105 (nb hl_ar)
  refine oc_iface X109 hx hZ hown (wx hw 255) (wx hw 256) (wx hw 257) (wx hw 258) (wx hw 259) (wx hw 260) (wx hw 261) (wx hw 250) (wx hw 230) (wx hw 262) (by decide) (W := 0) (rmnext l Z a0 hw [] w56_it r1 (2 : Int32) (4 : Int32) mc ar kA [(.ref y0), (.ref y1), (.ref y2), (.ref y3), u4, u5, u6, u7, u8, u9] y2 (.int (1 : Int32)) T105.heap n0 Z105 f_110 f_106 f_107 f_112 f_113 f_114 f_108 f_115 f_116 ne_r1_w56_it ne_ar_w56_it gn_w56_it (by decide) (by decide) (by decide) rfl) (by decide) (by decide) f_110 (argsL := []) (rest := []) (by rw [hml]; rfl) (lenOf pd_19 rfl) rfl (Nat.le_of_eq rfl) (dx hby dd25 26) rfl hq109 (by decide) (by decide) (fun v117 T117 Lc117 hQ117 X117 => ?_)
  obtain ⟨N117q, rfl, K117q, po117_0, po117_1, po117_2, po117_3⟩ := hQ117
  have N117 := Fr.app N109 N117q
  have K117 : Keep h0 T117.heap [(A 3), (A 5), (A 6), (A 7), (A 8), (A 9), (A 10), (A 11), (A 12), (A 13), (A 14), (A 16), (A 23), (A 0)] := K105.trans K117q (allS (Or.inr sz_w56_it) all0)
  have Z117 : n0 ≤ T117.heap.size := Nat.le_trans Z105 K117q.1
  have po117_0' : Fld Z T117.heap w56_it "java/util/ArrayList$Itr" "cursor" "I" (.int (3 : Int32)) := po117_0
  show own_Gl _ _ _ _ (T117.setTop (mkF m 64 #[vR (A 0), vR r1, vR w56_it, vI c1] [(.ref y2)]))
  have f_119 := P20.keep K117
  obtain ⟨T118, X118, e118, st118⟩ := castY X117 hx hZ hown (wx hw 269) rfl (Ins.self f_119) (g := (mkF m 64 #[vR (A 0), vR r1, vR w56_it, vI c1] [(.ref y2)])) rfl rfl (dx hby dd25 27)
  refine og (st118 _) ?_
  have f_120 := P21.keep K117 (nb hl_y2)
  refine oc_virtual X118 hx hZ hown (wx hw 271) (wx hw 272) (wx hw 274) (wx hw 273) (wx hw 37) (wx hw 275) (by decide) (W := 0) (rmival l Z a0 hw [] y2 c2 T117.heap n0 Z117 f_120) (by decide) (by decide) f_119 (argsL := []) (rest := []) (by rw [hml]; rfl) (lenOf pd_16 rfl) rfl (Nat.le_of_eq rfl) (dx hby dd25 28) rfl e118 (by decide) (by decide) (fun v121 T121 Lc121 hQ121 X121 => ?_)
  obtain ⟨N121q, rfl, hq121⟩ := hQ121
  have N121 := Fr.app N117 N121q
  refine og (XS.istoreN X121.here hx rfl (dx hby dd25 29) rfl (l' := #[vR (A 0), vR r1, vR w56_it, vI c2]) rfl) ?_
  refine sa X121 hx (dx hby dd25 30) ?_
  refine si X121 hx (dx hby dd25 31) ?_
  have f_122 := (f_98.keep K105q (own_nin hA (i := 0) (l := [16]) (by decide) (by decide))).keep K117q (ninS (ab56 0 (by decide)) nin0)
  have f_123 := P25.keep K117
  have f_124 := P26.keep K117 (na 15 (by decide))
  have f_125 := vq2.keep K117q (ninS (ab56 16 (by decide)) nin0)
  have f_127 := (f_103.keep K105q).keep K117q
  refine oc_private X121 hx hZ hown (wx hw 278) (wx hw 280) (wx hw 74) (wx hw 279) (wx hw 75) (wx hw 281) (by decide) (W := 0) (rmpla l Z a0 hw [] c2 A k16 (own_q1 [c0, c1]) (own_q2 [c0, c1]) T117.heap n0 Z117 f_122 f_123 f_124 f_125 hc_c2 (own_q_no (l := [c0, c1]) (fun c h => hc4 c (List.mem_append_left [c2, c3] h)) hc_c2 (own_nd (l1 := [c0, c1]) (l2 := [c3]) hd4))) (by decide) (by decide) f_127 (argsL := [(.int c2)]) (rest := []) (by rw [hml]; rfl) (lenOf pd_0 rfl) rfl (Nat.le_of_eq rfl) (dx hby dd25 32) rfl hq121 (by decide) (by decide) (fun v126 T126 Lc126 hQ126 X126 => ?_)
  obtain ⟨N126q, rfl, hq126⟩ := hQ126
  have N126 := Fr.app N121 N126q
  refine og (XS.ifYes X126.here hx rfl (pc0 := 76) (pc' := 93) rfl (dx hby dd25 33) rfl ((if0 _ _).trans (feq (by decide : ¬ ((1 : Int32) = (0 : Int32)))).2) (by decide) (by decide)) ?_
  refine sa X126 hx (dx hby dd25 37) ?_
  refine oc_getF X126 hx hZ hown (host := "") (Or.inl (wx hw 166)) Via.refl hq126 f_122 (dx hby dd25 38) (fun T128 X128 e128 => ?_)
  refine si X128 hx (dx hby dd25 39) ?_
  refine oc_virtual X128 hx hZ hown (wx hw 292) (wx hw 293) (wx hw 295) (wx hw 294) (wx hw 95) (wx hw 296) (by decide) (W := 0) (rmput l Z a0 hw [] (A 15) c2 (A 16) k16 (own_q1 [c0, c1]) (own_q2 [c0, c1]) T117.heap n0 Z117 f_124 f_125 (own_ne hA (i := 15) (j := 16) (by decide) (by decide) (by decide)) (hge 16 (by decide)) hc_c2) (by decide) (by decide) f_123 (argsL := [(.int c2)]) (rest := []) (by rw [hml]; rfl) (lenOf pd_0 rfl) rfl (Nat.le_of_eq rfl) (dx hby dd25 40) rfl e128 (by decide) (by decide) (fun v129 T129 Lc129 hQ129 X129 => ?_)
  obtain ⟨N129q, rfl, K129q, po129_0⟩ := hQ129
  have N129 := Fr.app N126 N129q
  have K129 : Keep h0 T129.heap [(A 3), (A 5), (A 6), (A 7), (A 8), (A 9), (A 10), (A 11), (A 12), (A 13), (A 14), (A 16), (A 23), (A 0)] := K117.trans K129q (allS (Or.inl (List.mem_of_getElem? (i := 11) rfl)) all0)
  have Z129 : n0 ≤ T129.heap.size := Nat.le_trans Z117 K129q.1
  have vq3 : Arv Z T129.heap (A 16) k16 .long (2 : Int32) [(.long (own_q1 [c0, c1, c2])), (.long (own_q2 [c0, c1, c2]))] (.long (0 : Int64)) := po129_0
  refine og (XS.pop X129.here hx rfl (dx hby dd25 41) rfl rfl) ?_
  refine og (XS.goto X129.here hx rfl (pc0 := 102) (pc' := 49) rfl (dx hby dd25 42) (by decide) (by decide)) ?_
  refine sa X129 hx (dx hby dd25 22) ?_
  show own_Gl _ _ _ _ (T129.setTop (mkF m 50 #[vR (A 0), vR r1, vR w56_it, vI c2] [(.ref w56_it)]))
  have f_130 := po117_0'.keep K129q (ninS (Ne.symm (ab56 16 (by decide))) nin0)
  have f_131 := po117_1.keep K129q (ninS (Ne.symm (ab56 16 (by decide))) nin0)
  have f_132 := P13.keep K129 (nb hl_r1)
  have f_134 := (f_110.keep K117q).keep K129q
  refine oc_iface X129 hx hZ hown (wx hw 243) (wx hw 244) (wx hw 245) (wx hw 246) (wx hw 247) (wx hw 248) (wx hw 249) (wx hw 250) (wx hw 230) (wx hw 251) (by decide) (W := 0) (rmhasn l Z a0 hw [] w56_it r1 (3 : Int32) (4 : Int32) T129.heap n0 Z129 f_130 f_131 f_132) (by decide) (by decide) f_134 (argsL := []) (rest := []) (by rw [hml]; rfl) (lenOf pd_18 rfl) rfl (Nat.le_of_eq rfl) (dx hby dd25 23) rfl rfl (by decide) (by decide) (fun v133 T133 Lc133 hQ133 X133 => ?_)
  obtain ⟨N133q, rfl, hq133⟩ := hQ133
  have N133 := Fr.app N129 N133q
  have hp135 : ¬ ((fhasn (3 : Int32) (4 : Int32)) = (0 : Int32)) := by decide
  refine og (XS.ifNo X133.here hx rfl (dx hby dd25 24) rfl ((if0 _ _).trans (feq hp135).1)) ?_
  refine sa X133 hx (dx hby dd25 25) ?_
  show own_Gl _ _ _ _ (T133.setTop (mkF m 59 #[vR (A 0), vR r1, vR w56_it, vI c2] [(.ref w56_it)]))
  have f_136 := po117_2.keep K129q (ninS (Ne.symm (ab56 16 (by decide))) nin0)
  have f_137 := po117_3.keep K129q (ninS (Ne.symm (ab56 16 (by decide))) nin0)
  have f_138 := P24.keep K129 (nb hl_r1)
  have f_139 := P14.keep K129 (nb hl_r1)
  have f_140 := P15.keep K129 (nb hl_ar)
  refine oc_iface X133 hx hZ hown (wx hw 255) (wx hw 256) (wx hw 257) (wx hw 258) (wx hw 259) (wx hw 260) (wx hw 261) (wx hw 250) (wx hw 230) (wx hw 262) (by decide) (W := 0) (rmnext l Z a0 hw [] w56_it r1 (3 : Int32) (4 : Int32) mc ar kA [(.ref y0), (.ref y1), (.ref y2), (.ref y3), u4, u5, u6, u7, u8, u9] y3 (.int (2 : Int32)) T129.heap n0 Z129 f_134 f_130 f_131 f_136 f_137 f_138 f_132 f_139 f_140 ne_r1_w56_it ne_ar_w56_it gn_w56_it (by decide) (by decide) (by decide) rfl) (by decide) (by decide) f_134 (argsL := []) (rest := []) (by rw [hml]; rfl) (lenOf pd_19 rfl) rfl (Nat.le_of_eq rfl) (dx hby dd25 26) rfl hq133 (by decide) (by decide) (fun v141 T141 Lc141 hQ141 X141 => ?_)
  obtain ⟨N141q, rfl, K141q, po141_0, po141_1, po141_2, po141_3⟩ := hQ141
  have N141 := Fr.app N133 N141q
  have K141 : Keep h0 T141.heap [(A 3), (A 5), (A 6), (A 7), (A 8), (A 9), (A 10), (A 11), (A 12), (A 13), (A 14), (A 16), (A 23), (A 0)] := K129.trans K141q (allS (Or.inr sz_w56_it) all0)
  have Z141 : n0 ≤ T141.heap.size := Nat.le_trans Z129 K141q.1
  have po141_0' : Fld Z T141.heap w56_it "java/util/ArrayList$Itr" "cursor" "I" (.int (4 : Int32)) := po141_0
  show own_Gl _ _ _ _ (T141.setTop (mkF m 64 #[vR (A 0), vR r1, vR w56_it, vI c2] [(.ref y3)]))
  have f_143 := P22.keep K141
  obtain ⟨T142, X142, e142, st142⟩ := castY X141 hx hZ hown (wx hw 269) rfl (Ins.self f_143) (g := (mkF m 64 #[vR (A 0), vR r1, vR w56_it, vI c2] [(.ref y3)])) rfl rfl (dx hby dd25 27)
  refine og (st142 _) ?_
  have f_144 := P23.keep K141 (nb hl_y3)
  refine oc_virtual X142 hx hZ hown (wx hw 271) (wx hw 272) (wx hw 274) (wx hw 273) (wx hw 37) (wx hw 275) (by decide) (W := 0) (rmival l Z a0 hw [] y3 c3 T141.heap n0 Z141 f_144) (by decide) (by decide) f_143 (argsL := []) (rest := []) (by rw [hml]; rfl) (lenOf pd_16 rfl) rfl (Nat.le_of_eq rfl) (dx hby dd25 28) rfl e142 (by decide) (by decide) (fun v145 T145 Lc145 hQ145 X145 => ?_)
  obtain ⟨N145q, rfl, hq145⟩ := hQ145
  have N145 := Fr.app N141 N145q
  refine og (XS.istoreN X145.here hx rfl (dx hby dd25 29) rfl (l' := #[vR (A 0), vR r1, vR w56_it, vI c3]) rfl) ?_
  refine sa X145 hx (dx hby dd25 30) ?_
  refine si X145 hx (dx hby dd25 31) ?_
  have f_146 := (f_122.keep K129q (own_nin hA (i := 0) (l := [16]) (by decide) (by decide))).keep K141q (ninS (ab56 0 (by decide)) nin0)
  have f_147 := P25.keep K141
  have f_148 := P26.keep K141 (na 15 (by decide))
  have f_149 := vq3.keep K141q (ninS (ab56 16 (by decide)) nin0)
  have f_151 := (f_127.keep K129q).keep K141q
  refine oc_private X145 hx hZ hown (wx hw 278) (wx hw 280) (wx hw 74) (wx hw 279) (wx hw 75) (wx hw 281) (by decide) (W := 0) (rmpla l Z a0 hw [] c3 A k16 (own_q1 [c0, c1, c2]) (own_q2 [c0, c1, c2]) T141.heap n0 Z141 f_146 f_147 f_148 f_149 hc_c3 (own_q_no (l := [c0, c1, c2]) (fun c h => hc4 c (List.mem_append_left [c3] h)) hc_c3 (own_nd (l1 := [c0, c1, c2]) (l2 := []) hd4))) (by decide) (by decide) f_151 (argsL := [(.int c3)]) (rest := []) (by rw [hml]; rfl) (lenOf pd_0 rfl) rfl (Nat.le_of_eq rfl) (dx hby dd25 32) rfl hq145 (by decide) (by decide) (fun v150 T150 Lc150 hQ150 X150 => ?_)
  obtain ⟨N150q, rfl, hq150⟩ := hQ150
  have N150 := Fr.app N145 N150q
  refine og (XS.ifYes X150.here hx rfl (pc0 := 76) (pc' := 93) rfl (dx hby dd25 33) rfl ((if0 _ _).trans (feq (by decide : ¬ ((1 : Int32) = (0 : Int32)))).2) (by decide) (by decide)) ?_
  refine sa X150 hx (dx hby dd25 37) ?_
  refine oc_getF X150 hx hZ hown (host := "") (Or.inl (wx hw 166)) Via.refl hq150 f_146 (dx hby dd25 38) (fun T152 X152 e152 => ?_)
  refine si X152 hx (dx hby dd25 39) ?_
  refine oc_virtual X152 hx hZ hown (wx hw 292) (wx hw 293) (wx hw 295) (wx hw 294) (wx hw 95) (wx hw 296) (by decide) (W := 0) (rmput l Z a0 hw [] (A 15) c3 (A 16) k16 (own_q1 [c0, c1, c2]) (own_q2 [c0, c1, c2]) T141.heap n0 Z141 f_148 f_149 (own_ne hA (i := 15) (j := 16) (by decide) (by decide) (by decide)) (hge 16 (by decide)) hc_c3) (by decide) (by decide) f_147 (argsL := [(.int c3)]) (rest := []) (by rw [hml]; rfl) (lenOf pd_0 rfl) rfl (Nat.le_of_eq rfl) (dx hby dd25 40) rfl e152 (by decide) (by decide) (fun v153 T153 Lc153 hQ153 X153 => ?_)
  obtain ⟨N153q, rfl, K153q, po153_0⟩ := hQ153
  have N153 := Fr.app N150 N153q
  have K153 : Keep h0 T153.heap [(A 3), (A 5), (A 6), (A 7), (A 8), (A 9), (A 10), (A 11), (A 12), (A 13), (A 14), (A 16), (A 23), (A 0)] := K141.trans K153q (allS (Or.inl (List.mem_of_getElem? (i := 11) rfl)) all0)
  have Z153 : n0 ≤ T153.heap.size := Nat.le_trans Z141 K153q.1
  have vq4 : Arv Z T153.heap (A 16) k16 .long (2 : Int32) [(.long (own_q1 [c0, c1, c2, c3])), (.long (own_q2 [c0, c1, c2, c3]))] (.long (0 : Int64)) := po153_0
  refine og (XS.pop X153.here hx rfl (dx hby dd25 41) rfl rfl) ?_
  refine og (XS.goto X153.here hx rfl (pc0 := 102) (pc' := 49) rfl (dx hby dd25 42) (by decide) (by decide)) ?_
  refine sa X153 hx (dx hby dd25 22) ?_
  show own_Gl _ _ _ _ (T153.setTop (mkF m 50 #[vR (A 0), vR r1, vR w56_it, vI c3] [(.ref w56_it)]))
  have f_154 := po141_0'.keep K153q (ninS (Ne.symm (ab56 16 (by decide))) nin0)
  have f_155 := po141_1.keep K153q (ninS (Ne.symm (ab56 16 (by decide))) nin0)
  have f_156 := P13.keep K153 (nb hl_r1)
  have f_158 := (f_134.keep K141q).keep K153q
  refine oc_iface X153 hx hZ hown (wx hw 243) (wx hw 244) (wx hw 245) (wx hw 246) (wx hw 247) (wx hw 248) (wx hw 249) (wx hw 250) (wx hw 230) (wx hw 251) (by decide) (W := 0) (rmhasn l Z a0 hw [] w56_it r1 (4 : Int32) (4 : Int32) T153.heap n0 Z153 f_154 f_155 f_156) (by decide) (by decide) f_158 (argsL := []) (rest := []) (by rw [hml]; rfl) (lenOf pd_18 rfl) rfl (Nat.le_of_eq rfl) (dx hby dd25 23) rfl rfl (by decide) (by decide) (fun v157 T157 Lc157 hQ157 X157 => ?_)
  obtain ⟨N157q, rfl, hq157⟩ := hQ157
  have N157 := Fr.app N153 N157q
  have hp159 : (fhasn (4 : Int32) (4 : Int32)) = (0 : Int32) := by decide
  refine og (XS.ifYes X157.here hx rfl (pc0 := 55) (pc' := 105) rfl (dx hby dd25 24) rfl ((if0 _ _).trans (teq hp159).1) (by decide) (by decide)) ?_
  refine sa X157 hx (dx hby dd25 43) ?_
  have f_161 := (((((((((((P1.keep K43q (own_nin hA (i := 0) (l := [16]) (by decide) (by decide))).keep K49q (own_nin hA (i := 0) (l := [23]) (by decide) (by decide))).other W54 (Or.inr (own_sn (Or.inr (wx hw 163)) (Or.inl (wx hw 190))))).keep K56q nin0).keep K69q (ninS (ab56 0 (by decide)) nin0)).keep K81q (own_nin hA (i := 0) (l := [16]) (by decide) (by decide))).keep K93q (ninS (ab56 0 (by decide)) nin0)).keep K105q (own_nin hA (i := 0) (l := [16]) (by decide) (by decide))).keep K117q (ninS (ab56 0 (by decide)) nin0)).keep K129q (own_nin hA (i := 0) (l := [16]) (by decide) (by decide))).keep K141q (ninS (ab56 0 (by decide)) nin0)).keep K153q (own_nin hA (i := 0) (l := [16]) (by decide) (by decide))
  refine oc_getF X157 hx hZ hown (host := "") (Or.inl (wx hw 162)) Via.refl hq157 f_161 (dx hby dd25 44) (fun T160 X160 e160 => ?_)
  refine sa X160 hx (dx hby dd25 45) ?_
  have f_162 : own_RWB Z T153.heap A lo b P := (own_RWB_keep hA (own_RWB_keep1 (own_RWB_keep hA (own_RWB_keep1 (own_RWB_keep hA (own_RWB_keep1 (own_RWB_keep hA (own_RWB_keep1 (own_RWB_keep hA (own_RWB_keep hA (own_RWB_keep hA (own_RWB_keep hA P10 (l := [16]) K43q (by decide)) (l := [23]) K49q (by decide)) (l := [0]) (Keep.of_wr W54) (by decide)) (l := []) K56q (by decide)) K69q ab56) (l := [16]) K81q (by decide)) K93q ab56) (l := [16]) K105q (by decide)) K117q ab56) (l := [16]) K129q (by decide)) K141q ab56) (l := [16]) K153q (by decide))
  have f_163 := P11.keep K153 ng
  have f_164 := P12.keep K153
  have f_165 := P14.keep K153 (nb hl_r1)
  have f_166 := P15.keep K153 (nb hl_ar)
  have f_167 := P16.keep K153
  have f_168 := P17.keep K153 (nb hl_y0)
  have f_169 := P18.keep K153
  have f_170 := P19.keep K153 (nb hl_y1)
  have f_171 := P20.keep K153
  have f_172 := P21.keep K153 (nb hl_y2)
  have f_173 := P22.keep K153
  have f_174 := P23.keep K153 (nb hl_y3)
  have f_176 := P10.1.keep K153
  refine oc_virtual X160 hx hZ hown (wx hw 302) (wx hw 303) (wx hw 305) (wx hw 304) (wx hw 82) (wx hw 306) (by decide) (W := 0) (rmrstart l Z a0 hw [] r1 A lo b P hd kH hv ar kA y0 y1 y2 y3 u4 u5 u6 u7 u8 u9 c0 c1 c2 c3 T153.heap n0 Z153 f_162 f_163 f_164 f_156 f_165 f_166 f_167 f_168 f_169 f_170 f_171 f_172 f_173 f_174 hA hge hl_r1 hl_ar hl_y0 hl_y1 hl_y2 hl_y3 hc_c0 hc_c1 hc_c2 hc_c3 hS hV hints) (by decide) (by decide) f_176 (argsL := [(.ref r1)]) (rest := []) (by rw [hml]; rfl) (lenOf pd_20 rfl) rfl (Nat.le_of_eq rfl) (dx hby dd25 46) rfl e160 (by decide) (by decide) (fun v175 T175 Lc175 hQ175 X175 => ?_)
  obtain ⟨N175q, rfl, K175q, po175_0⟩ := hQ175
  have N175 := Fr.app N157 N175q
  have K175 : Keep h0 T175.heap [(A 3), (A 5), (A 6), (A 7), (A 8), (A 9), (A 10), (A 11), (A 12), (A 13), (A 14), (A 16), (A 23), (A 0)] := K153.trans K175q (allS (Or.inl (List.mem_of_getElem? (i := 0) rfl)) (allS (Or.inl (List.mem_of_getElem? (i := 1) rfl)) (allS (Or.inl (List.mem_of_getElem? (i := 2) rfl)) (allS (Or.inl (List.mem_of_getElem? (i := 3) rfl)) (allS (Or.inl (List.mem_of_getElem? (i := 4) rfl)) (allS (Or.inl (List.mem_of_getElem? (i := 5) rfl)) (allS (Or.inl (List.mem_of_getElem? (i := 6) rfl)) (allS (Or.inl (List.mem_of_getElem? (i := 7) rfl)) (allS (Or.inl (List.mem_of_getElem? (i := 8) rfl)) (allS (Or.inl (List.mem_of_getElem? (i := 9) rfl)) (allS (Or.inl (List.mem_of_getElem? (i := 10) rfl)) all0)))))))))))
  have Z175 : n0 ≤ T175.heap.size := Nat.le_trans Z153 K175q.1
  have f_177 := f_161.keep K175q (own_nin hA (i := 0) (l := [3, 5, 6, 7, 8, 9, 10, 11, 12, 13, 14]) (by decide) (by decide))
  have f_178 := ((((((((((((P2.keep K43q (own_nin hA (i := 0) (l := [16]) (by decide) (by decide))).keep K49q (own_nin hA (i := 0) (l := [23]) (by decide) (by decide))).other W54 (Or.inr (own_sn (Or.inr (wx hw 177)) (Or.inl (wx hw 190))))).keep K56q nin0).keep K69q (ninS (ab56 0 (by decide)) nin0)).keep K81q (own_nin hA (i := 0) (l := [16]) (by decide) (by decide))).keep K93q (ninS (ab56 0 (by decide)) nin0)).keep K105q (own_nin hA (i := 0) (l := [16]) (by decide) (by decide))).keep K117q (ninS (ab56 0 (by decide)) nin0)).keep K129q (own_nin hA (i := 0) (l := [16]) (by decide) (by decide))).keep K141q (ninS (ab56 0 (by decide)) nin0)).keep K153q (own_nin hA (i := 0) (l := [16]) (by decide) (by decide))).keep K175q (own_nin hA (i := 0) (l := [3, 5, 6, 7, 8, 9, 10, 11, 12, 13, 14]) (by decide) (by decide))
  have f_179 := (f_146.keep K153q (own_nin hA (i := 0) (l := [16]) (by decide) (by decide))).keep K175q (own_nin hA (i := 0) (l := [3, 5, 6, 7, 8, 9, 10, 11, 12, 13, 14]) (by decide) (by decide))
  have f_180 := ((((((((((((P4.keep K43q (own_nin hA (i := 0) (l := [16]) (by decide) (by decide))).keep K49q (own_nin hA (i := 0) (l := [23]) (by decide) (by decide))).other W54 (Or.inr (own_sn (Or.inr (wx hw 186)) (Or.inl (wx hw 190))))).keep K56q nin0).keep K69q (ninS (ab56 0 (by decide)) nin0)).keep K81q (own_nin hA (i := 0) (l := [16]) (by decide) (by decide))).keep K93q (ninS (ab56 0 (by decide)) nin0)).keep K105q (own_nin hA (i := 0) (l := [16]) (by decide) (by decide))).keep K117q (ninS (ab56 0 (by decide)) nin0)).keep K129q (own_nin hA (i := 0) (l := [16]) (by decide) (by decide))).keep K141q (ninS (ab56 0 (by decide)) nin0)).keep K153q (own_nin hA (i := 0) (l := [16]) (by decide) (by decide))).keep K175q (own_nin hA (i := 0) (l := [3, 5, 6, 7, 8, 9, 10, 11, 12, 13, 14]) (by decide) (by decide))
  have f_181 := ((((((((((((P5.keep K43q (own_nin hA (i := 0) (l := [16]) (by decide) (by decide))).keep K49q (own_nin hA (i := 0) (l := [23]) (by decide) (by decide))).other W54 (Or.inr (own_sn (Or.inr (wx hw 169)) (Or.inl (wx hw 190))))).keep K56q nin0).keep K69q (ninS (ab56 0 (by decide)) nin0)).keep K81q (own_nin hA (i := 0) (l := [16]) (by decide) (by decide))).keep K93q (ninS (ab56 0 (by decide)) nin0)).keep K105q (own_nin hA (i := 0) (l := [16]) (by decide) (by decide))).keep K117q (ninS (ab56 0 (by decide)) nin0)).keep K129q (own_nin hA (i := 0) (l := [16]) (by decide) (by decide))).keep K141q (ninS (ab56 0 (by decide)) nin0)).keep K153q (own_nin hA (i := 0) (l := [16]) (by decide) (by decide))).keep K175q (own_nin hA (i := 0) (l := [3, 5, 6, 7, 8, 9, 10, 11, 12, 13, 14]) (by decide) (by decide))
  have f_182 := ((((((((((((P6.keep K43q (own_nin hA (i := 0) (l := [16]) (by decide) (by decide))).keep K49q (own_nin hA (i := 0) (l := [23]) (by decide) (by decide))).other W54 (Or.inr (own_sn (Or.inr (wx hw 171)) (Or.inl (wx hw 190))))).keep K56q nin0).keep K69q (ninS (ab56 0 (by decide)) nin0)).keep K81q (own_nin hA (i := 0) (l := [16]) (by decide) (by decide))).keep K93q (ninS (ab56 0 (by decide)) nin0)).keep K105q (own_nin hA (i := 0) (l := [16]) (by decide) (by decide))).keep K117q (ninS (ab56 0 (by decide)) nin0)).keep K129q (own_nin hA (i := 0) (l := [16]) (by decide) (by decide))).keep K141q (ninS (ab56 0 (by decide)) nin0)).keep K153q (own_nin hA (i := 0) (l := [16]) (by decide) (by decide))).keep K175q (own_nin hA (i := 0) (l := [3, 5, 6, 7, 8, 9, 10, 11, 12, 13, 14]) (by decide) (by decide))
  have f_183 := (((((((((((f_45.keep K49q (own_nin hA (i := 0) (l := [23]) (by decide) (by decide))).other W54 (Or.inr (own_sn (Or.inr (wx hw 188)) (Or.inl (wx hw 190))))).keep K56q nin0).keep K69q (ninS (ab56 0 (by decide)) nin0)).keep K81q (own_nin hA (i := 0) (l := [16]) (by decide) (by decide))).keep K93q (ninS (ab56 0 (by decide)) nin0)).keep K105q (own_nin hA (i := 0) (l := [16]) (by decide) (by decide))).keep K117q (ninS (ab56 0 (by decide)) nin0)).keep K129q (own_nin hA (i := 0) (l := [16]) (by decide) (by decide))).keep K141q (ninS (ab56 0 (by decide)) nin0)).keep K153q (own_nin hA (i := 0) (l := [16]) (by decide) (by decide))).keep K175q (own_nin hA (i := 0) (l := [3, 5, 6, 7, 8, 9, 10, 11, 12, 13, 14]) (by decide) (by decide))
  have f_184 := ((((((((((f_51.other W54 (Or.inr (own_sn (Or.inr (wx hw 173)) (Or.inl (wx hw 190))))).keep K56q nin0).keep K69q (ninS (ab56 0 (by decide)) nin0)).keep K81q (own_nin hA (i := 0) (l := [16]) (by decide) (by decide))).keep K93q (ninS (ab56 0 (by decide)) nin0)).keep K105q (own_nin hA (i := 0) (l := [16]) (by decide) (by decide))).keep K117q (ninS (ab56 0 (by decide)) nin0)).keep K129q (own_nin hA (i := 0) (l := [16]) (by decide) (by decide))).keep K141q (ninS (ab56 0 (by decide)) nin0)).keep K153q (own_nin hA (i := 0) (l := [16]) (by decide) (by decide))).keep K175q (own_nin hA (i := 0) (l := [3, 5, 6, 7, 8, 9, 10, 11, 12, 13, 14]) (by decide) (by decide))
  have f_185 := (((((((((Fw54.keep K56q nin0).keep K69q (ninS (ab56 0 (by decide)) nin0)).keep K81q (own_nin hA (i := 0) (l := [16]) (by decide) (by decide))).keep K93q (ninS (ab56 0 (by decide)) nin0)).keep K105q (own_nin hA (i := 0) (l := [16]) (by decide) (by decide))).keep K117q (ninS (ab56 0 (by decide)) nin0)).keep K129q (own_nin hA (i := 0) (l := [16]) (by decide) (by decide))).keep K141q (ninS (ab56 0 (by decide)) nin0)).keep K153q (own_nin hA (i := 0) (l := [16]) (by decide) (by decide))).keep K175q (own_nin hA (i := 0) (l := [3, 5, 6, 7, 8, 9, 10, 11, 12, 13, 14]) (by decide) (by decide))
  have f_186 := vq4.keep K175q (own_nin hA (i := 16) (l := [3, 5, 6, 7, 8, 9, 10, 11, 12, 13, 14]) (by decide) (by decide))
  have f_187 := ((((((((((po49_0.other W54 (Or.inl (own_ne hA (i := 23) (j := 0) (by decide) (by decide) (by decide)))).keep K56q nin0).keep K69q (ninS (ab56 23 (by decide)) nin0)).keep K81q (own_nin hA (i := 23) (l := [16]) (by decide) (by decide))).keep K93q (ninS (ab56 23 (by decide)) nin0)).keep K105q (own_nin hA (i := 23) (l := [16]) (by decide) (by decide))).keep K117q (ninS (ab56 23 (by decide)) nin0)).keep K129q (own_nin hA (i := 23) (l := [16]) (by decide) (by decide))).keep K141q (ninS (ab56 23 (by decide)) nin0)).keep K153q (own_nin hA (i := 23) (l := [16]) (by decide) (by decide))).keep K175q (own_nin hA (i := 23) (l := [3, 5, 6, 7, 8, 9, 10, 11, 12, 13, 14]) (by decide) (by decide))
  have f_188 := ((((((((((po49_1.other W54 (Or.inl (own_ne hA (i := 23) (j := 0) (by decide) (by decide) (by decide)))).keep K56q nin0).keep K69q (ninS (ab56 23 (by decide)) nin0)).keep K81q (own_nin hA (i := 23) (l := [16]) (by decide) (by decide))).keep K93q (ninS (ab56 23 (by decide)) nin0)).keep K105q (own_nin hA (i := 23) (l := [16]) (by decide) (by decide))).keep K117q (ninS (ab56 23 (by decide)) nin0)).keep K129q (own_nin hA (i := 23) (l := [16]) (by decide) (by decide))).keep K141q (ninS (ab56 23 (by decide)) nin0)).keep K153q (own_nin hA (i := 23) (l := [16]) (by decide) (by decide))).keep K175q (own_nin hA (i := 23) (l := [3, 5, 6, 7, 8, 9, 10, 11, 12, 13, 14]) (by decide) (by decide))
  exact own_retV X175 hx hret hlk (dx hby dd25 47) rfl (by decide) (by decide) ⟨N175, rfl, K175, f_177, f_178, f_179, f_180, f_181, f_182, f_183, f_184, f_185, po175_0, f_186, f_187, f_188⟩
theorem own_TS_eq {w0 w1 : Int64} {cd : Nat → Int32} {l l' : List Nat} (h : own_TS w0 w1 cd l) (e : ∀ t, t ∈ l ↔ t ∈ l') : own_TS w0 w1 cd l' := by
  intro k hk
  rw [h k hk]
  constructor
  · rintro ⟨t, a, b⟩; exact ⟨t, (e t).1 a, b⟩
  · rintro ⟨t, a, b⟩; exact ⟨t, (e t).2 a, b⟩
def own_L1 (s0 : Int32) (cd : Nat → Int32) (t0 t1 : Int64) (sr : List Value) (i : Int32) (n : Nat) : Prop := (0 ≤ i.toInt ∧ i.toInt + (n : Int) = s0.toInt) ∧ own_TS t0 t1 cd (List.range i.toNatClampNeg) ∧ sr.length = 105 ∧ ∀ t, t < i.toNatClampNeg → sr.getD (cd t).toNatClampNeg (.int (0 : Int32)) = .int (Int32.ofInt (t : Int))
theorem own_i4 {i : Int32} (h : 0 ≤ i.toInt) (h4 : i.toInt < 4) : nar .byte (i.toInt8.toInt32) = i ∧ i = Int32.ofInt (i.toNatClampNeg : Int) := by
  obtain ⟨k, rfl⟩ := own_range 4 i h (by omega)
  revert k; decide
theorem own_inc {i s0 : Int32} (h : 0 ≤ i.toInt) (q : i.toInt < s0.toInt) : (i + (1 : Int32)).toInt = i.toInt + 1 ∧ (i + (1 : Int32)).toNatClampNeg = i.toNatClampNeg + 1 := by
  have e : (i + (1 : Int32)).toInt = i.toInt + 1 := by
    rw [Int32.toInt_add]; have : (1 : Int32).toInt = 1 := rfl
    have := Int32.toInt_lt s0
    rw [‹(1 : Int32).toInt = 1›]; apply Int.bmod_eq_of_le <;> omega
  exact ⟨e, by simp only [Int32.toNatClampNeg]; omega⟩
theorem own_L1_s {s0 : Int32} {cd : Nat → Int32} {t0 t1 : Int64} {sr : List Value} {i : Int32} {n : Nat} (h : own_L1 s0 cd t0 t1 sr i n) (hs : s0.toInt ≤ 4) (hcb : own_CB cd s0.toNatClampNeg) (q : i < s0) : own_L1 s0 cd (own_pw0 t0 t1 (cd i.toNatClampNeg)) (own_pw1 t0 t1 (cd i.toNatClampNeg)) (sr.set (cd i.toNatClampNeg).toNatClampNeg (.int (nar .byte (i.toInt8.toInt32)))) (i + (1 : Int32)) (n - 1) := by
  obtain ⟨⟨a, b⟩, c, d, e⟩ := h
  rw [Int32.lt_iff_toInt_lt] at q
  obtain ⟨e1, e2⟩ := own_inc a q
  obtain ⟨e3, e4⟩ := own_i4 a (by omega)
  have hi : i.toNatClampNeg < s0.toNatClampNeg := by simp only [Int32.toNatClampNeg]; omega
  have hc := hcb.1 _ hi
  refine ⟨⟨by omega, by omega⟩, own_TS_eq (own_TS_put c hc) (fun t => ?_), by rw [List.length_set]; exact d, fun t ht => ?_⟩
  · rw [e2, List.mem_cons, List.mem_range, List.mem_range]; omega
  · rw [e3]
    have l2 : (cd i.toNatClampNeg).toNatClampNeg < sr.length := by rw [d]; simp only [Int32.toNatClampNeg] at *; omega
    by_cases u : t = i.toNatClampNeg
    · rw [u, ← e4, List.getD_eq_getElem?_getD, List.getElem?_set_self l2]; rfl
    · have ht2 : t < i.toNatClampNeg := by omega
      have hct := hcb.1 t (by omega)
      have ne : (cd i.toNatClampNeg).toNatClampNeg ≠ (cd t).toNatClampNeg := by
        intro z
        apply hcb.2 t _ (by omega) hi u
        apply Int32.toInt_inj.1
        simp only [Int32.toNatClampNeg] at z hct hc ⊢; omega
      rw [List.getD_eq_getElem?_getD, List.getElem?_set_ne ne, ← List.getD_eq_getElem?_getD]; exact e t ht2
def own_L2 (s0 : Int32) (cd : Nat → Int32) (t0 t1 : Int64) (os : List Value) (e : Nat → Nat) (l : List Nat) (i : Int32) (n : Nat) : Prop := (0 ≤ i.toInt ∧ i.toInt + (n : Int) = s0.toInt) ∧ own_TS t0 t1 cd l ∧ l.Nodup ∧ l.length + i.toNatClampNeg = s0.toNatClampNeg ∧ (∀ u, u ∈ l → u < s0.toNatClampNeg) ∧ 4 ≤ os.length ∧ (∀ t, t < i.toNatClampNeg → os.getD t (.int (0 : Int32)) = .int (Int32.ofInt (e t : Int)) ∧ e t < s0.toNatClampNeg ∧ (∀ u, u ∈ l → (cd (e t)).toInt < (cd u).toInt) ∧ (t + 1 < i.toNatClampNeg → (cd (e t)).toInt < (cd (e (t + 1))).toInt)) ∧ (i.toNatClampNeg = 0 → ∀ u, u < s0.toNatClampNeg → u ∈ l) ∧ (0 < i.toNatClampNeg → ∀ u, u < s0.toNatClampNeg → (cd (e 0)).toInt ≤ (cd u).toInt)
theorem own_L2_0 {s0 : Int32} {cd : Nat → Int32} {t0 t1 : Int64} {sr os : List Value} {i : Int32} {n : Nat} (h : own_L1 s0 cd t0 t1 sr i n) (q : ¬ i < s0) (ho : 4 ≤ os.length) : own_L2 s0 cd t0 t1 os (fun _ => 0) (List.range s0.toNatClampNeg) (0 : Int32) s0.toInt.toNat := by
  obtain ⟨⟨a, b⟩, c, -⟩ := h
  rw [Int32.lt_iff_toInt_lt] at q
  have e : i = s0 := Int32.toInt_inj.1 (by omega)
  subst e
  have z : (0 : Int32).toInt = 0 := rfl
  have z2 : (0 : Int32).toNatClampNeg = 0 := rfl
  refine ⟨⟨by omega, by omega⟩, c, List.nodup_range, by rw [List.length_range]; rfl, fun u hu => List.mem_range.1 hu, ho, fun t ht => absurd ht (by rw [z2]; omega), fun _ u hu => List.mem_range.2 hu, fun h => absurd h (by rw [z2]; omega)⟩
theorem own_L2_s {s0 : Int32} {cd : Nat → Int32} {t0 t1 : Int64} {os : List Value} {e : Nat → Nat} {l : List Nat} {i : Int32} {n : Nat} (h : own_L2 s0 cd t0 t1 os e l i n) (hs : s0.toInt ≤ 4) (hcb : own_CB cd s0.toNatClampNeg) (q : i < s0) : ¬ (t0 = (0 : Int64) ∧ t1 = (0 : Int64)) ∧ ∃ t, t < s0.toNatClampNeg ∧ flow t0 t1 = cd t ∧ own_L2 s0 cd (own_tw0 t0 t1 (cd t)) (own_tw1 t0 t1 (cd t)) (os.set i.toNatClampNeg (.int (Int32.ofInt (t : Int)))) (fun u => if u = i.toNatClampNeg then t else e u) (l.erase t) (i + (1 : Int32)) (n - 1) := by
  obtain ⟨⟨a, b⟩, ts, nd, ll, lb, ol, oe, f0, f1⟩ := h
  rw [Int32.lt_iff_toInt_lt] at q
  obtain ⟨e1, e2⟩ := own_inc a q
  have hi : i.toNatClampNeg < s0.toNatClampNeg := by simp only [Int32.toNatClampNeg]; omega
  have hi4 : i.toNatClampNeg < 4 := by simp only [Int32.toNatClampNeg]; omega
  obtain ⟨ne, t, tl, fl, lt, ts'⟩ := own_TS_low ts hcb lb nd (by omega)
  refine ⟨ne, t, lb t tl, fl, ⟨by omega, by omega⟩, ts', nd.erase t, ?_, fun u hu => lb u (List.mem_of_mem_erase hu), by rw [List.length_set]; exact ol, fun v hv => ?_, fun z => absurd z (by omega), fun _ u hu => ?_⟩
  · rw [List.length_erase_of_mem tl, e2]
    have : 0 < l.length := by omega
    omega
  · dsimp only
    by_cases r : v = i.toNatClampNeg
    · subst r
      refine ⟨?_, ?_, fun u hu => ?_, fun z => absurd z (by omega)⟩
      · rw [List.getD_eq_getElem?_getD, List.getElem?_set_self (by omega), if_pos rfl]; rfl
      · rw [if_pos rfl]; exact lb t tl
      · rw [if_pos rfl]
        obtain ⟨x, y⟩ := (nd.mem_erase_iff).1 hu
        exact lt u y x
    · have hv2 : v < i.toNatClampNeg := by omega
      obtain ⟨o1, o2, o3, o4⟩ := oe v hv2
      simp only [if_neg r]
      refine ⟨?_, o2, fun u hu => o3 u (List.mem_of_mem_erase hu), fun z => ?_⟩
      · rw [List.getD_eq_getElem?_getD, List.getElem?_set_ne (Ne.symm r), ← List.getD_eq_getElem?_getD]; exact o1
      · by_cases w : v + 1 = i.toNatClampNeg
        · rw [if_pos w]; exact o3 t tl
        · rw [if_neg w]; exact o4 (by omega)
  · dsimp only
    by_cases z : i.toNatClampNeg = 0
    · rw [if_pos z.symm]
      by_cases w : u = t
      · rw [w]; exact Int.le_refl _
      · exact Int.le_of_lt (lt u (f0 z u hu) w)
    · rw [if_neg (fun x => z x.symm)]; exact f1 (by omega) u hu
def own_L3 (s0 : Int32) (cd : Nat → Int32) (rv : List Value) (i : Int32) (n : Nat) : Prop := (0 ≤ i.toInt ∧ i.toInt + (n : Int) = s0.toInt) ∧ 4 ≤ rv.length ∧ ∀ t, t < i.toNatClampNeg → rv.getD t (.int (0 : Int32)) = .int (cd t)
theorem own_L3_0 {s0 : Int32} {cd : Nat → Int32} {rv : List Value} (h : 0 ≤ s0.toInt) (hl : 4 ≤ rv.length) : own_L3 s0 cd rv (0 : Int32) s0.toInt.toNat := by
  have z : (0 : Int32).toInt = 0 := rfl
  have z2 : (0 : Int32).toNatClampNeg = 0 := rfl
  exact ⟨⟨by omega, by omega⟩, hl, fun t ht => absurd ht (by rw [z2]; omega)⟩
theorem own_L3_s {s0 : Int32} {cd : Nat → Int32} {rv : List Value} {i : Int32} {n : Nat} (h : own_L3 s0 cd rv i n) (hs : s0.toInt ≤ 4) (q : i < s0) : own_L3 s0 cd (rv.set i.toNatClampNeg (.int (cd i.toNatClampNeg))) (i + (1 : Int32)) (n - 1) := by
  obtain ⟨⟨a, b⟩, c, d⟩ := h
  rw [Int32.lt_iff_toInt_lt] at q
  obtain ⟨e1, e2⟩ := own_inc a q
  have hi4 : i.toNatClampNeg < 4 := by simp only [Int32.toNatClampNeg]; omega
  refine ⟨⟨by omega, by omega⟩, by rw [List.length_set]; exact c, fun t ht => ?_⟩
  by_cases u : t = i.toNatClampNeg
  · rw [u, List.getD_eq_getElem?_getD, List.getElem?_set_self (by omega)]; rfl
  · rw [List.getD_eq_getElem?_getD, List.getElem?_set_ne (fun z => u z.symm), ← List.getD_eq_getElem?_getD]; exact d t (by omega)
theorem own_b4 {i s0 : Int32} {n : Nat} (h : 0 ≤ i.toInt ∧ i.toInt + (n : Int) = s0.toInt) (hs : s0.toInt ≤ 4) (q : i < s0) : (¬ i < 0 ∧ i < s0) ∧ i.toNatClampNeg < s0.toNatClampNeg ∧ i.toNatClampNeg < 4 ∧ n - 1 < n := by
  have z : (0 : Int32).toInt = 0 := rfl
  have q2 := q
  rw [Int32.lt_iff_toInt_lt] at q2
  refine ⟨⟨by rw [Int32.lt_iff_toInt_lt]; omega, q⟩, by simp only [Int32.toNatClampNeg]; omega, by simp only [Int32.toNatClampNeg]; omega, by omega⟩
theorem own_PO_of {s0 : Int32} {cd : Nat → Int32} {t0 t1 : Int64} {os rv : List Value} {e : Nat → Nat} {l : List Nat} {i j : Int32} {n k : Nat} (h : own_L2 s0 cd t0 t1 os e l i n) (q : ¬ i < s0) (h3 : own_L3 s0 cd rv j k) (r : ¬ j < s0) (hs : s0.toInt ≤ 4) (hcb : own_CB cd s0.toNatClampNeg) : own_PO rv os s0 (fun t => Int32.ofInt (e t : Int)) (fun t => cd (e t)) 0 := by
  obtain ⟨⟨a, b⟩, -, -, -, -, -, oe, -, -⟩ := h
  obtain ⟨⟨a3, b3⟩, -, d3⟩ := h3
  rw [Int32.lt_iff_toInt_lt] at q r
  have ei : i = s0 := Int32.toInt_inj.1 (by omega)
  have ej : j = s0 := Int32.toInt_inj.1 (by omega)
  subst ei; subst ej
  intro t _ ht
  obtain ⟨o1, o2, -, o4⟩ := oe t ht
  have l4 : e t < 4 := by simp only [Int32.toNatClampNeg] at o2; omega
  have t1 : (Int32.ofInt (e t : Int)).toInt = (e t : Int) := by
    generalize e t = z at l4
    match z, l4 with
    | 0, _ => rfl
    | 1, _ => rfl
    | 2, _ => rfl
    | 3, _ => rfl
  have t2 : (Int32.ofInt (e t : Int)).toNatClampNeg = e t := by simp only [Int32.toNatClampNeg, t1]; omega
  have z0 : (0 : Int32).toInt = 0 := rfl
  refine ⟨o1, by rw [Int32.lt_iff_toInt_lt, t1, z0]; omega, ?_, by rw [t2]; exact o2, by rw [t2]; exact d3 _ o2, hcb.1 _ o2, o4⟩
  rw [Int32.lt_iff_toInt_lt, t1]; simp only [Int32.toNatClampNeg] at o2; omega
theorem own_L2_min {s0 : Int32} {cd : Nat → Int32} {t0 t1 : Int64} {os : List Value} {e : Nat → Nat} {l : List Nat} {i : Int32} {n : Nat} (h : own_L2 s0 cd t0 t1 os e l i n) (q : ¬ i < s0) (hs : 1 ≤ s0.toInt) : e 0 < s0.toNatClampNeg ∧ ∀ u, u < s0.toNatClampNeg → (cd (e 0)).toInt ≤ (cd u).toInt := by
  obtain ⟨⟨a, b⟩, -, -, -, -, -, oe, -, f1⟩ := h
  rw [Int32.lt_iff_toInt_lt] at q
  have ei : i = s0 := Int32.toInt_inj.1 (by omega)
  subst ei
  have p : 0 < i.toNatClampNeg := by simp only [Int32.toNatClampNeg]; omega
  exact ⟨(oe 0 p).2.1, f1 p⟩
def own_One (o : Slot) : Prop := o = .unset ∨ ∃ w, o = .val w ∧ w.category = 1
theorem own_ieq {i s0 : Int32} {n : Nat} (h : 0 ≤ i.toInt ∧ i.toInt + (n : Int) = s0.toInt) (q : ¬ i < s0) : s0 = i := by
  rw [Int32.lt_iff_toInt_lt] at q; exact Int32.toInt_inj.1 (by omega)
theorem own_L1_0 {s0 : Int32} {cd : Nat → Int32} {sr : List Value} (h : 0 ≤ s0.toInt) (hl : sr.length = 105) : own_L1 s0 cd 0 0 sr (0 : Int32) s0.toInt.toNat := by
  have z : (0 : Int32).toInt = 0 := rfl
  have z2 : (0 : Int32).toNatClampNeg = 0 := rfl
  exact ⟨⟨by omega, by omega⟩, own_TS0 cd, hl, fun t ht => absurd ht (by rw [z2]; omega)⟩
theorem dd48 : own_dec prog_66_method_4_code [(0, .aload_n 0, 1), (1, .getfield 66, 3), (4, .aload_n 0, 1), (5, .getfield 43, 3), (8, .if_icmp .ge 20, 3), (11, .new 132, 3), (14, .dup, 1), (15, .aload_n 0, 1), (16, .invokevirtual 116, 3), (28, .aload_n 1, 1), (29, .arraylength, 1), (30, .aload_n 0, 1), (31, .getfield 43, 3), (34, .if_icmp .eq 22, 3), (37, .new 34, 3), (40, .dup, 1), (41, .aload_n 0, 1), (42, .getfield 43, 3), (45, .aload_n 1, 1), (46, .arraylength, 1), (56, .aload_n 0, 1), (57, .getfield 23, 3), (60, .invokevirtual 77, 3), (63, .iconst 0, 1), (64, .istore_n 2, 1), (65, .iload_n 2, 1), (66, .aload_n 0, 1), (67, .getfield 43, 3), (70, .if_icmp .ge 68, 3), (73, .aload_n 1, 1), (74, .iload_n 2, 1), (75, .iaload, 1), (76, .istore_n 3, 1), (77, .aload_n 0, 1), (78, .iload_n 3, 1), (79, .invokevirtual 100, 3), (82, .ifCond .ne 17, 3), (85, .new 34, 3), (88, .dup, 1), (89, .iload_n 3, 1), (99, .aload_n 0, 1), (100, .getfield 23, 3), (103, .iload_n 3, 1), (104, .invokevirtual 105, 3), (107, .ifCond .ne 17, 3), (110, .new 34, 3), (113, .dup, 1), (114, .iload_n 3, 1), (124, .aload_n 0, 1), (125, .getfield 28, 3), (128, .iload_n 3, 1), (129, .iload_n 2, 1), (130, .i2b, 1), (131, .bastore, 1), (132, .iinc 2 1, 3), (135, .goto (-70), 3), (138, .iconst 0, 1), (139, .istore_n 2, 1), (140, .iload_n 2, 1), (141, .aload_n 0, 1), (142, .getfield 43, 3), (145, .if_icmp .ge 38, 3), (148, .aload_n 0, 1), (149, .getfield 23, 3), (152, .invokevirtual 141, 3), (155, .istore_n 3, 1), (156, .aload_n 0, 1), (157, .getfield 23, 3), (160, .iload_n 3, 1), (161, .invokevirtual 144, 3), (164, .pop, 1), (165, .aload_n 0, 1), (166, .getfield 59, 3), (169, .iload_n 2, 1), (170, .aload_n 0, 1), (171, .getfield 28, 3), (174, .iload_n 3, 1), (175, .baload, 1), (176, .iastore, 1), (177, .iinc 2 1, 3), (180, .goto (-40), 3), (183, .aload_n 0, 1), (184, .getfield 63, 3), (187, .invokevirtual 80, 3), (190, .iconst 0, 1), (191, .istore_n 2, 1), (192, .iload_n 2, 1), (193, .aload_n 0, 1), (194, .getfield 43, 3), (197, .if_icmp .ge 30, 3), (200, .aload_n 0, 1), (201, .getfield 63, 3), (204, .aload_n 1, 1), (205, .iload_n 2, 1), (206, .iaload, 1), (207, .invokevirtual 56, 3), (210, .aload_n 0, 1), (211, .getfield 19, 3), (214, .aload_n 1, 1), (215, .iload_n 2, 1), (216, .iaload, 1), (217, .invokevirtual 105, 3), (220, .pop, 1), (221, .iinc 2 1, 3), (224, .goto (-32), 3), (227, .aload_n 0, 1), (228, .iconst 0, 1), (229, .putfield 66, 3), (232, .aload_n 0, 1), (233, .invokevirtual 147, 3), (236, .return_, 1)] := by unfold own_dec; decide +kernel
theorem ef_rev (m : MethodId) (A : Nat → Addr) (r1 : Addr) : entryFrame m #[(.ref (A 0)), (.ref r1)] 4 = mkF m 0 #[vR (A 0), vR r1, vU, vU] [] := by first | (simp [entryFrame, mkF, argsToLocals, Value.category, vI, vR, vU]; done) | rfl
def Qrev (Z : State) (r1 : Addr) (A : Nat → Addr) (lo : Int) (b : Int) (P : Int64 → Int64 → Prop) (hd : Addr) (kH : ClassId) (hv : List Value) (k16 : ClassId) (w0 : Int64) (w1 : Int64) (k18 : ClassId) (t0 : Int64) (t1 : Int64) (k19 : ClassId) (sr : List Value) (k21 : ClassId) (vt : List Value) (k22 : ClassId) (os0 : List Value) (k24 : ClassId) (rv0 : List Value) (n23 : Int32) (s0 : Int32) (kR : ClassId) (cv : List Value) (cd : Nat → Int32) (Q : Prop) (h0 : Heap) (n0 : Nat) (v : Option Value) (h : Heap) (L : List Loc) : Prop := Fr n0 L ∧ ∃ (pv : Int32) (os : List Value) (rv : List Value) (ee : Nat → Nat), v = none ∧ Keep h0 h [(A 18), (A 19), (A 22), (A 23), (A 24), (A 16), (A 0), (A 3), (A 5), (A 6), (A 7), (A 8), (A 9), (A 10), (A 11), (A 12), (A 13), (A 14), (A 21)] ∧ Fld Z h (A 0) "com/example/sixfold/sixfold/rows/Table" "placed" "I" (.int pv) ∧ Fld Z h (A 0) "com/example/sixfold/sixfold/rows/Table" "seats" "I" (.int s0) ∧ (Q → own_RWB Z h A lo b P ∧ Fld Z h (A 0) "com/example/sixfold/sixfold/rows/Table" "rows" "Lcom/example/sixfold/sixfold/rows/Rows;" (.ref (A 1)) ∧ Fld Z h (A 0) "com/example/sixfold/sixfold/rows/Table" "totals" "Lcom/example/sixfold/sixfold/rows/IntList;" (.ref (A 20)) ∧ Fld Z h (A 0) "com/example/sixfold/sixfold/rows/Table" "order" "[I" (.ref (A 22)) ∧ Fld Z h (A 0) "com/example/sixfold/sixfold/rows/Table" "revealed" "Lcom/example/sixfold/sixfold/rows/IntList;" (.ref (A 23)) ∧ Arv Z h (A 21) k21 .int s0 vt (.int (0 : Int32)) ∧ Arv Z h (A 22) k22 .int s0 os (.int (0 : Int32)) ∧ Fld Z h (A 23) "com/example/sixfold/sixfold/rows/IntList" "values" "[I" (.ref (A 24)) ∧ Fld Z h (A 23) "com/example/sixfold/sixfold/rows/IntList" "size" "I" (.int s0) ∧ Arv Z h (A 24) k24 .int s0 rv (.int (0 : Int32)) ∧ own_PO rv os s0 (fun u => Int32.ofInt (ee u : Int)) (fun u => cd (ee u)) 0 ∧ pv = (0 : Int32)) ∧ (¬ Q → pv = s0) ∧ ee 0 < s0.toNatClampNeg ∧ ∀ u, u < s0.toNatClampNeg → (cd (ee 0)).toInt ≤ (cd u).toInt
set_option maxRecDepth 65536 in
set_option maxHeartbeats 40000000 in
theorem rmrev (l : Launch) (Z : State) (a0 : Array Value) (hw : ∀ d ∈ tables_1, d.before a0 Z = true) (ws : List Jvm.Cond) (r1 : Addr) (A : Nat → Addr) (lo : Int) (b : Int) (P : Int64 → Int64 → Prop) (hd : Addr) (kH : ClassId) (hv : List Value) (k16 : ClassId) (w0 : Int64) (w1 : Int64) (k18 : ClassId) (t0 : Int64) (t1 : Int64) (k19 : ClassId) (sr : List Value) (k21 : ClassId) (vt : List Value) (k22 : ClassId) (os0 : List Value) (k24 : ClassId) (rv0 : List Value) (n23 : Int32) (s0 : Int32) (kR : ClassId) (cv : List Value) (cd : Nat → Int32) (Q : Prop) (h0 : Heap) (n0 : Nat) (Z0 : n0 ≤ h0.size) (P0 : Exa Z h0 (A 0) "com/example/sixfold/sixfold/rows/Table") (P1 : Fld Z h0 (A 0) "com/example/sixfold/sixfold/rows/Table" "rows" "Lcom/example/sixfold/sixfold/rows/Rows;" (.ref (A 1))) (P2 : Fld Z h0 (A 0) "com/example/sixfold/sixfold/rows/Table" "totals" "Lcom/example/sixfold/sixfold/rows/IntList;" (.ref (A 20))) (P3 : Fld Z h0 (A 0) "com/example/sixfold/sixfold/rows/Table" "played" "Lcom/example/sixfold/sixfold/rows/CardSet;" (.ref (A 15))) (P4 : Fld Z h0 (A 0) "com/example/sixfold/sixfold/rows/Table" "order" "[I" (.ref (A 22))) (P5 : Fld Z h0 (A 0) "com/example/sixfold/sixfold/rows/Table" "turn" "Lcom/example/sixfold/sixfold/rows/CardSet;" (.ref (A 17))) (P6 : Fld Z h0 (A 0) "com/example/sixfold/sixfold/rows/Table" "seatRevealing" "[B" (.ref (A 19))) (P7 : Fld Z h0 (A 0) "com/example/sixfold/sixfold/rows/Table" "revealed" "Lcom/example/sixfold/sixfold/rows/IntList;" (.ref (A 23))) (P8 : Fld Z h0 (A 0) "com/example/sixfold/sixfold/rows/Table" "seats" "I" (.int s0)) (P9 : Fld Z h0 (A 0) "com/example/sixfold/sixfold/rows/Table" "placed" "I" (.int s0)) (P10 : own_RWB Z h0 A lo b P) (P11 : Old Z n0 h0) (P12 : Exa Z h0 (A 15) "com/example/sixfold/sixfold/rows/CardSet") (P13 : Fld Z h0 (A 15) "com/example/sixfold/sixfold/rows/CardSet" "words" "[J" (.ref (A 16))) (P14 : Arv Z h0 (A 16) k16 .long (2 : Int32) [(.long w0), (.long w1)] (.long (0 : Int64))) (P15 : Exa Z h0 (A 17) "com/example/sixfold/sixfold/rows/CardSet") (P16 : Fld Z h0 (A 17) "com/example/sixfold/sixfold/rows/CardSet" "words" "[J" (.ref (A 18))) (P17 : Arv Z h0 (A 18) k18 .long (2 : Int32) [(.long t0), (.long t1)] (.long (0 : Int64))) (P18 : Arv Z h0 (A 19) k19 .byte (105 : Int32) sr (.int (0 : Int32))) (P19 : Exa Z h0 (A 20) "com/example/sixfold/sixfold/rows/IntList") (P20 : Fld Z h0 (A 20) "com/example/sixfold/sixfold/rows/IntList" "values" "[I" (.ref (A 21))) (P21 : Fld Z h0 (A 20) "com/example/sixfold/sixfold/rows/IntList" "size" "I" (.int s0)) (P22 : Arv Z h0 (A 21) k21 .int s0 vt (.int (0 : Int32))) (P23 : Arv Z h0 (A 22) k22 .int s0 os0 (.int (0 : Int32))) (P24 : Exa Z h0 (A 23) "com/example/sixfold/sixfold/rows/IntList") (P25 : Fld Z h0 (A 23) "com/example/sixfold/sixfold/rows/IntList" "values" "[I" (.ref (A 24))) (P26 : Fld Z h0 (A 23) "com/example/sixfold/sixfold/rows/IntList" "size" "I" (.int n23)) (P27 : Arv Z h0 (A 24) k24 .int s0 rv0 (.int (0 : Int32))) (P28 : Arv Z h0 r1 kR .int s0 cv (.int (0 : Int32))) (hA : own_Inc A 25) (hge : ∀ i, i < 25 → n0 ≤ A i) (hl_r1 : r1 < A 0) (hs : 2 ≤ s0.toInt ∧ s0.toInt ≤ 4) (hcv : ∀ u, u < s0.toNatClampNeg → cv.getD u (.int (0 : Int32)) = .int (cd u)) (hcb : own_CB cd s0.toNatClampNeg) (hno : ∀ u, u < s0.toNatClampNeg → fhas (cd u) w0 w1 = (0 : Int32)) (hln : sr.length = 105 ∧ 4 ≤ os0.length ∧ 4 ≤ rv0.length ∧ 4 ≤ vt.length) (hti : own_ints vt) (hbd : 1 ≤ lo ∧ b + s0.toInt ≤ 5) (hQA : Q → ∀ w0 w1, P w0 w1 → ∀ c : Int32, (1 ≤ c.toInt ∧ c.toInt ≤ 104) → (∀ u, u < s0.toNatClampNeg → c.toInt ≤ (cd u).toInt) → fhb c w0 w1 = (0 : Int32)) (hQB : ¬ Q → ∀ w0 w1, P w0 w1 → ∀ u, u < s0.toNatClampNeg → ¬ (fhb (cd u) w0 w1 = (0 : Int32))) (hS : Sta Z Z.heap "com/example/sixfold/sixfold/rows/Card" "HEADS" "[B" (.ref hd)) (hV : Arv Z Z.heap hd kH .byte (105 : Int32) hv (.int (0 : Int32))) (hints : own_ints hv) :
    own_Cw l Z (⟨"com/example/sixfold/sixfold/rows/Table", "reveal", "([I)V"⟩ : MethodName) prog_66_method_4_code 4 none ws (own_rr 7 0 0 98) #[(.ref (A 0)), (.ref r1)] h0 (Qrev Z r1 A lo b P hd kH hv k16 w0 w1 k18 t0 t1 k19 sr k21 vt k22 os0 k24 rv0 n23 s0 kR cv cd Q h0 n0) := by
  refine own_body (plainFor_of_name pn_com_example_sixfold_sixfold_rows_Table) ?_
  intro p e s m below meth c s₁ hx hby hml hZ hown hnm hret hlk X0 e0
  have N0 := Fr.nil n0
  refine own_go (fun t k => castTop (ef_rev m A r1) k) ?_
  have na : ∀ i, (i < 25 ∧ ∀ j ∈ [18, 19, 22, 23, 24, 16, 0, 3, 5, 6, 7, 8, 9, 10, 11, 12, 13, 14, 21], j < 25 ∧ j ≠ i) → A i ∉ [(A 18), (A 19), (A 22), (A 23), (A 24), (A 16), (A 0), (A 3), (A 5), (A 6), (A 7), (A 8), (A 9), (A 10), (A 11), (A 12), (A 13), (A 14), (A 21)] := fun i h => own_nin hA h.1 h.2
  have ng : ∀ w ∈ [(A 18), (A 19), (A 22), (A 23), (A 24), (A 16), (A 0), (A 3), (A 5), (A 6), (A 7), (A 8), (A 9), (A 10), (A 11), (A 12), (A 13), (A 14), (A 21)], n0 ≤ w := (allS (hge 18 (by decide)) (allS (hge 19 (by decide)) (allS (hge 22 (by decide)) (allS (hge 23 (by decide)) (allS (hge 24 (by decide)) (allS (hge 16 (by decide)) (allS (hge 0 (by decide)) (allS (hge 3 (by decide)) (allS (hge 5 (by decide)) (allS (hge 6 (by decide)) (allS (hge 7 (by decide)) (allS (hge 8 (by decide)) (allS (hge 9 (by decide)) (allS (hge 10 (by decide)) (allS (hge 11 (by decide)) (allS (hge 12 (by decide)) (allS (hge 13 (by decide)) (allS (hge 14 (by decide)) (allS (hge 21 (by decide)) all0)))))))))))))))))))
  have nb : ∀ {w}, w < A 0 → w ∉ [(A 18), (A 19), (A 22), (A 23), (A 24), (A 16), (A 0), (A 3), (A 5), (A 6), (A 7), (A 8), (A 9), (A 10), (A 11), (A 12), (A 13), (A 14), (A 21)] := fun h => own_ninb hA h (l := [18, 19, 22, 23, 24, 16, 0, 3, 5, 6, 7, 8, 9, 10, 11, 12, 13, 14, 21]) (by decide)
  refine sa X0 hx (dx hby dd48 0) ?_
  refine oc_getF X0 hx hZ hown (host := "") (Or.inl (wx hw 189)) Via.refl e0 P9 (dx hby dd48 1) (fun T41 X41 e41 => ?_)
  refine sa X41 hx (dx hby dd48 2) ?_
  refine oc_getF X41 hx hZ hown (host := "") (Or.inl (wx hw 172)) Via.refl e41 P8 (dx hby dd48 3) (fun T42 X42 e42 => ?_)
  have hp43 : ¬ (s0 < s0) := fun q => by rw [Int32.lt_iff_toInt_lt] at q; omega
  refine og (XS.icmpYes X42.here hx rfl (pc0 := 8) (pc' := 28) rfl (dx hby dd48 4) rfl (flt hp43).2.1 (by decide) (by decide)) ?_
  refine sa X42 hx (dx hby dd48 9) ?_
  refine oc_len X42 hx hZ e42 P28 (dx hby dd48 10) ?_
  refine sa X42 hx (dx hby dd48 11) ?_
  refine oc_getF X42 hx hZ hown (host := "") (Or.inl (wx hw 172)) Via.refl e42 P8 (dx hby dd48 12) (fun T44 X44 e44 => ?_)
  refine og (XS.icmpYes X44.here hx rfl (pc0 := 34) (pc' := 56) rfl (dx hby dd48 13) rfl (teq (rfl : s0 = s0)).1 (by decide) (by decide)) ?_
  refine sa X44 hx (dx hby dd48 20) ?_
  refine oc_getF X44 hx hZ hown (host := "") (Or.inl (wx hw 168)) Via.refl e44 P5 (dx hby dd48 21) (fun T45 X45 e45 => ?_)
  refine oc_virtual X45 hx hZ hown (wx hw 210) (wx hw 211) (wx hw 213) (wx hw 212) (wx hw 95) (wx hw 214) (by decide) (W := 0) (rmcse l Z a0 hw [] (A 17) (A 18) k18 t0 t1 h0 n0 Z0 P16 P17 (own_ne hA (i := 17) (j := 18) (by decide) (by decide) (by decide)) (hge 18 (by decide))) (by decide) (by decide) P15 (argsL := []) (rest := []) (by rw [hml]; rfl) (lenOf pd_4 rfl) rfl (Nat.le_of_eq rfl) (dx hby dd48 22) rfl e45 (by decide) (by decide) (fun v46 T46 Lc46 hQ46 X46 => ?_)
  obtain ⟨N46q, rfl, K46q, po46_0⟩ := hQ46
  have N46 := Fr.app N0 N46q
  have K46 : Keep h0 T46.heap [(A 18), (A 19), (A 22), (A 23), (A 24), (A 16), (A 0), (A 3), (A 5), (A 6), (A 7), (A 8), (A 9), (A 10), (A 11), (A 12), (A 13), (A 14), (A 21)] := (Keep.refl h0 [(A 18), (A 19), (A 22), (A 23), (A 24), (A 16), (A 0), (A 3), (A 5), (A 6), (A 7), (A 8), (A 9), (A 10), (A 11), (A 12), (A 13), (A 14), (A 21)]).trans K46q (allS (Or.inl (List.mem_of_getElem? (i := 0) rfl)) all0)
  have Z46 : n0 ≤ T46.heap.size := Nat.le_trans Z0 K46q.1
  refine sc X46 hx (dx hby dd48 23) ?_
  refine og (XS.istoreN X46.here hx rfl (dx hby dd48 24) rfl (l' := #[vR (A 0), vR r1, vI (0 : Int32), vU]) rfl) ?_
  have f_47 := P18.keep K46q (own_nin hA (i := 19) (l := [18]) (by decide) (by decide))
  show own_Gl _ _ _ _ (T46.setTop (mkF m 65 #[vR (A 0), vR r1, vI (0 : Int32), vU] []))
  refine own_loopH X46 (n := s0.toInt.toNat) (fun n h L Ls => ∃ (i1 : Int32) (x1 : Slot) (t2 : Int64) (t3 : Int64) (sr1 : List Value), Ls = #[vR (A 0), vR r1, vI i1, x1] ∧ Fr n0 L ∧ Keep T46.heap h [(A 18), (A 19)] ∧ Arv Z h (A 18) k18 .long (2 : Int32) [(.long t2), (.long t3)] (.long (0 : Int64)) ∧ Arv Z h (A 19) k19 .byte (105 : Int32) sr1 (.int (0 : Int32)) ∧ own_One x1 ∧ own_L1 s0 cd t2 t3 sr1 i1 n) (fun n Ta ha Lca Ls ea Xa iha hI => ?_) rfl ⟨(0 : Int32), _, _, _, _, rfl, N46, Keep.refl _ _, po46_0, f_47, Or.inl rfl, own_L1_0 (by omega) hln.1⟩
  obtain ⟨i1, x1, t2, t3, sr1, rfl, Na, Qa, Ga0, Ga1, onea, hpa⟩ := hI
  have Ka : Keep h0 ha [(A 18), (A 19), (A 22), (A 23), (A 24), (A 16), (A 0), (A 3), (A 5), (A 6), (A 7), (A 8), (A 9), (A 10), (A 11), (A 12), (A 13), (A 14), (A 21)] := K46.trans Qa (allS (Or.inl (List.mem_of_getElem? (i := 0) rfl)) (allS (Or.inl (List.mem_of_getElem? (i := 1) rfl)) all0))
  have Za : n0 ≤ ha.size := Nat.le_trans Z46 Qa.1
  refine si Xa hx (dx hby dd48 25) ?_
  refine sa Xa hx (dx hby dd48 26) ?_
  have f_49 := (P8.keep K46q (own_nin hA (i := 0) (l := [18]) (by decide) (by decide))).keep Qa (own_nin hA (i := 0) (l := [18, 19]) (by decide) (by decide))
  refine oc_getF Xa hx hZ hown (host := "") (Or.inl (wx hw 172)) Via.refl ea f_49 (dx hby dd48 27) (fun T48 X48 e48 => ?_)
  by_cases hc70_50 : i1 < s0
  · refine og (XS.icmpNo X48.here hx rfl (dx hby dd48 28) rfl (tlt hc70_50).2.1) ?_
    have hba := own_b4 hpa.1 hs.2 hc70_50
    refine sa X48 hx (dx hby dd48 29) ?_
    refine si X48 hx (dx hby dd48 30) ?_
    show own_Gl _ _ _ _ (T48.setTop (mkF m 75 #[vR (A 0), vR r1, vI i1, x1] [(.int i1), (.ref r1)]))
    have f_51 := P28.keep Ka (nb hl_r1)
    refine oc_iaload X48 hx hZ e48 f_51 hba.1 (hcv _ hba.2.1) (dx hby dd48 31) ?_
    refine og (XS.istoreNS X48.here hx rfl (dx hby dd48 32) rfl rfl onea) ?_
    refine sa X48 hx (dx hby dd48 33) ?_
    refine si X48 hx (dx hby dd48 34) ?_
    have f_53 := (P3.keep K46q (own_nin hA (i := 0) (l := [18]) (by decide) (by decide))).keep Qa (own_nin hA (i := 0) (l := [18, 19]) (by decide) (by decide))
    have f_54 := P12.keep Ka
    have f_55 := P13.keep Ka (na 15 (by decide))
    have f_56 := (P14.keep K46q (own_nin hA (i := 16) (l := [18]) (by decide) (by decide))).keep Qa (own_nin hA (i := 16) (l := [18, 19]) (by decide) (by decide))
    have f_58 := (P0.keep K46q).keep Qa
    refine oc_private X48 hx hZ hown (wx hw 278) (wx hw 280) (wx hw 74) (wx hw 279) (wx hw 75) (wx hw 281) (by decide) (W := 0) (rmpla l Z a0 hw [] (cd i1.toNatClampNeg) A k16 w0 w1 ha n0 Za f_53 f_54 f_55 f_56 (hcb.1 _ hba.2.1) (hno _ hba.2.1)) (by decide) (by decide) f_58 (argsL := [(.int (cd i1.toNatClampNeg))]) (rest := []) (by rw [hml]; rfl) (lenOf pd_0 rfl) rfl (Nat.le_of_eq rfl) (dx hby dd48 35) rfl e48 (by decide) (by decide) (fun v57 T57 Lc57 hQ57 X57 => ?_)
    obtain ⟨N57q, rfl, hq57⟩ := hQ57
    have N57 := Fr.app Na N57q
    refine og (XS.ifYes X57.here hx rfl (pc0 := 82) (pc' := 99) rfl (dx hby dd48 36) rfl ((if0 _ _).trans (feq (by decide : ¬ ((1 : Int32) = (0 : Int32)))).2) (by decide) (by decide)) ?_
    refine sa X57 hx (dx hby dd48 40) ?_
    have f_60 := (P5.keep K46q (own_nin hA (i := 0) (l := [18]) (by decide) (by decide))).keep Qa (own_nin hA (i := 0) (l := [18, 19]) (by decide) (by decide))
    refine oc_getF X57 hx hZ hown (host := "") (Or.inl (wx hw 168)) Via.refl hq57 f_60 (dx hby dd48 41) (fun T59 X59 e59 => ?_)
    refine si X59 hx (dx hby dd48 42) ?_
    have f_61 := P16.keep Ka (na 17 (by decide))
    have f_63 := P15.keep Ka
    refine oc_virtual X59 hx hZ hown (wx hw 292) (wx hw 293) (wx hw 295) (wx hw 294) (wx hw 95) (wx hw 296) (by decide) (W := 0) (rmput l Z a0 hw [] (A 17) (cd i1.toNatClampNeg) (A 18) k18 t2 t3 ha n0 Za f_61 Ga0 (own_ne hA (i := 17) (j := 18) (by decide) (by decide) (by decide)) (hge 18 (by decide)) (hcb.1 _ hba.2.1)) (by decide) (by decide) f_63 (argsL := [(.int (cd i1.toNatClampNeg))]) (rest := []) (by rw [hml]; rfl) (lenOf pd_0 rfl) rfl (Nat.le_of_eq rfl) (dx hby dd48 43) rfl e59 (by decide) (by decide) (fun v62 T62 Lc62 hQ62 X62 => ?_)
    obtain ⟨N62q, rfl, K62q, po62_0⟩ := hQ62
    have N62 := Fr.app N57 N62q
    have K62 : Keep h0 T62.heap [(A 18), (A 19), (A 22), (A 23), (A 24), (A 16), (A 0), (A 3), (A 5), (A 6), (A 7), (A 8), (A 9), (A 10), (A 11), (A 12), (A 13), (A 14), (A 21)] := Ka.trans K62q (allS (Or.inl (List.mem_of_getElem? (i := 0) rfl)) all0)
    have Z62 : n0 ≤ T62.heap.size := Nat.le_trans Za K62q.1
    have hp64 : ¬ ((fput (cd i1.toNatClampNeg) t2 t3) = (0 : Int32)) := own_TS_fput hpa.2.1 hcb hba.2.1 (fun u hu => by rw [List.mem_range] at hu; have := hba.2.1; exact ⟨by omega, by omega⟩)
    refine og (XS.ifYes X62.here hx rfl (pc0 := 107) (pc' := 124) rfl (dx hby dd48 44) rfl ((if0 _ _).trans (feq hp64).2) (by decide) (by decide)) ?_
    refine sa X62 hx (dx hby dd48 48) ?_
    have f_66 := ((P6.keep K46q (own_nin hA (i := 0) (l := [18]) (by decide) (by decide))).keep Qa (own_nin hA (i := 0) (l := [18, 19]) (by decide) (by decide))).keep K62q (own_nin hA (i := 0) (l := [18]) (by decide) (by decide))
    refine oc_getF X62 hx hZ hown (host := "") (Or.inl (wx hw 170)) Via.refl rfl f_66 (dx hby dd48 49) (fun T65 X65 e65 => ?_)
    refine si X65 hx (dx hby dd48 50) ?_
    refine si X65 hx (dx hby dd48 51) ?_
    refine og (XS.i2b X65.here hx rfl (dx hby dd48 52) rfl) ?_
    show own_Gl _ _ _ _ (T65.setTop (mkF m 131 #[vR (A 0), vR r1, vI i1, vI (cd i1.toNatClampNeg)] [(.int (i1.toInt8.toInt32)), (.int (cd i1.toNatClampNeg)), (.ref (A 19))]))
    have f_67 := Ga1.keep K62q (own_nin hA (i := 19) (l := [18]) (by decide) (by decide))
    refine oc_bastore X65 hx hZ e65 f_67 (own_bidx (hcb.1 _ hba.2.1)) (cd i1.toNatClampNeg).toNatClampNeg rfl (own_blen (hcb.1 _ hba.2.1) hpa.2.2.1) (dx hby dd48 53) (fun T68 h68 X68 e68 W68 V68 => ?_)
    have K68 : Keep h0 h68 [(A 18), (A 19), (A 22), (A 23), (A 24), (A 16), (A 0), (A 3), (A 5), (A 6), (A 7), (A 8), (A 9), (A 10), (A 11), (A 12), (A 13), (A 14), (A 21)] := K62.wr W68 (Or.inl (List.mem_of_getElem? (i := 1) rfl))
    have N68 := Fr.snoc X68 N62 (hge 19 (by decide))
    have Z68 : n0 ≤ h68.size := Nat.le_trans Z62 (Keep.of_wr W68).1
    refine og (XS.iinc X68.here hx rfl (dx hby dd48 54) rfl (l' := #[vR (A 0), vR r1, vI (i1 + (1 : Int32)), vI (cd i1.toNatClampNeg)]) rfl) ?_
    refine og (XS.goto X68.here hx rfl (pc0 := 135) (pc' := 65) rfl (dx hby dd48 55) (by decide) (by decide)) ?_
    have f_69 := po62_0.other W68 (own_ne hA (i := 18) (j := 19) (by decide) (by decide) (by decide))
    show own_Gl _ _ _ _ (T68.setTop (mkF m 65 #[vR (A 0), vR r1, vI (i1 + (1 : Int32)), vI (cd i1.toNatClampNeg)] []))
    exact iha (n - 1) hba.2.2.2 _ _ _ _ e68 X68 ⟨_, _, _, _, _, rfl, N68, ((Qa.trans K62q (allS (Or.inl (List.mem_of_getElem? (i := 0) rfl)) all0)).wr W68 (Or.inl (List.mem_of_getElem? (i := 1) rfl))), f_69, V68, Or.inr ⟨_, rfl, rfl⟩, own_L1_s hpa hs.2 hcb hc70_50⟩
  · refine og (XS.icmpYes X48.here hx rfl (pc0 := 70) (pc' := 138) rfl (dx hby dd48 28) rfl (flt hc70_50).2.1 (by decide) (by decide)) ?_
    have hi1 : s0 = i1 := own_ieq hpa.1 hc70_50
    refine sc X48 hx (dx hby dd48 56) ?_
    refine og (XS.istoreN X48.here hx rfl (dx hby dd48 57) rfl (l' := #[vR (A 0), vR r1, vI (0 : Int32), x1]) rfl) ?_
    have f_70 := (P23.keep K46q (own_nin hA (i := 22) (l := [18]) (by decide) (by decide))).keep Qa (own_nin hA (i := 22) (l := [18, 19]) (by decide) (by decide))
    show own_Gl _ _ _ _ (T48.setTop (mkF m 140 #[vR (A 0), vR r1, vI (0 : Int32), x1] []))
    refine own_loopH X48 (n := s0.toInt.toNat) (fun n h L Ls => ∃ (i2 : Int32) (x2 : Slot) (t4 : Int64) (t5 : Int64) (os2 : List Value) (ee : Nat → Nat) (ll : List Nat), Ls = #[vR (A 0), vR r1, vI i2, x2] ∧ Fr n0 L ∧ Keep ha h [(A 18), (A 22)] ∧ Arv Z h (A 18) k18 .long (2 : Int32) [(.long t4), (.long t5)] (.long (0 : Int64)) ∧ Arv Z h (A 22) k22 .int s0 os2 (.int (0 : Int32)) ∧ own_One x2 ∧ own_L2 s0 cd t4 t5 os2 ee ll i2 n) (fun n Tb hb Lcb Ls eb Xb ihb hI => ?_) e48 ⟨(0 : Int32), _, _, _, _, _, _, rfl, Na, Keep.refl _ _, Ga0, f_70, onea, own_L2_0 hpa hc70_50 hln.2.1⟩
    obtain ⟨i2, x2, t4, t5, os2, ee, ll, rfl, Nb, Qb, Gb0, Gb1, oneb, hpb⟩ := hI
    have Kb : Keep h0 hb [(A 18), (A 19), (A 22), (A 23), (A 24), (A 16), (A 0), (A 3), (A 5), (A 6), (A 7), (A 8), (A 9), (A 10), (A 11), (A 12), (A 13), (A 14), (A 21)] := Ka.trans Qb (allS (Or.inl (List.mem_of_getElem? (i := 0) rfl)) (allS (Or.inl (List.mem_of_getElem? (i := 2) rfl)) all0))
    have Zb : n0 ≤ hb.size := Nat.le_trans Za Qb.1
    refine si Xb hx (dx hby dd48 58) ?_
    refine sa Xb hx (dx hby dd48 59) ?_
    have f_72 := f_49.keep Qb (own_nin hA (i := 0) (l := [18, 22]) (by decide) (by decide))
    refine oc_getF Xb hx hZ hown (host := "") (Or.inl (wx hw 172)) Via.refl eb f_72 (dx hby dd48 60) (fun T71 X71 e71 => ?_)
    by_cases hc145_73 : i2 < s0
    · refine og (XS.icmpNo X71.here hx rfl (dx hby dd48 61) rfl (tlt hc145_73).2.1) ?_
      have hbb := own_b4 hpb.1 hs.2 hc145_73
      obtain ⟨hne2, tt, htt, hfl, hl2⟩ := own_L2_s hpb hs.2 hcb hc145_73
      refine sa X71 hx (dx hby dd48 62) ?_
      have f_75 := ((P5.keep K46q (own_nin hA (i := 0) (l := [18]) (by decide) (by decide))).keep Qa (own_nin hA (i := 0) (l := [18, 19]) (by decide) (by decide))).keep Qb (own_nin hA (i := 0) (l := [18, 22]) (by decide) (by decide))
      refine oc_getF X71 hx hZ hown (host := "") (Or.inl (wx hw 168)) Via.refl e71 f_75 (dx hby dd48 63) (fun T74 X74 e74 => ?_)
      have f_76 := P16.keep Kb (na 17 (by decide))
      have f_78 := P15.keep Kb
      refine oc_virtual X74 hx hZ hown (wx hw 352) (wx hw 353) (wx hw 355) (wx hw 354) (wx hw 95) (wx hw 356) (by decide) (W := 0) (rmlow l Z a0 hw [] (A 17) (A 18) k18 t4 t5 hb n0 Zb f_76 Gb0 hne2) (by decide) (by decide) f_78 (argsL := []) (rest := []) (by rw [hml]; rfl) (lenOf pd_16 rfl) rfl (Nat.le_of_eq rfl) (dx hby dd48 64) rfl e74 (by decide) (by decide) (fun v77 T77 Lc77 hQ77 X77 => ?_)
      obtain ⟨N77q, rfl, hq77⟩ := hQ77
      have N77 := Fr.app Nb N77q
      show own_Gl _ _ _ _ (T77.setTop (mkF m 155 #[vR (A 0), vR r1, vI i2, x2] [(.int (flow t4 t5))]))
      rw [hfl]
      refine og (XS.istoreNS X77.here hx rfl (dx hby dd48 65) rfl rfl oneb) ?_
      refine sa X77 hx (dx hby dd48 66) ?_
      refine oc_getF X77 hx hZ hown (host := "") (Or.inl (wx hw 168)) Via.refl hq77 f_75 (dx hby dd48 67) (fun T79 X79 e79 => ?_)
      refine si X79 hx (dx hby dd48 68) ?_
      refine oc_virtual X79 hx hZ hown (wx hw 365) (wx hw 366) (wx hw 368) (wx hw 367) (wx hw 95) (wx hw 369) (by decide) (W := 0) (rmtout l Z a0 hw [] (A 17) (cd tt) (A 18) k18 t4 t5 hb n0 Zb f_78 f_76 Gb0 (own_ne hA (i := 17) (j := 18) (by decide) (by decide) (by decide)) (hge 18 (by decide))) (by decide) (by decide) f_78 (argsL := [(.int (cd tt))]) (rest := []) (by rw [hml]; rfl) (lenOf pd_0 rfl) rfl (Nat.le_of_eq rfl) (dx hby dd48 69) rfl e79 (by decide) (by decide) (fun v80 T80 Lc80 hQ80 X80 => ?_)
      obtain ⟨N80q, rfl, K80q, po80_0⟩ := hQ80
      have N80 := Fr.app N77 N80q
      have K80 : Keep h0 T80.heap [(A 18), (A 19), (A 22), (A 23), (A 24), (A 16), (A 0), (A 3), (A 5), (A 6), (A 7), (A 8), (A 9), (A 10), (A 11), (A 12), (A 13), (A 14), (A 21)] := Kb.trans K80q (allS (Or.inl (List.mem_of_getElem? (i := 0) rfl)) all0)
      have Z80 : n0 ≤ T80.heap.size := Nat.le_trans Zb K80q.1
      refine og (XS.pop X80.here hx rfl (dx hby dd48 70) rfl rfl) ?_
      refine sa X80 hx (dx hby dd48 71) ?_
      have f_82 := (((P4.keep K46q (own_nin hA (i := 0) (l := [18]) (by decide) (by decide))).keep Qa (own_nin hA (i := 0) (l := [18, 19]) (by decide) (by decide))).keep Qb (own_nin hA (i := 0) (l := [18, 22]) (by decide) (by decide))).keep K80q (own_nin hA (i := 0) (l := [18]) (by decide) (by decide))
      refine oc_getF X80 hx hZ hown (host := "") (Or.inl (wx hw 185)) Via.refl rfl f_82 (dx hby dd48 72) (fun T81 X81 e81 => ?_)
      refine si X81 hx (dx hby dd48 73) ?_
      refine sa X81 hx (dx hby dd48 74) ?_
      have f_84 := (((P6.keep K46q (own_nin hA (i := 0) (l := [18]) (by decide) (by decide))).keep Qa (own_nin hA (i := 0) (l := [18, 19]) (by decide) (by decide))).keep Qb (own_nin hA (i := 0) (l := [18, 22]) (by decide) (by decide))).keep K80q (own_nin hA (i := 0) (l := [18]) (by decide) (by decide))
      refine oc_getF X81 hx hZ hown (host := "") (Or.inl (wx hw 170)) Via.refl e81 f_84 (dx hby dd48 75) (fun T83 X83 e83 => ?_)
      refine si X83 hx (dx hby dd48 76) ?_
      show own_Gl _ _ _ _ (T83.setTop (mkF m 175 #[vR (A 0), vR r1, vI i2, vI (cd tt)] [(.int (cd tt)), (.ref (A 19)), (.int i2), (.ref (A 22))]))
      have f_85 := (Ga1.keep Qb (own_nin hA (i := 19) (l := [18, 22]) (by decide) (by decide))).keep K80q (own_nin hA (i := 19) (l := [18]) (by decide) (by decide))
      refine oc_baload X83 hx hZ e83 f_85 (own_bidx (hcb.1 _ htt)) (hpa.2.2.2 tt (by rw [← hi1]; exact htt)) (dx hby dd48 77) ?_
      show own_Gl _ _ _ _ (T83.setTop (mkF m 176 #[vR (A 0), vR r1, vI i2, vI (cd tt)] [(.int (Int32.ofInt (tt : Int))), (.int i2), (.ref (A 22))]))
      have f_87 := Gb1.keep K80q (own_nin hA (i := 22) (l := [18]) (by decide) (by decide))
      refine oc_iastore X83 hx hZ e83 f_87 hbb.1 i2.toNatClampNeg rfl (Nat.lt_of_lt_of_le hbb.2.2.1 hpb.2.2.2.2.2.1) (dx hby dd48 78) (fun T88 h88 X88 e88 W88 V88 => ?_)
      have K88 : Keep h0 h88 [(A 18), (A 19), (A 22), (A 23), (A 24), (A 16), (A 0), (A 3), (A 5), (A 6), (A 7), (A 8), (A 9), (A 10), (A 11), (A 12), (A 13), (A 14), (A 21)] := K80.wr W88 (Or.inl (List.mem_of_getElem? (i := 2) rfl))
      have N88 := Fr.snoc X88 N80 (hge 22 (by decide))
      have Z88 : n0 ≤ h88.size := Nat.le_trans Z80 (Keep.of_wr W88).1
      refine og (XS.iinc X88.here hx rfl (dx hby dd48 79) rfl (l' := #[vR (A 0), vR r1, vI (i2 + (1 : Int32)), vI (cd tt)]) rfl) ?_
      refine og (XS.goto X88.here hx rfl (pc0 := 180) (pc' := 140) rfl (dx hby dd48 80) (by decide) (by decide)) ?_
      have f_89 := po80_0.other W88 (own_ne hA (i := 18) (j := 22) (by decide) (by decide) (by decide))
      show own_Gl _ _ _ _ (T88.setTop (mkF m 140 #[vR (A 0), vR r1, vI (i2 + (1 : Int32)), vI (cd tt)] []))
      exact ihb (n - 1) hbb.2.2.2 _ _ _ _ e88 X88 ⟨_, _, _, _, _, _, _, rfl, N88, ((Qb.trans K80q (allS (Or.inl (List.mem_of_getElem? (i := 0) rfl)) all0)).wr W88 (Or.inl (List.mem_of_getElem? (i := 1) rfl))), f_89, V88, Or.inr ⟨_, rfl, rfl⟩, hl2⟩
    · refine og (XS.icmpYes X71.here hx rfl (pc0 := 145) (pc' := 183) rfl (dx hby dd48 61) rfl (flt hc145_73).2.1 (by decide) (by decide)) ?_
      refine sa X71 hx (dx hby dd48 81) ?_
      have f_91 := ((P7.keep K46q (own_nin hA (i := 0) (l := [18]) (by decide) (by decide))).keep Qa (own_nin hA (i := 0) (l := [18, 19]) (by decide) (by decide))).keep Qb (own_nin hA (i := 0) (l := [18, 22]) (by decide) (by decide))
      refine oc_getF X71 hx hZ hown (host := "") (Or.inl (wx hw 187)) Via.refl e71 f_91 (dx hby dd48 82) (fun T90 X90 e90 => ?_)
      have f_92 := ((P24.keep K46q).keep Qa).keep Qb
      have f_93 := ((P25.keep K46q (own_nin hA (i := 23) (l := [18]) (by decide) (by decide))).keep Qa (own_nin hA (i := 23) (l := [18, 19]) (by decide) (by decide))).keep Qb (own_nin hA (i := 23) (l := [18, 22]) (by decide) (by decide))
      have f_94 := ((P26.keep K46q (own_nin hA (i := 23) (l := [18]) (by decide) (by decide))).keep Qa (own_nin hA (i := 23) (l := [18, 19]) (by decide) (by decide))).keep Qb (own_nin hA (i := 23) (l := [18, 22]) (by decide) (by decide))
      refine oc_virtual X90 hx hZ hown (wx hw 215) (wx hw 216) (wx hw 218) (wx hw 217) (wx hw 111) (wx hw 219) (by decide) (W := 0) (rmile l Z a0 hw [] (A 23) (A 24) n23 hb n0 Zb f_92 f_93 f_94 (hge 23 (by decide))) (by decide) (by decide) f_92 (argsL := []) (rest := []) (by rw [hml]; rfl) (lenOf pd_4 rfl) rfl (Nat.le_of_eq rfl) (dx hby dd48 83) rfl e90 (by decide) (by decide) (fun v95 T95 Lc95 hQ95 X95 => ?_)
      obtain ⟨N95q, rfl, K95q, po95_0, po95_1⟩ := hQ95
      have N95 := Fr.app Nb N95q
      have K95 : Keep h0 T95.heap [(A 18), (A 19), (A 22), (A 23), (A 24), (A 16), (A 0), (A 3), (A 5), (A 6), (A 7), (A 8), (A 9), (A 10), (A 11), (A 12), (A 13), (A 14), (A 21)] := Kb.trans K95q (allS (Or.inl (List.mem_of_getElem? (i := 3) rfl)) all0)
      have Z95 : n0 ≤ T95.heap.size := Nat.le_trans Zb K95q.1
      refine sc X95 hx (dx hby dd48 84) ?_
      refine og (XS.istoreN X95.here hx rfl (dx hby dd48 85) rfl (l' := #[vR (A 0), vR r1, vI (0 : Int32), x2]) rfl) ?_
      have f_96 := (((P27.keep K46q (own_nin hA (i := 24) (l := [18]) (by decide) (by decide))).keep Qa (own_nin hA (i := 24) (l := [18, 19]) (by decide) (by decide))).keep Qb (own_nin hA (i := 24) (l := [18, 22]) (by decide) (by decide))).keep K95q (own_nin hA (i := 24) (l := [23]) (by decide) (by decide))
      have f_97 := (((P14.keep K46q (own_nin hA (i := 16) (l := [18]) (by decide) (by decide))).keep Qa (own_nin hA (i := 16) (l := [18, 19]) (by decide) (by decide))).keep Qb (own_nin hA (i := 16) (l := [18, 22]) (by decide) (by decide))).keep K95q (own_nin hA (i := 16) (l := [23]) (by decide) (by decide))
      show own_Gl _ _ _ _ (T95.setTop (mkF m 192 #[vR (A 0), vR r1, vI (0 : Int32), x2] []))
      refine own_loopH X95 (n := s0.toInt.toNat) (fun n h L Ls => ∃ (i3 : Int32) (x3 : Slot) (rv3 : List Value) (q2 : Int64) (q3 : Int64), Ls = #[vR (A 0), vR r1, vI i3, x3] ∧ Fr n0 L ∧ Keep T95.heap h [(A 23), (A 24), (A 16)] ∧ Fld Z h (A 23) "com/example/sixfold/sixfold/rows/IntList" "values" "[I" (.ref (A 24)) ∧ Fld Z h (A 23) "com/example/sixfold/sixfold/rows/IntList" "size" "I" (.int i3) ∧ Arv Z h (A 24) k24 .int s0 rv3 (.int (0 : Int32)) ∧ Arv Z h (A 16) k16 .long (2 : Int32) [(.long q2), (.long q3)] (.long (0 : Int64)) ∧ own_One x3 ∧ own_L3 s0 cd rv3 i3 n) (fun n Tc hc Lcc Ls ec Xc ihc hI => ?_) rfl ⟨(0 : Int32), _, _, _, _, rfl, N95, Keep.refl _ _, po95_0, po95_1, f_96, f_97, oneb, own_L3_0 (by omega) hln.2.2.1⟩
      obtain ⟨i3, x3, rv3, q2, q3, rfl, Nc, Qc, Gc0, Gc1, Gc2, Gc3, onec, hpc⟩ := hI
      have Kc : Keep h0 hc [(A 18), (A 19), (A 22), (A 23), (A 24), (A 16), (A 0), (A 3), (A 5), (A 6), (A 7), (A 8), (A 9), (A 10), (A 11), (A 12), (A 13), (A 14), (A 21)] := K95.trans Qc (allS (Or.inl (List.mem_of_getElem? (i := 3) rfl)) (allS (Or.inl (List.mem_of_getElem? (i := 4) rfl)) (allS (Or.inl (List.mem_of_getElem? (i := 5) rfl)) all0)))
      have Zc : n0 ≤ hc.size := Nat.le_trans Z95 Qc.1
      refine si Xc hx (dx hby dd48 86) ?_
      refine sa Xc hx (dx hby dd48 87) ?_
      have f_99 := (f_72.keep K95q (own_nin hA (i := 0) (l := [23]) (by decide) (by decide))).keep Qc (own_nin hA (i := 0) (l := [23, 24, 16]) (by decide) (by decide))
      refine oc_getF Xc hx hZ hown (host := "") (Or.inl (wx hw 172)) Via.refl ec f_99 (dx hby dd48 88) (fun T98 X98 e98 => ?_)
      by_cases hc197_100 : i3 < s0
      · refine og (XS.icmpNo X98.here hx rfl (dx hby dd48 89) rfl (tlt hc197_100).2.1) ?_
        have hbc := own_b4 hpc.1 hs.2 hc197_100
        refine sa X98 hx (dx hby dd48 90) ?_
        have f_102 := (f_91.keep K95q (own_nin hA (i := 0) (l := [23]) (by decide) (by decide))).keep Qc (own_nin hA (i := 0) (l := [23, 24, 16]) (by decide) (by decide))
        refine oc_getF X98 hx hZ hown (host := "") (Or.inl (wx hw 187)) Via.refl e98 f_102 (dx hby dd48 91) (fun T101 X101 e101 => ?_)
        refine sa X101 hx (dx hby dd48 92) ?_
        refine si X101 hx (dx hby dd48 93) ?_
        show own_Gl _ _ _ _ (T101.setTop (mkF m 206 #[vR (A 0), vR r1, vI i3, x3] [(.int i3), (.ref r1), (.ref (A 23))]))
        have f_103 := P28.keep Kc (nb hl_r1)
        refine oc_iaload X101 hx hZ e101 f_103 hbc.1 (hcv _ hbc.2.1) (dx hby dd48 94) ?_
        have f_105 := (f_92.keep K95q).keep Qc
        refine oc_virtual X101 hx hZ hown (wx hw 178) (wx hw 179) (wx hw 181) (wx hw 180) (wx hw 111) (wx hw 182) (by decide) (W := 0) (rmapp l Z a0 hw [] (A 23) (cd i3.toNatClampNeg) (A 24) k24 s0 i3 rv3 hc n0 Zc f_105 Gc0 Gc1 Gc2 (own_ne hA (i := 23) (j := 24) (by decide) (by decide) (by decide)) (hge 23 (by decide)) (hge 24 (by decide)) hbc.1 (Nat.lt_of_lt_of_le hbc.2.2.1 hpc.2.1)) (by decide) (by decide) f_105 (argsL := [(.int (cd i3.toNatClampNeg))]) (rest := []) (by rw [hml]; rfl) (lenOf pd_14 rfl) rfl (Nat.le_of_eq rfl) (dx hby dd48 95) rfl e101 (by decide) (by decide) (fun v106 T106 Lc106 hQ106 X106 => ?_)
        obtain ⟨N106q, rfl, K106q, po106_0, po106_1, po106_2⟩ := hQ106
        have N106 := Fr.app Nc N106q
        have K106 : Keep h0 T106.heap [(A 18), (A 19), (A 22), (A 23), (A 24), (A 16), (A 0), (A 3), (A 5), (A 6), (A 7), (A 8), (A 9), (A 10), (A 11), (A 12), (A 13), (A 14), (A 21)] := Kc.trans K106q (allS (Or.inl (List.mem_of_getElem? (i := 3) rfl)) (allS (Or.inl (List.mem_of_getElem? (i := 4) rfl)) all0))
        have Z106 : n0 ≤ T106.heap.size := Nat.le_trans Zc K106q.1
        refine sa X106 hx (dx hby dd48 96) ?_
        have f_108 := (((((P3.keep K46q (own_nin hA (i := 0) (l := [18]) (by decide) (by decide))).keep Qa (own_nin hA (i := 0) (l := [18, 19]) (by decide) (by decide))).keep Qb (own_nin hA (i := 0) (l := [18, 22]) (by decide) (by decide))).keep K95q (own_nin hA (i := 0) (l := [23]) (by decide) (by decide))).keep Qc (own_nin hA (i := 0) (l := [23, 24, 16]) (by decide) (by decide))).keep K106q (own_nin hA (i := 0) (l := [23, 24]) (by decide) (by decide))
        refine oc_getF X106 hx hZ hown (host := "") (Or.inl (wx hw 166)) Via.refl rfl f_108 (dx hby dd48 97) (fun T107 X107 e107 => ?_)
        refine sa X107 hx (dx hby dd48 98) ?_
        refine si X107 hx (dx hby dd48 99) ?_
        show own_Gl _ _ _ _ (T107.setTop (mkF m 216 #[vR (A 0), vR r1, vI i3, x3] [(.int i3), (.ref r1), (.ref (A 15))]))
        have f_109 := P28.keep K106 (nb hl_r1)
        refine oc_iaload X107 hx hZ e107 f_109 hbc.1 (hcv _ hbc.2.1) (dx hby dd48 100) ?_
        have f_111 := P13.keep K106 (na 15 (by decide))
        have f_112 := Gc3.keep K106q (own_nin hA (i := 16) (l := [23, 24]) (by decide) (by decide))
        have f_114 := P12.keep K106
        refine oc_virtual X107 hx hZ hown (wx hw 292) (wx hw 293) (wx hw 295) (wx hw 294) (wx hw 95) (wx hw 296) (by decide) (W := 0) (rmput l Z a0 hw [] (A 15) (cd i3.toNatClampNeg) (A 16) k16 q2 q3 T106.heap n0 Z106 f_111 f_112 (own_ne hA (i := 15) (j := 16) (by decide) (by decide) (by decide)) (hge 16 (by decide)) (hcb.1 _ hbc.2.1)) (by decide) (by decide) f_114 (argsL := [(.int (cd i3.toNatClampNeg))]) (rest := []) (by rw [hml]; rfl) (lenOf pd_0 rfl) rfl (Nat.le_of_eq rfl) (dx hby dd48 101) rfl e107 (by decide) (by decide) (fun v113 T113 Lc113 hQ113 X113 => ?_)
        obtain ⟨N113q, rfl, K113q, po113_0⟩ := hQ113
        have N113 := Fr.app N106 N113q
        have K113 : Keep h0 T113.heap [(A 18), (A 19), (A 22), (A 23), (A 24), (A 16), (A 0), (A 3), (A 5), (A 6), (A 7), (A 8), (A 9), (A 10), (A 11), (A 12), (A 13), (A 14), (A 21)] := K106.trans K113q (allS (Or.inl (List.mem_of_getElem? (i := 5) rfl)) all0)
        have Z113 : n0 ≤ T113.heap.size := Nat.le_trans Z106 K113q.1
        refine og (XS.pop X113.here hx rfl (dx hby dd48 102) rfl rfl) ?_
        refine og (XS.iinc X113.here hx rfl (dx hby dd48 103) rfl (l' := #[vR (A 0), vR r1, vI (i3 + (1 : Int32)), x3]) rfl) ?_
        refine og (XS.goto X113.here hx rfl (pc0 := 224) (pc' := 192) rfl (dx hby dd48 104) (by decide) (by decide)) ?_
        have f_115 := po106_0.keep K113q (own_nin hA (i := 23) (l := [16]) (by decide) (by decide))
        have f_116 := po106_1.keep K113q (own_nin hA (i := 23) (l := [16]) (by decide) (by decide))
        have f_117 := po106_2.keep K113q (own_nin hA (i := 24) (l := [16]) (by decide) (by decide))
        show own_Gl _ _ _ _ (T113.setTop (mkF m 192 #[vR (A 0), vR r1, vI (i3 + (1 : Int32)), x3] []))
        exact ihc (n - 1) hbc.2.2.2 _ _ _ _ rfl X113 ⟨_, _, _, _, _, rfl, N113, ((Qc.trans K106q (allS (Or.inl (List.mem_of_getElem? (i := 0) rfl)) (allS (Or.inl (List.mem_of_getElem? (i := 1) rfl)) all0))).trans K113q (allS (Or.inl (List.mem_of_getElem? (i := 2) rfl)) all0)), f_115, f_116, f_117, po113_0, onec, own_L3_s hpc hs.2 hc197_100⟩
      · refine og (XS.icmpYes X98.here hx rfl (pc0 := 197) (pc' := 227) rfl (dx hby dd48 89) rfl (flt hc197_100).2.1 (by decide) (by decide)) ?_
        have hPO := own_PO_of hpb hc145_73 hpc hc197_100 hs.2 hcb
        have hmin := own_L2_min hpb hc145_73 (by omega)
        have hi3 : s0 = i3 := own_ieq hpc.1 hc197_100
        have hPO0 := hPO 0 (Nat.le_refl _) (by simp only [Int32.toNatClampNeg]; omega)
        have z0 : (0 : Int32).toInt = 0 := rfl
        show own_Gl _ _ _ _ (T98.setTop (mkF m 227 #[vR (A 0), vR r1, vI i3, x3] []))
        subst hi3
        refine sa X98 hx (dx hby dd48 105) ?_
        refine sc X98 hx (dx hby dd48 106) ?_
        show own_Gl _ _ _ _ (T98.setTop (mkF m 229 #[vR (A 0), vR r1, vI s0, x3] [(.int (0 : Int32)), (.ref (A 0))]))
        have f_118 := ((((P9.keep K46q (own_nin hA (i := 0) (l := [18]) (by decide) (by decide))).keep Qa (own_nin hA (i := 0) (l := [18, 19]) (by decide) (by decide))).keep Qb (own_nin hA (i := 0) (l := [18, 22]) (by decide) (by decide))).keep K95q (own_nin hA (i := 0) (l := [23]) (by decide) (by decide))).keep Qc (own_nin hA (i := 0) (l := [23, 24, 16]) (by decide) (by decide))
        have f_119 := ((((P0.keep K46q).keep Qa).keep Qb).keep K95q).keep Qc
        refine oc_putF X98 hx hZ hown (host := "") (Or.inl (wx hw 189)) Via.refl e98 f_118 f_119 (Or.inl (wx hw 190)) (wx hw 74) (ty := .int) (by decide) rfl rfl (dx hby dd48 107) (fun T120 h120 X120 e120 W120 => ?_)
        have Fw120 : Fld Z h120 (A 0) "com/example/sixfold/sixfold/rows/Table" "placed" "I" (.int (0 : Int32)) := f_118.same W120
        have K120 : Keep h0 h120 [(A 18), (A 19), (A 22), (A 23), (A 24), (A 16), (A 0), (A 3), (A 5), (A 6), (A 7), (A 8), (A 9), (A 10), (A 11), (A 12), (A 13), (A 14), (A 21)] := Kc.wr W120 (Or.inl (List.mem_of_getElem? (i := 6) rfl))
        have N120 := Fr.snoc X120 Nc (hge 0 (by decide))
        have Z120 : n0 ≤ h120.size := Nat.le_trans Zc (Keep.of_wr W120).1
        refine sa X120 hx (dx hby dd48 108) ?_
        show own_Gl _ _ _ _ (T120.setTop (mkF m 233 #[vR (A 0), vR r1, vI s0, x3] [(.ref (A 0))]))
        by_cases hc233_121 : Q
        · have f_122 := f_119.wr W120
          have f_123 := (((((P1.keep K46q (own_nin hA (i := 0) (l := [18]) (by decide) (by decide))).keep Qa (own_nin hA (i := 0) (l := [18, 19]) (by decide) (by decide))).keep Qb (own_nin hA (i := 0) (l := [18, 22]) (by decide) (by decide))).keep K95q (own_nin hA (i := 0) (l := [23]) (by decide) (by decide))).keep Qc (own_nin hA (i := 0) (l := [23, 24, 16]) (by decide) (by decide))).other W120 (Or.inr (own_sn (Or.inr (wx hw 163)) (Or.inl (wx hw 190))))
          have f_124 := ((f_91.keep K95q (own_nin hA (i := 0) (l := [23]) (by decide) (by decide))).keep Qc (own_nin hA (i := 0) (l := [23, 24, 16]) (by decide) (by decide))).other W120 (Or.inr (own_sn (Or.inr (wx hw 188)) (Or.inl (wx hw 190))))
          have f_125 := (((((P2.keep K46q (own_nin hA (i := 0) (l := [18]) (by decide) (by decide))).keep Qa (own_nin hA (i := 0) (l := [18, 19]) (by decide) (by decide))).keep Qb (own_nin hA (i := 0) (l := [18, 22]) (by decide) (by decide))).keep K95q (own_nin hA (i := 0) (l := [23]) (by decide) (by decide))).keep Qc (own_nin hA (i := 0) (l := [23, 24, 16]) (by decide) (by decide))).other W120 (Or.inr (own_sn (Or.inr (wx hw 177)) (Or.inl (wx hw 190))))
          have f_126 : own_RWB Z h120 A lo b P := (own_RWB_keep hA (own_RWB_keep hA (own_RWB_keep hA (own_RWB_keep hA (own_RWB_keep hA (own_RWB_keep hA P10 (l := [18]) K46q (by decide)) (l := [18, 19]) Qa (by decide)) (l := [18, 22]) Qb (by decide)) (l := [23]) K95q (by decide)) (l := [23, 24, 16]) Qc (by decide)) (l := [0]) (Keep.of_wr W120) (by decide))
          have f_127 := P11.keep K120 ng
          have f_128 := ((f_92.keep K95q).keep Qc).wr W120
          have f_129 := Gc0.other W120 (Or.inl (own_ne hA (i := 23) (j := 0) (by decide) (by decide) (by decide)))
          have f_130 := Gc1.other W120 (Or.inl (own_ne hA (i := 23) (j := 0) (by decide) (by decide) (by decide)))
          have f_131 := Gc2.other W120 (own_ne hA (i := 24) (j := 0) (by decide) (by decide) (by decide))
          have f_132 := P19.keep K120
          have f_133 := P20.keep K120 (na 20 (by decide))
          have f_134 := P21.keep K120 (na 20 (by decide))
          have f_135 := (((((P22.keep K46q (own_nin hA (i := 21) (l := [18]) (by decide) (by decide))).keep Qa (own_nin hA (i := 21) (l := [18, 19]) (by decide) (by decide))).keep Qb (own_nin hA (i := 21) (l := [18, 22]) (by decide) (by decide))).keep K95q (own_nin hA (i := 21) (l := [23]) (by decide) (by decide))).keep Qc (own_nin hA (i := 21) (l := [23, 24, 16]) (by decide) (by decide))).other W120 (own_ne hA (i := 21) (j := 0) (by decide) (by decide) (by decide))
          have f_136 := f_99.other W120 (Or.inr (own_sn (Or.inr (wx hw 173)) (Or.inl (wx hw 190))))
          have f_137 := (((((P4.keep K46q (own_nin hA (i := 0) (l := [18]) (by decide) (by decide))).keep Qa (own_nin hA (i := 0) (l := [18, 19]) (by decide) (by decide))).keep Qb (own_nin hA (i := 0) (l := [18, 22]) (by decide) (by decide))).keep K95q (own_nin hA (i := 0) (l := [23]) (by decide) (by decide))).keep Qc (own_nin hA (i := 0) (l := [23, 24, 16]) (by decide) (by decide))).other W120 (Or.inr (own_sn (Or.inr (wx hw 186)) (Or.inl (wx hw 190))))
          have f_138 := ((Gb1.keep K95q (own_nin hA (i := 22) (l := [23]) (by decide) (by decide))).keep Qc (own_nin hA (i := 22) (l := [23, 24, 16]) (by decide) (by decide))).other W120 (own_ne hA (i := 22) (j := 0) (by decide) (by decide) (by decide))
          refine oc_private X120 hx hZ hown (wx hw 371) (wx hw 373) (wx hw 74) (wx hw 372) (wx hw 75) (wx hw 374) (by decide) (W := 0) (rmpoA l Z a0 hw [] A lo b P hd kH hv k24 s0 rv3 (cd (ee 0)) k21 s0 vt s0 k22 os2 (Int32.ofInt (ee 0 : Int)) h120 n0 Z120 f_122 f_123 f_124 f_125 f_126 f_127 f_128 f_129 f_130 f_131 f_132 f_133 f_134 f_135 Fw120 f_136 f_137 f_138 hA hge (by rw [Int32.lt_iff_toInt_lt]; omega) hPO0.1 hPO0.2.1 hPO0.2.2.1 hPO0.2.2.1 hPO0.2.2.2.2.1 hPO0.2.2.2.2.2.1 (fun w0 w1 hp => hQA hc233_121 w0 w1 hp _ hPO0.2.2.2.2.2.1 hmin.2) hS hV hints) (by decide) (by decide) f_122 (argsL := []) (rest := []) (by rw [hml]; rfl) (lenOf pd_4 rfl) rfl (Nat.le_of_eq rfl) (dx hby dd48 109) rfl e120 (by decide) (by decide) (fun v139 T139 Lc139 hQ139 X139 => ?_)
          obtain ⟨N139q, rfl, hq139⟩ := hQ139
          have N139 := Fr.app N120 N139q
          exact own_retV X139 hx hret hlk (dx hby dd48 110) hq139 (by decide) (by decide) ⟨N139, (0 : Int32), os2, rv3, ee, rfl, K120, Fw120, f_136, ⟨fun _ => ⟨f_126, f_123, f_125, f_137, f_124, f_135, f_138, f_129, f_130, f_131, hPO, rfl⟩, fun q => absurd hc233_121 q, hmin⟩⟩
        · have f_140 := f_119.wr W120
          have f_141 := (((((P1.keep K46q (own_nin hA (i := 0) (l := [18]) (by decide) (by decide))).keep Qa (own_nin hA (i := 0) (l := [18, 19]) (by decide) (by decide))).keep Qb (own_nin hA (i := 0) (l := [18, 22]) (by decide) (by decide))).keep K95q (own_nin hA (i := 0) (l := [23]) (by decide) (by decide))).keep Qc (own_nin hA (i := 0) (l := [23, 24, 16]) (by decide) (by decide))).other W120 (Or.inr (own_sn (Or.inr (wx hw 163)) (Or.inl (wx hw 190))))
          have f_142 := ((f_91.keep K95q (own_nin hA (i := 0) (l := [23]) (by decide) (by decide))).keep Qc (own_nin hA (i := 0) (l := [23, 24, 16]) (by decide) (by decide))).other W120 (Or.inr (own_sn (Or.inr (wx hw 188)) (Or.inl (wx hw 190))))
          have f_143 := (((((P2.keep K46q (own_nin hA (i := 0) (l := [18]) (by decide) (by decide))).keep Qa (own_nin hA (i := 0) (l := [18, 19]) (by decide) (by decide))).keep Qb (own_nin hA (i := 0) (l := [18, 22]) (by decide) (by decide))).keep K95q (own_nin hA (i := 0) (l := [23]) (by decide) (by decide))).keep Qc (own_nin hA (i := 0) (l := [23, 24, 16]) (by decide) (by decide))).other W120 (Or.inr (own_sn (Or.inr (wx hw 177)) (Or.inl (wx hw 190))))
          have f_144 : own_RWB Z h120 A lo b P := (own_RWB_keep hA (own_RWB_keep hA (own_RWB_keep hA (own_RWB_keep hA (own_RWB_keep hA (own_RWB_keep hA P10 (l := [18]) K46q (by decide)) (l := [18, 19]) Qa (by decide)) (l := [18, 22]) Qb (by decide)) (l := [23]) K95q (by decide)) (l := [23, 24, 16]) Qc (by decide)) (l := [0]) (Keep.of_wr W120) (by decide))
          have f_145 := P11.keep K120 ng
          have f_146 := ((f_92.keep K95q).keep Qc).wr W120
          have f_147 := Gc0.other W120 (Or.inl (own_ne hA (i := 23) (j := 0) (by decide) (by decide) (by decide)))
          have f_148 := Gc1.other W120 (Or.inl (own_ne hA (i := 23) (j := 0) (by decide) (by decide) (by decide)))
          have f_149 := Gc2.other W120 (own_ne hA (i := 24) (j := 0) (by decide) (by decide) (by decide))
          have f_150 := P19.keep K120
          have f_151 := P20.keep K120 (na 20 (by decide))
          have f_152 := P21.keep K120 (na 20 (by decide))
          have f_153 := (((((P22.keep K46q (own_nin hA (i := 21) (l := [18]) (by decide) (by decide))).keep Qa (own_nin hA (i := 21) (l := [18, 19]) (by decide) (by decide))).keep Qb (own_nin hA (i := 21) (l := [18, 22]) (by decide) (by decide))).keep K95q (own_nin hA (i := 21) (l := [23]) (by decide) (by decide))).keep Qc (own_nin hA (i := 21) (l := [23, 24, 16]) (by decide) (by decide))).other W120 (own_ne hA (i := 21) (j := 0) (by decide) (by decide) (by decide))
          have f_154 := f_99.other W120 (Or.inr (own_sn (Or.inr (wx hw 173)) (Or.inl (wx hw 190))))
          have f_155 := (((((P4.keep K46q (own_nin hA (i := 0) (l := [18]) (by decide) (by decide))).keep Qa (own_nin hA (i := 0) (l := [18, 19]) (by decide) (by decide))).keep Qb (own_nin hA (i := 0) (l := [18, 22]) (by decide) (by decide))).keep K95q (own_nin hA (i := 0) (l := [23]) (by decide) (by decide))).keep Qc (own_nin hA (i := 0) (l := [23, 24, 16]) (by decide) (by decide))).other W120 (Or.inr (own_sn (Or.inr (wx hw 186)) (Or.inl (wx hw 190))))
          have f_156 := ((Gb1.keep K95q (own_nin hA (i := 22) (l := [23]) (by decide) (by decide))).keep Qc (own_nin hA (i := 22) (l := [23, 24, 16]) (by decide) (by decide))).other W120 (own_ne hA (i := 22) (j := 0) (by decide) (by decide) (by decide))
          refine oc_private X120 hx hZ hown (wx hw 371) (wx hw 373) (wx hw 74) (wx hw 372) (wx hw 75) (wx hw 374) (by decide) (W := 0) (rmpoB l Z a0 hw [] A lo b P hd kH hv k24 rv3 k21 vt k22 os2 (fun u => Int32.ofInt (ee u : Int)) (fun u => cd (ee u)) s0 (0 : Int32) h120 n0 Z120 f_140 f_141 f_142 f_143 f_144 f_145 f_146 f_147 f_148 f_149 f_150 f_151 f_152 f_153 Fw120 f_154 f_155 f_156 hA hge hPO ⟨by decide, by omega, hs.2⟩ ⟨hbd.1, by omega⟩ hti (Nat.le_trans (by simp only [Int32.toNatClampNeg]; omega) hln.2.2.2) (fun _ w0 w1 hp => hQB hc233_121 w0 w1 hp _ hmin.1) hS hV hints) (by decide) (by decide) f_140 (argsL := []) (rest := []) (by rw [hml]; rfl) (lenOf pd_4 rfl) rfl (Nat.le_of_eq rfl) (dx hby dd48 109) rfl e120 (by decide) (by decide) (fun v157 T157 Lc157 hQ157 X157 => ?_)
          obtain ⟨N157q, rfl, K157q, po157_0, po157_1⟩ := hQ157
          have N157 := Fr.app N120 N157q
          have K157 : Keep h0 T157.heap [(A 18), (A 19), (A 22), (A 23), (A 24), (A 16), (A 0), (A 3), (A 5), (A 6), (A 7), (A 8), (A 9), (A 10), (A 11), (A 12), (A 13), (A 14), (A 21)] := K120.trans K157q (allS (Or.inl (List.mem_of_getElem? (i := 7) rfl)) (allS (Or.inl (List.mem_of_getElem? (i := 8) rfl)) (allS (Or.inl (List.mem_of_getElem? (i := 9) rfl)) (allS (Or.inl (List.mem_of_getElem? (i := 10) rfl)) (allS (Or.inl (List.mem_of_getElem? (i := 11) rfl)) (allS (Or.inl (List.mem_of_getElem? (i := 12) rfl)) (allS (Or.inl (List.mem_of_getElem? (i := 13) rfl)) (allS (Or.inl (List.mem_of_getElem? (i := 14) rfl)) (allS (Or.inl (List.mem_of_getElem? (i := 15) rfl)) (allS (Or.inl (List.mem_of_getElem? (i := 16) rfl)) (allS (Or.inl (List.mem_of_getElem? (i := 17) rfl)) (allS (Or.inl (List.mem_of_getElem? (i := 18) rfl)) (allS (Or.inl (List.mem_of_getElem? (i := 6) rfl)) all0)))))))))))))
          have Z157 : n0 ≤ T157.heap.size := Nat.le_trans Z120 K157q.1
          exact own_retV X157 hx hret hlk (dx hby dd48 110) rfl (by decide) (by decide) ⟨N157, s0, os2, rv3, ee, rfl, K157, po157_0, po157_1, ⟨fun q => absurd q hc233_121, fun _ => rfl, hmin⟩⟩
def own_at (l : List Addr) (i : Nat) : Addr := l.getD i 0
def own_chain : Addr → List Addr → Prop
  | _, [] => True
  | x, y :: l => x < y ∧ own_chain y l
theorem own_chain_lt {x : Addr} {l : List Addr} (h : own_chain x l) : ∀ i, i < l.length → x < l.getD i 0 := by
  induction l generalizing x with
  | nil => intro i hi; exact absurd hi (Nat.not_lt_zero _)
  | cons y l ih =>
    intro i hi
    cases i with
    | zero => exact h.1
    | succ i => exact Nat.lt_trans h.1 (ih h.2 i (Nat.lt_of_succ_lt_succ hi))
theorem own_chain_inc {x : Addr} {l : List Addr} (h : own_chain x l) : ∀ i j, i < j → j < l.length + 1 → own_at (x :: l) i < own_at (x :: l) j := by
  induction l generalizing x with
  | nil => intro i j a b; have : ([] : List Addr).length = 0 := rfl; omega
  | cons y l ih =>
    intro i j a b
    cases j with
    | zero => omega
    | succ j =>
      cases i with
      | zero => exact own_chain_lt h j (by omega)
      | succ i => exact ih h.2 i j (by omega) (by simp only [List.length_cons] at b; omega)
theorem own_ints_z (n : Nat) : own_ints (List.replicate n (.int (0 : Int32))) := fun j => ⟨0, by
  rw [List.getD_eq_getElem?_getD, List.getElem?_replicate]; split <;> rfl⟩
theorem own_rows_z (n : Nat) : own_rows (List.replicate n (.int (0 : Int32))) := fun j => ⟨0, by
  rw [List.getD_eq_getElem?_getD, List.getElem?_replicate]; split <;> rfl, by decide, by decide⟩
theorem own_all15 {Q : Nat → Prop} (h0 : Q 0) (h1 : Q 1) (h2 : Q 2) (h3 : Q 3) (h4 : Q 4) (h5 : Q 5) (h6 : Q 6) (h7 : Q 7) (h8 : Q 8) (h9 : Q 9) (h10 : Q 10) (h11 : Q 11) (h12 : Q 12) (h13 : Q 13) (h14 : Q 14) : ∀ i, i < 15 → Q i := fun i hi =>
  match i, hi with
  | 0, _ => h0
  | 1, _ => h1
  | 2, _ => h2
  | 3, _ => h3
  | 4, _ => h4
  | 5, _ => h5
  | 6, _ => h6
  | 7, _ => h7
  | 8, _ => h8
  | 9, _ => h9
  | 10, _ => h10
  | 11, _ => h11
  | 12, _ => h12
  | 13, _ => h13
  | 14, _ => h14
theorem dd14 : own_dec prog_55_method_1_code [(0, .aload_n 0, 1), (1, .invokespecial 1, 3), (4, .aload_n 0, 1), (5, .iconst 4, 1), (6, .anewarray 9, 3), (9, .putfield 11, 3), (12, .aload_n 0, 1), (13, .iconst 4, 1), (14, .newarray .int, 2), (16, .putfield 17, 3), (19, .aload_n 0, 1), (20, .new 21, 3), (23, .dup, 1), (24, .invokespecial 23, 3), (27, .putfield 24, 3), (30, .aload_n 0, 1), (31, .bipush 105, 2), (33, .newarray .byte, 2), (35, .putfield 30, 3), (38, .iconst 0, 1), (39, .istore_n 1, 1), (40, .iload_n 1, 1), (41, .iconst 4, 1), (42, .if_icmp .ge 23, 3), (45, .aload_n 0, 1), (46, .getfield 11, 3), (49, .iload_n 1, 1), (50, .new 9, 3), (53, .dup, 1), (54, .iconst 5, 1), (55, .invokespecial 34, 3), (58, .aastore, 1), (59, .iinc 1 1, 3), (62, .goto (-22), 3), (65, .aload_n 0, 1), (66, .aload_n 0, 1), (67, .getfield 11, 3), (70, .invokestatic 37, 3), (73, .putfield 43, 3), (76, .return_, 1)] := by unfold own_dec; decide +kernel
theorem ef_rwi (m : MethodId) (r0 : Addr) : entryFrame m #[(.ref r0)] 2 = mkF m 0 #[vR r0, vU] [] := by first | (simp [entryFrame, mkF, argsToLocals, Value.category, vI, vR, vU]; done) | rfl
def Qrwi (Z : State) (r0 : Addr) (h0 : Heap) (n0 : Nat) (v : Option Value) (h : Heap) (L : List Loc) : Prop := Fr n0 L ∧ ∃ (B : Nat → Addr), v = none ∧ Keep h0 h [r0] ∧ B 1 = r0 ∧ (∀ i j, 1 ≤ i → i < j → j < 15 → B i < B j) ∧ (∀ i, i < 15 → n0 ≤ B i ∨ i = 0) ∧ (∀ i, i < 15 → h0.size ≤ B i ∨ i ≤ 1) ∧ own_RWB Z h B 0 0 (fun _ _ => True)
set_option maxRecDepth 65536 in
set_option maxHeartbeats 40000000 in
theorem rmrwi (l : Launch) (Z : State) (a0 : Array Value) (hw : ∀ d ∈ tables_1, d.before a0 Z = true) (ws : List Jvm.Cond) (r0 : Addr) (h0 : Heap) (n0 : Nat) (Z0 : n0 ≤ h0.size) (P0 : Exa Z h0 r0 "com/example/sixfold/sixfold/rows/Rows") (P1 : Fld Z h0 r0 "com/example/sixfold/sixfold/rows/Rows" "cards" "[Lcom/example/sixfold/sixfold/rows/IntList;" .null) (P2 : Fld Z h0 r0 "com/example/sixfold/sixfold/rows/Rows" "heads" "[I" .null) (P3 : Fld Z h0 r0 "com/example/sixfold/sixfold/rows/Rows" "lasts" "Lcom/example/sixfold/sixfold/rows/CardSet;" .null) (P4 : Fld Z h0 r0 "com/example/sixfold/sixfold/rows/Rows" "rowEnding" "[B" .null) (P5 : Fld Z h0 r0 "com/example/sixfold/sixfold/rows/Rows" "view" "Ljava/util/List;" .null) (ge_r0 : n0 ≤ r0) :
    own_Cw l Z (⟨"com/example/sixfold/sixfold/rows/Rows", "<init>", "()V"⟩ : MethodName) prog_55_method_1_code 2 none ws (own_rr 7 15 155 91) #[(.ref r0)] h0 (Qrwi Z r0 h0 n0) := by
  refine own_body (plainFor_of_name pn_com_example_sixfold_sixfold_rows_Rows) ?_
  intro p e s m below meth c s₁ hx hby hml hZ hown hnm hret hlk X0 e0
  have N0 := Fr.nil n0
  refine own_go (fun t k => castTop (ef_rwi m r0) k) ?_
  refine sa X0 hx (dx hby dd14 0) ?_
  obtain ⟨T41, X41, e41, st41⟩ := initO X0 hx hZ hown (wx hw 86) (wx hw 25) (wx hw 26) e0 (g := (mkF m 1 #[vR r0, vU] [(.ref r0)])) rfl (by rw [hml]; rfl) rfl (dx hby dd14 1) (by decide) (W := 0) (by show 2 * 0 + _ ≤ _; exact Nat.le_of_eq rfl) (by decide)
  refine og (st41 _) ?_
  refine sa X41 hx (dx hby dd14 2) ?_
  refine sc X41 hx (dx hby dd14 3) ?_
  show own_Gl _ _ _ _ (T41.setTop (mkF m 6 #[vR r0, vU] [(.int (4 : Int32)), (.ref r0)]))
  obtain ⟨T42, h42, k42, X42, e42, E42, A42, O42, st42⟩ := newR X41 hx hZ hown (wx hw 87) (wx hw 88) e41 (g := (mkF m 6 #[vR r0, vU] [(.int (4 : Int32)), (.ref r0)])) rfl (dx hby dd14 4) rfl (by decide) (cap := 4) (by decide) (by decide) (by decide) (by decide)
  obtain ⟨b42, g42⟩ : ∃ z, z = h0.size := ⟨_, rfl⟩
  rw [← g42] at A42 st42
  have lt_b42 : r0 < b42 := Nat.lt_of_lt_of_le P0.lt (Nat.le_of_eq g42.symm)
  have ge_b42 : n0 ≤ b42 := Nat.le_trans Z0 (Nat.le_of_eq g42.symm)
  have sz_b42 : h0.size ≤ b42 := Nat.le_trans (Keep.refl h0 [r0]).1 (Nat.le_of_eq g42.symm)
  refine og (st42 _) ?_
  have K42 : Keep h0 h42 [r0] := (Keep.refl h0 [r0]).ext E42
  have Z42 : n0 ≤ h42.size := Nat.le_trans Z0 E42.1
  have V42 : Arv Z h42 b42 k42 (.object "com/example/sixfold/sixfold/rows/IntList") (4 : Int32) [.null, .null, .null, .null] .null := (Arv.new A42 (by decide)).pad (pad_rep [] .null 4)
  show own_Gl _ _ _ _ (T42.setTop (mkF m 9 #[vR r0, vU] [(.ref b42), (.ref r0)]))
  have f_43 := P1.ext E42
  have f_44 := P0.ext E42
  refine oc_putF X42 hx hZ hown (host := "") (Or.inl (wx hw 89)) Via.refl e42 f_43 f_44 (Or.inr ⟨(wx hw 90), rfl, hnm⟩) (wx hw 81) (ty := (.array (.object "com/example/sixfold/sixfold/rows/IntList"))) (by decide) rfl rfl (dx hby dd14 5) (fun T45 h45 X45 e45 W45 => ?_)
  have Fw45 : Fld Z h45 r0 "com/example/sixfold/sixfold/rows/Rows" "cards" "[Lcom/example/sixfold/sixfold/rows/IntList;" (.ref b42) := f_43.same W45
  have K45 : Keep h0 h45 [r0] := K42.wr W45 (Or.inl (List.mem_of_getElem? (i := 0) rfl))
  have N45 := Fr.snoc X45 N0 ge_r0
  have Z45 : n0 ≤ h45.size := Nat.le_trans Z42 (Keep.of_wr W45).1
  refine sa X45 hx (dx hby dd14 6) ?_
  refine sc X45 hx (dx hby dd14 7) ?_
  show own_Gl _ _ _ _ (T45.setTop (mkF m 14 #[vR r0, vU] [(.int (4 : Int32)), (.ref r0)]))
  obtain ⟨T46, h46, k46, X46, e46, E46, A46, st46⟩ := newP X45 hx hZ (aty := .int) (wx hw 5) e45 (g := (mkF m 14 #[vR r0, vU] [(.int (4 : Int32)), (.ref r0)])) rfl (dx hby dd14 8) rfl (by decide) (cap := 4) (by decide) (by decide) (by decide) (by decide)
  obtain ⟨b46, g46⟩ : ∃ z, z = h45.size := ⟨_, rfl⟩
  rw [← g46] at A46 st46
  have ne_47 : r0 ≠ b42 := Nat.ne_of_lt lt_b42
  have f_48 := V42.other W45 (Ne.symm ne_47)
  have lt_b46 : b42 < b46 := Nat.lt_of_lt_of_le f_48.lt (Nat.le_of_eq g46.symm)
  have ge_b46 : n0 ≤ b46 := Nat.le_trans Z45 (Nat.le_of_eq g46.symm)
  have sz_b46 : h0.size ≤ b46 := Nat.le_trans K45.1 (Nat.le_of_eq g46.symm)
  refine og (st46 _) ?_
  have K46 : Keep h0 h46 [r0] := K45.ext E46
  have Z46 : n0 ≤ h46.size := Nat.le_trans Z45 E46.1
  have V46 : Arv Z h46 b46 k46 .int (4 : Int32) [(.int (0 : Int32)), (.int (0 : Int32)), (.int (0 : Int32)), (.int (0 : Int32))] (.int (0 : Int32)) := (Arv.new A46 (by decide)).pad (pad_rep [] (.int (0 : Int32)) 4)
  show own_Gl _ _ _ _ (T46.setTop (mkF m 16 #[vR r0, vU] [(.ref b46), (.ref r0)]))
  have f_49 := ((P2.ext E42).other W45 (Or.inr (own_sn (Or.inr (wx hw 92)) (Or.inr (wx hw 90))))).ext E46
  have f_50 := (f_44.wr W45).ext E46
  refine oc_putF X46 hx hZ hown (host := "") (Or.inl (wx hw 91)) Via.refl e46 f_49 f_50 (Or.inr ⟨(wx hw 92), rfl, hnm⟩) (wx hw 81) (ty := (.array .int)) (by decide) rfl rfl (dx hby dd14 9) (fun T51 h51 X51 e51 W51 => ?_)
  have Fw51 : Fld Z h51 r0 "com/example/sixfold/sixfold/rows/Rows" "heads" "[I" (.ref b46) := f_49.same W51
  have K51 : Keep h0 h51 [r0] := K46.wr W51 (Or.inl (List.mem_of_getElem? (i := 0) rfl))
  have N51 := Fr.snoc X51 N45 ge_r0
  have Z51 : n0 ≤ h51.size := Nat.le_trans Z46 (Keep.of_wr W51).1
  refine sa X51 hx (dx hby dd14 10) ?_
  show own_Gl _ _ _ _ (T51.setTop (mkF m 20 #[vR r0, vU] [(.ref r0)]))
  obtain ⟨T52, h52, X52, e52, E52, A52, D52, -, st52⟩ := newO X51 hx hZ hown (wx hw 93) (wx hw 94) (wx hw 95) e51 (g := (mkF m 20 #[vR r0, vU] [(.ref r0)])) rfl (dx hby dd14 11) (by decide) (by decide)
  obtain ⟨b52, g52⟩ : ∃ z, z = h51.size := ⟨_, rfl⟩
  rw [← g52] at A52 D52 st52
  have ne_53 : r0 ≠ b46 := Nat.ne_of_lt (Nat.lt_trans lt_b42 lt_b46)
  have f_54 := V46.other W51 (Ne.symm ne_53)
  have lt_b52 : b46 < b52 := Nat.lt_of_lt_of_le f_54.lt (Nat.le_of_eq g52.symm)
  have ge_b52 : n0 ≤ b52 := Nat.le_trans Z51 (Nat.le_of_eq g52.symm)
  have sz_b52 : h0.size ≤ b52 := Nat.le_trans K51.1 (Nat.le_of_eq g52.symm)
  refine og (st52 _) ?_
  have K52 : Keep h0 h52 [r0] := K51.ext E52
  have Z52 : n0 ≤ h52.size := Nat.le_trans Z51 E52.1
  have F52_101 : Fld Z h52 b52 "java/util/AbstractList" "modCount" "I" (.int (0 : Int32)) := D52 (Or.inl (wx hw 101)) (ty := .int) (by decide)
  have F52_104 : Fld Z h52 b52 "com/example/sixfold/sixfold/rows/CardSet" "words" "[J" .null := D52 (Or.inr (wx hw 104)) (ty := (.array .long)) (by decide)
  refine og (XS.dup X52.here hx rfl (dx hby dd14 12) rfl rfl) ?_
  refine oc_special X52 hx hZ hown rfl (wx hw 96) (wx hw 97) (wx hw 95) (wx hw 98) (by decide) (W := 2) (rmcsi l Z a0 hw [] b52 h52 n0 Z52 A52 F52_101 F52_104 ge_b52) (by decide) (by decide) (a := b52) (argsL := []) (rest := [(.ref b52), (.ref r0)]) (by rw [hml]; rfl) (lenOf pd_4 rfl) rfl (Nat.le_of_eq rfl) (dx hby dd14 13) rfl e52 (by decide) (by decide) (fun v55 T55 Lc55 hQ55 X55 => ?_)
  obtain ⟨N55q, w55_va, w55_kI, gn_w55_va, sz0_w55_va, rfl, K55q, po55_0, po55_1⟩ := hQ55
  have N55 := Fr.app N51 N55q
  have lt_w55_va : b52 < w55_va := Nat.lt_of_lt_of_le A52.lt sz0_w55_va
  have sz_w55_va : h0.size ≤ w55_va := Nat.le_trans K52.1 sz0_w55_va
  have K55 : Keep h0 T55.heap [r0] := K52.trans K55q (allS (Or.inr sz_b52) all0)
  have Z55 : n0 ≤ T55.heap.size := Nat.le_trans Z52 K55q.1
  show own_Gl _ _ _ _ (T55.setTop (mkF m 27 #[vR r0, vU] [(.ref b52), (.ref r0)]))
  have ne_56 : r0 ≠ b52 := Nat.ne_of_lt (Nat.lt_trans (Nat.lt_trans lt_b42 lt_b46) lt_b52)
  have f_57 := (((((P3.ext E42).other W45 (Or.inr (own_sn (Or.inr (wx hw 106)) (Or.inr (wx hw 90))))).ext E46).other W51 (Or.inr (own_sn (Or.inr (wx hw 106)) (Or.inr (wx hw 92))))).ext E52).keep K55q (ninS ne_56 nin0)
  have f_58 := ((f_50.wr W51).ext E52).keep K55q
  refine oc_putF X55 hx hZ hown (host := "") (Or.inl (wx hw 105)) Via.refl rfl f_57 f_58 (Or.inr ⟨(wx hw 106), rfl, hnm⟩) (wx hw 81) (ty := (.object "com/example/sixfold/sixfold/rows/CardSet")) (by decide) rfl rfl (dx hby dd14 14) (fun T59 h59 X59 e59 W59 => ?_)
  have Fw59 : Fld Z h59 r0 "com/example/sixfold/sixfold/rows/Rows" "lasts" "Lcom/example/sixfold/sixfold/rows/CardSet;" (.ref b52) := f_57.same W59
  have K59 : Keep h0 h59 [r0] := K55.wr W59 (Or.inl (List.mem_of_getElem? (i := 0) rfl))
  have N59 := Fr.snoc X59 N55 ge_r0
  have Z59 : n0 ≤ h59.size := Nat.le_trans Z55 (Keep.of_wr W59).1
  refine sa X59 hx (dx hby dd14 15) ?_
  refine og (XS.bipush X59.here hx rfl (dx hby dd14 16)) ?_
  show own_Gl _ _ _ _ (T59.setTop (mkF m 33 #[vR r0, vU] [(.int (105 : Int32)), (.ref r0)]))
  obtain ⟨T60, h60, k60, X60, e60, E60, A60, st60⟩ := newP X59 hx hZ (aty := .byte) (wx hw 107) e59 (g := (mkF m 33 #[vR r0, vU] [(.int (105 : Int32)), (.ref r0)])) rfl (dx hby dd14 17) rfl (by decide) (cap := 105) (by decide) (by decide) (by decide) (by decide)
  obtain ⟨b60, g60⟩ : ∃ z, z = h59.size := ⟨_, rfl⟩
  rw [← g60] at A60 st60
  have ne_61 : r0 ≠ w55_va := Nat.ne_of_lt (Nat.lt_trans (Nat.lt_trans (Nat.lt_trans lt_b42 lt_b46) lt_b52) lt_w55_va)
  have f_62 := po55_1.other W59 (Ne.symm ne_61)
  have lt_b60 : w55_va < b60 := Nat.lt_of_lt_of_le f_62.lt (Nat.le_of_eq g60.symm)
  have ge_b60 : n0 ≤ b60 := Nat.le_trans Z59 (Nat.le_of_eq g60.symm)
  have sz_b60 : h0.size ≤ b60 := Nat.le_trans K59.1 (Nat.le_of_eq g60.symm)
  refine og (st60 _) ?_
  have K60 : Keep h0 h60 [r0] := K59.ext E60
  have Z60 : n0 ≤ h60.size := Nat.le_trans Z59 E60.1
  have V60 : Arv Z h60 b60 k60 .byte (105 : Int32) [] (.int (0 : Int32)) := (Arv.new A60 (by decide)).pad (pad_rep [] (.int (0 : Int32)) 0)
  show own_Gl _ _ _ _ (T60.setTop (mkF m 35 #[vR r0, vU] [(.ref b60), (.ref r0)]))
  have f_63 := (((((((P4.ext E42).other W45 (Or.inr (own_sn (Or.inr (wx hw 109)) (Or.inr (wx hw 90))))).ext E46).other W51 (Or.inr (own_sn (Or.inr (wx hw 109)) (Or.inr (wx hw 92))))).ext E52).keep K55q (ninS ne_56 nin0)).other W59 (Or.inr (own_sn (Or.inr (wx hw 109)) (Or.inr (wx hw 106))))).ext E60
  have f_64 := (f_58.wr W59).ext E60
  refine oc_putF X60 hx hZ hown (host := "") (Or.inl (wx hw 108)) Via.refl e60 f_63 f_64 (Or.inr ⟨(wx hw 109), rfl, hnm⟩) (wx hw 81) (ty := (.array .byte)) (by decide) rfl rfl (dx hby dd14 18) (fun T65 h65 X65 e65 W65 => ?_)
  have Fw65 : Fld Z h65 r0 "com/example/sixfold/sixfold/rows/Rows" "rowEnding" "[B" (.ref b60) := f_63.same W65
  have K65 : Keep h0 h65 [r0] := K60.wr W65 (Or.inl (List.mem_of_getElem? (i := 0) rfl))
  have N65 := Fr.snoc X65 N59 ge_r0
  have Z65 : n0 ≤ h65.size := Nat.le_trans Z60 (Keep.of_wr W65).1
  refine sc X65 hx (dx hby dd14 19) ?_
  refine og (XS.istoreN X65.here hx rfl (dx hby dd14 20) rfl (l' := #[vR r0, vI (0 : Int32)]) rfl) ?_
  refine si X65 hx (dx hby dd14 21) ?_
  refine sc X65 hx (dx hby dd14 22) ?_
  refine og (XS.icmpNo X65.here hx rfl (dx hby dd14 23) rfl (tlt (by decide : (0 : Int32) < (4 : Int32))).2.1) ?_
  refine sa X65 hx (dx hby dd14 24) ?_
  have f_67 := ((((((Fw45.ext E46).other W51 (Or.inr (own_sn (Or.inr (wx hw 90)) (Or.inr (wx hw 92))))).ext E52).keep K55q (ninS ne_56 nin0)).other W59 (Or.inr (own_sn (Or.inr (wx hw 90)) (Or.inr (wx hw 106))))).ext E60).other W65 (Or.inr (own_sn (Or.inr (wx hw 90)) (Or.inr (wx hw 109))))
  refine oc_getF X65 hx hZ hown (host := "") (Or.inl (wx hw 89)) Via.refl e65 f_67 (dx hby dd14 25) (fun T66 X66 e66 => ?_)
  refine si X66 hx (dx hby dd14 26) ?_
  show own_Gl _ _ _ _ (T66.setTop (mkF m 50 #[vR r0, vI (0 : Int32)] [(.int (0 : Int32)), (.ref b42)]))
  obtain ⟨T68, h68, X68, e68, E68, A68, D68, -, st68⟩ := newO X66 hx hZ hown (wx hw 87) (wx hw 110) (wx hw 111) e66 (g := (mkF m 50 #[vR r0, vI (0 : Int32)] [(.int (0 : Int32)), (.ref b42)])) rfl (dx hby dd14 27) (by decide) (by decide)
  obtain ⟨b68, g68⟩ : ∃ z, z = h65.size := ⟨_, rfl⟩
  rw [← g68] at A68 D68 st68
  have ne_69 : r0 ≠ b60 := Nat.ne_of_lt (Nat.lt_trans (Nat.lt_trans (Nat.lt_trans (Nat.lt_trans lt_b42 lt_b46) lt_b52) lt_w55_va) lt_b60)
  have f_70 := V60.other W65 (Ne.symm ne_69)
  have lt_b68 : b60 < b68 := Nat.lt_of_lt_of_le f_70.lt (Nat.le_of_eq g68.symm)
  have ge_b68 : n0 ≤ b68 := Nat.le_trans Z65 (Nat.le_of_eq g68.symm)
  have sz_b68 : h0.size ≤ b68 := Nat.le_trans K65.1 (Nat.le_of_eq g68.symm)
  refine og (st68 _) ?_
  have K68 : Keep h0 h68 [r0] := K65.ext E68
  have Z68 : n0 ≤ h68.size := Nat.le_trans Z65 E68.1
  have F68_117 : Fld Z h68 b68 "java/util/AbstractList" "modCount" "I" (.int (0 : Int32)) := D68 (Or.inl (wx hw 117)) (ty := .int) (by decide)
  have F68_119 : Fld Z h68 b68 "com/example/sixfold/sixfold/rows/IntList" "values" "[I" .null := D68 (Or.inr (wx hw 119)) (ty := (.array .int)) (by decide)
  have F68_184 : Fld Z h68 b68 "com/example/sixfold/sixfold/rows/IntList" "size" "I" (.int (0 : Int32)) := D68 (Or.inl (wx hw 184)) (ty := .int) (by decide)
  refine og (XS.dup X68.here hx rfl (dx hby dd14 28) rfl rfl) ?_
  refine sc X68 hx (dx hby dd14 29) ?_
  refine oc_special X68 hx hZ hown rfl (wx hw 112) (wx hw 113) (wx hw 111) (wx hw 114) (by decide) (W := 3) (rmili l Z a0 hw [] b68 (5 : Int32) h68 n0 Z68 A68 F68_117 F68_119 F68_184 ge_b68 (by decide) (by decide)) (by decide) (by decide) (a := b68) (argsL := [(.int (5 : Int32))]) (rest := [(.ref b68), (.int (0 : Int32)), (.ref b42)]) (by rw [hml]; rfl) (lenOf pd_14 rfl) rfl (Nat.le_of_eq rfl) (dx hby dd14 30) rfl e68 (by decide) (by decide) (fun v71 T71 Lc71 hQ71 X71 => ?_)
  obtain ⟨N71q, w71_va, w71_kI, gn_w71_va, sz0_w71_va, rfl, K71q, po71_0, po71_1, po71_2⟩ := hQ71
  have N71 := Fr.app N65 N71q
  have lt_w71_va : b68 < w71_va := Nat.lt_of_lt_of_le A68.lt sz0_w71_va
  have sz_w71_va : h0.size ≤ w71_va := Nat.le_trans K68.1 sz0_w71_va
  have K71 : Keep h0 T71.heap [r0] := K68.trans K71q (allS (Or.inr sz_b68) all0)
  have Z71 : n0 ≤ T71.heap.size := Nat.le_trans Z68 K71q.1
  show own_Gl _ _ _ _ (T71.setTop (mkF m 58 #[vR r0, vI (0 : Int32)] [(.ref b68), (.int (0 : Int32)), (.ref b42)]))
  have ne_72 : b42 ≠ b52 := Nat.ne_of_lt (Nat.lt_trans lt_b46 lt_b52)
  have ne_73 : b42 ≠ b68 := Nat.ne_of_lt (Nat.lt_trans (Nat.lt_trans (Nat.lt_trans (Nat.lt_trans lt_b46 lt_b52) lt_w55_va) lt_b60) lt_b68)
  have f_74 := ((((((((f_48.ext E46).other W51 (Ne.symm ne_47)).ext E52).keep K55q (ninS ne_72 nin0)).other W59 (Ne.symm ne_47)).ext E60).other W65 (Ne.symm ne_47)).ext E68).keep K71q (ninS ne_73 nin0)
  have f_76 := A68.keep K71q
  refine oc_aastore X71 hx hZ rfl f_74 ⟨by decide, by decide⟩ 0 rfl (Nat.le_of_ble_eq_true rfl) (Or.inr ⟨O42, _, _, rfl, rfl, (Ins.self f_76)⟩) (dx hby dd14 31) (fun T75 h75 X75 e75 W75 V75 => ?_)
  have V75 : Arv Z h75 b42 k42 (.object "com/example/sixfold/sixfold/rows/IntList") (4 : Int32) [(.ref b68), .null, .null, .null] .null := V75
  have K75 : Keep h0 h75 [r0] := K71.wr W75 (Or.inr sz_b42)
  have N75 := Fr.snoc X75 N71 ge_b42
  have Z75 : n0 ≤ h75.size := Nat.le_trans Z71 (Keep.of_wr W75).1
  refine og (XS.iinc X75.here hx rfl (dx hby dd14 32) rfl (l' := #[vR r0, vI (1 : Int32)]) rfl) ?_
  refine og (XS.goto X75.here hx rfl (pc0 := 62) (pc' := 40) rfl (dx hby dd14 33) (by decide) (by decide)) ?_
  refine si X75 hx (dx hby dd14 21) ?_
  refine sc X75 hx (dx hby dd14 22) ?_
  refine og (XS.icmpNo X75.here hx rfl (dx hby dd14 23) rfl (tlt (by decide : (1 : Int32) < (4 : Int32))).2.1) ?_
  refine sa X75 hx (dx hby dd14 24) ?_
  have ne_78 : r0 ≠ b68 := Nat.ne_of_lt (Nat.lt_trans (Nat.lt_trans (Nat.lt_trans (Nat.lt_trans (Nat.lt_trans lt_b42 lt_b46) lt_b52) lt_w55_va) lt_b60) lt_b68)
  have f_79 := ((f_67.ext E68).keep K71q (ninS ne_78 nin0)).other W75 (Or.inl ne_47)
  refine oc_getF X75 hx hZ hown (host := "") (Or.inl (wx hw 89)) Via.refl e75 f_79 (dx hby dd14 25) (fun T77 X77 e77 => ?_)
  refine si X77 hx (dx hby dd14 26) ?_
  show own_Gl _ _ _ _ (T77.setTop (mkF m 50 #[vR r0, vI (1 : Int32)] [(.int (1 : Int32)), (.ref b42)]))
  obtain ⟨T80, h80, X80, e80, E80, A80, D80, -, st80⟩ := newO X77 hx hZ hown (wx hw 87) (wx hw 110) (wx hw 111) e77 (g := (mkF m 50 #[vR r0, vI (1 : Int32)] [(.int (1 : Int32)), (.ref b42)])) rfl (dx hby dd14 27) (by decide) (by decide)
  obtain ⟨b80, g80⟩ : ∃ z, z = h75.size := ⟨_, rfl⟩
  rw [← g80] at A80 D80 st80
  have ne_81 : b42 ≠ w71_va := Nat.ne_of_lt (Nat.lt_trans (Nat.lt_trans (Nat.lt_trans (Nat.lt_trans (Nat.lt_trans lt_b46 lt_b52) lt_w55_va) lt_b60) lt_b68) lt_w71_va)
  have f_82 := po71_2.other W75 (Ne.symm ne_81)
  have lt_b80 : w71_va < b80 := Nat.lt_of_lt_of_le f_82.lt (Nat.le_of_eq g80.symm)
  have ge_b80 : n0 ≤ b80 := Nat.le_trans Z75 (Nat.le_of_eq g80.symm)
  have sz_b80 : h0.size ≤ b80 := Nat.le_trans K75.1 (Nat.le_of_eq g80.symm)
  refine og (st80 _) ?_
  have K80 : Keep h0 h80 [r0] := K75.ext E80
  have Z80 : n0 ≤ h80.size := Nat.le_trans Z75 E80.1
  have F80_117 : Fld Z h80 b80 "java/util/AbstractList" "modCount" "I" (.int (0 : Int32)) := D80 (Or.inl (wx hw 117)) (ty := .int) (by decide)
  have F80_119 : Fld Z h80 b80 "com/example/sixfold/sixfold/rows/IntList" "values" "[I" .null := D80 (Or.inr (wx hw 119)) (ty := (.array .int)) (by decide)
  have F80_184 : Fld Z h80 b80 "com/example/sixfold/sixfold/rows/IntList" "size" "I" (.int (0 : Int32)) := D80 (Or.inl (wx hw 184)) (ty := .int) (by decide)
  refine og (XS.dup X80.here hx rfl (dx hby dd14 28) rfl rfl) ?_
  refine sc X80 hx (dx hby dd14 29) ?_
  refine oc_special X80 hx hZ hown rfl (wx hw 112) (wx hw 113) (wx hw 111) (wx hw 114) (by decide) (W := 3) (rmili l Z a0 hw [] b80 (5 : Int32) h80 n0 Z80 A80 F80_117 F80_119 F80_184 ge_b80 (by decide) (by decide)) (by decide) (by decide) (a := b80) (argsL := [(.int (5 : Int32))]) (rest := [(.ref b80), (.int (1 : Int32)), (.ref b42)]) (by rw [hml]; rfl) (lenOf pd_14 rfl) rfl (Nat.le_of_eq rfl) (dx hby dd14 30) rfl e80 (by decide) (by decide) (fun v83 T83 Lc83 hQ83 X83 => ?_)
  obtain ⟨N83q, w83_va, w83_kI, gn_w83_va, sz0_w83_va, rfl, K83q, po83_0, po83_1, po83_2⟩ := hQ83
  have N83 := Fr.app N75 N83q
  have lt_w83_va : b80 < w83_va := Nat.lt_of_lt_of_le A80.lt sz0_w83_va
  have sz_w83_va : h0.size ≤ w83_va := Nat.le_trans K80.1 sz0_w83_va
  have K83 : Keep h0 T83.heap [r0] := K80.trans K83q (allS (Or.inr sz_b80) all0)
  have Z83 : n0 ≤ T83.heap.size := Nat.le_trans Z80 K83q.1
  show own_Gl _ _ _ _ (T83.setTop (mkF m 58 #[vR r0, vI (1 : Int32)] [(.ref b80), (.int (1 : Int32)), (.ref b42)]))
  have ne_84 : b42 ≠ b80 := Nat.ne_of_lt (Nat.lt_trans (Nat.lt_trans (Nat.lt_trans (Nat.lt_trans (Nat.lt_trans (Nat.lt_trans lt_b46 lt_b52) lt_w55_va) lt_b60) lt_b68) lt_w71_va) lt_b80)
  have f_85 := (V75.ext E80).keep K83q (ninS ne_84 nin0)
  have f_87 := A80.keep K83q
  refine oc_aastore X83 hx hZ rfl f_85 ⟨by decide, by decide⟩ 1 rfl (Nat.le_of_ble_eq_true rfl) (Or.inr ⟨O42, _, _, rfl, rfl, (Ins.self f_87)⟩) (dx hby dd14 31) (fun T86 h86 X86 e86 W86 V86 => ?_)
  have V86 : Arv Z h86 b42 k42 (.object "com/example/sixfold/sixfold/rows/IntList") (4 : Int32) [(.ref b68), (.ref b80), .null, .null] .null := V86
  have K86 : Keep h0 h86 [r0] := K83.wr W86 (Or.inr sz_b42)
  have N86 := Fr.snoc X86 N83 ge_b42
  have Z86 : n0 ≤ h86.size := Nat.le_trans Z83 (Keep.of_wr W86).1
  refine og (XS.iinc X86.here hx rfl (dx hby dd14 32) rfl (l' := #[vR r0, vI (2 : Int32)]) rfl) ?_
  refine og (XS.goto X86.here hx rfl (pc0 := 62) (pc' := 40) rfl (dx hby dd14 33) (by decide) (by decide)) ?_
  refine si X86 hx (dx hby dd14 21) ?_
  refine sc X86 hx (dx hby dd14 22) ?_
  refine og (XS.icmpNo X86.here hx rfl (dx hby dd14 23) rfl (tlt (by decide : (2 : Int32) < (4 : Int32))).2.1) ?_
  refine sa X86 hx (dx hby dd14 24) ?_
  have ne_89 : r0 ≠ b80 := Nat.ne_of_lt (Nat.lt_trans (Nat.lt_trans (Nat.lt_trans (Nat.lt_trans (Nat.lt_trans (Nat.lt_trans (Nat.lt_trans lt_b42 lt_b46) lt_b52) lt_w55_va) lt_b60) lt_b68) lt_w71_va) lt_b80)
  have f_90 := ((f_79.ext E80).keep K83q (ninS ne_89 nin0)).other W86 (Or.inl ne_47)
  refine oc_getF X86 hx hZ hown (host := "") (Or.inl (wx hw 89)) Via.refl e86 f_90 (dx hby dd14 25) (fun T88 X88 e88 => ?_)
  refine si X88 hx (dx hby dd14 26) ?_
  show own_Gl _ _ _ _ (T88.setTop (mkF m 50 #[vR r0, vI (2 : Int32)] [(.int (2 : Int32)), (.ref b42)]))
  obtain ⟨T91, h91, X91, e91, E91, A91, D91, -, st91⟩ := newO X88 hx hZ hown (wx hw 87) (wx hw 110) (wx hw 111) e88 (g := (mkF m 50 #[vR r0, vI (2 : Int32)] [(.int (2 : Int32)), (.ref b42)])) rfl (dx hby dd14 27) (by decide) (by decide)
  obtain ⟨b91, g91⟩ : ∃ z, z = h86.size := ⟨_, rfl⟩
  rw [← g91] at A91 D91 st91
  have ne_92 : b42 ≠ w83_va := Nat.ne_of_lt (Nat.lt_trans (Nat.lt_trans (Nat.lt_trans (Nat.lt_trans (Nat.lt_trans (Nat.lt_trans (Nat.lt_trans lt_b46 lt_b52) lt_w55_va) lt_b60) lt_b68) lt_w71_va) lt_b80) lt_w83_va)
  have f_93 := po83_2.other W86 (Ne.symm ne_92)
  have lt_b91 : w83_va < b91 := Nat.lt_of_lt_of_le f_93.lt (Nat.le_of_eq g91.symm)
  have ge_b91 : n0 ≤ b91 := Nat.le_trans Z86 (Nat.le_of_eq g91.symm)
  have sz_b91 : h0.size ≤ b91 := Nat.le_trans K86.1 (Nat.le_of_eq g91.symm)
  refine og (st91 _) ?_
  have K91 : Keep h0 h91 [r0] := K86.ext E91
  have Z91 : n0 ≤ h91.size := Nat.le_trans Z86 E91.1
  have F91_117 : Fld Z h91 b91 "java/util/AbstractList" "modCount" "I" (.int (0 : Int32)) := D91 (Or.inl (wx hw 117)) (ty := .int) (by decide)
  have F91_119 : Fld Z h91 b91 "com/example/sixfold/sixfold/rows/IntList" "values" "[I" .null := D91 (Or.inr (wx hw 119)) (ty := (.array .int)) (by decide)
  have F91_184 : Fld Z h91 b91 "com/example/sixfold/sixfold/rows/IntList" "size" "I" (.int (0 : Int32)) := D91 (Or.inl (wx hw 184)) (ty := .int) (by decide)
  refine og (XS.dup X91.here hx rfl (dx hby dd14 28) rfl rfl) ?_
  refine sc X91 hx (dx hby dd14 29) ?_
  refine oc_special X91 hx hZ hown rfl (wx hw 112) (wx hw 113) (wx hw 111) (wx hw 114) (by decide) (W := 3) (rmili l Z a0 hw [] b91 (5 : Int32) h91 n0 Z91 A91 F91_117 F91_119 F91_184 ge_b91 (by decide) (by decide)) (by decide) (by decide) (a := b91) (argsL := [(.int (5 : Int32))]) (rest := [(.ref b91), (.int (2 : Int32)), (.ref b42)]) (by rw [hml]; rfl) (lenOf pd_14 rfl) rfl (Nat.le_of_eq rfl) (dx hby dd14 30) rfl e91 (by decide) (by decide) (fun v94 T94 Lc94 hQ94 X94 => ?_)
  obtain ⟨N94q, w94_va, w94_kI, gn_w94_va, sz0_w94_va, rfl, K94q, po94_0, po94_1, po94_2⟩ := hQ94
  have N94 := Fr.app N86 N94q
  have lt_w94_va : b91 < w94_va := Nat.lt_of_lt_of_le A91.lt sz0_w94_va
  have sz_w94_va : h0.size ≤ w94_va := Nat.le_trans K91.1 sz0_w94_va
  have K94 : Keep h0 T94.heap [r0] := K91.trans K94q (allS (Or.inr sz_b91) all0)
  have Z94 : n0 ≤ T94.heap.size := Nat.le_trans Z91 K94q.1
  show own_Gl _ _ _ _ (T94.setTop (mkF m 58 #[vR r0, vI (2 : Int32)] [(.ref b91), (.int (2 : Int32)), (.ref b42)]))
  have ne_95 : b42 ≠ b91 := Nat.ne_of_lt (Nat.lt_trans (Nat.lt_trans (Nat.lt_trans (Nat.lt_trans (Nat.lt_trans (Nat.lt_trans (Nat.lt_trans (Nat.lt_trans lt_b46 lt_b52) lt_w55_va) lt_b60) lt_b68) lt_w71_va) lt_b80) lt_w83_va) lt_b91)
  have f_96 := (V86.ext E91).keep K94q (ninS ne_95 nin0)
  have f_98 := A91.keep K94q
  refine oc_aastore X94 hx hZ rfl f_96 ⟨by decide, by decide⟩ 2 rfl (Nat.le_of_ble_eq_true rfl) (Or.inr ⟨O42, _, _, rfl, rfl, (Ins.self f_98)⟩) (dx hby dd14 31) (fun T97 h97 X97 e97 W97 V97 => ?_)
  have V97 : Arv Z h97 b42 k42 (.object "com/example/sixfold/sixfold/rows/IntList") (4 : Int32) [(.ref b68), (.ref b80), (.ref b91), .null] .null := V97
  have K97 : Keep h0 h97 [r0] := K94.wr W97 (Or.inr sz_b42)
  have N97 := Fr.snoc X97 N94 ge_b42
  have Z97 : n0 ≤ h97.size := Nat.le_trans Z94 (Keep.of_wr W97).1
  refine og (XS.iinc X97.here hx rfl (dx hby dd14 32) rfl (l' := #[vR r0, vI (3 : Int32)]) rfl) ?_
  refine og (XS.goto X97.here hx rfl (pc0 := 62) (pc' := 40) rfl (dx hby dd14 33) (by decide) (by decide)) ?_
  refine si X97 hx (dx hby dd14 21) ?_
  refine sc X97 hx (dx hby dd14 22) ?_
  refine og (XS.icmpNo X97.here hx rfl (dx hby dd14 23) rfl (tlt (by decide : (3 : Int32) < (4 : Int32))).2.1) ?_
  refine sa X97 hx (dx hby dd14 24) ?_
  have ne_100 : r0 ≠ b91 := Nat.ne_of_lt (Nat.lt_trans (Nat.lt_trans (Nat.lt_trans (Nat.lt_trans (Nat.lt_trans (Nat.lt_trans (Nat.lt_trans (Nat.lt_trans (Nat.lt_trans lt_b42 lt_b46) lt_b52) lt_w55_va) lt_b60) lt_b68) lt_w71_va) lt_b80) lt_w83_va) lt_b91)
  have f_101 := ((f_90.ext E91).keep K94q (ninS ne_100 nin0)).other W97 (Or.inl ne_47)
  refine oc_getF X97 hx hZ hown (host := "") (Or.inl (wx hw 89)) Via.refl e97 f_101 (dx hby dd14 25) (fun T99 X99 e99 => ?_)
  refine si X99 hx (dx hby dd14 26) ?_
  show own_Gl _ _ _ _ (T99.setTop (mkF m 50 #[vR r0, vI (3 : Int32)] [(.int (3 : Int32)), (.ref b42)]))
  obtain ⟨T102, h102, X102, e102, E102, A102, D102, -, st102⟩ := newO X99 hx hZ hown (wx hw 87) (wx hw 110) (wx hw 111) e99 (g := (mkF m 50 #[vR r0, vI (3 : Int32)] [(.int (3 : Int32)), (.ref b42)])) rfl (dx hby dd14 27) (by decide) (by decide)
  obtain ⟨b102, g102⟩ : ∃ z, z = h97.size := ⟨_, rfl⟩
  rw [← g102] at A102 D102 st102
  have ne_103 : b42 ≠ w94_va := Nat.ne_of_lt (Nat.lt_trans (Nat.lt_trans (Nat.lt_trans (Nat.lt_trans (Nat.lt_trans (Nat.lt_trans (Nat.lt_trans (Nat.lt_trans (Nat.lt_trans lt_b46 lt_b52) lt_w55_va) lt_b60) lt_b68) lt_w71_va) lt_b80) lt_w83_va) lt_b91) lt_w94_va)
  have f_104 := po94_2.other W97 (Ne.symm ne_103)
  have lt_b102 : w94_va < b102 := Nat.lt_of_lt_of_le f_104.lt (Nat.le_of_eq g102.symm)
  have ge_b102 : n0 ≤ b102 := Nat.le_trans Z97 (Nat.le_of_eq g102.symm)
  have sz_b102 : h0.size ≤ b102 := Nat.le_trans K97.1 (Nat.le_of_eq g102.symm)
  refine og (st102 _) ?_
  have K102 : Keep h0 h102 [r0] := K97.ext E102
  have Z102 : n0 ≤ h102.size := Nat.le_trans Z97 E102.1
  have F102_117 : Fld Z h102 b102 "java/util/AbstractList" "modCount" "I" (.int (0 : Int32)) := D102 (Or.inl (wx hw 117)) (ty := .int) (by decide)
  have F102_119 : Fld Z h102 b102 "com/example/sixfold/sixfold/rows/IntList" "values" "[I" .null := D102 (Or.inr (wx hw 119)) (ty := (.array .int)) (by decide)
  have F102_184 : Fld Z h102 b102 "com/example/sixfold/sixfold/rows/IntList" "size" "I" (.int (0 : Int32)) := D102 (Or.inl (wx hw 184)) (ty := .int) (by decide)
  refine og (XS.dup X102.here hx rfl (dx hby dd14 28) rfl rfl) ?_
  refine sc X102 hx (dx hby dd14 29) ?_
  refine oc_special X102 hx hZ hown rfl (wx hw 112) (wx hw 113) (wx hw 111) (wx hw 114) (by decide) (W := 3) (rmili l Z a0 hw [] b102 (5 : Int32) h102 n0 Z102 A102 F102_117 F102_119 F102_184 ge_b102 (by decide) (by decide)) (by decide) (by decide) (a := b102) (argsL := [(.int (5 : Int32))]) (rest := [(.ref b102), (.int (3 : Int32)), (.ref b42)]) (by rw [hml]; rfl) (lenOf pd_14 rfl) rfl (Nat.le_of_eq rfl) (dx hby dd14 30) rfl e102 (by decide) (by decide) (fun v105 T105 Lc105 hQ105 X105 => ?_)
  obtain ⟨N105q, w105_va, w105_kI, gn_w105_va, sz0_w105_va, rfl, K105q, po105_0, po105_1, po105_2⟩ := hQ105
  have N105 := Fr.app N97 N105q
  have lt_w105_va : b102 < w105_va := Nat.lt_of_lt_of_le A102.lt sz0_w105_va
  have sz_w105_va : h0.size ≤ w105_va := Nat.le_trans K102.1 sz0_w105_va
  have K105 : Keep h0 T105.heap [r0] := K102.trans K105q (allS (Or.inr sz_b102) all0)
  have Z105 : n0 ≤ T105.heap.size := Nat.le_trans Z102 K105q.1
  show own_Gl _ _ _ _ (T105.setTop (mkF m 58 #[vR r0, vI (3 : Int32)] [(.ref b102), (.int (3 : Int32)), (.ref b42)]))
  have ne_106 : b42 ≠ b102 := Nat.ne_of_lt (Nat.lt_trans (Nat.lt_trans (Nat.lt_trans (Nat.lt_trans (Nat.lt_trans (Nat.lt_trans (Nat.lt_trans (Nat.lt_trans (Nat.lt_trans (Nat.lt_trans lt_b46 lt_b52) lt_w55_va) lt_b60) lt_b68) lt_w71_va) lt_b80) lt_w83_va) lt_b91) lt_w94_va) lt_b102)
  have f_107 := (V97.ext E102).keep K105q (ninS ne_106 nin0)
  have f_109 := A102.keep K105q
  refine oc_aastore X105 hx hZ rfl f_107 ⟨by decide, by decide⟩ 3 rfl (Nat.le_of_ble_eq_true rfl) (Or.inr ⟨O42, _, _, rfl, rfl, (Ins.self f_109)⟩) (dx hby dd14 31) (fun T108 h108 X108 e108 W108 V108 => ?_)
  have V108 : Arv Z h108 b42 k42 (.object "com/example/sixfold/sixfold/rows/IntList") (4 : Int32) [(.ref b68), (.ref b80), (.ref b91), (.ref b102)] .null := V108
  have K108 : Keep h0 h108 [r0] := K105.wr W108 (Or.inr sz_b42)
  have N108 := Fr.snoc X108 N105 ge_b42
  have Z108 : n0 ≤ h108.size := Nat.le_trans Z105 (Keep.of_wr W108).1
  refine og (XS.iinc X108.here hx rfl (dx hby dd14 32) rfl (l' := #[vR r0, vI (4 : Int32)]) rfl) ?_
  refine og (XS.goto X108.here hx rfl (pc0 := 62) (pc' := 40) rfl (dx hby dd14 33) (by decide) (by decide)) ?_
  refine si X108 hx (dx hby dd14 21) ?_
  refine sc X108 hx (dx hby dd14 22) ?_
  refine og (XS.icmpYes X108.here hx rfl (pc0 := 42) (pc' := 65) rfl (dx hby dd14 23) rfl (flt (by decide : ¬ ((4 : Int32) < (4 : Int32)))).2.1 (by decide) (by decide)) ?_
  refine sa X108 hx (dx hby dd14 34) ?_
  refine sa X108 hx (dx hby dd14 35) ?_
  have ne_111 : r0 ≠ b102 := Nat.ne_of_lt (Nat.lt_trans (Nat.lt_trans (Nat.lt_trans (Nat.lt_trans (Nat.lt_trans (Nat.lt_trans (Nat.lt_trans (Nat.lt_trans (Nat.lt_trans (Nat.lt_trans (Nat.lt_trans lt_b42 lt_b46) lt_b52) lt_w55_va) lt_b60) lt_b68) lt_w71_va) lt_b80) lt_w83_va) lt_b91) lt_w94_va) lt_b102)
  have f_112 := ((f_101.ext E102).keep K105q (ninS ne_111 nin0)).other W108 (Or.inl ne_47)
  refine oc_getF X108 hx hZ hown (host := "") (Or.inl (wx hw 89)) Via.refl e108 f_112 (dx hby dd14 36) (fun T110 X110 e110 => ?_)
  have f_113 := (((((((((f_76.wr W75).ext E80).keep K83q).wr W86).ext E91).keep K94q).wr W97).ext E102).keep K105q).wr W108
  have f_114 := ((((((f_87.wr W86).ext E91).keep K94q).wr W97).ext E102).keep K105q).wr W108
  have f_115 := (((f_98.wr W97).ext E102).keep K105q).wr W108
  have f_116 := f_109.wr W108
  refine oc_static X110 hx hZ hown (wx hw 121) (wx hw 122) (wx hw 123) (wx hw 124) (by decide) (W := 1) (rmlof l Z a0 hw [] b42 k42 b68 b80 b91 b102 h108 n0 Z108 V108 f_113 f_114 f_115 f_116) (by decide) (by decide) (argsL := [(.ref b42)]) (rest := [(.ref r0)]) (by rw [hml]; rfl) (lenOf pd_13 rfl) rfl (Nat.le_of_eq rfl) (dx hby dd14 37) rfl e110 (by decide) (by decide) (fun v117 T117 Lc117 hQ117 X117 => ?_)
  obtain ⟨N117q, w117_w, gn_w117_w, sz0_w117_w, rfl, K117q⟩ := hQ117
  have N117 := Fr.app N108 N117q
  have ne_118 : b42 ≠ w105_va := Nat.ne_of_lt (Nat.lt_trans (Nat.lt_trans (Nat.lt_trans (Nat.lt_trans (Nat.lt_trans (Nat.lt_trans (Nat.lt_trans (Nat.lt_trans (Nat.lt_trans (Nat.lt_trans (Nat.lt_trans lt_b46 lt_b52) lt_w55_va) lt_b60) lt_b68) lt_w71_va) lt_b80) lt_w83_va) lt_b91) lt_w94_va) lt_b102) lt_w105_va)
  have f_119 := po105_2.other W108 (Ne.symm ne_118)
  have lt_w117_w : w105_va < w117_w := Nat.lt_of_lt_of_le f_119.lt sz0_w117_w
  have sz_w117_w : h0.size ≤ w117_w := Nat.le_trans K108.1 sz0_w117_w
  have K117 : Keep h0 T117.heap [r0] := K108.trans K117q all0
  have Z117 : n0 ≤ T117.heap.size := Nat.le_trans Z108 K117q.1
  show own_Gl _ _ _ _ (T117.setTop (mkF m 73 #[vR r0, vI (4 : Int32)] [(.ref w117_w), (.ref r0)]))
  have f_120 := (((((((((((((((((((((P5.ext E42).other W45 (Or.inr (own_sn (Or.inr (wx hw 161)) (Or.inr (wx hw 90))))).ext E46).other W51 (Or.inr (own_sn (Or.inr (wx hw 161)) (Or.inr (wx hw 92))))).ext E52).keep K55q (ninS ne_56 nin0)).other W59 (Or.inr (own_sn (Or.inr (wx hw 161)) (Or.inr (wx hw 106))))).ext E60).other W65 (Or.inr (own_sn (Or.inr (wx hw 161)) (Or.inr (wx hw 109))))).ext E68).keep K71q (ninS ne_78 nin0)).other W75 (Or.inl ne_47)).ext E80).keep K83q (ninS ne_89 nin0)).other W86 (Or.inl ne_47)).ext E91).keep K94q (ninS ne_100 nin0)).other W97 (Or.inl ne_47)).ext E102).keep K105q (ninS ne_111 nin0)).other W108 (Or.inl ne_47)).keep K117q nin0
  have f_121 := (((((((((((((f_64.wr W65).ext E68).keep K71q).wr W75).ext E80).keep K83q).wr W86).ext E91).keep K94q).wr W97).ext E102).keep K105q).wr W108).keep K117q
  refine oc_putF X117 hx hZ hown (host := "") (Or.inl (wx hw 160)) Via.refl rfl f_120 f_121 (Or.inr ⟨(wx hw 161), rfl, hnm⟩) (wx hw 81) (ty := (.object "java/util/List")) (by decide) rfl rfl (dx hby dd14 38) (fun T122 h122 X122 e122 W122 => ?_)
  have Fw122 : Fld Z h122 r0 "com/example/sixfold/sixfold/rows/Rows" "view" "Ljava/util/List;" (.ref w117_w) := f_120.same W122
  have K122 : Keep h0 h122 [r0] := K117.wr W122 (Or.inl (List.mem_of_getElem? (i := 0) rfl))
  have N122 := Fr.snoc X122 N117 ge_r0
  have Z122 : n0 ≤ h122.size := Nat.le_trans Z117 (Keep.of_wr W122).1
  have f_123 := (f_113.keep K117q).wr W122
  have ne_124 : b68 ≠ b80 := Nat.ne_of_lt (Nat.lt_trans lt_w71_va lt_b80)
  have ne_125 : b68 ≠ b91 := Nat.ne_of_lt (Nat.lt_trans (Nat.lt_trans (Nat.lt_trans lt_w71_va lt_b80) lt_w83_va) lt_b91)
  have ne_126 : b68 ≠ b102 := Nat.ne_of_lt (Nat.lt_trans (Nat.lt_trans (Nat.lt_trans (Nat.lt_trans (Nat.lt_trans lt_w71_va lt_b80) lt_w83_va) lt_b91) lt_w94_va) lt_b102)
  have f_127 := (((((((((((po71_0.other W75 (Or.inl (Ne.symm ne_73))).ext E80).keep K83q (ninS ne_124 nin0)).other W86 (Or.inl (Ne.symm ne_73))).ext E91).keep K94q (ninS ne_125 nin0)).other W97 (Or.inl (Ne.symm ne_73))).ext E102).keep K105q (ninS ne_126 nin0)).other W108 (Or.inl (Ne.symm ne_73))).keep K117q nin0).other W122 (Or.inl (Ne.symm ne_78))
  have f_128 := (((((((((((po71_1.other W75 (Or.inl (Ne.symm ne_73))).ext E80).keep K83q (ninS ne_124 nin0)).other W86 (Or.inl (Ne.symm ne_73))).ext E91).keep K94q (ninS ne_125 nin0)).other W97 (Or.inl (Ne.symm ne_73))).ext E102).keep K105q (ninS ne_126 nin0)).other W108 (Or.inl (Ne.symm ne_73))).keep K117q nin0).other W122 (Or.inl (Ne.symm ne_78))
  have ne_129 : w71_va ≠ b80 := Nat.ne_of_lt lt_b80
  have ne_130 : w71_va ≠ b91 := Nat.ne_of_lt (Nat.lt_trans (Nat.lt_trans lt_b80 lt_w83_va) lt_b91)
  have ne_131 : w71_va ≠ b102 := Nat.ne_of_lt (Nat.lt_trans (Nat.lt_trans (Nat.lt_trans (Nat.lt_trans lt_b80 lt_w83_va) lt_b91) lt_w94_va) lt_b102)
  have ne_132 : r0 ≠ w71_va := Nat.ne_of_lt (Nat.lt_trans (Nat.lt_trans (Nat.lt_trans (Nat.lt_trans (Nat.lt_trans (Nat.lt_trans lt_b42 lt_b46) lt_b52) lt_w55_va) lt_b60) lt_b68) lt_w71_va)
  have f_133 := ((((((((((f_82.ext E80).keep K83q (ninS ne_129 nin0)).other W86 (Ne.symm ne_81)).ext E91).keep K94q (ninS ne_130 nin0)).other W97 (Ne.symm ne_81)).ext E102).keep K105q (ninS ne_131 nin0)).other W108 (Ne.symm ne_81)).keep K117q nin0).other W122 (Ne.symm ne_132)
  have f_134 := (f_114.keep K117q).wr W122
  have ne_135 : b80 ≠ b91 := Nat.ne_of_lt (Nat.lt_trans lt_w83_va lt_b91)
  have ne_136 : b80 ≠ b102 := Nat.ne_of_lt (Nat.lt_trans (Nat.lt_trans (Nat.lt_trans lt_w83_va lt_b91) lt_w94_va) lt_b102)
  have f_137 := ((((((((po83_0.other W86 (Or.inl (Ne.symm ne_84))).ext E91).keep K94q (ninS ne_135 nin0)).other W97 (Or.inl (Ne.symm ne_84))).ext E102).keep K105q (ninS ne_136 nin0)).other W108 (Or.inl (Ne.symm ne_84))).keep K117q nin0).other W122 (Or.inl (Ne.symm ne_89))
  have f_138 := ((((((((po83_1.other W86 (Or.inl (Ne.symm ne_84))).ext E91).keep K94q (ninS ne_135 nin0)).other W97 (Or.inl (Ne.symm ne_84))).ext E102).keep K105q (ninS ne_136 nin0)).other W108 (Or.inl (Ne.symm ne_84))).keep K117q nin0).other W122 (Or.inl (Ne.symm ne_89))
  have ne_139 : w83_va ≠ b91 := Nat.ne_of_lt lt_b91
  have ne_140 : w83_va ≠ b102 := Nat.ne_of_lt (Nat.lt_trans (Nat.lt_trans lt_b91 lt_w94_va) lt_b102)
  have ne_141 : r0 ≠ w83_va := Nat.ne_of_lt (Nat.lt_trans (Nat.lt_trans (Nat.lt_trans (Nat.lt_trans (Nat.lt_trans (Nat.lt_trans (Nat.lt_trans (Nat.lt_trans lt_b42 lt_b46) lt_b52) lt_w55_va) lt_b60) lt_b68) lt_w71_va) lt_b80) lt_w83_va)
  have f_142 := (((((((f_93.ext E91).keep K94q (ninS ne_139 nin0)).other W97 (Ne.symm ne_92)).ext E102).keep K105q (ninS ne_140 nin0)).other W108 (Ne.symm ne_92)).keep K117q nin0).other W122 (Ne.symm ne_141)
  have f_143 := (f_115.keep K117q).wr W122
  have ne_144 : b91 ≠ b102 := Nat.ne_of_lt (Nat.lt_trans lt_w94_va lt_b102)
  have f_145 := (((((po94_0.other W97 (Or.inl (Ne.symm ne_95))).ext E102).keep K105q (ninS ne_144 nin0)).other W108 (Or.inl (Ne.symm ne_95))).keep K117q nin0).other W122 (Or.inl (Ne.symm ne_100))
  have f_146 := (((((po94_1.other W97 (Or.inl (Ne.symm ne_95))).ext E102).keep K105q (ninS ne_144 nin0)).other W108 (Or.inl (Ne.symm ne_95))).keep K117q nin0).other W122 (Or.inl (Ne.symm ne_100))
  have ne_147 : w94_va ≠ b102 := Nat.ne_of_lt lt_b102
  have ne_148 : r0 ≠ w94_va := Nat.ne_of_lt (Nat.lt_trans (Nat.lt_trans (Nat.lt_trans (Nat.lt_trans (Nat.lt_trans (Nat.lt_trans (Nat.lt_trans (Nat.lt_trans (Nat.lt_trans (Nat.lt_trans lt_b42 lt_b46) lt_b52) lt_w55_va) lt_b60) lt_b68) lt_w71_va) lt_b80) lt_w83_va) lt_b91) lt_w94_va)
  have f_149 := ((((f_104.ext E102).keep K105q (ninS ne_147 nin0)).other W108 (Ne.symm ne_103)).keep K117q nin0).other W122 (Ne.symm ne_148)
  have f_150 := (f_116.keep K117q).wr W122
  have f_151 := ((po105_0.other W108 (Or.inl (Ne.symm ne_106))).keep K117q nin0).other W122 (Or.inl (Ne.symm ne_111))
  have f_152 := ((po105_1.other W108 (Or.inl (Ne.symm ne_106))).keep K117q nin0).other W122 (Or.inl (Ne.symm ne_111))
  have ne_153 : r0 ≠ w105_va := Nat.ne_of_lt (Nat.lt_trans (Nat.lt_trans (Nat.lt_trans (Nat.lt_trans (Nat.lt_trans (Nat.lt_trans (Nat.lt_trans (Nat.lt_trans (Nat.lt_trans (Nat.lt_trans (Nat.lt_trans (Nat.lt_trans lt_b42 lt_b46) lt_b52) lt_w55_va) lt_b60) lt_b68) lt_w71_va) lt_b80) lt_w83_va) lt_b91) lt_w94_va) lt_b102) lt_w105_va)
  have f_154 := (f_119.keep K117q nin0).other W122 (Ne.symm ne_153)
  have f_155 := f_121.wr W122
  have f_156 := (f_112.keep K117q nin0).other W122 (Or.inr (own_sn (Or.inr (wx hw 90)) (Or.inr (wx hw 161))))
  have f_157 := ((((((((((((((((((Fw51.ext E52).keep K55q (ninS ne_56 nin0)).other W59 (Or.inr (own_sn (Or.inr (wx hw 92)) (Or.inr (wx hw 106))))).ext E60).other W65 (Or.inr (own_sn (Or.inr (wx hw 92)) (Or.inr (wx hw 109))))).ext E68).keep K71q (ninS ne_78 nin0)).other W75 (Or.inl ne_47)).ext E80).keep K83q (ninS ne_89 nin0)).other W86 (Or.inl ne_47)).ext E91).keep K94q (ninS ne_100 nin0)).other W97 (Or.inl ne_47)).ext E102).keep K105q (ninS ne_111 nin0)).other W108 (Or.inl ne_47)).keep K117q nin0).other W122 (Or.inr (own_sn (Or.inr (wx hw 92)) (Or.inr (wx hw 161))))
  have f_158 := (((((((((((((((Fw59.ext E60).other W65 (Or.inr (own_sn (Or.inr (wx hw 106)) (Or.inr (wx hw 109))))).ext E68).keep K71q (ninS ne_78 nin0)).other W75 (Or.inl ne_47)).ext E80).keep K83q (ninS ne_89 nin0)).other W86 (Or.inl ne_47)).ext E91).keep K94q (ninS ne_100 nin0)).other W97 (Or.inl ne_47)).ext E102).keep K105q (ninS ne_111 nin0)).other W108 (Or.inl ne_47)).keep K117q nin0).other W122 (Or.inr (own_sn (Or.inr (wx hw 106)) (Or.inr (wx hw 161))))
  have f_159 := (((((((((((((Fw65.ext E68).keep K71q (ninS ne_78 nin0)).other W75 (Or.inl ne_47)).ext E80).keep K83q (ninS ne_89 nin0)).other W86 (Or.inl ne_47)).ext E91).keep K94q (ninS ne_100 nin0)).other W97 (Or.inl ne_47)).ext E102).keep K105q (ninS ne_111 nin0)).other W108 (Or.inl ne_47)).keep K117q nin0).other W122 (Or.inr (own_sn (Or.inr (wx hw 109)) (Or.inr (wx hw 161))))
  have f_160 := (V108.keep K117q nin0).other W122 (Ne.symm ne_47)
  have ne_161 : b46 ≠ b52 := Nat.ne_of_lt lt_b52
  have ne_162 : b46 ≠ b68 := Nat.ne_of_lt (Nat.lt_trans (Nat.lt_trans (Nat.lt_trans lt_b52 lt_w55_va) lt_b60) lt_b68)
  have ne_163 : b42 ≠ b46 := Nat.ne_of_lt lt_b46
  have ne_164 : b46 ≠ b80 := Nat.ne_of_lt (Nat.lt_trans (Nat.lt_trans (Nat.lt_trans (Nat.lt_trans (Nat.lt_trans lt_b52 lt_w55_va) lt_b60) lt_b68) lt_w71_va) lt_b80)
  have ne_165 : b46 ≠ b91 := Nat.ne_of_lt (Nat.lt_trans (Nat.lt_trans (Nat.lt_trans (Nat.lt_trans (Nat.lt_trans (Nat.lt_trans (Nat.lt_trans lt_b52 lt_w55_va) lt_b60) lt_b68) lt_w71_va) lt_b80) lt_w83_va) lt_b91)
  have ne_166 : b46 ≠ b102 := Nat.ne_of_lt (Nat.lt_trans (Nat.lt_trans (Nat.lt_trans (Nat.lt_trans (Nat.lt_trans (Nat.lt_trans (Nat.lt_trans (Nat.lt_trans (Nat.lt_trans lt_b52 lt_w55_va) lt_b60) lt_b68) lt_w71_va) lt_b80) lt_w83_va) lt_b91) lt_w94_va) lt_b102)
  have f_167 := ((((((((((((((((((f_54.ext E52).keep K55q (ninS ne_161 nin0)).other W59 (Ne.symm ne_53)).ext E60).other W65 (Ne.symm ne_53)).ext E68).keep K71q (ninS ne_162 nin0)).other W75 (Ne.symm ne_163)).ext E80).keep K83q (ninS ne_164 nin0)).other W86 (Ne.symm ne_163)).ext E91).keep K94q (ninS ne_165 nin0)).other W97 (Ne.symm ne_163)).ext E102).keep K105q (ninS ne_166 nin0)).other W108 (Ne.symm ne_163)).keep K117q nin0).other W122 (Ne.symm ne_53)
  have f_168 := (((((((((((((((((A52.keep K55q).wr W59).ext E60).wr W65).ext E68).keep K71q).wr W75).ext E80).keep K83q).wr W86).ext E91).keep K94q).wr W97).ext E102).keep K105q).wr W108).keep K117q).wr W122
  have ne_169 : b52 ≠ b68 := Nat.ne_of_lt (Nat.lt_trans (Nat.lt_trans lt_w55_va lt_b60) lt_b68)
  have ne_170 : b52 ≠ b80 := Nat.ne_of_lt (Nat.lt_trans (Nat.lt_trans (Nat.lt_trans (Nat.lt_trans lt_w55_va lt_b60) lt_b68) lt_w71_va) lt_b80)
  have ne_171 : b52 ≠ b91 := Nat.ne_of_lt (Nat.lt_trans (Nat.lt_trans (Nat.lt_trans (Nat.lt_trans (Nat.lt_trans (Nat.lt_trans lt_w55_va lt_b60) lt_b68) lt_w71_va) lt_b80) lt_w83_va) lt_b91)
  have ne_172 : b52 ≠ b102 := Nat.ne_of_lt (Nat.lt_trans (Nat.lt_trans (Nat.lt_trans (Nat.lt_trans (Nat.lt_trans (Nat.lt_trans (Nat.lt_trans (Nat.lt_trans lt_w55_va lt_b60) lt_b68) lt_w71_va) lt_b80) lt_w83_va) lt_b91) lt_w94_va) lt_b102)
  have f_173 := ((((((((((((((((po55_0.other W59 (Or.inl (Ne.symm ne_56))).ext E60).other W65 (Or.inl (Ne.symm ne_56))).ext E68).keep K71q (ninS ne_169 nin0)).other W75 (Or.inl (Ne.symm ne_72))).ext E80).keep K83q (ninS ne_170 nin0)).other W86 (Or.inl (Ne.symm ne_72))).ext E91).keep K94q (ninS ne_171 nin0)).other W97 (Or.inl (Ne.symm ne_72))).ext E102).keep K105q (ninS ne_172 nin0)).other W108 (Or.inl (Ne.symm ne_72))).keep K117q nin0).other W122 (Or.inl (Ne.symm ne_56))
  have ne_174 : w55_va ≠ b68 := Nat.ne_of_lt (Nat.lt_trans lt_b60 lt_b68)
  have ne_175 : b42 ≠ w55_va := Nat.ne_of_lt (Nat.lt_trans (Nat.lt_trans lt_b46 lt_b52) lt_w55_va)
  have ne_176 : w55_va ≠ b80 := Nat.ne_of_lt (Nat.lt_trans (Nat.lt_trans (Nat.lt_trans lt_b60 lt_b68) lt_w71_va) lt_b80)
  have ne_177 : w55_va ≠ b91 := Nat.ne_of_lt (Nat.lt_trans (Nat.lt_trans (Nat.lt_trans (Nat.lt_trans (Nat.lt_trans lt_b60 lt_b68) lt_w71_va) lt_b80) lt_w83_va) lt_b91)
  have ne_178 : w55_va ≠ b102 := Nat.ne_of_lt (Nat.lt_trans (Nat.lt_trans (Nat.lt_trans (Nat.lt_trans (Nat.lt_trans (Nat.lt_trans (Nat.lt_trans lt_b60 lt_b68) lt_w71_va) lt_b80) lt_w83_va) lt_b91) lt_w94_va) lt_b102)
  have f_179 := (((((((((((((((f_62.ext E60).other W65 (Ne.symm ne_61)).ext E68).keep K71q (ninS ne_174 nin0)).other W75 (Ne.symm ne_175)).ext E80).keep K83q (ninS ne_176 nin0)).other W86 (Ne.symm ne_175)).ext E91).keep K94q (ninS ne_177 nin0)).other W97 (Ne.symm ne_175)).ext E102).keep K105q (ninS ne_178 nin0)).other W108 (Ne.symm ne_175)).keep K117q nin0).other W122 (Ne.symm ne_61)
  have ne_180 : b60 ≠ b68 := Nat.ne_of_lt lt_b68
  have ne_181 : b42 ≠ b60 := Nat.ne_of_lt (Nat.lt_trans (Nat.lt_trans (Nat.lt_trans lt_b46 lt_b52) lt_w55_va) lt_b60)
  have ne_182 : b60 ≠ b80 := Nat.ne_of_lt (Nat.lt_trans (Nat.lt_trans lt_b68 lt_w71_va) lt_b80)
  have ne_183 : b60 ≠ b91 := Nat.ne_of_lt (Nat.lt_trans (Nat.lt_trans (Nat.lt_trans (Nat.lt_trans lt_b68 lt_w71_va) lt_b80) lt_w83_va) lt_b91)
  have ne_184 : b60 ≠ b102 := Nat.ne_of_lt (Nat.lt_trans (Nat.lt_trans (Nat.lt_trans (Nat.lt_trans (Nat.lt_trans (Nat.lt_trans lt_b68 lt_w71_va) lt_b80) lt_w83_va) lt_b91) lt_w94_va) lt_b102)
  have f_185 := (((((((((((((f_70.ext E68).keep K71q (ninS ne_180 nin0)).other W75 (Ne.symm ne_181)).ext E80).keep K83q (ninS ne_182 nin0)).other W86 (Ne.symm ne_181)).ext E91).keep K94q (ninS ne_183 nin0)).other W97 (Ne.symm ne_181)).ext E102).keep K105q (ninS ne_184 nin0)).other W108 (Ne.symm ne_181)).keep K117q nin0).other W122 (Ne.symm ne_69)
  exact own_retV X122 hx hret hlk (dx hby dd14 39) e122 (by decide) (by decide) ⟨N122, (own_at [0, r0, b42, b46, b52, w55_va, b60, b68, w71_va, b80, w83_va, b91, w94_va, b102, w105_va]), rfl, K122, rfl, (fun i j a b c => by obtain ⟨i, rfl⟩ : ∃ z, i = z + 1 := ⟨i - 1, by omega⟩; obtain ⟨j, rfl⟩ : ∃ z, j = z + 1 := ⟨j - 1, by omega⟩; exact own_chain_inc (x := r0) (l := [b42, b46, b52, w55_va, b60, b68, w71_va, b80, w83_va, b91, w94_va, b102, w105_va]) ⟨lt_b42, lt_b46, lt_b52, lt_w55_va, lt_b60, lt_b68, lt_w71_va, lt_b80, lt_w83_va, lt_b91, lt_w94_va, lt_b102, lt_w105_va, trivial⟩ i j (by omega) (by show j < 14; omega)), (own_all15 (Or.inr rfl) (Or.inl ge_r0) (Or.inl ge_b42) (Or.inl ge_b46) (Or.inl ge_b52) (Or.inl gn_w55_va) (Or.inl ge_b60) (Or.inl ge_b68) (Or.inl gn_w71_va) (Or.inl ge_b80) (Or.inl gn_w83_va) (Or.inl ge_b91) (Or.inl gn_w94_va) (Or.inl ge_b102) (Or.inl gn_w105_va)), (own_all15 (Or.inr (by decide)) (Or.inr (by decide)) (Or.inl sz_b42) (Or.inl sz_b46) (Or.inl sz_b52) (Or.inl sz_w55_va) (Or.inl sz_b60) (Or.inl sz_b68) (Or.inl sz_w71_va) (Or.inl sz_b80) (Or.inl sz_w83_va) (Or.inl sz_b91) (Or.inl sz_w94_va) (Or.inl sz_b102) (Or.inl sz_w105_va)), (show own_RWB Z h122 (own_at [0, r0, b42, b46, b52, w55_va, b60, b68, w71_va, b80, w83_va, b91, w94_va, b102, w105_va]) 0 0 (fun _ _ => True) from ⟨f_155, f_156, f_157, f_158, f_159, ⟨_, f_160⟩, ⟨_, _, f_167, rfl, own_ints_z 4⟩, ⟨f_168, f_173, _, _, _, f_179, trivial⟩, ⟨_, _, f_185.pad (pad_rep [] _ 105), rfl, own_rows_z 105⟩, ⟨f_123, f_127, _, _, _, f_128, f_133, by decide, by decide, rfl, own_ints_z 5⟩, ⟨f_134, f_137, _, _, _, f_138, f_142, by decide, by decide, rfl, own_ints_z 5⟩, ⟨f_143, f_145, _, _, _, f_146, f_149, by decide, by decide, rfl, own_ints_z 5⟩, ⟨f_150, f_151, _, _, _, f_152, f_154, by decide, by decide, rfl, own_ints_z 5⟩⟩)⟩
/-- the objects of a new table: the table, its rows' objects, the rest -/
def own_A0 (a b : Addr) (B : Nat → Addr) (l : List Addr) (i : Nat) : Addr := match i with
  | 0 => a
  | 1 => b
  | i + 2 => if i < 13 then B (i + 2) else l.getD (i - 13) 0
theorem own_A0_B {a b : Addr} {B : Nat → Addr} {l : List Addr} (hb : B 1 = b) {i : Nat} (h1 : 1 ≤ i) (h2 : i ≤ 14) : own_A0 a b B l i = B i := by
  match i, h1, h2 with
  | 1, _, _ => exact hb.symm
  | i + 2, _, h => exact if_pos (by omega)
theorem own_A0_l {a b : Addr} {B : Nat → Addr} {l : List Addr} {i : Nat} (h1 : 15 ≤ i) : own_A0 a b B l i = l.getD (i - 15) 0 := by
  match i, h1 with
  | i + 2, h => show (if i < 13 then B (i + 2) else l.getD (i - 13) 0) = _; rw [if_neg (by omega)]; congr 1
theorem own_A0_inc {a b : Addr} {B : Nat → Addr} {l : List Addr} (hb : B 1 = b) (hab : a < b) (hB : ∀ i j, 1 ≤ i → i < j → j < 15 → B i < B j) (hl : own_chain (B 14) l) (hn : l.length = 10) : own_Inc (own_A0 a b B l) 25 := by
  have low : ∀ i, 1 ≤ i → i < 15 → a < B i ∧ B i ≤ B 14 := fun i h1 h2 => by
    constructor
    · rcases Nat.eq_or_lt_of_le h1 with e | e
      · rw [← e, hb]; exact hab
      · exact Nat.lt_trans (hb ▸ hab) (hB 1 i (Nat.le_refl _) e h2)
    · rcases Nat.eq_or_lt_of_le (Nat.le_of_lt_succ h2) with e | e
      · rw [e]; exact Nat.le_refl _
      · exact Nat.le_of_lt (hB i 14 h1 e (by decide))
  have top : ∀ j, 15 ≤ j → j < 25 → B 14 < own_A0 a b B l j := fun j h1 h2 => by
    rw [own_A0_l h1]; exact own_chain_lt hl _ (by omega)
  intro i j hij hj
  by_cases q : j < 15
  · rw [own_A0_B (i := j) hb (by omega) (by omega)]
    by_cases r : i = 0
    · rw [r]; exact (low j (by omega) q).1
    · rw [own_A0_B (i := i) hb (by omega) (by omega)]; exact hB i j (by omega) hij q
  · by_cases p : i < 15
    · by_cases r : i = 0
      · rw [r]; exact Nat.lt_trans (Nat.lt_of_lt_of_le (low 1 (by decide) (by decide)).1 (low 1 (by decide) (by decide)).2) (top j (by omega) hj)
      · rw [own_A0_B (i := i) hb (by omega) (by omega)]; exact Nat.lt_of_le_of_lt (low i (by omega) p).2 (top j (by omega) hj)
    · rw [own_A0_l (i := i) (by omega), own_A0_l (i := j) (by omega)]
      have z := own_chain_inc hl (i - 15 + 1) (j - 15 + 1) (by omega) (by omega)
      exact z
theorem own_A0_all {a b : Addr} {B : Nat → Addr} {l : List Addr} {Q : Addr → Prop} (hb : B 1 = b) (ha : Q a) (hB : ∀ i, i < 15 → Q (B i) ∨ i = 0) (hl : ∀ x, x ∈ l → Q x) (hn : l.length = 10) : ∀ i, i < 25 → Q (own_A0 a b B l i) := by
  intro i hi
  by_cases q : i = 0
  · rw [q]; exact ha
  · by_cases r : i < 15
    · rw [own_A0_B hb (by omega) (by omega)]; rcases hB i r with z | z
      · exact z
      · exact absurd z q
    · rw [own_A0_l (by omega), List.getD_eq_getElem?_getD, List.getElem?_eq_getElem (by omega)]; exact hl _ (List.getElem_mem _)
theorem own_RWB_congr {Z : State} {h : Heap} {A B : Nat → Addr} {lo b : Int} {P : Int64 → Int64 → Prop} (R : own_RWB Z h B lo b P) (e : ∀ i, 1 ≤ i → i ≤ 14 → A i = B i) : own_RWB Z h A lo b P := by
  unfold own_RWB at *
  rw [e 1 (by decide) (by decide), e 2 (by decide) (by decide), e 3 (by decide) (by decide), e 4 (by decide) (by decide), e 5 (by decide) (by decide), e 6 (by decide) (by decide), e 7 (by decide) (by decide), e 8 (by decide) (by decide), e 9 (by decide) (by decide), e 10 (by decide) (by decide), e 11 (by decide) (by decide), e 12 (by decide) (by decide), e 13 (by decide) (by decide), e 14 (by decide) (by decide)]
  exact R
def own_T1 (s0 : Int32) (vt : List Value) (i : Int32) (n : Nat) : Prop := (0 ≤ i.toInt ∧ i.toInt + (n : Int) = s0.toInt) ∧ own_ints vt ∧ 5 ≤ vt.length
theorem own_T1_s {s0 : Int32} {vt : List Value} {i : Int32} {n : Nat} (h : own_T1 s0 vt i n) (q : i < s0) : own_T1 s0 (vt.set i.toNatClampNeg (.int (0 : Int32))) (i + (1 : Int32)) (n - 1) := by
  obtain ⟨⟨a, b⟩, c, d⟩ := h
  rw [Int32.lt_iff_toInt_lt] at q
  obtain ⟨e1, e2⟩ := own_inc a q
  exact ⟨⟨by omega, by omega⟩, own_ints_set c _ _, by rw [List.length_set]; exact d⟩
theorem own_abv {B : Nat → Addr} {a b : Addr} (hb : B 1 = b) (hab : a < b) (hB : ∀ i j, 1 ≤ i → i < j → j < 15 → B i < B j) {i : Nat} (h1 : 1 ≤ i) (h2 : i ≤ 14) {x : Addr} (hx : x = a ∨ B 14 < x) : B i ≠ x := by
  have l1 : a < B i := by
    rcases Nat.eq_or_lt_of_le h1 with e | e
    · rw [← e, hb]; exact hab
    · exact Nat.lt_trans (hb ▸ hab) (hB 1 i (Nat.le_refl _) e (by omega))
  have l2 : B i ≤ B 14 := by
    rcases Nat.eq_or_lt_of_le h2 with e | e
    · rw [e]; exact Nat.le_refl _
    · exact Nat.le_of_lt (hB i 14 h1 e (by decide))
  rcases hx with e | e
  · rw [e]; exact (Nat.ne_of_lt l1).symm
  · exact Nat.ne_of_lt (Nat.lt_of_le_of_lt l2 e)
theorem own_inc_le {A : Nat → Addr} (hA : own_Inc A 25) {i : Nat} (hi : i < 25) : A i ≤ A 24 := by
  rcases Nat.eq_or_lt_of_le (Nat.le_of_lt_succ hi) with e | e
  · rw [e]; exact Nat.le_refl _
  · exact Nat.le_of_lt (hA i 24 e (by decide))
theorem dd13 : own_dec prog_66_method_1_code [(0, .aload_n 0, 1), (1, .invokespecial 1, 3), (4, .aload_n 0, 1), (5, .new 7, 3), (8, .dup, 1), (9, .invokespecial 9, 3), (12, .putfield 10, 3), (15, .aload_n 0, 1), (16, .new 16, 3), (19, .dup, 1), (20, .invokespecial 18, 3), (23, .putfield 19, 3), (26, .aload_n 0, 1), (27, .new 16, 3), (30, .dup, 1), (31, .invokespecial 18, 3), (34, .putfield 23, 3), (37, .aload_n 0, 1), (38, .bipush 105, 2), (40, .newarray .byte, 2), (42, .putfield 28, 3), (45, .iload_n 1, 1), (46, .iconst 2, 1), (47, .if_icmp .lt 9, 3), (50, .iload_n 1, 1), (51, .bipush 10, 2), (53, .if_icmp .le 17, 3), (56, .new 34, 3), (59, .dup, 1), (60, .iload_n 1, 1), (70, .aload_n 0, 1), (71, .iload_n 1, 1), (72, .putfield 43, 3), (75, .aload_n 0, 1), (76, .new 47, 3), (79, .dup, 1), (80, .iload_n 1, 1), (81, .invokespecial 49, 3), (84, .putfield 52, 3), (87, .iconst 0, 1), (88, .istore_n 2, 1), (89, .iload_n 2, 1), (90, .iload_n 1, 1), (91, .if_icmp .ge 17, 3), (94, .aload_n 0, 1), (95, .getfield 52, 3), (98, .iconst 0, 1), (99, .invokevirtual 56, 3), (102, .iinc 2 1, 3), (105, .goto (-16), 3), (108, .aload_n 0, 1), (109, .iload_n 1, 1), (110, .newarray .int, 2), (112, .putfield 59, 3), (115, .aload_n 0, 1), (116, .new 47, 3), (119, .dup, 1), (120, .iload_n 1, 1), (121, .invokespecial 49, 3), (124, .putfield 63, 3), (127, .aload_n 0, 1), (128, .iload_n 1, 1), (129, .putfield 66, 3), (132, .return_, 1)] := by unfold own_dec; decide +kernel
theorem ef_tbi (m : MethodId) (r0 : Addr) (p0 : Int32) : entryFrame m #[(.ref r0), (.int p0)] 3 = mkF m 0 #[vR r0, vI p0, vU] [] := by first | (simp [entryFrame, mkF, argsToLocals, Value.category, vI, vR, vU]; done) | rfl
def Qtbi (Z : State) (r0 : Addr) (p0 : Int32) (h0 : Heap) (n0 : Nat) (v : Option Value) (h : Heap) (L : List Loc) : Prop := Fr n0 L ∧ ∃ (A : Nat → Addr) (vt : List Value) (k16 : ClassId) (k18 : ClassId) (k19 : ClassId) (k21 : ClassId) (k22 : ClassId) (k24 : ClassId), v = none ∧ Keep h0 h [r0] ∧ A 0 = r0 ∧ own_Inc A 25 ∧ (∀ i, i < 25 → n0 ≤ A i) ∧ (∀ i, i < 25 → A i < h.size) ∧ (own_ints vt ∧ 5 ≤ vt.length) ∧ Exa Z h (A 0) "com/example/sixfold/sixfold/rows/Table" ∧ Fld Z h (A 0) "com/example/sixfold/sixfold/rows/Table" "rows" "Lcom/example/sixfold/sixfold/rows/Rows;" (.ref (A 1)) ∧ Fld Z h (A 0) "com/example/sixfold/sixfold/rows/Table" "totals" "Lcom/example/sixfold/sixfold/rows/IntList;" (.ref (A 20)) ∧ Fld Z h (A 0) "com/example/sixfold/sixfold/rows/Table" "played" "Lcom/example/sixfold/sixfold/rows/CardSet;" (.ref (A 15)) ∧ Fld Z h (A 0) "com/example/sixfold/sixfold/rows/Table" "order" "[I" (.ref (A 22)) ∧ Fld Z h (A 0) "com/example/sixfold/sixfold/rows/Table" "turn" "Lcom/example/sixfold/sixfold/rows/CardSet;" (.ref (A 17)) ∧ Fld Z h (A 0) "com/example/sixfold/sixfold/rows/Table" "seatRevealing" "[B" (.ref (A 19)) ∧ Fld Z h (A 0) "com/example/sixfold/sixfold/rows/Table" "revealed" "Lcom/example/sixfold/sixfold/rows/IntList;" (.ref (A 23)) ∧ Fld Z h (A 0) "com/example/sixfold/sixfold/rows/Table" "seats" "I" (.int p0) ∧ Fld Z h (A 0) "com/example/sixfold/sixfold/rows/Table" "placed" "I" (.int p0) ∧ Exa Z h (A 15) "com/example/sixfold/sixfold/rows/CardSet" ∧ Fld Z h (A 15) "com/example/sixfold/sixfold/rows/CardSet" "words" "[J" (.ref (A 16)) ∧ Arv Z h (A 16) k16 .long (2 : Int32) [(.long (0 : Int64)), (.long (0 : Int64))] (.long (0 : Int64)) ∧ Exa Z h (A 17) "com/example/sixfold/sixfold/rows/CardSet" ∧ Fld Z h (A 17) "com/example/sixfold/sixfold/rows/CardSet" "words" "[J" (.ref (A 18)) ∧ Arv Z h (A 18) k18 .long (2 : Int32) [(.long (0 : Int64)), (.long (0 : Int64))] (.long (0 : Int64)) ∧ Arv Z h (A 19) k19 .byte (105 : Int32) (List.replicate 105 (.int (0 : Int32))) (.int (0 : Int32)) ∧ Exa Z h (A 20) "com/example/sixfold/sixfold/rows/IntList" ∧ Fld Z h (A 20) "com/example/sixfold/sixfold/rows/IntList" "values" "[I" (.ref (A 21)) ∧ Fld Z h (A 20) "com/example/sixfold/sixfold/rows/IntList" "size" "I" (.int p0) ∧ Arv Z h (A 21) k21 .int p0 vt (.int (0 : Int32)) ∧ Arv Z h (A 22) k22 .int p0 [(.int (0 : Int32)), (.int (0 : Int32)), (.int (0 : Int32)), (.int (0 : Int32)), (.int (0 : Int32))] (.int (0 : Int32)) ∧ Exa Z h (A 23) "com/example/sixfold/sixfold/rows/IntList" ∧ Fld Z h (A 23) "com/example/sixfold/sixfold/rows/IntList" "values" "[I" (.ref (A 24)) ∧ Fld Z h (A 23) "com/example/sixfold/sixfold/rows/IntList" "size" "I" (.int (0 : Int32)) ∧ Arv Z h (A 24) k24 .int p0 [(.int (0 : Int32)), (.int (0 : Int32)), (.int (0 : Int32)), (.int (0 : Int32)), (.int (0 : Int32))] (.int (0 : Int32)) ∧ own_RWB Z h A 0 0 (fun _ _ => True)
set_option maxRecDepth 65536 in
set_option maxHeartbeats 40000000 in
theorem rmtbi (l : Launch) (Z : State) (a0 : Array Value) (hw : ∀ d ∈ tables_1, d.before a0 Z = true) (ws : List Jvm.Cond) (r0 : Addr) (p0 : Int32) (h0 : Heap) (n0 : Nat) (Z0 : n0 ≤ h0.size) (P0 : Exa Z h0 r0 "com/example/sixfold/sixfold/rows/Table") (P1 : Fld Z h0 r0 "com/example/sixfold/sixfold/rows/Table" "rows" "Lcom/example/sixfold/sixfold/rows/Rows;" .null) (P2 : Fld Z h0 r0 "com/example/sixfold/sixfold/rows/Table" "totals" "Lcom/example/sixfold/sixfold/rows/IntList;" .null) (P3 : Fld Z h0 r0 "com/example/sixfold/sixfold/rows/Table" "played" "Lcom/example/sixfold/sixfold/rows/CardSet;" .null) (P4 : Fld Z h0 r0 "com/example/sixfold/sixfold/rows/Table" "order" "[I" .null) (P5 : Fld Z h0 r0 "com/example/sixfold/sixfold/rows/Table" "turn" "Lcom/example/sixfold/sixfold/rows/CardSet;" .null) (P6 : Fld Z h0 r0 "com/example/sixfold/sixfold/rows/Table" "seatRevealing" "[B" .null) (P7 : Fld Z h0 r0 "com/example/sixfold/sixfold/rows/Table" "revealed" "Lcom/example/sixfold/sixfold/rows/IntList;" .null) (P8 : Fld Z h0 r0 "com/example/sixfold/sixfold/rows/Table" "seats" "I" (.int (0 : Int32))) (P9 : Fld Z h0 r0 "com/example/sixfold/sixfold/rows/Table" "placed" "I" (.int (0 : Int32))) (ge_r0 : n0 ≤ r0) (hs : 2 ≤ p0.toInt ∧ p0.toInt ≤ 4) :
    own_Cw l Z (⟨"com/example/sixfold/sixfold/rows/Table", "<init>", "(I)V"⟩ : MethodName) prog_66_method_1_code 3 none ws (own_rr 8 26 294 106) #[(.ref r0), (.int p0)] h0 (Qtbi Z r0 p0 h0 n0) := by
  refine own_body (plainFor_of_name pn_com_example_sixfold_sixfold_rows_Table) ?_
  intro p e s m below meth c s₁ hx hby hml hZ hown hnm hret hlk X0 e0
  have N0 := Fr.nil n0
  refine own_go (fun t k => castTop (ef_tbi m r0 p0) k) ?_
  refine sa X0 hx (dx hby dd13 0) ?_
  obtain ⟨T41, X41, e41, st41⟩ := initO X0 hx hZ hown (wx hw 79) (wx hw 25) (wx hw 26) e0 (g := (mkF m 1 #[vR r0, vI p0, vU] [(.ref r0)])) rfl (by rw [hml]; rfl) rfl (dx hby dd13 1) (by decide) (W := 0) (by show 2 * 0 + _ ≤ _; exact Nat.le_of_eq rfl) (by decide)
  refine og (st41 _) ?_
  refine sa X41 hx (dx hby dd13 2) ?_
  show own_Gl _ _ _ _ (T41.setTop (mkF m 5 #[vR r0, vI p0, vU] [(.ref r0)]))
  obtain ⟨T42, h42, X42, e42, E42, A42, D42, -, st42⟩ := newO X41 hx hZ hown (wx hw 80) (wx hw 81) (wx hw 82) e41 (g := (mkF m 5 #[vR r0, vI p0, vU] [(.ref r0)])) rfl (dx hby dd13 3) (by decide) (by decide)
  obtain ⟨b42, g42⟩ : ∃ z, z = h0.size := ⟨_, rfl⟩
  rw [← g42] at A42 D42 st42
  have lt_b42 : r0 < b42 := Nat.lt_of_lt_of_le P0.lt (Nat.le_of_eq g42.symm)
  have ge_b42 : n0 ≤ b42 := Nat.le_trans Z0 (Nat.le_of_eq g42.symm)
  have sz_b42 : h0.size ≤ b42 := Nat.le_trans (Keep.refl h0 [r0]).1 (Nat.le_of_eq g42.symm)
  refine og (st42 _) ?_
  have K42 : Keep h0 h42 [r0] := (Keep.refl h0 [r0]).ext E42
  have Z42 : n0 ≤ h42.size := Nat.le_trans Z0 E42.1
  have F42_90 : Fld Z h42 b42 "com/example/sixfold/sixfold/rows/Rows" "cards" "[Lcom/example/sixfold/sixfold/rows/IntList;" .null := D42 (Or.inr (wx hw 90)) (ty := (.array (.object "com/example/sixfold/sixfold/rows/IntList"))) (by decide)
  have F42_92 : Fld Z h42 b42 "com/example/sixfold/sixfold/rows/Rows" "heads" "[I" .null := D42 (Or.inr (wx hw 92)) (ty := (.array .int)) (by decide)
  have F42_106 : Fld Z h42 b42 "com/example/sixfold/sixfold/rows/Rows" "lasts" "Lcom/example/sixfold/sixfold/rows/CardSet;" .null := D42 (Or.inr (wx hw 106)) (ty := (.object "com/example/sixfold/sixfold/rows/CardSet")) (by decide)
  have F42_109 : Fld Z h42 b42 "com/example/sixfold/sixfold/rows/Rows" "rowEnding" "[B" .null := D42 (Or.inr (wx hw 109)) (ty := (.array .byte)) (by decide)
  have F42_161 : Fld Z h42 b42 "com/example/sixfold/sixfold/rows/Rows" "view" "Ljava/util/List;" .null := D42 (Or.inr (wx hw 161)) (ty := (.object "java/util/List")) (by decide)
  refine og (XS.dup X42.here hx rfl (dx hby dd13 4) rfl rfl) ?_
  refine oc_special X42 hx hZ hown rfl (wx hw 83) (wx hw 84) (wx hw 82) (wx hw 85) (by decide) (W := 2) (rmrwi l Z a0 hw [] b42 h42 n0 Z42 A42 F42_90 F42_92 F42_106 F42_109 F42_161 ge_b42) (by decide) (by decide) (a := b42) (argsL := []) (rest := [(.ref b42), (.ref r0)]) (by rw [hml]; rfl) (lenOf pd_4 rfl) rfl (Nat.le_of_eq rfl) (dx hby dd13 5) rfl e42 (by decide) (by decide) (fun v43 T43 Lc43 hQ43 X43 => ?_)
  obtain ⟨N43q, B, rfl, K43q, qx43_0, qx43_1, qx43_2, qx43_3, po43_0⟩ := hQ43
  have N43 := Fr.app N0 N43q
  have K43 : Keep h0 T43.heap [r0] := K42.trans K43q (allS (Or.inr sz_b42) all0)
  have Z43 : n0 ≤ T43.heap.size := Nat.le_trans Z42 K43q.1
  have qB := qx43_0
  obtain ⟨-, -, k14, n14, vs14, -, b14, -⟩ := own_RWB_il po43_0 (r := 3) (i := 13) (j := 14) (by decide) rfl rfl
  have abv : ∀ i, 1 ≤ i → i ≤ 14 → ∀ x, (x = r0 ∨ B 14 < x) → B i ≠ x := fun i h1 h2 x hx => own_abv qB lt_b42 qx43_1 h1 h2 hx
  have r14 : r0 < B 14 := Nat.lt_trans (qB ▸ lt_b42) (qx43_1 1 14 (by decide) (by decide) (by decide))
  have q1 := qx43_1
  have q2 := qx43_2
  have q3 := qx43_3
  show own_Gl _ _ _ _ (T43.setTop (mkF m 12 #[vR r0, vI p0, vU] [(.ref b42), (.ref r0)]))
  have f_44 := (P0.ext E42).keep K43q
  have f_45 := A42.keep K43q
  have ne_46 : r0 ≠ b42 := ne_exa f_44 f_45 (by decide)
  have f_47 := (P1.ext E42).keep K43q (ninS ne_46 nin0)
  have f_48 := (P0.ext E42).keep K43q
  refine oc_putF X43 hx hZ hown (host := "") (Or.inl (wx hw 162)) Via.refl rfl f_47 f_48 (Or.inr ⟨(wx hw 163), rfl, hnm⟩) (wx hw 74) (ty := (.object "com/example/sixfold/sixfold/rows/Rows")) (by decide) rfl rfl (dx hby dd13 6) (fun T49 h49 X49 e49 W49 => ?_)
  have Fw49 : Fld Z h49 r0 "com/example/sixfold/sixfold/rows/Table" "rows" "Lcom/example/sixfold/sixfold/rows/Rows;" (.ref b42) := f_47.same W49
  have K49 : Keep h0 h49 [r0] := K43.wr W49 (Or.inl (List.mem_of_getElem? (i := 0) rfl))
  have N49 := Fr.snoc X49 N43 ge_r0
  have Z49 : n0 ≤ h49.size := Nat.le_trans Z43 (Keep.of_wr W49).1
  refine sa X49 hx (dx hby dd13 7) ?_
  show own_Gl _ _ _ _ (T49.setTop (mkF m 16 #[vR r0, vI p0, vU] [(.ref r0)]))
  obtain ⟨T50, h50, X50, e50, E50, A50, D50, -, st50⟩ := newO X49 hx hZ hown (wx hw 164) (wx hw 94) (wx hw 95) e49 (g := (mkF m 16 #[vR r0, vI p0, vU] [(.ref r0)])) rfl (dx hby dd13 8) (by decide) (by decide)
  obtain ⟨b50, g50⟩ : ∃ z, z = h49.size := ⟨_, rfl⟩
  rw [← g50] at A50 D50 st50
  have ne_51 : r0 ≠ (B 14) := Nat.ne_of_lt r14
  have f_52 := b14.other W49 (Ne.symm ne_51)
  have lt_b50 : (B 14) < b50 := Nat.lt_of_lt_of_le f_52.lt (Nat.le_of_eq g50.symm)
  have ge_b50 : n0 ≤ b50 := Nat.le_trans Z49 (Nat.le_of_eq g50.symm)
  have sz_b50 : h0.size ≤ b50 := Nat.le_trans K49.1 (Nat.le_of_eq g50.symm)
  refine og (st50 _) ?_
  have K50 : Keep h0 h50 [r0] := K49.ext E50
  have Z50 : n0 ≤ h50.size := Nat.le_trans Z49 E50.1
  have F50_101 : Fld Z h50 b50 "java/util/AbstractList" "modCount" "I" (.int (0 : Int32)) := D50 (Or.inl (wx hw 101)) (ty := .int) (by decide)
  have F50_104 : Fld Z h50 b50 "com/example/sixfold/sixfold/rows/CardSet" "words" "[J" .null := D50 (Or.inr (wx hw 104)) (ty := (.array .long)) (by decide)
  refine og (XS.dup X50.here hx rfl (dx hby dd13 9) rfl rfl) ?_
  refine oc_special X50 hx hZ hown rfl (wx hw 165) (wx hw 97) (wx hw 95) (wx hw 98) (by decide) (W := 2) (rmcsi l Z a0 hw [] b50 h50 n0 Z50 A50 F50_101 F50_104 ge_b50) (by decide) (by decide) (a := b50) (argsL := []) (rest := [(.ref b50), (.ref r0)]) (by rw [hml]; rfl) (lenOf pd_4 rfl) rfl (Nat.le_of_eq rfl) (dx hby dd13 10) rfl e50 (by decide) (by decide) (fun v53 T53 Lc53 hQ53 X53 => ?_)
  obtain ⟨N53q, w53_va, w53_kI, gn_w53_va, sz0_w53_va, rfl, K53q, po53_0, po53_1⟩ := hQ53
  have N53 := Fr.app N49 N53q
  have lt_w53_va : b50 < w53_va := Nat.lt_of_lt_of_le A50.lt sz0_w53_va
  have sz_w53_va : h0.size ≤ w53_va := Nat.le_trans K50.1 sz0_w53_va
  have K53 : Keep h0 T53.heap [r0] := K50.trans K53q (allS (Or.inr sz_b50) all0)
  have Z53 : n0 ≤ T53.heap.size := Nat.le_trans Z50 K53q.1
  show own_Gl _ _ _ _ (T53.setTop (mkF m 23 #[vR r0, vI p0, vU] [(.ref b50), (.ref r0)]))
  have ne_54 : r0 ≠ b50 := Nat.ne_of_lt (Nat.lt_trans r14 lt_b50)
  have f_55 := ((((P3.ext E42).keep K43q (ninS ne_46 nin0)).other W49 (Or.inr (own_sn (Or.inr (wx hw 167)) (Or.inr (wx hw 163))))).ext E50).keep K53q (ninS ne_54 nin0)
  have f_56 := ((f_48.wr W49).ext E50).keep K53q
  refine oc_putF X53 hx hZ hown (host := "") (Or.inl (wx hw 166)) Via.refl rfl f_55 f_56 (Or.inr ⟨(wx hw 167), rfl, hnm⟩) (wx hw 74) (ty := (.object "com/example/sixfold/sixfold/rows/CardSet")) (by decide) rfl rfl (dx hby dd13 11) (fun T57 h57 X57 e57 W57 => ?_)
  have Fw57 : Fld Z h57 r0 "com/example/sixfold/sixfold/rows/Table" "played" "Lcom/example/sixfold/sixfold/rows/CardSet;" (.ref b50) := f_55.same W57
  have K57 : Keep h0 h57 [r0] := K53.wr W57 (Or.inl (List.mem_of_getElem? (i := 0) rfl))
  have N57 := Fr.snoc X57 N53 ge_r0
  have Z57 : n0 ≤ h57.size := Nat.le_trans Z53 (Keep.of_wr W57).1
  refine sa X57 hx (dx hby dd13 12) ?_
  show own_Gl _ _ _ _ (T57.setTop (mkF m 27 #[vR r0, vI p0, vU] [(.ref r0)]))
  obtain ⟨T58, h58, X58, e58, E58, A58, D58, -, st58⟩ := newO X57 hx hZ hown (wx hw 164) (wx hw 94) (wx hw 95) e57 (g := (mkF m 27 #[vR r0, vI p0, vU] [(.ref r0)])) rfl (dx hby dd13 13) (by decide) (by decide)
  obtain ⟨b58, g58⟩ : ∃ z, z = h57.size := ⟨_, rfl⟩
  rw [← g58] at A58 D58 st58
  have ne_59 : r0 ≠ w53_va := Nat.ne_of_lt (Nat.lt_trans (Nat.lt_trans r14 lt_b50) lt_w53_va)
  have f_60 := po53_1.other W57 (Ne.symm ne_59)
  have lt_b58 : w53_va < b58 := Nat.lt_of_lt_of_le f_60.lt (Nat.le_of_eq g58.symm)
  have ge_b58 : n0 ≤ b58 := Nat.le_trans Z57 (Nat.le_of_eq g58.symm)
  have sz_b58 : h0.size ≤ b58 := Nat.le_trans K57.1 (Nat.le_of_eq g58.symm)
  refine og (st58 _) ?_
  have K58 : Keep h0 h58 [r0] := K57.ext E58
  have Z58 : n0 ≤ h58.size := Nat.le_trans Z57 E58.1
  have F58_101 : Fld Z h58 b58 "java/util/AbstractList" "modCount" "I" (.int (0 : Int32)) := D58 (Or.inl (wx hw 101)) (ty := .int) (by decide)
  have F58_104 : Fld Z h58 b58 "com/example/sixfold/sixfold/rows/CardSet" "words" "[J" .null := D58 (Or.inr (wx hw 104)) (ty := (.array .long)) (by decide)
  refine og (XS.dup X58.here hx rfl (dx hby dd13 14) rfl rfl) ?_
  refine oc_special X58 hx hZ hown rfl (wx hw 165) (wx hw 97) (wx hw 95) (wx hw 98) (by decide) (W := 2) (rmcsi l Z a0 hw [] b58 h58 n0 Z58 A58 F58_101 F58_104 ge_b58) (by decide) (by decide) (a := b58) (argsL := []) (rest := [(.ref b58), (.ref r0)]) (by rw [hml]; rfl) (lenOf pd_4 rfl) rfl (Nat.le_of_eq rfl) (dx hby dd13 15) rfl e58 (by decide) (by decide) (fun v61 T61 Lc61 hQ61 X61 => ?_)
  obtain ⟨N61q, w61_va, w61_kI, gn_w61_va, sz0_w61_va, rfl, K61q, po61_0, po61_1⟩ := hQ61
  have N61 := Fr.app N57 N61q
  have lt_w61_va : b58 < w61_va := Nat.lt_of_lt_of_le A58.lt sz0_w61_va
  have sz_w61_va : h0.size ≤ w61_va := Nat.le_trans K58.1 sz0_w61_va
  have K61 : Keep h0 T61.heap [r0] := K58.trans K61q (allS (Or.inr sz_b58) all0)
  have Z61 : n0 ≤ T61.heap.size := Nat.le_trans Z58 K61q.1
  show own_Gl _ _ _ _ (T61.setTop (mkF m 34 #[vR r0, vI p0, vU] [(.ref b58), (.ref r0)]))
  have ne_62 : r0 ≠ b58 := Nat.ne_of_lt (Nat.lt_trans (Nat.lt_trans (Nat.lt_trans r14 lt_b50) lt_w53_va) lt_b58)
  have f_63 := (((((((P5.ext E42).keep K43q (ninS ne_46 nin0)).other W49 (Or.inr (own_sn (Or.inr (wx hw 169)) (Or.inr (wx hw 163))))).ext E50).keep K53q (ninS ne_54 nin0)).other W57 (Or.inr (own_sn (Or.inr (wx hw 169)) (Or.inr (wx hw 167))))).ext E58).keep K61q (ninS ne_62 nin0)
  have f_64 := ((f_56.wr W57).ext E58).keep K61q
  refine oc_putF X61 hx hZ hown (host := "") (Or.inl (wx hw 168)) Via.refl rfl f_63 f_64 (Or.inr ⟨(wx hw 169), rfl, hnm⟩) (wx hw 74) (ty := (.object "com/example/sixfold/sixfold/rows/CardSet")) (by decide) rfl rfl (dx hby dd13 16) (fun T65 h65 X65 e65 W65 => ?_)
  have Fw65 : Fld Z h65 r0 "com/example/sixfold/sixfold/rows/Table" "turn" "Lcom/example/sixfold/sixfold/rows/CardSet;" (.ref b58) := f_63.same W65
  have K65 : Keep h0 h65 [r0] := K61.wr W65 (Or.inl (List.mem_of_getElem? (i := 0) rfl))
  have N65 := Fr.snoc X65 N61 ge_r0
  have Z65 : n0 ≤ h65.size := Nat.le_trans Z61 (Keep.of_wr W65).1
  refine sa X65 hx (dx hby dd13 17) ?_
  refine og (XS.bipush X65.here hx rfl (dx hby dd13 18)) ?_
  show own_Gl _ _ _ _ (T65.setTop (mkF m 40 #[vR r0, vI p0, vU] [(.int (105 : Int32)), (.ref r0)]))
  obtain ⟨T66, h66, k66, X66, e66, E66, A66, st66⟩ := newP X65 hx hZ (aty := .byte) (wx hw 107) e65 (g := (mkF m 40 #[vR r0, vI p0, vU] [(.int (105 : Int32)), (.ref r0)])) rfl (dx hby dd13 19) rfl (by decide) (cap := 105) (by decide) (by decide) (by decide) (by decide)
  obtain ⟨b66, g66⟩ : ∃ z, z = h65.size := ⟨_, rfl⟩
  rw [← g66] at A66 st66
  have ne_67 : r0 ≠ w61_va := Nat.ne_of_lt (Nat.lt_trans (Nat.lt_trans (Nat.lt_trans (Nat.lt_trans r14 lt_b50) lt_w53_va) lt_b58) lt_w61_va)
  have f_68 := po61_1.other W65 (Ne.symm ne_67)
  have lt_b66 : w61_va < b66 := Nat.lt_of_lt_of_le f_68.lt (Nat.le_of_eq g66.symm)
  have ge_b66 : n0 ≤ b66 := Nat.le_trans Z65 (Nat.le_of_eq g66.symm)
  have sz_b66 : h0.size ≤ b66 := Nat.le_trans K65.1 (Nat.le_of_eq g66.symm)
  refine og (st66 _) ?_
  have K66 : Keep h0 h66 [r0] := K65.ext E66
  have Z66 : n0 ≤ h66.size := Nat.le_trans Z65 E66.1
  have V66 : Arv Z h66 b66 k66 .byte (105 : Int32) [] (.int (0 : Int32)) := (Arv.new A66 (by decide)).pad (pad_rep [] (.int (0 : Int32)) 0)
  show own_Gl _ _ _ _ (T66.setTop (mkF m 42 #[vR r0, vI p0, vU] [(.ref b66), (.ref r0)]))
  have f_69 := (((((((((P6.ext E42).keep K43q (ninS ne_46 nin0)).other W49 (Or.inr (own_sn (Or.inr (wx hw 171)) (Or.inr (wx hw 163))))).ext E50).keep K53q (ninS ne_54 nin0)).other W57 (Or.inr (own_sn (Or.inr (wx hw 171)) (Or.inr (wx hw 167))))).ext E58).keep K61q (ninS ne_62 nin0)).other W65 (Or.inr (own_sn (Or.inr (wx hw 171)) (Or.inr (wx hw 169))))).ext E66
  have f_70 := (f_64.wr W65).ext E66
  refine oc_putF X66 hx hZ hown (host := "") (Or.inl (wx hw 170)) Via.refl e66 f_69 f_70 (Or.inr ⟨(wx hw 171), rfl, hnm⟩) (wx hw 74) (ty := (.array .byte)) (by decide) rfl rfl (dx hby dd13 20) (fun T71 h71 X71 e71 W71 => ?_)
  have Fw71 : Fld Z h71 r0 "com/example/sixfold/sixfold/rows/Table" "seatRevealing" "[B" (.ref b66) := f_69.same W71
  have K71 : Keep h0 h71 [r0] := K66.wr W71 (Or.inl (List.mem_of_getElem? (i := 0) rfl))
  have N71 := Fr.snoc X71 N65 ge_r0
  have Z71 : n0 ≤ h71.size := Nat.le_trans Z66 (Keep.of_wr W71).1
  refine si X71 hx (dx hby dd13 21) ?_
  refine sc X71 hx (dx hby dd13 22) ?_
  have hp72 : ¬ (p0 < (2 : Int32)) := fun q => by have z : (2 : Int32).toInt = 2 := rfl; rw [Int32.lt_iff_toInt_lt] at q; omega
  refine og (XS.icmpNo X71.here hx rfl (dx hby dd13 23) rfl (flt hp72).1) ?_
  refine si X71 hx (dx hby dd13 24) ?_
  refine og (XS.bipush X71.here hx rfl (dx hby dd13 25)) ?_
  have hp73 : ¬ ((10 : Int32) < p0) := fun q => by have z : (10 : Int32).toInt = 10 := rfl; rw [Int32.lt_iff_toInt_lt] at q; omega
  refine og (XS.icmpYes X71.here hx rfl (pc0 := 53) (pc' := 70) rfl (dx hby dd13 26) rfl (flt hp73).2.2.2 (by decide) (by decide)) ?_
  refine sa X71 hx (dx hby dd13 30) ?_
  refine si X71 hx (dx hby dd13 31) ?_
  show own_Gl _ _ _ _ (T71.setTop (mkF m 72 #[vR r0, vI p0, vU] [(.int p0), (.ref r0)]))
  have f_74 := ((((((((((P8.ext E42).keep K43q (ninS ne_46 nin0)).other W49 (Or.inr (own_sn (Or.inr (wx hw 173)) (Or.inr (wx hw 163))))).ext E50).keep K53q (ninS ne_54 nin0)).other W57 (Or.inr (own_sn (Or.inr (wx hw 173)) (Or.inr (wx hw 167))))).ext E58).keep K61q (ninS ne_62 nin0)).other W65 (Or.inr (own_sn (Or.inr (wx hw 173)) (Or.inr (wx hw 169))))).ext E66).other W71 (Or.inr (own_sn (Or.inr (wx hw 173)) (Or.inr (wx hw 171))))
  have f_75 := f_70.wr W71
  refine oc_putF X71 hx hZ hown (host := "") (Or.inl (wx hw 172)) Via.refl e71 f_74 f_75 (Or.inr ⟨(wx hw 173), rfl, hnm⟩) (wx hw 74) (ty := .int) (by decide) rfl rfl (dx hby dd13 32) (fun T76 h76 X76 e76 W76 => ?_)
  have Fw76 : Fld Z h76 r0 "com/example/sixfold/sixfold/rows/Table" "seats" "I" (.int p0) := f_74.same W76
  have K76 : Keep h0 h76 [r0] := K71.wr W76 (Or.inl (List.mem_of_getElem? (i := 0) rfl))
  have N76 := Fr.snoc X76 N71 ge_r0
  have Z76 : n0 ≤ h76.size := Nat.le_trans Z71 (Keep.of_wr W76).1
  refine sa X76 hx (dx hby dd13 33) ?_
  show own_Gl _ _ _ _ (T76.setTop (mkF m 76 #[vR r0, vI p0, vU] [(.ref r0)]))
  obtain ⟨T77, h77, X77, e77, E77, A77, D77, -, st77⟩ := newO X76 hx hZ hown (wx hw 174) (wx hw 110) (wx hw 111) e76 (g := (mkF m 76 #[vR r0, vI p0, vU] [(.ref r0)])) rfl (dx hby dd13 34) (by decide) (by decide)
  obtain ⟨b77, g77⟩ : ∃ z, z = h76.size := ⟨_, rfl⟩
  rw [← g77] at A77 D77 st77
  have ne_78 : r0 ≠ b66 := Nat.ne_of_lt (Nat.lt_trans (Nat.lt_trans (Nat.lt_trans (Nat.lt_trans (Nat.lt_trans r14 lt_b50) lt_w53_va) lt_b58) lt_w61_va) lt_b66)
  have f_79 := (V66.other W71 (Ne.symm ne_78)).other W76 (Ne.symm ne_78)
  have lt_b77 : b66 < b77 := Nat.lt_of_lt_of_le f_79.lt (Nat.le_of_eq g77.symm)
  have ge_b77 : n0 ≤ b77 := Nat.le_trans Z76 (Nat.le_of_eq g77.symm)
  have sz_b77 : h0.size ≤ b77 := Nat.le_trans K76.1 (Nat.le_of_eq g77.symm)
  refine og (st77 _) ?_
  have K77 : Keep h0 h77 [r0] := K76.ext E77
  have Z77 : n0 ≤ h77.size := Nat.le_trans Z76 E77.1
  have F77_117 : Fld Z h77 b77 "java/util/AbstractList" "modCount" "I" (.int (0 : Int32)) := D77 (Or.inl (wx hw 117)) (ty := .int) (by decide)
  have F77_119 : Fld Z h77 b77 "com/example/sixfold/sixfold/rows/IntList" "values" "[I" .null := D77 (Or.inr (wx hw 119)) (ty := (.array .int)) (by decide)
  have F77_184 : Fld Z h77 b77 "com/example/sixfold/sixfold/rows/IntList" "size" "I" (.int (0 : Int32)) := D77 (Or.inl (wx hw 184)) (ty := .int) (by decide)
  refine og (XS.dup X77.here hx rfl (dx hby dd13 35) rfl rfl) ?_
  refine si X77 hx (dx hby dd13 36) ?_
  refine oc_special X77 hx hZ hown rfl (wx hw 175) (wx hw 113) (wx hw 111) (wx hw 114) (by decide) (W := 2) (rmili l Z a0 hw [] b77 p0 h77 n0 Z77 A77 F77_117 F77_119 F77_184 ge_b77 (by rw [Int32.lt_iff_toInt_lt]; have z : (0 : Int32).toInt = 0 := rfl; omega) (by simp only [Int32.toNatClampNeg]; omega)) (by decide) (by decide) (a := b77) (argsL := [(.int p0)]) (rest := [(.ref b77), (.ref r0)]) (by rw [hml]; rfl) (lenOf pd_14 rfl) rfl (Nat.le_of_eq rfl) (dx hby dd13 37) rfl e77 (by decide) (by decide) (fun v80 T80 Lc80 hQ80 X80 => ?_)
  obtain ⟨N80q, w80_va, w80_kI, gn_w80_va, sz0_w80_va, rfl, K80q, po80_0, po80_1, po80_2⟩ := hQ80
  have N80 := Fr.app N76 N80q
  have lt_w80_va : b77 < w80_va := Nat.lt_of_lt_of_le A77.lt sz0_w80_va
  have sz_w80_va : h0.size ≤ w80_va := Nat.le_trans K77.1 sz0_w80_va
  have K80 : Keep h0 T80.heap [r0] := K77.trans K80q (allS (Or.inr sz_b77) all0)
  have Z80 : n0 ≤ T80.heap.size := Nat.le_trans Z77 K80q.1
  show own_Gl _ _ _ _ (T80.setTop (mkF m 84 #[vR r0, vI p0, vU] [(.ref b77), (.ref r0)]))
  have ne_81 : r0 ≠ b77 := Nat.ne_of_lt (Nat.lt_trans (Nat.lt_trans (Nat.lt_trans (Nat.lt_trans (Nat.lt_trans (Nat.lt_trans r14 lt_b50) lt_w53_va) lt_b58) lt_w61_va) lt_b66) lt_b77)
  have f_82 := (((((((((((((P2.ext E42).keep K43q (ninS ne_46 nin0)).other W49 (Or.inr (own_sn (Or.inr (wx hw 177)) (Or.inr (wx hw 163))))).ext E50).keep K53q (ninS ne_54 nin0)).other W57 (Or.inr (own_sn (Or.inr (wx hw 177)) (Or.inr (wx hw 167))))).ext E58).keep K61q (ninS ne_62 nin0)).other W65 (Or.inr (own_sn (Or.inr (wx hw 177)) (Or.inr (wx hw 169))))).ext E66).other W71 (Or.inr (own_sn (Or.inr (wx hw 177)) (Or.inr (wx hw 171))))).other W76 (Or.inr (own_sn (Or.inr (wx hw 177)) (Or.inr (wx hw 173))))).ext E77).keep K80q (ninS ne_81 nin0)
  have f_83 := ((f_75.wr W76).ext E77).keep K80q
  refine oc_putF X80 hx hZ hown (host := "") (Or.inl (wx hw 176)) Via.refl rfl f_82 f_83 (Or.inr ⟨(wx hw 177), rfl, hnm⟩) (wx hw 74) (ty := (.object "com/example/sixfold/sixfold/rows/IntList")) (by decide) rfl rfl (dx hby dd13 38) (fun T84 h84 X84 e84 W84 => ?_)
  have Fw84 : Fld Z h84 r0 "com/example/sixfold/sixfold/rows/Table" "totals" "Lcom/example/sixfold/sixfold/rows/IntList;" (.ref b77) := f_82.same W84
  have K84 : Keep h0 h84 [r0] := K80.wr W84 (Or.inl (List.mem_of_getElem? (i := 0) rfl))
  have N84 := Fr.snoc X84 N80 ge_r0
  have Z84 : n0 ≤ h84.size := Nat.le_trans Z80 (Keep.of_wr W84).1
  refine sc X84 hx (dx hby dd13 39) ?_
  refine og (XS.istoreN X84.here hx rfl (dx hby dd13 40) rfl (l' := #[vR r0, vI p0, vI (0 : Int32)]) rfl) ?_
  have f_85 := po80_0.other W84 (Or.inl (Ne.symm ne_81))
  have f_86 := po80_1.other W84 (Or.inl (Ne.symm ne_81))
  have ne_87 : r0 ≠ w80_va := Nat.ne_of_lt (Nat.lt_trans (Nat.lt_trans (Nat.lt_trans (Nat.lt_trans (Nat.lt_trans (Nat.lt_trans (Nat.lt_trans r14 lt_b50) lt_w53_va) lt_b58) lt_w61_va) lt_b66) lt_b77) lt_w80_va)
  have f_88 := po80_2.other W84 (Ne.symm ne_87)
  show own_Gl _ _ _ _ (T84.setTop (mkF m 89 #[vR r0, vI p0, vI (0 : Int32)] []))
  refine own_loopH X84 (n := p0.toInt.toNat) (fun n h L Ls => ∃ (i1 : Int32) (vt : List Value), Ls = #[vR r0, vI p0, vI i1] ∧ Fr n0 L ∧ Keep h84 h [b77, w80_va] ∧ Fld Z h b77 "com/example/sixfold/sixfold/rows/IntList" "values" "[I" (.ref w80_va) ∧ Fld Z h b77 "com/example/sixfold/sixfold/rows/IntList" "size" "I" (.int i1) ∧ Arv Z h w80_va w80_kI .int p0 vt (.int (0 : Int32)) ∧ own_T1 p0 vt i1 n) (fun n Ta ha Lca Ls ea Xa iha hI => ?_) e84 ⟨(0 : Int32), _, rfl, N84, Keep.refl _ _, f_85, f_86, f_88, ⟨⟨by decide, by have z : (0 : Int32).toInt = 0 := rfl; omega⟩, own_ints_z 5, Nat.le_refl _⟩⟩
  obtain ⟨i1, vt, rfl, Na, Qa, Ga0, Ga1, Ga2, hpa⟩ := hI
  have Ka : Keep h0 ha [r0] := K84.trans Qa (allS (Or.inr sz_b77) (allS (Or.inr sz_w80_va) all0))
  have Za : n0 ≤ ha.size := Nat.le_trans Z84 Qa.1
  refine si Xa hx (dx hby dd13 41) ?_
  refine si Xa hx (dx hby dd13 42) ?_
  by_cases hc91_89 : i1 < p0
  · refine og (XS.icmpNo Xa.here hx rfl (dx hby dd13 43) rfl (tlt hc91_89).2.1) ?_
    refine sa Xa hx (dx hby dd13 44) ?_
    have f_91 := Fw84.keep Qa (ninS ne_81 (ninS ne_87 nin0))
    refine oc_getF Xa hx hZ hown (host := "") (Or.inl (wx hw 176)) Via.refl ea f_91 (dx hby dd13 45) (fun T90 X90 e90 => ?_)
    refine sc X90 hx (dx hby dd13 46) ?_
    have f_92 := ((A77.keep K80q).wr W84).keep Qa
    have ne_93 : b77 ≠ w80_va := Nat.ne_of_lt lt_w80_va
    refine oc_virtual X90 hx hZ hown (wx hw 178) (wx hw 179) (wx hw 181) (wx hw 180) (wx hw 111) (wx hw 182) (by decide) (W := 0) (rmapp l Z a0 hw [] b77 (0 : Int32) w80_va w80_kI p0 i1 vt ha n0 Za f_92 Ga0 Ga1 Ga2 ne_93 ge_b77 gn_w80_va (own_b4 hpa.1 hs.2 hc91_89).1 (Nat.lt_of_lt_of_le (own_b4 hpa.1 hs.2 hc91_89).2.2.1 (Nat.le_trans (by decide) hpa.2.2))) (by decide) (by decide) f_92 (argsL := [(.int (0 : Int32))]) (rest := []) (by rw [hml]; rfl) (lenOf pd_14 rfl) rfl (Nat.le_of_eq rfl) (dx hby dd13 47) rfl e90 (by decide) (by decide) (fun v94 T94 Lc94 hQ94 X94 => ?_)
    obtain ⟨N94q, rfl, K94q, po94_0, po94_1, po94_2⟩ := hQ94
    have N94 := Fr.app Na N94q
    have K94 : Keep h0 T94.heap [r0] := Ka.trans K94q (allS (Or.inr sz_b77) (allS (Or.inr sz_w80_va) all0))
    have Z94 : n0 ≤ T94.heap.size := Nat.le_trans Za K94q.1
    refine og (XS.iinc X94.here hx rfl (dx hby dd13 48) rfl (l' := #[vR r0, vI p0, vI (i1 + (1 : Int32))]) rfl) ?_
    refine og (XS.goto X94.here hx rfl (pc0 := 105) (pc' := 89) rfl (dx hby dd13 49) (by decide) (by decide)) ?_
    show own_Gl _ _ _ _ (T94.setTop (mkF m 89 #[vR r0, vI p0, vI (i1 + (1 : Int32))] []))
    exact iha (n - 1) (own_b4 hpa.1 hs.2 hc91_89).2.2.2 _ _ _ _ rfl X94 ⟨_, _, rfl, N94, (Qa.trans K94q (allS (Or.inl (List.mem_of_getElem? (i := 0) rfl)) (allS (Or.inl (List.mem_of_getElem? (i := 1) rfl)) all0))), po94_0, po94_1, po94_2, own_T1_s hpa hc91_89⟩
  · refine og (XS.icmpYes Xa.here hx rfl (pc0 := 91) (pc' := 108) rfl (dx hby dd13 43) rfl (flt hc91_89).2.1 (by decide) (by decide)) ?_
    have hi1 : p0 = i1 := own_ieq hpa.1 hc91_89
    show own_Gl _ _ _ _ (Ta.setTop (mkF m 108 #[vR r0, vI p0, vI i1] []))
    subst hi1
    refine sa Xa hx (dx hby dd13 50) ?_
    refine si Xa hx (dx hby dd13 51) ?_
    show own_Gl _ _ _ _ (Ta.setTop (mkF m 110 #[vR r0, vI p0, vI p0] [(.int p0), (.ref r0)]))
    obtain ⟨T95, h95, k95, X95, e95, E95, A95, st95⟩ := newP Xa hx hZ (aty := .int) (wx hw 5) ea (g := (mkF m 110 #[vR r0, vI p0, vI p0] [(.int p0), (.ref r0)])) rfl (dx hby dd13 52) rfl (by rw [Int32.lt_iff_toInt_lt]; have z : (0 : Int32).toInt = 0 := rfl; omega) (cap := 5) (by simp only [Int32.toNatClampNeg]; omega) (by decide) (by decide) (by decide)
    obtain ⟨b95, g95⟩ : ∃ z, z = ha.size := ⟨_, rfl⟩
    rw [← g95] at A95 st95
    have lt_b95 : w80_va < b95 := Nat.lt_of_lt_of_le Ga2.lt (Nat.le_of_eq g95.symm)
    have ge_b95 : n0 ≤ b95 := Nat.le_trans Za (Nat.le_of_eq g95.symm)
    have sz_b95 : h0.size ≤ b95 := Nat.le_trans Ka.1 (Nat.le_of_eq g95.symm)
    refine og (st95 _) ?_
    have K95 : Keep h0 h95 [r0] := Ka.ext E95
    have Z95 : n0 ≤ h95.size := Nat.le_trans Za E95.1
    have V95 : Arv Z h95 b95 k95 .int p0 [(.int (0 : Int32)), (.int (0 : Int32)), (.int (0 : Int32)), (.int (0 : Int32)), (.int (0 : Int32))] (.int (0 : Int32)) := (Arv.new A95 (by rw [Int32.lt_iff_toInt_lt]; have z : (0 : Int32).toInt = 0 := rfl; omega)).pad (pad_rep [] (.int (0 : Int32)) 5)
    show own_Gl _ _ _ _ (T95.setTop (mkF m 112 #[vR r0, vI p0, vI p0] [(.ref b95), (.ref r0)]))
    have f_96 := ((((((((((((((((P4.ext E42).keep K43q (ninS ne_46 nin0)).other W49 (Or.inr (own_sn (Or.inr (wx hw 186)) (Or.inr (wx hw 163))))).ext E50).keep K53q (ninS ne_54 nin0)).other W57 (Or.inr (own_sn (Or.inr (wx hw 186)) (Or.inr (wx hw 167))))).ext E58).keep K61q (ninS ne_62 nin0)).other W65 (Or.inr (own_sn (Or.inr (wx hw 186)) (Or.inr (wx hw 169))))).ext E66).other W71 (Or.inr (own_sn (Or.inr (wx hw 186)) (Or.inr (wx hw 171))))).other W76 (Or.inr (own_sn (Or.inr (wx hw 186)) (Or.inr (wx hw 173))))).ext E77).keep K80q (ninS ne_81 nin0)).other W84 (Or.inr (own_sn (Or.inr (wx hw 186)) (Or.inr (wx hw 177))))).keep Qa (ninS ne_81 (ninS ne_87 nin0))).ext E95
    have f_97 := ((f_83.wr W84).keep Qa).ext E95
    refine oc_putF X95 hx hZ hown (host := "") (Or.inl (wx hw 185)) Via.refl e95 f_96 f_97 (Or.inr ⟨(wx hw 186), rfl, hnm⟩) (wx hw 74) (ty := (.array .int)) (by decide) rfl rfl (dx hby dd13 53) (fun T98 h98 X98 e98 W98 => ?_)
    have Fw98 : Fld Z h98 r0 "com/example/sixfold/sixfold/rows/Table" "order" "[I" (.ref b95) := f_96.same W98
    have K98 : Keep h0 h98 [r0] := K95.wr W98 (Or.inl (List.mem_of_getElem? (i := 0) rfl))
    have N98 := Fr.snoc X98 Na ge_r0
    have Z98 : n0 ≤ h98.size := Nat.le_trans Z95 (Keep.of_wr W98).1
    refine sa X98 hx (dx hby dd13 54) ?_
    show own_Gl _ _ _ _ (T98.setTop (mkF m 116 #[vR r0, vI p0, vI p0] [(.ref r0)]))
    obtain ⟨T99, h99, X99, e99, E99, A99, D99, -, st99⟩ := newO X98 hx hZ hown (wx hw 174) (wx hw 110) (wx hw 111) e98 (g := (mkF m 116 #[vR r0, vI p0, vI p0] [(.ref r0)])) rfl (dx hby dd13 55) (by decide) (by decide)
    obtain ⟨b99, g99⟩ : ∃ z, z = h98.size := ⟨_, rfl⟩
    rw [← g99] at A99 D99 st99
    have ne_100 : r0 ≠ b95 := Nat.ne_of_lt (Nat.lt_trans (Nat.lt_trans (Nat.lt_trans (Nat.lt_trans (Nat.lt_trans (Nat.lt_trans (Nat.lt_trans (Nat.lt_trans r14 lt_b50) lt_w53_va) lt_b58) lt_w61_va) lt_b66) lt_b77) lt_w80_va) lt_b95)
    have f_101 := V95.other W98 (Ne.symm ne_100)
    have lt_b99 : b95 < b99 := Nat.lt_of_lt_of_le f_101.lt (Nat.le_of_eq g99.symm)
    have ge_b99 : n0 ≤ b99 := Nat.le_trans Z98 (Nat.le_of_eq g99.symm)
    have sz_b99 : h0.size ≤ b99 := Nat.le_trans K98.1 (Nat.le_of_eq g99.symm)
    refine og (st99 _) ?_
    have K99 : Keep h0 h99 [r0] := K98.ext E99
    have Z99 : n0 ≤ h99.size := Nat.le_trans Z98 E99.1
    have F99_117 : Fld Z h99 b99 "java/util/AbstractList" "modCount" "I" (.int (0 : Int32)) := D99 (Or.inl (wx hw 117)) (ty := .int) (by decide)
    have F99_119 : Fld Z h99 b99 "com/example/sixfold/sixfold/rows/IntList" "values" "[I" .null := D99 (Or.inr (wx hw 119)) (ty := (.array .int)) (by decide)
    have F99_184 : Fld Z h99 b99 "com/example/sixfold/sixfold/rows/IntList" "size" "I" (.int (0 : Int32)) := D99 (Or.inl (wx hw 184)) (ty := .int) (by decide)
    refine og (XS.dup X99.here hx rfl (dx hby dd13 56) rfl rfl) ?_
    refine si X99 hx (dx hby dd13 57) ?_
    refine oc_special X99 hx hZ hown rfl (wx hw 175) (wx hw 113) (wx hw 111) (wx hw 114) (by decide) (W := 2) (rmili l Z a0 hw [] b99 p0 h99 n0 Z99 A99 F99_117 F99_119 F99_184 ge_b99 (by rw [Int32.lt_iff_toInt_lt]; have z : (0 : Int32).toInt = 0 := rfl; omega) (by simp only [Int32.toNatClampNeg]; omega)) (by decide) (by decide) (a := b99) (argsL := [(.int p0)]) (rest := [(.ref b99), (.ref r0)]) (by rw [hml]; rfl) (lenOf pd_14 rfl) rfl (Nat.le_of_eq rfl) (dx hby dd13 58) rfl e99 (by decide) (by decide) (fun v102 T102 Lc102 hQ102 X102 => ?_)
    obtain ⟨N102q, w102_va, w102_kI, gn_w102_va, sz0_w102_va, rfl, K102q, po102_0, po102_1, po102_2⟩ := hQ102
    have N102 := Fr.app N98 N102q
    have lt_w102_va : b99 < w102_va := Nat.lt_of_lt_of_le A99.lt sz0_w102_va
    have sz_w102_va : h0.size ≤ w102_va := Nat.le_trans K99.1 sz0_w102_va
    have K102 : Keep h0 T102.heap [r0] := K99.trans K102q (allS (Or.inr sz_b99) all0)
    have Z102 : n0 ≤ T102.heap.size := Nat.le_trans Z99 K102q.1
    show own_Gl _ _ _ _ (T102.setTop (mkF m 124 #[vR r0, vI p0, vI p0] [(.ref b99), (.ref r0)]))
    have ne_103 : r0 ≠ b99 := Nat.ne_of_lt (Nat.lt_trans (Nat.lt_trans (Nat.lt_trans (Nat.lt_trans (Nat.lt_trans (Nat.lt_trans (Nat.lt_trans (Nat.lt_trans (Nat.lt_trans r14 lt_b50) lt_w53_va) lt_b58) lt_w61_va) lt_b66) lt_b77) lt_w80_va) lt_b95) lt_b99)
    have f_104 := (((((((((((((((((((P7.ext E42).keep K43q (ninS ne_46 nin0)).other W49 (Or.inr (own_sn (Or.inr (wx hw 188)) (Or.inr (wx hw 163))))).ext E50).keep K53q (ninS ne_54 nin0)).other W57 (Or.inr (own_sn (Or.inr (wx hw 188)) (Or.inr (wx hw 167))))).ext E58).keep K61q (ninS ne_62 nin0)).other W65 (Or.inr (own_sn (Or.inr (wx hw 188)) (Or.inr (wx hw 169))))).ext E66).other W71 (Or.inr (own_sn (Or.inr (wx hw 188)) (Or.inr (wx hw 171))))).other W76 (Or.inr (own_sn (Or.inr (wx hw 188)) (Or.inr (wx hw 173))))).ext E77).keep K80q (ninS ne_81 nin0)).other W84 (Or.inr (own_sn (Or.inr (wx hw 188)) (Or.inr (wx hw 177))))).keep Qa (ninS ne_81 (ninS ne_87 nin0))).ext E95).other W98 (Or.inr (own_sn (Or.inr (wx hw 188)) (Or.inr (wx hw 186))))).ext E99).keep K102q (ninS ne_103 nin0)
    have f_105 := ((f_97.wr W98).ext E99).keep K102q
    refine oc_putF X102 hx hZ hown (host := "") (Or.inl (wx hw 187)) Via.refl rfl f_104 f_105 (Or.inr ⟨(wx hw 188), rfl, hnm⟩) (wx hw 74) (ty := (.object "com/example/sixfold/sixfold/rows/IntList")) (by decide) rfl rfl (dx hby dd13 59) (fun T106 h106 X106 e106 W106 => ?_)
    have Fw106 : Fld Z h106 r0 "com/example/sixfold/sixfold/rows/Table" "revealed" "Lcom/example/sixfold/sixfold/rows/IntList;" (.ref b99) := f_104.same W106
    have K106 : Keep h0 h106 [r0] := K102.wr W106 (Or.inl (List.mem_of_getElem? (i := 0) rfl))
    have N106 := Fr.snoc X106 N102 ge_r0
    have Z106 : n0 ≤ h106.size := Nat.le_trans Z102 (Keep.of_wr W106).1
    refine sa X106 hx (dx hby dd13 60) ?_
    refine si X106 hx (dx hby dd13 61) ?_
    show own_Gl _ _ _ _ (T106.setTop (mkF m 129 #[vR r0, vI p0, vI p0] [(.int p0), (.ref r0)]))
    have f_107 := ((((((((((((((((((((P9.ext E42).keep K43q (ninS ne_46 nin0)).other W49 (Or.inr (own_sn (Or.inl (wx hw 190)) (Or.inr (wx hw 163))))).ext E50).keep K53q (ninS ne_54 nin0)).other W57 (Or.inr (own_sn (Or.inl (wx hw 190)) (Or.inr (wx hw 167))))).ext E58).keep K61q (ninS ne_62 nin0)).other W65 (Or.inr (own_sn (Or.inl (wx hw 190)) (Or.inr (wx hw 169))))).ext E66).other W71 (Or.inr (own_sn (Or.inl (wx hw 190)) (Or.inr (wx hw 171))))).other W76 (Or.inr (own_sn (Or.inl (wx hw 190)) (Or.inr (wx hw 173))))).ext E77).keep K80q (ninS ne_81 nin0)).other W84 (Or.inr (own_sn (Or.inl (wx hw 190)) (Or.inr (wx hw 177))))).keep Qa (ninS ne_81 (ninS ne_87 nin0))).ext E95).other W98 (Or.inr (own_sn (Or.inl (wx hw 190)) (Or.inr (wx hw 186))))).ext E99).keep K102q (ninS ne_103 nin0)).other W106 (Or.inr (own_sn (Or.inl (wx hw 190)) (Or.inr (wx hw 188))))
    have f_108 := f_105.wr W106
    refine oc_putF X106 hx hZ hown (host := "") (Or.inl (wx hw 189)) Via.refl e106 f_107 f_108 (Or.inl (wx hw 190)) (wx hw 74) (ty := .int) (by decide) rfl rfl (dx hby dd13 62) (fun T109 h109 X109 e109 W109 => ?_)
    have Fw109 : Fld Z h109 r0 "com/example/sixfold/sixfold/rows/Table" "placed" "I" (.int p0) := f_107.same W109
    have K109 : Keep h0 h109 [r0] := K106.wr W109 (Or.inl (List.mem_of_getElem? (i := 0) rfl))
    have N109 := Fr.snoc X109 N106 ge_r0
    have Z109 : n0 ≤ h109.size := Nat.le_trans Z106 (Keep.of_wr W109).1
    have ne_110 : r0 ≠ w102_va := Nat.ne_of_lt (Nat.lt_trans (Nat.lt_trans (Nat.lt_trans (Nat.lt_trans (Nat.lt_trans (Nat.lt_trans (Nat.lt_trans (Nat.lt_trans (Nat.lt_trans (Nat.lt_trans r14 lt_b50) lt_w53_va) lt_b58) lt_w61_va) lt_b66) lt_b77) lt_w80_va) lt_b95) lt_b99) lt_w102_va)
    have f_111 := (po102_2.other W106 (Ne.symm ne_110)).other W109 (Ne.symm ne_110)
    have f_112 := f_108.wr W109
    have f_113 := ((((((((((((((((((Fw49.ext E50).keep K53q (ninS ne_54 nin0)).other W57 (Or.inr (own_sn (Or.inr (wx hw 163)) (Or.inr (wx hw 167))))).ext E58).keep K61q (ninS ne_62 nin0)).other W65 (Or.inr (own_sn (Or.inr (wx hw 163)) (Or.inr (wx hw 169))))).ext E66).other W71 (Or.inr (own_sn (Or.inr (wx hw 163)) (Or.inr (wx hw 171))))).other W76 (Or.inr (own_sn (Or.inr (wx hw 163)) (Or.inr (wx hw 173))))).ext E77).keep K80q (ninS ne_81 nin0)).other W84 (Or.inr (own_sn (Or.inr (wx hw 163)) (Or.inr (wx hw 177))))).keep Qa (ninS ne_81 (ninS ne_87 nin0))).ext E95).other W98 (Or.inr (own_sn (Or.inr (wx hw 163)) (Or.inr (wx hw 186))))).ext E99).keep K102q (ninS ne_103 nin0)).other W106 (Or.inr (own_sn (Or.inr (wx hw 163)) (Or.inr (wx hw 188))))).other W109 (Or.inr (own_sn (Or.inr (wx hw 163)) (Or.inl (wx hw 190))))
    have f_114 := ((((((Fw84.keep Qa (ninS ne_81 (ninS ne_87 nin0))).ext E95).other W98 (Or.inr (own_sn (Or.inr (wx hw 177)) (Or.inr (wx hw 186))))).ext E99).keep K102q (ninS ne_103 nin0)).other W106 (Or.inr (own_sn (Or.inr (wx hw 177)) (Or.inr (wx hw 188))))).other W109 (Or.inr (own_sn (Or.inr (wx hw 177)) (Or.inl (wx hw 190))))
    have f_115 := (((((((((((((((Fw57.ext E58).keep K61q (ninS ne_62 nin0)).other W65 (Or.inr (own_sn (Or.inr (wx hw 167)) (Or.inr (wx hw 169))))).ext E66).other W71 (Or.inr (own_sn (Or.inr (wx hw 167)) (Or.inr (wx hw 171))))).other W76 (Or.inr (own_sn (Or.inr (wx hw 167)) (Or.inr (wx hw 173))))).ext E77).keep K80q (ninS ne_81 nin0)).other W84 (Or.inr (own_sn (Or.inr (wx hw 167)) (Or.inr (wx hw 177))))).keep Qa (ninS ne_81 (ninS ne_87 nin0))).ext E95).other W98 (Or.inr (own_sn (Or.inr (wx hw 167)) (Or.inr (wx hw 186))))).ext E99).keep K102q (ninS ne_103 nin0)).other W106 (Or.inr (own_sn (Or.inr (wx hw 167)) (Or.inr (wx hw 188))))).other W109 (Or.inr (own_sn (Or.inr (wx hw 167)) (Or.inl (wx hw 190))))
    have f_116 := (((Fw98.ext E99).keep K102q (ninS ne_103 nin0)).other W106 (Or.inr (own_sn (Or.inr (wx hw 186)) (Or.inr (wx hw 188))))).other W109 (Or.inr (own_sn (Or.inr (wx hw 186)) (Or.inl (wx hw 190))))
    have f_117 := ((((((((((((Fw65.ext E66).other W71 (Or.inr (own_sn (Or.inr (wx hw 169)) (Or.inr (wx hw 171))))).other W76 (Or.inr (own_sn (Or.inr (wx hw 169)) (Or.inr (wx hw 173))))).ext E77).keep K80q (ninS ne_81 nin0)).other W84 (Or.inr (own_sn (Or.inr (wx hw 169)) (Or.inr (wx hw 177))))).keep Qa (ninS ne_81 (ninS ne_87 nin0))).ext E95).other W98 (Or.inr (own_sn (Or.inr (wx hw 169)) (Or.inr (wx hw 186))))).ext E99).keep K102q (ninS ne_103 nin0)).other W106 (Or.inr (own_sn (Or.inr (wx hw 169)) (Or.inr (wx hw 188))))).other W109 (Or.inr (own_sn (Or.inr (wx hw 169)) (Or.inl (wx hw 190))))
    have f_118 := ((((((((((Fw71.other W76 (Or.inr (own_sn (Or.inr (wx hw 171)) (Or.inr (wx hw 173))))).ext E77).keep K80q (ninS ne_81 nin0)).other W84 (Or.inr (own_sn (Or.inr (wx hw 171)) (Or.inr (wx hw 177))))).keep Qa (ninS ne_81 (ninS ne_87 nin0))).ext E95).other W98 (Or.inr (own_sn (Or.inr (wx hw 171)) (Or.inr (wx hw 186))))).ext E99).keep K102q (ninS ne_103 nin0)).other W106 (Or.inr (own_sn (Or.inr (wx hw 171)) (Or.inr (wx hw 188))))).other W109 (Or.inr (own_sn (Or.inr (wx hw 171)) (Or.inl (wx hw 190))))
    have f_119 := Fw106.other W109 (Or.inr (own_sn (Or.inr (wx hw 188)) (Or.inl (wx hw 190))))
    have f_120 := (((((((((Fw76.ext E77).keep K80q (ninS ne_81 nin0)).other W84 (Or.inr (own_sn (Or.inr (wx hw 173)) (Or.inr (wx hw 177))))).keep Qa (ninS ne_81 (ninS ne_87 nin0))).ext E95).other W98 (Or.inr (own_sn (Or.inr (wx hw 173)) (Or.inr (wx hw 186))))).ext E99).keep K102q (ninS ne_103 nin0)).other W106 (Or.inr (own_sn (Or.inr (wx hw 173)) (Or.inr (wx hw 188))))).other W109 (Or.inr (own_sn (Or.inr (wx hw 173)) (Or.inl (wx hw 190))))
    have f_121 := (((((((((((((((((A50.keep K53q).wr W57).ext E58).keep K61q).wr W65).ext E66).wr W71).wr W76).ext E77).keep K80q).wr W84).keep Qa).ext E95).wr W98).ext E99).keep K102q).wr W106).wr W109
    have ne_122 : b50 ≠ b58 := Nat.ne_of_lt (Nat.lt_trans lt_w53_va lt_b58)
    have ne_123 : b50 ≠ b77 := Nat.ne_of_lt (Nat.lt_trans (Nat.lt_trans (Nat.lt_trans (Nat.lt_trans lt_w53_va lt_b58) lt_w61_va) lt_b66) lt_b77)
    have ne_124 : b50 ≠ w80_va := Nat.ne_of_lt (Nat.lt_trans (Nat.lt_trans (Nat.lt_trans (Nat.lt_trans (Nat.lt_trans lt_w53_va lt_b58) lt_w61_va) lt_b66) lt_b77) lt_w80_va)
    have ne_125 : b50 ≠ b99 := Nat.ne_of_lt (Nat.lt_trans (Nat.lt_trans (Nat.lt_trans (Nat.lt_trans (Nat.lt_trans (Nat.lt_trans (Nat.lt_trans lt_w53_va lt_b58) lt_w61_va) lt_b66) lt_b77) lt_w80_va) lt_b95) lt_b99)
    have f_126 := ((((((((((((((((po53_0.other W57 (Or.inl (Ne.symm ne_54))).ext E58).keep K61q (ninS ne_122 nin0)).other W65 (Or.inl (Ne.symm ne_54))).ext E66).other W71 (Or.inl (Ne.symm ne_54))).other W76 (Or.inl (Ne.symm ne_54))).ext E77).keep K80q (ninS ne_123 nin0)).other W84 (Or.inl (Ne.symm ne_54))).keep Qa (ninS ne_123 (ninS ne_124 nin0))).ext E95).other W98 (Or.inl (Ne.symm ne_54))).ext E99).keep K102q (ninS ne_125 nin0)).other W106 (Or.inl (Ne.symm ne_54))).other W109 (Or.inl (Ne.symm ne_54))
    have ne_127 : w53_va ≠ b58 := Nat.ne_of_lt lt_b58
    have ne_128 : w53_va ≠ b77 := Nat.ne_of_lt (Nat.lt_trans (Nat.lt_trans (Nat.lt_trans lt_b58 lt_w61_va) lt_b66) lt_b77)
    have ne_129 : w53_va ≠ w80_va := Nat.ne_of_lt (Nat.lt_trans (Nat.lt_trans (Nat.lt_trans (Nat.lt_trans lt_b58 lt_w61_va) lt_b66) lt_b77) lt_w80_va)
    have ne_130 : w53_va ≠ b99 := Nat.ne_of_lt (Nat.lt_trans (Nat.lt_trans (Nat.lt_trans (Nat.lt_trans (Nat.lt_trans (Nat.lt_trans lt_b58 lt_w61_va) lt_b66) lt_b77) lt_w80_va) lt_b95) lt_b99)
    have f_131 := (((((((((((((((f_60.ext E58).keep K61q (ninS ne_127 nin0)).other W65 (Ne.symm ne_59)).ext E66).other W71 (Ne.symm ne_59)).other W76 (Ne.symm ne_59)).ext E77).keep K80q (ninS ne_128 nin0)).other W84 (Ne.symm ne_59)).keep Qa (ninS ne_128 (ninS ne_129 nin0))).ext E95).other W98 (Ne.symm ne_59)).ext E99).keep K102q (ninS ne_130 nin0)).other W106 (Ne.symm ne_59)).other W109 (Ne.symm ne_59)
    have f_132 := ((((((((((((((A58.keep K61q).wr W65).ext E66).wr W71).wr W76).ext E77).keep K80q).wr W84).keep Qa).ext E95).wr W98).ext E99).keep K102q).wr W106).wr W109
    have ne_133 : b58 ≠ b77 := Nat.ne_of_lt (Nat.lt_trans (Nat.lt_trans lt_w61_va lt_b66) lt_b77)
    have ne_134 : b58 ≠ w80_va := Nat.ne_of_lt (Nat.lt_trans (Nat.lt_trans (Nat.lt_trans lt_w61_va lt_b66) lt_b77) lt_w80_va)
    have ne_135 : b58 ≠ b99 := Nat.ne_of_lt (Nat.lt_trans (Nat.lt_trans (Nat.lt_trans (Nat.lt_trans (Nat.lt_trans lt_w61_va lt_b66) lt_b77) lt_w80_va) lt_b95) lt_b99)
    have f_136 := (((((((((((((po61_0.other W65 (Or.inl (Ne.symm ne_62))).ext E66).other W71 (Or.inl (Ne.symm ne_62))).other W76 (Or.inl (Ne.symm ne_62))).ext E77).keep K80q (ninS ne_133 nin0)).other W84 (Or.inl (Ne.symm ne_62))).keep Qa (ninS ne_133 (ninS ne_134 nin0))).ext E95).other W98 (Or.inl (Ne.symm ne_62))).ext E99).keep K102q (ninS ne_135 nin0)).other W106 (Or.inl (Ne.symm ne_62))).other W109 (Or.inl (Ne.symm ne_62))
    have ne_137 : w61_va ≠ b77 := Nat.ne_of_lt (Nat.lt_trans lt_b66 lt_b77)
    have ne_138 : w61_va ≠ w80_va := Nat.ne_of_lt (Nat.lt_trans (Nat.lt_trans lt_b66 lt_b77) lt_w80_va)
    have ne_139 : w61_va ≠ b99 := Nat.ne_of_lt (Nat.lt_trans (Nat.lt_trans (Nat.lt_trans (Nat.lt_trans lt_b66 lt_b77) lt_w80_va) lt_b95) lt_b99)
    have f_140 := ((((((((((((f_68.ext E66).other W71 (Ne.symm ne_67)).other W76 (Ne.symm ne_67)).ext E77).keep K80q (ninS ne_137 nin0)).other W84 (Ne.symm ne_67)).keep Qa (ninS ne_137 (ninS ne_138 nin0))).ext E95).other W98 (Ne.symm ne_67)).ext E99).keep K102q (ninS ne_139 nin0)).other W106 (Ne.symm ne_67)).other W109 (Ne.symm ne_67)
    have ne_141 : b66 ≠ b77 := Nat.ne_of_lt lt_b77
    have ne_142 : b66 ≠ w80_va := Nat.ne_of_lt (Nat.lt_trans lt_b77 lt_w80_va)
    have ne_143 : b66 ≠ b99 := Nat.ne_of_lt (Nat.lt_trans (Nat.lt_trans (Nat.lt_trans lt_b77 lt_w80_va) lt_b95) lt_b99)
    have f_144 := (((((((((f_79.ext E77).keep K80q (ninS ne_141 nin0)).other W84 (Ne.symm ne_78)).keep Qa (ninS ne_141 (ninS ne_142 nin0))).ext E95).other W98 (Ne.symm ne_78)).ext E99).keep K102q (ninS ne_143 nin0)).other W106 (Ne.symm ne_78)).other W109 (Ne.symm ne_78)
    have f_145 := ((((((((A77.keep K80q).wr W84).keep Qa).ext E95).wr W98).ext E99).keep K102q).wr W106).wr W109
    have ne_146 : b77 ≠ b99 := Nat.ne_of_lt (Nat.lt_trans (Nat.lt_trans lt_w80_va lt_b95) lt_b99)
    have f_147 := (((((Ga0.ext E95).other W98 (Or.inl (Ne.symm ne_81))).ext E99).keep K102q (ninS ne_146 nin0)).other W106 (Or.inl (Ne.symm ne_81))).other W109 (Or.inl (Ne.symm ne_81))
    have f_148 := (((((Ga1.ext E95).other W98 (Or.inl (Ne.symm ne_81))).ext E99).keep K102q (ninS ne_146 nin0)).other W106 (Or.inl (Ne.symm ne_81))).other W109 (Or.inl (Ne.symm ne_81))
    have ne_149 : w80_va ≠ b99 := Nat.ne_of_lt (Nat.lt_trans lt_b95 lt_b99)
    have f_150 := (((((Ga2.ext E95).other W98 (Ne.symm ne_87)).ext E99).keep K102q (ninS ne_149 nin0)).other W106 (Ne.symm ne_87)).other W109 (Ne.symm ne_87)
    have ne_151 : b95 ≠ b99 := Nat.ne_of_lt lt_b99
    have f_152 := (((f_101.ext E99).keep K102q (ninS ne_151 nin0)).other W106 (Ne.symm ne_100)).other W109 (Ne.symm ne_100)
    have f_153 := ((A99.keep K102q).wr W106).wr W109
    have f_154 := (po102_0.other W106 (Or.inl (Ne.symm ne_103))).other W109 (Or.inl (Ne.symm ne_103))
    have f_155 := (po102_1.other W106 (Or.inl (Ne.symm ne_103))).other W109 (Or.inl (Ne.symm ne_103))
    have f_156 : own_RWB Z h109 B 0 0 (fun _ _ => True) := (own_RWB_keepG (own_RWB_keepG (own_RWB_keepG (own_RWB_ext (own_RWB_keepG (own_RWB_ext (own_RWB_keepG (own_RWB_keepG (own_RWB_keepG (own_RWB_ext (own_RWB_keepG (own_RWB_keepG (own_RWB_ext (own_RWB_keepG (own_RWB_keepG (own_RWB_ext (own_RWB_keepG (own_RWB_keepG (own_RWB_ext (own_RWB_keepG po43_0 (Keep.of_wr W49) (fun i h1 h2 => (ninS (abv i h1 h2 r0 (Or.inl rfl)) nin0))) E50) K53q (fun i h1 h2 => (ninS (abv i h1 h2 b50 (Or.inr lt_b50)) nin0))) (Keep.of_wr W57) (fun i h1 h2 => (ninS (abv i h1 h2 r0 (Or.inl rfl)) nin0))) E58) K61q (fun i h1 h2 => (ninS (abv i h1 h2 b58 (Or.inr (Nat.lt_trans (Nat.lt_trans lt_b50 lt_w53_va) lt_b58))) nin0))) (Keep.of_wr W65) (fun i h1 h2 => (ninS (abv i h1 h2 r0 (Or.inl rfl)) nin0))) E66) (Keep.of_wr W71) (fun i h1 h2 => (ninS (abv i h1 h2 r0 (Or.inl rfl)) nin0))) (Keep.of_wr W76) (fun i h1 h2 => (ninS (abv i h1 h2 r0 (Or.inl rfl)) nin0))) E77) K80q (fun i h1 h2 => (ninS (abv i h1 h2 b77 (Or.inr (Nat.lt_trans (Nat.lt_trans (Nat.lt_trans (Nat.lt_trans (Nat.lt_trans lt_b50 lt_w53_va) lt_b58) lt_w61_va) lt_b66) lt_b77))) nin0))) (Keep.of_wr W84) (fun i h1 h2 => (ninS (abv i h1 h2 r0 (Or.inl rfl)) nin0))) Qa (fun i h1 h2 => (ninS (abv i h1 h2 b77 (Or.inr (Nat.lt_trans (Nat.lt_trans (Nat.lt_trans (Nat.lt_trans (Nat.lt_trans lt_b50 lt_w53_va) lt_b58) lt_w61_va) lt_b66) lt_b77))) (ninS (abv i h1 h2 w80_va (Or.inr (Nat.lt_trans (Nat.lt_trans (Nat.lt_trans (Nat.lt_trans (Nat.lt_trans (Nat.lt_trans lt_b50 lt_w53_va) lt_b58) lt_w61_va) lt_b66) lt_b77) lt_w80_va))) nin0)))) E95) (Keep.of_wr W98) (fun i h1 h2 => (ninS (abv i h1 h2 r0 (Or.inl rfl)) nin0))) E99) K102q (fun i h1 h2 => (ninS (abv i h1 h2 b99 (Or.inr (Nat.lt_trans (Nat.lt_trans (Nat.lt_trans (Nat.lt_trans (Nat.lt_trans (Nat.lt_trans (Nat.lt_trans (Nat.lt_trans lt_b50 lt_w53_va) lt_b58) lt_w61_va) lt_b66) lt_b77) lt_w80_va) lt_b95) lt_b99))) nin0))) (Keep.of_wr W106) (fun i h1 h2 => (ninS (abv i h1 h2 r0 (Or.inl rfl)) nin0))) (Keep.of_wr W109) (fun i h1 h2 => (ninS (abv i h1 h2 r0 (Or.inl rfl)) nin0)))
    exact own_retV X109 hx hret hlk (dx hby dd13 63) e109 (by decide) (by decide) ⟨N109, (own_A0 r0 b42 B [b50, w53_va, b58, w61_va, b66, b77, w80_va, b95, b99, w102_va]), vt, w53_kI, w61_kI, k66, w80_kI, k95, w102_kI, rfl, K109, rfl, (own_A0_inc (l := [b50, w53_va, b58, w61_va, b66, b77, w80_va, b95, b99, w102_va]) qB lt_b42 q1 ⟨lt_b50, lt_w53_va, lt_b58, lt_w61_va, lt_b66, lt_b77, lt_w80_va, lt_b95, lt_b99, lt_w102_va, trivial⟩ rfl), (own_A0_all (Q := fun z => n0 ≤ z) qB ge_r0 q2 (by simp only [List.mem_cons, List.not_mem_nil, or_false, forall_eq_or_imp, forall_eq]; exact ⟨ge_b50, gn_w53_va, ge_b58, gn_w61_va, ge_b66, ge_b77, gn_w80_va, ge_b95, ge_b99, gn_w102_va⟩) rfl), (fun i hi => Nat.lt_of_le_of_lt (own_inc_le (own_A0_inc (l := [b50, w53_va, b58, w61_va, b66, b77, w80_va, b95, b99, w102_va]) qB lt_b42 q1 ⟨lt_b50, lt_w53_va, lt_b58, lt_w61_va, lt_b66, lt_b77, lt_w80_va, lt_b95, lt_b99, lt_w102_va, trivial⟩ rfl) hi) f_111.lt), hpa.2, ⟨f_112, f_113, f_114, f_115, f_116, f_117, f_118, f_119, f_120, Fw109, f_121, f_126, f_131, f_132, f_136, f_140, f_144.pad (pad_rep [] _ 105), f_145, f_147, f_148, f_150, f_152, f_153, f_154, f_155, f_111, (own_RWB_congr f_156 (fun i h1 h2 => own_A0_B qB h1 h2))⟩⟩
theorem own_mod (x y : Int32) (n : Int) (hy : y.toInt = n) (h1 : 0 < n) : 0 ≤ ((x &&& (2147483647 : Int32)) % y).toInt ∧ ((x &&& (2147483647 : Int32)) % y).toInt < n := by
  have e := Jvm.Kit.i32_mask x 2147483647 (k := 31) (by decide) (by decide)
  have h0 : 0 ≤ (x &&& (2147483647 : Int32)).toInt := by omega
  rw [Jvm.Kit.i32_rem_nonneg h0, hy]
  exact ⟨Int.emod_nonneg _ (by omega), Int.emod_lt_of_pos _ h1⟩
theorem own_and3 (x : Int32) : ∃ k : Fin 4, (x &&& (3 : Int32)) = Int32.ofInt (k.val : Int) := by
  have e := Jvm.Kit.i32_mask x 3 (k := 2) (by decide) (by decide)
  have h := Int.emod_nonneg x.toInt (b := 4) (by decide)
  have h2 := Int.emod_lt_of_pos x.toInt (b := 4) (by decide)
  exact own_range 4 _ (by omega) (by omega)
theorem own_seats (x : Int32) : 2 ≤ ((2 : Int32) + ((x &&& (3 : Int32)) % (3 : Int32))).toInt ∧ ((2 : Int32) + ((x &&& (3 : Int32)) % (3 : Int32))).toInt ≤ 4 := by
  obtain ⟨k, e⟩ := own_and3 x
  rw [e]; clear e; revert k; decide
theorem own_start0 (x : Int32) : 1 ≤ ((1 : Int32) + ((x &&& (2147483647 : Int32)) % (100 : Int32))).toInt ∧ ((1 : Int32) + ((x &&& (2147483647 : Int32)) % (100 : Int32))).toInt ≤ 100 := by
  have h := own_mod x 100 100 rfl (by decide)
  have z : (1 : Int32).toInt = 1 := rfl
  rw [Int32.toInt_add, z, Int.bmod_eq_of_le (by omega) (by omega)]; omega
def own_card (c : Int32) : Prop := 1 ≤ c.toInt ∧ c.toInt ≤ 104 ∧ (c.toInt ≤ 100 ∨ c.toInt = 104)
theorem own_fcard (x : Int32) : own_card (fcard x) := by
  have h := own_mod x 101 101 rfl (by decide)
  have z : (1 : Int32).toInt = 1 := rfl
  have z1 : (100 : Int32).toInt = 100 := rfl
  have e : ((1 : Int32) + ((x &&& (2147483647 : Int32)) % (101 : Int32))).toInt = 1 + ((x &&& (2147483647 : Int32)) % (101 : Int32)).toInt := by
    rw [Int32.toInt_add, z, Int.bmod_eq_of_le (by omega) (by omega)]
  unfold own_card fcard
  by_cases q : (100 : Int32) < ((1 : Int32) + ((x &&& (2147483647 : Int32)) % (101 : Int32)))
  · rw [if_pos q]; decide
  · rw [if_neg q]; rw [Int32.lt_iff_toInt_lt] at q; omega
/-- the cards by their seats -/
def own_cd (c0 c1 c2 c3 : Int32) (u : Nat) : Int32 := match u with
  | 0 => c0
  | 1 => c1
  | 2 => c2
  | _ => c3
def own_sts (k v : Int32) : List Int32 := [fstart 0 k v, fstart 1 k v, fstart 2 k v, fstart 3 k v]
theorem own_fst {i k v : Int32} (hi : 0 ≤ i.toInt ∧ i.toInt ≤ 3) (hk : 0 ≤ k.toInt ∧ k.toInt ≤ 3) : fstart i k v = v ∨ (101 ≤ (fstart i k v).toInt ∧ (fstart i k v).toInt ≤ 103) := by
  have z : (101 : Int32).toInt = 101 := rfl
  have z1 : (100 : Int32).toInt = 100 := rfl
  unfold fstart
  by_cases q : i < k
  · rw [if_pos q]; rw [Int32.lt_iff_toInt_lt] at q
    right; rw [Int32.toInt_add, z, Int.bmod_eq_of_le (by omega) (by omega)]; omega
  · rw [if_neg q]; rw [Int32.lt_iff_toInt_lt] at q
    by_cases r : i = k
    · rw [if_pos r]; exact Or.inl rfl
    · rw [if_neg r]
      have : i.toInt ≠ k.toInt := fun e => r (Int32.toInt_inj.1 e)
      right; rw [Int32.toInt_add, z1, Int.bmod_eq_of_le (by omega) (by omega)]; omega
theorem own_k4 {k : Int32} (hk : ∃ j : Fin 4, k = Int32.ofInt (j.val : Int)) : 0 ≤ k.toInt ∧ k.toInt ≤ 3 := by
  obtain ⟨j, rfl⟩ := hk; revert j; decide
theorem own_sts_val {x k v : Int32} (hk : ∃ j : Fin 4, k = Int32.ofInt (j.val : Int)) (h : x ∈ own_sts k v) : x = v ∨ (101 ≤ x.toInt ∧ x.toInt ≤ 103) := by
  have k4 := own_k4 hk
  unfold own_sts at h
  simp only [List.mem_cons, List.not_mem_nil, or_false] at h
  rcases h with rfl | rfl | rfl | rfl
  · exact own_fst (by decide) k4
  · exact own_fst (by decide) k4
  · exact own_fst (by decide) k4
  · exact own_fst (by decide) k4
theorem own_sts_v {k v : Int32} (hk : ∃ j : Fin 4, k = Int32.ofInt (j.val : Int)) : v ∈ own_sts k v := by
  obtain ⟨j, rfl⟩ := hk
  unfold own_sts fstart
  match j with
  | 0 => exact List.mem_cons.2 (Or.inl rfl)
  | 1 => exact List.mem_cons.2 (Or.inr (List.mem_cons.2 (Or.inl rfl)))
  | 2 => exact List.mem_cons.2 (Or.inr (List.mem_cons.2 (Or.inr (List.mem_cons.2 (Or.inl rfl)))))
  | 3 => exact List.mem_cons.2 (Or.inr (List.mem_cons.2 (Or.inr (List.mem_cons.2 (Or.inr (List.mem_cons.2 (Or.inl rfl)))))))
theorem own_sts_b {x k v : Int32} (hk : ∃ j : Fin 4, k = Int32.ofInt (j.val : Int)) (hv : 1 ≤ v.toInt ∧ v.toInt ≤ 100) (h : x ∈ own_sts k v) : 1 ≤ x.toInt ∧ x.toInt ≤ 104 := by
  rcases own_sts_val hk h with rfl | e
  · omega
  · omega
theorem own_sts_nd {k v : Int32} (hk : ∃ j : Fin 4, k = Int32.ofInt (j.val : Int)) (hv : 1 ≤ v.toInt ∧ v.toInt ≤ 100) : (own_sts k v).Nodup := by
  obtain ⟨j, rfl⟩ := hk
  obtain ⟨w, rfl⟩ := own_range 105 v (by omega) (by omega)
  have h2 : w.val ≤ 100 := by have := hv.2; rw [own_ofk] at this; omega
  clear hv; revert w; revert j; decide
theorem own_sts_no {x k v : Int32} (hk : ∃ j : Fin 4, k = Int32.ofInt (j.val : Int)) (hx : own_card x) (hn : x ≠ v) : x ∉ own_sts k v := fun h => by
  rcases own_sts_val hk h with e | e
  · exact hn e
  · have := hx.2.2; omega
theorem own_cd_card {c0 c1 c2 c3 : Int32} (h0 : own_card c0) (h1 : own_card c1) (h2 : own_card c2) (h3 : own_card c3) (u : Nat) : own_card (own_cd c0 c1 c2 c3 u) := by
  match u with
  | 0 => exact h0
  | 1 => exact h1
  | 2 => exact h2
  | _ + 3 => exact h3
/-- what is known of the cards when the table is made -/
def own_ok (s v c0 c1 c2 c3 : Int32) : Prop := ∀ t, t < s.toNatClampNeg → own_cd c0 c1 c2 c3 t ≠ v ∧ ∀ u, u < s.toNatClampNeg → t ≠ u → own_cd c0 c1 c2 c3 t ≠ own_cd c0 c1 c2 c3 u
theorem own_n2 {s : Int32} (h : 2 ≤ s.toInt ∧ s.toInt ≤ 4) (q : s < (3 : Int32)) : s.toNatClampNeg = 2 := by
  rw [Int32.lt_iff_toInt_lt] at q; have z : (3 : Int32).toInt = 3 := rfl
  simp only [Int32.toNatClampNeg]; omega
theorem own_n3 {s : Int32} (q : ¬ s < (3 : Int32)) (r : s < (4 : Int32)) : s.toNatClampNeg = 3 := by
  rw [Int32.lt_iff_toInt_lt] at q r; have z : (3 : Int32).toInt = 3 := rfl; have z : (4 : Int32).toInt = 4 := rfl
  simp only [Int32.toNatClampNeg]; omega
theorem own_n4 {s : Int32} (h : 2 ≤ s.toInt ∧ s.toInt ≤ 4) (r : ¬ s < (4 : Int32)) : s.toNatClampNeg = 4 := by
  rw [Int32.lt_iff_toInt_lt] at r; have z : (4 : Int32).toInt = 4 := rfl
  simp only [Int32.toNatClampNeg]; omega
theorem own_ok2 {s v c0 c1 c2 c3 : Int32} (h : s.toNatClampNeg = 2) (a0 : ¬ c0 = v) (a1 : ¬ c1 = v) (a2 : ¬ c0 = c1) : own_ok s v c0 c1 c2 c3 := by
  intro t ht; rw [h] at *
  match t, ht with
  | 0, _ => exact ⟨a0, fun u hu hn => match u, hu with
    | 0, _ => absurd rfl hn
    | 1, _ => a2⟩
  | 1, _ => exact ⟨a1, fun u hu hn => match u, hu with
    | 0, _ => fun e => a2 e.symm
    | 1, _ => absurd rfl hn⟩
theorem own_ok3 {s v c0 c1 c2 c3 : Int32} (h : s.toNatClampNeg = 3) (a0 : ¬ c0 = v) (a1 : ¬ c1 = v) (a2 : ¬ c0 = c1) (b0 : ¬ c2 = v) (b1 : ¬ c2 = c0) (b2 : ¬ c2 = c1) : own_ok s v c0 c1 c2 c3 := by
  intro t ht; rw [h] at *
  match t, ht with
  | 0, _ => exact ⟨a0, fun u hu hn => match u, hu with
    | 0, _ => absurd rfl hn
    | 1, _ => a2
    | 2, _ => fun e => b1 e.symm⟩
  | 1, _ => exact ⟨a1, fun u hu hn => match u, hu with
    | 0, _ => fun e => a2 e.symm
    | 1, _ => absurd rfl hn
    | 2, _ => fun e => b2 e.symm⟩
  | 2, _ => exact ⟨b0, fun u hu hn => match u, hu with
    | 0, _ => b1
    | 1, _ => b2
    | 2, _ => absurd rfl hn⟩
theorem own_ok4 {s v c0 c1 c2 c3 : Int32} (h : s.toNatClampNeg = 4) (a0 : ¬ c0 = v) (a1 : ¬ c1 = v) (a2 : ¬ c0 = c1) (b0 : ¬ c2 = v) (b1 : ¬ c2 = c0) (b2 : ¬ c2 = c1) (d0 : ¬ c3 = v) (d1 : ¬ c3 = c0) (d2 : ¬ c3 = c1) (d3 : ¬ c3 = c2) : own_ok s v c0 c1 c2 c3 := by
  intro t ht; rw [h] at *
  match t, ht with
  | 0, _ => exact ⟨a0, fun u hu hn => match u, hu with
    | 0, _ => absurd rfl hn
    | 1, _ => a2
    | 2, _ => fun e => b1 e.symm
    | 3, _ => fun e => d1 e.symm⟩
  | 1, _ => exact ⟨a1, fun u hu hn => match u, hu with
    | 0, _ => fun e => a2 e.symm
    | 1, _ => absurd rfl hn
    | 2, _ => fun e => b2 e.symm
    | 3, _ => fun e => d2 e.symm⟩
  | 2, _ => exact ⟨b0, fun u hu hn => match u, hu with
    | 0, _ => b1
    | 1, _ => b2
    | 2, _ => absurd rfl hn
    | 3, _ => fun e => d3 e.symm⟩
  | 3, _ => exact ⟨d0, fun u hu hn => match u, hu with
    | 0, _ => d1
    | 1, _ => d2
    | 2, _ => d3
    | 3, _ => absurd rfl hn⟩
/-- the lowest card and its seat, as the law reckons them -/
def own_min (s c0 c1 c2 c3 : Int32) (lw a : Int32) : Prop := ∃ u, u < s.toNatClampNeg ∧ a = Int32.ofInt (u : Int) ∧ lw = own_cd c0 c1 c2 c3 u ∧ ∀ t, t < s.toNatClampNeg → lw.toInt ≤ (own_cd c0 c1 c2 c3 t).toInt
theorem own_mn_s {n : Nat} {cd : Nat → Int32} {lw a b : Int32} (hb : b = Int32.ofInt (n : Int)) (h : ∃ u, u < n ∧ a = Int32.ofInt (u : Int) ∧ lw = cd u ∧ ∀ t, t < n → lw.toInt ≤ (cd t).toInt) : ∃ u, u < n + 1 ∧ (if cd n < lw then b else a) = Int32.ofInt (u : Int) ∧ (if cd n < lw then cd n else lw) = cd u ∧ ∀ t, t < n + 1 → (if cd n < lw then cd n else lw).toInt ≤ (cd t).toInt := by
  obtain ⟨u, h1, h2, h3, h4⟩ := h
  by_cases q : cd n < lw
  · simp only [if_pos q]; rw [Int32.lt_iff_toInt_lt] at q
    refine ⟨n, Nat.lt_succ_self _, hb, rfl, fun t ht => ?_⟩
    by_cases e : t = n
    · rw [e]; exact Int.le_refl _
    · have := h4 t (by omega); omega
  · simp only [if_neg q]; rw [Int32.lt_iff_toInt_lt] at q
    refine ⟨u, by omega, h2, h3, fun t ht => ?_⟩
    by_cases e : t = n
    · rw [e]; omega
    · exact h4 t (by omega)
theorem own_minL {s c0 c1 c2 c3 th fo : Int32} (hs : 2 ≤ s.toInt ∧ s.toInt ≤ 4) (h3 : th = if s < (3 : Int32) then (0 : Int32) else (1 : Int32)) (h4 : fo = if s < (4 : Int32) then (0 : Int32) else (1 : Int32)) {lw a lw1 a1 lw2 a2 : Int32} (e1 : lw1 = (if c1 < c0 then c1 else c0)) (e2 : a1 = (if c1 < c0 then (1 : Int32) else (0 : Int32))) (e3 : lw2 = (if th = (0 : Int32) then lw1 else (if c2 < lw1 then c2 else lw1))) (e4 : a2 = (if th = (0 : Int32) then a1 else (if c2 < lw1 then (2 : Int32) else a1))) (e5 : lw = (if fo = (0 : Int32) then lw2 else (if c3 < lw2 then c3 else lw2))) (e6 : a = (if fo = (0 : Int32) then a2 else (if c3 < lw2 then (3 : Int32) else a2))) : own_min s c0 c1 c2 c3 lw a := by
  have b1 : ∃ u : Nat, u < 1 ∧ (0 : Int32) = Int32.ofInt (u : Int) ∧ c0 = own_cd c0 c1 c2 c3 u ∧ ∀ t, t < 1 → c0.toInt ≤ (own_cd c0 c1 c2 c3 t).toInt := ⟨0, by decide, rfl, rfl, fun t ht => by
    match t, ht with
    | 0, _ => exact Int.le_refl _⟩
  have b2 := own_mn_s (b := (1 : Int32)) rfl b1
  have b3 := own_mn_s (b := (2 : Int32)) rfl b2
  have b4 := own_mn_s (b := (3 : Int32)) rfl b3
  simp only [own_cd] at b2 b3 b4
  unfold own_min
  by_cases q : s < (3 : Int32)
  · have r : s < (4 : Int32) := by
      rw [Int32.lt_iff_toInt_lt] at *; have z : (3 : Int32).toInt = 3 := rfl; have z : (4 : Int32).toInt = 4 := rfl; omega
    rw [if_pos q] at h3; rw [if_pos r] at h4
    rw [if_pos h3] at e3 e4; rw [if_pos h4] at e5 e6
    rw [own_n2 hs q, e5, e6, e3, e4, e1, e2]; exact b2
  · rw [if_neg q] at h3
    have h3' : ¬ th = (0 : Int32) := by rw [h3]; decide
    rw [if_neg h3'] at e3 e4
    by_cases r : s < (4 : Int32)
    · rw [if_pos r] at h4; rw [if_pos h4] at e5 e6
      rw [own_n3 q r, e5, e6, e3, e4, e1, e2]; exact b3
    · rw [if_neg r] at h4
      have h4' : ¬ fo = (0 : Int32) := by rw [h4]; decide
      rw [if_neg h4'] at e5 e6
      rw [own_n4 hs r, e5, e6, e3, e4, e1, e2]; exact b4
theorem own_minv {s c0 c1 c2 c3 lw a v : Int32} (h : own_min s c0 c1 c2 c3 lw a) : lw < v ↔ ∃ u, u < s.toNatClampNeg ∧ (own_cd c0 c1 c2 c3 u).toInt < v.toInt := by
  obtain ⟨u, h1, -, h3, h4⟩ := h
  rw [Int32.lt_iff_toInt_lt]
  constructor
  · intro q; exact ⟨u, h1, h3 ▸ q⟩
  · rintro ⟨t, ht, q⟩; have := h4 t ht; omega
theorem own_mine {s v c0 c1 c2 c3 lw a : Int32} {z : Nat} (h : own_min s c0 c1 c2 c3 lw a) (hok : own_ok s v c0 c1 c2 c3) (hz : z < s.toNatClampNeg) (hm : ∀ u, u < s.toNatClampNeg → (own_cd c0 c1 c2 c3 z).toInt ≤ (own_cd c0 c1 c2 c3 u).toInt) : Int32.ofInt (z : Int) = a := by
  obtain ⟨u, h1, h2, h3, h4⟩ := h
  by_cases e : z = u
  · rw [e, h2]
  · have n := (hok z hz).2 u h1 e
    have x := hm u h1
    have y := h4 z hz
    rw [h3] at y
    exact absurd (Int32.toInt_inj.1 (by omega)) n
theorem own_ok_cb {s v c0 c1 c2 c3 : Int32} (h : own_ok s v c0 c1 c2 c3) (hc : ∀ u, own_card (own_cd c0 c1 c2 c3 u)) : own_CB (own_cd c0 c1 c2 c3) s.toNatClampNeg := ⟨fun t _ => ⟨(hc t).1, (hc t).2.1⟩, fun t u ht hu hn => (h t ht).2 u hu hn⟩
theorem own_rowof (x : Int32) : ∃ r : Nat, r < 4 ∧ ((1 : Int32) + (x &&& (3 : Int32))) - (1 : Int32) = Int32.ofInt (r : Int) ∧ ¬ ((1 : Int32) + (x &&& (3 : Int32))) < (1 : Int32) ∧ ¬ (4 : Int32) < ((1 : Int32) + (x &&& (3 : Int32))) := by
  obtain ⟨k, e⟩ := own_and3 x
  refine ⟨k.val, k.isLt, ?_⟩
  rw [e]; clear e; revert k; decide
theorem own_lawA {k v c0 c1 c2 c3 : Int32} {n : Nat} (hk : ∃ j : Fin 4, k = Int32.ofInt (j.val : Int)) (hv : 1 ≤ v.toInt ∧ v.toInt ≤ 100) (h : ∃ u, u < n ∧ (own_cd c0 c1 c2 c3 u).toInt < v.toInt) : ∀ w0 w1, (w0 = own_q1 (own_sts k v) ∧ w1 = own_q2 (own_sts k v)) → ∀ c : Int32, (1 ≤ c.toInt ∧ c.toInt ≤ 104) → (∀ u, u < n → c.toInt ≤ (own_cd c0 c1 c2 c3 u).toInt) → fhb c w0 w1 = (0 : Int32) := by
  rintro w0 w1 ⟨rfl, rfl⟩ c hc hm
  obtain ⟨u, hu, hlt⟩ := h
  have := hm u hu
  refine own_q_hb (fun x hx => own_sts_b hk hv hx) hc (fun x hx => ?_)
  rcases own_sts_val hk hx with e | e
  · rw [e]; omega
  · omega
theorem own_lawB {k v c0 c1 c2 c3 s : Int32} (hk : ∃ j : Fin 4, k = Int32.ofInt (j.val : Int)) (hv : 1 ≤ v.toInt ∧ v.toInt ≤ 100) (hok : own_ok s v c0 c1 c2 c3) (hc : ∀ u, own_card (own_cd c0 c1 c2 c3 u)) (h : ¬ ∃ u, u < s.toNatClampNeg ∧ (own_cd c0 c1 c2 c3 u).toInt < v.toInt) : ∀ w0 w1, (w0 = own_q1 (own_sts k v) ∧ w1 = own_q2 (own_sts k v)) → ∀ u, u < s.toNatClampNeg → ¬ (fhb (own_cd c0 c1 c2 c3 u) w0 w1 = (0 : Int32)) := by
  rintro w0 w1 ⟨rfl, rfl⟩ u hu
  have n1 : ¬ (own_cd c0 c1 c2 c3 u).toInt < v.toInt := fun q => h ⟨u, hu, q⟩
  have n2 : (own_cd c0 c1 c2 c3 u).toInt ≠ v.toInt := fun q => (hok u hu).1 (Int32.toInt_inj.1 q)
  exact own_hb_mem hv.1 (by omega) (hc u).2.1 _ _ ((own_q_mem (fun x hx => own_sts_b hk hv hx) (by omega)).2 (own_sts_v hk))
theorem own_ivx {Z : State} {cs : List Value} (hall : ∀ j : Nat, j < 256 → ∃ w, cs.getD j .null = .ref w ∧ Exa Z Z.heap w "java/lang/Integer" ∧ Fld Z Z.heap w "java/lang/Integer" "value" "I" (.int (Int32.ofInt ((j : Int) - 128)))) {x : Int32} (hx : 1 ≤ x.toInt ∧ x.toInt ≤ 104) : (¬ (x < (-128 : Int32)) ∧ ¬ ((127 : Int32) < x) ∧ (¬ (x + (128 : Int32)) < 0 ∧ (x + (128 : Int32)) < (256 : Int32))) ∧ ∃ w, cs.getD (x + (128 : Int32)).toNatClampNeg .null = .ref w ∧ Exa Z Z.heap w "java/lang/Integer" ∧ Fld Z Z.heap w "java/lang/Integer" "value" "I" (.int x) := by
  have z1 : (-128 : Int32).toInt = -128 := rfl
  have z2 : (127 : Int32).toInt = 127 := rfl
  have z3 : (128 : Int32).toInt = 128 := rfl
  have z4 : (0 : Int32).toInt = 0 := rfl
  have z5 : (256 : Int32).toInt = 256 := rfl
  have e : (x + (128 : Int32)).toInt = x.toInt + 128 := by rw [Int32.toInt_add, z3, Int.bmod_eq_of_le (by omega) (by omega)]
  refine ⟨by simp only [Int32.lt_iff_toInt_lt, z1, z2, z4, z5, e]; omega, ?_⟩
  obtain ⟨w, h1, h2, h3⟩ := hall (x + (128 : Int32)).toNatClampNeg (by simp only [Int32.toNatClampNeg, e]; omega)
  have e2 : Int32.ofInt (((x + (128 : Int32)).toNatClampNeg : Int) - 128) = x := by
    have : ((x + (128 : Int32)).toNatClampNeg : Int) - 128 = x.toInt := by simp only [Int32.toNatClampNeg, e]; omega
    rw [this, Int32.ofInt_toInt]
  rw [e2] at h3
  exact ⟨w, h1, h2, h3⟩
theorem own_min_ne {s c0 c1 c2 c3 lw a : Int32} (h : own_min s c0 c1 c2 c3 lw a) (hs : s.toInt ≤ 4) : ¬ (a + (1 : Int32) = (0 : Int32)) := by
  obtain ⟨u, h1, rfl, -⟩ := h
  have : u < 4 := by simp only [Int32.toNatClampNeg] at h1; omega
  match u, this with
  | 0, _ => decide
  | 1, _ => decide
  | 2, _ => decide
  | 3, _ => decide
theorem own_lt_irr (s : Int32) : ¬ s < s := fun q => by rw [Int32.lt_iff_toInt_lt] at q; omega
theorem own_th {s x d : Int32} (h : x = if s < d then (0 : Int32) else (1 : Int32)) (q : x = (0 : Int32)) : s < d := by
  by_cases r : s < d
  · exact r
  · rw [if_neg r] at h; rw [h] at q; exact absurd q (by decide)
theorem own_thn {s x d : Int32} (h : x = if s < d then (0 : Int32) else (1 : Int32)) (q : ¬ x = (0 : Int32)) : ¬ s < d := fun r => q (h.trans (if_pos r))
theorem own_l34 {s : Int32} (h : s < (3 : Int32)) : s < (4 : Int32) := by
  rw [Int32.lt_iff_toInt_lt] at *; have z : (3 : Int32).toInt = 3 := rfl; have z : (4 : Int32).toInt = 4 := rfl; omega
theorem own_cv2 {s c0 c1 c2 c3 : Int32} {x y : Value} (h : s.toNatClampNeg = 2) : ∀ u, u < s.toNatClampNeg → ([(.int c0), (.int c1), x, y] : List Value).getD u (.int (0 : Int32)) = .int (own_cd c0 c1 c2 c3 u) := by
  rw [h]; intro u hu
  match u, hu with
  | 0, _ => rfl
  | 1, _ => rfl
theorem own_cv3 {s c0 c1 c2 c3 : Int32} {y : Value} (h : s.toNatClampNeg = 3) : ∀ u, u < s.toNatClampNeg → ([(.int c0), (.int c1), (.int c2), y] : List Value).getD u (.int (0 : Int32)) = .int (own_cd c0 c1 c2 c3 u) := by
  rw [h]; intro u hu
  match u, hu with
  | 0, _ => rfl
  | 1, _ => rfl
  | 2, _ => rfl
theorem own_cv4 {s c0 c1 c2 c3 : Int32} (h : s.toNatClampNeg = 4) : ∀ u, u < s.toNatClampNeg → ([(.int c0), (.int c1), (.int c2), (.int c3)] : List Value).getD u (.int (0 : Int32)) = .int (own_cd c0 c1 c2 c3 u) := by
  rw [h]; intro u hu
  match u, hu with
  | 0, _ => rfl
  | 1, _ => rfl
  | 2, _ => rfl
  | 3, _ => rfl
theorem own_ix_s {s : Int32} (h : 2 ≤ s.toInt) {j : Int32} (h0 : 0 ≤ j.toInt) (hj : j.toInt < s.toInt) : ¬ j < 0 ∧ j < s := by
  have z : (0 : Int32).toInt = 0 := rfl
  simp only [Int32.lt_iff_toInt_lt]; omega
theorem ef_0 (m : MethodId) (p0 : Int32) (p1 : Int32) (p2 : Int32) (p3 : Int32) (p4 : Int32) (p5 : Int32) : entryFrame m #[(.int p0), (.int p1), (.int p2), (.int p3), (.int p4), (.int p5)] maxLocals = mkF m 0 #[vI p0, vI p1, vI p2, vI p3, vI p4, vI p5, vU, vU, vU, vU, vU, vU, vU, vU, vU, vU, vU, vU, vU, vU, vU] [] := by first | (simp [entryFrame, mkF, argsToLocals, Value.category, vI, vR, vU, maxLocals]; done) | rfl
theorem pd_21 : parseMethodDescriptor "(III)I" = some ⟨[.int, .int, .int], some .int⟩ := by decide +kernel
theorem pd_22 : parseMethodDescriptor "(I)Ljava/lang/Integer;" = some ⟨[.int], some (.object "java/lang/Integer")⟩ := by decide +kernel
theorem pd_23 : parseMethodDescriptor "(Ljava/lang/Object;)Z" = some ⟨[(.object "java/lang/Object")], some .boolean⟩ := by decide +kernel
theorem pd_24 : parseMethodDescriptor "([I)V" = some ⟨[(.array .int)], none⟩ := by decide +kernel
def Q0 (Z : State) (p0 : Int32) (p1 : Int32) (p2 : Int32) (p3 : Int32) (p4 : Int32) (p5 : Int32) (hd : Addr) (kH : ClassId) (hv : List Value) (ca : Addr) (kC : ClassId) (cs : List Value) (dc : Addr) (kD : ClassId) (h0 : Heap) (n0 : Nat) (v : Option Value) (h : Heap) (L : List Loc) : Prop := Fr n0 L ∧ v = some (.int (1 : Int32))
set_option maxRecDepth 65536 in
set_option maxHeartbeats 40000000 in
theorem rm0 (l : Launch) (Z : State) (a0 : Array Value) (hw : ∀ d ∈ tables_1, d.before a0 Z = true) (ws : List Jvm.Cond) (p0 : Int32) (p1 : Int32) (p2 : Int32) (p3 : Int32) (p4 : Int32) (p5 : Int32) (hd : Addr) (kH : ClassId) (hv : List Value) (ca : Addr) (kC : ClassId) (cs : List Value) (dc : Addr) (kD : ClassId) (h0 : Heap) (n0 : Nat) (Z0 : n0 ≤ h0.size) (P0 : Old Z n0 h0) (hn0 : h0.size ≤ n0) (hS : Sta Z Z.heap "com/example/sixfold/sixfold/rows/Card" "HEADS" "[B" (.ref hd)) (hV : Arv Z Z.heap hd kH .byte (105 : Int32) hv (.int (0 : Int32))) (hints : own_ints hv) (hI1 : Sta Z Z.heap "java/lang/Integer$IntegerCache" "high" "I" (.int (127 : Int32))) (hI2 : Sta Z Z.heap "java/lang/Integer$IntegerCache" "cache" "[Ljava/lang/Integer;" (.ref ca)) (hI3 : Arv Z Z.heap ca kC (.object "java/lang/Integer") (256 : Int32) cs .null) (hD1 : Sta Z Z.heap "java/util/ArrayList" "DEFAULTCAPACITY_EMPTY_ELEMENTDATA" "[Ljava/lang/Object;" (.ref dc)) (hD2 : Arv Z Z.heap dc kD (.object "java/lang/Object") (0 : Int32) [] .null) (hall : ∀ j : Nat, j < 256 → ∃ w, cs.getD j .null = .ref w ∧ Exa Z Z.heap w "java/lang/Integer" ∧ Fld Z Z.heap w "java/lang/Integer" "value" "I" (.int (Int32.ofInt ((j : Int) - 128)))) :
    own_Cw l Z x code maxLocals ret ws room_1 #[(.int p0), (.int p1), (.int p2), (.int p3), (.int p4), (.int p5)] h0 (Q0 Z p0 p1 p2 p3 p4 p5 hd kH hv ca kC cs dc kD h0 n0) := by
  refine own_body (plainFor_of_name pn_com_example_sixfold_sixfold_rows_TableWaitingPinLaw) ?_
  intro p e s m below meth c s₁ hx hby hml hZ hown hnm hret hlk X0 e0
  have N0 := Fr.nil n0
  refine own_go (fun t k => castTop (ef_0 m p0 p1 p2 p3 p4 p5) k) ?_
  refine sc X0 hx (hb hby at_0) ?_
  show own_Gl _ _ _ _ (s₁.setTop (mkF m 1 #[vI p0, vI p1, vI p2, vI p3, vI p4, vI p5, vU, vU, vU, vU, vU, vU, vU, vU, vU, vU, vU, vU, vU, vU, vU] [(.int (2 : Int32))]))
  refine si X0 hx (hb hby at_1) ?_
  refine sc X0 hx (hb hby at_2) ?_
  refine og (XS.iand X0.here hx rfl (hb hby at_3) rfl) ?_
  refine sc X0 hx (hb hby at_4) ?_
  refine og (iremM X0 hx rfl (hb hby at_5) rfl (by decide)) ?_
  refine og (XS.iadd X0.here hx rfl (hb hby at_6) rfl) ?_
  refine og (XS.istore X0.here hx rfl (hb hby at_7) rfl (l' := #[vI p0, vI p1, vI p2, vI p3, vI p4, vI p5, vI ((2 : Int32) + ((p0 &&& (3 : Int32)) % (3 : Int32))), vU, vU, vU, vU, vU, vU, vU, vU, vU, vU, vU, vU, vU, vU]) rfl) ?_
  show own_Gl _ _ _ _ (s₁.setTop (mkF m 9 #[vI p0, vI p1, vI p2, vI p3, vI p4, vI p5, vI ((2 : Int32) + ((p0 &&& (3 : Int32)) % (3 : Int32))), vU, vU, vU, vU, vU, vU, vU, vU, vU, vU, vU, vU, vU, vU] []))
  obtain ⟨sv, en_sv⟩ : ∃ z, z = ((2 : Int32) + ((p0 &&& (3 : Int32)) % (3 : Int32))) := ⟨_, rfl⟩
  rw [← en_sv]
  have hsv := own_seats p0
  rw [← en_sv] at hsv
  refine sc X0 hx (hb hby at_9) ?_
  refine si X0 hx (hb hby at_10) ?_
  show own_Gl _ _ _ _ (s₁.setTop (mkF m 11 #[vI p0, vI p1, vI p2, vI p3, vI p4, vI p5, vI sv, vU, vU, vU, vU, vU, vU, vU, vU, vU, vU, vU, vU, vU, vU] [(.int p1), (.int (1 : Int32))]))
  refine og (X0.ldcInt hx hown (mvT hZ (wx hw 0)) (g := (mkF m 11 #[vI p0, vI p1, vI p2, vI p3, vI p4, vI p5, vI sv, vU, vU, vU, vU, vU, vU, vU, vU, vU, vU, vU, vU, vU, vU] [(.int p1), (.int (1 : Int32))])) rfl (hb hby at_11) _) ?_
  refine og (XS.iand X0.here hx rfl (hb hby at_13) rfl) ?_
  refine og (XS.bipush X0.here hx rfl (hb hby at_14)) ?_
  refine og (iremM X0 hx rfl (hb hby at_16) rfl (by decide)) ?_
  refine og (XS.iadd X0.here hx rfl (hb hby at_17) rfl) ?_
  refine og (XS.istore X0.here hx rfl (hb hby at_18) rfl (l' := #[vI p0, vI p1, vI p2, vI p3, vI p4, vI p5, vI sv, vI ((1 : Int32) + ((p1 &&& (2147483647 : Int32)) % (100 : Int32))), vU, vU, vU, vU, vU, vU, vU, vU, vU, vU, vU, vU, vU]) rfl) ?_
  show own_Gl _ _ _ _ (s₁.setTop (mkF m 20 #[vI p0, vI p1, vI p2, vI p3, vI p4, vI p5, vI sv, vI ((1 : Int32) + ((p1 &&& (2147483647 : Int32)) % (100 : Int32))), vU, vU, vU, vU, vU, vU, vU, vU, vU, vU, vU, vU, vU] []))
  obtain ⟨vv, en_vv⟩ : ∃ z, z = ((1 : Int32) + ((p1 &&& (2147483647 : Int32)) % (100 : Int32))) := ⟨_, rfl⟩
  rw [← en_vv]
  have hvv := own_start0 p1
  rw [← en_vv] at hvv
  refine si X0 hx (hb hby at_20) ?_
  refine sc X0 hx (hb hby at_21) ?_
  refine og (XS.iushr X0.here hx rfl (hb hby at_22) rfl) ?_
  refine sc X0 hx (hb hby at_23) ?_
  refine og (XS.iand X0.here hx rfl (hb hby at_24) rfl) ?_
  refine og (XS.istore X0.here hx rfl (hb hby at_25) rfl (l' := #[vI p0, vI p1, vI p2, vI p3, vI p4, vI p5, vI sv, vI vv, vI (((p0.toUInt32 >>> ((4 : Int32) &&& 31).toUInt32).toInt32) &&& (3 : Int32)), vU, vU, vU, vU, vU, vU, vU, vU, vU, vU, vU, vU]) rfl) ?_
  show own_Gl _ _ _ _ (s₁.setTop (mkF m 27 #[vI p0, vI p1, vI p2, vI p3, vI p4, vI p5, vI sv, vI vv, vI (((p0.toUInt32 >>> ((4 : Int32) &&& 31).toUInt32).toInt32) &&& (3 : Int32)), vU, vU, vU, vU, vU, vU, vU, vU, vU, vU, vU, vU] []))
  obtain ⟨kq, en_kq⟩ : ∃ z, z = (((p0.toUInt32 >>> ((4 : Int32) &&& 31).toUInt32).toInt32) &&& (3 : Int32)) := ⟨_, rfl⟩
  rw [← en_kq]
  have hkq := own_and3 ((p0.toUInt32 >>> ((4 : Int32) &&& 31).toUInt32).toInt32)
  rw [← en_kq] at hkq
  refine si X0 hx (hb hby at_27) ?_
  refine oc_static X0 hx hZ hown (wx hw 1) (wx hw 2) (wx hw 3) (wx hw 4) (by decide) (W := 0) (rmcard l Z a0 hw [] p2 h0 n0 Z0 ) (by decide) (by decide) (argsL := [(.int p2)]) (rest := []) (by rw [hml]; rfl) (lenOf pd_2 rfl) rfl (Nat.le_of_eq rfl) (hb hby at_28) rfl e0 (by decide) (by decide) (fun v41 T41 Lc41 hQ41 X41 => ?_)
  obtain ⟨N41q, rfl, hq41⟩ := hQ41
  have N41 := Fr.app N0 N41q
  refine og (XS.istore X41.here hx rfl (hb hby at_31) rfl (l' := #[vI p0, vI p1, vI p2, vI p3, vI p4, vI p5, vI sv, vI vv, vI kq, vI (fcard p2), vU, vU, vU, vU, vU, vU, vU, vU, vU, vU, vU]) rfl) ?_
  refine si X41 hx (hb hby at_33) ?_
  refine oc_static X41 hx hZ hown (wx hw 1) (wx hw 2) (wx hw 3) (wx hw 4) (by decide) (W := 0) (rmcard l Z a0 hw [] p3 h0 n0 Z0 ) (by decide) (by decide) (argsL := [(.int p3)]) (rest := []) (by rw [hml]; rfl) (lenOf pd_2 rfl) rfl (Nat.le_of_eq rfl) (hb hby at_34) rfl hq41 (by decide) (by decide) (fun v42 T42 Lc42 hQ42 X42 => ?_)
  obtain ⟨N42q, rfl, hq42⟩ := hQ42
  have N42 := Fr.app N41 N42q
  refine og (XS.istore X42.here hx rfl (hb hby at_37) rfl (l' := #[vI p0, vI p1, vI p2, vI p3, vI p4, vI p5, vI sv, vI vv, vI kq, vI (fcard p2), vI (fcard p3), vU, vU, vU, vU, vU, vU, vU, vU, vU, vU]) rfl) ?_
  refine sI X42 hx (hb hby at_39) ?_
  refine oc_static X42 hx hZ hown (wx hw 1) (wx hw 2) (wx hw 3) (wx hw 4) (by decide) (W := 0) (rmcard l Z a0 hw [] p4 h0 n0 Z0 ) (by decide) (by decide) (argsL := [(.int p4)]) (rest := []) (by rw [hml]; rfl) (lenOf pd_2 rfl) rfl (Nat.le_of_eq rfl) (hb hby at_41) rfl hq42 (by decide) (by decide) (fun v43 T43 Lc43 hQ43 X43 => ?_)
  obtain ⟨N43q, rfl, hq43⟩ := hQ43
  have N43 := Fr.app N42 N43q
  refine og (XS.istore X43.here hx rfl (hb hby at_44) rfl (l' := #[vI p0, vI p1, vI p2, vI p3, vI p4, vI p5, vI sv, vI vv, vI kq, vI (fcard p2), vI (fcard p3), vI (fcard p4), vU, vU, vU, vU, vU, vU, vU, vU, vU]) rfl) ?_
  refine sI X43 hx (hb hby at_46) ?_
  refine oc_static X43 hx hZ hown (wx hw 1) (wx hw 2) (wx hw 3) (wx hw 4) (by decide) (W := 0) (rmcard l Z a0 hw [] p5 h0 n0 Z0 ) (by decide) (by decide) (argsL := [(.int p5)]) (rest := []) (by rw [hml]; rfl) (lenOf pd_2 rfl) rfl (Nat.le_of_eq rfl) (hb hby at_48) rfl hq43 (by decide) (by decide) (fun v44 T44 Lc44 hQ44 X44 => ?_)
  obtain ⟨N44q, rfl, hq44⟩ := hQ44
  have N44 := Fr.app N43 N44q
  refine og (XS.istore X44.here hx rfl (hb hby at_51) rfl (l' := #[vI p0, vI p1, vI p2, vI p3, vI p4, vI p5, vI sv, vI vv, vI kq, vI (fcard p2), vI (fcard p3), vI (fcard p4), vI (fcard p5), vU, vU, vU, vU, vU, vU, vU, vU]) rfl) ?_
  show own_Gl _ _ _ _ (T44.setTop (mkF m 53 #[vI p0, vI p1, vI p2, vI p3, vI p4, vI p5, vI sv, vI vv, vI kq, vI (fcard p2), vI (fcard p3), vI (fcard p4), vI (fcard p5), vU, vU, vU, vU, vU, vU, vU, vU] []))
  obtain ⟨cA, en_cA⟩ : ∃ z, z = (fcard p2) := ⟨_, rfl⟩
  rw [← en_cA]
  have hcA := own_fcard p2
  rw [show fcard p2 = cA from en_cA.symm] at hcA
  show own_Gl _ _ _ _ (T44.setTop (mkF m 53 #[vI p0, vI p1, vI p2, vI p3, vI p4, vI p5, vI sv, vI vv, vI kq, vI cA, vI (fcard p3), vI (fcard p4), vI (fcard p5), vU, vU, vU, vU, vU, vU, vU, vU] []))
  obtain ⟨cB, en_cB⟩ : ∃ z, z = (fcard p3) := ⟨_, rfl⟩
  rw [← en_cB]
  have hcB := own_fcard p3
  rw [show fcard p3 = cB from en_cB.symm] at hcB
  show own_Gl _ _ _ _ (T44.setTop (mkF m 53 #[vI p0, vI p1, vI p2, vI p3, vI p4, vI p5, vI sv, vI vv, vI kq, vI cA, vI cB, vI (fcard p4), vI (fcard p5), vU, vU, vU, vU, vU, vU, vU, vU] []))
  obtain ⟨cC, en_cC⟩ : ∃ z, z = (fcard p4) := ⟨_, rfl⟩
  rw [← en_cC]
  have hcC := own_fcard p4
  rw [show fcard p4 = cC from en_cC.symm] at hcC
  show own_Gl _ _ _ _ (T44.setTop (mkF m 53 #[vI p0, vI p1, vI p2, vI p3, vI p4, vI p5, vI sv, vI vv, vI kq, vI cA, vI cB, vI cC, vI (fcard p5), vU, vU, vU, vU, vU, vU, vU, vU] []))
  obtain ⟨cD, en_cD⟩ : ∃ z, z = (fcard p5) := ⟨_, rfl⟩
  rw [← en_cD]
  have hcD := own_fcard p5
  rw [show fcard p5 = cD from en_cD.symm] at hcD
  have hcd := own_cd_card hcA hcB hcC hcD
  refine sI X44 hx (hb hby at_53) ?_
  refine sc X44 hx (hb hby at_55) ?_
  refine own_jn (S := (T44.setTop (mkF m 64 #[vI p0, vI p1, vI p2, vI p3, vI p4, vI p5, vI sv, vI vv, vI kq, vI cA, vI cB, vI cC, vI cD, vU, vU, vU, vU, vU, vU, vU, vU] [(.int (if sv < (3 : Int32) then (0 : Int32) else (1 : Int32)))]))) ?_ (fun J45 => ?_)
  · refine og (XS.istore X44.here hx rfl (hb hby at_64) rfl (l' := #[vI p0, vI p1, vI p2, vI p3, vI p4, vI p5, vI sv, vI vv, vI kq, vI cA, vI cB, vI cC, vI cD, vI (if sv < (3 : Int32) then (0 : Int32) else (1 : Int32)), vU, vU, vU, vU, vU, vU, vU]) rfl) ?_
    refine sI X44 hx (hb hby at_66) ?_
    refine sc X44 hx (hb hby at_68) ?_
    refine own_jn (S := (T44.setTop (mkF m 77 #[vI p0, vI p1, vI p2, vI p3, vI p4, vI p5, vI sv, vI vv, vI kq, vI cA, vI cB, vI cC, vI cD, vI (if sv < (3 : Int32) then (0 : Int32) else (1 : Int32)), vU, vU, vU, vU, vU, vU, vU] [(.int (if sv < (4 : Int32) then (0 : Int32) else (1 : Int32)))]))) ?_ (fun J46 => ?_)
    · refine og (XS.istore X44.here hx rfl (hb hby at_77) rfl (l' := #[vI p0, vI p1, vI p2, vI p3, vI p4, vI p5, vI sv, vI vv, vI kq, vI cA, vI cB, vI cC, vI cD, vI (if sv < (3 : Int32) then (0 : Int32) else (1 : Int32)), vI (if sv < (4 : Int32) then (0 : Int32) else (1 : Int32)), vU, vU, vU, vU, vU, vU]) rfl) ?_
      show own_Gl _ _ _ _ (T44.setTop (mkF m 79 #[vI p0, vI p1, vI p2, vI p3, vI p4, vI p5, vI sv, vI vv, vI kq, vI cA, vI cB, vI cC, vI cD, vI (if sv < (3 : Int32) then (0 : Int32) else (1 : Int32)), vI (if sv < (4 : Int32) then (0 : Int32) else (1 : Int32)), vU, vU, vU, vU, vU, vU] []))
      obtain ⟨th, en_th⟩ : ∃ z, z = (if sv < (3 : Int32) then (0 : Int32) else (1 : Int32)) := ⟨_, rfl⟩
      rw [← en_th]
      show own_Gl _ _ _ _ (T44.setTop (mkF m 79 #[vI p0, vI p1, vI p2, vI p3, vI p4, vI p5, vI sv, vI vv, vI kq, vI cA, vI cB, vI cC, vI cD, vI th, vI (if sv < (4 : Int32) then (0 : Int32) else (1 : Int32)), vU, vU, vU, vU, vU, vU] []))
      obtain ⟨fo, en_fo⟩ : ∃ z, z = (if sv < (4 : Int32) then (0 : Int32) else (1 : Int32)) := ⟨_, rfl⟩
      rw [← en_fo]
      have cut : ∀ (Tc : State) (hC : Heap) (Lc : List Loc) (ba : Addr) (kb : ClassId) (cv : List Value), Tc.heap = hC → Stand p l e room_1 s m #[(.int p0), (.int p1), (.int p2), (.int p3), (.int p4), (.int p5)] below meth c Tc Lc 1 4 → Fr n0 Lc → Keep h0 hC [] → n0 ≤ ba → h0.size ≤ ba → Arv Z hC ba kb .int sv cv (.int (0 : Int32)) → (∀ u, u < sv.toNatClampNeg → cv.getD u (.int (0 : Int32)) = .int (own_cd cA cB cC cD u)) → own_ok sv vv cA cB cC cD → own_Gl p e below (own_End s room_1 (Q0 Z p0 p1 p2 p3 p4 p5 hd kH hv ca kC cs dc kD h0 n0)) (Tc.setTop (mkF m 205 #[vI p0, vI p1, vI p2, vI p3, vI p4, vI p5, vI sv, vI vv, vI kq, vI cA, vI cB, vI cC, vI cD, vI th, vI fo, vR ba, vU, vU, vU, vU, vU] [])) := by
        intro Tc hC Lc ba kb cv ec Xc Nc Kc geba sz_ba Gb hcv hok
        have Zc : n0 ≤ hC.size := Nat.le_trans Z0 Kc.1
        have Oc := P0.keep Kc all0
        show own_Gl _ _ _ _ (Tc.setTop (mkF m 205 #[vI p0, vI p1, vI p2, vI p3, vI p4, vI p5, vI sv, vI vv, vI kq, vI cA, vI cB, vI cC, vI cD, vI th, vI fo, vR ba, vU, vU, vU, vU, vU] []))
        obtain ⟨T47, h47, X47, e47, E47, A47, D47, -, st47⟩ := newO Xc hx hZ hown (wx hw 6) (wx hw 7) (wx hw 8) ec (g := (mkF m 205 #[vI p0, vI p1, vI p2, vI p3, vI p4, vI p5, vI sv, vI vv, vI kq, vI cA, vI cB, vI cC, vI cD, vI th, vI fo, vR ba, vU, vU, vU, vU, vU] [])) rfl (hb hby at_205) (by decide) (by decide)
        obtain ⟨b47, g47⟩ : ∃ z, z = hC.size := ⟨_, rfl⟩
        rw [← g47] at A47 D47 st47
        have ne_ba_b47 : ba ≠ b47 := Nat.ne_of_lt (Nat.lt_of_lt_of_le Gb.lt (Nat.le_of_eq g47.symm))
        have ge_b47 : n0 ≤ b47 := Nat.le_trans Zc (Nat.le_of_eq g47.symm)
        have sz_b47 : h0.size ≤ b47 := Nat.le_trans Kc.1 (Nat.le_of_eq g47.symm)
        refine og (st47 _) ?_
        have K47 : Keep h0 h47 [] := Kc.ext E47
        have Z47 : n0 ≤ h47.size := Nat.le_trans Zc E47.1
        have F47_28 : Fld Z h47 b47 "java/util/AbstractList" "modCount" "I" (.int (0 : Int32)) := D47 (Or.inl (wx hw 28)) (ty := .int) (by decide)
        have F47_31 : Fld Z h47 b47 "java/util/ArrayList" "elementData" "[Ljava/lang/Object;" .null := D47 (Or.inl (wx hw 31)) (ty := (.array (.object "java/lang/Object"))) (by decide)
        have F47_50 : Fld Z h47 b47 "java/util/ArrayList" "size" "I" (.int (0 : Int32)) := D47 (Or.inl (wx hw 50)) (ty := .int) (by decide)
        refine og (XS.dup X47.here hx rfl (hb hby at_208) rfl rfl) ?_
        have f_48 : Old Z n0 h47 := (Oc.ext E47)
        have f_49 : Sta Z h47 "java/util/ArrayList" "DEFAULTCAPACITY_EMPTY_ELEMENTDATA" "[Ljava/lang/Object;" (.ref dc) := hD1.ext f_48.2
        refine oc_special X47 hx hZ hown rfl (wx hw 9) (wx hw 10) (wx hw 8) (wx hw 11) (by decide) (W := 1) (rmali l Z a0 hw [] b47 dc h47 n0 Z47 A47 F47_28 F47_31 F47_50 f_49 ge_b47) (by decide) (by decide) (a := b47) (argsL := []) (rest := [(.ref b47)]) (by rw [hml]; rfl) (lenOf pd_4 rfl) rfl (Nat.le_of_eq rfl) (hb hby at_209) rfl e47 (by decide) (by decide) (fun v50 T50 Lc50 hQ50 X50 => ?_)
        obtain ⟨N50q, rfl, K50q, po50_0, po50_1, po50_2⟩ := hQ50
        have N50 := Fr.app Nc N50q
        have K50 : Keep h0 T50.heap [] := K47.trans K50q (allS (Or.inr sz_b47) all0)
        have Z50 : n0 ≤ T50.heap.size := Nat.le_trans Z47 K50q.1
        refine og (XS.astore X50.here hx rfl (hb hby at_212) rfl rfl (l' := #[vI p0, vI p1, vI p2, vI p3, vI p4, vI p5, vI sv, vI vv, vI kq, vI cA, vI cB, vI cC, vI cD, vI th, vI fo, vR ba, vR b47, vU, vU, vU, vU]) rfl) ?_
        refine og (XS.aload X50.here hx rfl (hb hby at_214) rfl rfl) ?_
        refine sc X50 hx (hb hby at_216) ?_
        refine sI X50 hx (hb hby at_217) ?_
        refine sI X50 hx (hb hby at_219) ?_
        refine oc_static X50 hx hZ hown (wx hw 32) (wx hw 33) (wx hw 3) (wx hw 34) (by decide) (W := 1) (rmstart l Z a0 hw [] (0 : Int32) kq vv T50.heap n0 Z50 ) (by decide) (by decide) (argsL := [(.int (0 : Int32)), (.int kq), (.int vv)]) (rest := [(.ref b47)]) (by rw [hml]; rfl) (lenOf pd_21 rfl) rfl (Nat.le_of_eq rfl) (hb hby at_221) rfl rfl (by decide) (by decide) (fun v51 T51 Lc51 hQ51 X51 => ?_)
        obtain ⟨N51q, rfl, hq51⟩ := hQ51
        have N51 := Fr.app N50 N51q
        have hb0 := own_sts_b hkq hvv (List.mem_of_getElem? (i := 0) rfl : fstart (0 : Int32) kq vv ∈ own_sts kq vv)
        obtain ⟨hc0, y0, hy0, eY0, fY0⟩ := own_ivx hall hb0
        have f_52 : Old Z n0 T50.heap := (f_48.keep K50q (allS ge_b47 all0))
        have f_53 : Sta Z T50.heap "java/lang/Integer$IntegerCache" "high" "I" (.int (127 : Int32)) := hI1.ext f_52.2
        have f_54 : Sta Z T50.heap "java/lang/Integer$IntegerCache" "cache" "[Ljava/lang/Integer;" (.ref ca) := hI2.ext f_52.2
        have f_55 : Arv Z T50.heap ca kC (.object "java/lang/Integer") (256 : Int32) cs .null := hI3.ext f_52.2
        refine oc_static X51 hx hZ hown (wx hw 35) (wx hw 36) (wx hw 37) (wx hw 38) (by decide) (W := 1) (rmiv l Z a0 hw [] (fstart (0 : Int32) kq vv) ca kC cs y0 T50.heap n0 Z50 f_53 f_54 f_55 hc0.1 hc0.2.1 hc0.2.2 hy0) (by decide) (by decide) (argsL := [(.int (fstart (0 : Int32) kq vv))]) (rest := [(.ref b47)]) (by rw [hml]; rfl) (lenOf pd_22 rfl) rfl (Nat.le_of_eq rfl) (hb hby at_224) rfl hq51 (by decide) (by decide) (fun v56 T56 Lc56 hQ56 X56 => ?_)
        obtain ⟨N56q, rfl, hq56⟩ := hQ56
        have N56 := Fr.app N51 N56q
        have f_57 := A47.keep K50q
        have f_58 : Sta Z T50.heap "java/util/ArrayList" "DEFAULTCAPACITY_EMPTY_ELEMENTDATA" "[Ljava/lang/Object;" (.ref dc) := hD1.ext f_52.2
        have f_59 : Arv Z T50.heap dc kD (.object "java/lang/Object") (0 : Int32) [] .null := hD2.ext f_52.2
        have f_60 : Exa Z T50.heap y0 "java/lang/Integer" := eY0.ext f_52.2
        refine oc_virtual X56 hx hZ hown (wx hw 42) (wx hw 43) (wx hw 45) (wx hw 44) (wx hw 8) (wx hw 46) (by decide) (W := 0) (rmadd_0 l Z a0 hw [] b47 y0 dc kD (0 : Int32) T50.heap n0 Z50 f_57 po50_0 po50_1 po50_2 f_58 f_59 f_60 ge_b47) (by decide) (by decide) f_57 (argsL := [(.ref y0)]) (rest := []) (by rw [hml]; rfl) (lenOf pd_23 rfl) rfl (Nat.le_of_eq rfl) (hb hby at_227) rfl hq56 (by decide) (by decide) (fun v61 T61 Lc61 hQ61 X61 => ?_)
        obtain ⟨N61q, w61_ar, w61_kA, gn_w61_ar, sz0_w61_ar, rfl, K61q, qx61_0, po61_0, po61_1, po61_2, po61_3⟩ := hQ61
        have N61 := Fr.app N56 N61q
        have f_62 := (Gb.ext E47).keep K50q (ninS ne_ba_b47 nin0)
        have ne_ba_w61_ar : ba ≠ w61_ar := Nat.ne_of_lt (Nat.lt_of_lt_of_le f_62.lt sz0_w61_ar)
        have ne_b47_w61_ar : b47 ≠ w61_ar := Nat.ne_of_lt (Nat.lt_of_lt_of_le f_57.lt sz0_w61_ar)
        have sz_w61_ar : h0.size ≤ w61_ar := Nat.le_trans K50.1 sz0_w61_ar
        have K61 : Keep h0 T61.heap [] := K50.trans K61q (allS (Or.inr sz_b47) all0)
        have Z61 : n0 ≤ T61.heap.size := Nat.le_trans Z50 K61q.1
        have po61_0' : Fld Z T61.heap b47 "java/util/AbstractList" "modCount" "I" (.int (1 : Int32)) := po61_0
        refine og (XS.pop X61.here hx rfl (hb hby at_230) rfl rfl) ?_
        refine og (XS.aload X61.here hx rfl (hb hby at_231) rfl rfl) ?_
        refine sc X61 hx (hb hby at_233) ?_
        refine sI X61 hx (hb hby at_234) ?_
        refine sI X61 hx (hb hby at_236) ?_
        refine oc_static X61 hx hZ hown (wx hw 32) (wx hw 33) (wx hw 3) (wx hw 34) (by decide) (W := 1) (rmstart l Z a0 hw [] (1 : Int32) kq vv T61.heap n0 Z61 ) (by decide) (by decide) (argsL := [(.int (1 : Int32)), (.int kq), (.int vv)]) (rest := [(.ref b47)]) (by rw [hml]; rfl) (lenOf pd_21 rfl) rfl (Nat.le_of_eq rfl) (hb hby at_238) rfl rfl (by decide) (by decide) (fun v63 T63 Lc63 hQ63 X63 => ?_)
        obtain ⟨N63q, rfl, hq63⟩ := hQ63
        have N63 := Fr.app N61 N63q
        have hb1 := own_sts_b hkq hvv (List.mem_of_getElem? (i := 1) rfl : fstart (1 : Int32) kq vv ∈ own_sts kq vv)
        obtain ⟨hc1, y1, hy1, eY1, fY1⟩ := own_ivx hall hb1
        have f_64 : Old Z n0 T61.heap := (f_52.keep K61q (allS ge_b47 all0))
        have f_65 : Sta Z T61.heap "java/lang/Integer$IntegerCache" "high" "I" (.int (127 : Int32)) := hI1.ext f_64.2
        have f_66 : Sta Z T61.heap "java/lang/Integer$IntegerCache" "cache" "[Ljava/lang/Integer;" (.ref ca) := hI2.ext f_64.2
        have f_67 : Arv Z T61.heap ca kC (.object "java/lang/Integer") (256 : Int32) cs .null := hI3.ext f_64.2
        refine oc_static X63 hx hZ hown (wx hw 35) (wx hw 36) (wx hw 37) (wx hw 38) (by decide) (W := 1) (rmiv l Z a0 hw [] (fstart (1 : Int32) kq vv) ca kC cs y1 T61.heap n0 Z61 f_65 f_66 f_67 hc1.1 hc1.2.1 hc1.2.2 hy1) (by decide) (by decide) (argsL := [(.int (fstart (1 : Int32) kq vv))]) (rest := [(.ref b47)]) (by rw [hml]; rfl) (lenOf pd_22 rfl) rfl (Nat.le_of_eq rfl) (hb hby at_241) rfl hq63 (by decide) (by decide) (fun v68 T68 Lc68 hQ68 X68 => ?_)
        obtain ⟨N68q, rfl, hq68⟩ := hQ68
        have N68 := Fr.app N63 N68q
        have f_69 := f_57.keep K61q
        have f_70 : Exa Z T61.heap y1 "java/lang/Integer" := eY1.ext f_64.2
        refine oc_virtual X68 hx hZ hown (wx hw 42) (wx hw 43) (wx hw 45) (wx hw 44) (wx hw 8) (wx hw 46) (by decide) (W := 0) (rmadd_1 l Z a0 hw [] b47 y1 w61_ar w61_kA (1 : Int32) (.ref y0) .null .null .null .null .null .null .null .null .null T61.heap n0 Z61 f_69 po61_0' po61_1 po61_2 po61_3 f_70 ne_b47_w61_ar ge_b47 gn_w61_ar qx61_0) (by decide) (by decide) f_69 (argsL := [(.ref y1)]) (rest := []) (by rw [hml]; rfl) (lenOf pd_23 rfl) rfl (Nat.le_of_eq rfl) (hb hby at_244) rfl hq68 (by decide) (by decide) (fun v71 T71 Lc71 hQ71 X71 => ?_)
        obtain ⟨N71q, rfl, K71q, po71_0, po71_1, po71_2, po71_3⟩ := hQ71
        have N71 := Fr.app N68 N71q
        have K71 : Keep h0 T71.heap [] := K61.trans K71q (allS (Or.inr sz_b47) (allS (Or.inr sz_w61_ar) all0))
        have Z71 : n0 ≤ T71.heap.size := Nat.le_trans Z61 K71q.1
        have po71_0' : Fld Z T71.heap b47 "java/util/AbstractList" "modCount" "I" (.int (2 : Int32)) := po71_0
        refine og (XS.pop X71.here hx rfl (hb hby at_247) rfl rfl) ?_
        refine og (XS.aload X71.here hx rfl (hb hby at_248) rfl rfl) ?_
        refine sc X71 hx (hb hby at_250) ?_
        refine sI X71 hx (hb hby at_251) ?_
        refine sI X71 hx (hb hby at_253) ?_
        refine oc_static X71 hx hZ hown (wx hw 32) (wx hw 33) (wx hw 3) (wx hw 34) (by decide) (W := 1) (rmstart l Z a0 hw [] (2 : Int32) kq vv T71.heap n0 Z71 ) (by decide) (by decide) (argsL := [(.int (2 : Int32)), (.int kq), (.int vv)]) (rest := [(.ref b47)]) (by rw [hml]; rfl) (lenOf pd_21 rfl) rfl (Nat.le_of_eq rfl) (hb hby at_255) rfl rfl (by decide) (by decide) (fun v72 T72 Lc72 hQ72 X72 => ?_)
        obtain ⟨N72q, rfl, hq72⟩ := hQ72
        have N72 := Fr.app N71 N72q
        have hb2 := own_sts_b hkq hvv (List.mem_of_getElem? (i := 2) rfl : fstart (2 : Int32) kq vv ∈ own_sts kq vv)
        obtain ⟨hc2, y2, hy2, eY2, fY2⟩ := own_ivx hall hb2
        have f_73 : Old Z n0 T71.heap := (f_64.keep K71q (allS ge_b47 (allS gn_w61_ar all0)))
        have f_74 : Sta Z T71.heap "java/lang/Integer$IntegerCache" "high" "I" (.int (127 : Int32)) := hI1.ext f_73.2
        have f_75 : Sta Z T71.heap "java/lang/Integer$IntegerCache" "cache" "[Ljava/lang/Integer;" (.ref ca) := hI2.ext f_73.2
        have f_76 : Arv Z T71.heap ca kC (.object "java/lang/Integer") (256 : Int32) cs .null := hI3.ext f_73.2
        refine oc_static X72 hx hZ hown (wx hw 35) (wx hw 36) (wx hw 37) (wx hw 38) (by decide) (W := 1) (rmiv l Z a0 hw [] (fstart (2 : Int32) kq vv) ca kC cs y2 T71.heap n0 Z71 f_74 f_75 f_76 hc2.1 hc2.2.1 hc2.2.2 hy2) (by decide) (by decide) (argsL := [(.int (fstart (2 : Int32) kq vv))]) (rest := [(.ref b47)]) (by rw [hml]; rfl) (lenOf pd_22 rfl) rfl (Nat.le_of_eq rfl) (hb hby at_258) rfl hq72 (by decide) (by decide) (fun v77 T77 Lc77 hQ77 X77 => ?_)
        obtain ⟨N77q, rfl, hq77⟩ := hQ77
        have N77 := Fr.app N72 N77q
        have f_78 := f_69.keep K71q
        have f_79 : Exa Z T71.heap y2 "java/lang/Integer" := eY2.ext f_73.2
        refine oc_virtual X77 hx hZ hown (wx hw 42) (wx hw 43) (wx hw 45) (wx hw 44) (wx hw 8) (wx hw 46) (by decide) (W := 0) (rmadd_2 l Z a0 hw [] b47 y2 w61_ar w61_kA (2 : Int32) (.ref y0) (.ref y1) .null .null .null .null .null .null .null .null T71.heap n0 Z71 f_78 po71_0' po71_1 po71_2 po71_3 f_79 ne_b47_w61_ar ge_b47 gn_w61_ar qx61_0) (by decide) (by decide) f_78 (argsL := [(.ref y2)]) (rest := []) (by rw [hml]; rfl) (lenOf pd_23 rfl) rfl (Nat.le_of_eq rfl) (hb hby at_261) rfl hq77 (by decide) (by decide) (fun v80 T80 Lc80 hQ80 X80 => ?_)
        obtain ⟨N80q, rfl, K80q, po80_0, po80_1, po80_2, po80_3⟩ := hQ80
        have N80 := Fr.app N77 N80q
        have K80 : Keep h0 T80.heap [] := K71.trans K80q (allS (Or.inr sz_b47) (allS (Or.inr sz_w61_ar) all0))
        have Z80 : n0 ≤ T80.heap.size := Nat.le_trans Z71 K80q.1
        have po80_0' : Fld Z T80.heap b47 "java/util/AbstractList" "modCount" "I" (.int (3 : Int32)) := po80_0
        refine og (XS.pop X80.here hx rfl (hb hby at_264) rfl rfl) ?_
        refine og (XS.aload X80.here hx rfl (hb hby at_265) rfl rfl) ?_
        refine sc X80 hx (hb hby at_267) ?_
        refine sI X80 hx (hb hby at_268) ?_
        refine sI X80 hx (hb hby at_270) ?_
        refine oc_static X80 hx hZ hown (wx hw 32) (wx hw 33) (wx hw 3) (wx hw 34) (by decide) (W := 1) (rmstart l Z a0 hw [] (3 : Int32) kq vv T80.heap n0 Z80 ) (by decide) (by decide) (argsL := [(.int (3 : Int32)), (.int kq), (.int vv)]) (rest := [(.ref b47)]) (by rw [hml]; rfl) (lenOf pd_21 rfl) rfl (Nat.le_of_eq rfl) (hb hby at_272) rfl rfl (by decide) (by decide) (fun v81 T81 Lc81 hQ81 X81 => ?_)
        obtain ⟨N81q, rfl, hq81⟩ := hQ81
        have N81 := Fr.app N80 N81q
        have hb3 := own_sts_b hkq hvv (List.mem_of_getElem? (i := 3) rfl : fstart (3 : Int32) kq vv ∈ own_sts kq vv)
        obtain ⟨hc3, y3, hy3, eY3, fY3⟩ := own_ivx hall hb3
        have f_82 : Old Z n0 T80.heap := (f_73.keep K80q (allS ge_b47 (allS gn_w61_ar all0)))
        have f_83 : Sta Z T80.heap "java/lang/Integer$IntegerCache" "high" "I" (.int (127 : Int32)) := hI1.ext f_82.2
        have f_84 : Sta Z T80.heap "java/lang/Integer$IntegerCache" "cache" "[Ljava/lang/Integer;" (.ref ca) := hI2.ext f_82.2
        have f_85 : Arv Z T80.heap ca kC (.object "java/lang/Integer") (256 : Int32) cs .null := hI3.ext f_82.2
        refine oc_static X81 hx hZ hown (wx hw 35) (wx hw 36) (wx hw 37) (wx hw 38) (by decide) (W := 1) (rmiv l Z a0 hw [] (fstart (3 : Int32) kq vv) ca kC cs y3 T80.heap n0 Z80 f_83 f_84 f_85 hc3.1 hc3.2.1 hc3.2.2 hy3) (by decide) (by decide) (argsL := [(.int (fstart (3 : Int32) kq vv))]) (rest := [(.ref b47)]) (by rw [hml]; rfl) (lenOf pd_22 rfl) rfl (Nat.le_of_eq rfl) (hb hby at_275) rfl hq81 (by decide) (by decide) (fun v86 T86 Lc86 hQ86 X86 => ?_)
        obtain ⟨N86q, rfl, hq86⟩ := hQ86
        have N86 := Fr.app N81 N86q
        have f_87 := f_78.keep K80q
        have f_88 : Exa Z T80.heap y3 "java/lang/Integer" := eY3.ext f_82.2
        refine oc_virtual X86 hx hZ hown (wx hw 42) (wx hw 43) (wx hw 45) (wx hw 44) (wx hw 8) (wx hw 46) (by decide) (W := 0) (rmadd_3 l Z a0 hw [] b47 y3 w61_ar w61_kA (3 : Int32) (.ref y0) (.ref y1) (.ref y2) .null .null .null .null .null .null .null T80.heap n0 Z80 f_87 po80_0' po80_1 po80_2 po80_3 f_88 ne_b47_w61_ar ge_b47 gn_w61_ar qx61_0) (by decide) (by decide) f_87 (argsL := [(.ref y3)]) (rest := []) (by rw [hml]; rfl) (lenOf pd_23 rfl) rfl (Nat.le_of_eq rfl) (hb hby at_278) rfl hq86 (by decide) (by decide) (fun v89 T89 Lc89 hQ89 X89 => ?_)
        obtain ⟨N89q, rfl, K89q, po89_0, po89_1, po89_2, po89_3⟩ := hQ89
        have N89 := Fr.app N86 N89q
        have K89 : Keep h0 T89.heap [] := K80.trans K89q (allS (Or.inr sz_b47) (allS (Or.inr sz_w61_ar) all0))
        have Z89 : n0 ≤ T89.heap.size := Nat.le_trans Z80 K89q.1
        have po89_0' : Fld Z T89.heap b47 "java/util/AbstractList" "modCount" "I" (.int (4 : Int32)) := po89_0
        refine og (XS.pop X89.here hx rfl (hb hby at_281) rfl rfl) ?_
        have f_90 := (((f_62.keep K61q (ninS ne_ba_b47 nin0)).keep K71q (ninS ne_ba_b47 (ninS ne_ba_w61_ar nin0))).keep K80q (ninS ne_ba_b47 (ninS ne_ba_w61_ar nin0))).keep K89q (ninS ne_ba_b47 (ninS ne_ba_w61_ar nin0))
        have pl_ba := f_90.lt
        have f_91 := f_87.keep K89q
        have pl_b47 := f_91.lt
        have pl_w61_ar := po89_3.lt
        have f_92 : Old Z n0 T89.heap := (f_82.keep K89q (allS ge_b47 (allS gn_w61_ar all0)))
        have f_93 : Exa Z T89.heap y0 "java/lang/Integer" := eY0.ext f_92.2
        have pl_y0 := f_93.lt
        have f_94 : Exa Z T89.heap y1 "java/lang/Integer" := eY1.ext f_92.2
        have pl_y1 := f_94.lt
        have f_95 : Exa Z T89.heap y2 "java/lang/Integer" := eY2.ext f_92.2
        have pl_y2 := f_95.lt
        have f_96 : Exa Z T89.heap y3 "java/lang/Integer" := eY3.ext f_92.2
        have pl_y3 := f_96.lt
        show own_Gl _ _ _ _ (T89.setTop (mkF m 282 #[vI p0, vI p1, vI p2, vI p3, vI p4, vI p5, vI sv, vI vv, vI kq, vI cA, vI cB, vI cC, vI cD, vI th, vI fo, vR ba, vR b47, vU, vU, vU, vU] []))
        obtain ⟨T97, h97, X97, e97, E97, A97, D97, -, st97⟩ := newO X89 hx hZ hown (wx hw 73) (wx hw 74) (wx hw 75) rfl (g := (mkF m 282 #[vI p0, vI p1, vI p2, vI p3, vI p4, vI p5, vI sv, vI vv, vI kq, vI cA, vI cB, vI cC, vI cD, vI th, vI fo, vR ba, vR b47, vU, vU, vU, vU] [])) rfl (hb hby at_282) (by decide) (by decide)
        obtain ⟨b97, g97⟩ : ∃ z, z = T89.heap.size := ⟨_, rfl⟩
        rw [← g97] at A97 D97 st97
        have ne_ba_b97 : ba ≠ b97 := Nat.ne_of_lt (Nat.lt_of_lt_of_le f_90.lt (Nat.le_of_eq g97.symm))
        have ne_b47_b97 : b47 ≠ b97 := Nat.ne_of_lt (Nat.lt_of_lt_of_le f_91.lt (Nat.le_of_eq g97.symm))
        have ne_w61_ar_b97 : w61_ar ≠ b97 := Nat.ne_of_lt (Nat.lt_of_lt_of_le po89_3.lt (Nat.le_of_eq g97.symm))
        have ge_b97 : n0 ≤ b97 := Nat.le_trans Z89 (Nat.le_of_eq g97.symm)
        have sz_b97 : h0.size ≤ b97 := Nat.le_trans K89.1 (Nat.le_of_eq g97.symm)
        refine og (st97 _) ?_
        have K97 : Keep h0 h97 [] := K89.ext E97
        have Z97 : n0 ≤ h97.size := Nat.le_trans Z89 E97.1
        have F97_163 : Fld Z h97 b97 "com/example/sixfold/sixfold/rows/Table" "rows" "Lcom/example/sixfold/sixfold/rows/Rows;" .null := D97 (Or.inr (wx hw 163)) (ty := (.object "com/example/sixfold/sixfold/rows/Rows")) (by decide)
        have F97_167 : Fld Z h97 b97 "com/example/sixfold/sixfold/rows/Table" "played" "Lcom/example/sixfold/sixfold/rows/CardSet;" .null := D97 (Or.inr (wx hw 167)) (ty := (.object "com/example/sixfold/sixfold/rows/CardSet")) (by decide)
        have F97_169 : Fld Z h97 b97 "com/example/sixfold/sixfold/rows/Table" "turn" "Lcom/example/sixfold/sixfold/rows/CardSet;" .null := D97 (Or.inr (wx hw 169)) (ty := (.object "com/example/sixfold/sixfold/rows/CardSet")) (by decide)
        have F97_171 : Fld Z h97 b97 "com/example/sixfold/sixfold/rows/Table" "seatRevealing" "[B" .null := D97 (Or.inr (wx hw 171)) (ty := (.array .byte)) (by decide)
        have F97_173 : Fld Z h97 b97 "com/example/sixfold/sixfold/rows/Table" "seats" "I" (.int (0 : Int32)) := D97 (Or.inr (wx hw 173)) (ty := .int) (by decide)
        have F97_177 : Fld Z h97 b97 "com/example/sixfold/sixfold/rows/Table" "totals" "Lcom/example/sixfold/sixfold/rows/IntList;" .null := D97 (Or.inr (wx hw 177)) (ty := (.object "com/example/sixfold/sixfold/rows/IntList")) (by decide)
        have F97_186 : Fld Z h97 b97 "com/example/sixfold/sixfold/rows/Table" "order" "[I" .null := D97 (Or.inr (wx hw 186)) (ty := (.array .int)) (by decide)
        have F97_188 : Fld Z h97 b97 "com/example/sixfold/sixfold/rows/Table" "revealed" "Lcom/example/sixfold/sixfold/rows/IntList;" .null := D97 (Or.inr (wx hw 188)) (ty := (.object "com/example/sixfold/sixfold/rows/IntList")) (by decide)
        have F97_190 : Fld Z h97 b97 "com/example/sixfold/sixfold/rows/Table" "placed" "I" (.int (0 : Int32)) := D97 (Or.inl (wx hw 190)) (ty := .int) (by decide)
        have lt0_ba : ba < b97 := Nat.lt_of_lt_of_le pl_ba (Nat.le_of_eq g97.symm)
        have lt0_b47 : b47 < b97 := Nat.lt_of_lt_of_le pl_b47 (Nat.le_of_eq g97.symm)
        have lt0_w61_ar : w61_ar < b97 := Nat.lt_of_lt_of_le pl_w61_ar (Nat.le_of_eq g97.symm)
        have lt0_y0 : y0 < b97 := Nat.lt_of_lt_of_le pl_y0 (Nat.le_of_eq g97.symm)
        have lt0_y1 : y1 < b97 := Nat.lt_of_lt_of_le pl_y1 (Nat.le_of_eq g97.symm)
        have lt0_y2 : y2 < b97 := Nat.lt_of_lt_of_le pl_y2 (Nat.le_of_eq g97.symm)
        have lt0_y3 : y3 < b97 := Nat.lt_of_lt_of_le pl_y3 (Nat.le_of_eq g97.symm)
        refine og (XS.dup X97.here hx rfl (hb hby at_285) rfl rfl) ?_
        refine sI X97 hx (hb hby at_286) ?_
        refine oc_special X97 hx hZ hown rfl (wx hw 76) (wx hw 77) (wx hw 75) (wx hw 78) (by decide) (W := 1) (rmtbi l Z a0 hw [] b97 sv h97 n0 Z97 A97 F97_163 F97_177 F97_167 F97_186 F97_169 F97_171 F97_188 F97_173 F97_190 ge_b97 hsv) (by decide) (by decide) (a := b97) (argsL := [(.int sv)]) (rest := [(.ref b97)]) (by rw [hml]; rfl) (lenOf pd_14 rfl) rfl (Nat.le_of_eq rfl) (hb hby at_288) rfl e97 (by decide) (by decide) (fun v98 T98 Lc98 hQ98 X98 => ?_)
        obtain ⟨N98q, A, w98_vt, w98_k16, w98_k18, w98_k19, w98_k21, w98_k22, w98_k24, rfl, K98q, qx98_0, qx98_1, qx98_2, qx98_3, qx98_4, po98_0⟩ := hQ98
        have N98 := Fr.app N89 N98q
        have K98 : Keep h0 T98.heap [] := K97.trans K98q (allS (Or.inr sz_b97) all0)
        have Z98 : n0 ≤ T98.heap.size := Nat.le_trans Z97 K98q.1
        have hq0 := qx98_0
        show own_Gl _ _ _ _ (T98.setTop (mkF m 291 #[vI p0, vI p1, vI p2, vI p3, vI p4, vI p5, vI sv, vI vv, vI kq, vI cA, vI cB, vI cC, vI cD, vI th, vI fo, vR ba, vR b47, vU, vU, vU, vU] [(.ref b97)]))
        subst hq0
        have hA := qx98_1
        have hge := qx98_2
        have hAz := qx98_3
        have hvt := qx98_4
        have hAn : ∀ i, i < 25 → h0.size ≤ A i := fun i hi => Nat.le_trans hn0 (hge i hi)
        obtain ⟨t0, t1, t2, t3, t4, t5, t6, t7, t8, t9, t10, t11, t12, t13, t14, t15, t16, t17, t18, t19, t20, t21, t22, t23, t24, t25, tR⟩ := po98_0
        refine og (XS.astore X98.here hx rfl (hb hby at_291) rfl rfl (l' := #[vI p0, vI p1, vI p2, vI p3, vI p4, vI p5, vI sv, vI vv, vI kq, vI cA, vI cB, vI cC, vI cD, vI th, vI fo, vR ba, vR b47, vR (A 0), vU, vU, vU]) rfl) ?_
        refine og (XS.aload X98.here hx rfl (hb hby at_293) rfl rfl) ?_
        refine oc_virtual X98 hx hZ hown (wx hw 191) (wx hw 192) (wx hw 194) (wx hw 193) (wx hw 75) (wx hw 195) (by decide) (W := 0) (rmwN l Z a0 hw [] A sv sv T98.heap n0 Z98 t9 t8 (own_lt_irr _)) (by decide) (by decide) t0 (argsL := []) (rest := []) (by rw [hml]; rfl) (lenOf pd_16 rfl) rfl (Nat.le_of_eq rfl) (hb hby at_295) rfl rfl (by decide) (by decide) (fun v99 T99 Lc99 hQ99 X99 => ?_)
        obtain ⟨N99q, rfl, hq99⟩ := hQ99
        have N99 := Fr.app N98 N99q
        refine og (XS.ifYes X99.here hx rfl (pc0 := 298) (pc' := 303) rfl (hb hby at_298) rfl ((if0 _ _).trans (teq (rfl : (0 : Int32) = (0 : Int32))).1) (by decide) (by decide)) ?_
        refine og (XS.aload X99.here hx rfl (hb hby at_303) rfl rfl) ?_
        refine og (XS.aload X99.here hx rfl (hb hby at_305) rfl rfl) ?_
        have f_100 : Old Z n0 T98.heap := ((f_92.ext E97).keep K98q (allS ge_b97 all0))
        have f_101 := (f_91.ext E97).keep K98q
        have f_102 := (po89_2.ext E97).keep K98q (ninS ne_b47_b97 nin0)
        have f_103 := (po89_1.ext E97).keep K98q (ninS ne_b47_b97 nin0)
        have f_104 := (po89_3.ext E97).keep K98q (ninS ne_w61_ar_b97 nin0)
        have f_105 : Exa Z T98.heap y0 "java/lang/Integer" := eY0.ext f_100.2
        have f_106 : Fld Z T98.heap y0 "java/lang/Integer" "value" "I" (.int (fstart (0 : Int32) kq vv)) := fY0.ext f_100.2
        have f_107 : Exa Z T98.heap y1 "java/lang/Integer" := eY1.ext f_100.2
        have f_108 : Fld Z T98.heap y1 "java/lang/Integer" "value" "I" (.int (fstart (1 : Int32) kq vv)) := fY1.ext f_100.2
        have f_109 : Exa Z T98.heap y2 "java/lang/Integer" := eY2.ext f_100.2
        have f_110 : Fld Z T98.heap y2 "java/lang/Integer" "value" "I" (.int (fstart (2 : Int32) kq vv)) := fY2.ext f_100.2
        have f_111 : Exa Z T98.heap y3 "java/lang/Integer" := eY3.ext f_100.2
        have f_112 : Fld Z T98.heap y3 "java/lang/Integer" "value" "I" (.int (fstart (3 : Int32) kq vv)) := fY3.ext f_100.2
        have f_113 := (po89_0'.ext E97).keep K98q (ninS ne_b47_b97 nin0)
        refine oc_virtual X99 hx hZ hown (wx hw 196) (wx hw 197) (wx hw 199) (wx hw 198) (wx hw 75) (wx hw 200) (by decide) (W := 0) (rmdeal l Z a0 hw [] b47 A 0 0 (fun _ _ => True) hd kH hv w61_ar w61_kA y0 y1 y2 y3 .null .null .null .null .null .null (fstart (0 : Int32) kq vv) (fstart (1 : Int32) kq vv) (fstart (2 : Int32) kq vv) (fstart (3 : Int32) kq vv) (4 : Int32) w98_k16 (0 : Int64) (0 : Int64) (0 : Int32) sv sv T98.heap n0 Z98 t0 t1 t2 t3 t4 t5 t6 t7 t8 t9 tR f_100 f_101 f_102 f_103 f_104 f_105 f_106 f_107 f_108 f_109 f_110 f_111 f_112 f_113 t10 t11 t12 t22 t23 t24 hA hge lt0_b47 lt0_w61_ar lt0_y0 lt0_y1 lt0_y2 lt0_y3 hb0 hb1 hb2 hb3 hAz (own_sts_nd hkq hvv) hS hV hints) (by decide) (by decide) t0 (argsL := [(.ref b47)]) (rest := []) (by rw [hml]; rfl) (lenOf pd_20 rfl) rfl (Nat.le_of_eq rfl) (hb hby at_307) rfl hq99 (by decide) (by decide) (fun v114 T114 Lc114 hQ114 X114 => ?_)
        obtain ⟨N114q, rfl, K114q, po114_0, po114_1, po114_2, po114_3, po114_4, po114_5, po114_6, po114_7, po114_8, po114_9, po114_10, po114_11, po114_12⟩ := hQ114
        have N114 := Fr.app N99 N114q
        have K114 : Keep h0 T114.heap [] := K98.trans K114q (allS (Or.inr (hAn 3 (by decide))) (allS (Or.inr (hAn 5 (by decide))) (allS (Or.inr (hAn 6 (by decide))) (allS (Or.inr (hAn 7 (by decide))) (allS (Or.inr (hAn 8 (by decide))) (allS (Or.inr (hAn 9 (by decide))) (allS (Or.inr (hAn 10 (by decide))) (allS (Or.inr (hAn 11 (by decide))) (allS (Or.inr (hAn 12 (by decide))) (allS (Or.inr (hAn 13 (by decide))) (allS (Or.inr (hAn 14 (by decide))) (allS (Or.inr (hAn 16 (by decide))) (allS (Or.inr (hAn 23 (by decide))) (allS (Or.inr (hAn 0 (by decide))) all0))))))))))))))
        have Z114 : n0 ≤ T114.heap.size := Nat.le_trans Z98 K114q.1
        refine og (XS.aload X114.here hx rfl (hb hby at_310) rfl rfl) ?_
        have f_116 := t0.keep K114q
        refine oc_virtual X114 hx hZ hown (wx hw 191) (wx hw 192) (wx hw 194) (wx hw 193) (wx hw 75) (wx hw 195) (by decide) (W := 0) (rmwN l Z a0 hw [] A sv sv T114.heap n0 Z114 po114_8 po114_7 (own_lt_irr _)) (by decide) (by decide) f_116 (argsL := []) (rest := []) (by rw [hml]; rfl) (lenOf pd_16 rfl) rfl (Nat.le_of_eq rfl) (hb hby at_312) rfl rfl (by decide) (by decide) (fun v115 T115 Lc115 hQ115 X115 => ?_)
        obtain ⟨N115q, rfl, hq115⟩ := hQ115
        have N115 := Fr.app N114 N115q
        refine og (XS.ifYes X115.here hx rfl (pc0 := 315) (pc' := 320) rfl (hb hby at_315) rfl ((if0 _ _).trans (teq (rfl : (0 : Int32) = (0 : Int32))).1) (by decide) (by decide)) ?_
        refine og (XS.aload X115.here hx rfl (hb hby at_320) rfl rfl) ?_
        refine og (XS.aload X115.here hx rfl (hb hby at_322) rfl rfl) ?_
        have f_117 : Old Z n0 T114.heap := (f_100.keep K114q (allS (hge 3 (by decide)) (allS (hge 5 (by decide)) (allS (hge 6 (by decide)) (allS (hge 7 (by decide)) (allS (hge 8 (by decide)) (allS (hge 9 (by decide)) (allS (hge 10 (by decide)) (allS (hge 11 (by decide)) (allS (hge 12 (by decide)) (allS (hge 13 (by decide)) (allS (hge 14 (by decide)) (allS (hge 16 (by decide)) (allS (hge 23 (by decide)) (allS (hge 0 (by decide)) all0)))))))))))))))
        have f_118 := t10.keep K114q
        have f_119 := t11.keep K114q (own_nin hA (i := 15) (l := [3, 5, 6, 7, 8, 9, 10, 11, 12, 13, 14, 16, 23, 0]) (by decide) (by decide))
        have f_120 := t13.keep K114q
        have f_121 := t14.keep K114q (own_nin hA (i := 17) (l := [3, 5, 6, 7, 8, 9, 10, 11, 12, 13, 14, 16, 23, 0]) (by decide) (by decide))
        have f_122 := t15.keep K114q (own_nin hA (i := 18) (l := [3, 5, 6, 7, 8, 9, 10, 11, 12, 13, 14, 16, 23, 0]) (by decide) (by decide))
        have f_123 := t16.keep K114q (own_nin hA (i := 19) (l := [3, 5, 6, 7, 8, 9, 10, 11, 12, 13, 14, 16, 23, 0]) (by decide) (by decide))
        have f_124 := t17.keep K114q
        have f_125 := t18.keep K114q (own_nin hA (i := 20) (l := [3, 5, 6, 7, 8, 9, 10, 11, 12, 13, 14, 16, 23, 0]) (by decide) (by decide))
        have f_126 := t19.keep K114q (own_nin hA (i := 20) (l := [3, 5, 6, 7, 8, 9, 10, 11, 12, 13, 14, 16, 23, 0]) (by decide) (by decide))
        have f_127 := t20.keep K114q (own_nin hA (i := 21) (l := [3, 5, 6, 7, 8, 9, 10, 11, 12, 13, 14, 16, 23, 0]) (by decide) (by decide))
        have f_128 := t21.keep K114q (own_nin hA (i := 22) (l := [3, 5, 6, 7, 8, 9, 10, 11, 12, 13, 14, 16, 23, 0]) (by decide) (by decide))
        have f_129 := t22.keep K114q
        have f_130 := t25.keep K114q (own_nin hA (i := 24) (l := [3, 5, 6, 7, 8, 9, 10, 11, 12, 13, 14, 16, 23, 0]) (by decide) (by decide))
        have f_131 := ((f_90.ext E97).keep K98q (ninS ne_ba_b97 nin0)).keep K114q (own_ninb hA lt0_ba (l := [3, 5, 6, 7, 8, 9, 10, 11, 12, 13, 14, 16, 23, 0]) (by decide))
        refine oc_virtual X115 hx hZ hown (wx hw 347) (wx hw 348) (wx hw 350) (wx hw 349) (wx hw 75) (wx hw 351) (by decide) (W := 0) (rmrev l Z a0 hw [] ba A 1 1 (fun j0 j1 => j0 = own_q1 [(fstart (0 : Int32) kq vv), (fstart (1 : Int32) kq vv), (fstart (2 : Int32) kq vv), (fstart (3 : Int32) kq vv)] ∧ j1 = own_q2 [(fstart (0 : Int32) kq vv), (fstart (1 : Int32) kq vv), (fstart (2 : Int32) kq vv), (fstart (3 : Int32) kq vv)]) hd kH hv w98_k16 (own_q1 [(fstart (0 : Int32) kq vv), (fstart (1 : Int32) kq vv), (fstart (2 : Int32) kq vv), (fstart (3 : Int32) kq vv)]) (own_q2 [(fstart (0 : Int32) kq vv), (fstart (1 : Int32) kq vv), (fstart (2 : Int32) kq vv), (fstart (3 : Int32) kq vv)]) w98_k18 (0 : Int64) (0 : Int64) w98_k19 (List.replicate 105 (.int (0 : Int32))) w98_k21 w98_vt w98_k22 [(.int (0 : Int32)), (.int (0 : Int32)), (.int (0 : Int32)), (.int (0 : Int32)), (.int (0 : Int32))] w98_k24 [(.int (0 : Int32)), (.int (0 : Int32)), (.int (0 : Int32)), (.int (0 : Int32)), (.int (0 : Int32))] (0 : Int32) sv kb cv (own_cd cA cB cC cD) (∃ u, u < sv.toNatClampNeg ∧ (own_cd cA cB cC cD u).toInt < vv.toInt) T114.heap n0 Z114 f_116 po114_0 po114_1 po114_2 po114_3 po114_4 po114_5 po114_6 po114_7 po114_8 po114_9 f_117 f_118 f_119 po114_10 f_120 f_121 f_122 f_123 f_124 f_125 f_126 f_127 f_128 f_129 po114_11 po114_12 f_130 f_131 hA hge lt0_ba hsv hcv (own_ok_cb hok hcd) (fun u hu => own_q_no (fun x hx => own_sts_b hkq hvv hx) ⟨(hcd u).1, (hcd u).2.1⟩ (own_sts_no hkq (hcd u) (hok u hu).1)) ⟨List.length_replicate, by decide, by decide, Nat.le_trans (by decide) hvt.2⟩ hvt.1 ⟨by decide, by omega⟩ (fun h => own_lawA hkq hvv h) (fun h => own_lawB hkq hvv hok hcd h) hS hV hints) (by decide) (by decide) f_116 (argsL := [(.ref ba)]) (rest := []) (by rw [hml]; rfl) (lenOf pd_24 rfl) rfl (Nat.le_of_eq rfl) (hb hby at_324) rfl hq115 (by decide) (by decide) (fun v132 T132 Lc132 hQ132 X132 => ?_)
        obtain ⟨N132q, w132_pv, w132_os, w132_rv, w132_ee, rfl, K132q, po132_0, po132_1, po132_2⟩ := hQ132
        have N132 := Fr.app N115 N132q
        have K132 : Keep h0 T132.heap [] := K114.trans K132q (allS (Or.inr (hAn 18 (by decide))) (allS (Or.inr (hAn 19 (by decide))) (allS (Or.inr (hAn 22 (by decide))) (allS (Or.inr (hAn 23 (by decide))) (allS (Or.inr (hAn 24 (by decide))) (allS (Or.inr (hAn 16 (by decide))) (allS (Or.inr (hAn 0 (by decide))) (allS (Or.inr (hAn 3 (by decide))) (allS (Or.inr (hAn 5 (by decide))) (allS (Or.inr (hAn 6 (by decide))) (allS (Or.inr (hAn 7 (by decide))) (allS (Or.inr (hAn 8 (by decide))) (allS (Or.inr (hAn 9 (by decide))) (allS (Or.inr (hAn 10 (by decide))) (allS (Or.inr (hAn 11 (by decide))) (allS (Or.inr (hAn 12 (by decide))) (allS (Or.inr (hAn 13 (by decide))) (allS (Or.inr (hAn 14 (by decide))) (allS (Or.inr (hAn 21 (by decide))) all0)))))))))))))))))))
        have Z132 : n0 ≤ T132.heap.size := Nat.le_trans Z114 K132q.1
        refine sI X132 hx (hb hby at_327) ?_
        refine og (XS.istore X132.here hx rfl (hb hby at_329) rfl (l' := #[vI p0, vI p1, vI p2, vI p3, vI p4, vI p5, vI sv, vI vv, vI kq, vI cA, vI cB, vI cC, vI cD, vI th, vI fo, vR ba, vR b47, vR (A 0), vI cA, vU, vU]) rfl) ?_
        refine sc X132 hx (hb hby at_331) ?_
        refine og (XS.istore X132.here hx rfl (hb hby at_332) rfl (l' := #[vI p0, vI p1, vI p2, vI p3, vI p4, vI p5, vI sv, vI vv, vI kq, vI cA, vI cB, vI cC, vI cD, vI th, vI fo, vR ba, vR b47, vR (A 0), vI cA, vI (0 : Int32), vU]) rfl) ?_
        refine sI X132 hx (hb hby at_334) ?_
        refine sI X132 hx (hb hby at_336) ?_
        refine own_jn (S := (T132.setTop (mkF m 348 #[vI p0, vI p1, vI p2, vI p3, vI p4, vI p5, vI sv, vI vv, vI kq, vI cA, vI cB, vI cC, vI cD, vI th, vI fo, vR ba, vR b47, vR (A 0), vI (if cB < cA then cB else cA), vI (if cB < cA then (1 : Int32) else (0 : Int32)), vU] []))) ?_ (fun J133 => ?_)
        · show own_Gl _ _ _ _ (T132.setTop (mkF m 348 #[vI p0, vI p1, vI p2, vI p3, vI p4, vI p5, vI sv, vI vv, vI kq, vI cA, vI cB, vI cC, vI cD, vI th, vI fo, vR ba, vR b47, vR (A 0), vI (if cB < cA then cB else cA), vI (if cB < cA then (1 : Int32) else (0 : Int32)), vU] []))
          obtain ⟨la, en_la⟩ : ∃ z, z = (if cB < cA then cB else cA) := ⟨_, rfl⟩
          rw [← en_la]
          show own_Gl _ _ _ _ (T132.setTop (mkF m 348 #[vI p0, vI p1, vI p2, vI p3, vI p4, vI p5, vI sv, vI vv, vI kq, vI cA, vI cB, vI cC, vI cD, vI th, vI fo, vR ba, vR b47, vR (A 0), vI la, vI (if cB < cA then (1 : Int32) else (0 : Int32)), vU] []))
          obtain ⟨aa, en_aa⟩ : ∃ z, z = (if cB < cA then (1 : Int32) else (0 : Int32)) := ⟨_, rfl⟩
          rw [← en_aa]
          refine sI X132 hx (hb hby at_348) ?_
          refine own_jn (S := (T132.setTop (mkF m 367 #[vI p0, vI p1, vI p2, vI p3, vI p4, vI p5, vI sv, vI vv, vI kq, vI cA, vI cB, vI cC, vI cD, vI th, vI fo, vR ba, vR b47, vR (A 0), vI (if th = (0 : Int32) then la else (if cC < la then cC else la)), vI (if th = (0 : Int32) then aa else (if cC < la then (2 : Int32) else aa)), vU] []))) ?_ (fun J134 => ?_)
          · show own_Gl _ _ _ _ (T132.setTop (mkF m 367 #[vI p0, vI p1, vI p2, vI p3, vI p4, vI p5, vI sv, vI vv, vI kq, vI cA, vI cB, vI cC, vI cD, vI th, vI fo, vR ba, vR b47, vR (A 0), vI (if th = (0 : Int32) then la else (if cC < la then cC else la)), vI (if th = (0 : Int32) then aa else (if cC < la then (2 : Int32) else aa)), vU] []))
            obtain ⟨lb, en_lb⟩ : ∃ z, z = (if th = (0 : Int32) then la else (if cC < la then cC else la)) := ⟨_, rfl⟩
            rw [← en_lb]
            show own_Gl _ _ _ _ (T132.setTop (mkF m 367 #[vI p0, vI p1, vI p2, vI p3, vI p4, vI p5, vI sv, vI vv, vI kq, vI cA, vI cB, vI cC, vI cD, vI th, vI fo, vR ba, vR b47, vR (A 0), vI lb, vI (if th = (0 : Int32) then aa else (if cC < la then (2 : Int32) else aa)), vU] []))
            obtain ⟨ab, en_ab⟩ : ∃ z, z = (if th = (0 : Int32) then aa else (if cC < la then (2 : Int32) else aa)) := ⟨_, rfl⟩
            rw [← en_ab]
            refine sI X132 hx (hb hby at_367) ?_
            refine own_jn (S := (T132.setTop (mkF m 386 #[vI p0, vI p1, vI p2, vI p3, vI p4, vI p5, vI sv, vI vv, vI kq, vI cA, vI cB, vI cC, vI cD, vI th, vI fo, vR ba, vR b47, vR (A 0), vI (if fo = (0 : Int32) then lb else (if cD < lb then cD else lb)), vI (if fo = (0 : Int32) then ab else (if cD < lb then (3 : Int32) else ab)), vU] []))) ?_ (fun J135 => ?_)
            · show own_Gl _ _ _ _ (T132.setTop (mkF m 386 #[vI p0, vI p1, vI p2, vI p3, vI p4, vI p5, vI sv, vI vv, vI kq, vI cA, vI cB, vI cC, vI cD, vI th, vI fo, vR ba, vR b47, vR (A 0), vI (if fo = (0 : Int32) then lb else (if cD < lb then cD else lb)), vI (if fo = (0 : Int32) then ab else (if cD < lb then (3 : Int32) else ab)), vU] []))
              obtain ⟨lz, en_lz⟩ : ∃ z, z = (if fo = (0 : Int32) then lb else (if cD < lb then cD else lb)) := ⟨_, rfl⟩
              rw [← en_lz]
              show own_Gl _ _ _ _ (T132.setTop (mkF m 386 #[vI p0, vI p1, vI p2, vI p3, vI p4, vI p5, vI sv, vI vv, vI kq, vI cA, vI cB, vI cC, vI cD, vI th, vI fo, vR ba, vR b47, vR (A 0), vI lz, vI (if fo = (0 : Int32) then ab else (if cD < lb then (3 : Int32) else ab)), vU] []))
              obtain ⟨az, en_az⟩ : ∃ z, z = (if fo = (0 : Int32) then ab else (if cD < lb then (3 : Int32) else ab)) := ⟨_, rfl⟩
              rw [← en_az]
              have hmn := own_minL hsv en_th en_fo en_la en_aa en_lb en_ab en_lz en_az
              refine sI X132 hx (hb hby at_386) ?_
              refine sI X132 hx (hb hby at_388) ?_
              by_cases hc390_136 : lz < vv
              · refine og (XS.icmpNo X132.here hx rfl (hb hby at_390) rfl (tlt hc390_136).2.1) ?_
                have hQ := (own_minv hmn).1 hc390_136
                show own_Gl _ _ _ _ (T132.setTop (mkF m 393 #[vI p0, vI p1, vI p2, vI p3, vI p4, vI p5, vI sv, vI vv, vI kq, vI cA, vI cB, vI cC, vI cD, vI th, vI fo, vR ba, vR b47, vR (A 0), vI lz, vI az, vU] []))
                obtain ⟨r0_, r1_, r2_, r3_, r4_, r5_, r6_, r7_, r8_, r9_, hPO, hpv⟩ := po132_2.1 hQ
                have hPO0 := hPO 0 (Nat.le_refl _) (by simp only [Int32.toNatClampNeg]; omega)
                subst hpv
                refine sI X132 hx (hb hby at_393) ?_
                refine sc X132 hx (hb hby at_395) ?_
                refine og (XS.iadd X132.here hx rfl (hb hby at_396) rfl) ?_
                refine og (XS.goto X132.here hx rfl (pc0 := 397) (pc' := 401) rfl (hb hby at_397) (by decide) (by decide)) ?_
                refine og (XS.istore X132.here hx rfl (hb hby at_401) rfl (l' := #[vI p0, vI p1, vI p2, vI p3, vI p4, vI p5, vI sv, vI vv, vI kq, vI cA, vI cB, vI cC, vI cD, vI th, vI fo, vR ba, vR b47, vR (A 0), vI lz, vI az, vI (az + (1 : Int32))]) rfl) ?_
                refine og (XS.aload X132.here hx rfl (hb hby at_403) rfl rfl) ?_
                have f_138 := f_116.keep K132q
                refine oc_virtual X132 hx hZ hown (wx hw 191) (wx hw 192) (wx hw 194) (wx hw 193) (wx hw 75) (wx hw 195) (by decide) (W := 0) (rmwY l Z a0 hw [] A sv (0 : Int32) w98_k22 w132_os (Int32.ofInt (w132_ee 0 : Int)) T132.heap n0 Z132 po132_0 po132_1 r3_ r6_ (by rw [Int32.lt_iff_toInt_lt]; have z : (0 : Int32).toInt = 0 := rfl; omega) (by decide) hPO0.1) (by decide) (by decide) f_138 (argsL := []) (rest := []) (by rw [hml]; rfl) (lenOf pd_16 rfl) rfl (Nat.le_of_eq rfl) (hb hby at_405) rfl rfl (by decide) (by decide) (fun v137 T137 Lc137 hQ137 X137 => ?_)
                obtain ⟨N137q, rfl, hq137⟩ := hQ137
                have N137 := Fr.app N132 N137q
                refine sI X137 hx (hb hby at_408) ?_
                have hp139 : ((Int32.ofInt (w132_ee 0 : Int)) + (1 : Int32)) = (az + (1 : Int32)) := by rw [own_mine hmn hok po132_2.2.2.1 po132_2.2.2.2]
                refine og (XS.icmpYes X137.here hx rfl (pc0 := 410) (pc' := 415) rfl (hb hby at_410) rfl (teq hp139).1 (by decide) (by decide)) ?_
                refine sI X137 hx (hb hby at_415) ?_
                have hp140 : ¬ ((az + (1 : Int32)) = (0 : Int32)) := own_min_ne hmn hsv.2
                refine og (XS.ifYes X137.here hx rfl (pc0 := 417) (pc' := 422) rfl (hb hby at_417) rfl ((if0 _ _).trans (feq hp140).2) (by decide) (by decide)) ?_
                refine og (XS.aload X137.here hx rfl (hb hby at_422) rfl rfl) ?_
                refine sc X137 hx (hb hby at_424) ?_
                refine si X137 hx (hb hby at_425) ?_
                refine sc X137 hx (hb hby at_426) ?_
                refine og (XS.iushr X137.here hx rfl (hb hby at_427) rfl) ?_
                refine sc X137 hx (hb hby at_428) ?_
                show own_Gl _ _ _ _ (T137.setTop (mkF m 429 #[vI p0, vI p1, vI p2, vI p3, vI p4, vI p5, vI sv, vI vv, vI kq, vI cA, vI cB, vI cC, vI cD, vI th, vI fo, vR ba, vR b47, vR (A 0), vI lz, vI az, vI (az + (1 : Int32))] [(.int (3 : Int32)), (.int ((p0.toUInt32 >>> ((2 : Int32) &&& 31).toUInt32).toInt32)), (.int (1 : Int32)), (.ref (A 0))]))
                refine og (XS.iand X137.here hx rfl (hb hby at_429) rfl) ?_
                refine og (XS.iadd X137.here hx rfl (hb hby at_430) rfl) ?_
                obtain ⟨ri, hri, hpr, hp1, hp4⟩ := own_rowof ((p0.toUInt32 >>> ((2 : Int32) &&& 31).toUInt32).toInt32)
                obtain ⟨i7, hi7⟩ : ∃ z, z = 7 + 2 * ri := ⟨_, rfl⟩
                obtain ⟨i8, hi8⟩ : ∃ z, z = 8 + 2 * ri := ⟨_, rfl⟩
                have f_141 : Old Z n0 T132.heap := (f_117.keep K132q (allS (hge 18 (by decide)) (allS (hge 19 (by decide)) (allS (hge 22 (by decide)) (allS (hge 23 (by decide)) (allS (hge 24 (by decide)) (allS (hge 16 (by decide)) (allS (hge 0 (by decide)) (allS (hge 3 (by decide)) (allS (hge 5 (by decide)) (allS (hge 6 (by decide)) (allS (hge 7 (by decide)) (allS (hge 8 (by decide)) (allS (hge 9 (by decide)) (allS (hge 10 (by decide)) (allS (hge 11 (by decide)) (allS (hge 12 (by decide)) (allS (hge 13 (by decide)) (allS (hge 14 (by decide)) (allS (hge 21 (by decide)) all0))))))))))))))))))))
                have f_142 := f_129.keep K132q
                have f_143 := f_124.keep K132q
                have f_144 := f_125.keep K132q (own_nin hA (i := 20) (l := [18, 19, 22, 23, 24, 16, 0, 3, 5, 6, 7, 8, 9, 10, 11, 12, 13, 14, 21]) (by decide) (by decide))
                have f_145 := f_126.keep K132q (own_nin hA (i := 20) (l := [18, 19, 22, 23, 24, 16, 0, 3, 5, 6, 7, 8, 9, 10, 11, 12, 13, 14, 21]) (by decide) (by decide))
                refine oc_virtual X137 hx hZ hown (wx hw 395) (wx hw 396) (wx hw 398) (wx hw 397) (wx hw 75) (wx hw 399) (by decide) (W := 0) (rmtk l Z a0 hw [] ((1 : Int32) + (((p0.toUInt32 >>> ((2 : Int32) &&& 31).toUInt32).toInt32) &&& (3 : Int32))) A 1 1 (fun j0 j1 => j0 = own_q1 [(fstart (0 : Int32) kq vv), (fstart (1 : Int32) kq vv), (fstart (2 : Int32) kq vv), (fstart (3 : Int32) kq vv)] ∧ j1 = own_q2 [(fstart (0 : Int32) kq vv), (fstart (1 : Int32) kq vv), (fstart (2 : Int32) kq vv), (fstart (3 : Int32) kq vv)]) hd kH hv w98_k24 w132_rv w98_k21 w98_vt w98_k22 w132_os (fun u => Int32.ofInt (w132_ee u : Int)) (fun u => (own_cd cA cB cC cD) (w132_ee u)) sv ri i7 i8 T132.heap n0 Z132 f_138 r1_ r4_ r2_ r0_ f_141 f_142 r7_ r8_ r9_ f_143 f_144 f_145 r5_ po132_0 po132_1 r3_ r6_ hA hge hri hi7 hi8 hpr hp1 hp4 hPO ⟨by omega, hsv.2⟩ ⟨by decide, by decide, by omega⟩ hvt.1 (Nat.le_trans (by simp only [Int32.toNatClampNeg]; omega) (Nat.le_trans (by decide : 4 ≤ 5) hvt.2)) hS hV hints) (by decide) (by decide) f_138 (argsL := [(.int ((1 : Int32) + (((p0.toUInt32 >>> ((2 : Int32) &&& 31).toUInt32).toInt32) &&& (3 : Int32))))]) (rest := []) (by rw [hml]; rfl) (lenOf pd_14 rfl) rfl (Nat.le_of_eq rfl) (hb hby at_431) rfl hq137 (by decide) (by decide) (fun v146 T146 Lc146 hQ146 X146 => ?_)
                obtain ⟨N146q, rfl, K146q, po146_0, po146_1⟩ := hQ146
                have N146 := Fr.app N137 N146q
                have K146 : Keep h0 T146.heap [] := K132.trans K146q (allS (Or.inr (hAn 3 (by decide))) (allS (Or.inr (hAn 5 (by decide))) (allS (Or.inr (hAn 6 (by decide))) (allS (Or.inr (hAn 7 (by decide))) (allS (Or.inr (hAn 8 (by decide))) (allS (Or.inr (hAn 9 (by decide))) (allS (Or.inr (hAn 10 (by decide))) (allS (Or.inr (hAn 11 (by decide))) (allS (Or.inr (hAn 12 (by decide))) (allS (Or.inr (hAn 13 (by decide))) (allS (Or.inr (hAn 14 (by decide))) (allS (Or.inr (hAn 21 (by decide))) (allS (Or.inr (hAn 0 (by decide))) all0)))))))))))))
                have Z146 : n0 ≤ T146.heap.size := Nat.le_trans Z132 K146q.1
                refine og (XS.aload X146.here hx rfl (hb hby at_434) rfl rfl) ?_
                have f_148 := f_138.keep K146q
                refine oc_virtual X146 hx hZ hown (wx hw 191) (wx hw 192) (wx hw 194) (wx hw 193) (wx hw 75) (wx hw 195) (by decide) (W := 0) (rmwN l Z a0 hw [] A sv sv T146.heap n0 Z146 po146_0 po146_1 (own_lt_irr _)) (by decide) (by decide) f_148 (argsL := []) (rest := []) (by rw [hml]; rfl) (lenOf pd_16 rfl) rfl (Nat.le_of_eq rfl) (hb hby at_436) rfl rfl (by decide) (by decide) (fun v147 T147 Lc147 hQ147 X147 => ?_)
                obtain ⟨N147q, rfl, hq147⟩ := hQ147
                have N147 := Fr.app N146 N147q
                refine og (XS.ifNo X147.here hx rfl (hb hby at_439) rfl ((if0 _ _).trans (teq (rfl : (0 : Int32) = (0 : Int32))).2)) ?_
                refine sc X147 hx (hb hby at_442) ?_
                refine og (XS.goto X147.here hx rfl (pc0 := 443) (pc' := 447) rfl (hb hby at_443) (by decide) (by decide)) ?_
                exact own_retB X147 hx (t := .boolean) hret hlk (by simp) (hb hby at_447) hq147 (by decide) (by decide) ⟨N147, rfl⟩
              · refine og (XS.icmpYes X132.here hx rfl (pc0 := 390) (pc' := 400) rfl (hb hby at_390) rfl (flt hc390_136).2.1 (by decide) (by decide)) ?_
                have hpv := (po132_2.2.1 (fun q => hc390_136 ((own_minv hmn).2 q))).symm
                show own_Gl _ _ _ _ (T132.setTop (mkF m 400 #[vI p0, vI p1, vI p2, vI p3, vI p4, vI p5, vI sv, vI vv, vI kq, vI cA, vI cB, vI cC, vI cD, vI th, vI fo, vR ba, vR b47, vR (A 0), vI lz, vI az, vU] []))
                subst hpv
                refine sc X132 hx (hb hby at_400) ?_
                refine og (XS.istore X132.here hx rfl (hb hby at_401) rfl (l' := #[vI p0, vI p1, vI p2, vI p3, vI p4, vI p5, vI sv, vI vv, vI kq, vI cA, vI cB, vI cC, vI cD, vI th, vI fo, vR ba, vR b47, vR (A 0), vI lz, vI az, vI (0 : Int32)]) rfl) ?_
                refine og (XS.aload X132.here hx rfl (hb hby at_403) rfl rfl) ?_
                have f_150 := f_116.keep K132q
                refine oc_virtual X132 hx hZ hown (wx hw 191) (wx hw 192) (wx hw 194) (wx hw 193) (wx hw 75) (wx hw 195) (by decide) (W := 0) (rmwN l Z a0 hw [] A sv sv T132.heap n0 Z132 po132_0 po132_1 (own_lt_irr _)) (by decide) (by decide) f_150 (argsL := []) (rest := []) (by rw [hml]; rfl) (lenOf pd_16 rfl) rfl (Nat.le_of_eq rfl) (hb hby at_405) rfl rfl (by decide) (by decide) (fun v149 T149 Lc149 hQ149 X149 => ?_)
                obtain ⟨N149q, rfl, hq149⟩ := hQ149
                have N149 := Fr.app N132 N149q
                refine sI X149 hx (hb hby at_408) ?_
                refine og (XS.icmpYes X149.here hx rfl (pc0 := 410) (pc' := 415) rfl (hb hby at_410) rfl (teq (rfl : (0 : Int32) = (0 : Int32))).1 (by decide) (by decide)) ?_
                refine sI X149 hx (hb hby at_415) ?_
                refine og (XS.ifNo X149.here hx rfl (hb hby at_417) rfl ((if0 _ _).trans (teq (rfl : (0 : Int32) = (0 : Int32))).2)) ?_
                refine sc X149 hx (hb hby at_420) ?_
                exact own_retB X149 hx (t := .boolean) hret hlk (by simp) (hb hby at_421) hq149 (by decide) (by decide) ⟨N149, rfl⟩
            · by_cases hc369_151 : fo = (0 : Int32)
              · refine og (XS.ifYes X132.here hx rfl (pc0 := 369) (pc' := 386) rfl (hb hby at_369) rfl ((if0 _ _).trans (teq hc369_151).1) (by decide) (by decide)) ?_
                show own_Gl _ _ _ _ (T132.setTop (mkF m 386 #[vI p0, vI p1, vI p2, vI p3, vI p4, vI p5, vI sv, vI vv, vI kq, vI cA, vI cB, vI cC, vI cD, vI th, vI fo, vR ba, vR b47, vR (A 0), vI lb, vI ab, vU] []))
                simp only [if_pos hc369_151] at J135
                exact J135
              · refine og (XS.ifNo X132.here hx rfl (hb hby at_369) rfl ((if0 _ _).trans (feq hc369_151).1)) ?_
                refine sI X132 hx (hb hby at_372) ?_
                refine sI X132 hx (hb hby at_374) ?_
                by_cases hc376_152 : cD < lb
                · refine og (XS.icmpNo X132.here hx rfl (hb hby at_376) rfl (tlt hc376_152).2.1) ?_
                  refine sI X132 hx (hb hby at_379) ?_
                  refine og (XS.istore X132.here hx rfl (hb hby at_381) rfl (l' := #[vI p0, vI p1, vI p2, vI p3, vI p4, vI p5, vI sv, vI vv, vI kq, vI cA, vI cB, vI cC, vI cD, vI th, vI fo, vR ba, vR b47, vR (A 0), vI cD, vI ab, vU]) rfl) ?_
                  refine sc X132 hx (hb hby at_383) ?_
                  refine og (XS.istore X132.here hx rfl (hb hby at_384) rfl (l' := #[vI p0, vI p1, vI p2, vI p3, vI p4, vI p5, vI sv, vI vv, vI kq, vI cA, vI cB, vI cC, vI cD, vI th, vI fo, vR ba, vR b47, vR (A 0), vI cD, vI (3 : Int32), vU]) rfl) ?_
                  show own_Gl _ _ _ _ (T132.setTop (mkF m 386 #[vI p0, vI p1, vI p2, vI p3, vI p4, vI p5, vI sv, vI vv, vI kq, vI cA, vI cB, vI cC, vI cD, vI th, vI fo, vR ba, vR b47, vR (A 0), vI cD, vI (3 : Int32), vU] []))
                  simp only [if_neg hc369_151, if_pos hc376_152] at J135
                  exact J135
                · refine og (XS.icmpYes X132.here hx rfl (pc0 := 376) (pc' := 386) rfl (hb hby at_376) rfl (flt hc376_152).2.1 (by decide) (by decide)) ?_
                  show own_Gl _ _ _ _ (T132.setTop (mkF m 386 #[vI p0, vI p1, vI p2, vI p3, vI p4, vI p5, vI sv, vI vv, vI kq, vI cA, vI cB, vI cC, vI cD, vI th, vI fo, vR ba, vR b47, vR (A 0), vI lb, vI ab, vU] []))
                  simp only [if_neg hc369_151, if_neg hc376_152] at J135
                  exact J135
          · by_cases hc350_153 : th = (0 : Int32)
            · refine og (XS.ifYes X132.here hx rfl (pc0 := 350) (pc' := 367) rfl (hb hby at_350) rfl ((if0 _ _).trans (teq hc350_153).1) (by decide) (by decide)) ?_
              show own_Gl _ _ _ _ (T132.setTop (mkF m 367 #[vI p0, vI p1, vI p2, vI p3, vI p4, vI p5, vI sv, vI vv, vI kq, vI cA, vI cB, vI cC, vI cD, vI th, vI fo, vR ba, vR b47, vR (A 0), vI la, vI aa, vU] []))
              simp only [if_pos hc350_153] at J134
              exact J134
            · refine og (XS.ifNo X132.here hx rfl (hb hby at_350) rfl ((if0 _ _).trans (feq hc350_153).1)) ?_
              refine sI X132 hx (hb hby at_353) ?_
              refine sI X132 hx (hb hby at_355) ?_
              by_cases hc357_154 : cC < la
              · refine og (XS.icmpNo X132.here hx rfl (hb hby at_357) rfl (tlt hc357_154).2.1) ?_
                refine sI X132 hx (hb hby at_360) ?_
                refine og (XS.istore X132.here hx rfl (hb hby at_362) rfl (l' := #[vI p0, vI p1, vI p2, vI p3, vI p4, vI p5, vI sv, vI vv, vI kq, vI cA, vI cB, vI cC, vI cD, vI th, vI fo, vR ba, vR b47, vR (A 0), vI cC, vI aa, vU]) rfl) ?_
                refine sc X132 hx (hb hby at_364) ?_
                refine og (XS.istore X132.here hx rfl (hb hby at_365) rfl (l' := #[vI p0, vI p1, vI p2, vI p3, vI p4, vI p5, vI sv, vI vv, vI kq, vI cA, vI cB, vI cC, vI cD, vI th, vI fo, vR ba, vR b47, vR (A 0), vI cC, vI (2 : Int32), vU]) rfl) ?_
                show own_Gl _ _ _ _ (T132.setTop (mkF m 367 #[vI p0, vI p1, vI p2, vI p3, vI p4, vI p5, vI sv, vI vv, vI kq, vI cA, vI cB, vI cC, vI cD, vI th, vI fo, vR ba, vR b47, vR (A 0), vI cC, vI (2 : Int32), vU] []))
                simp only [if_neg hc350_153, if_pos hc357_154] at J134
                exact J134
              · refine og (XS.icmpYes X132.here hx rfl (pc0 := 357) (pc' := 367) rfl (hb hby at_357) rfl (flt hc357_154).2.1 (by decide) (by decide)) ?_
                show own_Gl _ _ _ _ (T132.setTop (mkF m 367 #[vI p0, vI p1, vI p2, vI p3, vI p4, vI p5, vI sv, vI vv, vI kq, vI cA, vI cB, vI cC, vI cD, vI th, vI fo, vR ba, vR b47, vR (A 0), vI la, vI aa, vU] []))
                simp only [if_neg hc350_153, if_neg hc357_154] at J134
                exact J134
        · by_cases hc338_155 : cB < cA
          · refine og (XS.icmpNo X132.here hx rfl (hb hby at_338) rfl (tlt hc338_155).2.1) ?_
            refine sI X132 hx (hb hby at_341) ?_
            refine og (XS.istore X132.here hx rfl (hb hby at_343) rfl (l' := #[vI p0, vI p1, vI p2, vI p3, vI p4, vI p5, vI sv, vI vv, vI kq, vI cA, vI cB, vI cC, vI cD, vI th, vI fo, vR ba, vR b47, vR (A 0), vI cB, vI (0 : Int32), vU]) rfl) ?_
            refine sc X132 hx (hb hby at_345) ?_
            show own_Gl _ _ _ _ (T132.setTop (mkF m 346 #[vI p0, vI p1, vI p2, vI p3, vI p4, vI p5, vI sv, vI vv, vI kq, vI cA, vI cB, vI cC, vI cD, vI th, vI fo, vR ba, vR b47, vR (A 0), vI cB, vI (0 : Int32), vU] [(.int (1 : Int32))]))
            refine og (XS.istore X132.here hx rfl (hb hby at_346) rfl (l' := #[vI p0, vI p1, vI p2, vI p3, vI p4, vI p5, vI sv, vI vv, vI kq, vI cA, vI cB, vI cC, vI cD, vI th, vI fo, vR ba, vR b47, vR (A 0), vI cB, vI (1 : Int32), vU]) rfl) ?_
            show own_Gl _ _ _ _ (T132.setTop (mkF m 348 #[vI p0, vI p1, vI p2, vI p3, vI p4, vI p5, vI sv, vI vv, vI kq, vI cA, vI cB, vI cC, vI cD, vI th, vI fo, vR ba, vR b47, vR (A 0), vI cB, vI (1 : Int32), vU] []))
            simp only [if_pos hc338_155] at J133
            exact J133
          · refine og (XS.icmpYes X132.here hx rfl (pc0 := 338) (pc' := 348) rfl (hb hby at_338) rfl (flt hc338_155).2.1 (by decide) (by decide)) ?_
            show own_Gl _ _ _ _ (T132.setTop (mkF m 348 #[vI p0, vI p1, vI p2, vI p3, vI p4, vI p5, vI sv, vI vv, vI kq, vI cA, vI cB, vI cC, vI cD, vI th, vI fo, vR ba, vR b47, vR (A 0), vI cA, vI (0 : Int32), vU] []))
            simp only [if_neg hc338_155] at J133
            exact J133
      refine sI X44 hx (hb hby at_79) ?_
      refine sI X44 hx (hb hby at_81) ?_
      by_cases hc83_156 : cA = vv
      · refine og (XS.icmpYes X44.here hx rfl (pc0 := 83) (pc' := 100) rfl (hb hby at_83) rfl (teq hc83_156).1 (by decide) (by decide)) ?_
        refine sc X44 hx (hb hby at_100) ?_
        exact own_retB X44 hx (t := .boolean) hret hlk (by simp) (hb hby at_101) hq44 (by decide) (by decide) ⟨N44, rfl⟩
      · refine og (XS.icmpNo X44.here hx rfl (hb hby at_83) rfl (feq hc83_156).1) ?_
        refine sI X44 hx (hb hby at_86) ?_
        refine sI X44 hx (hb hby at_88) ?_
        by_cases hc90_157 : cB = vv
        · refine og (XS.icmpYes X44.here hx rfl (pc0 := 90) (pc' := 100) rfl (hb hby at_90) rfl (teq hc90_157).1 (by decide) (by decide)) ?_
          refine sc X44 hx (hb hby at_100) ?_
          exact own_retB X44 hx (t := .boolean) hret hlk (by simp) (hb hby at_101) hq44 (by decide) (by decide) ⟨N44, rfl⟩
        · refine og (XS.icmpNo X44.here hx rfl (hb hby at_90) rfl (feq hc90_157).1) ?_
          refine sI X44 hx (hb hby at_93) ?_
          refine sI X44 hx (hb hby at_95) ?_
          by_cases hc97_158 : cA = cB
          · refine og (XS.icmpNo X44.here hx rfl (hb hby at_97) rfl (teq hc97_158).2) ?_
            refine sc X44 hx (hb hby at_100) ?_
            exact own_retB X44 hx (t := .boolean) hret hlk (by simp) (hb hby at_101) hq44 (by decide) (by decide) ⟨N44, rfl⟩
          · refine og (XS.icmpYes X44.here hx rfl (pc0 := 97) (pc' := 102) rfl (hb hby at_97) rfl (feq hc97_158).2 (by decide) (by decide)) ?_
            refine sI X44 hx (hb hby at_102) ?_
            show own_Gl _ _ _ _ (T44.setTop (mkF m 104 #[vI p0, vI p1, vI p2, vI p3, vI p4, vI p5, vI sv, vI vv, vI kq, vI cA, vI cB, vI cC, vI cD, vI th, vI fo, vU, vU, vU, vU, vU, vU] [(.int th)]))
            by_cases hc104_159 : th = (0 : Int32)
            · refine og (XS.ifYes X44.here hx rfl (pc0 := 104) (pc' := 130) rfl (hb hby at_104) rfl ((if0 _ _).trans (teq hc104_159).1) (by decide) (by decide)) ?_
              refine sI X44 hx (hb hby at_130) ?_
              have hp160 : fo = (0 : Int32) := en_fo.trans (if_pos (own_l34 (own_th en_th hc104_159)))
              refine og (XS.ifYes X44.here hx rfl (pc0 := 132) (pc' := 165) rfl (hb hby at_132) rfl ((if0 _ _).trans (teq hp160).1) (by decide) (by decide)) ?_
              refine sI X44 hx (hb hby at_165) ?_
              show own_Gl _ _ _ _ (T44.setTop (mkF m 167 #[vI p0, vI p1, vI p2, vI p3, vI p4, vI p5, vI sv, vI vv, vI kq, vI cA, vI cB, vI cC, vI cD, vI th, vI fo, vU, vU, vU, vU, vU, vU] [(.int sv)]))
              obtain ⟨T161, h161, k161, X161, e161, E161, A161, st161⟩ := newP X44 hx hZ (aty := .int) (wx hw 5) hq44 (g := (mkF m 167 #[vI p0, vI p1, vI p2, vI p3, vI p4, vI p5, vI sv, vI vv, vI kq, vI cA, vI cB, vI cC, vI cD, vI th, vI fo, vU, vU, vU, vU, vU, vU] [(.int sv)])) rfl (hb hby at_167) rfl (own_ix_s hsv.1 (j := (0 : Int32)) (by decide) (by have z : (0 : Int32).toInt = 0 := rfl; omega) |> fun q => fun z => absurd q.2 (by rw [Int32.lt_iff_toInt_lt] at *; omega)) (cap := 4) (by simp only [Int32.toNatClampNeg]; omega) (by decide) (by decide) (by decide)
              obtain ⟨b161, g161⟩ : ∃ z, z = h0.size := ⟨_, rfl⟩
              rw [← g161] at A161 st161
              have ge_b161 : n0 ≤ b161 := Nat.le_trans Z0 (Nat.le_of_eq g161.symm)
              have sz_b161 : h0.size ≤ b161 := Nat.le_trans (Keep.refl h0 []).1 (Nat.le_of_eq g161.symm)
              refine og (st161 _) ?_
              have K161 : Keep h0 h161 [] := (Keep.refl h0 []).ext E161
              have Z161 : n0 ≤ h161.size := Nat.le_trans Z0 E161.1
              have V161 : Arv Z h161 b161 k161 .int sv [(.int (0 : Int32)), (.int (0 : Int32)), (.int (0 : Int32)), (.int (0 : Int32))] (.int (0 : Int32)) := (Arv.new A161 (own_ix_s hsv.1 (j := (0 : Int32)) (by decide) (by have z : (0 : Int32).toInt = 0 := rfl; omega) |> fun q => fun z => absurd q.2 (by rw [Int32.lt_iff_toInt_lt] at *; omega))).pad (pad_rep [] (.int (0 : Int32)) 4)
              refine og (XS.astore X161.here hx rfl (hb hby at_169) rfl rfl (l' := #[vI p0, vI p1, vI p2, vI p3, vI p4, vI p5, vI sv, vI vv, vI kq, vI cA, vI cB, vI cC, vI cD, vI th, vI fo, vR b161, vU, vU, vU, vU, vU]) rfl) ?_
              refine og (XS.aload X161.here hx rfl (hb hby at_171) rfl rfl) ?_
              refine sc X161 hx (hb hby at_173) ?_
              refine sI X161 hx (hb hby at_174) ?_
              show own_Gl _ _ _ _ (T161.setTop (mkF m 176 #[vI p0, vI p1, vI p2, vI p3, vI p4, vI p5, vI sv, vI vv, vI kq, vI cA, vI cB, vI cC, vI cD, vI th, vI fo, vR b161, vU, vU, vU, vU, vU] [(.int cA), (.int (0 : Int32)), (.ref b161)]))
              refine oc_iastore X161 hx hZ e161 V161 (own_ix_s hsv.1 (by decide) (by have z : (0 : Int32).toInt = 0 := rfl; omega)) 0 rfl (Nat.le_of_ble_eq_true rfl) (hb hby at_176) (fun T162 h162 X162 e162 W162 V162 => ?_)
              have V162 : Arv Z h162 b161 k161 .int sv [(.int cA), (.int (0 : Int32)), (.int (0 : Int32)), (.int (0 : Int32))] (.int (0 : Int32)) := V162
              have K162 : Keep h0 h162 [] := K161.wr W162 (Or.inr sz_b161)
              have N162 := Fr.snoc X162 N44 ge_b161
              have Z162 : n0 ≤ h162.size := Nat.le_trans Z161 (Keep.of_wr W162).1
              refine og (XS.aload X162.here hx rfl (hb hby at_177) rfl rfl) ?_
              refine sc X162 hx (hb hby at_179) ?_
              refine sI X162 hx (hb hby at_180) ?_
              show own_Gl _ _ _ _ (T162.setTop (mkF m 182 #[vI p0, vI p1, vI p2, vI p3, vI p4, vI p5, vI sv, vI vv, vI kq, vI cA, vI cB, vI cC, vI cD, vI th, vI fo, vR b161, vU, vU, vU, vU, vU] [(.int cB), (.int (1 : Int32)), (.ref b161)]))
              refine oc_iastore X162 hx hZ e162 V162 (own_ix_s hsv.1 (by decide) (by have z : (1 : Int32).toInt = 1 := rfl; omega)) 1 rfl (Nat.le_of_ble_eq_true rfl) (hb hby at_182) (fun T163 h163 X163 e163 W163 V163 => ?_)
              have V163 : Arv Z h163 b161 k161 .int sv [(.int cA), (.int cB), (.int (0 : Int32)), (.int (0 : Int32))] (.int (0 : Int32)) := V163
              have K163 : Keep h0 h163 [] := K162.wr W163 (Or.inr sz_b161)
              have N163 := Fr.snoc X163 N162 ge_b161
              have Z163 : n0 ≤ h163.size := Nat.le_trans Z162 (Keep.of_wr W163).1
              refine sI X163 hx (hb hby at_183) ?_
              refine og (XS.ifYes X163.here hx rfl (pc0 := 185) (pc' := 194) rfl (hb hby at_185) rfl ((if0 _ _).trans (teq hc104_159).1) (by decide) (by decide)) ?_
              refine sI X163 hx (hb hby at_194) ?_
              refine og (XS.ifYes X163.here hx rfl (pc0 := 196) (pc' := 205) rfl (hb hby at_196) rfl ((if0 _ _).trans (teq hp160).1) (by decide) (by decide)) ?_
              show own_Gl _ _ _ _ (T163.setTop (mkF m 205 #[vI p0, vI p1, vI p2, vI p3, vI p4, vI p5, vI sv, vI vv, vI kq, vI cA, vI cB, vI cC, vI cD, vI th, vI fo, vR b161, vU, vU, vU, vU, vU] []))
              exact cut _ _ _ _ _ _ e163 X163 N163 K163 ge_b161 sz_b161 V163 (own_cv2 (own_n2 hsv (own_th en_th hc104_159))) (own_ok2 (own_n2 hsv (own_th en_th hc104_159)) hc83_156 hc90_157 hc97_158)
            · refine og (XS.ifNo X44.here hx rfl (hb hby at_104) rfl ((if0 _ _).trans (feq hc104_159).1)) ?_
              refine sI X44 hx (hb hby at_107) ?_
              refine sI X44 hx (hb hby at_109) ?_
              by_cases hc111_164 : cC = vv
              · refine og (XS.icmpYes X44.here hx rfl (pc0 := 111) (pc' := 128) rfl (hb hby at_111) rfl (teq hc111_164).1 (by decide) (by decide)) ?_
                refine sc X44 hx (hb hby at_128) ?_
                exact own_retB X44 hx (t := .boolean) hret hlk (by simp) (hb hby at_129) hq44 (by decide) (by decide) ⟨N44, rfl⟩
              · refine og (XS.icmpNo X44.here hx rfl (hb hby at_111) rfl (feq hc111_164).1) ?_
                refine sI X44 hx (hb hby at_114) ?_
                refine sI X44 hx (hb hby at_116) ?_
                by_cases hc118_165 : cC = cA
                · refine og (XS.icmpYes X44.here hx rfl (pc0 := 118) (pc' := 128) rfl (hb hby at_118) rfl (teq hc118_165).1 (by decide) (by decide)) ?_
                  refine sc X44 hx (hb hby at_128) ?_
                  exact own_retB X44 hx (t := .boolean) hret hlk (by simp) (hb hby at_129) hq44 (by decide) (by decide) ⟨N44, rfl⟩
                · refine og (XS.icmpNo X44.here hx rfl (hb hby at_118) rfl (feq hc118_165).1) ?_
                  refine sI X44 hx (hb hby at_121) ?_
                  refine sI X44 hx (hb hby at_123) ?_
                  by_cases hc125_166 : cC = cB
                  · refine og (XS.icmpNo X44.here hx rfl (hb hby at_125) rfl (teq hc125_166).2) ?_
                    refine sc X44 hx (hb hby at_128) ?_
                    exact own_retB X44 hx (t := .boolean) hret hlk (by simp) (hb hby at_129) hq44 (by decide) (by decide) ⟨N44, rfl⟩
                  · refine og (XS.icmpYes X44.here hx rfl (pc0 := 125) (pc' := 130) rfl (hb hby at_125) rfl (feq hc125_166).2 (by decide) (by decide)) ?_
                    refine sI X44 hx (hb hby at_130) ?_
                    show own_Gl _ _ _ _ (T44.setTop (mkF m 132 #[vI p0, vI p1, vI p2, vI p3, vI p4, vI p5, vI sv, vI vv, vI kq, vI cA, vI cB, vI cC, vI cD, vI th, vI fo, vU, vU, vU, vU, vU, vU] [(.int fo)]))
                    by_cases hc132_167 : fo = (0 : Int32)
                    · refine og (XS.ifYes X44.here hx rfl (pc0 := 132) (pc' := 165) rfl (hb hby at_132) rfl ((if0 _ _).trans (teq hc132_167).1) (by decide) (by decide)) ?_
                      refine sI X44 hx (hb hby at_165) ?_
                      show own_Gl _ _ _ _ (T44.setTop (mkF m 167 #[vI p0, vI p1, vI p2, vI p3, vI p4, vI p5, vI sv, vI vv, vI kq, vI cA, vI cB, vI cC, vI cD, vI th, vI fo, vU, vU, vU, vU, vU, vU] [(.int sv)]))
                      obtain ⟨T168, h168, k168, X168, e168, E168, A168, st168⟩ := newP X44 hx hZ (aty := .int) (wx hw 5) hq44 (g := (mkF m 167 #[vI p0, vI p1, vI p2, vI p3, vI p4, vI p5, vI sv, vI vv, vI kq, vI cA, vI cB, vI cC, vI cD, vI th, vI fo, vU, vU, vU, vU, vU, vU] [(.int sv)])) rfl (hb hby at_167) rfl (own_ix_s hsv.1 (j := (0 : Int32)) (by decide) (by have z : (0 : Int32).toInt = 0 := rfl; omega) |> fun q => fun z => absurd q.2 (by rw [Int32.lt_iff_toInt_lt] at *; omega)) (cap := 4) (by simp only [Int32.toNatClampNeg]; omega) (by decide) (by decide) (by decide)
                      obtain ⟨b168, g168⟩ : ∃ z, z = h0.size := ⟨_, rfl⟩
                      rw [← g168] at A168 st168
                      have ge_b168 : n0 ≤ b168 := Nat.le_trans Z0 (Nat.le_of_eq g168.symm)
                      have sz_b168 : h0.size ≤ b168 := Nat.le_trans (Keep.refl h0 []).1 (Nat.le_of_eq g168.symm)
                      refine og (st168 _) ?_
                      have K168 : Keep h0 h168 [] := (Keep.refl h0 []).ext E168
                      have Z168 : n0 ≤ h168.size := Nat.le_trans Z0 E168.1
                      have V168 : Arv Z h168 b168 k168 .int sv [(.int (0 : Int32)), (.int (0 : Int32)), (.int (0 : Int32)), (.int (0 : Int32))] (.int (0 : Int32)) := (Arv.new A168 (own_ix_s hsv.1 (j := (0 : Int32)) (by decide) (by have z : (0 : Int32).toInt = 0 := rfl; omega) |> fun q => fun z => absurd q.2 (by rw [Int32.lt_iff_toInt_lt] at *; omega))).pad (pad_rep [] (.int (0 : Int32)) 4)
                      refine og (XS.astore X168.here hx rfl (hb hby at_169) rfl rfl (l' := #[vI p0, vI p1, vI p2, vI p3, vI p4, vI p5, vI sv, vI vv, vI kq, vI cA, vI cB, vI cC, vI cD, vI th, vI fo, vR b168, vU, vU, vU, vU, vU]) rfl) ?_
                      refine og (XS.aload X168.here hx rfl (hb hby at_171) rfl rfl) ?_
                      refine sc X168 hx (hb hby at_173) ?_
                      refine sI X168 hx (hb hby at_174) ?_
                      show own_Gl _ _ _ _ (T168.setTop (mkF m 176 #[vI p0, vI p1, vI p2, vI p3, vI p4, vI p5, vI sv, vI vv, vI kq, vI cA, vI cB, vI cC, vI cD, vI th, vI fo, vR b168, vU, vU, vU, vU, vU] [(.int cA), (.int (0 : Int32)), (.ref b168)]))
                      refine oc_iastore X168 hx hZ e168 V168 (own_ix_s hsv.1 (by decide) (by have z : (0 : Int32).toInt = 0 := rfl; omega)) 0 rfl (Nat.le_of_ble_eq_true rfl) (hb hby at_176) (fun T169 h169 X169 e169 W169 V169 => ?_)
                      have V169 : Arv Z h169 b168 k168 .int sv [(.int cA), (.int (0 : Int32)), (.int (0 : Int32)), (.int (0 : Int32))] (.int (0 : Int32)) := V169
                      have K169 : Keep h0 h169 [] := K168.wr W169 (Or.inr sz_b168)
                      have N169 := Fr.snoc X169 N44 ge_b168
                      have Z169 : n0 ≤ h169.size := Nat.le_trans Z168 (Keep.of_wr W169).1
                      refine og (XS.aload X169.here hx rfl (hb hby at_177) rfl rfl) ?_
                      refine sc X169 hx (hb hby at_179) ?_
                      refine sI X169 hx (hb hby at_180) ?_
                      show own_Gl _ _ _ _ (T169.setTop (mkF m 182 #[vI p0, vI p1, vI p2, vI p3, vI p4, vI p5, vI sv, vI vv, vI kq, vI cA, vI cB, vI cC, vI cD, vI th, vI fo, vR b168, vU, vU, vU, vU, vU] [(.int cB), (.int (1 : Int32)), (.ref b168)]))
                      refine oc_iastore X169 hx hZ e169 V169 (own_ix_s hsv.1 (by decide) (by have z : (1 : Int32).toInt = 1 := rfl; omega)) 1 rfl (Nat.le_of_ble_eq_true rfl) (hb hby at_182) (fun T170 h170 X170 e170 W170 V170 => ?_)
                      have V170 : Arv Z h170 b168 k168 .int sv [(.int cA), (.int cB), (.int (0 : Int32)), (.int (0 : Int32))] (.int (0 : Int32)) := V170
                      have K170 : Keep h0 h170 [] := K169.wr W170 (Or.inr sz_b168)
                      have N170 := Fr.snoc X170 N169 ge_b168
                      have Z170 : n0 ≤ h170.size := Nat.le_trans Z169 (Keep.of_wr W170).1
                      refine sI X170 hx (hb hby at_183) ?_
                      refine og (XS.ifNo X170.here hx rfl (hb hby at_185) rfl ((if0 _ _).trans (feq hc104_159).1)) ?_
                      refine og (XS.aload X170.here hx rfl (hb hby at_188) rfl rfl) ?_
                      refine sc X170 hx (hb hby at_190) ?_
                      refine sI X170 hx (hb hby at_191) ?_
                      show own_Gl _ _ _ _ (T170.setTop (mkF m 193 #[vI p0, vI p1, vI p2, vI p3, vI p4, vI p5, vI sv, vI vv, vI kq, vI cA, vI cB, vI cC, vI cD, vI th, vI fo, vR b168, vU, vU, vU, vU, vU] [(.int cC), (.int (2 : Int32)), (.ref b168)]))
                      refine oc_iastore X170 hx hZ e170 V170 (own_ix_s hsv.1 (by decide) (by have z : (2 : Int32).toInt = 2 := rfl; have z3 : (3 : Int32).toInt = 3 := rfl; have q := own_thn en_th hc104_159; rw [Int32.lt_iff_toInt_lt] at q; omega)) 2 rfl (Nat.le_of_ble_eq_true rfl) (hb hby at_193) (fun T171 h171 X171 e171 W171 V171 => ?_)
                      have V171 : Arv Z h171 b168 k168 .int sv [(.int cA), (.int cB), (.int cC), (.int (0 : Int32))] (.int (0 : Int32)) := V171
                      have K171 : Keep h0 h171 [] := K170.wr W171 (Or.inr sz_b168)
                      have N171 := Fr.snoc X171 N170 ge_b168
                      have Z171 : n0 ≤ h171.size := Nat.le_trans Z170 (Keep.of_wr W171).1
                      refine sI X171 hx (hb hby at_194) ?_
                      refine og (XS.ifYes X171.here hx rfl (pc0 := 196) (pc' := 205) rfl (hb hby at_196) rfl ((if0 _ _).trans (teq hc132_167).1) (by decide) (by decide)) ?_
                      show own_Gl _ _ _ _ (T171.setTop (mkF m 205 #[vI p0, vI p1, vI p2, vI p3, vI p4, vI p5, vI sv, vI vv, vI kq, vI cA, vI cB, vI cC, vI cD, vI th, vI fo, vR b168, vU, vU, vU, vU, vU] []))
                      exact cut _ _ _ _ _ _ e171 X171 N171 K171 ge_b168 sz_b168 V171 (own_cv3 (own_n3 (own_thn en_th hc104_159) (own_th en_fo hc132_167))) (own_ok3 (own_n3 (own_thn en_th hc104_159) (own_th en_fo hc132_167)) hc83_156 hc90_157 hc97_158 hc111_164 hc118_165 hc125_166)
                    · refine og (XS.ifNo X44.here hx rfl (hb hby at_132) rfl ((if0 _ _).trans (feq hc132_167).1)) ?_
                      refine sI X44 hx (hb hby at_135) ?_
                      refine sI X44 hx (hb hby at_137) ?_
                      by_cases hc139_172 : cD = vv
                      · refine og (XS.icmpYes X44.here hx rfl (pc0 := 139) (pc' := 163) rfl (hb hby at_139) rfl (teq hc139_172).1 (by decide) (by decide)) ?_
                        refine sc X44 hx (hb hby at_163) ?_
                        exact own_retB X44 hx (t := .boolean) hret hlk (by simp) (hb hby at_164) hq44 (by decide) (by decide) ⟨N44, rfl⟩
                      · refine og (XS.icmpNo X44.here hx rfl (hb hby at_139) rfl (feq hc139_172).1) ?_
                        refine sI X44 hx (hb hby at_142) ?_
                        refine sI X44 hx (hb hby at_144) ?_
                        by_cases hc146_173 : cD = cA
                        · refine og (XS.icmpYes X44.here hx rfl (pc0 := 146) (pc' := 163) rfl (hb hby at_146) rfl (teq hc146_173).1 (by decide) (by decide)) ?_
                          refine sc X44 hx (hb hby at_163) ?_
                          exact own_retB X44 hx (t := .boolean) hret hlk (by simp) (hb hby at_164) hq44 (by decide) (by decide) ⟨N44, rfl⟩
                        · refine og (XS.icmpNo X44.here hx rfl (hb hby at_146) rfl (feq hc146_173).1) ?_
                          refine sI X44 hx (hb hby at_149) ?_
                          refine sI X44 hx (hb hby at_151) ?_
                          by_cases hc153_174 : cD = cB
                          · refine og (XS.icmpYes X44.here hx rfl (pc0 := 153) (pc' := 163) rfl (hb hby at_153) rfl (teq hc153_174).1 (by decide) (by decide)) ?_
                            refine sc X44 hx (hb hby at_163) ?_
                            exact own_retB X44 hx (t := .boolean) hret hlk (by simp) (hb hby at_164) hq44 (by decide) (by decide) ⟨N44, rfl⟩
                          · refine og (XS.icmpNo X44.here hx rfl (hb hby at_153) rfl (feq hc153_174).1) ?_
                            refine sI X44 hx (hb hby at_156) ?_
                            show own_Gl _ _ _ _ (T44.setTop (mkF m 158 #[vI p0, vI p1, vI p2, vI p3, vI p4, vI p5, vI sv, vI vv, vI kq, vI cA, vI cB, vI cC, vI cD, vI th, vI fo, vU, vU, vU, vU, vU, vU] [(.int cD)]))
                            refine sI X44 hx (hb hby at_158) ?_
                            by_cases hc160_175 : cD = cC
                            · refine og (XS.icmpNo X44.here hx rfl (hb hby at_160) rfl (teq hc160_175).2) ?_
                              refine sc X44 hx (hb hby at_163) ?_
                              exact own_retB X44 hx (t := .boolean) hret hlk (by simp) (hb hby at_164) hq44 (by decide) (by decide) ⟨N44, rfl⟩
                            · refine og (XS.icmpYes X44.here hx rfl (pc0 := 160) (pc' := 165) rfl (hb hby at_160) rfl (feq hc160_175).2 (by decide) (by decide)) ?_
                              refine sI X44 hx (hb hby at_165) ?_
                              show own_Gl _ _ _ _ (T44.setTop (mkF m 167 #[vI p0, vI p1, vI p2, vI p3, vI p4, vI p5, vI sv, vI vv, vI kq, vI cA, vI cB, vI cC, vI cD, vI th, vI fo, vU, vU, vU, vU, vU, vU] [(.int sv)]))
                              obtain ⟨T176, h176, k176, X176, e176, E176, A176, st176⟩ := newP X44 hx hZ (aty := .int) (wx hw 5) hq44 (g := (mkF m 167 #[vI p0, vI p1, vI p2, vI p3, vI p4, vI p5, vI sv, vI vv, vI kq, vI cA, vI cB, vI cC, vI cD, vI th, vI fo, vU, vU, vU, vU, vU, vU] [(.int sv)])) rfl (hb hby at_167) rfl (own_ix_s hsv.1 (j := (0 : Int32)) (by decide) (by have z : (0 : Int32).toInt = 0 := rfl; omega) |> fun q => fun z => absurd q.2 (by rw [Int32.lt_iff_toInt_lt] at *; omega)) (cap := 4) (by simp only [Int32.toNatClampNeg]; omega) (by decide) (by decide) (by decide)
                              obtain ⟨b176, g176⟩ : ∃ z, z = h0.size := ⟨_, rfl⟩
                              rw [← g176] at A176 st176
                              have ge_b176 : n0 ≤ b176 := Nat.le_trans Z0 (Nat.le_of_eq g176.symm)
                              have sz_b176 : h0.size ≤ b176 := Nat.le_trans (Keep.refl h0 []).1 (Nat.le_of_eq g176.symm)
                              refine og (st176 _) ?_
                              have K176 : Keep h0 h176 [] := (Keep.refl h0 []).ext E176
                              have Z176 : n0 ≤ h176.size := Nat.le_trans Z0 E176.1
                              have V176 : Arv Z h176 b176 k176 .int sv [(.int (0 : Int32)), (.int (0 : Int32)), (.int (0 : Int32)), (.int (0 : Int32))] (.int (0 : Int32)) := (Arv.new A176 (own_ix_s hsv.1 (j := (0 : Int32)) (by decide) (by have z : (0 : Int32).toInt = 0 := rfl; omega) |> fun q => fun z => absurd q.2 (by rw [Int32.lt_iff_toInt_lt] at *; omega))).pad (pad_rep [] (.int (0 : Int32)) 4)
                              refine og (XS.astore X176.here hx rfl (hb hby at_169) rfl rfl (l' := #[vI p0, vI p1, vI p2, vI p3, vI p4, vI p5, vI sv, vI vv, vI kq, vI cA, vI cB, vI cC, vI cD, vI th, vI fo, vR b176, vU, vU, vU, vU, vU]) rfl) ?_
                              refine og (XS.aload X176.here hx rfl (hb hby at_171) rfl rfl) ?_
                              refine sc X176 hx (hb hby at_173) ?_
                              refine sI X176 hx (hb hby at_174) ?_
                              show own_Gl _ _ _ _ (T176.setTop (mkF m 176 #[vI p0, vI p1, vI p2, vI p3, vI p4, vI p5, vI sv, vI vv, vI kq, vI cA, vI cB, vI cC, vI cD, vI th, vI fo, vR b176, vU, vU, vU, vU, vU] [(.int cA), (.int (0 : Int32)), (.ref b176)]))
                              refine oc_iastore X176 hx hZ e176 V176 (own_ix_s hsv.1 (by decide) (by have z : (0 : Int32).toInt = 0 := rfl; omega)) 0 rfl (Nat.le_of_ble_eq_true rfl) (hb hby at_176) (fun T177 h177 X177 e177 W177 V177 => ?_)
                              have V177 : Arv Z h177 b176 k176 .int sv [(.int cA), (.int (0 : Int32)), (.int (0 : Int32)), (.int (0 : Int32))] (.int (0 : Int32)) := V177
                              have K177 : Keep h0 h177 [] := K176.wr W177 (Or.inr sz_b176)
                              have N177 := Fr.snoc X177 N44 ge_b176
                              have Z177 : n0 ≤ h177.size := Nat.le_trans Z176 (Keep.of_wr W177).1
                              refine og (XS.aload X177.here hx rfl (hb hby at_177) rfl rfl) ?_
                              refine sc X177 hx (hb hby at_179) ?_
                              refine sI X177 hx (hb hby at_180) ?_
                              show own_Gl _ _ _ _ (T177.setTop (mkF m 182 #[vI p0, vI p1, vI p2, vI p3, vI p4, vI p5, vI sv, vI vv, vI kq, vI cA, vI cB, vI cC, vI cD, vI th, vI fo, vR b176, vU, vU, vU, vU, vU] [(.int cB), (.int (1 : Int32)), (.ref b176)]))
                              refine oc_iastore X177 hx hZ e177 V177 (own_ix_s hsv.1 (by decide) (by have z : (1 : Int32).toInt = 1 := rfl; omega)) 1 rfl (Nat.le_of_ble_eq_true rfl) (hb hby at_182) (fun T178 h178 X178 e178 W178 V178 => ?_)
                              have V178 : Arv Z h178 b176 k176 .int sv [(.int cA), (.int cB), (.int (0 : Int32)), (.int (0 : Int32))] (.int (0 : Int32)) := V178
                              have K178 : Keep h0 h178 [] := K177.wr W178 (Or.inr sz_b176)
                              have N178 := Fr.snoc X178 N177 ge_b176
                              have Z178 : n0 ≤ h178.size := Nat.le_trans Z177 (Keep.of_wr W178).1
                              refine sI X178 hx (hb hby at_183) ?_
                              refine og (XS.ifNo X178.here hx rfl (hb hby at_185) rfl ((if0 _ _).trans (feq hc104_159).1)) ?_
                              refine og (XS.aload X178.here hx rfl (hb hby at_188) rfl rfl) ?_
                              refine sc X178 hx (hb hby at_190) ?_
                              refine sI X178 hx (hb hby at_191) ?_
                              show own_Gl _ _ _ _ (T178.setTop (mkF m 193 #[vI p0, vI p1, vI p2, vI p3, vI p4, vI p5, vI sv, vI vv, vI kq, vI cA, vI cB, vI cC, vI cD, vI th, vI fo, vR b176, vU, vU, vU, vU, vU] [(.int cC), (.int (2 : Int32)), (.ref b176)]))
                              refine oc_iastore X178 hx hZ e178 V178 (own_ix_s hsv.1 (by decide) (by have z : (2 : Int32).toInt = 2 := rfl; have z3 : (3 : Int32).toInt = 3 := rfl; have q := own_thn en_th hc104_159; rw [Int32.lt_iff_toInt_lt] at q; omega)) 2 rfl (Nat.le_of_ble_eq_true rfl) (hb hby at_193) (fun T179 h179 X179 e179 W179 V179 => ?_)
                              have V179 : Arv Z h179 b176 k176 .int sv [(.int cA), (.int cB), (.int cC), (.int (0 : Int32))] (.int (0 : Int32)) := V179
                              have K179 : Keep h0 h179 [] := K178.wr W179 (Or.inr sz_b176)
                              have N179 := Fr.snoc X179 N178 ge_b176
                              have Z179 : n0 ≤ h179.size := Nat.le_trans Z178 (Keep.of_wr W179).1
                              refine sI X179 hx (hb hby at_194) ?_
                              refine og (XS.ifNo X179.here hx rfl (hb hby at_196) rfl ((if0 _ _).trans (feq hc132_167).1)) ?_
                              refine og (XS.aload X179.here hx rfl (hb hby at_199) rfl rfl) ?_
                              refine sc X179 hx (hb hby at_201) ?_
                              refine sI X179 hx (hb hby at_202) ?_
                              show own_Gl _ _ _ _ (T179.setTop (mkF m 204 #[vI p0, vI p1, vI p2, vI p3, vI p4, vI p5, vI sv, vI vv, vI kq, vI cA, vI cB, vI cC, vI cD, vI th, vI fo, vR b176, vU, vU, vU, vU, vU] [(.int cD), (.int (3 : Int32)), (.ref b176)]))
                              refine oc_iastore X179 hx hZ e179 V179 (own_ix_s hsv.1 (by decide) (by have z : (3 : Int32).toInt = 3 := rfl; have z3 : (4 : Int32).toInt = 4 := rfl; have q := own_thn en_fo hc132_167; rw [Int32.lt_iff_toInt_lt] at q; omega)) 3 rfl (Nat.le_of_ble_eq_true rfl) (hb hby at_204) (fun T180 h180 X180 e180 W180 V180 => ?_)
                              have V180 : Arv Z h180 b176 k176 .int sv [(.int cA), (.int cB), (.int cC), (.int cD)] (.int (0 : Int32)) := V180
                              have K180 : Keep h0 h180 [] := K179.wr W180 (Or.inr sz_b176)
                              have N180 := Fr.snoc X180 N179 ge_b176
                              have Z180 : n0 ≤ h180.size := Nat.le_trans Z179 (Keep.of_wr W180).1
                              show own_Gl _ _ _ _ (T180.setTop (mkF m 205 #[vI p0, vI p1, vI p2, vI p3, vI p4, vI p5, vI sv, vI vv, vI kq, vI cA, vI cB, vI cC, vI cD, vI th, vI fo, vR b176, vU, vU, vU, vU, vU] []))
                              exact cut _ _ _ _ _ _ e180 X180 N180 K180 ge_b176 sz_b176 V180 (own_cv4 (own_n4 hsv (own_thn en_fo hc132_167))) (own_ok4 (own_n4 hsv (own_thn en_fo hc132_167)) hc83_156 hc90_157 hc97_158 hc111_164 hc118_165 hc125_166 hc139_172 hc146_173 hc153_174 hc160_175)
    · by_cases hc69_181 : sv < (4 : Int32)
      · refine og (XS.icmpYes X44.here hx rfl (pc0 := 69) (pc' := 76) rfl (hb hby at_69) rfl (tlt hc69_181).1 (by decide) (by decide)) ?_
        refine sc X44 hx (hb hby at_76) ?_
        show own_Gl _ _ _ _ (T44.setTop (mkF m 77 #[vI p0, vI p1, vI p2, vI p3, vI p4, vI p5, vI sv, vI vv, vI kq, vI cA, vI cB, vI cC, vI cD, vI (if sv < (3 : Int32) then (0 : Int32) else (1 : Int32)), vU, vU, vU, vU, vU, vU, vU] [(.int (0 : Int32))]))
        simp only [if_pos hc69_181] at J46
        exact J46
      · refine og (XS.icmpNo X44.here hx rfl (hb hby at_69) rfl (flt hc69_181).1) ?_
        refine sc X44 hx (hb hby at_72) ?_
        refine og (XS.goto X44.here hx rfl (pc0 := 73) (pc' := 77) rfl (hb hby at_73) (by decide) (by decide)) ?_
        show own_Gl _ _ _ _ (T44.setTop (mkF m 77 #[vI p0, vI p1, vI p2, vI p3, vI p4, vI p5, vI sv, vI vv, vI kq, vI cA, vI cB, vI cC, vI cD, vI (if sv < (3 : Int32) then (0 : Int32) else (1 : Int32)), vU, vU, vU, vU, vU, vU, vU] [(.int (1 : Int32))]))
        simp only [if_neg hc69_181] at J46
        exact J46
  · by_cases hc56_182 : sv < (3 : Int32)
    · refine og (XS.icmpYes X44.here hx rfl (pc0 := 56) (pc' := 63) rfl (hb hby at_56) rfl (tlt hc56_182).1 (by decide) (by decide)) ?_
      refine sc X44 hx (hb hby at_63) ?_
      show own_Gl _ _ _ _ (T44.setTop (mkF m 64 #[vI p0, vI p1, vI p2, vI p3, vI p4, vI p5, vI sv, vI vv, vI kq, vI cA, vI cB, vI cC, vI cD, vU, vU, vU, vU, vU, vU, vU, vU] [(.int (0 : Int32))]))
      simp only [if_pos hc56_182] at J45
      exact J45
    · refine og (XS.icmpNo X44.here hx rfl (hb hby at_56) rfl (flt hc56_182).1) ?_
      refine sc X44 hx (hb hby at_59) ?_
      refine og (XS.goto X44.here hx rfl (pc0 := 60) (pc' := 64) rfl (hb hby at_60) (by decide) (by decide)) ?_
      show own_Gl _ _ _ _ (T44.setTop (mkF m 64 #[vI p0, vI p1, vI p2, vI p3, vI p4, vI p5, vI sv, vI vv, vI kq, vI cA, vI cB, vI cC, vI cD, vU, vU, vU, vU, vU, vU, vU, vU] [(.int (1 : Int32))]))
      simp only [if_neg hc56_182] at J45
      exact J45
theorem own_hasl {c : Cell} : ∀ (vs : List Value) (i : Nat), (∀ j, j < vs.length → c.slots[i + j]? = vs[j]?) → HasL c i vs
  | [], _, _ => trivial
  | v :: r, i, h => ⟨h 0 (Nat.zero_lt_succ _), own_hasl r (i + 1) fun j hj => by
      have q := h (j + 1) (Nat.succ_lt_succ hj)
      rw [Nat.add_right_comm, Nat.add_assoc]; simpa using q⟩
theorem own_arvF {Z : State} {a : Addr} {c : Cell} {ty : FieldType} {z : Int32} {dv : Value} (hf : Fit Z) (A : Arr Z Z.heap a c ty) (q : c.slots.size < 2 ^ 31) (e : c.slots.size.toInt32 = z) (hz : ¬ z < 0) : Arv Z Z.heap a c.cls ty z c.slots.toList dv := by
  refine Arv.start hf A q e hz ?_ (own_hasl _ 0 fun j hj => ?_)
  · rw [← e]; simp only [Int32.toNatClampNeg, len_toInt q]; simp
  · rw [Nat.zero_add]; simp
theorem own_intsB {Z : State} {h : Heap} {a : Addr} {c : Cell} {z : Int32} (A : Arv Z h a c.cls .byte z c.slots.toList (.int (0 : Int32))) (S : c.slots.size = z.toNatClampNeg) : own_ints c.slots.toList := fun j => by
  obtain ⟨c', -, -, S', -, -, G⟩ := A
  by_cases q : j < c.slots.size
  · obtain ⟨x, e⟩ := fit_I (G j (by rw [S', ← S]; exact q)) (by simp)
    exact ⟨x, e⟩
  · exact ⟨0, by simp [List.getD_eq_getElem?_getD, q]⟩
theorem own_lenv {Z : State} {args : Array Value} {t : Term} {a : Addr} {cl : Cell} {z : Int32} (ev : t.eval args Z none [] Z = some (.ref a)) (ha : Z.arrayAt? a = some cl) (h : (Term.length t).eval args Z none [] Z = some (.int z)) : cl.slots.size < 2 ^ 31 ∧ cl.slots.size.toInt32 = z := by
  by_cases q : cl.slots.size < 2 ^ 31
  · rw [len_f ev ha q] at h
    exact ⟨q, by injection (Option.some.inj h)⟩
  · exfalso
    simp only [Term.eval, ev, Option.bind_eq_bind, Option.bind_some, ha] at h
    simp [q] at h
theorem own_szv {n : Nat} {z : Int32} (q : n < 2 ^ 31) (e : n.toInt32 = z) : n = z.toNatClampNeg := by
  rw [← e]; simp only [Int32.toNatClampNeg, len_toInt q]; rfl
theorem own_nat {j : Nat} (h : j < 256) : ((Nat.toInt32 j).toNatClampNeg = j) ∧ ¬ (Nat.toInt32 j) < 0 ∧ (Nat.toInt32 j) - (128 : Int32) = Int32.ofInt ((j : Int) - 128) := by
  have e := len_toInt (n := j) (by omega)
  have z : (0 : Int32).toInt = 0 := rfl
  have z2 : (128 : Int32).toInt = 128 := rfl
  refine ⟨by simp only [Int32.toNatClampNeg, e]; rfl, by rw [Int32.lt_iff_toInt_lt, e]; omega, ?_⟩
  apply Int32.toInt_inj.1
  rw [Int32.toInt_sub, e, z2, Int32.toInt_ofInt]
set_option maxRecDepth 65536 in
set_option maxHeartbeats 40000000 in
theorem comes_1 {Post : Tables → Env → Array Value → State → Outcome → State → Prop} (hpost : ∀ tb e args s v u, (limb_1_1.after args s (.returned v) u = true ∧ limb_1_2.after args s (.returned v) u = true ∧ True) → FrameEnd s (.returned v) u (Jvm.fieldLocs frame_1_writes args s ++ Jvm.arrayLocs frame_1_arrays args s ++ Jvm.staticLocs frame_1_statics s) 72 768 → Post tb e args s (.returned v) u) :
    ArmFor flags0 classFile x code maxLocals ret World_1 tables_1 room_1 Calls_1 rest_1 Pre_1 Post := by
  intro l hfl _ _ p e ha hc hk s m args below hf hA hF happ hP
  obtain ⟨hcalls, hrest, hpre⟩ := hP
  obtain ⟨-, -, -, hnamed, -, -, -, hat⟩ := (Spec.applies_iff hf).mp happ
  obtain ⟨hg, hn⟩ := and_e (Cond.before_iff.mp (show (Jvm.Cond.and given_1 narrow_1).before args s = true from hpre))
  obtain ⟨g1, g2⟩ := and_e hg
  obtain ⟨g3, g4⟩ := and_e g2
  obtain ⟨g5, g6⟩ := and_e g4
  obtain ⟨g7, g8⟩ := and_e g6
  obtain ⟨g9, g10⟩ := and_e g8
  obtain ⟨g11, g12⟩ := and_e g10
  obtain ⟨w0, w1, w2, w3, w4, w5, rfl⟩ : ∃ w0 w1 w2 w3 w4 w5 : Value, args = #[w0, w1, w2, w3, w4, w5] := by
    have hs : args.size = 6 := by simpa [Cond.value, given_1] using g1
    obtain ⟨L⟩ := args
    match L, hs with
    | [w0, w1, w2, w3, w4, w5], _ => exact ⟨w0, w1, w2, w3, w4, w5, rfl⟩
  have hw := fun d (hd : d ∈ tables_1) => atoms_spec (ws := Jvm.Cond.code x code maxLocals ret :: tables_1) hat d (List.mem_cons_of_mem _ hd)
  have hfit : Fit s := fun {y c} hc i hi => by
    obtain ⟨ha, rfl⟩ := Array.getElem?_eq_some_iff.mp hc
    have q := List.all_eq_true.mp ((Array.all_eq_true_iff_forall_mem.mp hF) _ (Array.getElem_mem ha)) i (List.mem_range.mpr hi)
    simpa [Array.getElem?_eq_getElem hi] using q
  obtain ⟨hsets, hown0⟩ := atoms_of _ (rest_1_c_eq ▸ (show rest_1_c.before _ s = true from hrest))
  have hr0 := Cond.before_iff.mp hown0
  obtain ⟨i0, ei0⟩ := is_v g3
  obtain rfl : w0 = (.int i0) := Option.some.inj ei0
  obtain ⟨i1, ei1⟩ := is_v g5
  obtain rfl : w1 = (.int i1) := Option.some.inj ei1
  obtain ⟨i2, ei2⟩ := is_v g7
  obtain rfl : w2 = (.int i2) := Option.some.inj ei2
  obtain ⟨i3, ei3⟩ := is_v g9
  obtain rfl : w3 = (.int i3) := Option.some.inj ei3
  obtain ⟨i4, ei4⟩ := is_v g11
  obtain rfl : w4 = (.int i4) := Option.some.inj ei4
  obtain ⟨i5, ei5⟩ := is_v g12
  obtain rfl : w5 = (.int i5) := Option.some.inj ei5
  obtain ⟨hn1, hn2⟩ := and_e hn
  obtain ⟨hn2, -⟩ := and_e hn2
  obtain ⟨hd, evH⟩ := arr_v hn1
  obtain ⟨cH, aH⟩ := Arr.start evH hn1
  have sH := own_lenv evH (aH.fin (Vm.Alike.refl _)) (eqv_i (Term.int_eval (105)) hn2)
  have vH : Arv s s.heap hd cH.cls .byte (105 : Int32) cH.slots.toList (.int (0 : Int32)) := own_arvF hfit aH sH.1 sH.2 (by decide)
  have iH := own_intsB vH (own_szv sH.1 sH.2)
  have tH := Sta.start evH (Or.inr ⟨(wx hw 284), (wx hw 340)⟩)
  have tg := Sta.start (eqv_i (Term.int_eval (127)) (Cond.before_iff.mp (hsets _ (List.mem_of_getElem? (i := 12) rfl)))) (Or.inl (hsets _ (List.mem_of_getElem? (i := 10) rfl)))
  obtain ⟨ca, evC⟩ := arr_v (Cond.before_iff.mp (hsets _ (List.mem_of_getElem? (i := 13) rfl)))
  obtain ⟨cC, aC⟩ := Arr.start evC (Cond.before_iff.mp (hsets _ (List.mem_of_getElem? (i := 13) rfl)))
  have tC := Sta.start evC (Or.inr ⟨(wx hw 40), (hsets _ (List.mem_of_getElem? (i := 11) rfl))⟩)
  have sC := own_lenv evC (aC.fin (Vm.Alike.refl _)) (eqv_i (Term.int_eval (256)) (Cond.before_iff.mp (hsets _ (List.mem_of_getElem? (i := 15) rfl))))
  have vC : Arv s s.heap ca cC.cls (.object "java/lang/Integer") (256 : Int32) cC.slots.toList .null := own_arvF hfit aC sC.1 sC.2 (by decide)
  have B := Bxs.start (val := fun j => .int (j - 128)) (fun _ => evC) aC sC.1 sC.2 (by decide) (Cond.before_iff.mp (hsets _ (List.mem_of_getElem? (i := 16) rfl))) (fun X j hj hX => eqv_i (by simp [Term.eval, (back32 hj).1]) hX)
  have hall : ∀ j : Nat, j < 256 → ∃ w, cC.slots.toList.getD j .null = .ref w ∧ Exa s s.heap w "java/lang/Integer" ∧ Fld s s.heap w "java/lang/Integer" "value" "I" (.int (Int32.ofInt ((j : Int) - 128))) := fun j hj => by
    have hsz := own_szv sC.1 sC.2
    obtain ⟨w, h1, h2, h3⟩ := B.2.2.2 (Nat.toInt32 j) (by rw [(own_nat hj).1]; intro q; rcases q with q | q; exact (own_nat hj).2.1 q; have z : (256 : Int32).toNatClampNeg = 256 := rfl; omega)
    rw [(own_nat hj).1] at h1; dsimp only at h3; rw [(own_nat hj).2.2] at h3
    exact ⟨w, by simp [List.getD_eq_getElem?_getD, h1], h2, h3⟩
  obtain ⟨dc, evD⟩ := arr_v (Cond.before_iff.mp (hsets _ (List.mem_of_getElem? (i := 6) rfl)))
  obtain ⟨cD, aD⟩ := Arr.start evD (Cond.before_iff.mp (hsets _ (List.mem_of_getElem? (i := 6) rfl)))
  have tD := Sta.start evD (Or.inr ⟨(wx hw 8), (hsets _ (List.mem_of_getElem? (i := 2) rfl))⟩)
  have sD := own_lenv evD (aD.fin (Vm.Alike.refl _)) (eqv_i (Term.int_eval (0)) (Cond.before_iff.mp (hsets _ (List.mem_of_getElem? (i := 8) rfl))))
  have vD0 : Arv s s.heap dc cD.cls (.object "java/lang/Object") (0 : Int32) cD.slots.toList .null := own_arvF hfit aD sD.1 sD.2 (by decide)
  have eD : cD.slots.toList = [] := List.eq_nil_of_length_eq_zero (by rw [Array.length_toList, own_szv sD.1 sD.2]; rfl)
  rw [eD] at vD0
  obtain ⟨n, o, h1, h2, h3, _, L, rfl, ⟨N, hv⟩, hq⟩ := rm0 l s _ hw tables_1 i0 i1 i2 i3 i4 i5 hd cH.cls cH.slots.toList ca cC.cls cC.slots.toList dc cD.cls s.heap s.heap.size (Nat.le_refl _) (Old.start s) (Nat.le_refl _) tH vH iH tg tC vC tD vD0 hall p e ha hc hk s m _ below hf ((Spec.applies_iff_loose hf).mp happ).1 ⟨rfl, State.Warmed39.refl s, rfl⟩ trivial
  subst hv
  refine ⟨n, _, h1, h2, h3, hpost _ _ _ _ _ _ ⟨Cond.after_iff.mpr rfl, Cond.after_iff.mpr (eq_i res_at (Term.int_eval (1)) rfl), trivial⟩ ⟨hq.1, hq.2.1, (hq.2.2.sift fun y hy => Or.inr (N y hy)).mono (by decide) (by decide)⟩⟩
theorem main_1_1 : Claimed_1_1 := comes_1 fun _ _ _ _ _ _ h hF => ⟨h.1, hF⟩
theorem main_1_2 : Claimed_1_2 := comes_1 fun _ _ _ _ _ _ h hF => ⟨h.2.1, hF⟩
end Jvm.Pilot.@@N@@
namespace Jvm.Pilot.@@N@@
open Jvm Jvm.ClassFile Sem Op Lib Jvm.Free Jvm.Stand Jvm.Pilot.@@N@@.Jvm.D
/-! MADE BY PROGRAM (witnessworld.py) out of the Statement's table words and the real class files: 42 classes; the members and pool entries that the words name. The judged class is class 1, her method 3. -/
namespace start1
open Jvm.ClassFile
def u (s : String) : CpInfo := .utf8 (stringToUtf16 s)
/-- a pool by its gaps: so many unusable entries, then the entry; so many at the end -/
def gap : Nat → List CpInfo → List CpInfo
  | 0, r => r
  | n + 1, r => .unusable :: gap n r
def poolList (es : List (Nat × CpInfo)) (last : Nat) : List CpInfo := es.foldr (fun e r => gap e.1 (e.2 :: r)) (gap last [])
def pool (es : List (Nat × CpInfo)) (last : Nat) : Array CpInfo := ⟨poolList es last⟩
def fileOf (pool : Array CpInfo) (this : Nat) (attrs : Array Attribute := #[]) (ms : Array MethodInfo := #[]) (fl : Nat := 33) (sup : Nat := 0) (ifs : Array Nat := #[]) (fds : Array FieldInfo := #[]) : ClassFile where
  minorVersion := 0
  majorVersion := 65
  constantPool := pool
  accessFlags := fl
  thisClass := this
  superClass := sup
  interfaces := ifs
  fields := fds
  methods := ms
  attributes := attrs
def plain (name : String) (sup : Option ClassId) : Class where
  name := name
  kind := .ordinary
  loader := none
  accessFlags := 33
  super := sup
  interfaces := #[]
  cf := none
  fields := #[]
  methods := #[]
  instanceTypes := #[]
  staticTypes := #[]
  resolved := #[]
  callSites := []
  init := .initialized
  statics := none
  mirror := none

def pool0 : Array CpInfo := pool [(5, u "<init>"), (0, u "()V"), (1, .class_ 10), (1, u "java/lang/Object")] 113

def k0c0 : Code := { maxStack := 0, maxLocals := 1, code := object_method_1_code, exceptionTable := #[], attributes := #[] }
def k0m0 : Method := { name := "<init>", desc := "()V", sig := { parameters := [], returnType := none }, accessFlags := 1, code := some k0c0 }
/-- java/lang/Object -/
def k0 : Class := { plain "java/lang/Object" none with
  accessFlags := 33
  interfaces := #[]
  cf := some (fileOf pool0 8 #[] #[{ accessFlags := 1, nameIndex := 5, descriptorIndex := 6, attributes := #[] }] 33 0 #[] #[])
  fields := #[]
  methods := #[k0m0]
  instanceTypes := #[]
  staticTypes := #[]
  resolved := Array.replicate 124 none
  statics := none }

def pool1 : Array CpInfo := pool [(2, .class_ 4), (0, .nameAndType 5 6), (0, u "java/lang/Object"), (0, u "<init>"), (0, u "()V"), (0, .integer 2147483647), (0, .methodref 9 10), (0, .class_ 11), (0, .nameAndType 12 13), (0, u "com/example/sixfold/sixfold/rows/TableWaitingPinLaw"), (0, u "card"), (0, u "(I)I"), (0, .class_ 15), (0, u "java/util/ArrayList"), (0, .methodref 14 3), (0, .methodref 9 18), (0, .nameAndType 19 20), (0, u "startAt"), (0, u "(III)I"), (0, .methodref 22 23), (0, .class_ 24), (0, .nameAndType 25 26), (0, u "java/lang/Integer"), (0, u "valueOf"), (0, u "(I)Ljava/lang/Integer;"), (0, .methodref 14 28), (0, .nameAndType 29 30), (0, u "add"), (0, u "(Ljava/lang/Object;)Z"), (0, .class_ 32), (0, u "com/example/sixfold/sixfold/rows/Table"), (0, .methodref 31 34), (0, .nameAndType 5 35), (0, u "(I)V"), (0, .methodref 31 37), (0, .nameAndType 38 39), (0, u "waiting"), (0, u "()I"), (0, .methodref 31 41), (0, .nameAndType 42 43), (0, u "deal"), (0, u "(Ljava/util/List;)V"), (0, .methodref 31 45), (0, .nameAndType 46 47), (0, u "reveal"), (0, u "([I)V"), (0, .methodref 31 49), (0, .nameAndType 50 35), (0, u "take"), (3, u "law"), (0, u "(IIIIII)Z")] 4

def k1m0 : Method := { name := "<init>", desc := "()V", sig := { parameters := [], returnType := none }, accessFlags := 1, code := none }
def k1c1 : Code := { maxStack := 3, maxLocals := 2, code := method_2_code, exceptionTable := #[], attributes := #[] }
def k1m1 : Method := { name := "card", desc := "(I)I", sig := { parameters := [.int], returnType := some .int }, accessFlags := 10, code := some k1c1 }
def k1c2 : Code := { maxStack := 2, maxLocals := 3, code := method_3_code, exceptionTable := #[], attributes := #[] }
def k1m2 : Method := { name := "startAt", desc := "(III)I", sig := { parameters := [.int, .int, .int], returnType := some .int }, accessFlags := 10, code := some k1c2 }
def k1c3 : Code := { maxStack := 4, maxLocals := 21, code := code, exceptionTable := #[], attributes := #[] }
def k1m3 : Method := { name := "law", desc := "(IIIIII)Z", sig := { parameters := [.int, .int, .int, .int, .int, .int], returnType := some .boolean }, accessFlags := 9, code := some k1c3 }
/-- com/example/sixfold/sixfold/rows/TableWaitingPinLaw -/
def k1 : Class := { plain "com/example/sixfold/sixfold/rows/TableWaitingPinLaw" (some 0) with
  accessFlags := 49
  interfaces := #[]
  cf := some (fileOf pool1 9 #[] #[{ accessFlags := 1, nameIndex := 5, descriptorIndex := 6, attributes := #[] }, { accessFlags := 10, nameIndex := 12, descriptorIndex := 13, attributes := #[] }, { accessFlags := 10, nameIndex := 19, descriptorIndex := 20, attributes := #[] }, { accessFlags := 9, nameIndex := 54, descriptorIndex := 55, attributes := #[] }] 49 2 #[] #[])
  fields := #[]
  methods := #[k1m0, k1m1, k1m2, k1m3]
  instanceTypes := #[]
  staticTypes := #[]
  resolved := Array.replicate 60 none
  statics := none }

def pool2 : Array CpInfo := pool [(8, .class_ 10), (1, u "java/lang/Iterable"), (24, .class_ 36), (0, u "java/lang/Object")] 25

/-- java/lang/Iterable -/
def k2 : Class := { plain "java/lang/Iterable" (some 0) with
  accessFlags := 1537
  interfaces := #[]
  cf := some (fileOf pool2 8 #[] #[] 1537 35 #[] #[])
  fields := #[]
  methods := #[]
  instanceTypes := #[]
  staticTypes := #[]
  resolved := Array.replicate 62 none
  statics := none }

def pool3 : Array CpInfo := pool [(10, .class_ 12), (1, u "java/util/Collection"), (47, .class_ 61), (0, u "java/lang/Object"), (0, .class_ 63), (0, u "java/lang/Iterable")] 51

/-- java/util/Collection -/
def k3 : Class := { plain "java/util/Collection" (some 0) with
  accessFlags := 1537
  interfaces := #[2]
  cf := some (fileOf pool3 10 #[] #[] 1537 60 #[62] #[])
  fields := #[]
  methods := #[]
  instanceTypes := #[]
  staticTypes := #[]
  resolved := Array.replicate 115 none
  statics := none }

def pool4 : Array CpInfo := pool [(1, .methodref 2 3), (0, .class_ 4), (0, .nameAndType 5 6), (0, u "java/lang/Object"), (0, u "<init>"), (0, u "()V"), (1, .class_ 10), (1, u "java/util/AbstractCollection"), (66, .class_ 78), (0, u "java/util/Collection")] 81

def k4c0 : Code := { maxStack := 1, maxLocals := 1, code := jdk_22_method_1_code, exceptionTable := #[], attributes := #[] }
def k4m0 : Method := { name := "<init>", desc := "()V", sig := { parameters := [], returnType := none }, accessFlags := 4, code := some k4c0 }
/-- java/util/AbstractCollection -/
def k4 : Class := { plain "java/util/AbstractCollection" (some 0) with
  accessFlags := 1057
  interfaces := #[3]
  cf := some (fileOf pool4 8 #[] #[{ accessFlags := 4, nameIndex := 5, descriptorIndex := 6, attributes := #[] }] 1057 2 #[77] #[])
  fields := #[]
  methods := #[k4m0]
  instanceTypes := #[]
  staticTypes := #[]
  resolved := Array.replicate 160 none
  statics := none }

def pool5 : Array CpInfo := pool [(8, .class_ 10), (1, u "java/util/SequencedCollection"), (15, .class_ 27), (0, u "java/lang/Object"), (0, .class_ 29), (0, u "java/util/Collection")] 27

/-- java/util/SequencedCollection -/
def k5 : Class := { plain "java/util/SequencedCollection" (some 0) with
  accessFlags := 1537
  interfaces := #[3]
  cf := some (fileOf pool5 8 #[] #[] 1537 26 #[28] #[])
  fields := #[]
  methods := #[]
  instanceTypes := #[]
  staticTypes := #[]
  resolved := Array.replicate 57 none
  statics := none }

def pool6 : Array CpInfo := pool [(8, .class_ 10), (1, u "java/util/List"), (64, u "get"), (0, u "(I)Ljava/lang/Object;"), (2, u "size"), (0, u "()I"), (7, u "of"), (2, .class_ 93), (1, u "java/util/ImmutableCollections"), (9, .class_ 104), (0, u "java/lang/Object"), (3, u "([Ljava/lang/Object;)Ljava/util/List;"), (0, .methodref 91 110), (0, .nameAndType 111 108), (0, u "listFromArray"), (8, .class_ 121), (0, u "java/util/SequencedCollection"), (1, u "iterator"), (0, u "()Ljava/util/Iterator;")] 126

def k6m0 : Method := { name := "size", desc := "()I", sig := { parameters := [], returnType := some .int }, accessFlags := 1025, code := none }
def k6m1 : Method := { name := "iterator", desc := "()Ljava/util/Iterator;", sig := { parameters := [], returnType := some (.object "java/util/Iterator") }, accessFlags := 1025, code := none }
def k6m2 : Method := { name := "get", desc := "(I)Ljava/lang/Object;", sig := { parameters := [.int], returnType := some (.object "java/lang/Object") }, accessFlags := 1025, code := none }
def k6c3 : Code := { maxStack := 5, maxLocals := 2, code := jdk_40_method_47_code, exceptionTable := #[], attributes := #[] }
def k6m3 : Method := { name := "of", desc := "([Ljava/lang/Object;)Ljava/util/List;", sig := { parameters := [(.array (.object "java/lang/Object"))], returnType := some (.object "java/util/List") }, accessFlags := 137, code := some k6c3 }
/-- java/util/List -/
def k6 : Class := { plain "java/util/List" (some 0) with
  accessFlags := 1537
  interfaces := #[5]
  cf := some (fileOf pool6 8 #[] #[{ accessFlags := 1025, nameIndex := 79, descriptorIndex := 80, attributes := #[] }, { accessFlags := 1025, nameIndex := 123, descriptorIndex := 124, attributes := #[] }, { accessFlags := 1025, nameIndex := 75, descriptorIndex := 76, attributes := #[] }, { accessFlags := 137, nameIndex := 88, descriptorIndex := 108, attributes := #[] }] 1537 103 #[120] #[])
  fields := #[]
  methods := #[k6m0, k6m1, k6m2, k6m3]
  instanceTypes := #[]
  staticTypes := #[]
  resolved := Array.replicate 251 none
  statics := none }

def pool7 : Array CpInfo := pool [(1, .methodref 2 3), (0, .class_ 4), (0, .nameAndType 5 6), (0, u "java/util/AbstractCollection"), (0, u "<init>"), (0, u "()V"), (0, .fieldref 8 9), (0, .class_ 10), (0, .nameAndType 11 12), (0, u "java/util/AbstractList"), (0, u "modCount"), (0, u "I"), (64, .class_ 78), (0, u "java/util/AbstractList$Itr"), (3, .class_ 83), (0, u "java/util/AbstractList$ListItr"), (9, .class_ 94), (0, u "java/util/AbstractList$RandomAccessSubList"), (3, .class_ 99), (0, u "java/util/AbstractList$SubList"), (33, .class_ 134), (0, u "java/util/List"), (73, .class_ 209), (0, u "java/util/AbstractList$SubList$1"), (0, .class_ 211), (0, u "java/util/AbstractList$RandomAccessSpliterator")] 6

def k7c0 : Code := { maxStack := 2, maxLocals := 1, code := jdk_39_method_1_code, exceptionTable := #[], attributes := #[] }
def k7m0 : Method := { name := "<init>", desc := "()V", sig := { parameters := [], returnType := none }, accessFlags := 4, code := some k7c0 }
/-- java/util/AbstractList -/
def k7 : Class := { plain "java/util/AbstractList" (some 4) with
  accessFlags := 1057
  interfaces := #[6]
  cf := some (fileOf pool7 8 #[.nestMembers #[93, 98, 208, 210, 82, 77]] #[{ accessFlags := 4, nameIndex := 5, descriptorIndex := 6, attributes := #[] }] 1057 2 #[133] #[{ accessFlags := 132, nameIndex := 11, descriptorIndex := 12, attributes := #[] }])
  fields := #[{ name := "modCount", type := .int, accessFlags := 132, slot := 0, constantValue := 0 }]
  methods := #[k7m0]
  instanceTypes := #[.int]
  staticTypes := #[]
  resolved := Array.replicate 218 none
  statics := none }

def pool8 : Array CpInfo := pool [(1, .class_ 2), (0, u "java/util/RandomAccess"), (0, .class_ 4), (0, u "java/lang/Object")] 2

/-- java/util/RandomAccess -/
def k8 : Class := { plain "java/util/RandomAccess" (some 0) with
  accessFlags := 1537
  interfaces := #[]
  cf := some (fileOf pool8 1 #[] #[] 1537 3 #[] #[])
  fields := #[]
  methods := #[]
  instanceTypes := #[]
  staticTypes := #[]
  resolved := Array.replicate 7 none
  statics := none }

def pool9 : Array CpInfo := pool [(1, .class_ 2), (0, u "java/lang/Cloneable"), (0, .class_ 4), (0, u "java/lang/Object")] 2

/-- java/lang/Cloneable -/
def k9 : Class := { plain "java/lang/Cloneable" (some 0) with
  accessFlags := 1537
  interfaces := #[]
  cf := some (fileOf pool9 1 #[] #[] 1537 3 #[] #[])
  fields := #[]
  methods := #[]
  instanceTypes := #[]
  staticTypes := #[]
  resolved := Array.replicate 7 none
  statics := none }

def pool10 : Array CpInfo := pool [(1, .class_ 2), (0, u "java/io/Serializable"), (0, .class_ 4), (0, u "java/lang/Object")] 2

/-- java/io/Serializable -/
def k10 : Class := { plain "java/io/Serializable" (some 0) with
  accessFlags := 1537
  interfaces := #[]
  cf := some (fileOf pool10 1 #[] #[] 1537 3 #[] #[])
  fields := #[]
  methods := #[]
  instanceTypes := #[]
  staticTypes := #[]
  resolved := Array.replicate 7 none
  statics := none }

def pool11 : Array CpInfo := pool [(1, .methodref 2 3), (0, .class_ 4), (0, .nameAndType 5 6), (0, u "java/util/AbstractList"), (0, u "<init>"), (0, u "()V"), (0, .class_ 8), (0, u "java/lang/Object"), (0, .fieldref 10 11), (0, .class_ 12), (0, .nameAndType 13 14), (0, u "java/util/ArrayList"), (0, u "elementData"), (0, u "[Ljava/lang/Object;"), (2, u "EMPTY_ELEMENTDATA"), (21, .fieldref 10 40), (0, .nameAndType 41 14), (0, u "DEFAULTCAPACITY_EMPTY_ELEMENTDATA"), (5, u "()[Ljava/lang/Object;"), (0, .fieldref 10 49), (0, .nameAndType 50 51), (0, u "size"), (0, u "I"), (11, .fieldref 10 64), (0, .nameAndType 65 51), (0, u "modCount"), (3, .methodref 10 70), (0, .nameAndType 71 72), (0, u "grow"), (0, u "(I)[Ljava/lang/Object;"), (6, .methodref 80 81), (0, .class_ 82), (0, .nameAndType 83 84), (0, u "java/lang/Math"), (0, u "max"), (0, u "(II)I"), (11, u "(Ljava/lang/Object;)Z"), (21, .methodref 119 120), (0, .class_ 121), (0, .nameAndType 122 84), (0, u "java/util/Objects"), (0, u "checkIndex"), (0, .methodref 10 124), (0, .nameAndType 13 125), (0, u "(I)Ljava/lang/Object;"), (3, .methodref 10 130), (0, .nameAndType 71 47), (0, .methodref 10 132), (0, .nameAndType 133 134), (0, u "add"), (0, u "(Ljava/lang/Object;[Ljava/lang/Object;I)V"), (13, .class_ 149), (0, u "java/util/List"), (16, u "iterator"), (0, u "()Ljava/util/Iterator;"), (18, u "()I"), (75, .class_ 263), (0, u "java/util/ArrayList$ListItr"), (3, .class_ 268), (0, u "java/util/ArrayList$Itr"), (0, .methodref 267 270), (0, .nameAndType 5 271), (0, u "(Ljava/util/ArrayList;)V"), (4, .class_ 277), (0, u "java/util/ArrayList$SubList"), (12, .class_ 291), (0, u "java/util/ArrayList$ArrayListSpliterator"), (37, .class_ 330), (0, u "java/util/RandomAccess"), (0, .class_ 332), (0, u "java/lang/Cloneable"), (0, .class_ 334), (0, u "java/io/Serializable"), (0, u "serialVersionUID"), (0, u "J"), (3, u "DEFAULT_CAPACITY"), (40, u "get"), (118, .class_ 501), (0, u "java/util/ArrayList$SubList$2"), (0, .class_ 503), (0, u "java/util/ArrayList$SubList$1")] 5

def k11c0 : Code := { maxStack := 2, maxLocals := 1, code := jdk_38_method_2_code, exceptionTable := #[], attributes := #[] }
def k11m0 : Method := { name := "<init>", desc := "()V", sig := { parameters := [], returnType := none }, accessFlags := 1, code := some k11c0 }
def k11c1 : Code := { maxStack := 4, maxLocals := 4, code := jdk_38_method_6_code, exceptionTable := #[], attributes := #[] }
def k11m1 : Method := { name := "grow", desc := "(I)[Ljava/lang/Object;", sig := { parameters := [.int], returnType := some (.array (.object "java/lang/Object")) }, accessFlags := 2, code := some k11c1 }
def k11c2 : Code := { maxStack := 3, maxLocals := 1, code := jdk_38_method_7_code, exceptionTable := #[], attributes := #[] }
def k11m2 : Method := { name := "grow", desc := "()[Ljava/lang/Object;", sig := { parameters := [], returnType := some (.array (.object "java/lang/Object")) }, accessFlags := 2, code := some k11c2 }
def k11c3 : Code := { maxStack := 1, maxLocals := 1, code := jdk_38_method_8_code, exceptionTable := #[], attributes := #[] }
def k11m3 : Method := { name := "size", desc := "()I", sig := { parameters := [], returnType := some .int }, accessFlags := 1, code := some k11c3 }
def k11c4 : Code := { maxStack := 2, maxLocals := 2, code := jdk_38_method_18_code, exceptionTable := #[], attributes := #[] }
def k11m4 : Method := { name := "elementData", desc := "(I)Ljava/lang/Object;", sig := { parameters := [.int], returnType := some (.object "java/lang/Object") }, accessFlags := 0, code := some k11c4 }
def k11c5 : Code := { maxStack := 2, maxLocals := 2, code := jdk_38_method_20_code, exceptionTable := #[], attributes := #[] }
def k11m5 : Method := { name := "get", desc := "(I)Ljava/lang/Object;", sig := { parameters := [.int], returnType := some (.object "java/lang/Object") }, accessFlags := 1, code := some k11c5 }
def k11c6 : Code := { maxStack := 3, maxLocals := 4, code := jdk_38_method_24_code, exceptionTable := #[], attributes := #[] }
def k11m6 : Method := { name := "add", desc := "(Ljava/lang/Object;[Ljava/lang/Object;I)V", sig := { parameters := [(.object "java/lang/Object"), (.array (.object "java/lang/Object")), .int], returnType := none }, accessFlags := 2, code := some k11c6 }
def k11c7 : Code := { maxStack := 4, maxLocals := 2, code := jdk_38_method_25_code, exceptionTable := #[], attributes := #[] }
def k11m7 : Method := { name := "add", desc := "(Ljava/lang/Object;)Z", sig := { parameters := [(.object "java/lang/Object")], returnType := some .boolean }, accessFlags := 1, code := some k11c7 }
def k11c8 : Code := { maxStack := 3, maxLocals := 1, code := jdk_38_method_55_code, exceptionTable := #[], attributes := #[] }
def k11m8 : Method := { name := "iterator", desc := "()Ljava/util/Iterator;", sig := { parameters := [], returnType := some (.object "java/util/Iterator") }, accessFlags := 1, code := some k11c8 }
/-- java/util/ArrayList -/
def k11 : Class := { plain "java/util/ArrayList" (some 7) with
  accessFlags := 33
  interfaces := #[6, 8, 9, 10]
  cf := some (fileOf pool11 10 #[.nestMembers #[290, 276, 500, 502, 262, 267]] #[{ accessFlags := 1, nameIndex := 5, descriptorIndex := 6, attributes := #[] }, { accessFlags := 2, nameIndex := 71, descriptorIndex := 72, attributes := #[] }, { accessFlags := 2, nameIndex := 71, descriptorIndex := 47, attributes := #[] }, { accessFlags := 1, nameIndex := 50, descriptorIndex := 186, attributes := #[] }, { accessFlags := 0, nameIndex := 13, descriptorIndex := 125, attributes := #[] }, { accessFlags := 1, nameIndex := 381, descriptorIndex := 125, attributes := #[] }, { accessFlags := 2, nameIndex := 133, descriptorIndex := 134, attributes := #[] }, { accessFlags := 1, nameIndex := 133, descriptorIndex := 96, attributes := #[] }, { accessFlags := 1, nameIndex := 166, descriptorIndex := 167, attributes := #[] }] 33 2 #[148, 329, 331, 333] #[{ accessFlags := 26, nameIndex := 335, descriptorIndex := 336, attributes := #[] }, { accessFlags := 26, nameIndex := 340, descriptorIndex := 51, attributes := #[] }, { accessFlags := 26, nameIndex := 17, descriptorIndex := 14, attributes := #[] }, { accessFlags := 26, nameIndex := 41, descriptorIndex := 14, attributes := #[] }, { accessFlags := 128, nameIndex := 13, descriptorIndex := 14, attributes := #[] }, { accessFlags := 2, nameIndex := 50, descriptorIndex := 51, attributes := #[] }])
  fields := #[{ name := "serialVersionUID", type := .long, accessFlags := 26, slot := 0, constantValue := 0 }, { name := "DEFAULT_CAPACITY", type := .int, accessFlags := 26, slot := 1, constantValue := 0 }, { name := "EMPTY_ELEMENTDATA", type := (.array (.object "java/lang/Object")), accessFlags := 26, slot := 2, constantValue := 0 }, { name := "DEFAULTCAPACITY_EMPTY_ELEMENTDATA", type := (.array (.object "java/lang/Object")), accessFlags := 26, slot := 3, constantValue := 0 }, { name := "elementData", type := (.array (.object "java/lang/Object")), accessFlags := 128, slot := 1, constantValue := 0 }, { name := "size", type := .int, accessFlags := 2, slot := 2, constantValue := 0 }]
  methods := #[k11m0, k11m1, k11m2, k11m3, k11m4, k11m5, k11m6, k11m7, k11m8]
  instanceTypes := #[.int, (.array (.object "java/lang/Object")), .int]
  staticTypes := #[.long, .int, (.array (.object "java/lang/Object")), (.array (.object "java/lang/Object"))]
  resolved := Array.replicate 509 none
  statics := some 0 }

def pool12 : Array CpInfo := pool [(2, .class_ 4), (1, u "java/lang/Object"), (0, u "<init>"), (0, u "()V"), (1, .class_ 10), (1, u "java/lang/Number"), (2, .class_ 14), (0, u "java/io/Serializable"), (0, u "serialVersionUID"), (0, u "J")] 20

def k12m0 : Method := { name := "<init>", desc := "()V", sig := { parameters := [], returnType := none }, accessFlags := 1, code := none }
/-- java/lang/Number -/
def k12 : Class := { plain "java/lang/Number" (some 0) with
  accessFlags := 1057
  interfaces := #[10]
  cf := some (fileOf pool12 8 #[] #[{ accessFlags := 1, nameIndex := 5, descriptorIndex := 6, attributes := #[] }] 1057 2 #[13] #[{ accessFlags := 26, nameIndex := 15, descriptorIndex := 16, attributes := #[] }])
  fields := #[{ name := "serialVersionUID", type := .long, accessFlags := 26, slot := 0, constantValue := 0 }]
  methods := #[k12m0]
  instanceTypes := #[]
  staticTypes := #[.long]
  resolved := Array.replicate 37 none
  statics := none }

def pool13 : Array CpInfo := pool [(1, .class_ 2), (0, u "java/lang/Comparable"), (0, .class_ 4), (0, u "java/lang/Object")] 7

/-- java/lang/Comparable -/
def k13 : Class := { plain "java/lang/Comparable" (some 0) with
  accessFlags := 1537
  interfaces := #[]
  cf := some (fileOf pool13 1 #[] #[] 1537 3 #[] #[])
  fields := #[]
  methods := #[]
  instanceTypes := #[]
  staticTypes := #[]
  resolved := Array.replicate 12 none
  statics := none }

def pool14 : Array CpInfo := pool [(1, .class_ 2), (0, u "java/lang/constant/Constable"), (0, .class_ 4), (0, u "java/lang/Object")] 6

/-- java/lang/constant/Constable -/
def k14 : Class := { plain "java/lang/constant/Constable" (some 0) with
  accessFlags := 1537
  interfaces := #[]
  cf := some (fileOf pool14 1 #[] #[] 1537 3 #[] #[])
  fields := #[]
  methods := #[]
  instanceTypes := #[]
  staticTypes := #[]
  resolved := Array.replicate 11 none
  statics := none }

def pool15 : Array CpInfo := pool [(1, .class_ 2), (0, u "java/lang/constant/ConstantDesc"), (0, .class_ 4), (0, u "java/lang/Object")] 32

/-- java/lang/constant/ConstantDesc -/
def k15 : Class := { plain "java/lang/constant/ConstantDesc" (some 0) with
  accessFlags := 1537
  interfaces := #[]
  cf := some (fileOf pool15 1 #[] #[] 1537 3 #[] #[])
  fields := #[]
  methods := #[]
  instanceTypes := #[]
  staticTypes := #[]
  resolved := Array.replicate 37 none
  statics := none }

def pool16 : Array CpInfo := pool [(1, .class_ 2), (0, u "java/lang/Integer"), (16, u "digits"), (0, u "[C"), (32, u "numberOfLeadingZeros"), (0, u "(I)I"), (30, u "DigitOnes"), (0, u "[B"), (2, u "DigitTens"), (31, u "()I"), (65, u "valueOf"), (0, u "(I)Ljava/lang/Integer;"), (0, .class_ 190), (0, u "java/lang/Integer$IntegerCache"), (0, .fieldref 189 192), (0, .nameAndType 193 194), (0, u "high"), (0, u "I"), (0, .fieldref 189 196), (0, .nameAndType 197 198), (0, u "cache"), (0, u "[Ljava/lang/Integer;"), (4, .class_ 204), (0, u "java/lang/Number"), (0, .fieldref 1 206), (0, .nameAndType 207 194), (0, u "value"), (5, u "intValue"), (50, .integer 65536), (37, u "TYPE"), (0, u "Ljava/lang/Class;"), (0, .class_ 305), (0, u "java/lang/Comparable"), (0, .class_ 307), (0, u "java/lang/constant/Constable"), (0, .class_ 309), (0, u "java/lang/constant/ConstantDesc"), (0, u "MIN_VALUE"), (1, u "MAX_VALUE"), (3, u "SIZE"), (1, u "BYTES"), (1, u "serialVersionUID"), (0, u "J"), (84, u "numberOfTrailingZeros")] 46

def k16c0 : Code := { maxStack := 3, maxLocals := 1, code := jdk_33_method_22_code, exceptionTable := #[], attributes := #[] }
def k16m0 : Method := { name := "valueOf", desc := "(I)Ljava/lang/Integer;", sig := { parameters := [.int], returnType := some (.object "java/lang/Integer") }, accessFlags := 9, code := some k16c0 }
def k16c1 : Code := { maxStack := 1, maxLocals := 1, code := jdk_33_method_27_code, exceptionTable := #[], attributes := #[] }
def k16m1 : Method := { name := "intValue", desc := "()I", sig := { parameters := [], returnType := some .int }, accessFlags := 1, code := some k16c1 }
def k16c2 : Code := { maxStack := 3, maxLocals := 2, code := jdk_33_method_47_code, exceptionTable := #[], attributes := #[] }
def k16m2 : Method := { name := "numberOfLeadingZeros", desc := "(I)I", sig := { parameters := [.int], returnType := some .int }, accessFlags := 9, code := some k16c2 }
def k16c3 : Code := { maxStack := 3, maxLocals := 2, code := jdk_33_method_48_code, exceptionTable := #[], attributes := #[] }
def k16m3 : Method := { name := "numberOfTrailingZeros", desc := "(I)I", sig := { parameters := [.int], returnType := some .int }, accessFlags := 9, code := some k16c3 }
/-- java/lang/Integer -/
def k16 : Class := { plain "java/lang/Integer" (some 12) with
  accessFlags := 49
  interfaces := #[13, 14, 15]
  cf := some (fileOf pool16 1 #[.nestMembers #[189]] #[{ accessFlags := 9, nameIndex := 187, descriptorIndex := 188, attributes := #[] }, { accessFlags := 1, nameIndex := 213, descriptorIndex := 121, attributes := #[] }, { accessFlags := 9, nameIndex := 53, descriptorIndex := 54, attributes := #[] }, { accessFlags := 9, nameIndex := 406, descriptorIndex := 54, attributes := #[] }] 49 203 #[304, 306, 308] #[{ accessFlags := 25, nameIndex := 310, descriptorIndex := 194, attributes := #[] }, { accessFlags := 25, nameIndex := 312, descriptorIndex := 194, attributes := #[] }, { accessFlags := 25, nameIndex := 302, descriptorIndex := 303, attributes := #[] }, { accessFlags := 24, nameIndex := 19, descriptorIndex := 20, attributes := #[] }, { accessFlags := 24, nameIndex := 89, descriptorIndex := 86, attributes := #[] }, { accessFlags := 24, nameIndex := 85, descriptorIndex := 86, attributes := #[] }, { accessFlags := 18, nameIndex := 207, descriptorIndex := 194, attributes := #[] }, { accessFlags := 25, nameIndex := 316, descriptorIndex := 194, attributes := #[] }, { accessFlags := 25, nameIndex := 318, descriptorIndex := 194, attributes := #[] }, { accessFlags := 26, nameIndex := 320, descriptorIndex := 321, attributes := #[] }])
  fields := #[{ name := "MIN_VALUE", type := .int, accessFlags := 25, slot := 0, constantValue := 0 }, { name := "MAX_VALUE", type := .int, accessFlags := 25, slot := 1, constantValue := 0 }, { name := "TYPE", type := (.object "java/lang/Class"), accessFlags := 25, slot := 2, constantValue := 0 }, { name := "digits", type := (.array .char), accessFlags := 24, slot := 3, constantValue := 0 }, { name := "DigitTens", type := (.array .byte), accessFlags := 24, slot := 4, constantValue := 0 }, { name := "DigitOnes", type := (.array .byte), accessFlags := 24, slot := 5, constantValue := 0 }, { name := "value", type := .int, accessFlags := 18, slot := 0, constantValue := 0 }, { name := "SIZE", type := .int, accessFlags := 25, slot := 6, constantValue := 0 }, { name := "BYTES", type := .int, accessFlags := 25, slot := 7, constantValue := 0 }, { name := "serialVersionUID", type := .long, accessFlags := 26, slot := 8, constantValue := 0 }]
  methods := #[k16m0, k16m1, k16m2, k16m3]
  instanceTypes := #[.int]
  staticTypes := #[.int, .int, (.object "java/lang/Class"), (.array .char), (.array .byte), (.array .byte), .int, .int, .long]
  resolved := Array.replicate 453 none
  statics := none }

def pool17 : Array CpInfo := pool [(2, .class_ 4), (1, u "java/lang/Object"), (0, u "<init>"), (0, u "()V"), (0, .class_ 8), (0, u "java/lang/Integer"), (7, .class_ 18), (1, u "java/lang/Integer$IntegerCache"), (0, u "$assertionsDisabled"), (0, u "Z"), (26, u "high"), (0, u "I"), (8, u "archivedCache"), (0, u "[Ljava/lang/Integer;"), (12, u "cache"), (0, u "low")] 27

def k17m0 : Method := { name := "<init>", desc := "()V", sig := { parameters := [], returnType := none }, accessFlags := 2, code := none }
/-- java/lang/Integer$IntegerCache -/
def k17 : Class := { plain "java/lang/Integer$IntegerCache" (some 0) with
  accessFlags := 48
  interfaces := #[]
  cf := some (fileOf pool17 16 #[.nestHost 7] #[{ accessFlags := 2, nameIndex := 5, descriptorIndex := 6, attributes := #[] }] 48 2 #[] #[{ accessFlags := 24, nameIndex := 72, descriptorIndex := 48, attributes := #[] }, { accessFlags := 24, nameIndex := 47, descriptorIndex := 48, attributes := #[] }, { accessFlags := 24, nameIndex := 71, descriptorIndex := 58, attributes := #[] }, { accessFlags := 8, nameIndex := 57, descriptorIndex := 58, attributes := #[] }, { accessFlags := 4120, nameIndex := 19, descriptorIndex := 20, attributes := #[] }])
  fields := #[{ name := "low", type := .int, accessFlags := 24, slot := 0, constantValue := 0 }, { name := "high", type := .int, accessFlags := 24, slot := 1, constantValue := 0 }, { name := "cache", type := (.array (.object "java/lang/Integer")), accessFlags := 24, slot := 2, constantValue := 0 }, { name := "archivedCache", type := (.array (.object "java/lang/Integer")), accessFlags := 8, slot := 3, constantValue := 0 }, { name := "$assertionsDisabled", type := .boolean, accessFlags := 4120, slot := 4, constantValue := 0 }]
  methods := #[k17m0]
  instanceTypes := #[]
  staticTypes := #[.int, .int, (.array (.object "java/lang/Integer")), (.array (.object "java/lang/Integer")), .boolean]
  resolved := Array.replicate 100 none
  statics := some 1 }

def pool18 : Array CpInfo := pool [(1, .class_ 2), (0, u "java/lang/Math"), (1, .class_ 6), (1, u "java/lang/Object"), (0, u "<init>"), (0, u "()V"), (89, .class_ 100), (1, u "java/lang/Math$RandomNumberGeneratorHolder"), (71, u "negativeZeroFloatBits"), (0, u "J"), (2, u "negativeZeroDoubleBits"), (21, u "max"), (46, u "$assertionsDisabled"), (0, u "Z"), (88, u "(II)I"), (2, u "twoToTheDoubleScaleDown"), (0, u "D"), (4, u "twoToTheDoubleScaleUp"), (9, u "E"), (3, u "PI"), (2, u "TAU"), (2, u "DEGREES_TO_RADIANS"), (0, u "RADIANS_TO_DEGREES")] 94

def k18m0 : Method := { name := "<init>", desc := "()V", sig := { parameters := [], returnType := none }, accessFlags := 2, code := none }
def k18c1 : Code := { maxStack := 2, maxLocals := 2, code := jdk_29_method_65_code, exceptionTable := #[], attributes := #[] }
def k18m1 : Method := { name := "max", desc := "(II)I", sig := { parameters := [.int, .int], returnType := some .int }, accessFlags := 9, code := some k18c1 }
/-- java/lang/Math -/
def k18 : Class := { plain "java/lang/Math" (some 0) with
  accessFlags := 49
  interfaces := #[]
  cf := some (fileOf pool18 1 #[.nestMembers #[98]] #[{ accessFlags := 2, nameIndex := 7, descriptorIndex := 8, attributes := #[] }, { accessFlags := 9, nameIndex := 198, descriptorIndex := 335, attributes := #[] }] 49 4 #[] #[{ accessFlags := 25, nameIndex := 354, descriptorIndex := 339, attributes := #[] }, { accessFlags := 25, nameIndex := 358, descriptorIndex := 339, attributes := #[] }, { accessFlags := 25, nameIndex := 361, descriptorIndex := 339, attributes := #[] }, { accessFlags := 26, nameIndex := 364, descriptorIndex := 339, attributes := #[] }, { accessFlags := 26, nameIndex := 365, descriptorIndex := 339, attributes := #[] }, { accessFlags := 26, nameIndex := 172, descriptorIndex := 173, attributes := #[] }, { accessFlags := 26, nameIndex := 176, descriptorIndex := 173, attributes := #[] }, { accessFlags := 8, nameIndex := 344, descriptorIndex := 339, attributes := #[] }, { accessFlags := 8, nameIndex := 338, descriptorIndex := 339, attributes := #[] }, { accessFlags := 4120, nameIndex := 245, descriptorIndex := 246, attributes := #[] }])
  fields := #[{ name := "E", type := .double, accessFlags := 25, slot := 0, constantValue := 0 }, { name := "PI", type := .double, accessFlags := 25, slot := 1, constantValue := 0 }, { name := "TAU", type := .double, accessFlags := 25, slot := 2, constantValue := 0 }, { name := "DEGREES_TO_RADIANS", type := .double, accessFlags := 26, slot := 3, constantValue := 0 }, { name := "RADIANS_TO_DEGREES", type := .double, accessFlags := 26, slot := 4, constantValue := 0 }, { name := "negativeZeroFloatBits", type := .long, accessFlags := 26, slot := 5, constantValue := 0 }, { name := "negativeZeroDoubleBits", type := .long, accessFlags := 26, slot := 6, constantValue := 0 }, { name := "twoToTheDoubleScaleUp", type := .double, accessFlags := 8, slot := 7, constantValue := 0 }, { name := "twoToTheDoubleScaleDown", type := .double, accessFlags := 8, slot := 8, constantValue := 0 }, { name := "$assertionsDisabled", type := .boolean, accessFlags := 4120, slot := 9, constantValue := 0 }]
  methods := #[k18m0, k18m1]
  instanceTypes := #[]
  staticTypes := #[.double, .double, .double, .double, .double, .long, .long, .double, .double, .boolean]
  resolved := Array.replicate 460 none
  statics := none }

def pool19 : Array CpInfo := pool [(1, .methodref 2 3), (0, .class_ 4), (0, .nameAndType 5 6), (0, u "java/lang/Object"), (0, u "<init>"), (0, u "()V"), (0, .class_ 8), (0, u "com/example/sixfold/sixfold/rows/Rows"), (0, .methodref 7 3), (0, .fieldref 11 12), (0, .class_ 13), (0, .nameAndType 14 15), (0, u "com/example/sixfold/sixfold/rows/Table"), (0, u "rows"), (0, u "Lcom/example/sixfold/sixfold/rows/Rows;"), (0, .class_ 17), (0, u "com/example/sixfold/sixfold/rows/CardSet"), (0, .methodref 16 3), (0, .fieldref 11 20), (0, .nameAndType 21 22), (0, u "played"), (0, u "Lcom/example/sixfold/sixfold/rows/CardSet;"), (0, .fieldref 11 24), (0, .nameAndType 25 22), (0, u "turn"), (0, .class_ 27), (0, u "com/example/sixfold/sixfold/rows/Card"), (0, .fieldref 11 29), (0, .nameAndType 30 31), (0, u "seatRevealing"), (0, u "[B"), (11, .fieldref 11 44), (0, .nameAndType 45 46), (0, u "seats"), (0, u "I"), (0, .class_ 48), (0, u "com/example/sixfold/sixfold/rows/IntList"), (0, .methodref 47 50), (0, .nameAndType 5 51), (0, u "(I)V"), (0, .fieldref 11 53), (0, .nameAndType 54 55), (0, u "totals"), (0, u "Lcom/example/sixfold/sixfold/rows/IntList;"), (0, .methodref 47 57), (0, .nameAndType 58 51), (0, u "append"), (0, .fieldref 11 60), (0, .nameAndType 61 62), (0, u "order"), (0, u "[I"), (0, .fieldref 11 64), (0, .nameAndType 65 55), (0, u "revealed"), (0, .fieldref 11 67), (0, .nameAndType 68 46), (0, u "placed"), (0, .interfaceMethodref 70 71), (0, .class_ 72), (0, .nameAndType 73 74), (0, u "java/util/List"), (0, u "size"), (0, u "()I"), (2, .methodref 16 78), (0, .nameAndType 79 6), (0, u "empty"), (0, .methodref 47 78), (0, .interfaceMethodref 70 82), (0, .nameAndType 83 84), (0, u "iterator"), (0, u "()Ljava/util/Iterator;"), (0, .interfaceMethodref 86 87), (0, .class_ 88), (0, .nameAndType 89 90), (0, u "java/util/Iterator"), (0, u "hasNext"), (0, u "()Z"), (0, .interfaceMethodref 86 92), (0, .nameAndType 93 94), (0, u "next"), (0, u "()Ljava/lang/Object;"), (0, .class_ 96), (0, u "java/lang/Integer"), (0, .methodref 95 98), (0, .nameAndType 99 74), (0, u "intValue"), (0, .methodref 11 101), (0, .nameAndType 102 103), (0, u "playable"), (0, u "(I)Z"), (1, .methodref 16 106), (0, .nameAndType 107 103), (0, u "put"), (0, .methodref 7 109), (0, .nameAndType 110 111), (0, u "start"), (0, u "(Ljava/util/List;)V"), (2, u "reveal"), (0, u "([I)V"), (2, u "waiting"), (0, .methodref 47 120), (0, .nameAndType 121 122), (0, u "at"), (0, u "(I)I"), (1, .class_ 126), (1, u "com/example/sixfold/sixfold/rows/Table$RowChoice"), (1, u "(II)I"), (2, u "take"), (9, .methodref 16 142), (0, .nameAndType 143 74), (0, u "lowest"), (0, .methodref 16 145), (0, .nameAndType 146 103), (0, u "takeOut"), (0, .methodref 11 148), (0, .nameAndType 149 6), (0, u "placeOn"), (3, .methodref 7 154), (0, .nameAndType 131 128), (0, .methodref 11 156), (0, .nameAndType 157 158), (0, u "charge"), (0, u "(II)V"), (15, .methodref 26 175), (0, .nameAndType 176 103), (0, u "isCard"), (0, .methodref 16 178), (0, .nameAndType 179 103), (0, u "has"), (0, .methodref 11 181), (0, .nameAndType 182 103), (0, u "place"), (0, .methodref 7 184), (0, .nameAndType 185 122), (0, u "rowFor"), (0, .methodref 7 187), (0, .nameAndType 182 128), (0, .methodref 47 189), (0, .nameAndType 190 158), (0, u "replace"), (0, u "NO_SEAT"), (5, u "deal")] 41

def k19c0 : Code := { maxStack := 4, maxLocals := 3, code := prog_66_method_1_code, exceptionTable := #[], attributes := #[] }
def k19m0 : Method := { name := "<init>", desc := "(I)V", sig := { parameters := [.int], returnType := none }, accessFlags := 1, code := some k19c0 }
def k19c1 : Code := { maxStack := 3, maxLocals := 4, code := prog_66_method_2_code, exceptionTable := #[], attributes := #[] }
def k19m1 : Method := { name := "deal", desc := "(Ljava/util/List;)V", sig := { parameters := [(.object "java/util/List")], returnType := none }, accessFlags := 1, code := some k19c1 }
def k19c2 : Code := { maxStack := 4, maxLocals := 4, code := prog_66_method_4_code, exceptionTable := #[], attributes := #[] }
def k19m2 : Method := { name := "reveal", desc := "([I)V", sig := { parameters := [(.array .int)], returnType := none }, accessFlags := 1, code := some k19c2 }
def k19c3 : Code := { maxStack := 2, maxLocals := 1, code := prog_66_method_5_code, exceptionTable := #[], attributes := #[] }
def k19m3 : Method := { name := "waiting", desc := "()I", sig := { parameters := [], returnType := some .int }, accessFlags := 1, code := some k19c3 }
def k19c4 : Code := { maxStack := 6, maxLocals := 3, code := prog_66_method_6_code, exceptionTable := #[], attributes := #[] }
def k19m4 : Method := { name := "take", desc := "(I)V", sig := { parameters := [.int], returnType := none }, accessFlags := 1, code := some k19c4 }
def k19c5 : Code := { maxStack := 2, maxLocals := 2, code := prog_66_method_11_code, exceptionTable := #[], attributes := #[] }
def k19m5 : Method := { name := "playable", desc := "(I)Z", sig := { parameters := [.int], returnType := some .boolean }, accessFlags := 2, code := some k19c5 }
def k19c6 : Code := { maxStack := 3, maxLocals := 1, code := prog_66_method_12_code, exceptionTable := #[], attributes := #[] }
def k19m6 : Method := { name := "placeOn", desc := "()V", sig := { parameters := [], returnType := none }, accessFlags := 2, code := some k19c6 }
def k19c7 : Code := { maxStack := 5, maxLocals := 4, code := prog_66_method_13_code, exceptionTable := #[], attributes := #[] }
def k19m7 : Method := { name := "place", desc := "(I)Z", sig := { parameters := [.int], returnType := some .boolean }, accessFlags := 2, code := some k19c7 }
def k19c8 : Code := { maxStack := 4, maxLocals := 3, code := prog_66_method_14_code, exceptionTable := #[], attributes := #[] }
def k19m8 : Method := { name := "charge", desc := "(II)V", sig := { parameters := [.int, .int], returnType := none }, accessFlags := 2, code := some k19c8 }
/-- com/example/sixfold/sixfold/rows/Table -/
def k19 : Class := { plain "com/example/sixfold/sixfold/rows/Table" (some 0) with
  accessFlags := 49
  interfaces := #[]
  cf := some (fileOf pool19 11 #[.nestMembers #[124]] #[{ accessFlags := 1, nameIndex := 5, descriptorIndex := 51, attributes := #[] }, { accessFlags := 1, nameIndex := 197, descriptorIndex := 111, attributes := #[] }, { accessFlags := 1, nameIndex := 114, descriptorIndex := 115, attributes := #[] }, { accessFlags := 1, nameIndex := 118, descriptorIndex := 74, attributes := #[] }, { accessFlags := 1, nameIndex := 131, descriptorIndex := 51, attributes := #[] }, { accessFlags := 2, nameIndex := 102, descriptorIndex := 103, attributes := #[] }, { accessFlags := 2, nameIndex := 149, descriptorIndex := 6, attributes := #[] }, { accessFlags := 2, nameIndex := 182, descriptorIndex := 103, attributes := #[] }, { accessFlags := 2, nameIndex := 157, descriptorIndex := 158, attributes := #[] }] 49 2 #[] #[{ accessFlags := 25, nameIndex := 191, descriptorIndex := 46, attributes := #[] }, { accessFlags := 18, nameIndex := 45, descriptorIndex := 46, attributes := #[] }, { accessFlags := 18, nameIndex := 14, descriptorIndex := 15, attributes := #[] }, { accessFlags := 18, nameIndex := 54, descriptorIndex := 55, attributes := #[] }, { accessFlags := 18, nameIndex := 21, descriptorIndex := 22, attributes := #[] }, { accessFlags := 18, nameIndex := 61, descriptorIndex := 62, attributes := #[] }, { accessFlags := 18, nameIndex := 25, descriptorIndex := 22, attributes := #[] }, { accessFlags := 18, nameIndex := 30, descriptorIndex := 31, attributes := #[] }, { accessFlags := 18, nameIndex := 65, descriptorIndex := 55, attributes := #[] }, { accessFlags := 2, nameIndex := 68, descriptorIndex := 46, attributes := #[] }])
  fields := #[{ name := "NO_SEAT", type := .int, accessFlags := 25, slot := 0, constantValue := 0 }, { name := "seats", type := .int, accessFlags := 18, slot := 0, constantValue := 0 }, { name := "rows", type := (.object "com/example/sixfold/sixfold/rows/Rows"), accessFlags := 18, slot := 1, constantValue := 0 }, { name := "totals", type := (.object "com/example/sixfold/sixfold/rows/IntList"), accessFlags := 18, slot := 2, constantValue := 0 }, { name := "played", type := (.object "com/example/sixfold/sixfold/rows/CardSet"), accessFlags := 18, slot := 3, constantValue := 0 }, { name := "order", type := (.array .int), accessFlags := 18, slot := 4, constantValue := 0 }, { name := "turn", type := (.object "com/example/sixfold/sixfold/rows/CardSet"), accessFlags := 18, slot := 5, constantValue := 0 }, { name := "seatRevealing", type := (.array .byte), accessFlags := 18, slot := 6, constantValue := 0 }, { name := "revealed", type := (.object "com/example/sixfold/sixfold/rows/IntList"), accessFlags := 18, slot := 7, constantValue := 0 }, { name := "placed", type := .int, accessFlags := 2, slot := 8, constantValue := 0 }]
  methods := #[k19m0, k19m1, k19m2, k19m3, k19m4, k19m5, k19m6, k19m7, k19m8]
  instanceTypes := #[.int, (.object "com/example/sixfold/sixfold/rows/Rows"), (.object "com/example/sixfold/sixfold/rows/IntList"), (.object "com/example/sixfold/sixfold/rows/CardSet"), (.array .int), (.object "com/example/sixfold/sixfold/rows/CardSet"), (.array .byte), (.object "com/example/sixfold/sixfold/rows/IntList"), .int]
  staticTypes := #[.int]
  resolved := Array.replicate 239 none
  statics := none }

def pool20 : Array CpInfo := pool [(1, .methodref 2 3), (0, .class_ 4), (0, .nameAndType 5 6), (0, u "java/lang/Object"), (0, u "<init>"), (0, u "()V"), (2, .class_ 10), (0, u "com/example/sixfold/sixfold/rows/IntList"), (0, .fieldref 12 13), (0, .class_ 14), (0, .nameAndType 15 16), (0, u "com/example/sixfold/sixfold/rows/Rows"), (0, u "cards"), (0, u "[Lcom/example/sixfold/sixfold/rows/IntList;"), (0, .fieldref 12 18), (0, .nameAndType 19 20), (0, u "heads"), (0, u "[I"), (0, .class_ 22), (0, u "com/example/sixfold/sixfold/rows/CardSet"), (0, .methodref 21 3), (0, .fieldref 12 25), (0, .nameAndType 26 27), (0, u "lasts"), (0, u "Lcom/example/sixfold/sixfold/rows/CardSet;"), (0, .class_ 29), (0, u "com/example/sixfold/sixfold/rows/Card"), (0, .fieldref 12 31), (0, .nameAndType 32 33), (0, u "rowEnding"), (0, u "[B"), (0, .methodref 9 35), (0, .nameAndType 5 36), (0, u "(I)V"), (0, .interfaceMethodref 38 39), (0, .class_ 40), (0, .nameAndType 41 42), (0, u "java/util/List"), (0, u "of"), (0, u "([Ljava/lang/Object;)Ljava/util/List;"), (0, .fieldref 12 44), (0, .nameAndType 45 46), (0, u "view"), (0, u "Ljava/util/List;"), (0, .methodref 21 48), (0, .nameAndType 49 6), (0, u "empty"), (0, .interfaceMethodref 38 51), (0, .nameAndType 52 53), (0, u "get"), (0, u "(I)Ljava/lang/Object;"), (0, .class_ 55), (0, u "java/lang/Integer"), (0, .methodref 54 57), (0, .nameAndType 58 59), (0, u "intValue"), (0, u "()I"), (0, .methodref 12 61), (0, .nameAndType 62 63), (0, u "restart"), (0, u "(II)V"), (0, .methodref 9 48), (14, .methodref 9 80), (0, .nameAndType 81 36), (0, u "append"), (0, .methodref 28 83), (0, .nameAndType 19 84), (0, u "(I)I"), (0, .methodref 9 86), (0, .nameAndType 87 59), (0, u "last"), (0, .methodref 12 89), (0, .nameAndType 90 63), (0, u "ends"), (7, .methodref 21 99), (0, .nameAndType 100 84), (0, u "highestBelow"), (0, .methodref 9 102), (0, .nameAndType 103 59), (0, u "size"), (5, u "(II)I"), (4, .methodref 12 115), (0, .nameAndType 116 109), (0, u "take"), (0, .methodref 21 118), (0, .nameAndType 119 120), (0, u "takeOut"), (0, u "(I)Z"), (0, .methodref 21 122), (0, .nameAndType 123 120), (0, u "put"), (0, u "FULL"), (0, u "I"), (2, u "NO_ROW"), (8, u "start"), (0, u "(Ljava/util/List;)V"), (3, u "rowFor"), (2, u "place")] 2

def k20c0 : Code := { maxStack := 5, maxLocals := 2, code := prog_55_method_1_code, exceptionTable := #[], attributes := #[] }
def k20m0 : Method := { name := "<init>", desc := "()V", sig := { parameters := [], returnType := none }, accessFlags := 0, code := some k20c0 }
def k20c1 : Code := { maxStack := 4, maxLocals := 3, code := prog_55_method_3_code, exceptionTable := #[], attributes := #[] }
def k20m1 : Method := { name := "start", desc := "(Ljava/util/List;)V", sig := { parameters := [(.object "java/util/List")], returnType := none }, accessFlags := 0, code := some k20c1 }
def k20c2 : Code := { maxStack := 2, maxLocals := 3, code := prog_55_method_6_code, exceptionTable := #[], attributes := #[] }
def k20m2 : Method := { name := "rowFor", desc := "(I)I", sig := { parameters := [.int], returnType := some .int }, accessFlags := 0, code := some k20c2 }
def k20c3 : Code := { maxStack := 4, maxLocals := 4, code := prog_55_method_13_code, exceptionTable := #[], attributes := #[] }
def k20m3 : Method := { name := "place", desc := "(II)I", sig := { parameters := [.int, .int], returnType := some .int }, accessFlags := 0, code := some k20c3 }
def k20c4 : Code := { maxStack := 3, maxLocals := 4, code := prog_55_method_14_code, exceptionTable := #[], attributes := #[] }
def k20m4 : Method := { name := "take", desc := "(II)I", sig := { parameters := [.int, .int], returnType := some .int }, accessFlags := 0, code := some k20c4 }
def k20c5 : Code := { maxStack := 3, maxLocals := 3, code := prog_55_method_15_code, exceptionTable := #[], attributes := #[] }
def k20m5 : Method := { name := "restart", desc := "(II)V", sig := { parameters := [.int, .int], returnType := none }, accessFlags := 2, code := some k20c5 }
def k20c6 : Code := { maxStack := 3, maxLocals := 3, code := prog_55_method_16_code, exceptionTable := #[], attributes := #[] }
def k20m6 : Method := { name := "ends", desc := "(II)V", sig := { parameters := [.int, .int], returnType := none }, accessFlags := 2, code := some k20c6 }
/-- com/example/sixfold/sixfold/rows/Rows -/
def k20 : Class := { plain "com/example/sixfold/sixfold/rows/Rows" (some 0) with
  accessFlags := 48
  interfaces := #[]
  cf := some (fileOf pool20 12 #[] #[{ accessFlags := 0, nameIndex := 5, descriptorIndex := 6, attributes := #[] }, { accessFlags := 0, nameIndex := 137, descriptorIndex := 138, attributes := #[] }, { accessFlags := 0, nameIndex := 142, descriptorIndex := 84, attributes := #[] }, { accessFlags := 0, nameIndex := 145, descriptorIndex := 109, attributes := #[] }, { accessFlags := 0, nameIndex := 116, descriptorIndex := 109, attributes := #[] }, { accessFlags := 2, nameIndex := 62, descriptorIndex := 63, attributes := #[] }, { accessFlags := 2, nameIndex := 90, descriptorIndex := 63, attributes := #[] }] 48 2 #[] #[{ accessFlags := 24, nameIndex := 124, descriptorIndex := 125, attributes := #[] }, { accessFlags := 24, nameIndex := 128, descriptorIndex := 125, attributes := #[] }, { accessFlags := 18, nameIndex := 15, descriptorIndex := 16, attributes := #[] }, { accessFlags := 18, nameIndex := 45, descriptorIndex := 46, attributes := #[] }, { accessFlags := 18, nameIndex := 19, descriptorIndex := 20, attributes := #[] }, { accessFlags := 18, nameIndex := 26, descriptorIndex := 27, attributes := #[] }, { accessFlags := 18, nameIndex := 32, descriptorIndex := 33, attributes := #[] }])
  fields := #[{ name := "FULL", type := .int, accessFlags := 24, slot := 0, constantValue := 0 }, { name := "NO_ROW", type := .int, accessFlags := 24, slot := 1, constantValue := 0 }, { name := "cards", type := (.array (.object "com/example/sixfold/sixfold/rows/IntList")), accessFlags := 18, slot := 0, constantValue := 0 }, { name := "view", type := (.object "java/util/List"), accessFlags := 18, slot := 1, constantValue := 0 }, { name := "heads", type := (.array .int), accessFlags := 18, slot := 2, constantValue := 0 }, { name := "lasts", type := (.object "com/example/sixfold/sixfold/rows/CardSet"), accessFlags := 18, slot := 3, constantValue := 0 }, { name := "rowEnding", type := (.array .byte), accessFlags := 18, slot := 4, constantValue := 0 }]
  methods := #[k20m0, k20m1, k20m2, k20m3, k20m4, k20m5, k20m6]
  instanceTypes := #[(.array (.object "com/example/sixfold/sixfold/rows/IntList")), (.object "java/util/List"), (.array .int), (.object "com/example/sixfold/sixfold/rows/CardSet"), (.array .byte)]
  staticTypes := #[.int, .int]
  resolved := Array.replicate 148 none
  statics := none }

def pool21 : Array CpInfo := pool [(1, .methodref 2 3), (0, .class_ 4), (0, .nameAndType 5 6), (0, u "java/util/AbstractList"), (0, u "<init>"), (0, u "()V"), (0, .fieldref 8 9), (0, .class_ 10), (0, .nameAndType 11 12), (0, u "com/example/sixfold/sixfold/rows/IntList"), (0, u "values"), (0, u "[I"), (0, .methodref 8 14), (0, .nameAndType 15 16), (0, u "at"), (0, u "(I)I"), (6, .fieldref 8 24), (0, .nameAndType 25 26), (0, u "size"), (0, u "I"), (0, .methodref 28 29), (0, .class_ 30), (0, .nameAndType 31 32), (0, u "java/util/Objects"), (0, u "checkIndex"), (0, u "(II)I"), (9, .class_ 43), (0, u "java/util/RandomAccess"), (0, u "(I)V"), (2, u "()I"), (0, u "last"), (0, u "append"), (0, u "replace"), (0, u "(II)V"), (0, u "empty")] 8

def k21c0 : Code := { maxStack := 2, maxLocals := 2, code := prog_45_method_1_code, exceptionTable := #[], attributes := #[] }
def k21m0 : Method := { name := "<init>", desc := "(I)V", sig := { parameters := [.int], returnType := none }, accessFlags := 0, code := some k21c0 }
def k21c1 : Code := { maxStack := 1, maxLocals := 1, code := prog_45_method_3_code, exceptionTable := #[], attributes := #[] }
def k21m1 : Method := { name := "size", desc := "()I", sig := { parameters := [], returnType := some .int }, accessFlags := 1, code := some k21c1 }
def k21c2 : Code := { maxStack := 3, maxLocals := 2, code := prog_45_method_4_code, exceptionTable := #[], attributes := #[] }
def k21m2 : Method := { name := "at", desc := "(I)I", sig := { parameters := [.int], returnType := some .int }, accessFlags := 0, code := some k21c2 }
def k21c3 : Code := { maxStack := 3, maxLocals := 1, code := prog_45_method_5_code, exceptionTable := #[], attributes := #[] }
def k21m3 : Method := { name := "last", desc := "()I", sig := { parameters := [], returnType := some .int }, accessFlags := 0, code := some k21c3 }
def k21c4 : Code := { maxStack := 3, maxLocals := 2, code := prog_45_method_6_code, exceptionTable := #[], attributes := #[] }
def k21m4 : Method := { name := "append", desc := "(I)V", sig := { parameters := [.int], returnType := none }, accessFlags := 0, code := some k21c4 }
def k21c5 : Code := { maxStack := 3, maxLocals := 3, code := prog_45_method_7_code, exceptionTable := #[], attributes := #[] }
def k21m5 : Method := { name := "replace", desc := "(II)V", sig := { parameters := [.int, .int], returnType := none }, accessFlags := 0, code := some k21c5 }
def k21c6 : Code := { maxStack := 2, maxLocals := 1, code := prog_45_method_8_code, exceptionTable := #[], attributes := #[] }
def k21m6 : Method := { name := "empty", desc := "()V", sig := { parameters := [], returnType := none }, accessFlags := 0, code := some k21c6 }
/-- com/example/sixfold/sixfold/rows/IntList -/
def k21 : Class := { plain "com/example/sixfold/sixfold/rows/IntList" (some 7) with
  accessFlags := 48
  interfaces := #[8]
  cf := some (fileOf pool21 8 #[] #[{ accessFlags := 0, nameIndex := 5, descriptorIndex := 44, attributes := #[] }, { accessFlags := 1, nameIndex := 25, descriptorIndex := 47, attributes := #[] }, { accessFlags := 0, nameIndex := 15, descriptorIndex := 16, attributes := #[] }, { accessFlags := 0, nameIndex := 48, descriptorIndex := 47, attributes := #[] }, { accessFlags := 0, nameIndex := 49, descriptorIndex := 44, attributes := #[] }, { accessFlags := 0, nameIndex := 50, descriptorIndex := 51, attributes := #[] }, { accessFlags := 0, nameIndex := 52, descriptorIndex := 6, attributes := #[] }] 48 2 #[42] #[{ accessFlags := 18, nameIndex := 11, descriptorIndex := 12, attributes := #[] }, { accessFlags := 2, nameIndex := 25, descriptorIndex := 26, attributes := #[] }])
  fields := #[{ name := "values", type := (.array .int), accessFlags := 18, slot := 1, constantValue := 0 }, { name := "size", type := .int, accessFlags := 2, slot := 2, constantValue := 0 }]
  methods := #[k21m0, k21m1, k21m2, k21m3, k21m4, k21m5, k21m6]
  instanceTypes := #[.int, (.array .int), .int]
  staticTypes := #[]
  resolved := Array.replicate 61 none
  statics := none }

def pool22 : Array CpInfo := pool [(1, .methodref 2 3), (0, .class_ 4), (0, .nameAndType 5 6), (0, u "java/util/AbstractList"), (0, u "<init>"), (0, u "()V"), (0, .fieldref 8 9), (0, .class_ 10), (0, .nameAndType 11 12), (0, u "com/example/sixfold/sixfold/rows/CardSet"), (0, u "words"), (0, u "[J"), (3, u "()I"), (7, .class_ 26), (1, u "java/lang/Long"), (1, u "(J)I"), (0, .methodref 24 30), (0, .nameAndType 31 28), (0, u "numberOfTrailingZeros"), (6, .methodref 39 40), (0, .class_ 41), (0, .nameAndType 42 43), (0, u "com/example/sixfold/sixfold/rows/Card"), (0, u "isCard"), (0, u "(I)Z"), (0, .methodref 39 45), (0, .nameAndType 46 47), (0, u "checked"), (0, u "(I)I"), (0, .long 18446744073709551615), (1, .methodref 8 51), (0, .nameAndType 52 43), (0, u "has"), (7, .methodref 24 61), (0, .nameAndType 62 28), (0, u "numberOfLeadingZeros"), (4, u "HEAD_BITS"), (0, u "[[J"), (7, .class_ 77), (0, u "java/util/RandomAccess"), (0, u "NO_CARD"), (0, u "I"), (5, u "put"), (0, u "takeOut"), (0, u "lowest"), (0, u "highestBelow"), (3, u "empty")] 9

def k22c0 : Code := { maxStack := 2, maxLocals := 1, code := prog_42_method_1_code, exceptionTable := #[], attributes := #[] }
def k22m0 : Method := { name := "<init>", desc := "()V", sig := { parameters := [], returnType := none }, accessFlags := 0, code := some k22c0 }
def k22c1 : Code := { maxStack := 5, maxLocals := 2, code := prog_42_method_4_code, exceptionTable := #[], attributes := #[] }
def k22m1 : Method := { name := "has", desc := "(I)Z", sig := { parameters := [.int], returnType := some .boolean }, accessFlags := 0, code := some k22c1 }
def k22c2 : Code := { maxStack := 7, maxLocals := 4, code := prog_42_method_5_code, exceptionTable := #[], attributes := #[] }
def k22m2 : Method := { name := "put", desc := "(I)Z", sig := { parameters := [.int], returnType := some .boolean }, accessFlags := 0, code := some k22c2 }
def k22c3 : Code := { maxStack := 8, maxLocals := 2, code := prog_42_method_6_code, exceptionTable := #[], attributes := #[] }
def k22m3 : Method := { name := "takeOut", desc := "(I)Z", sig := { parameters := [.int], returnType := some .boolean }, accessFlags := 0, code := some k22c3 }
def k22c4 : Code := { maxStack := 4, maxLocals := 1, code := prog_42_method_7_code, exceptionTable := #[], attributes := #[] }
def k22m4 : Method := { name := "lowest", desc := "()I", sig := { parameters := [], returnType := some .int }, accessFlags := 0, code := some k22c4 }
def k22c5 : Code := { maxStack := 4, maxLocals := 8, code := prog_42_method_8_code, exceptionTable := #[], attributes := #[] }
def k22m5 : Method := { name := "highestBelow", desc := "(I)I", sig := { parameters := [.int], returnType := some .int }, accessFlags := 0, code := some k22c5 }
def k22c6 : Code := { maxStack := 4, maxLocals := 1, code := prog_42_method_12_code, exceptionTable := #[], attributes := #[] }
def k22m6 : Method := { name := "empty", desc := "()V", sig := { parameters := [], returnType := none }, accessFlags := 0, code := some k22c6 }
/-- com/example/sixfold/sixfold/rows/CardSet -/
def k22 : Class := { plain "com/example/sixfold/sixfold/rows/CardSet" (some 7) with
  accessFlags := 48
  interfaces := #[8]
  cf := some (fileOf pool22 8 #[] #[{ accessFlags := 0, nameIndex := 5, descriptorIndex := 6, attributes := #[] }, { accessFlags := 0, nameIndex := 52, descriptorIndex := 43, attributes := #[] }, { accessFlags := 0, nameIndex := 85, descriptorIndex := 43, attributes := #[] }, { accessFlags := 0, nameIndex := 86, descriptorIndex := 43, attributes := #[] }, { accessFlags := 0, nameIndex := 87, descriptorIndex := 16, attributes := #[] }, { accessFlags := 0, nameIndex := 88, descriptorIndex := 47, attributes := #[] }, { accessFlags := 0, nameIndex := 92, descriptorIndex := 6, attributes := #[] }] 48 2 #[76] #[{ accessFlags := 24, nameIndex := 78, descriptorIndex := 79, attributes := #[] }, { accessFlags := 26, nameIndex := 67, descriptorIndex := 68, attributes := #[] }, { accessFlags := 18, nameIndex := 11, descriptorIndex := 12, attributes := #[] }])
  fields := #[{ name := "NO_CARD", type := .int, accessFlags := 24, slot := 0, constantValue := 0 }, { name := "HEAD_BITS", type := (.array (.array .long)), accessFlags := 26, slot := 1, constantValue := 0 }, { name := "words", type := (.array .long), accessFlags := 18, slot := 1, constantValue := 0 }]
  methods := #[k22m0, k22m1, k22m2, k22m3, k22m4, k22m5, k22m6]
  instanceTypes := #[.int, (.array .long)]
  staticTypes := #[.int, (.array (.array .long))]
  resolved := Array.replicate 102 none
  statics := none }

def pool23 : Array CpInfo := pool [(2, .class_ 4), (1, u "java/lang/Object"), (0, u "<init>"), (0, u "()V"), (3, .class_ 11), (0, u "java/util/ImmutableCollections$List12"), (0, .class_ 13), (0, u "java/util/ImmutableCollections$ListN"), (3, u "Z"), (18, u "([Ljava/lang/Object;)Ljava/util/List;"), (0, .methodref 38 39), (0, .class_ 40), (0, .nameAndType 41 42), (0, u "java/util/Objects"), (0, u "requireNonNull"), (0, u "(Ljava/lang/Object;)Ljava/lang/Object;"), (0, .methodref 12 44), (0, .nameAndType 5 45), (0, u "([Ljava/lang/Object;Z)V"), (1, .class_ 49), (1, u "java/util/ImmutableCollections"), (0, u "$assertionsDisabled"), (5, u "[Ljava/lang/Object;"), (5, u "EMPTY_LIST"), (0, u "Ljava/util/ImmutableCollections$ListN;"), (8, u "EMPTY_LIST_NULLS"), (22, u "SALT32L"), (0, u "J"), (2, u "REVERSE"), (6, u "archivedObjects"), (2, u "EMPTY"), (0, u "Ljava/lang/Object;"), (0, .class_ 112), (0, u "java/util/ImmutableCollections$SetN"), (5, u "EMPTY_SET"), (0, u "Ljava/util/ImmutableCollections$SetN;"), (0, .class_ 121), (0, u "java/util/ImmutableCollections$MapN"), (3, u "EMPTY_MAP"), (0, u "Ljava/util/ImmutableCollections$MapN;"), (4, u "EXPAND_FACTOR"), (0, u "I"), (18, u "listFromArray"), (17, .class_ 170), (0, u "java/util/ImmutableCollections$MapN$MapNIterator"), (0, .class_ 172), (0, u "java/util/ImmutableCollections$MapN$1"), (0, .class_ 174), (0, u "java/util/ImmutableCollections$Map1"), (0, .class_ 176), (0, u "java/util/ImmutableCollections$AbstractImmutableMap"), (0, .class_ 178), (0, u "java/util/ImmutableCollections$SetN$SetNIterator"), (0, .class_ 180), (0, u "java/util/ImmutableCollections$Set12"), (0, .class_ 182), (0, u "java/util/ImmutableCollections$Set12$1"), (0, .class_ 184), (0, u "java/util/ImmutableCollections$AbstractImmutableSet"), (0, .class_ 186), (0, u "java/util/ImmutableCollections$SubList"), (0, .class_ 188), (0, u "java/util/ImmutableCollections$ListItr"), (0, .class_ 190), (0, u "java/util/ImmutableCollections$AbstractImmutableList"), (0, .class_ 192), (0, u "java/util/ImmutableCollections$AbstractImmutableCollection"), (0, .class_ 194), (0, u "java/util/ImmutableCollections$Access"), (0, .class_ 196), (0, u "java/util/ImmutableCollections$Access$1")] 16

def k23m0 : Method := { name := "<init>", desc := "()V", sig := { parameters := [], returnType := none }, accessFlags := 2, code := none }
def k23c1 : Code := { maxStack := 4, maxLocals := 3, code := jdk_56_method_4_code, exceptionTable := #[], attributes := #[] }
def k23m1 : Method := { name := "listFromArray", desc := "([Ljava/lang/Object;)Ljava/util/List;", sig := { parameters := [(.array (.object "java/lang/Object"))], returnType := some (.object "java/util/List") }, accessFlags := 136, code := some k23c1 }
/-- java/util/ImmutableCollections -/
def k23 : Class := { plain "java/util/ImmutableCollections" (some 0) with
  accessFlags := 32
  interfaces := #[]
  cf := some (fileOf pool23 47 #[.nestMembers #[120, 169, 171, 173, 175, 111, 177, 179, 181, 183, 12, 10, 185, 187, 189, 191, 193, 195]] #[{ accessFlags := 2, nameIndex := 5, descriptorIndex := 6, attributes := #[] }, { accessFlags := 136, nameIndex := 151, descriptorIndex := 36, attributes := #[] }] 32 2 #[] #[{ accessFlags := 26, nameIndex := 95, descriptorIndex := 96, attributes := #[] }, { accessFlags := 26, nameIndex := 99, descriptorIndex := 17, attributes := #[] }, { accessFlags := 10, nameIndex := 106, descriptorIndex := 56, attributes := #[] }, { accessFlags := 26, nameIndex := 109, descriptorIndex := 110, attributes := #[] }, { accessFlags := 24, nameIndex := 62, descriptorIndex := 63, attributes := #[] }, { accessFlags := 24, nameIndex := 72, descriptorIndex := 63, attributes := #[] }, { accessFlags := 24, nameIndex := 118, descriptorIndex := 119, attributes := #[] }, { accessFlags := 24, nameIndex := 125, descriptorIndex := 126, attributes := #[] }, { accessFlags := 24, nameIndex := 131, descriptorIndex := 132, attributes := #[] }, { accessFlags := 4120, nameIndex := 50, descriptorIndex := 17, attributes := #[] }])
  fields := #[{ name := "SALT32L", type := .long, accessFlags := 26, slot := 0, constantValue := 0 }, { name := "REVERSE", type := .boolean, accessFlags := 26, slot := 1, constantValue := 0 }, { name := "archivedObjects", type := (.array (.object "java/lang/Object")), accessFlags := 10, slot := 2, constantValue := 0 }, { name := "EMPTY", type := (.object "java/lang/Object"), accessFlags := 26, slot := 3, constantValue := 0 }, { name := "EMPTY_LIST", type := (.object "java/util/ImmutableCollections$ListN"), accessFlags := 24, slot := 4, constantValue := 0 }, { name := "EMPTY_LIST_NULLS", type := (.object "java/util/ImmutableCollections$ListN"), accessFlags := 24, slot := 5, constantValue := 0 }, { name := "EMPTY_SET", type := (.object "java/util/ImmutableCollections$SetN"), accessFlags := 24, slot := 6, constantValue := 0 }, { name := "EMPTY_MAP", type := (.object "java/util/ImmutableCollections$MapN"), accessFlags := 24, slot := 7, constantValue := 0 }, { name := "EXPAND_FACTOR", type := .int, accessFlags := 24, slot := 8, constantValue := 0 }, { name := "$assertionsDisabled", type := .boolean, accessFlags := 4120, slot := 9, constantValue := 0 }]
  methods := #[k23m0, k23m1]
  instanceTypes := #[]
  staticTypes := #[.long, .boolean, (.array (.object "java/lang/Object")), (.object "java/lang/Object"), (.object "java/util/ImmutableCollections$ListN"), (.object "java/util/ImmutableCollections$ListN"), (.object "java/util/ImmutableCollections$SetN"), (.object "java/util/ImmutableCollections$MapN"), .int, .boolean]
  resolved := Array.replicate 213 none
  statics := none }

def pool24 : Array CpInfo := pool [(2, .class_ 4), (1, u "java/lang/Object"), (0, u "<init>"), (0, u "()V"), (35, .class_ 44), (1, u "java/util/Objects"), (0, u "requireNonNull"), (0, u "(Ljava/lang/Object;)Ljava/lang/Object;"), (58, .methodref 106 107), (0, .class_ 108), (0, .nameAndType 109 110), (0, u "jdk/internal/util/Preconditions"), (0, u "checkIndex"), (0, u "(IILjava/util/function/BiFunction;)I"), (60, u "(II)I")] 12

def k24m0 : Method := { name := "<init>", desc := "()V", sig := { parameters := [], returnType := none }, accessFlags := 2, code := none }
def k24c1 : Code := { maxStack := 2, maxLocals := 1, code := jdk_31_method_10_code, exceptionTable := #[], attributes := #[] }
def k24m1 : Method := { name := "requireNonNull", desc := "(Ljava/lang/Object;)Ljava/lang/Object;", sig := { parameters := [(.object "java/lang/Object")], returnType := some (.object "java/lang/Object") }, accessFlags := 9, code := some k24c1 }
def k24c2 : Code := { maxStack := 3, maxLocals := 2, code := jdk_31_method_17_code, exceptionTable := #[], attributes := #[] }
def k24m2 : Method := { name := "checkIndex", desc := "(II)I", sig := { parameters := [.int, .int], returnType := some .int }, accessFlags := 9, code := some k24c2 }
/-- java/util/Objects -/
def k24 : Class := { plain "java/util/Objects" (some 0) with
  accessFlags := 49
  interfaces := #[]
  cf := some (fileOf pool24 42 #[] #[{ accessFlags := 2, nameIndex := 5, descriptorIndex := 6, attributes := #[] }, { accessFlags := 9, nameIndex := 45, descriptorIndex := 46, attributes := #[] }, { accessFlags := 9, nameIndex := 109, descriptorIndex := 171, attributes := #[] }] 49 2 #[] #[])
  fields := #[]
  methods := #[k24m0, k24m1, k24m2]
  instanceTypes := #[]
  staticTypes := #[]
  resolved := Array.replicate 184 none
  statics := none }

def pool25 : Array CpInfo := pool [(1, .methodref 2 3), (0, .class_ 4), (0, .nameAndType 5 6), (0, u "java/util/AbstractCollection"), (0, u "<init>"), (0, u "()V"), (1, .class_ 10), (1, u "java/util/ImmutableCollections"), (2, .class_ 14), (0, u "java/util/ImmutableCollections$AbstractImmutableCollection")] 41

def k25c0 : Code := { maxStack := 1, maxLocals := 1, code := jdk_47_method_1_code, exceptionTable := #[], attributes := #[] }
def k25m0 : Method := { name := "<init>", desc := "()V", sig := { parameters := [], returnType := none }, accessFlags := 0, code := some k25c0 }
/-- java/util/ImmutableCollections$AbstractImmutableCollection -/
def k25 : Class := { plain "java/util/ImmutableCollections$AbstractImmutableCollection" (some 4) with
  accessFlags := 1056
  interfaces := #[]
  cf := some (fileOf pool25 13 #[.nestHost 8] #[{ accessFlags := 0, nameIndex := 5, descriptorIndex := 6, attributes := #[] }] 1056 2 #[] #[])
  fields := #[]
  methods := #[k25m0]
  instanceTypes := #[]
  staticTypes := #[]
  resolved := Array.replicate 56 none
  statics := none }

def pool26 : Array CpInfo := pool [(1, .methodref 2 3), (0, .class_ 4), (0, .nameAndType 5 6), (0, u "java/util/ImmutableCollections$AbstractImmutableCollection"), (0, u "<init>"), (0, u "()V"), (1, .class_ 10), (1, u "java/util/ImmutableCollections"), (3, .class_ 16), (1, u "java/util/ImmutableCollections$AbstractImmutableList"), (60, .class_ 78), (0, u "java/util/List"), (45, .class_ 125), (0, u "java/util/RandomAccess")] 70

def k26c0 : Code := { maxStack := 1, maxLocals := 1, code := jdk_46_method_1_code, exceptionTable := #[], attributes := #[] }
def k26m0 : Method := { name := "<init>", desc := "()V", sig := { parameters := [], returnType := none }, accessFlags := 0, code := some k26c0 }
/-- java/util/ImmutableCollections$AbstractImmutableList -/
def k26 : Class := { plain "java/util/ImmutableCollections$AbstractImmutableList" (some 25) with
  accessFlags := 1056
  interfaces := #[6, 8]
  cf := some (fileOf pool26 14 #[.nestHost 8] #[{ accessFlags := 0, nameIndex := 5, descriptorIndex := 6, attributes := #[] }] 1056 2 #[77, 124] #[])
  fields := #[]
  methods := #[k26m0]
  instanceTypes := #[]
  staticTypes := #[]
  resolved := Array.replicate 196 none
  statics := none }

def pool27 : Array CpInfo := pool [(1, .methodref 2 3), (0, .class_ 4), (0, .nameAndType 5 6), (0, u "java/util/ImmutableCollections$AbstractImmutableList"), (0, u "<init>"), (0, u "()V"), (0, .fieldref 8 9), (0, .class_ 10), (0, .nameAndType 11 12), (0, u "java/util/ImmutableCollections$ListN"), (0, u "elements"), (0, u "[Ljava/lang/Object;"), (0, .fieldref 8 14), (0, .nameAndType 15 16), (0, u "allowNulls"), (0, u "Z"), (42, .class_ 60), (0, u "java/io/Serializable"), (4, u "([Ljava/lang/Object;Z)V"), (48, .class_ 115), (0, u "java/util/ImmutableCollections")] 3

def k27c0 : Code := { maxStack := 2, maxLocals := 3, code := jdk_45_method_1_code, exceptionTable := #[], attributes := #[] }
def k27m0 : Method := { name := "<init>", desc := "([Ljava/lang/Object;Z)V", sig := { parameters := [(.array (.object "java/lang/Object")), .boolean], returnType := none }, accessFlags := 2, code := some k27c0 }
/-- java/util/ImmutableCollections$ListN -/
def k27 : Class := { plain "java/util/ImmutableCollections$ListN" (some 26) with
  accessFlags := 48
  interfaces := #[10]
  cf := some (fileOf pool27 8 #[.nestHost 114] #[{ accessFlags := 2, nameIndex := 5, descriptorIndex := 65, attributes := #[] }] 48 2 #[59] #[{ accessFlags := 18, nameIndex := 11, descriptorIndex := 12, attributes := #[] }, { accessFlags := 18, nameIndex := 15, descriptorIndex := 16, attributes := #[] }])
  fields := #[{ name := "elements", type := (.array (.object "java/lang/Object")), accessFlags := 18, slot := 0, constantValue := 0 }, { name := "allowNulls", type := .boolean, accessFlags := 18, slot := 1, constantValue := 0 }]
  methods := #[k27m0]
  instanceTypes := #[(.array (.object "java/lang/Object")), .boolean]
  staticTypes := #[]
  resolved := Array.replicate 119 none
  statics := none }

def pool28 : Array CpInfo := pool [(16, .class_ 18), (1, u "java/util/Iterator"), (0, u "hasNext"), (0, u "()Z"), (2, u "next"), (0, u "()Ljava/lang/Object;"), (6, .class_ 32), (0, u "java/lang/Object")] 20

def k28m0 : Method := { name := "hasNext", desc := "()Z", sig := { parameters := [], returnType := some .boolean }, accessFlags := 1025, code := none }
def k28m1 : Method := { name := "next", desc := "()Ljava/lang/Object;", sig := { parameters := [], returnType := some (.object "java/lang/Object") }, accessFlags := 1025, code := none }
/-- java/util/Iterator -/
def k28 : Class := { plain "java/util/Iterator" (some 0) with
  accessFlags := 1537
  interfaces := #[]
  cf := some (fileOf pool28 16 #[] #[{ accessFlags := 1025, nameIndex := 19, descriptorIndex := 20, attributes := #[] }, { accessFlags := 1025, nameIndex := 23, descriptorIndex := 24, attributes := #[] }] 1537 31 #[] #[])
  fields := #[]
  methods := #[k28m0, k28m1]
  instanceTypes := #[]
  staticTypes := #[]
  resolved := Array.replicate 53 none
  statics := none }

def pool29 : Array CpInfo := pool [(1, .fieldref 2 3), (0, .class_ 4), (0, .nameAndType 5 6), (0, u "java/util/ArrayList$Itr"), (0, u "this$0"), (0, u "Ljava/util/ArrayList;"), (0, .methodref 8 9), (0, .class_ 10), (0, .nameAndType 11 12), (0, u "java/lang/Object"), (0, u "<init>"), (0, u "()V"), (0, .fieldref 2 14), (0, .nameAndType 15 16), (0, u "lastRet"), (0, u "I"), (0, .fieldref 18 19), (0, .class_ 20), (0, .nameAndType 21 16), (0, u "java/util/ArrayList"), (0, u "modCount"), (0, .fieldref 2 23), (0, .nameAndType 24 16), (0, u "expectedModCount"), (0, .fieldref 2 26), (0, .nameAndType 27 16), (0, u "cursor"), (0, .fieldref 18 29), (0, .nameAndType 30 16), (0, u "size"), (0, .methodref 2 32), (0, .nameAndType 33 12), (0, u "checkForComodification"), (3, .fieldref 18 38), (0, .nameAndType 39 40), (0, u "elementData"), (0, u "[Ljava/lang/Object;"), (28, .class_ 70), (0, u "java/util/Iterator"), (0, u "(Ljava/util/ArrayList;)V"), (8, u "hasNext"), (0, u "()Z"), (1, u "next"), (0, u "()Ljava/lang/Object;")] 19

def k29c0 : Code := { maxStack := 2, maxLocals := 2, code := jdk_49_method_1_code, exceptionTable := #[], attributes := #[] }
def k29m0 : Method := { name := "<init>", desc := "(Ljava/util/ArrayList;)V", sig := { parameters := [(.object "java/util/ArrayList")], returnType := none }, accessFlags := 0, code := some k29c0 }
def k29c1 : Code := { maxStack := 2, maxLocals := 1, code := jdk_49_method_2_code, exceptionTable := #[], attributes := #[] }
def k29m1 : Method := { name := "hasNext", desc := "()Z", sig := { parameters := [], returnType := some .boolean }, accessFlags := 1, code := some k29c1 }
def k29c2 : Code := { maxStack := 4, maxLocals := 3, code := jdk_49_method_3_code, exceptionTable := #[], attributes := #[] }
def k29m2 : Method := { name := "next", desc := "()Ljava/lang/Object;", sig := { parameters := [], returnType := some (.object "java/lang/Object") }, accessFlags := 1, code := some k29c2 }
def k29c3 : Code := { maxStack := 2, maxLocals := 1, code := jdk_49_method_6_code, exceptionTable := #[], attributes := #[] }
def k29m3 : Method := { name := "checkForComodification", desc := "()V", sig := { parameters := [], returnType := none }, accessFlags := 16, code := some k29c3 }
/-- java/util/ArrayList$Itr -/
def k29 : Class := { plain "java/util/ArrayList$Itr" (some 0) with
  accessFlags := 32
  interfaces := #[28]
  cf := some (fileOf pool29 2 #[.nestHost 18] #[{ accessFlags := 0, nameIndex := 11, descriptorIndex := 71, attributes := #[] }, { accessFlags := 1, nameIndex := 80, descriptorIndex := 81, attributes := #[] }, { accessFlags := 1, nameIndex := 83, descriptorIndex := 84, attributes := #[] }, { accessFlags := 16, nameIndex := 33, descriptorIndex := 12, attributes := #[] }] 32 8 #[69] #[{ accessFlags := 0, nameIndex := 27, descriptorIndex := 16, attributes := #[] }, { accessFlags := 0, nameIndex := 15, descriptorIndex := 16, attributes := #[] }, { accessFlags := 0, nameIndex := 24, descriptorIndex := 16, attributes := #[] }, { accessFlags := 4112, nameIndex := 5, descriptorIndex := 6, attributes := #[] }])
  fields := #[{ name := "cursor", type := .int, accessFlags := 0, slot := 0, constantValue := 0 }, { name := "lastRet", type := .int, accessFlags := 0, slot := 1, constantValue := 0 }, { name := "expectedModCount", type := .int, accessFlags := 0, slot := 2, constantValue := 0 }, { name := "this$0", type := (.object "java/util/ArrayList"), accessFlags := 4112, slot := 3, constantValue := 0 }]
  methods := #[k29m0, k29m1, k29m2, k29m3]
  instanceTypes := #[.int, .int, .int, (.object "java/util/ArrayList")]
  staticTypes := #[]
  resolved := Array.replicate 104 none
  statics := none }

def pool30 : Array CpInfo := pool [(2, .class_ 4), (1, u "java/lang/Object"), (0, u "<init>"), (0, u "()V"), (0, .fieldref 8 9), (0, .class_ 10), (0, .nameAndType 11 12), (0, u "com/example/sixfold/sixfold/rows/Card"), (0, u "HEADS"), (0, u "[B"), (0, .methodref 8 14), (0, .nameAndType 15 16), (0, u "checked"), (0, u "(I)I"), (0, .methodref 8 18), (0, .nameAndType 19 20), (0, u "isCard"), (0, u "(I)Z"), (12, u "LOWEST"), (0, u "I"), (2, u "HIGHEST"), (3, u "heads")] 19

def k30m0 : Method := { name := "<init>", desc := "()V", sig := { parameters := [], returnType := none }, accessFlags := 2, code := none }
def k30c1 : Code := { maxStack := 2, maxLocals := 1, code := prog_41_method_2_code, exceptionTable := #[], attributes := #[] }
def k30m1 : Method := { name := "heads", desc := "(I)I", sig := { parameters := [.int], returnType := some .int }, accessFlags := 9, code := some k30c1 }
def k30c2 : Code := { maxStack := 2, maxLocals := 1, code := prog_41_method_3_code, exceptionTable := #[], attributes := #[] }
def k30m2 : Method := { name := "isCard", desc := "(I)Z", sig := { parameters := [.int], returnType := some .boolean }, accessFlags := 8, code := some k30c2 }
def k30c3 : Code := { maxStack := 3, maxLocals := 1, code := prog_41_method_4_code, exceptionTable := #[], attributes := #[] }
def k30m3 : Method := { name := "checked", desc := "(I)I", sig := { parameters := [.int], returnType := some .int }, accessFlags := 8, code := some k30c3 }
/-- com/example/sixfold/sixfold/rows/Card -/
def k30 : Class := { plain "com/example/sixfold/sixfold/rows/Card" (some 0) with
  accessFlags := 49
  interfaces := #[]
  cf := some (fileOf pool30 8 #[] #[{ accessFlags := 2, nameIndex := 5, descriptorIndex := 6, attributes := #[] }, { accessFlags := 9, nameIndex := 41, descriptorIndex := 16, attributes := #[] }, { accessFlags := 8, nameIndex := 19, descriptorIndex := 20, attributes := #[] }, { accessFlags := 8, nameIndex := 15, descriptorIndex := 16, attributes := #[] }] 49 2 #[] #[{ accessFlags := 25, nameIndex := 33, descriptorIndex := 34, attributes := #[] }, { accessFlags := 25, nameIndex := 37, descriptorIndex := 34, attributes := #[] }, { accessFlags := 26, nameIndex := 11, descriptorIndex := 12, attributes := #[] }])
  fields := #[{ name := "LOWEST", type := .int, accessFlags := 25, slot := 0, constantValue := 0 }, { name := "HIGHEST", type := .int, accessFlags := 25, slot := 1, constantValue := 0 }, { name := "HEADS", type := (.array .byte), accessFlags := 26, slot := 2, constantValue := 0 }]
  methods := #[k30m0, k30m1, k30m2, k30m3]
  instanceTypes := #[]
  staticTypes := #[.int, .int, (.array .byte)]
  resolved := Array.replicate 61 none
  statics := some 2 }

def pool31 : Array CpInfo := pool [(2, .class_ 4), (1, u "java/lang/Object"), (0, u "<init>"), (0, u "()V"), (17, .class_ 26), (1, u "jdk/internal/util/Preconditions"), (6, u "checkIndex"), (21, .class_ 56), (0, u "jdk/internal/util/Preconditions$4"), (57, .class_ 115), (0, u "jdk/internal/util/Preconditions$1"), (7, u "SIOOBE_FORMATTER"), (0, u "Ljava/util/function/BiFunction;"), (0, .class_ 126), (0, u "jdk/internal/util/Preconditions$2"), (3, u "AIOOBE_FORMATTER"), (0, .class_ 132), (0, u "jdk/internal/util/Preconditions$3"), (3, u "IOOBE_FORMATTER"), (41, u "(IILjava/util/function/BiFunction;)I")] 15

def k31m0 : Method := { name := "<init>", desc := "()V", sig := { parameters := [], returnType := none }, accessFlags := 1, code := none }
def k31c1 : Code := { maxStack := 3, maxLocals := 3, code := jdk_41_method_11_code, exceptionTable := #[], attributes := #[] }
def k31m1 : Method := { name := "checkIndex", desc := "(IILjava/util/function/BiFunction;)I", sig := { parameters := [.int, .int, (.object "java/util/function/BiFunction")], returnType := some .int }, accessFlags := 9, code := some k31c1 }
/-- jdk/internal/util/Preconditions -/
def k31 : Class := { plain "jdk/internal/util/Preconditions" (some 0) with
  accessFlags := 33
  interfaces := #[]
  cf := some (fileOf pool31 24 #[.nestMembers #[55, 131, 125, 114]] #[{ accessFlags := 1, nameIndex := 5, descriptorIndex := 6, attributes := #[] }, { accessFlags := 9, nameIndex := 33, descriptorIndex := 178, attributes := #[] }] 33 2 #[] #[{ accessFlags := 25, nameIndex := 123, descriptorIndex := 124, attributes := #[] }, { accessFlags := 25, nameIndex := 130, descriptorIndex := 124, attributes := #[] }, { accessFlags := 25, nameIndex := 136, descriptorIndex := 124, attributes := #[] }])
  fields := #[{ name := "SIOOBE_FORMATTER", type := (.object "java/util/function/BiFunction"), accessFlags := 25, slot := 0, constantValue := 0 }, { name := "AIOOBE_FORMATTER", type := (.object "java/util/function/BiFunction"), accessFlags := 25, slot := 1, constantValue := 0 }, { name := "IOOBE_FORMATTER", type := (.object "java/util/function/BiFunction"), accessFlags := 25, slot := 2, constantValue := 0 }]
  methods := #[k31m0, k31m1]
  instanceTypes := #[]
  staticTypes := #[(.object "java/util/function/BiFunction"), (.object "java/util/function/BiFunction"), (.object "java/util/function/BiFunction")]
  resolved := Array.replicate 194 none
  statics := none }

def pool32 : Array CpInfo := pool [(1, .class_ 2), (0, u "java/lang/Long"), (15, .class_ 20), (1, u "java/lang/Integer"), (79, u "numberOfLeadingZeros"), (0, u "(J)I"), (133, .class_ 237), (1, u "java/lang/Long$LongCache"), (33, .class_ 272), (0, u "java/lang/Number"), (2, u "value"), (0, u "J"), (31, .methodref 18 309), (0, .nameAndType 100 310), (0, u "(I)I"), (0, .methodref 18 312), (0, .nameAndType 313 310), (0, u "numberOfTrailingZeros"), (47, u "TYPE"), (0, u "Ljava/lang/Class;"), (0, .class_ 364), (0, u "java/lang/Comparable"), (0, .class_ 366), (0, u "java/lang/constant/Constable"), (0, .class_ 368), (0, u "java/lang/constant/ConstantDesc"), (0, u "MIN_VALUE"), (1, u "MAX_VALUE"), (4, u "SIZE"), (0, u "I"), (1, u "BYTES"), (1, u "serialVersionUID")] 142

def k32c0 : Code := { maxStack := 3, maxLocals := 3, code := jdk_35_method_48_code, exceptionTable := #[], attributes := #[] }
def k32m0 : Method := { name := "numberOfLeadingZeros", desc := "(J)I", sig := { parameters := [.long], returnType := some .int }, accessFlags := 9, code := some k32c0 }
def k32c1 : Code := { maxStack := 4, maxLocals := 3, code := jdk_35_method_49_code, exceptionTable := #[], attributes := #[] }
def k32m1 : Method := { name := "numberOfTrailingZeros", desc := "(J)I", sig := { parameters := [.long], returnType := some .int }, accessFlags := 9, code := some k32c1 }
/-- java/lang/Long -/
def k32 : Class := { plain "java/lang/Long" (some 12) with
  accessFlags := 49
  interfaces := #[13, 14, 15]
  cf := some (fileOf pool32 1 #[.nestMembers #[235]] #[{ accessFlags := 9, nameIndex := 100, descriptorIndex := 101, attributes := #[] }, { accessFlags := 9, nameIndex := 313, descriptorIndex := 101, attributes := #[] }] 49 271 #[363, 365, 367] #[{ accessFlags := 25, nameIndex := 369, descriptorIndex := 276, attributes := #[] }, { accessFlags := 25, nameIndex := 371, descriptorIndex := 276, attributes := #[] }, { accessFlags := 25, nameIndex := 361, descriptorIndex := 362, attributes := #[] }, { accessFlags := 18, nameIndex := 275, descriptorIndex := 276, attributes := #[] }, { accessFlags := 25, nameIndex := 376, descriptorIndex := 377, attributes := #[] }, { accessFlags := 25, nameIndex := 379, descriptorIndex := 377, attributes := #[] }, { accessFlags := 26, nameIndex := 381, descriptorIndex := 276, attributes := #[] }])
  fields := #[{ name := "MIN_VALUE", type := .long, accessFlags := 25, slot := 0, constantValue := 0 }, { name := "MAX_VALUE", type := .long, accessFlags := 25, slot := 1, constantValue := 0 }, { name := "TYPE", type := (.object "java/lang/Class"), accessFlags := 25, slot := 2, constantValue := 0 }, { name := "value", type := .long, accessFlags := 18, slot := 0, constantValue := 0 }, { name := "SIZE", type := .int, accessFlags := 25, slot := 3, constantValue := 0 }, { name := "BYTES", type := .int, accessFlags := 25, slot := 4, constantValue := 0 }, { name := "serialVersionUID", type := .long, accessFlags := 26, slot := 5, constantValue := 0 }]
  methods := #[k32m0, k32m1]
  instanceTypes := #[.long]
  staticTypes := #[.long, .long, (.object "java/lang/Class"), .int, .int, .long]
  resolved := Array.replicate 524 none
  statics := none }

/-- the primitive byte -/
def k33 : Class := { plain "byte" none with kind := .primitive 'B', accessFlags := 0x411 }
/-- [B -/
def k34 : Class := { plain "[B" (some 0) with kind := .array 33 .byte, interfaces := #[9, 10], accessFlags := 1041 }

/-- the primitive int -/
def k35 : Class := { plain "int" none with kind := .primitive 'I', accessFlags := 0x411 }
/-- [I -/
def k36 : Class := { plain "[I" (some 0) with kind := .array 35 .int, interfaces := #[9, 10], accessFlags := 1041 }

/-- the primitive long -/
def k37 : Class := { plain "long" none with kind := .primitive 'J', accessFlags := 0x411 }
/-- [J -/
def k38 : Class := { plain "[J" (some 0) with kind := .array 37 .long, interfaces := #[9, 10], accessFlags := 1041 }

/-- [Lcom/example/sixfold/sixfold/rows/IntList; -/
def k39 : Class := { plain "[Lcom/example/sixfold/sixfold/rows/IntList;" (some 0) with kind := .array 21 (.object "com/example/sixfold/sixfold/rows/IntList"), interfaces := #[9, 10], accessFlags := 1041 }

/-- [Ljava/lang/Integer; -/
def k40 : Class := { plain "[Ljava/lang/Integer;" (some 0) with kind := .array 16 (.object "java/lang/Integer"), interfaces := #[9, 10], accessFlags := 1041 }

/-- [Ljava/lang/Object; -/
def k41 : Class := { plain "[Ljava/lang/Object;" (some 0) with kind := .array 0 (.object "java/lang/Object"), interfaces := #[9, 10], accessFlags := 1041 }

def wc (z : Int32) : Cell := { cls := 16, slots := #[.int z], vm := .none }
def heap : Heap := #[{ cls := 11, slots := #[.long 0, .int 0, .ref 261, .ref 262], vm := .statics 11 },
  { cls := 17, slots := #[.int 0, .int 127, .ref 3, .null, .int 0], vm := .statics 17 },
  { cls := 30, slots := #[.int 0, .int 0, .ref 260], vm := .statics 30 },
  { cls := 40, slots := #[.ref 4, .ref 5, .ref 6, .ref 7, .ref 8, .ref 9, .ref 10, .ref 11, .ref 12, .ref 13, .ref 14, .ref 15, .ref 16, .ref 17, .ref 18, .ref 19, .ref 20, .ref 21, .ref 22, .ref 23, .ref 24, .ref 25, .ref 26, .ref 27, .ref 28, .ref 29, .ref 30, .ref 31, .ref 32, .ref 33, .ref 34, .ref 35, .ref 36, .ref 37, .ref 38, .ref 39, .ref 40, .ref 41, .ref 42, .ref 43, .ref 44, .ref 45, .ref 46, .ref 47, .ref 48, .ref 49, .ref 50, .ref 51, .ref 52, .ref 53, .ref 54, .ref 55, .ref 56, .ref 57, .ref 58, .ref 59, .ref 60, .ref 61, .ref 62, .ref 63, .ref 64, .ref 65, .ref 66, .ref 67, .ref 68, .ref 69, .ref 70, .ref 71, .ref 72, .ref 73, .ref 74, .ref 75, .ref 76, .ref 77, .ref 78, .ref 79, .ref 80, .ref 81, .ref 82, .ref 83, .ref 84, .ref 85, .ref 86, .ref 87, .ref 88, .ref 89, .ref 90, .ref 91, .ref 92, .ref 93, .ref 94, .ref 95, .ref 96, .ref 97, .ref 98, .ref 99, .ref 100, .ref 101, .ref 102, .ref 103, .ref 104, .ref 105, .ref 106, .ref 107, .ref 108, .ref 109, .ref 110, .ref 111, .ref 112, .ref 113, .ref 114, .ref 115, .ref 116, .ref 117, .ref 118, .ref 119, .ref 120, .ref 121, .ref 122, .ref 123, .ref 124, .ref 125, .ref 126, .ref 127, .ref 128, .ref 129, .ref 130, .ref 131, .ref 132, .ref 133, .ref 134, .ref 135, .ref 136, .ref 137, .ref 138, .ref 139, .ref 140, .ref 141, .ref 142, .ref 143, .ref 144, .ref 145, .ref 146, .ref 147, .ref 148, .ref 149, .ref 150, .ref 151, .ref 152, .ref 153, .ref 154, .ref 155, .ref 156, .ref 157, .ref 158, .ref 159, .ref 160, .ref 161, .ref 162, .ref 163, .ref 164, .ref 165, .ref 166, .ref 167, .ref 168, .ref 169, .ref 170, .ref 171, .ref 172, .ref 173, .ref 174, .ref 175, .ref 176, .ref 177, .ref 178, .ref 179, .ref 180, .ref 181, .ref 182, .ref 183, .ref 184, .ref 185, .ref 186, .ref 187, .ref 188, .ref 189, .ref 190, .ref 191, .ref 192, .ref 193, .ref 194, .ref 195, .ref 196, .ref 197, .ref 198, .ref 199, .ref 200, .ref 201, .ref 202, .ref 203, .ref 204, .ref 205, .ref 206, .ref 207, .ref 208, .ref 209, .ref 210, .ref 211, .ref 212, .ref 213, .ref 214, .ref 215, .ref 216, .ref 217, .ref 218, .ref 219, .ref 220, .ref 221, .ref 222, .ref 223, .ref 224, .ref 225, .ref 226, .ref 227, .ref 228, .ref 229, .ref 230, .ref 231, .ref 232, .ref 233, .ref 234, .ref 235, .ref 236, .ref 237, .ref 238, .ref 239, .ref 240, .ref 241, .ref 242, .ref 243, .ref 244, .ref 245, .ref 246, .ref 247, .ref 248, .ref 249, .ref 250, .ref 251, .ref 252, .ref 253, .ref 254, .ref 255, .ref 256, .ref 257, .ref 258, .ref 259], vm := .none },
  wc (-128),
  wc (-127),
  wc (-126),
  wc (-125),
  wc (-124),
  wc (-123),
  wc (-122),
  wc (-121),
  wc (-120),
  wc (-119),
  wc (-118),
  wc (-117),
  wc (-116),
  wc (-115),
  wc (-114),
  wc (-113),
  wc (-112),
  wc (-111),
  wc (-110),
  wc (-109),
  wc (-108),
  wc (-107),
  wc (-106),
  wc (-105),
  wc (-104),
  wc (-103),
  wc (-102),
  wc (-101),
  wc (-100),
  wc (-99),
  wc (-98),
  wc (-97),
  wc (-96),
  wc (-95),
  wc (-94),
  wc (-93),
  wc (-92),
  wc (-91),
  wc (-90),
  wc (-89),
  wc (-88),
  wc (-87),
  wc (-86),
  wc (-85),
  wc (-84),
  wc (-83),
  wc (-82),
  wc (-81),
  wc (-80),
  wc (-79),
  wc (-78),
  wc (-77),
  wc (-76),
  wc (-75),
  wc (-74),
  wc (-73),
  wc (-72),
  wc (-71),
  wc (-70),
  wc (-69),
  wc (-68),
  wc (-67),
  wc (-66),
  wc (-65),
  wc (-64),
  wc (-63),
  wc (-62),
  wc (-61),
  wc (-60),
  wc (-59),
  wc (-58),
  wc (-57),
  wc (-56),
  wc (-55),
  wc (-54),
  wc (-53),
  wc (-52),
  wc (-51),
  wc (-50),
  wc (-49),
  wc (-48),
  wc (-47),
  wc (-46),
  wc (-45),
  wc (-44),
  wc (-43),
  wc (-42),
  wc (-41),
  wc (-40),
  wc (-39),
  wc (-38),
  wc (-37),
  wc (-36),
  wc (-35),
  wc (-34),
  wc (-33),
  wc (-32),
  wc (-31),
  wc (-30),
  wc (-29),
  wc (-28),
  wc (-27),
  wc (-26),
  wc (-25),
  wc (-24),
  wc (-23),
  wc (-22),
  wc (-21),
  wc (-20),
  wc (-19),
  wc (-18),
  wc (-17),
  wc (-16),
  wc (-15),
  wc (-14),
  wc (-13),
  wc (-12),
  wc (-11),
  wc (-10),
  wc (-9),
  wc (-8),
  wc (-7),
  wc (-6),
  wc (-5),
  wc (-4),
  wc (-3),
  wc (-2),
  wc (-1),
  wc (0),
  wc (1),
  wc (2),
  wc (3),
  wc (4),
  wc (5),
  wc (6),
  wc (7),
  wc (8),
  wc (9),
  wc (10),
  wc (11),
  wc (12),
  wc (13),
  wc (14),
  wc (15),
  wc (16),
  wc (17),
  wc (18),
  wc (19),
  wc (20),
  wc (21),
  wc (22),
  wc (23),
  wc (24),
  wc (25),
  wc (26),
  wc (27),
  wc (28),
  wc (29),
  wc (30),
  wc (31),
  wc (32),
  wc (33),
  wc (34),
  wc (35),
  wc (36),
  wc (37),
  wc (38),
  wc (39),
  wc (40),
  wc (41),
  wc (42),
  wc (43),
  wc (44),
  wc (45),
  wc (46),
  wc (47),
  wc (48),
  wc (49),
  wc (50),
  wc (51),
  wc (52),
  wc (53),
  wc (54),
  wc (55),
  wc (56),
  wc (57),
  wc (58),
  wc (59),
  wc (60),
  wc (61),
  wc (62),
  wc (63),
  wc (64),
  wc (65),
  wc (66),
  wc (67),
  wc (68),
  wc (69),
  wc (70),
  wc (71),
  wc (72),
  wc (73),
  wc (74),
  wc (75),
  wc (76),
  wc (77),
  wc (78),
  wc (79),
  wc (80),
  wc (81),
  wc (82),
  wc (83),
  wc (84),
  wc (85),
  wc (86),
  wc (87),
  wc (88),
  wc (89),
  wc (90),
  wc (91),
  wc (92),
  wc (93),
  wc (94),
  wc (95),
  wc (96),
  wc (97),
  wc (98),
  wc (99),
  wc (100),
  wc (101),
  wc (102),
  wc (103),
  wc (104),
  wc (105),
  wc (106),
  wc (107),
  wc (108),
  wc (109),
  wc (110),
  wc (111),
  wc (112),
  wc (113),
  wc (114),
  wc (115),
  wc (116),
  wc (117),
  wc (118),
  wc (119),
  wc (120),
  wc (121),
  wc (122),
  wc (123),
  wc (124),
  wc (125),
  wc (126),
  wc (127),
  { cls := 34, slots := #[.int 0, .int 1, .int 1, .int 1, .int 1, .int 2, .int 1, .int 1, .int 1, .int 1, .int 3, .int 5, .int 1, .int 1, .int 1, .int 2, .int 1, .int 1, .int 1, .int 1, .int 3, .int 1, .int 5, .int 1, .int 1, .int 2, .int 1, .int 1, .int 1, .int 1, .int 3, .int 1, .int 1, .int 5, .int 1, .int 2, .int 1, .int 1, .int 1, .int 1, .int 3, .int 1, .int 1, .int 1, .int 5, .int 2, .int 1, .int 1, .int 1, .int 1, .int 3, .int 1, .int 1, .int 1, .int 1, .int 7, .int 1, .int 1, .int 1, .int 1, .int 3, .int 1, .int 1, .int 1, .int 1, .int 2, .int 5, .int 1, .int 1, .int 1, .int 3, .int 1, .int 1, .int 1, .int 1, .int 2, .int 1, .int 5, .int 1, .int 1, .int 3, .int 1, .int 1, .int 1, .int 1, .int 2, .int 1, .int 1, .int 5, .int 1, .int 3, .int 1, .int 1, .int 1, .int 1, .int 2, .int 1, .int 1, .int 1, .int 5, .int 3, .int 1, .int 1, .int 1, .int 1], vm := .none },
  { cls := 41, slots := #[], vm := .none },
  { cls := 41, slots := #[], vm := .none }]
def classes : Array Class := #[k0, k1, k2, k3, k4, k5, k6, k7, k8, k9, k10, k11, k12, k13, k14, k15, k16, k17, k18, k19, k20, k21, k22, k23, k24, k25, k26, k27, k28, k29, k30, k31, k32, k33, k34, k35, k36, k37, k38, k39, k40, k41]
def interned : List (Array UInt16 × Addr) := []
def slotsUsed : Nat := 629
def theMethod : MethodId := ⟨1, 3⟩
def args0 : Array Value := #[.int 0, .int 0, .int 0, .int 0, .int 0, .int 0]
def aboutOver (below : List Frame) : State where
  vm := { classes := classes, interned := interned.toArray }
  heap := heap
  slotsUsed := slotsUsed
  threads := #[{ frames := .invoking theMethod args0 :: below }]
def below0 : List Frame := [.native { method := ⟨0, 0⟩, args := #[] }]
def about1 : State := aboutOver below0
def p0 : Program := .bare "" "" ""
def e0 : Env := launch0.env 0 0 0
theorem w_frames : about1.frames = Frame.invoking theMethod args0 :: below0 := rfl
set_option maxRecDepth 65536 in
theorem w_args : argsFit about1.vm theMethod args0 = true := by decide +kernel
set_option maxRecDepth 65536 in
theorem w_heap : heapFits about1 = true := by decide +kernel
set_option maxRecDepth 65536 in
theorem w_runnable : about1.curStatus? = some .runnable := by decide +kernel
set_option maxRecDepth 65536 in
theorem w_alone : about1.alone = true := by decide +kernel
set_option maxRecDepth 65536 in
theorem w_named : about1.methodNamed? x = some theMethod := by decide +kernel
set_option maxRecDepth 65536 in
theorem w_hears : about1.hears theMethod below0 = true := by decide +kernel
set_option maxRecDepth 65536 in
theorem w_ripe : about1.ripe theMethod args0 below0 = true := by decide +kernel
theorem w_running : about1.status = .running := rfl
set_option maxRecDepth 65536 in
theorem w_room : about1.hasRoom e0.platform room_1 = true :=
  launch0.hasRoom_least _ room_1 (by decide +kernel) (by decide +kernel) (by decide +kernel) (by decide +kernel) (by decide +kernel) (by decide +kernel)
theorem allAtoms_all (ts : List Jvm.Cond) (a : Array Jvm.Value) (st : Jvm.State) : (allAtoms ts).before a st = ts.all (fun c => c.before a st) := by
  induction ts with
  | nil => rfl
  | cons c t ih =>
    show (Jvm.Cond.and c (allAtoms t)).before a st = _
    rw [Jvm.Cond.before_and, ih, List.all_cons]
def words1 : List Jvm.Cond := Jvm.Cond.code x code maxLocals ret :: tables_1
/-- a 'code' word, met by the world's own term for the bytes: nothing is compared byte by byte -/
theorem code_word {y : MethodName} {bytes : ByteArray} {mx : Nat} {rt : Option FieldType} {a : Array Value} {s : State} {m : MethodId} {meth : Method} {c : Code} (h1 : s.methodNamed? y = some m) (h2 : s.vm.method? m = some meth) (h3 : meth.code = some c) (h4 : c.code = bytes)
    (h5 : (c.maxLocals == mx && c.exceptionTable.isEmpty && decide (c.maxStack ≤ mostOperands) && decide (meth.sig.returnType = rt) && !meth.locks && decide (parseMethodDescriptor y.desc = some meth.sig)) = true) : (Jvm.Cond.code y bytes mx rt).before a s = true := by
  simp only [Bool.and_eq_true, beq_iff_eq, Bool.not_eq_true', decide_eq_true_eq] at h5
  obtain ⟨⟨⟨⟨⟨g1, g2⟩, g3⟩, g4⟩, g5⟩, g6⟩ := h5
  simp [Cond.before, Cond.holds, Cond.value, h1, h2, h3, h4, g1, g2, g3, g4, g5, g6]
def isCode : Jvm.Cond → Bool
  | .code _ _ _ _ => true
  | _ => false
theorem all_split {L : List Jvm.Cond} {P : Jvm.Cond → Bool} (h1 : L.all (fun c => isCode c || P c) = true) (h2 : ∀ c ∈ L.filter isCode, P c = true) : L.all P = true := by
  refine List.all_eq_true.mpr fun c hc => ?_
  have h := List.all_eq_true.mp h1 c hc
  rcases Bool.eq_false_or_eq_true (isCode c) with hi | hi
  · exact h2 c (List.mem_filter.mpr ⟨hc, hi⟩)
  · simpa [hi] using h
set_option maxRecDepth 65536 in
theorem w_c0 : (Jvm.Cond.code x code maxLocals ret).before args0 about1 = true := code_word (m := ⟨1, 3⟩) (meth := k1m3) (c := k1c3) (by decide +kernel) rfl rfl rfl (by decide +kernel)
set_option maxRecDepth 65536 in
theorem w_c1 : (Jvm.Cond.code ({ cls := "com/example/sixfold/sixfold/rows/TableWaitingPinLaw", name := "card", desc := "(I)I" } : Jvm.MethodName) method_2_code (2 : Nat) (Option.some Jvm.ClassFile.FieldType.int)).before args0 about1 = true := code_word (m := ⟨1, 1⟩) (meth := k1m1) (c := k1c1) (by decide +kernel) rfl rfl rfl (by decide +kernel)
set_option maxRecDepth 65536 in
theorem w_c2 : (Jvm.Cond.code ({ cls := "java/util/ArrayList", name := "<init>", desc := "()V" } : Jvm.MethodName) jdk_38_method_2_code (1 : Nat) (Option.none : Option Jvm.ClassFile.FieldType)).before args0 about1 = true := code_word (m := ⟨11, 0⟩) (meth := k11m0) (c := k11c0) (by decide +kernel) rfl rfl rfl (by decide +kernel)
set_option maxRecDepth 65536 in
theorem w_c3 : (Jvm.Cond.code ({ cls := "java/util/AbstractList", name := "<init>", desc := "()V" } : Jvm.MethodName) jdk_39_method_1_code (1 : Nat) (Option.none : Option Jvm.ClassFile.FieldType)).before args0 about1 = true := code_word (m := ⟨7, 0⟩) (meth := k7m0) (c := k7c0) (by decide +kernel) rfl rfl rfl (by decide +kernel)
set_option maxRecDepth 65536 in
theorem w_c4 : (Jvm.Cond.code ({ cls := "java/util/AbstractCollection", name := "<init>", desc := "()V" } : Jvm.MethodName) jdk_22_method_1_code (1 : Nat) (Option.none : Option Jvm.ClassFile.FieldType)).before args0 about1 = true := code_word (m := ⟨4, 0⟩) (meth := k4m0) (c := k4c0) (by decide +kernel) rfl rfl rfl (by decide +kernel)
set_option maxRecDepth 65536 in
theorem w_c5 : (Jvm.Cond.code ({ cls := "java/lang/Object", name := "<init>", desc := "()V" } : Jvm.MethodName) object_method_1_code (1 : Nat) (Option.none : Option Jvm.ClassFile.FieldType)).before args0 about1 = true := code_word (m := ⟨0, 0⟩) (meth := k0m0) (c := k0c0) (by decide +kernel) rfl rfl rfl (by decide +kernel)
set_option maxRecDepth 65536 in
theorem w_c6 : (Jvm.Cond.code ({ cls := "com/example/sixfold/sixfold/rows/TableWaitingPinLaw", name := "startAt", desc := "(III)I" } : Jvm.MethodName) method_3_code (3 : Nat) (Option.some Jvm.ClassFile.FieldType.int)).before args0 about1 = true := code_word (m := ⟨1, 2⟩) (meth := k1m2) (c := k1c2) (by decide +kernel) rfl rfl rfl (by decide +kernel)
set_option maxRecDepth 65536 in
theorem w_c7 : (Jvm.Cond.code ({ cls := "java/lang/Integer", name := "valueOf", desc := "(I)Ljava/lang/Integer;" } : Jvm.MethodName) jdk_33_method_22_code (1 : Nat) (Option.some (Jvm.ClassFile.FieldType.object "java/lang/Integer"))).before args0 about1 = true := code_word (m := ⟨16, 0⟩) (meth := k16m0) (c := k16c0) (by decide +kernel) rfl rfl rfl (by decide +kernel)
set_option maxRecDepth 65536 in
theorem w_c8 : (Jvm.Cond.code ({ cls := "java/util/ArrayList", name := "add", desc := "(Ljava/lang/Object;)Z" } : Jvm.MethodName) jdk_38_method_25_code (2 : Nat) (Option.some Jvm.ClassFile.FieldType.boolean)).before args0 about1 = true := code_word (m := ⟨11, 7⟩) (meth := k11m7) (c := k11c7) (by decide +kernel) rfl rfl rfl (by decide +kernel)
set_option maxRecDepth 65536 in
theorem w_c9 : (Jvm.Cond.code ({ cls := "java/util/ArrayList", name := "add", desc := "(Ljava/lang/Object;[Ljava/lang/Object;I)V" } : Jvm.MethodName) jdk_38_method_24_code (4 : Nat) (Option.none : Option Jvm.ClassFile.FieldType)).before args0 about1 = true := code_word (m := ⟨11, 6⟩) (meth := k11m6) (c := k11c6) (by decide +kernel) rfl rfl rfl (by decide +kernel)
set_option maxRecDepth 65536 in
theorem w_c10 : (Jvm.Cond.code ({ cls := "java/util/ArrayList", name := "grow", desc := "()[Ljava/lang/Object;" } : Jvm.MethodName) jdk_38_method_7_code (1 : Nat) (Option.some (Jvm.ClassFile.FieldType.array (Jvm.ClassFile.FieldType.object "java/lang/Object")))).before args0 about1 = true := code_word (m := ⟨11, 2⟩) (meth := k11m2) (c := k11c2) (by decide +kernel) rfl rfl rfl (by decide +kernel)
set_option maxRecDepth 65536 in
theorem w_c11 : (Jvm.Cond.code ({ cls := "java/util/ArrayList", name := "grow", desc := "(I)[Ljava/lang/Object;" } : Jvm.MethodName) jdk_38_method_6_code (4 : Nat) (Option.some (Jvm.ClassFile.FieldType.array (Jvm.ClassFile.FieldType.object "java/lang/Object")))).before args0 about1 = true := code_word (m := ⟨11, 1⟩) (meth := k11m1) (c := k11c1) (by decide +kernel) rfl rfl rfl (by decide +kernel)
set_option maxRecDepth 65536 in
theorem w_c12 : (Jvm.Cond.code ({ cls := "java/lang/Math", name := "max", desc := "(II)I" } : Jvm.MethodName) jdk_29_method_65_code (2 : Nat) (Option.some Jvm.ClassFile.FieldType.int)).before args0 about1 = true := code_word (m := ⟨18, 1⟩) (meth := k18m1) (c := k18c1) (by decide +kernel) rfl rfl rfl (by decide +kernel)
set_option maxRecDepth 65536 in
theorem w_c13 : (Jvm.Cond.code ({ cls := "com/example/sixfold/sixfold/rows/Table", name := "<init>", desc := "(I)V" } : Jvm.MethodName) prog_66_method_1_code (3 : Nat) (Option.none : Option Jvm.ClassFile.FieldType)).before args0 about1 = true := code_word (m := ⟨19, 0⟩) (meth := k19m0) (c := k19c0) (by decide +kernel) rfl rfl rfl (by decide +kernel)
set_option maxRecDepth 65536 in
theorem w_c14 : (Jvm.Cond.code ({ cls := "com/example/sixfold/sixfold/rows/Rows", name := "<init>", desc := "()V" } : Jvm.MethodName) prog_55_method_1_code (2 : Nat) (Option.none : Option Jvm.ClassFile.FieldType)).before args0 about1 = true := code_word (m := ⟨20, 0⟩) (meth := k20m0) (c := k20c0) (by decide +kernel) rfl rfl rfl (by decide +kernel)
set_option maxRecDepth 65536 in
theorem w_c15 : (Jvm.Cond.code ({ cls := "com/example/sixfold/sixfold/rows/CardSet", name := "<init>", desc := "()V" } : Jvm.MethodName) prog_42_method_1_code (1 : Nat) (Option.none : Option Jvm.ClassFile.FieldType)).before args0 about1 = true := code_word (m := ⟨22, 0⟩) (meth := k22m0) (c := k22c0) (by decide +kernel) rfl rfl rfl (by decide +kernel)
set_option maxRecDepth 65536 in
theorem w_c16 : (Jvm.Cond.code ({ cls := "com/example/sixfold/sixfold/rows/IntList", name := "<init>", desc := "(I)V" } : Jvm.MethodName) prog_45_method_1_code (2 : Nat) (Option.none : Option Jvm.ClassFile.FieldType)).before args0 about1 = true := code_word (m := ⟨21, 0⟩) (meth := k21m0) (c := k21c0) (by decide +kernel) rfl rfl rfl (by decide +kernel)
set_option maxRecDepth 65536 in
theorem w_c17 : (Jvm.Cond.code ({ cls := "java/util/List", name := "of", desc := "([Ljava/lang/Object;)Ljava/util/List;" } : Jvm.MethodName) jdk_40_method_47_code (2 : Nat) (Option.some (Jvm.ClassFile.FieldType.object "java/util/List"))).before args0 about1 = true := code_word (m := ⟨6, 3⟩) (meth := k6m3) (c := k6c3) (by decide +kernel) rfl rfl rfl (by decide +kernel)
set_option maxRecDepth 65536 in
theorem w_c18 : (Jvm.Cond.code ({ cls := "java/util/ImmutableCollections", name := "listFromArray", desc := "([Ljava/lang/Object;)Ljava/util/List;" } : Jvm.MethodName) jdk_56_method_4_code (3 : Nat) (Option.some (Jvm.ClassFile.FieldType.object "java/util/List"))).before args0 about1 = true := code_word (m := ⟨23, 1⟩) (meth := k23m1) (c := k23c1) (by decide +kernel) rfl rfl rfl (by decide +kernel)
set_option maxRecDepth 65536 in
theorem w_c19 : (Jvm.Cond.code ({ cls := "java/util/Objects", name := "requireNonNull", desc := "(Ljava/lang/Object;)Ljava/lang/Object;" } : Jvm.MethodName) jdk_31_method_10_code (1 : Nat) (Option.some (Jvm.ClassFile.FieldType.object "java/lang/Object"))).before args0 about1 = true := code_word (m := ⟨24, 1⟩) (meth := k24m1) (c := k24c1) (by decide +kernel) rfl rfl rfl (by decide +kernel)
set_option maxRecDepth 65536 in
theorem w_c20 : (Jvm.Cond.code ({ cls := "java/util/ImmutableCollections$ListN", name := "<init>", desc := "([Ljava/lang/Object;Z)V" } : Jvm.MethodName) jdk_45_method_1_code (3 : Nat) (Option.none : Option Jvm.ClassFile.FieldType)).before args0 about1 = true := code_word (m := ⟨27, 0⟩) (meth := k27m0) (c := k27c0) (by decide +kernel) rfl rfl rfl (by decide +kernel)
set_option maxRecDepth 65536 in
theorem w_c21 : (Jvm.Cond.code ({ cls := "java/util/ImmutableCollections$AbstractImmutableList", name := "<init>", desc := "()V" } : Jvm.MethodName) jdk_46_method_1_code (1 : Nat) (Option.none : Option Jvm.ClassFile.FieldType)).before args0 about1 = true := code_word (m := ⟨26, 0⟩) (meth := k26m0) (c := k26c0) (by decide +kernel) rfl rfl rfl (by decide +kernel)
set_option maxRecDepth 65536 in
theorem w_c22 : (Jvm.Cond.code ({ cls := "java/util/ImmutableCollections$AbstractImmutableCollection", name := "<init>", desc := "()V" } : Jvm.MethodName) jdk_47_method_1_code (1 : Nat) (Option.none : Option Jvm.ClassFile.FieldType)).before args0 about1 = true := code_word (m := ⟨25, 0⟩) (meth := k25m0) (c := k25c0) (by decide +kernel) rfl rfl rfl (by decide +kernel)
set_option maxRecDepth 65536 in
theorem w_c23 : (Jvm.Cond.code ({ cls := "com/example/sixfold/sixfold/rows/IntList", name := "append", desc := "(I)V" } : Jvm.MethodName) prog_45_method_6_code (2 : Nat) (Option.none : Option Jvm.ClassFile.FieldType)).before args0 about1 = true := code_word (m := ⟨21, 4⟩) (meth := k21m4) (c := k21c4) (by decide +kernel) rfl rfl rfl (by decide +kernel)
set_option maxRecDepth 65536 in
theorem w_c24 : (Jvm.Cond.code ({ cls := "com/example/sixfold/sixfold/rows/Table", name := "waiting", desc := "()I" } : Jvm.MethodName) prog_66_method_5_code (1 : Nat) (Option.some Jvm.ClassFile.FieldType.int)).before args0 about1 = true := code_word (m := ⟨19, 3⟩) (meth := k19m3) (c := k19c3) (by decide +kernel) rfl rfl rfl (by decide +kernel)
set_option maxRecDepth 65536 in
theorem w_c25 : (Jvm.Cond.code ({ cls := "com/example/sixfold/sixfold/rows/Table", name := "deal", desc := "(Ljava/util/List;)V" } : Jvm.MethodName) prog_66_method_2_code (4 : Nat) (Option.none : Option Jvm.ClassFile.FieldType)).before args0 about1 = true := code_word (m := ⟨19, 1⟩) (meth := k19m1) (c := k19c1) (by decide +kernel) rfl rfl rfl (by decide +kernel)
set_option maxRecDepth 65536 in
theorem w_c26 : (Jvm.Cond.code ({ cls := "java/util/ArrayList", name := "size", desc := "()I" } : Jvm.MethodName) jdk_38_method_8_code (1 : Nat) (Option.some Jvm.ClassFile.FieldType.int)).before args0 about1 = true := code_word (m := ⟨11, 3⟩) (meth := k11m3) (c := k11c3) (by decide +kernel) rfl rfl rfl (by decide +kernel)
set_option maxRecDepth 65536 in
theorem w_c27 : (Jvm.Cond.code ({ cls := "com/example/sixfold/sixfold/rows/CardSet", name := "empty", desc := "()V" } : Jvm.MethodName) prog_42_method_12_code (1 : Nat) (Option.none : Option Jvm.ClassFile.FieldType)).before args0 about1 = true := code_word (m := ⟨22, 6⟩) (meth := k22m6) (c := k22c6) (by decide +kernel) rfl rfl rfl (by decide +kernel)
set_option maxRecDepth 65536 in
theorem w_c28 : (Jvm.Cond.code ({ cls := "com/example/sixfold/sixfold/rows/IntList", name := "empty", desc := "()V" } : Jvm.MethodName) prog_45_method_8_code (1 : Nat) (Option.none : Option Jvm.ClassFile.FieldType)).before args0 about1 = true := code_word (m := ⟨21, 6⟩) (meth := k21m6) (c := k21c6) (by decide +kernel) rfl rfl rfl (by decide +kernel)
set_option maxRecDepth 65536 in
theorem w_c29 : (Jvm.Cond.code ({ cls := "java/util/ArrayList", name := "iterator", desc := "()Ljava/util/Iterator;" } : Jvm.MethodName) jdk_38_method_55_code (1 : Nat) (Option.some (Jvm.ClassFile.FieldType.object "java/util/Iterator"))).before args0 about1 = true := code_word (m := ⟨11, 8⟩) (meth := k11m8) (c := k11c8) (by decide +kernel) rfl rfl rfl (by decide +kernel)
set_option maxRecDepth 65536 in
theorem w_c30 : (Jvm.Cond.code ({ cls := "java/util/ArrayList$Itr", name := "<init>", desc := "(Ljava/util/ArrayList;)V" } : Jvm.MethodName) jdk_49_method_1_code (2 : Nat) (Option.none : Option Jvm.ClassFile.FieldType)).before args0 about1 = true := code_word (m := ⟨29, 0⟩) (meth := k29m0) (c := k29c0) (by decide +kernel) rfl rfl rfl (by decide +kernel)
set_option maxRecDepth 65536 in
theorem w_c31 : (Jvm.Cond.code ({ cls := "java/util/ArrayList$Itr", name := "hasNext", desc := "()Z" } : Jvm.MethodName) jdk_49_method_2_code (1 : Nat) (Option.some Jvm.ClassFile.FieldType.boolean)).before args0 about1 = true := code_word (m := ⟨29, 1⟩) (meth := k29m1) (c := k29c1) (by decide +kernel) rfl rfl rfl (by decide +kernel)
set_option maxRecDepth 65536 in
theorem w_c32 : (Jvm.Cond.code ({ cls := "java/util/ArrayList$Itr", name := "next", desc := "()Ljava/lang/Object;" } : Jvm.MethodName) jdk_49_method_3_code (3 : Nat) (Option.some (Jvm.ClassFile.FieldType.object "java/lang/Object"))).before args0 about1 = true := code_word (m := ⟨29, 2⟩) (meth := k29m2) (c := k29c2) (by decide +kernel) rfl rfl rfl (by decide +kernel)
set_option maxRecDepth 65536 in
theorem w_c33 : (Jvm.Cond.code ({ cls := "java/util/ArrayList$Itr", name := "checkForComodification", desc := "()V" } : Jvm.MethodName) jdk_49_method_6_code (1 : Nat) (Option.none : Option Jvm.ClassFile.FieldType)).before args0 about1 = true := code_word (m := ⟨29, 3⟩) (meth := k29m3) (c := k29c3) (by decide +kernel) rfl rfl rfl (by decide +kernel)
set_option maxRecDepth 65536 in
theorem w_c34 : (Jvm.Cond.code ({ cls := "java/lang/Integer", name := "intValue", desc := "()I" } : Jvm.MethodName) jdk_33_method_27_code (1 : Nat) (Option.some Jvm.ClassFile.FieldType.int)).before args0 about1 = true := code_word (m := ⟨16, 1⟩) (meth := k16m1) (c := k16c1) (by decide +kernel) rfl rfl rfl (by decide +kernel)
set_option maxRecDepth 65536 in
theorem w_c35 : (Jvm.Cond.code ({ cls := "com/example/sixfold/sixfold/rows/Table", name := "playable", desc := "(I)Z" } : Jvm.MethodName) prog_66_method_11_code (2 : Nat) (Option.some Jvm.ClassFile.FieldType.boolean)).before args0 about1 = true := code_word (m := ⟨19, 5⟩) (meth := k19m5) (c := k19c5) (by decide +kernel) rfl rfl rfl (by decide +kernel)
set_option maxRecDepth 65536 in
theorem w_c36 : (Jvm.Cond.code ({ cls := "com/example/sixfold/sixfold/rows/Card", name := "isCard", desc := "(I)Z" } : Jvm.MethodName) prog_41_method_3_code (1 : Nat) (Option.some Jvm.ClassFile.FieldType.boolean)).before args0 about1 = true := code_word (m := ⟨30, 2⟩) (meth := k30m2) (c := k30c2) (by decide +kernel) rfl rfl rfl (by decide +kernel)
set_option maxRecDepth 65536 in
theorem w_c37 : (Jvm.Cond.code ({ cls := "com/example/sixfold/sixfold/rows/CardSet", name := "has", desc := "(I)Z" } : Jvm.MethodName) prog_42_method_4_code (2 : Nat) (Option.some Jvm.ClassFile.FieldType.boolean)).before args0 about1 = true := code_word (m := ⟨22, 1⟩) (meth := k22m1) (c := k22c1) (by decide +kernel) rfl rfl rfl (by decide +kernel)
set_option maxRecDepth 65536 in
theorem w_c38 : (Jvm.Cond.code ({ cls := "com/example/sixfold/sixfold/rows/CardSet", name := "put", desc := "(I)Z" } : Jvm.MethodName) prog_42_method_5_code (4 : Nat) (Option.some Jvm.ClassFile.FieldType.boolean)).before args0 about1 = true := code_word (m := ⟨22, 2⟩) (meth := k22m2) (c := k22c2) (by decide +kernel) rfl rfl rfl (by decide +kernel)
set_option maxRecDepth 65536 in
theorem w_c39 : (Jvm.Cond.code ({ cls := "com/example/sixfold/sixfold/rows/Card", name := "checked", desc := "(I)I" } : Jvm.MethodName) prog_41_method_4_code (1 : Nat) (Option.some Jvm.ClassFile.FieldType.int)).before args0 about1 = true := code_word (m := ⟨30, 3⟩) (meth := k30m3) (c := k30c3) (by decide +kernel) rfl rfl rfl (by decide +kernel)
set_option maxRecDepth 65536 in
theorem w_c40 : (Jvm.Cond.code ({ cls := "com/example/sixfold/sixfold/rows/Rows", name := "start", desc := "(Ljava/util/List;)V" } : Jvm.MethodName) prog_55_method_3_code (3 : Nat) (Option.none : Option Jvm.ClassFile.FieldType)).before args0 about1 = true := code_word (m := ⟨20, 1⟩) (meth := k20m1) (c := k20c1) (by decide +kernel) rfl rfl rfl (by decide +kernel)
set_option maxRecDepth 65536 in
theorem w_c41 : (Jvm.Cond.code ({ cls := "java/util/ArrayList", name := "get", desc := "(I)Ljava/lang/Object;" } : Jvm.MethodName) jdk_38_method_20_code (2 : Nat) (Option.some (Jvm.ClassFile.FieldType.object "java/lang/Object"))).before args0 about1 = true := code_word (m := ⟨11, 5⟩) (meth := k11m5) (c := k11c5) (by decide +kernel) rfl rfl rfl (by decide +kernel)
set_option maxRecDepth 65536 in
theorem w_c42 : (Jvm.Cond.code ({ cls := "java/util/Objects", name := "checkIndex", desc := "(II)I" } : Jvm.MethodName) jdk_31_method_17_code (2 : Nat) (Option.some Jvm.ClassFile.FieldType.int)).before args0 about1 = true := code_word (m := ⟨24, 2⟩) (meth := k24m2) (c := k24c2) (by decide +kernel) rfl rfl rfl (by decide +kernel)
set_option maxRecDepth 65536 in
theorem w_c43 : (Jvm.Cond.code ({ cls := "jdk/internal/util/Preconditions", name := "checkIndex", desc := "(IILjava/util/function/BiFunction;)I" } : Jvm.MethodName) jdk_41_method_11_code (3 : Nat) (Option.some Jvm.ClassFile.FieldType.int)).before args0 about1 = true := code_word (m := ⟨31, 1⟩) (meth := k31m1) (c := k31c1) (by decide +kernel) rfl rfl rfl (by decide +kernel)
set_option maxRecDepth 65536 in
theorem w_c44 : (Jvm.Cond.code ({ cls := "java/util/ArrayList", name := "elementData", desc := "(I)Ljava/lang/Object;" } : Jvm.MethodName) jdk_38_method_18_code (2 : Nat) (Option.some (Jvm.ClassFile.FieldType.object "java/lang/Object"))).before args0 about1 = true := code_word (m := ⟨11, 4⟩) (meth := k11m4) (c := k11c4) (by decide +kernel) rfl rfl rfl (by decide +kernel)
set_option maxRecDepth 65536 in
theorem w_c45 : (Jvm.Cond.code ({ cls := "com/example/sixfold/sixfold/rows/Rows", name := "restart", desc := "(II)V" } : Jvm.MethodName) prog_55_method_15_code (3 : Nat) (Option.none : Option Jvm.ClassFile.FieldType)).before args0 about1 = true := code_word (m := ⟨20, 5⟩) (meth := k20m5) (c := k20c5) (by decide +kernel) rfl rfl rfl (by decide +kernel)
set_option maxRecDepth 65536 in
theorem w_c46 : (Jvm.Cond.code ({ cls := "com/example/sixfold/sixfold/rows/Card", name := "heads", desc := "(I)I" } : Jvm.MethodName) prog_41_method_2_code (1 : Nat) (Option.some Jvm.ClassFile.FieldType.int)).before args0 about1 = true := code_word (m := ⟨30, 1⟩) (meth := k30m1) (c := k30c1) (by decide +kernel) rfl rfl rfl (by decide +kernel)
set_option maxRecDepth 65536 in
theorem w_c47 : (Jvm.Cond.code ({ cls := "com/example/sixfold/sixfold/rows/Rows", name := "ends", desc := "(II)V" } : Jvm.MethodName) prog_55_method_16_code (3 : Nat) (Option.none : Option Jvm.ClassFile.FieldType)).before args0 about1 = true := code_word (m := ⟨20, 6⟩) (meth := k20m6) (c := k20c6) (by decide +kernel) rfl rfl rfl (by decide +kernel)
set_option maxRecDepth 65536 in
theorem w_c48 : (Jvm.Cond.code ({ cls := "com/example/sixfold/sixfold/rows/Table", name := "reveal", desc := "([I)V" } : Jvm.MethodName) prog_66_method_4_code (4 : Nat) (Option.none : Option Jvm.ClassFile.FieldType)).before args0 about1 = true := code_word (m := ⟨19, 2⟩) (meth := k19m2) (c := k19c2) (by decide +kernel) rfl rfl rfl (by decide +kernel)
set_option maxRecDepth 65536 in
theorem w_c49 : (Jvm.Cond.code ({ cls := "com/example/sixfold/sixfold/rows/CardSet", name := "lowest", desc := "()I" } : Jvm.MethodName) prog_42_method_7_code (1 : Nat) (Option.some Jvm.ClassFile.FieldType.int)).before args0 about1 = true := code_word (m := ⟨22, 4⟩) (meth := k22m4) (c := k22c4) (by decide +kernel) rfl rfl rfl (by decide +kernel)
set_option maxRecDepth 65536 in
theorem w_c50 : (Jvm.Cond.code ({ cls := "java/lang/Long", name := "numberOfTrailingZeros", desc := "(J)I" } : Jvm.MethodName) jdk_35_method_49_code (3 : Nat) (Option.some Jvm.ClassFile.FieldType.int)).before args0 about1 = true := code_word (m := ⟨32, 1⟩) (meth := k32m1) (c := k32c1) (by decide +kernel) rfl rfl rfl (by decide +kernel)
set_option maxRecDepth 65536 in
theorem w_c51 : (Jvm.Cond.code ({ cls := "java/lang/Integer", name := "numberOfTrailingZeros", desc := "(I)I" } : Jvm.MethodName) jdk_33_method_48_code (2 : Nat) (Option.some Jvm.ClassFile.FieldType.int)).before args0 about1 = true := code_word (m := ⟨16, 3⟩) (meth := k16m3) (c := k16c3) (by decide +kernel) rfl rfl rfl (by decide +kernel)
set_option maxRecDepth 65536 in
theorem w_c52 : (Jvm.Cond.code ({ cls := "com/example/sixfold/sixfold/rows/CardSet", name := "takeOut", desc := "(I)Z" } : Jvm.MethodName) prog_42_method_6_code (2 : Nat) (Option.some Jvm.ClassFile.FieldType.boolean)).before args0 about1 = true := code_word (m := ⟨22, 3⟩) (meth := k22m3) (c := k22c3) (by decide +kernel) rfl rfl rfl (by decide +kernel)
set_option maxRecDepth 65536 in
theorem w_c53 : (Jvm.Cond.code ({ cls := "com/example/sixfold/sixfold/rows/Table", name := "placeOn", desc := "()V" } : Jvm.MethodName) prog_66_method_12_code (1 : Nat) (Option.none : Option Jvm.ClassFile.FieldType)).before args0 about1 = true := code_word (m := ⟨19, 6⟩) (meth := k19m6) (c := k19c6) (by decide +kernel) rfl rfl rfl (by decide +kernel)
set_option maxRecDepth 65536 in
theorem w_c54 : (Jvm.Cond.code ({ cls := "com/example/sixfold/sixfold/rows/Table", name := "place", desc := "(I)Z" } : Jvm.MethodName) prog_66_method_13_code (4 : Nat) (Option.some Jvm.ClassFile.FieldType.boolean)).before args0 about1 = true := code_word (m := ⟨19, 7⟩) (meth := k19m7) (c := k19c7) (by decide +kernel) rfl rfl rfl (by decide +kernel)
set_option maxRecDepth 65536 in
theorem w_c55 : (Jvm.Cond.code ({ cls := "com/example/sixfold/sixfold/rows/IntList", name := "at", desc := "(I)I" } : Jvm.MethodName) prog_45_method_4_code (2 : Nat) (Option.some Jvm.ClassFile.FieldType.int)).before args0 about1 = true := code_word (m := ⟨21, 2⟩) (meth := k21m2) (c := k21c2) (by decide +kernel) rfl rfl rfl (by decide +kernel)
set_option maxRecDepth 65536 in
theorem w_c56 : (Jvm.Cond.code ({ cls := "com/example/sixfold/sixfold/rows/Rows", name := "rowFor", desc := "(I)I" } : Jvm.MethodName) prog_55_method_6_code (3 : Nat) (Option.some Jvm.ClassFile.FieldType.int)).before args0 about1 = true := code_word (m := ⟨20, 2⟩) (meth := k20m2) (c := k20c2) (by decide +kernel) rfl rfl rfl (by decide +kernel)
set_option maxRecDepth 65536 in
theorem w_c57 : (Jvm.Cond.code ({ cls := "com/example/sixfold/sixfold/rows/CardSet", name := "highestBelow", desc := "(I)I" } : Jvm.MethodName) prog_42_method_8_code (8 : Nat) (Option.some Jvm.ClassFile.FieldType.int)).before args0 about1 = true := code_word (m := ⟨22, 5⟩) (meth := k22m5) (c := k22c5) (by decide +kernel) rfl rfl rfl (by decide +kernel)
set_option maxRecDepth 65536 in
theorem w_c58 : (Jvm.Cond.code ({ cls := "com/example/sixfold/sixfold/rows/Table", name := "take", desc := "(I)V" } : Jvm.MethodName) prog_66_method_6_code (3 : Nat) (Option.none : Option Jvm.ClassFile.FieldType)).before args0 about1 = true := code_word (m := ⟨19, 4⟩) (meth := k19m4) (c := k19c4) (by decide +kernel) rfl rfl rfl (by decide +kernel)
set_option maxRecDepth 65536 in
theorem w_c59 : (Jvm.Cond.code ({ cls := "com/example/sixfold/sixfold/rows/Rows", name := "take", desc := "(II)I" } : Jvm.MethodName) prog_55_method_14_code (4 : Nat) (Option.some Jvm.ClassFile.FieldType.int)).before args0 about1 = true := code_word (m := ⟨20, 4⟩) (meth := k20m4) (c := k20c4) (by decide +kernel) rfl rfl rfl (by decide +kernel)
set_option maxRecDepth 65536 in
theorem w_c60 : (Jvm.Cond.code ({ cls := "com/example/sixfold/sixfold/rows/IntList", name := "last", desc := "()I" } : Jvm.MethodName) prog_45_method_5_code (1 : Nat) (Option.some Jvm.ClassFile.FieldType.int)).before args0 about1 = true := code_word (m := ⟨21, 3⟩) (meth := k21m3) (c := k21c3) (by decide +kernel) rfl rfl rfl (by decide +kernel)
set_option maxRecDepth 65536 in
theorem w_c61 : (Jvm.Cond.code ({ cls := "com/example/sixfold/sixfold/rows/Table", name := "charge", desc := "(II)V" } : Jvm.MethodName) prog_66_method_14_code (3 : Nat) (Option.none : Option Jvm.ClassFile.FieldType)).before args0 about1 = true := code_word (m := ⟨19, 8⟩) (meth := k19m8) (c := k19c8) (by decide +kernel) rfl rfl rfl (by decide +kernel)
set_option maxRecDepth 65536 in
theorem w_c62 : (Jvm.Cond.code ({ cls := "com/example/sixfold/sixfold/rows/IntList", name := "replace", desc := "(II)V" } : Jvm.MethodName) prog_45_method_7_code (3 : Nat) (Option.none : Option Jvm.ClassFile.FieldType)).before args0 about1 = true := code_word (m := ⟨21, 5⟩) (meth := k21m5) (c := k21c5) (by decide +kernel) rfl rfl rfl (by decide +kernel)
set_option maxRecDepth 65536 in
theorem w_c63 : (Jvm.Cond.code ({ cls := "java/lang/Long", name := "numberOfLeadingZeros", desc := "(J)I" } : Jvm.MethodName) jdk_35_method_48_code (3 : Nat) (Option.some Jvm.ClassFile.FieldType.int)).before args0 about1 = true := code_word (m := ⟨32, 0⟩) (meth := k32m0) (c := k32c0) (by decide +kernel) rfl rfl rfl (by decide +kernel)
set_option maxRecDepth 65536 in
theorem w_c64 : (Jvm.Cond.code ({ cls := "java/lang/Integer", name := "numberOfLeadingZeros", desc := "(I)I" } : Jvm.MethodName) jdk_33_method_47_code (2 : Nat) (Option.some Jvm.ClassFile.FieldType.int)).before args0 about1 = true := code_word (m := ⟨16, 2⟩) (meth := k16m2) (c := k16c2) (by decide +kernel) rfl rfl rfl (by decide +kernel)
set_option maxRecDepth 65536 in
theorem w_c65 : (Jvm.Cond.code ({ cls := "com/example/sixfold/sixfold/rows/Rows", name := "place", desc := "(II)I" } : Jvm.MethodName) prog_55_method_13_code (4 : Nat) (Option.some Jvm.ClassFile.FieldType.int)).before args0 about1 = true := code_word (m := ⟨20, 3⟩) (meth := k20m3) (c := k20c3) (by decide +kernel) rfl rfl rfl (by decide +kernel)
set_option maxRecDepth 65536 in
theorem w_c66 : (Jvm.Cond.code ({ cls := "com/example/sixfold/sixfold/rows/IntList", name := "size", desc := "()I" } : Jvm.MethodName) prog_45_method_3_code (1 : Nat) (Option.some Jvm.ClassFile.FieldType.int)).before args0 about1 = true := code_word (m := ⟨21, 1⟩) (meth := k21m1) (c := k21c1) (by decide +kernel) rfl rfl rfl (by decide +kernel)
def codes1 : List Jvm.Cond := [Jvm.Cond.code x code maxLocals ret, Jvm.Cond.code ({ cls := "com/example/sixfold/sixfold/rows/TableWaitingPinLaw", name := "card", desc := "(I)I" } : Jvm.MethodName) method_2_code (2 : Nat) (Option.some Jvm.ClassFile.FieldType.int), Jvm.Cond.code ({ cls := "java/util/ArrayList", name := "<init>", desc := "()V" } : Jvm.MethodName) jdk_38_method_2_code (1 : Nat) (Option.none : Option Jvm.ClassFile.FieldType), Jvm.Cond.code ({ cls := "java/util/AbstractList", name := "<init>", desc := "()V" } : Jvm.MethodName) jdk_39_method_1_code (1 : Nat) (Option.none : Option Jvm.ClassFile.FieldType), Jvm.Cond.code ({ cls := "java/util/AbstractCollection", name := "<init>", desc := "()V" } : Jvm.MethodName) jdk_22_method_1_code (1 : Nat) (Option.none : Option Jvm.ClassFile.FieldType), Jvm.Cond.code ({ cls := "java/lang/Object", name := "<init>", desc := "()V" } : Jvm.MethodName) object_method_1_code (1 : Nat) (Option.none : Option Jvm.ClassFile.FieldType), Jvm.Cond.code ({ cls := "com/example/sixfold/sixfold/rows/TableWaitingPinLaw", name := "startAt", desc := "(III)I" } : Jvm.MethodName) method_3_code (3 : Nat) (Option.some Jvm.ClassFile.FieldType.int), Jvm.Cond.code ({ cls := "java/lang/Integer", name := "valueOf", desc := "(I)Ljava/lang/Integer;" } : Jvm.MethodName) jdk_33_method_22_code (1 : Nat) (Option.some (Jvm.ClassFile.FieldType.object "java/lang/Integer")), Jvm.Cond.code ({ cls := "java/util/ArrayList", name := "add", desc := "(Ljava/lang/Object;)Z" } : Jvm.MethodName) jdk_38_method_25_code (2 : Nat) (Option.some Jvm.ClassFile.FieldType.boolean), Jvm.Cond.code ({ cls := "java/util/ArrayList", name := "add", desc := "(Ljava/lang/Object;[Ljava/lang/Object;I)V" } : Jvm.MethodName) jdk_38_method_24_code (4 : Nat) (Option.none : Option Jvm.ClassFile.FieldType), Jvm.Cond.code ({ cls := "java/util/ArrayList", name := "grow", desc := "()[Ljava/lang/Object;" } : Jvm.MethodName) jdk_38_method_7_code (1 : Nat) (Option.some (Jvm.ClassFile.FieldType.array (Jvm.ClassFile.FieldType.object "java/lang/Object"))), Jvm.Cond.code ({ cls := "java/util/ArrayList", name := "grow", desc := "(I)[Ljava/lang/Object;" } : Jvm.MethodName) jdk_38_method_6_code (4 : Nat) (Option.some (Jvm.ClassFile.FieldType.array (Jvm.ClassFile.FieldType.object "java/lang/Object"))), Jvm.Cond.code ({ cls := "java/lang/Math", name := "max", desc := "(II)I" } : Jvm.MethodName) jdk_29_method_65_code (2 : Nat) (Option.some Jvm.ClassFile.FieldType.int), Jvm.Cond.code ({ cls := "com/example/sixfold/sixfold/rows/Table", name := "<init>", desc := "(I)V" } : Jvm.MethodName) prog_66_method_1_code (3 : Nat) (Option.none : Option Jvm.ClassFile.FieldType), Jvm.Cond.code ({ cls := "com/example/sixfold/sixfold/rows/Rows", name := "<init>", desc := "()V" } : Jvm.MethodName) prog_55_method_1_code (2 : Nat) (Option.none : Option Jvm.ClassFile.FieldType), Jvm.Cond.code ({ cls := "com/example/sixfold/sixfold/rows/CardSet", name := "<init>", desc := "()V" } : Jvm.MethodName) prog_42_method_1_code (1 : Nat) (Option.none : Option Jvm.ClassFile.FieldType), Jvm.Cond.code ({ cls := "com/example/sixfold/sixfold/rows/IntList", name := "<init>", desc := "(I)V" } : Jvm.MethodName) prog_45_method_1_code (2 : Nat) (Option.none : Option Jvm.ClassFile.FieldType), Jvm.Cond.code ({ cls := "java/util/List", name := "of", desc := "([Ljava/lang/Object;)Ljava/util/List;" } : Jvm.MethodName) jdk_40_method_47_code (2 : Nat) (Option.some (Jvm.ClassFile.FieldType.object "java/util/List")), Jvm.Cond.code ({ cls := "java/util/ImmutableCollections", name := "listFromArray", desc := "([Ljava/lang/Object;)Ljava/util/List;" } : Jvm.MethodName) jdk_56_method_4_code (3 : Nat) (Option.some (Jvm.ClassFile.FieldType.object "java/util/List")), Jvm.Cond.code ({ cls := "java/util/Objects", name := "requireNonNull", desc := "(Ljava/lang/Object;)Ljava/lang/Object;" } : Jvm.MethodName) jdk_31_method_10_code (1 : Nat) (Option.some (Jvm.ClassFile.FieldType.object "java/lang/Object")), Jvm.Cond.code ({ cls := "java/util/ImmutableCollections$ListN", name := "<init>", desc := "([Ljava/lang/Object;Z)V" } : Jvm.MethodName) jdk_45_method_1_code (3 : Nat) (Option.none : Option Jvm.ClassFile.FieldType), Jvm.Cond.code ({ cls := "java/util/ImmutableCollections$AbstractImmutableList", name := "<init>", desc := "()V" } : Jvm.MethodName) jdk_46_method_1_code (1 : Nat) (Option.none : Option Jvm.ClassFile.FieldType), Jvm.Cond.code ({ cls := "java/util/ImmutableCollections$AbstractImmutableCollection", name := "<init>", desc := "()V" } : Jvm.MethodName) jdk_47_method_1_code (1 : Nat) (Option.none : Option Jvm.ClassFile.FieldType), Jvm.Cond.code ({ cls := "com/example/sixfold/sixfold/rows/IntList", name := "append", desc := "(I)V" } : Jvm.MethodName) prog_45_method_6_code (2 : Nat) (Option.none : Option Jvm.ClassFile.FieldType), Jvm.Cond.code ({ cls := "com/example/sixfold/sixfold/rows/Table", name := "waiting", desc := "()I" } : Jvm.MethodName) prog_66_method_5_code (1 : Nat) (Option.some Jvm.ClassFile.FieldType.int), Jvm.Cond.code ({ cls := "com/example/sixfold/sixfold/rows/Table", name := "deal", desc := "(Ljava/util/List;)V" } : Jvm.MethodName) prog_66_method_2_code (4 : Nat) (Option.none : Option Jvm.ClassFile.FieldType), Jvm.Cond.code ({ cls := "java/util/ArrayList", name := "size", desc := "()I" } : Jvm.MethodName) jdk_38_method_8_code (1 : Nat) (Option.some Jvm.ClassFile.FieldType.int), Jvm.Cond.code ({ cls := "com/example/sixfold/sixfold/rows/CardSet", name := "empty", desc := "()V" } : Jvm.MethodName) prog_42_method_12_code (1 : Nat) (Option.none : Option Jvm.ClassFile.FieldType), Jvm.Cond.code ({ cls := "com/example/sixfold/sixfold/rows/IntList", name := "empty", desc := "()V" } : Jvm.MethodName) prog_45_method_8_code (1 : Nat) (Option.none : Option Jvm.ClassFile.FieldType), Jvm.Cond.code ({ cls := "java/util/ArrayList", name := "iterator", desc := "()Ljava/util/Iterator;" } : Jvm.MethodName) jdk_38_method_55_code (1 : Nat) (Option.some (Jvm.ClassFile.FieldType.object "java/util/Iterator")), Jvm.Cond.code ({ cls := "java/util/ArrayList$Itr", name := "<init>", desc := "(Ljava/util/ArrayList;)V" } : Jvm.MethodName) jdk_49_method_1_code (2 : Nat) (Option.none : Option Jvm.ClassFile.FieldType), Jvm.Cond.code ({ cls := "java/util/ArrayList$Itr", name := "hasNext", desc := "()Z" } : Jvm.MethodName) jdk_49_method_2_code (1 : Nat) (Option.some Jvm.ClassFile.FieldType.boolean), Jvm.Cond.code ({ cls := "java/util/ArrayList$Itr", name := "next", desc := "()Ljava/lang/Object;" } : Jvm.MethodName) jdk_49_method_3_code (3 : Nat) (Option.some (Jvm.ClassFile.FieldType.object "java/lang/Object")), Jvm.Cond.code ({ cls := "java/util/ArrayList$Itr", name := "checkForComodification", desc := "()V" } : Jvm.MethodName) jdk_49_method_6_code (1 : Nat) (Option.none : Option Jvm.ClassFile.FieldType), Jvm.Cond.code ({ cls := "java/lang/Integer", name := "intValue", desc := "()I" } : Jvm.MethodName) jdk_33_method_27_code (1 : Nat) (Option.some Jvm.ClassFile.FieldType.int), Jvm.Cond.code ({ cls := "com/example/sixfold/sixfold/rows/Table", name := "playable", desc := "(I)Z" } : Jvm.MethodName) prog_66_method_11_code (2 : Nat) (Option.some Jvm.ClassFile.FieldType.boolean), Jvm.Cond.code ({ cls := "com/example/sixfold/sixfold/rows/Card", name := "isCard", desc := "(I)Z" } : Jvm.MethodName) prog_41_method_3_code (1 : Nat) (Option.some Jvm.ClassFile.FieldType.boolean), Jvm.Cond.code ({ cls := "com/example/sixfold/sixfold/rows/CardSet", name := "has", desc := "(I)Z" } : Jvm.MethodName) prog_42_method_4_code (2 : Nat) (Option.some Jvm.ClassFile.FieldType.boolean), Jvm.Cond.code ({ cls := "com/example/sixfold/sixfold/rows/CardSet", name := "put", desc := "(I)Z" } : Jvm.MethodName) prog_42_method_5_code (4 : Nat) (Option.some Jvm.ClassFile.FieldType.boolean), Jvm.Cond.code ({ cls := "com/example/sixfold/sixfold/rows/Card", name := "checked", desc := "(I)I" } : Jvm.MethodName) prog_41_method_4_code (1 : Nat) (Option.some Jvm.ClassFile.FieldType.int), Jvm.Cond.code ({ cls := "com/example/sixfold/sixfold/rows/Rows", name := "start", desc := "(Ljava/util/List;)V" } : Jvm.MethodName) prog_55_method_3_code (3 : Nat) (Option.none : Option Jvm.ClassFile.FieldType), Jvm.Cond.code ({ cls := "java/util/ArrayList", name := "get", desc := "(I)Ljava/lang/Object;" } : Jvm.MethodName) jdk_38_method_20_code (2 : Nat) (Option.some (Jvm.ClassFile.FieldType.object "java/lang/Object")), Jvm.Cond.code ({ cls := "java/util/Objects", name := "checkIndex", desc := "(II)I" } : Jvm.MethodName) jdk_31_method_17_code (2 : Nat) (Option.some Jvm.ClassFile.FieldType.int), Jvm.Cond.code ({ cls := "jdk/internal/util/Preconditions", name := "checkIndex", desc := "(IILjava/util/function/BiFunction;)I" } : Jvm.MethodName) jdk_41_method_11_code (3 : Nat) (Option.some Jvm.ClassFile.FieldType.int), Jvm.Cond.code ({ cls := "java/util/ArrayList", name := "elementData", desc := "(I)Ljava/lang/Object;" } : Jvm.MethodName) jdk_38_method_18_code (2 : Nat) (Option.some (Jvm.ClassFile.FieldType.object "java/lang/Object")), Jvm.Cond.code ({ cls := "com/example/sixfold/sixfold/rows/Rows", name := "restart", desc := "(II)V" } : Jvm.MethodName) prog_55_method_15_code (3 : Nat) (Option.none : Option Jvm.ClassFile.FieldType), Jvm.Cond.code ({ cls := "com/example/sixfold/sixfold/rows/Card", name := "heads", desc := "(I)I" } : Jvm.MethodName) prog_41_method_2_code (1 : Nat) (Option.some Jvm.ClassFile.FieldType.int), Jvm.Cond.code ({ cls := "com/example/sixfold/sixfold/rows/Rows", name := "ends", desc := "(II)V" } : Jvm.MethodName) prog_55_method_16_code (3 : Nat) (Option.none : Option Jvm.ClassFile.FieldType), Jvm.Cond.code ({ cls := "com/example/sixfold/sixfold/rows/Table", name := "reveal", desc := "([I)V" } : Jvm.MethodName) prog_66_method_4_code (4 : Nat) (Option.none : Option Jvm.ClassFile.FieldType), Jvm.Cond.code ({ cls := "com/example/sixfold/sixfold/rows/CardSet", name := "lowest", desc := "()I" } : Jvm.MethodName) prog_42_method_7_code (1 : Nat) (Option.some Jvm.ClassFile.FieldType.int), Jvm.Cond.code ({ cls := "java/lang/Long", name := "numberOfTrailingZeros", desc := "(J)I" } : Jvm.MethodName) jdk_35_method_49_code (3 : Nat) (Option.some Jvm.ClassFile.FieldType.int), Jvm.Cond.code ({ cls := "java/lang/Integer", name := "numberOfTrailingZeros", desc := "(I)I" } : Jvm.MethodName) jdk_33_method_48_code (2 : Nat) (Option.some Jvm.ClassFile.FieldType.int), Jvm.Cond.code ({ cls := "com/example/sixfold/sixfold/rows/CardSet", name := "takeOut", desc := "(I)Z" } : Jvm.MethodName) prog_42_method_6_code (2 : Nat) (Option.some Jvm.ClassFile.FieldType.boolean), Jvm.Cond.code ({ cls := "com/example/sixfold/sixfold/rows/Table", name := "placeOn", desc := "()V" } : Jvm.MethodName) prog_66_method_12_code (1 : Nat) (Option.none : Option Jvm.ClassFile.FieldType), Jvm.Cond.code ({ cls := "com/example/sixfold/sixfold/rows/Table", name := "place", desc := "(I)Z" } : Jvm.MethodName) prog_66_method_13_code (4 : Nat) (Option.some Jvm.ClassFile.FieldType.boolean), Jvm.Cond.code ({ cls := "com/example/sixfold/sixfold/rows/IntList", name := "at", desc := "(I)I" } : Jvm.MethodName) prog_45_method_4_code (2 : Nat) (Option.some Jvm.ClassFile.FieldType.int), Jvm.Cond.code ({ cls := "com/example/sixfold/sixfold/rows/Rows", name := "rowFor", desc := "(I)I" } : Jvm.MethodName) prog_55_method_6_code (3 : Nat) (Option.some Jvm.ClassFile.FieldType.int), Jvm.Cond.code ({ cls := "com/example/sixfold/sixfold/rows/CardSet", name := "highestBelow", desc := "(I)I" } : Jvm.MethodName) prog_42_method_8_code (8 : Nat) (Option.some Jvm.ClassFile.FieldType.int), Jvm.Cond.code ({ cls := "com/example/sixfold/sixfold/rows/Table", name := "take", desc := "(I)V" } : Jvm.MethodName) prog_66_method_6_code (3 : Nat) (Option.none : Option Jvm.ClassFile.FieldType), Jvm.Cond.code ({ cls := "com/example/sixfold/sixfold/rows/Rows", name := "take", desc := "(II)I" } : Jvm.MethodName) prog_55_method_14_code (4 : Nat) (Option.some Jvm.ClassFile.FieldType.int), Jvm.Cond.code ({ cls := "com/example/sixfold/sixfold/rows/IntList", name := "last", desc := "()I" } : Jvm.MethodName) prog_45_method_5_code (1 : Nat) (Option.some Jvm.ClassFile.FieldType.int), Jvm.Cond.code ({ cls := "com/example/sixfold/sixfold/rows/Table", name := "charge", desc := "(II)V" } : Jvm.MethodName) prog_66_method_14_code (3 : Nat) (Option.none : Option Jvm.ClassFile.FieldType), Jvm.Cond.code ({ cls := "com/example/sixfold/sixfold/rows/IntList", name := "replace", desc := "(II)V" } : Jvm.MethodName) prog_45_method_7_code (3 : Nat) (Option.none : Option Jvm.ClassFile.FieldType), Jvm.Cond.code ({ cls := "java/lang/Long", name := "numberOfLeadingZeros", desc := "(J)I" } : Jvm.MethodName) jdk_35_method_48_code (3 : Nat) (Option.some Jvm.ClassFile.FieldType.int), Jvm.Cond.code ({ cls := "java/lang/Integer", name := "numberOfLeadingZeros", desc := "(I)I" } : Jvm.MethodName) jdk_33_method_47_code (2 : Nat) (Option.some Jvm.ClassFile.FieldType.int), Jvm.Cond.code ({ cls := "com/example/sixfold/sixfold/rows/Rows", name := "place", desc := "(II)I" } : Jvm.MethodName) prog_55_method_13_code (4 : Nat) (Option.some Jvm.ClassFile.FieldType.int), Jvm.Cond.code ({ cls := "com/example/sixfold/sixfold/rows/IntList", name := "size", desc := "()I" } : Jvm.MethodName) prog_45_method_3_code (1 : Nat) (Option.some Jvm.ClassFile.FieldType.int)]
set_option maxRecDepth 65536 in
theorem codes_eq : words1.filter isCode = codes1 := rfl
theorem w_codes : ∀ c ∈ words1.filter isCode, c.before args0 about1 = true := by
  rw [codes_eq]
  intro c hc
  simp only [codes1, List.mem_cons, List.not_mem_nil, or_false] at hc
  rcases hc with rfl | rfl | rfl | rfl | rfl | rfl | rfl | rfl | rfl | rfl | rfl | rfl | rfl | rfl | rfl | rfl | rfl | rfl | rfl | rfl | rfl | rfl | rfl | rfl | rfl | rfl | rfl | rfl | rfl | rfl | rfl | rfl | rfl | rfl | rfl | rfl | rfl | rfl | rfl | rfl | rfl | rfl | rfl | rfl | rfl | rfl | rfl | rfl | rfl | rfl | rfl | rfl | rfl | rfl | rfl | rfl | rfl | rfl | rfl | rfl | rfl | rfl | rfl | rfl | rfl | rfl | rfl
  · exact w_c0
  · exact w_c1
  · exact w_c2
  · exact w_c3
  · exact w_c4
  · exact w_c5
  · exact w_c6
  · exact w_c7
  · exact w_c8
  · exact w_c9
  · exact w_c10
  · exact w_c11
  · exact w_c12
  · exact w_c13
  · exact w_c14
  · exact w_c15
  · exact w_c16
  · exact w_c17
  · exact w_c18
  · exact w_c19
  · exact w_c20
  · exact w_c21
  · exact w_c22
  · exact w_c23
  · exact w_c24
  · exact w_c25
  · exact w_c26
  · exact w_c27
  · exact w_c28
  · exact w_c29
  · exact w_c30
  · exact w_c31
  · exact w_c32
  · exact w_c33
  · exact w_c34
  · exact w_c35
  · exact w_c36
  · exact w_c37
  · exact w_c38
  · exact w_c39
  · exact w_c40
  · exact w_c41
  · exact w_c42
  · exact w_c43
  · exact w_c44
  · exact w_c45
  · exact w_c46
  · exact w_c47
  · exact w_c48
  · exact w_c49
  · exact w_c50
  · exact w_c51
  · exact w_c52
  · exact w_c53
  · exact w_c54
  · exact w_c55
  · exact w_c56
  · exact w_c57
  · exact w_c58
  · exact w_c59
  · exact w_c60
  · exact w_c61
  · exact w_c62
  · exact w_c63
  · exact w_c64
  · exact w_c65
  · exact w_c66
set_option maxRecDepth 65536 in
theorem w_t1 : (words1.take 24).all (fun c => isCode c || c.before args0 about1) = true := by decide +kernel
set_option maxRecDepth 65536 in
theorem w_t2 : ((words1.drop 24).take 24).all (fun c => isCode c || c.before args0 about1) = true := by decide +kernel
set_option maxRecDepth 65536 in
theorem w_t3 : (((words1.drop 24).drop 24).take 24).all (fun c => isCode c || c.before args0 about1) = true := by decide +kernel
set_option maxRecDepth 65536 in
theorem w_t4 : ((((words1.drop 24).drop 24).drop 24).take 24).all (fun c => isCode c || c.before args0 about1) = true := by decide +kernel
set_option maxRecDepth 65536 in
theorem w_t5 : (((((words1.drop 24).drop 24).drop 24).drop 24).take 24).all (fun c => isCode c || c.before args0 about1) = true := by decide +kernel
set_option maxRecDepth 65536 in
theorem w_t6 : ((((((words1.drop 24).drop 24).drop 24).drop 24).drop 24).take 24).all (fun c => isCode c || c.before args0 about1) = true := by decide +kernel
set_option maxRecDepth 65536 in
theorem w_t7 : (((((((words1.drop 24).drop 24).drop 24).drop 24).drop 24).drop 24).take 24).all (fun c => isCode c || c.before args0 about1) = true := by decide +kernel
set_option maxRecDepth 65536 in
theorem w_t8 : ((((((((words1.drop 24).drop 24).drop 24).drop 24).drop 24).drop 24).drop 24).take 24).all (fun c => isCode c || c.before args0 about1) = true := by decide +kernel
set_option maxRecDepth 65536 in
theorem w_t9 : (((((((((words1.drop 24).drop 24).drop 24).drop 24).drop 24).drop 24).drop 24).drop 24).take 24).all (fun c => isCode c || c.before args0 about1) = true := by decide +kernel
set_option maxRecDepth 65536 in
theorem w_t10 : ((((((((((words1.drop 24).drop 24).drop 24).drop 24).drop 24).drop 24).drop 24).drop 24).drop 24).take 24).all (fun c => isCode c || c.before args0 about1) = true := by decide +kernel
set_option maxRecDepth 65536 in
theorem w_t11 : (((((((((((words1.drop 24).drop 24).drop 24).drop 24).drop 24).drop 24).drop 24).drop 24).drop 24).drop 24).take 24).all (fun c => isCode c || c.before args0 about1) = true := by decide +kernel
set_option maxRecDepth 65536 in
theorem w_t12 : ((((((((((((words1.drop 24).drop 24).drop 24).drop 24).drop 24).drop 24).drop 24).drop 24).drop 24).drop 24).drop 24).take 24).all (fun c => isCode c || c.before args0 about1) = true := by decide +kernel
set_option maxRecDepth 65536 in
theorem w_t13 : (((((((((((((words1.drop 24).drop 24).drop 24).drop 24).drop 24).drop 24).drop 24).drop 24).drop 24).drop 24).drop 24).drop 24).take 24).all (fun c => isCode c || c.before args0 about1) = true := by decide +kernel
set_option maxRecDepth 65536 in
theorem w_t14 : ((((((((((((((words1.drop 24).drop 24).drop 24).drop 24).drop 24).drop 24).drop 24).drop 24).drop 24).drop 24).drop 24).drop 24).drop 24).take 24).all (fun c => isCode c || c.before args0 about1) = true := by decide +kernel
set_option maxRecDepth 65536 in
theorem w_t15 : (((((((((((((((words1.drop 24).drop 24).drop 24).drop 24).drop 24).drop 24).drop 24).drop 24).drop 24).drop 24).drop 24).drop 24).drop 24).drop 24).take 24).all (fun c => isCode c || c.before args0 about1) = true := by decide +kernel
set_option maxRecDepth 65536 in
theorem w_t16 : ((((((((((((((((words1.drop 24).drop 24).drop 24).drop 24).drop 24).drop 24).drop 24).drop 24).drop 24).drop 24).drop 24).drop 24).drop 24).drop 24).drop 24).take 24).all (fun c => isCode c || c.before args0 about1) = true := by decide +kernel
set_option maxRecDepth 65536 in
theorem w_t17 : (((((((((((((((((words1.drop 24).drop 24).drop 24).drop 24).drop 24).drop 24).drop 24).drop 24).drop 24).drop 24).drop 24).drop 24).drop 24).drop 24).drop 24).drop 24).take 24).all (fun c => isCode c || c.before args0 about1) = true := by decide +kernel
set_option maxRecDepth 65536 in
theorem w_t18 : ((((((((((((((((((words1.drop 24).drop 24).drop 24).drop 24).drop 24).drop 24).drop 24).drop 24).drop 24).drop 24).drop 24).drop 24).drop 24).drop 24).drop 24).drop 24).drop 24).take 24).all (fun c => isCode c || c.before args0 about1) = true := by decide +kernel
set_option maxRecDepth 65536 in
theorem w_t19 : ((((((((((((((((((words1.drop 24).drop 24).drop 24).drop 24).drop 24).drop 24).drop 24).drop 24).drop 24).drop 24).drop 24).drop 24).drop 24).drop 24).drop 24).drop 24).drop 24).drop 24).all (fun c => isCode c || c.before args0 about1) = true := by decide +kernel
theorem w_tables : (allAtoms (Jvm.Cond.code x code maxLocals ret :: tables_1)).before args0 about1 = true := by
  rw [allAtoms_all]
  show words1.all (fun c => c.before args0 about1) = true
  refine all_split ?_ w_codes
  rw [← List.take_append_drop 24 words1, List.all_append, w_t1, ← List.take_append_drop 24 (words1.drop 24), List.all_append, w_t2, ← List.take_append_drop 24 ((words1.drop 24).drop 24), List.all_append, w_t3, ← List.take_append_drop 24 (((words1.drop 24).drop 24).drop 24), List.all_append, w_t4, ← List.take_append_drop 24 ((((words1.drop 24).drop 24).drop 24).drop 24), List.all_append, w_t5, ← List.take_append_drop 24 (((((words1.drop 24).drop 24).drop 24).drop 24).drop 24), List.all_append, w_t6, ← List.take_append_drop 24 ((((((words1.drop 24).drop 24).drop 24).drop 24).drop 24).drop 24), List.all_append, w_t7, ← List.take_append_drop 24 (((((((words1.drop 24).drop 24).drop 24).drop 24).drop 24).drop 24).drop 24), List.all_append, w_t8, ← List.take_append_drop 24 ((((((((words1.drop 24).drop 24).drop 24).drop 24).drop 24).drop 24).drop 24).drop 24), List.all_append, w_t9, ← List.take_append_drop 24 (((((((((words1.drop 24).drop 24).drop 24).drop 24).drop 24).drop 24).drop 24).drop 24).drop 24), List.all_append, w_t10, ← List.take_append_drop 24 ((((((((((words1.drop 24).drop 24).drop 24).drop 24).drop 24).drop 24).drop 24).drop 24).drop 24).drop 24), List.all_append, w_t11, ← List.take_append_drop 24 (((((((((((words1.drop 24).drop 24).drop 24).drop 24).drop 24).drop 24).drop 24).drop 24).drop 24).drop 24).drop 24), List.all_append, w_t12, ← List.take_append_drop 24 ((((((((((((words1.drop 24).drop 24).drop 24).drop 24).drop 24).drop 24).drop 24).drop 24).drop 24).drop 24).drop 24).drop 24), List.all_append, w_t13, ← List.take_append_drop 24 (((((((((((((words1.drop 24).drop 24).drop 24).drop 24).drop 24).drop 24).drop 24).drop 24).drop 24).drop 24).drop 24).drop 24).drop 24), List.all_append, w_t14, ← List.take_append_drop 24 ((((((((((((((words1.drop 24).drop 24).drop 24).drop 24).drop 24).drop 24).drop 24).drop 24).drop 24).drop 24).drop 24).drop 24).drop 24).drop 24), List.all_append, w_t15, ← List.take_append_drop 24 (((((((((((((((words1.drop 24).drop 24).drop 24).drop 24).drop 24).drop 24).drop 24).drop 24).drop 24).drop 24).drop 24).drop 24).drop 24).drop 24).drop 24), List.all_append, w_t16, ← List.take_append_drop 24 ((((((((((((((((words1.drop 24).drop 24).drop 24).drop 24).drop 24).drop 24).drop 24).drop 24).drop 24).drop 24).drop 24).drop 24).drop 24).drop 24).drop 24).drop 24), List.all_append, w_t17, ← List.take_append_drop 24 (((((((((((((((((words1.drop 24).drop 24).drop 24).drop 24).drop 24).drop 24).drop 24).drop 24).drop 24).drop 24).drop 24).drop 24).drop 24).drop 24).drop 24).drop 24).drop 24), List.all_append, w_t18, w_t19]
  rfl
set_option maxRecDepth 65536 in
theorem w_rest : rest_1_c.before args0 about1 = true := by decide +kernel
set_option maxRecDepth 65536 in
theorem w_case : (Jvm.Cond.and given_1 narrow_1).before args0 about1 = true := by decide +kernel
theorem w_applies : (headSpec (Jvm.Cond.code x code maxLocals ret :: tables_1) room_1).applies x e0.platform about1 = true :=
  (Spec.applies_iff w_frames).mpr ⟨w_running, w_runnable, w_alone, w_named, w_hears, w_ripe, w_room, w_tables⟩
theorem atStart : AtStart classFile x code maxLocals ret World_1 tables_1 room_1 Calls_1 rest_1 Pre_1 launch0 p0 e0 about1 theMethod args0 below0 :=
  ⟨lists_1, trivial, launch0.admits_env _ _ _, launch0.least_env, fairChoices_fair.cas, fairChoices_fair.clock, w_frames, w_args, w_heap, w_applies, trivial, w_rest, w_case⟩
end start1
theorem witness_1 : WitnessClaimed_1 := ⟨start1.p0, start1.e0, start1.about1, start1.theMethod, start1.args0, start1.below0, start1.atStart⟩
end Jvm.Pilot.@@N@@
