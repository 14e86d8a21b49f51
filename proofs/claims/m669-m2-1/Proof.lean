import JvmDerived
import JvmDerived.Pilot.@@N@@Statement
import JvmDerived.Pilot.@@N@@Code
set_option linter.unusedVariables false
set_option linter.unusedSimpArgs false
namespace Jvm.RoadKit
open Sem ClassFile Op Lib Jvm.Stand Jvm.Free Jvm.LawKit
section New
variable {p : Program} {l : Launch} {e : Env} {R : Room} {s : State} {m : MethodId} {args : Array Value} {below : List Frame} {meth : Method} {c : Code} {T : State} {locs : List Loc} {cells slots : Nat}
theorem retI (X : Stand p l e R s m args below meth c T locs cells slots) (hx : p.tables.exec = Jvm.exec) {pc : Nat} {Ls : Array Slot} {z : Int32} {rest : List Value} (hret : meth.sig.returnType = some .int) (hd : decode c.code pc = .ok (.ireturn, 1)) {fs : List Frame}
    (hl : ∀ (f : JFrame) (acts : List Action), f.method = m → f.locked = none → f.entered = [] → (doReturn e (T.setTop f) acts (some (.int z))).1 = T.setFrames fs) : Steps p.tables e below (T.setTop (mkF m pc Ls (.int z :: rest))) (T.setFrames fs) := by
  have hm' : T.vm.method? m = some meth := X.method'
  have hn : narrow .int (.int z) = .int z := rfl
  show Steps p.tables e below (T.setTop { method := m, pc := pc, locals := Ls, stack := _ :: rest, locked := none }) _
  jvm_step X.here [X.here.top, hx, hd, hm', hret, hn]
  first | (intro acts; rw [hl _ acts rfl rfl rfl]) | rw [hl _ _ rfl rfl rfl]
  exact Steps.refl _
end New
end Jvm.RoadKit
namespace Jvm.Pilot.@@N@@
open Jvm Jvm.ClassFile Sem Op Lib Jvm.Free Jvm.Stand Jvm.LawKit Jvm.RoadKit Bundle Jvm.Pilot.@@N@@.Jvm.D
/-! 1. own frame of the walks: a goal 'G T f' says: from the state T with the top frame f the body comes to its end as its contract says. G is kept opaque in a walk: own_Pre steps it back, own_Ret ends it. -/
abbrev own_Pre (p : Program) (e : Env) (below : List Frame) (G : State → JFrame → Prop) : Prop :=
  ∀ {T T2 : State} {f f2 : JFrame}, (∀ t, Steps p.tables e below (T2.setTop f2) t → Steps p.tables e below (T.setTop f) t) → G T2 f2 → G T f
abbrev own_Lv (p : Program) (e : Env) (below : List Frame) (m : MethodId) (T : State) (f : JFrame) (v : Option Value) : Prop :=
  ∀ fs, (∀ (f : JFrame) (acts : List Action), f.method = m → f.locked = none → f.entered = [] → (doReturn e (T.setTop f) acts v).1 = T.setFrames fs) → Steps p.tables e below (T.setTop f) (T.setFrames fs)
abbrev own_Ret (p : Program) (l : Launch) (e : Env) (R : Room) (s : State) (m : MethodId) (as' : Array Value) (below : List Frame) (meth : Method) (c : Code) (Q : Option Value → Heap → List Loc → Prop) (C S : Nat) (G : State → JFrame → Prop) : Prop :=
  ∀ {T : State} {locs : List Loc} {cells slots : Nat} {f : JFrame} {v : Option Value}, Stand p l e R s m as' below meth c T locs cells slots → own_Lv p e below m T f v → (meth.sig.returnType = none → v = none) → Q v T.heap locs → cells ≤ C → slots ≤ S → G T f
theorem own_contract {l : Launch} {Z : State} {y : MethodName} {bytes : ByteArray} {maxL : Nat} {ret : Option FieldType} {ws : List Jvm.Cond} {rm : Room} {as' : Array Value} {h0 : Heap} {Q : Option Value → Heap → List Loc → Prop} {Ls : Array Slot}
    (hpl : plainFor y = true) (hef : ∀ m, entryFrame m as' maxL = mkF m 0 Ls [])
    (H : ∀ (p : Program) (e : Env) (s : State) (m : MethodId) (below : List Frame) (meth : Method) (c : Code) (s₁ : State) (G : State → JFrame → Prop),
      p.tables.exec = Jvm.exec → c.code = bytes → c.maxLocals = maxL → s.vm.findClass y.cls = some m.cls → meth.name = y.name → meth.sig.returnType = ret → Z.Warmed39 s.vm →
      Stand p l e rm s m as' below meth c s₁ [] 0 0 → s₁.heap = h0 → own_Pre p e below G → own_Ret p l e rm s m as' below meth c Q rm.cells rm.slots G → G s₁ (mkF m 0 Ls [])) :
    MetFree l y (head1 (Jvm.Cond.code y bytes maxL ret :: ws) rm) (fun a U => a = as' ∧ Z.Warmed39 U.vm ∧ U.heap = h0) (fun _ _ _ _ _ => True) (fun _ U o U' => ∃ v L, o = .returned v ∧ Q v U'.heap L ∧ FrameEnd U o U' L rm.cells rm.slots) := by
  refine MetFree.of_bodySF hpl hisR ?_
  intro p e s m args below meth c s₁ Bd hml0 hP hK
  obtain ⟨rfl, hZ, hh⟩ := hP
  have X0 : Stand p l e rm s m args below meth c s₁ [] 0 0 := Stand.of_body Bd
  have e0 : s₁.heap = h0 := by rw [← hh, Bd.state]; rfl
  obtain ⟨T', locs, cells, slots, v, X, hst, hv, hQ, hc, hs⟩ := H p e s m below meth c s₁
    (fun T f => ∃ (T' : State) (locs : List Loc) (cells slots : Nat) (v : Option Value), Stand p l e rm s m args below meth c T' locs cells slots ∧
      (∀ fs, (∀ (f : JFrame) (acts : List Action), f.method = m → f.locked = none → f.entered = [] → (doReturn e (T'.setTop f) acts v).1 = T'.setFrames fs) → Steps p.tables e below (T.setTop f) (T'.setFrames fs)) ∧
      (meth.sig.returnType = none → v = none) ∧ Q v T'.heap locs ∧ cells ≤ rm.cells ∧ slots ≤ rm.slots)
    Bd.exec Bd.bytes hml0 (findClass_of_methodNamed Bd.named) (name_of_methodNamed Bd.named Bd.method).1 Bd.returns hZ X0 e0
    (fun {T T2 f f2} hs hG => by
      obtain ⟨T', locs, cells, slots, v, X, hst, r⟩ := hG
      exact ⟨T', locs, cells, slots, v, X, fun fs hl => hs _ (hst fs hl), r⟩)
    (fun {T locs cells slots f v} X hl hv hQ hc hs => ⟨T, locs, cells, slots, v, X, hl, hv, hQ, hc, hs⟩)
  obtain ⟨fs, hr, hrun, hended, hW, hsame⟩ := X.leave hv Bd.notSynchronized
  exact ⟨_, _, castTop (hef m) (hst fs hr), hrun, hended, _, _, rfl, hQ, ⟨_, rfl⟩, hW, hsame.mono hc hs⟩
/-- what a body without a write says: its value, nothing old written, the heap as it was -/
abbrev own_Q (r : Option Value) (h0 : Heap) (n0 : Nat) (v : Option Value) (h : Heap) (L : List Loc) : Prop := v = r ∧ Fr n0 L ∧ h = h0
section Calls
variable {p : Program} {l : Launch} {e : Env} {R : Room} {s : State} {m : MethodId} {args : Array Value} {below : List Frame} {meth : Method} {c : Code} {T : State} {locs : List Loc} {cells slots : Nat} {Z : State} {a0 : Array Value} {h : Heap}
theorem own_callS (X : Stand p l e R s m args below meth c T locs cells slots) (hx : p.tables.exec = Jvm.exec) (hZ : Z.Warmed39 s.vm) {own : String} {index : Nat} {y : MethodName} {bytes : ByteArray} {maxL : Nat} {ret : Option FieldType} {rm : Room} {as' : Array Value} {Q : Option Value → Heap → List Loc → Prop}
    (W : Nat) (hown : s.vm.findClass own = some m.cls) (w1 : (Cond.methodLink own index y).before a0 Z = true) (w2 : (Cond.static y).before a0 Z = true) (w3 : (Cond.initialized y.cls).before a0 Z = true) (w4 : (Cond.code y bytes maxL ret).before a0 Z = true)
    (hy : y.cls ≠ "java/lang/invoke/MethodHandle" ∧ y.cls ≠ "java/lang/invoke/VarHandle")
    (hM : MetFree l y (head1 [Cond.code y bytes maxL ret] rm) (fun a U => a = as' ∧ Z.Warmed39 U.vm ∧ U.heap = h) (fun _ _ _ _ _ => True) (fun _ U o U' => ∃ v L, o = .returned v ∧ Q v U'.heap L ∧ FrameEnd U o U' L rm.cells rm.slots))
    (eT : T.heap = h) (hf : rm.frames + 1 ≤ R.frames) (hl : W + (maxL + 11) + rm.locals ≤ R.locals) {g : JFrame} (hg : g.method = m) (hsize : g.locals.size = c.maxLocals) (argsL rest : List Value) {ps : List FieldType} {r : Option FieldType}
    (hd : parseMethodDescriptor y.desc = some ⟨ps, r⟩) (hlen : argsL.length = ps.length) (hstack : g.stack = argsL.reverse ++ rest) (hW : 2 * g.monitorRoom + (rest.map fun v => v.category).sum ≤ W) (hdg : decode c.code g.pc = .ok (.invokestatic index, 3))
    (has : argsL.toArray = as') (hc : cells + rm.cells ≤ R.cells) (hs : slots + rm.slots ≤ R.slots) :
    ∃ (v : Option Value) (T' : State) (L : List Loc), Stand p l e R s m args below meth c T' (locs ++ L) (cells + rm.cells) (slots + rm.slots) ∧ Q v T'.heap L ∧
      ∀ t, Steps p.tables e below (T'.setTop { g with pc := g.pc + 3, stack := v.toList ++ rest }) t → Steps p.tables e below (T.setTop g) t := by
  obtain ⟨v, _, ⟨T', L', k', n'⟩, -, X', ⟨Lc, hQ, l', y', z'⟩, st⟩ := Jvm.LawKit.callS X hx (y := y) hown (mvT hZ w1) (mvT hZ w2) (mvT hZ w3) (mvT hZ w4) hy (backOf (W := W) hM hZ w4 w3 hf hl) hg hsize (argsL := argsL) (rest := rest) (lenOf hd hlen) hstack hW hdg (fun _ _ => ⟨has, eT, hc, hs⟩)
  dsimp only [Pt.U, Pt.locs, Pt.cells, Pt.slots] at X' l' y' z' st hQ
  subst l' y' z'
  exact ⟨v, T', Lc, X', hQ, st⟩
theorem own_callI (X : Stand p l e R s m args below meth c T locs cells slots) (hx : p.tables.exec = Jvm.exec) (hZ : Z.Warmed39 s.vm) {own : String} {index : Nat} {y : MethodName} {bytes : ByteArray} {maxL : Nat} {rm : Room} {as' : Array Value} {Q : Option Value → Heap → List Loc → Prop}
    (W : Nat) (hy1 : y.name = "<init>") (hown : s.vm.findClass own = some m.cls) (w1 : (Cond.methodLink own index y).before a0 Z = true) (w2 : (Cond.instanceMethod y).before a0 Z = true) (w3 : (Cond.initialized y.cls).before a0 Z = true) (w4 : (Cond.code y bytes maxL none).before a0 Z = true)
    (hy : y.cls ≠ "java/lang/invoke/MethodHandle" ∧ y.cls ≠ "java/lang/invoke/VarHandle")
    (hM : MetFree l y (head1 [Cond.code y bytes maxL none] rm) (fun a U => a = as' ∧ Z.Warmed39 U.vm ∧ U.heap = h) (fun _ _ _ _ _ => True) (fun _ U o U' => ∃ v L, o = .returned v ∧ Q v U'.heap L ∧ FrameEnd U o U' L rm.cells rm.slots))
    (eT : T.heap = h) (hf : rm.frames + 1 ≤ R.frames) (hl : W + (maxL + 11) + rm.locals ≤ R.locals) {g : JFrame} (hg : g.method = m) (hsize : g.locals.size = c.maxLocals) (a : Addr) (argsL rest : List Value) {ps : List FieldType} {r : Option FieldType}
    (hd : parseMethodDescriptor y.desc = some ⟨ps, r⟩) (hlen : argsL.length = ps.length) (hstack : g.stack = argsL.reverse ++ .ref a :: rest) (hW : 2 * g.monitorRoom + (rest.map fun v => v.category).sum ≤ W) (hdg : decode c.code g.pc = .ok (.invokespecial index, 3))
    (has : (.ref a :: argsL).toArray = as') (hc : cells + rm.cells ≤ R.cells) (hs : slots + rm.slots ≤ R.slots) :
    ∃ (v : Option Value) (T' : State) (L : List Loc), Stand p l e R s m args below meth c T' (locs ++ L) (cells + rm.cells) (slots + rm.slots) ∧ Q v T'.heap L ∧
      ∀ t, Steps p.tables e below (T'.setTop { g with pc := g.pc + 3, stack := v.toList ++ rest }) t → Steps p.tables e below (T.setTop g) t := by
  obtain ⟨v, _, ⟨T', L', k', n'⟩, -, X', ⟨Lc, hQ, l', y', z'⟩, st⟩ := X.specialBack hx (y := y) hy1 hown (mvT hZ w1) (mvT hZ w2) (mvT hZ w4) hy (backOf (W := W) hM hZ w4 w3 hf hl) hg hsize (Steps.refl _) (a := a) (argsL := argsL) (rest := rest) (lenOf hd hlen) hstack hW hdg (fun _ _ => ⟨has, eT, hc, hs⟩)
  dsimp only [Pt.U, Pt.locs, Pt.cells, Pt.slots] at X' l' y' z' st hQ
  subst l' y' z'
  exact ⟨v, T', Lc, X', hQ, fun t k => st.trans k⟩
theorem own_callV (X : Stand p l e R s m args below meth c T locs cells slots) (hx : p.tables.exec = Jvm.exec) (hZ : Z.Warmed39 s.vm) {own C : String} {index : Nat} {y : MethodName} {bytes : ByteArray} {maxL : Nat} {ret : Option FieldType} {rm : Room} {as' : Array Value} {Q : Option Value → Heap → List Loc → Prop}
    (W : Nat) (hown : s.vm.findClass own = some m.cls) (w1 : (Cond.methodLink own index y).before a0 Z = true) (w2 : (Cond.declares y).before a0 Z = true) (w3 : (Cond.selects C y y).before a0 Z = true) (w4 : (Cond.instanceMethod y).before a0 Z = true) (w5 : (Cond.initialized y.cls).before a0 Z = true) (w6 : (Cond.code y bytes maxL ret).before a0 Z = true)
    (hy : y.cls ≠ "java/lang/invoke/MethodHandle" ∧ y.cls ≠ "java/lang/invoke/VarHandle")
    (hM : MetFree l y (head1 [Cond.code y bytes maxL ret] rm) (fun a U => a = as' ∧ Z.Warmed39 U.vm ∧ U.heap = h) (fun _ _ _ _ _ => True) (fun _ U o U' => ∃ v L, o = .returned v ∧ Q v U'.heap L ∧ FrameEnd U o U' L rm.cells rm.slots))
    (eT : T.heap = h) {b : Addr} (E : Exa Z h b C) (hf : rm.frames + 1 ≤ R.frames) (hl : W + (maxL + 11) + rm.locals ≤ R.locals) {g : JFrame} (hg : g.method = m) (hsize : g.locals.size = c.maxLocals) (argsL rest : List Value) {ps : List FieldType} {r : Option FieldType}
    (hd : parseMethodDescriptor y.desc = some ⟨ps, r⟩) (hlen : argsL.length = ps.length) (hstack : g.stack = argsL.reverse ++ .ref b :: rest) (hW : 2 * g.monitorRoom + (rest.map fun v => v.category).sum ≤ W) (hdg : decode c.code g.pc = .ok (.invokevirtual index, 3))
    (has : (.ref b :: argsL).toArray = as') (hc : cells + rm.cells ≤ R.cells) (hs : slots + rm.slots ≤ R.slots) :
    ∃ (v : Option Value) (T' : State) (L : List Loc), Stand p l e R s m args below meth c T' (locs ++ L) (cells + rm.cells) (slots + rm.slots) ∧ Q v T'.heap L ∧
      ∀ t, Steps p.tables e below (T'.setTop { g with pc := g.pc + 3, stack := v.toList ++ rest }) t → Steps p.tables e below (T.setTop g) t := by
  obtain ⟨cq, kq, qa, qb, qc⟩ := isOf hZ eT E
  obtain ⟨v, _, ⟨T', L', k', n'⟩, -, X', ⟨Lc, hQ, l', y', z'⟩, st⟩ := X.virtualBack hx (y := y) (z := y) hown (mvT hZ w1) (mvT hZ w2) (notFace_of_selects (args := #[]) (mvT hZ w3)) (mvT hZ w3) (mvT hZ w4) hy (backOf (W := W) hM hZ w6 w5 hf hl) qa qc hg hsize (Steps.refl _) (argsL := argsL) (rest := rest) (lenOf hd hlen) hstack hW hdg (fun _ _ => ⟨has, eT, hc, hs⟩)
  dsimp only [Pt.U, Pt.locs, Pt.cells, Pt.slots] at X' l' y' z' st hQ
  subst l' y' z'
  exact ⟨v, T', Lc, X', hQ, fun t k => st.trans k⟩
end Calls
theorem own_lrem {tb : Tables} [Ours tb] {e : Env} {below : List Frame} {T target : State} {m : MethodId} {c : Code} {g : JFrame} (h : At T m c below) (hx : tb.exec = Jvm.exec) (hg : g.method = m) {x y : Int64} {rest : List Value} (hd : decode c.code g.pc = .ok (.lrem, 1)) (hs : g.stack = .long y :: .long x :: rest) (hy : y ≠ 0)
    (hr : Steps tb e below (T.setTop { g with pc := g.pc + 1, stack := .long (x % y) :: rest }) target) : Steps tb e below (T.setTop g) target := XS.lrem h hx hg hd hs hy (by rw [lrem_mod]; exact hr)
/-! 2. own facts of arrays: n places, place i holds f i -/
def own_up {α : Type} (f : Nat → α) (j : Nat) (v : α) : Nat → α := fun i => if i = j then v else f i
theorem own_up_at {α : Type} (f : Nat → α) (j : Nat) (v : α) (i : Nat) : own_up f j v i = if i = j then v else f i := rfl
def own_AI (Z : State) (h : Heap) (a : Addr) (ty : FieldType) (n : Nat) (f : Nat → Int32) : Prop :=
  ∃ c : Cell, Arr Z h a c ty ∧ c.slots.size = n ∧ n < 2147483648 ∧ ∀ i, i < n → c.slots[i]? = some (.int (f i))
def own_AJ (Z : State) (h : Heap) (a : Addr) (n : Nat) (f : Nat → Int64) : Prop :=
  ∃ c : Cell, Arr Z h a c .long ∧ c.slots.size = n ∧ n < 2147483648 ∧ ∀ i, i < n → c.slots[i]? = some (.long (f i))
section Arrays
variable {Z : State} {h h' : Heap} {a b : Addr} {ty : FieldType} {n : Nat} {f g : Nat → Int32} {fj gj : Nat → Int64}
theorem own_AI.lt (V : own_AI Z h a ty n f) : a < h.size := by obtain ⟨c, A, -⟩ := V; exact A.lt
theorem own_AI.ext (V : own_AI Z h a ty n f) (E : Ext h h') : own_AI Z h' a ty n f := by obtain ⟨c, A, r⟩ := V; exact ⟨c, A.ext E, r⟩
theorem own_AI.other {sl : Nat} {v : Value} (V : own_AI Z h b ty n f) (W : Wr h h' a sl v) (q : b ≠ a) : own_AI Z h' b ty n f := by obtain ⟨c, A, r⟩ := V; exact ⟨c, A.other W q, r⟩
theorem own_AI.keep {ws : List Addr} (V : own_AI Z h a ty n f) (K : Keep h h' ws) (q : a ∉ ws) : own_AI Z h' a ty n f := by obtain ⟨c, A, r⟩ := V; exact ⟨c, ⟨K.2.1 a c A.1 q, A.2⟩, r⟩
theorem own_AI.cong (V : own_AI Z h a ty n f) (q : ∀ i, i < n → f i = g i) : own_AI Z h a ty n g := by obtain ⟨c, A, S, B, H⟩ := V; exact ⟨c, A, S, B, fun i hi => by rw [← q i hi]; exact H i hi⟩
theorem own_AI.new {k : ClassId} {z : Int32} (A : Arr Z h a (newA k ty z) ty) (q : ¬ z < 0) (d : defaultValue ty = .int 0) (n : Nat) (hn : z.toNatClampNeg = n) : own_AI Z h a ty n (fun _ => 0) := by
  subst hn
  exact ⟨_, A, sz_new _ _ _, (back32 q).2, fun i hi => by simp [newA, hi, d]⟩
theorem own_slot (c : Cell) (i k : Nat) (v : Value) (hk : k < c.slots.size) : (c.setSlot i v).slots[k]? = if k = i then some v else c.slots[k]? := by
  by_cases q : k = i
  · subst q; simp [Cell.setSlot, hk]
  · simp [Cell.setSlot, q, Array.getElem?_setIfInBounds, Ne.symm q]
theorem own_AI.set {x : Int32} {i : Nat} (V : own_AI Z h a ty n f) (W : Wr h h' a i (.int x)) : own_AI Z h' a ty n (own_up f i x) := by
  obtain ⟨c, A, S, B, H⟩ := V
  refine ⟨_, A.same W, (sz_set _ _ _).trans S, B, fun k hk => ?_⟩
  rw [own_slot c i k _ (by omega), own_up_at]
  by_cases q : k = i
  · rw [if_pos q, if_pos q]
  · rw [if_neg q, if_neg q]; exact H k hk
theorem own_AI.at (V : own_AI Z h a ty n f) {j : Int32} (i : Nat) (hi : j.toNatClampNeg = i) (h0 : ¬ j < 0) (hn : i < n) :
    ∃ c : Cell, Arr Z h a c ty ∧ ¬ (j < 0 ∨ c.slots.size ≤ j.toNatClampNeg) ∧ c.slots[j.toNatClampNeg]? = some (.int (f i)) := by
  obtain ⟨c, A, S, B, H⟩ := V
  subst hi
  exact ⟨c, A, fun q => q.elim h0 (fun q => by omega), H _ hn⟩
theorem own_AJ.lt (V : own_AJ Z h a n fj) : a < h.size := by obtain ⟨c, A, -⟩ := V; exact A.lt
theorem own_AJ.ext (V : own_AJ Z h a n fj) (E : Ext h h') : own_AJ Z h' a n fj := by obtain ⟨c, A, r⟩ := V; exact ⟨c, A.ext E, r⟩
theorem own_AJ.other {sl : Nat} {v : Value} (V : own_AJ Z h b n fj) (W : Wr h h' a sl v) (q : b ≠ a) : own_AJ Z h' b n fj := by obtain ⟨c, A, r⟩ := V; exact ⟨c, A.other W q, r⟩
theorem own_AJ.keep {ws : List Addr} (V : own_AJ Z h a n fj) (K : Keep h h' ws) (q : a ∉ ws) : own_AJ Z h' a n fj := by obtain ⟨c, A, r⟩ := V; exact ⟨c, ⟨K.2.1 a c A.1 q, A.2⟩, r⟩
theorem own_AJ.cong (V : own_AJ Z h a n fj) (q : ∀ i, i < n → fj i = gj i) : own_AJ Z h a n gj := by obtain ⟨c, A, S, B, H⟩ := V; exact ⟨c, A, S, B, fun i hi => by rw [← q i hi]; exact H i hi⟩
theorem own_AJ.new {k : ClassId} {z : Int32} (A : Arr Z h a (newA k .long z) .long) (q : ¬ z < 0) (n : Nat) (hn : z.toNatClampNeg = n) : own_AJ Z h a n (fun _ => 0) := by
  subst hn
  exact ⟨_, A, sz_new _ _ _, (back32 q).2, fun i hi => by simp [newA, hi]; rfl⟩
theorem own_AJ.set {x : Int64} {i : Nat} (V : own_AJ Z h a n fj) (W : Wr h h' a i (.long x)) : own_AJ Z h' a n (own_up fj i x) := by
  obtain ⟨c, A, S, B, H⟩ := V
  refine ⟨_, A.same W, (sz_set _ _ _).trans S, B, fun k hk => ?_⟩
  rw [own_slot c i k _ (by omega), own_up_at]
  by_cases q : k = i
  · rw [if_pos q, if_pos q]
  · rw [if_neg q, if_neg q]; exact H k hk
theorem own_AJ.at (V : own_AJ Z h a n fj) {j : Int32} (i : Nat) (hi : j.toNatClampNeg = i) (h0 : ¬ j < 0) (hn : i < n) :
    ∃ c : Cell, Arr Z h a c .long ∧ ¬ (j < 0 ∨ c.slots.size ≤ j.toNatClampNeg) ∧ c.slots[j.toNatClampNeg]? = some (.long (fj i)) := by
  obtain ⟨c, A, S, B, H⟩ := V
  subst hi
  exact ⟨c, A, fun q => q.elim h0 (fun q => by omega), H _ hn⟩
end Arrays
section ArraySteps
variable {p : Program} {l : Launch} {e : Env} {R : Room} {s : State} {m : MethodId} {args : Array Value} {below : List Frame} {meth : Method} {c : Code} {T : State} {locs : List Loc} {cells slots : Nat} {Z : State} {a0 : Array Value} {h : Heap} {a : Addr} {n : Nat} {f : Nat → Int32} {fj : Nat → Int64} {j x : Int32} {xj : Int64} {g : JFrame} {rest : List Value}
theorem own_stI (X : Stand p l e R s m args below meth c T locs cells slots) (hx : p.tables.exec = Jvm.exec) (hZ : Z.Warmed39 s.vm) (eT : T.heap = h) (V : own_AI Z h a .int n f) (i : Nat) (hi : j.toNatClampNeg = i) (h0 : ¬ j < 0) (hn : i < n) (hg : g.method = m) (hs : g.stack = .int x :: .int j :: .ref a :: rest) (hd : decode c.code g.pc = .ok (.iastore, 1)) :
    ∃ T' h', Stand p l e R s m args below meth c T' (locs ++ [⟨a, i⟩]) cells slots ∧ T'.heap = h' ∧ Wr h h' a i (.int x) ∧ own_AI Z h' a .int n (own_up f i x) ∧ ∀ t, Steps p.tables e below (T'.setTop { g with pc := g.pc + 1, stack := rest }) t → Steps p.tables e below (T.setTop g) t := by
  obtain ⟨cl, A, hj, -⟩ := V.at i hi h0 hn
  obtain ⟨T', h', X', e', W, st⟩ := stI X hx hZ eT A hj hg hs hd
  subst hi
  exact ⟨T', h', X', e', W, V.set W, st⟩
theorem own_stB (X : Stand p l e R s m args below meth c T locs cells slots) (hx : p.tables.exec = Jvm.exec) (hZ : Z.Warmed39 s.vm) (eT : T.heap = h) (V : own_AI Z h a .byte n f) (i : Nat) (hi : j.toNatClampNeg = i) (h0 : ¬ j < 0) (hn : i < n) (hg : g.method = m) (hs : g.stack = .int x :: .int j :: .ref a :: rest) (hd : decode c.code g.pc = .ok (.bastore, 1)) :
    ∃ T' h', Stand p l e R s m args below meth c T' (locs ++ [⟨a, i⟩]) cells slots ∧ T'.heap = h' ∧ Wr h h' a i (.int (nar .byte x)) ∧ own_AI Z h' a .byte n (own_up f i x.toInt8.toInt32) ∧ ∀ t, Steps p.tables e below (T'.setTop { g with pc := g.pc + 1, stack := rest }) t → Steps p.tables e below (T.setTop g) t := by
  obtain ⟨cl, A, hj, -⟩ := V.at i hi h0 hn
  obtain ⟨T', h', X', e', W, st⟩ := stB X hx hZ eT A hj hg hs hd
  subst hi
  exact ⟨T', h', X', e', W, V.set W, st⟩
theorem own_stC (X : Stand p l e R s m args below meth c T locs cells slots) (hx : p.tables.exec = Jvm.exec) (hZ : Z.Warmed39 s.vm) (eT : T.heap = h) (V : own_AI Z h a .char n f) (i : Nat) (hi : j.toNatClampNeg = i) (h0 : ¬ j < 0) (hn : i < n) (hg : g.method = m) (hs : g.stack = .int x :: .int j :: .ref a :: rest) (hd : decode c.code g.pc = .ok (.castore, 1)) :
    ∃ T' h', Stand p l e R s m args below meth c T' (locs ++ [⟨a, i⟩]) cells slots ∧ T'.heap = h' ∧ Wr h h' a i (.int (nar .char x)) ∧ own_AI Z h' a .char n (own_up f i x.toUInt32.toUInt16.toUInt32.toInt32) ∧ ∀ t, Steps p.tables e below (T'.setTop { g with pc := g.pc + 1, stack := rest }) t → Steps p.tables e below (T.setTop g) t := by
  obtain ⟨cl, A, hj, -⟩ := V.at i hi h0 hn
  obtain ⟨T', h', X', e', W, st⟩ := stC X hx hZ eT A hj hg hs hd
  subst hi
  exact ⟨T', h', X', e', W, V.set W, st⟩
theorem own_stJ (X : Stand p l e R s m args below meth c T locs cells slots) (hx : p.tables.exec = Jvm.exec) (hZ : Z.Warmed39 s.vm) (eT : T.heap = h) (V : own_AJ Z h a n fj) (i : Nat) (hi : j.toNatClampNeg = i) (h0 : ¬ j < 0) (hn : i < n) (hg : g.method = m) (hs : g.stack = .long xj :: .int j :: .ref a :: rest) (hd : decode c.code g.pc = .ok (.lastore, 1)) :
    ∃ T' h', Stand p l e R s m args below meth c T' (locs ++ [⟨a, i⟩]) cells slots ∧ T'.heap = h' ∧ Wr h h' a i (.long xj) ∧ own_AJ Z h' a n (own_up fj i xj) ∧ ∀ t, Steps p.tables e below (T'.setTop { g with pc := g.pc + 1, stack := rest }) t → Steps p.tables e below (T.setTop g) t := by
  obtain ⟨cl, A, hj, -⟩ := V.at i hi h0 hn
  obtain ⟨T', h', X', e', W, st⟩ := stJ X hx hZ eT A hj hg hs hd
  subst hi
  exact ⟨T', h', X', e', W, V.set W, st⟩
theorem own_ldI (X : Stand p l e R s m args below meth c T locs cells slots) (hx : p.tables.exec = Jvm.exec) (hZ : Z.Warmed39 s.vm) (eT : T.heap = h) (V : own_AI Z h a .int n f) (i : Nat) (hi : j.toNatClampNeg = i) (h0 : ¬ j < 0) (hn : i < n) (hg : g.method = m) (hs : g.stack = .int j :: .ref a :: rest) (hd : decode c.code g.pc = .ok (.iaload, 1)) :
    ∀ t, Steps p.tables e below (T.setTop { g with pc := g.pc + 1, stack := .int (f i) :: rest }) t → Steps p.tables e below (T.setTop g) t := by
  obtain ⟨cl, A, hj, hv⟩ := V.at i hi h0 hn
  exact fun t k => X.iaload hx (by rw [eT]; exact A.1) (State.isArrayOf_alike hZ.alike A.2.1) A.2.2 hj hv hg hs hd t k
theorem own_ldB (X : Stand p l e R s m args below meth c T locs cells slots) (hx : p.tables.exec = Jvm.exec) (hZ : Z.Warmed39 s.vm) (eT : T.heap = h) (V : own_AI Z h a .byte n f) (i : Nat) (hi : j.toNatClampNeg = i) (h0 : ¬ j < 0) (hn : i < n) (hg : g.method = m) (hs : g.stack = .int j :: .ref a :: rest) (hd : decode c.code g.pc = .ok (.baload, 1)) :
    ∀ t, Steps p.tables e below (T.setTop { g with pc := g.pc + 1, stack := .int (f i) :: rest }) t → Steps p.tables e below (T.setTop g) t := by
  obtain ⟨cl, A, hj, hv⟩ := V.at i hi h0 hn
  exact fun t k => X.baloadBytes hx (by rw [eT]; exact A.1) (State.isArrayOf_alike hZ.alike A.2.1) A.2.2 hj hv hg hs hd t k
theorem own_ldC (X : Stand p l e R s m args below meth c T locs cells slots) (hx : p.tables.exec = Jvm.exec) (hZ : Z.Warmed39 s.vm) (eT : T.heap = h) (V : own_AI Z h a .char n f) (i : Nat) (hi : j.toNatClampNeg = i) (h0 : ¬ j < 0) (hn : i < n) (hg : g.method = m) (hs : g.stack = .int j :: .ref a :: rest) (hd : decode c.code g.pc = .ok (.caload, 1)) :
    ∀ t, Steps p.tables e below (T.setTop { g with pc := g.pc + 1, stack := .int (f i) :: rest }) t → Steps p.tables e below (T.setTop g) t := by
  obtain ⟨cl, A, hj, hv⟩ := V.at i hi h0 hn
  exact fun t k => X.caload hx (by rw [eT]; exact A.1) (State.isArrayOf_alike hZ.alike A.2.1) A.2.2 hj hv hg hs hd t k
theorem own_ldJ (X : Stand p l e R s m args below meth c T locs cells slots) (hx : p.tables.exec = Jvm.exec) (hZ : Z.Warmed39 s.vm) (eT : T.heap = h) (V : own_AJ Z h a n fj) (i : Nat) (hi : j.toNatClampNeg = i) (h0 : ¬ j < 0) (hn : i < n) (hg : g.method = m) (hs : g.stack = .int j :: .ref a :: rest) (hd : decode c.code g.pc = .ok (.laload, 1)) :
    ∀ t, Steps p.tables e below (T.setTop { g with pc := g.pc + 1, stack := .long (fj i) :: rest }) t → Steps p.tables e below (T.setTop g) t := by
  obtain ⟨cl, A, hj, hv⟩ := V.at i hi h0 hn
  exact fun t k => X.laload hx (by rw [eT]; exact A.1) (State.isArrayOf_alike hZ.alike A.2.1) A.2.2 hj hv hg hs hd t k
theorem own_lenI {ty : FieldType} (X : Stand p l e R s m args below meth c T locs cells slots) (hx : p.tables.exec = Jvm.exec) (hZ : Z.Warmed39 s.vm) (eT : T.heap = h) (V : own_AI Z h a ty n f) (N : Int32) (hN : n.toInt32 = N) (hg : g.method = m) (hs : g.stack = .ref a :: rest) (hd : decode c.code g.pc = .ok (.arraylength, 1)) :
    ∀ t, Steps p.tables e below (T.setTop { g with pc := g.pc + 1, stack := .int N :: rest }) t → Steps p.tables e below (T.setTop g) t := by
  obtain ⟨cl, A, S, -⟩ := V
  subst hN S
  exact fun t k => X.arraylength hx (by rw [eT]; exact A.1) (State.isArrayOf_alike hZ.alike A.2.1) hg hs hd t k
theorem own_lenJ (X : Stand p l e R s m args below meth c T locs cells slots) (hx : p.tables.exec = Jvm.exec) (hZ : Z.Warmed39 s.vm) (eT : T.heap = h) (V : own_AJ Z h a n fj) (N : Int32) (hN : n.toInt32 = N) (hg : g.method = m) (hs : g.stack = .ref a :: rest) (hd : decode c.code g.pc = .ok (.arraylength, 1)) :
    ∀ t, Steps p.tables e below (T.setTop { g with pc := g.pc + 1, stack := .int N :: rest }) t → Steps p.tables e below (T.setTop g) t := by
  obtain ⟨cl, A, S, -⟩ := V
  subst hN S
  exact fun t k => X.arraylength hx (by rw [eT]; exact A.1) (State.isArrayOf_alike hZ.alike A.2.1) hg hs hd t k
/-- areturn -/
theorem own_retA (X : Stand p l e R s m args below meth c T locs cells slots) (hx : p.tables.exec = Jvm.exec) {pc : Nat} {Ls : Array Slot} {t : FieldType} (hret : meth.sig.returnType = some t) (ht : t.isReference = true) (hd : decode c.code pc = .ok (.areturn, 1)) {fs : List Frame}
    (hl : ∀ (f : JFrame) (acts : List Action), f.method = m → f.locked = none → f.entered = [] → (doReturn e (T.setTop f) acts (some (.ref a))).1 = T.setFrames fs) : Steps p.tables e below (T.setTop (mkF m pc Ls (.ref a :: rest))) (T.setFrames fs) :=
  retOut X hx hret (by cases t <;> first | rfl | (cases ht; done)) (Or.inr (Or.inr (Or.inr (Or.inr ⟨rfl, ht, rfl⟩)))) hd hl
end ArraySteps
theorem own_pd0 : parseMethodDescriptor "(C)Z" = some ⟨[.char], some .boolean⟩ := by decide +kernel
theorem d1_0 : decode prog_140_method_10_code 0 = .ok (.iload_n 0, 1) := by decide +kernel
theorem d1_1 : decode prog_140_method_10_code 1 = .ok (.bipush 32, 2) := by decide +kernel
theorem d1_3 : decode prog_140_method_10_code 3 = .ok (.if_icmp .eq 21, 3) := by decide +kernel
theorem d1_6 : decode prog_140_method_10_code 6 = .ok (.iload_n 0, 1) := by decide +kernel
theorem d1_7 : decode prog_140_method_10_code 7 = .ok (.bipush 9, 2) := by decide +kernel
theorem d1_9 : decode prog_140_method_10_code 9 = .ok (.if_icmp .eq 15, 3) := by decide +kernel
theorem d1_12 : decode prog_140_method_10_code 12 = .ok (.iload_n 0, 1) := by decide +kernel
theorem d1_13 : decode prog_140_method_10_code 13 = .ok (.bipush 10, 2) := by decide +kernel
theorem d1_15 : decode prog_140_method_10_code 15 = .ok (.if_icmp .eq 9, 3) := by decide +kernel
theorem d1_18 : decode prog_140_method_10_code 18 = .ok (.iload_n 0, 1) := by decide +kernel
theorem d1_19 : decode prog_140_method_10_code 19 = .ok (.bipush 13, 2) := by decide +kernel
theorem d1_21 : decode prog_140_method_10_code 21 = .ok (.if_icmp .ne 7, 3) := by decide +kernel
theorem d1_24 : decode prog_140_method_10_code 24 = .ok (.iconst 1, 1) := by decide +kernel
theorem d1_25 : decode prog_140_method_10_code 25 = .ok (.goto 4, 3) := by decide +kernel
theorem d1_28 : decode prog_140_method_10_code 28 = .ok (.iconst 0, 1) := by decide +kernel
theorem d1_29 : decode prog_140_method_10_code 29 = .ok (.ireturn, 1) := by decide +kernel
theorem own_ef1 (m : MethodId) (p0 : Int32) : entryFrame m #[(.int p0)] 1 = mkF m 0 #[.val (.int p0)] [] := by first | (simp [entryFrame, mkF, argsToLocals, Value.category]; done) | rfl
def own_ws (p0 : Int32) : Int32 := if p0 = (32 : Int32) then (1 : Int32) else if p0 = (9 : Int32) then (1 : Int32) else if p0 = (10 : Int32) then (1 : Int32) else if p0 = (13 : Int32) then (1 : Int32) else (0 : Int32)
theorem own_pn1 : plainName "com/example/tracewright/tracewright/XmlText" = true := by first | (simp [plainName, overriddenIn]; done) | decide +kernel
set_option maxRecDepth 65536 in
set_option maxHeartbeats 40000000 in
theorem rm1 (l : Launch) (Z : State) (a0 : Array Value) (hw : ∀ d ∈ tables_1, d.before a0 Z = true) (ws : List Jvm.Cond) (p0 : Int32) (h0 : Heap) (n0 : Nat)  :
    MetFree l (⟨"com/example/tracewright/tracewright/XmlText", "isWhitespace", "(C)Z"⟩ : MethodName) (head1 (Jvm.Cond.code (⟨"com/example/tracewright/tracewright/XmlText", "isWhitespace", "(C)Z"⟩ : MethodName) prog_140_method_10_code 1 (some .boolean) :: ws) ({ frames := 0, cells := 0, slots := 0, locals := 0 } : Room)) (fun a U => a = #[(.int p0)] ∧ Z.Warmed39 U.vm ∧ U.heap = h0) (fun _ _ _ _ _ => True) (fun _ U o U' => ∃ v L, o = .returned v ∧ own_Q (some (.int (own_ws p0))) h0 n0 v U'.heap L ∧ FrameEnd U o U' L ({ frames := 0, cells := 0, slots := 0, locals := 0 } : Room).cells ({ frames := 0, cells := 0, slots := 0, locals := 0 } : Room).slots) := by
  refine own_contract (plainFor_of_name own_pn1) (fun m => own_ef1 m p0) ?_
  intro p e s m below meth c s₁ G hx hby hml0 hown0 hnm hret hZ X0 e0 hp hR
  have hml : c.maxLocals = 1 := hml0
  have hown : s.vm.findClass "com/example/tracewright/tracewright/XmlText" = some m.cls := hown0
  have N0 := Fr.nil n0
  show G s₁ (mkF m 0 #[.val (.int p0)] [])
  refine hp (fun tq kq => XS.iloadN X0.here hx rfl (hb hby d1_0) rfl kq) ?_
  show G s₁ (mkF m 1 #[.val (.int p0)] [(.int p0)])
  refine hp (fun tq kq => XS.bipush X0.here hx rfl (hb hby d1_1) kq) ?_
  show G s₁ (mkF m 3 #[.val (.int p0)] [(.int (32 : Int32)), (.int p0)])
  by_cases hb1 : p0 = (32 : Int32)
  · refine hp (fun tq kq => XS.icmpYes X0.here hx rfl (pc0 := 3) (pc' := 24) rfl (hb hby d1_3) rfl (teq hb1).1 (by decide) (by decide) kq) ?_
    show G s₁ (mkF m 24 #[.val (.int p0)] [])
    refine hp (fun tq kq => XS.iconst X0.here hx rfl (hb hby d1_24) kq) ?_
    show G s₁ (mkF m 25 #[.val (.int p0)] [(.int (1 : Int32))])
    refine hp (fun tq kq => XS.goto X0.here hx rfl (pc0 := 25) (pc' := 29) rfl (hb hby d1_25) (by decide) (by decide) kq) ?_
    show G s₁ (mkF m 29 #[.val (.int p0)] [(.int (1 : Int32))])
    exact hR X0 (fun fs hl => retN X0 hx (t := .boolean) hret (by simp) (hb hby d1_29) hl) (fun q => by rw [hret] at q; cases q) ⟨(congrArg (fun q => some (Value.int q)) (if_pos hb1).symm), N0, e0⟩ (by decide) (by decide)
  · refine hp (fun tq kq => XS.icmpNo X0.here hx rfl (hb hby d1_3) rfl (feq hb1).1 kq) ?_
    show G s₁ (mkF m 6 #[.val (.int p0)] [])
    refine hp (fun tq kq => XS.iloadN X0.here hx rfl (hb hby d1_6) rfl kq) ?_
    show G s₁ (mkF m 7 #[.val (.int p0)] [(.int p0)])
    refine hp (fun tq kq => XS.bipush X0.here hx rfl (hb hby d1_7) kq) ?_
    show G s₁ (mkF m 9 #[.val (.int p0)] [(.int (9 : Int32)), (.int p0)])
    by_cases hb2 : p0 = (9 : Int32)
    · refine hp (fun tq kq => XS.icmpYes X0.here hx rfl (pc0 := 9) (pc' := 24) rfl (hb hby d1_9) rfl (teq hb2).1 (by decide) (by decide) kq) ?_
      show G s₁ (mkF m 24 #[.val (.int p0)] [])
      refine hp (fun tq kq => XS.iconst X0.here hx rfl (hb hby d1_24) kq) ?_
      show G s₁ (mkF m 25 #[.val (.int p0)] [(.int (1 : Int32))])
      refine hp (fun tq kq => XS.goto X0.here hx rfl (pc0 := 25) (pc' := 29) rfl (hb hby d1_25) (by decide) (by decide) kq) ?_
      show G s₁ (mkF m 29 #[.val (.int p0)] [(.int (1 : Int32))])
      exact hR X0 (fun fs hl => retN X0 hx (t := .boolean) hret (by simp) (hb hby d1_29) hl) (fun q => by rw [hret] at q; cases q) ⟨(congrArg (fun q => some (Value.int q)) ((if_neg hb1).trans (if_pos hb2)).symm), N0, e0⟩ (by decide) (by decide)
    · refine hp (fun tq kq => XS.icmpNo X0.here hx rfl (hb hby d1_9) rfl (feq hb2).1 kq) ?_
      show G s₁ (mkF m 12 #[.val (.int p0)] [])
      refine hp (fun tq kq => XS.iloadN X0.here hx rfl (hb hby d1_12) rfl kq) ?_
      show G s₁ (mkF m 13 #[.val (.int p0)] [(.int p0)])
      refine hp (fun tq kq => XS.bipush X0.here hx rfl (hb hby d1_13) kq) ?_
      show G s₁ (mkF m 15 #[.val (.int p0)] [(.int (10 : Int32)), (.int p0)])
      by_cases hb3 : p0 = (10 : Int32)
      · refine hp (fun tq kq => XS.icmpYes X0.here hx rfl (pc0 := 15) (pc' := 24) rfl (hb hby d1_15) rfl (teq hb3).1 (by decide) (by decide) kq) ?_
        show G s₁ (mkF m 24 #[.val (.int p0)] [])
        refine hp (fun tq kq => XS.iconst X0.here hx rfl (hb hby d1_24) kq) ?_
        show G s₁ (mkF m 25 #[.val (.int p0)] [(.int (1 : Int32))])
        refine hp (fun tq kq => XS.goto X0.here hx rfl (pc0 := 25) (pc' := 29) rfl (hb hby d1_25) (by decide) (by decide) kq) ?_
        show G s₁ (mkF m 29 #[.val (.int p0)] [(.int (1 : Int32))])
        exact hR X0 (fun fs hl => retN X0 hx (t := .boolean) hret (by simp) (hb hby d1_29) hl) (fun q => by rw [hret] at q; cases q) ⟨(congrArg (fun q => some (Value.int q)) ((if_neg hb1).trans ((if_neg hb2).trans (if_pos hb3))).symm), N0, e0⟩ (by decide) (by decide)
      · refine hp (fun tq kq => XS.icmpNo X0.here hx rfl (hb hby d1_15) rfl (feq hb3).1 kq) ?_
        show G s₁ (mkF m 18 #[.val (.int p0)] [])
        refine hp (fun tq kq => XS.iloadN X0.here hx rfl (hb hby d1_18) rfl kq) ?_
        show G s₁ (mkF m 19 #[.val (.int p0)] [(.int p0)])
        refine hp (fun tq kq => XS.bipush X0.here hx rfl (hb hby d1_19) kq) ?_
        show G s₁ (mkF m 21 #[.val (.int p0)] [(.int (13 : Int32)), (.int p0)])
        by_cases hb4 : p0 = (13 : Int32)
        · refine hp (fun tq kq => XS.icmpNo X0.here hx rfl (hb hby d1_21) rfl (teq hb4).2 kq) ?_
          show G s₁ (mkF m 24 #[.val (.int p0)] [])
          refine hp (fun tq kq => XS.iconst X0.here hx rfl (hb hby d1_24) kq) ?_
          show G s₁ (mkF m 25 #[.val (.int p0)] [(.int (1 : Int32))])
          refine hp (fun tq kq => XS.goto X0.here hx rfl (pc0 := 25) (pc' := 29) rfl (hb hby d1_25) (by decide) (by decide) kq) ?_
          show G s₁ (mkF m 29 #[.val (.int p0)] [(.int (1 : Int32))])
          exact hR X0 (fun fs hl => retN X0 hx (t := .boolean) hret (by simp) (hb hby d1_29) hl) (fun q => by rw [hret] at q; cases q) ⟨(congrArg (fun q => some (Value.int q)) ((if_neg hb1).trans ((if_neg hb2).trans ((if_neg hb3).trans (if_pos hb4)))).symm), N0, e0⟩ (by decide) (by decide)
        · refine hp (fun tq kq => XS.icmpYes X0.here hx rfl (pc0 := 21) (pc' := 28) rfl (hb hby d1_21) rfl (feq hb4).2 (by decide) (by decide) kq) ?_
          show G s₁ (mkF m 28 #[.val (.int p0)] [])
          refine hp (fun tq kq => XS.iconst X0.here hx rfl (hb hby d1_28) kq) ?_
          show G s₁ (mkF m 29 #[.val (.int p0)] [(.int (0 : Int32))])
          exact hR X0 (fun fs hl => retN X0 hx (t := .boolean) hret (by simp) (hb hby d1_29) hl) (fun q => by rw [hret] at q; cases q) ⟨(congrArg (fun q => some (Value.int q)) ((if_neg hb1).trans ((if_neg hb2).trans ((if_neg hb3).trans (if_neg hb4)))).symm), N0, e0⟩ (by decide) (by decide)
theorem d2_0 : decode method_2_code 0 = .ok (.iload_n 0, 1) := by decide +kernel
theorem d2_1 : decode method_2_code 1 = .ok (.bipush 32, 2) := by decide +kernel
theorem d2_3 : decode method_2_code 3 = .ok (.if_icmp .gt 19, 3) := by decide +kernel
theorem d2_6 : decode method_2_code 6 = .ok (.ldc2_w 9, 3) := by decide +kernel
theorem d2_9 : decode method_2_code 9 = .ok (.iload_n 0, 1) := by decide +kernel
theorem d2_10 : decode method_2_code 10 = .ok (.lushr, 1) := by decide +kernel
theorem d2_11 : decode method_2_code 11 = .ok (.lconst 1, 1) := by decide +kernel
theorem d2_12 : decode method_2_code 12 = .ok (.land, 1) := by decide +kernel
theorem d2_13 : decode method_2_code 13 = .ok (.lconst 0, 1) := by decide +kernel
theorem d2_14 : decode method_2_code 14 = .ok (.lcmp, 1) := by decide +kernel
theorem d2_15 : decode method_2_code 15 = .ok (.ifCond .eq 7, 3) := by decide +kernel
theorem d2_18 : decode method_2_code 18 = .ok (.iconst 1, 1) := by decide +kernel
theorem d2_19 : decode method_2_code 19 = .ok (.goto 4, 3) := by decide +kernel
theorem d2_22 : decode method_2_code 22 = .ok (.iconst 0, 1) := by decide +kernel
theorem d2_23 : decode method_2_code 23 = .ok (.ireturn, 1) := by decide +kernel
theorem own_ef2 (m : MethodId) (p0 : Int32) : entryFrame m #[(.int p0)] 1 = mkF m 0 #[.val (.int p0)] [] := by first | (simp [entryFrame, mkF, argsToLocals, Value.category]; done) | rfl
def own_exp (p0 : Int32) : Int32 := if (32 : Int32) < p0 then (0 : Int32) else if ((((4294977024 : Int64).toUInt64 >>> (p0 &&& 0x3f).toInt64.toUInt64).toInt64) &&& (1 : Int64)) = (0 : Int64) then (0 : Int32) else (1 : Int32)
theorem own_pn2 : plainName "com/example/tracewright/tracewright/XmlTextIsWhitespacePinLaw" = true := by first | (simp [plainName, overriddenIn]; done) | decide +kernel
set_option maxRecDepth 65536 in
set_option maxHeartbeats 40000000 in
theorem rm2 (l : Launch) (Z : State) (a0 : Array Value) (hw : ∀ d ∈ tables_1, d.before a0 Z = true) (ws : List Jvm.Cond) (p0 : Int32) (h0 : Heap) (n0 : Nat)  :
    MetFree l (⟨"com/example/tracewright/tracewright/XmlTextIsWhitespacePinLaw", "expected", "(C)Z"⟩ : MethodName) (head1 (Jvm.Cond.code (⟨"com/example/tracewright/tracewright/XmlTextIsWhitespacePinLaw", "expected", "(C)Z"⟩ : MethodName) method_2_code 1 (some .boolean) :: ws) ({ frames := 0, cells := 0, slots := 0, locals := 0 } : Room)) (fun a U => a = #[(.int p0)] ∧ Z.Warmed39 U.vm ∧ U.heap = h0) (fun _ _ _ _ _ => True) (fun _ U o U' => ∃ v L, o = .returned v ∧ own_Q (some (.int (own_exp p0))) h0 n0 v U'.heap L ∧ FrameEnd U o U' L ({ frames := 0, cells := 0, slots := 0, locals := 0 } : Room).cells ({ frames := 0, cells := 0, slots := 0, locals := 0 } : Room).slots) := by
  refine own_contract (plainFor_of_name own_pn2) (fun m => own_ef2 m p0) ?_
  intro p e s m below meth c s₁ G hx hby hml0 hown0 hnm hret hZ X0 e0 hp hR
  have hml : c.maxLocals = 1 := hml0
  have hown : s.vm.findClass "com/example/tracewright/tracewright/XmlTextIsWhitespacePinLaw" = some m.cls := hown0
  have N0 := Fr.nil n0
  show G s₁ (mkF m 0 #[.val (.int p0)] [])
  refine hp (fun tq kq => XS.iloadN X0.here hx rfl (hb hby d2_0) rfl kq) ?_
  show G s₁ (mkF m 1 #[.val (.int p0)] [(.int p0)])
  refine hp (fun tq kq => XS.bipush X0.here hx rfl (hb hby d2_1) kq) ?_
  show G s₁ (mkF m 3 #[.val (.int p0)] [(.int (32 : Int32)), (.int p0)])
  by_cases hb1 : (32 : Int32) < p0
  · refine hp (fun tq kq => XS.icmpYes X0.here hx rfl (pc0 := 3) (pc' := 22) rfl (hb hby d2_3) rfl (tlt hb1).2.2.1 (by decide) (by decide) kq) ?_
    show G s₁ (mkF m 22 #[.val (.int p0)] [])
    refine hp (fun tq kq => XS.iconst X0.here hx rfl (hb hby d2_22) kq) ?_
    show G s₁ (mkF m 23 #[.val (.int p0)] [(.int (0 : Int32))])
    exact hR X0 (fun fs hl => retN X0 hx (t := .boolean) hret (by simp) (hb hby d2_23) hl) (fun q => by rw [hret] at q; cases q) ⟨(congrArg (fun q => some (Value.int q)) (if_pos hb1).symm), N0, e0⟩ (by decide) (by decide)
  · refine hp (fun tq kq => XS.icmpNo X0.here hx rfl (hb hby d2_3) rfl (flt hb1).2.2.1 kq) ?_
    show G s₁ (mkF m 6 #[.val (.int p0)] [])
    refine hp (fun tq kq => X0.ldc2Long hx hown (mvT hZ (hw _ (List.mem_of_getElem? (i := 9) rfl))) (g := (mkF m 6 #[.val (.int p0)] [])) rfl (hb hby d2_6) _ kq) ?_
    show G s₁ (mkF m 9 #[.val (.int p0)] [(.long (4294977024 : Int64))])
    refine hp (fun tq kq => XS.iloadN X0.here hx rfl (hb hby d2_9) rfl kq) ?_
    show G s₁ (mkF m 10 #[.val (.int p0)] [(.int p0), (.long (4294977024 : Int64))])
    refine hp (fun tq kq => XS.lushr X0.here hx rfl (hb hby d2_10) rfl kq) ?_
    show G s₁ (mkF m 11 #[.val (.int p0)] [(.long (((4294977024 : Int64).toUInt64 >>> (p0 &&& 0x3f).toInt64.toUInt64).toInt64))])
    refine hp (fun tq kq => XS.lconst X0.here hx rfl (hb hby d2_11) kq) ?_
    show G s₁ (mkF m 12 #[.val (.int p0)] [(.long (1 : Int64)), (.long (((4294977024 : Int64).toUInt64 >>> (p0 &&& 0x3f).toInt64.toUInt64).toInt64))])
    refine hp (fun tq kq => XS.land X0.here hx rfl (hb hby d2_12) rfl kq) ?_
    show G s₁ (mkF m 13 #[.val (.int p0)] [(.long ((((4294977024 : Int64).toUInt64 >>> (p0 &&& 0x3f).toInt64.toUInt64).toInt64) &&& (1 : Int64)))])
    refine hp (fun tq kq => XS.lconst X0.here hx rfl (hb hby d2_13) kq) ?_
    show G s₁ (mkF m 14 #[.val (.int p0)] [(.long (0 : Int64)), (.long ((((4294977024 : Int64).toUInt64 >>> (p0 &&& 0x3f).toInt64.toUInt64).toInt64) &&& (1 : Int64)))])
    refine hp (fun tq kq => XS.lcmp X0.here hx rfl (hb hby d2_14) rfl kq) ?_
    show G s₁ (mkF m 15 #[.val (.int p0)] [(.int (lcmpW ((((4294977024 : Int64).toUInt64 >>> (p0 &&& 0x3f).toInt64.toUInt64).toInt64) &&& (1 : Int64)) (0 : Int64)))])
    by_cases hb2 : ((((4294977024 : Int64).toUInt64 >>> (p0 &&& 0x3f).toInt64.toUInt64).toInt64) &&& (1 : Int64)) = (0 : Int64)
    · refine hp (fun tq kq => XS.ifYes X0.here hx rfl (pc0 := 15) (pc' := 22) rfl (hb hby d2_15) rfl ((if0 _ _).trans (teq ((lw_eq _ _).mpr hb2)).1) (by decide) (by decide) kq) ?_
      show G s₁ (mkF m 22 #[.val (.int p0)] [])
      refine hp (fun tq kq => XS.iconst X0.here hx rfl (hb hby d2_22) kq) ?_
      show G s₁ (mkF m 23 #[.val (.int p0)] [(.int (0 : Int32))])
      exact hR X0 (fun fs hl => retN X0 hx (t := .boolean) hret (by simp) (hb hby d2_23) hl) (fun q => by rw [hret] at q; cases q) ⟨(congrArg (fun q => some (Value.int q)) ((if_neg hb1).trans (if_pos hb2)).symm), N0, e0⟩ (by decide) (by decide)
    · refine hp (fun tq kq => XS.ifNo X0.here hx rfl (hb hby d2_15) rfl ((if0 _ _).trans (feq (fun q => hb2 ((lw_eq _ _).mp q))).1) kq) ?_
      show G s₁ (mkF m 18 #[.val (.int p0)] [])
      refine hp (fun tq kq => XS.iconst X0.here hx rfl (hb hby d2_18) kq) ?_
      show G s₁ (mkF m 19 #[.val (.int p0)] [(.int (1 : Int32))])
      refine hp (fun tq kq => XS.goto X0.here hx rfl (pc0 := 19) (pc' := 23) rfl (hb hby d2_19) (by decide) (by decide) kq) ?_
      show G s₁ (mkF m 23 #[.val (.int p0)] [(.int (1 : Int32))])
      exact hR X0 (fun fs hl => retN X0 hx (t := .boolean) hret (by simp) (hb hby d2_23) hl) (fun q => by rw [hret] at q; cases q) ⟨(congrArg (fun q => some (Value.int q)) ((if_neg hb1).trans (if_neg hb2)).symm), N0, e0⟩ (by decide) (by decide)
theorem own_ix (x : Int32) : ¬ (x &&& (3 : Int32)) < 0 ∧ (x &&& (3 : Int32)).toNatClampNeg < 4 := by
  have h := c_mask x 3 2 (by decide) (by decide)
  have h0 : (0 : Int32).toInt = 0 := by decide
  rw [Int32.lt_iff_toInt_lt, h0, Int32.toNatClampNeg]
  omega
theorem own_small (c : Int32) (h : 0 ≤ c.toInt) (h2 : c.toInt ≤ 32) : c ∈ (List.range 33).map Int32.ofNat := by
  rw [List.mem_map]
  refine ⟨c.toInt.toNat, List.mem_range.mpr (by omega), ?_⟩
  apply Int32.toInt_inj.mp
  rw [Int32.toInt_ofNat_of_lt (by omega)]
  omega
theorem own_few : ∀ c ∈ (List.range 33).map Int32.ofNat, own_ws c = own_exp c := by decide +kernel
theorem own_same (c : Int32) (h : 0 ≤ c.toInt) : own_ws c = own_exp c := by
  by_cases h2 : (32 : Int32) < c
  · have h3 := Int32.lt_iff_toInt_lt.mp h2
    have e : (32 : Int32).toInt = 32 := by decide
    have k : ∀ d : Int32, d.toInt ≤ 32 → ¬ c = d := fun d hd q => by subst q; omega
    rw [own_ws, if_neg (k _ (by decide)), if_neg (k _ (by decide)), if_neg (k _ (by decide)), if_neg (k _ (by decide)), own_exp, if_pos h2]
  · have h3 : ¬ (32 : Int32).toInt < c.toInt := fun q => h2 (Int32.lt_iff_toInt_lt.mpr q)
    have e : (32 : Int32).toInt = 32 := by decide
    exact own_few c (own_small c h (by omega))
theorem own_arr (i : Nat) : 0 ≤ ((own_up (own_up (own_up (own_up (fun _ => (0 : Int32)) 0 (32 : Int32).toUInt32.toUInt16.toUInt32.toInt32) 1 (9 : Int32).toUInt32.toUInt16.toUInt32.toInt32) 2 (10 : Int32).toUInt32.toUInt16.toUInt32.toInt32) 3 (13 : Int32).toUInt32.toUInt16.toUInt32.toInt32) i).toInt := by
  simp only [own_up]
  repeat (first | decide | split)
theorem own_ef0 (m : MethodId) (p0 : Int32) (p1 : Int32) : entryFrame m #[(.int p0), (.int p1)] maxLocals = mkF m 0 #[.val (.int p0), .val (.int p1), .unset, .unset, .unset] [] := by first | (simp [entryFrame, mkF, argsToLocals, Value.category, maxLocals]; done) | rfl
abbrev own_Q0 (n0 : Nat) (v : Option Value) (h : Heap) (L : List Loc) : Prop := v = some (.int 1) ∧ Fr n0 L
theorem own_pn0 : plainName "com/example/tracewright/tracewright/XmlTextIsWhitespacePinLaw" = true := by first | (simp [plainName, overriddenIn]; done) | decide +kernel
set_option maxRecDepth 65536 in
set_option maxHeartbeats 40000000 in
theorem rm0 (l : Launch) (Z : State) (a0 : Array Value) (hw : ∀ d ∈ tables_1, d.before a0 Z = true) (ws : List Jvm.Cond) (p0 : Int32) (p1 : Int32) (h0 : Heap) (n0 : Nat) (Z0 : n0 ≤ h0.size) :
    MetFree l x (head1 (Jvm.Cond.code x code maxLocals ret :: ws) room_1) (fun a U => a = #[(.int p0), (.int p1)] ∧ Z.Warmed39 U.vm ∧ U.heap = h0) (fun _ _ _ _ _ => True) (fun _ U o U' => ∃ v L, o = .returned v ∧ own_Q0 n0 v U'.heap L ∧ FrameEnd U o U' L room_1.cells room_1.slots) := by
  refine own_contract (plainFor_of_name own_pn0) (fun m => own_ef0 m p0 p1) ?_
  intro p e s m below meth c s₁ G hx hby hml0 hown0 hnm hret hZ X0 e0 hp hR
  have hml : c.maxLocals = 5 := hml0
  have hown : s.vm.findClass "com/example/tracewright/tracewright/XmlTextIsWhitespacePinLaw" = some m.cls := hown0
  have N0 := Fr.nil n0
  show G s₁ (mkF m 0 #[.val (.int p0), .val (.int p1), .unset, .unset, .unset] [])
  have K0 : Keep h0 h0 [] := Keep.refl _ _
  refine hp (fun tq kq => XS.iconst X0.here hx rfl (hb hby at_0) kq) ?_
  show G s₁ (mkF m 1 #[.val (.int p0), .val (.int p1), .unset, .unset, .unset] [(.int (4 : Int32))])
  obtain ⟨T1, h1, k1, X1, e1, E1, A1, st1⟩ := newP X0 hx hZ (hw _ (List.mem_of_getElem? (i := 0) rfl)) e0 (g := (mkF m 1 #[.val (.int p0), .val (.int p1), .unset, .unset, .unset] [(.int (4 : Int32))])) rfl (hb hby at_1) rfl (by decide) (cap := 4) (by decide) (by decide) (by decide) (by decide)
  obtain ⟨b1, g1⟩ : ∃ z, z = h0.size := ⟨_, rfl⟩
  rw [← g1] at A1 st1
  have sz_b1 : h0.size ≤ b1 := Nat.le_trans K0.1 (Nat.le_of_eq g1.symm)
  have g_b1 : n0 ≤ b1 := Nat.le_trans Z0 sz_b1
  have K1 := K0.ext E1
  have V1_b1 : own_AI Z h1 b1 .char 4 (fun _ => 0) := own_AI.new A1 (by decide) rfl 4 (by decide)
  refine hp st1 ?_
  show G T1 (mkF m 3 #[.val (.int p0), .val (.int p1), .unset, .unset, .unset] [(.ref b1)])
  refine hp (fun tq kq => XS.dup X1.here hx rfl (hb hby at_3) rfl rfl kq) ?_
  show G T1 (mkF m 4 #[.val (.int p0), .val (.int p1), .unset, .unset, .unset] [(.ref b1), (.ref b1)])
  refine hp (fun tq kq => XS.iconst X1.here hx rfl (hb hby at_4) kq) ?_
  show G T1 (mkF m 5 #[.val (.int p0), .val (.int p1), .unset, .unset, .unset] [(.int (0 : Int32)), (.ref b1), (.ref b1)])
  refine hp (fun tq kq => XS.bipush X1.here hx rfl (hb hby at_5) kq) ?_
  show G T1 (mkF m 7 #[.val (.int p0), .val (.int p1), .unset, .unset, .unset] [(.int (32 : Int32)), (.int (0 : Int32)), (.ref b1), (.ref b1)])
  obtain ⟨T2, h2, X2, e2, W2, V2_b1, st2⟩ := own_stC X1 hx hZ e1 V1_b1 (j := (0 : Int32)) 0 (by decide) (by decide) (by decide) (g := (mkF m 7 #[.val (.int p0), .val (.int p1), .unset, .unset, .unset] [(.int (32 : Int32)), (.int (0 : Int32)), (.ref b1), (.ref b1)])) rfl rfl (hb hby at_7)
  have K2 := K1.wr W2 (Or.inr sz_b1)
  have N2 := Fr.snoc X2 N0 g_b1
  refine hp st2 ?_
  show G T2 (mkF m 8 #[.val (.int p0), .val (.int p1), .unset, .unset, .unset] [(.ref b1)])
  refine hp (fun tq kq => XS.dup X2.here hx rfl (hb hby at_8) rfl rfl kq) ?_
  show G T2 (mkF m 9 #[.val (.int p0), .val (.int p1), .unset, .unset, .unset] [(.ref b1), (.ref b1)])
  refine hp (fun tq kq => XS.iconst X2.here hx rfl (hb hby at_9) kq) ?_
  show G T2 (mkF m 10 #[.val (.int p0), .val (.int p1), .unset, .unset, .unset] [(.int (1 : Int32)), (.ref b1), (.ref b1)])
  refine hp (fun tq kq => XS.bipush X2.here hx rfl (hb hby at_10) kq) ?_
  show G T2 (mkF m 12 #[.val (.int p0), .val (.int p1), .unset, .unset, .unset] [(.int (9 : Int32)), (.int (1 : Int32)), (.ref b1), (.ref b1)])
  obtain ⟨T3, h3, X3, e3, W3, V3_b1, st3⟩ := own_stC X2 hx hZ e2 V2_b1 (j := (1 : Int32)) 1 (by decide) (by decide) (by decide) (g := (mkF m 12 #[.val (.int p0), .val (.int p1), .unset, .unset, .unset] [(.int (9 : Int32)), (.int (1 : Int32)), (.ref b1), (.ref b1)])) rfl rfl (hb hby at_12)
  have K3 := K2.wr W3 (Or.inr sz_b1)
  have N3 := Fr.snoc X3 N2 g_b1
  refine hp st3 ?_
  show G T3 (mkF m 13 #[.val (.int p0), .val (.int p1), .unset, .unset, .unset] [(.ref b1)])
  refine hp (fun tq kq => XS.dup X3.here hx rfl (hb hby at_13) rfl rfl kq) ?_
  show G T3 (mkF m 14 #[.val (.int p0), .val (.int p1), .unset, .unset, .unset] [(.ref b1), (.ref b1)])
  refine hp (fun tq kq => XS.iconst X3.here hx rfl (hb hby at_14) kq) ?_
  show G T3 (mkF m 15 #[.val (.int p0), .val (.int p1), .unset, .unset, .unset] [(.int (2 : Int32)), (.ref b1), (.ref b1)])
  refine hp (fun tq kq => XS.bipush X3.here hx rfl (hb hby at_15) kq) ?_
  show G T3 (mkF m 17 #[.val (.int p0), .val (.int p1), .unset, .unset, .unset] [(.int (10 : Int32)), (.int (2 : Int32)), (.ref b1), (.ref b1)])
  obtain ⟨T4, h4, X4, e4, W4, V4_b1, st4⟩ := own_stC X3 hx hZ e3 V3_b1 (j := (2 : Int32)) 2 (by decide) (by decide) (by decide) (g := (mkF m 17 #[.val (.int p0), .val (.int p1), .unset, .unset, .unset] [(.int (10 : Int32)), (.int (2 : Int32)), (.ref b1), (.ref b1)])) rfl rfl (hb hby at_17)
  have K4 := K3.wr W4 (Or.inr sz_b1)
  have N4 := Fr.snoc X4 N3 g_b1
  refine hp st4 ?_
  show G T4 (mkF m 18 #[.val (.int p0), .val (.int p1), .unset, .unset, .unset] [(.ref b1)])
  refine hp (fun tq kq => XS.dup X4.here hx rfl (hb hby at_18) rfl rfl kq) ?_
  show G T4 (mkF m 19 #[.val (.int p0), .val (.int p1), .unset, .unset, .unset] [(.ref b1), (.ref b1)])
  refine hp (fun tq kq => XS.iconst X4.here hx rfl (hb hby at_19) kq) ?_
  show G T4 (mkF m 20 #[.val (.int p0), .val (.int p1), .unset, .unset, .unset] [(.int (3 : Int32)), (.ref b1), (.ref b1)])
  refine hp (fun tq kq => XS.bipush X4.here hx rfl (hb hby at_20) kq) ?_
  show G T4 (mkF m 22 #[.val (.int p0), .val (.int p1), .unset, .unset, .unset] [(.int (13 : Int32)), (.int (3 : Int32)), (.ref b1), (.ref b1)])
  obtain ⟨T5, h5, X5, e5, W5, V5_b1, st5⟩ := own_stC X4 hx hZ e4 V4_b1 (j := (3 : Int32)) 3 (by decide) (by decide) (by decide) (g := (mkF m 22 #[.val (.int p0), .val (.int p1), .unset, .unset, .unset] [(.int (13 : Int32)), (.int (3 : Int32)), (.ref b1), (.ref b1)])) rfl rfl (hb hby at_22)
  have K5 := K4.wr W5 (Or.inr sz_b1)
  have N5 := Fr.snoc X5 N4 g_b1
  refine hp st5 ?_
  show G T5 (mkF m 23 #[.val (.int p0), .val (.int p1), .unset, .unset, .unset] [(.ref b1)])
  refine hp (fun tq kq => XS.astoreN X5.here hx rfl (hb hby at_23) rfl rfl (l' := #[.val (.int p0), .val (.int p1), .val (.ref b1), .unset, .unset]) rfl kq) ?_
  show G T5 (mkF m 24 #[.val (.int p0), .val (.int p1), .val (.ref b1), .unset, .unset] [])
  refine hp (fun tq kq => XS.iloadN X5.here hx rfl (hb hby at_24) rfl kq) ?_
  show G T5 (mkF m 25 #[.val (.int p0), .val (.int p1), .val (.ref b1), .unset, .unset] [(.int p1)])
  refine hp (fun tq kq => XS.iconst X5.here hx rfl (hb hby at_25) kq) ?_
  show G T5 (mkF m 26 #[.val (.int p0), .val (.int p1), .val (.ref b1), .unset, .unset] [(.int (4 : Int32)), (.int p1)])
  refine hp (fun tq kq => XS.iand X5.here hx rfl (hb hby at_26) rfl kq) ?_
  show G T5 (mkF m 27 #[.val (.int p0), .val (.int p1), .val (.ref b1), .unset, .unset] [(.int (p1 &&& (4 : Int32)))])
  have j6 : ∀ (z7 : Int32), z7 = (if (p1 &&& (4 : Int32)) = (0 : Int32) then (0 : Int32) else (1 : Int32)) → G T5 (mkF m 35 #[.val (.int p0), .val (.int p1), .val (.ref b1), .unset, .unset] [(.int z7)]) := by
    intro z7 hz7
    refine hp (fun tq kq => XS.istoreN X5.here hx rfl (hb hby at_35) rfl (l' := #[.val (.int p0), .val (.int p1), .val (.ref b1), .val (.int z7), .unset]) rfl kq) ?_
    show G T5 (mkF m 36 #[.val (.int p0), .val (.int p1), .val (.ref b1), .val (.int z7), .unset] [])
    refine hp (fun tq kq => XS.iloadN X5.here hx rfl (hb hby at_36) rfl kq) ?_
    show G T5 (mkF m 37 #[.val (.int p0), .val (.int p1), .val (.ref b1), .val (.int z7), .unset] [(.int z7)])
    by_cases hb8 : z7 = (0 : Int32)
    · refine hp (fun tq kq => XS.ifYes X5.here hx rfl (pc0 := 37) (pc' := 48) rfl (hb hby at_37) rfl ((if0 _ _).trans (teq hb8).1) (by decide) (by decide) kq) ?_
      show G T5 (mkF m 48 #[.val (.int p0), .val (.int p1), .val (.ref b1), .val (.int z7), .unset] [])
      refine hp (fun tq kq => XS.iloadN X5.here hx rfl (hb hby at_48) rfl kq) ?_
      show G T5 (mkF m 49 #[.val (.int p0), .val (.int p1), .val (.ref b1), .val (.int z7), .unset] [(.int p0)])
      refine hp (fun tq kq => XS.i2c X5.here hx rfl (hb hby at_49) rfl kq) ?_
      show G T5 (mkF m 50 #[.val (.int p0), .val (.int p1), .val (.ref b1), .val (.int z7), .unset] [(.int p0.toUInt32.toUInt16.toUInt32.toInt32)])
      refine hp (fun tq kq => XS.istore X5.here hx rfl (hb hby at_50) rfl (l' := #[.val (.int p0), .val (.int p1), .val (.ref b1), .val (.int z7), .val (.int p0.toUInt32.toUInt16.toUInt32.toInt32)]) rfl kq) ?_
      show G T5 (mkF m 52 #[.val (.int p0), .val (.int p1), .val (.ref b1), .val (.int z7), .val (.int p0.toUInt32.toUInt16.toUInt32.toInt32)] [])
      refine hp (fun tq kq => XS.iload X5.here hx rfl (hb hby at_52) rfl kq) ?_
      show G T5 (mkF m 54 #[.val (.int p0), .val (.int p1), .val (.ref b1), .val (.int z7), .val (.int p0.toUInt32.toUInt16.toUInt32.toInt32)] [(.int p0.toUInt32.toUInt16.toUInt32.toInt32)])
      obtain ⟨v9, T9, L9, X9, hQ9, st9⟩ := own_callS X5 hx hZ (y := (⟨"com/example/tracewright/tracewright/XmlText", "isWhitespace", "(C)Z"⟩ : MethodName)) (rm := ({ frames := 0, cells := 0, slots := 0, locals := 0 } : Room)) 0 hown (hw _ (List.mem_of_getElem? (i := 1) rfl)) (hw _ (List.mem_of_getElem? (i := 2) rfl)) (hw _ (List.mem_of_getElem? (i := 3) rfl)) (hw _ (List.mem_of_getElem? (i := 4) rfl)) (by decide) (rm1 l Z a0 hw [] p0.toUInt32.toUInt16.toUInt32.toInt32 h5 n0) e5 (by decide) (by decide) (g := (mkF m 54 #[.val (.int p0), .val (.int p1), .val (.ref b1), .val (.int z7), .val (.int p0.toUInt32.toUInt16.toUInt32.toInt32)] [(.int p0.toUInt32.toUInt16.toUInt32.toInt32)])) rfl (by rw [hml]; rfl) [(.int p0.toUInt32.toUInt16.toUInt32.toInt32)] [] own_pd0 rfl rfl (by show 2 * 0 + _ ≤ _; exact Nat.le_of_eq rfl) (hb hby at_54) rfl (by decide) (by decide)
      obtain ⟨rfl, N9, e9⟩ := hQ9
      have F9 := Fr.app N5 N9
      refine hp st9 ?_
      show G T9 (mkF m 57 #[.val (.int p0), .val (.int p1), .val (.ref b1), .val (.int z7), .val (.int p0.toUInt32.toUInt16.toUInt32.toInt32)] [(.int (own_ws p0.toUInt32.toUInt16.toUInt32.toInt32))])
      refine hp (fun tq kq => XS.iload X9.here hx rfl (hb hby at_57) rfl kq) ?_
      show G T9 (mkF m 59 #[.val (.int p0), .val (.int p1), .val (.ref b1), .val (.int z7), .val (.int p0.toUInt32.toUInt16.toUInt32.toInt32)] [(.int p0.toUInt32.toUInt16.toUInt32.toInt32), (.int (own_ws p0.toUInt32.toUInt16.toUInt32.toInt32))])
      obtain ⟨v10, T10, L10, X10, hQ10, st10⟩ := own_callS X9 hx hZ (y := (⟨"com/example/tracewright/tracewright/XmlTextIsWhitespacePinLaw", "expected", "(C)Z"⟩ : MethodName)) (rm := ({ frames := 0, cells := 0, slots := 0, locals := 0 } : Room)) 1 hown (hw _ (List.mem_of_getElem? (i := 5) rfl)) (hw _ (List.mem_of_getElem? (i := 6) rfl)) (hw _ (List.mem_of_getElem? (i := 7) rfl)) (hw _ (List.mem_of_getElem? (i := 8) rfl)) (by decide) (rm2 l Z a0 hw [] p0.toUInt32.toUInt16.toUInt32.toInt32 h5 n0) e9 (by decide) (by decide) (g := (mkF m 59 #[.val (.int p0), .val (.int p1), .val (.ref b1), .val (.int z7), .val (.int p0.toUInt32.toUInt16.toUInt32.toInt32)] [(.int p0.toUInt32.toUInt16.toUInt32.toInt32), (.int (own_ws p0.toUInt32.toUInt16.toUInt32.toInt32))])) rfl (by rw [hml]; rfl) [(.int p0.toUInt32.toUInt16.toUInt32.toInt32)] [(.int (own_ws p0.toUInt32.toUInt16.toUInt32.toInt32))] own_pd0 rfl rfl (by show 2 * 0 + _ ≤ _; exact Nat.le_of_eq rfl) (hb hby at_59) rfl (by decide) (by decide)
      obtain ⟨rfl, N10, e10⟩ := hQ10
      have F10 := Fr.app F9 N10
      refine hp st10 ?_
      show G T10 (mkF m 62 #[.val (.int p0), .val (.int p1), .val (.ref b1), .val (.int z7), .val (.int p0.toUInt32.toUInt16.toUInt32.toInt32)] [(.int (own_exp p0.toUInt32.toUInt16.toUInt32.toInt32)), (.int (own_ws p0.toUInt32.toUInt16.toUInt32.toInt32))])
      refine hp (fun tq kq => XS.icmpNo X10.here hx rfl (hb hby at_62) rfl (teq (own_same _ (by  exact (c_i2c _).2.1))).2 kq) ?_
      show G T10 (mkF m 65 #[.val (.int p0), .val (.int p1), .val (.ref b1), .val (.int z7), .val (.int p0.toUInt32.toUInt16.toUInt32.toInt32)] [])
      refine hp (fun tq kq => XS.iconst X10.here hx rfl (hb hby at_65) kq) ?_
      show G T10 (mkF m 66 #[.val (.int p0), .val (.int p1), .val (.ref b1), .val (.int z7), .val (.int p0.toUInt32.toUInt16.toUInt32.toInt32)] [(.int (1 : Int32))])
      refine hp (fun tq kq => XS.goto X10.here hx rfl (pc0 := 66) (pc' := 70) rfl (hb hby at_66) (by decide) (by decide) kq) ?_
      show G T10 (mkF m 70 #[.val (.int p0), .val (.int p1), .val (.ref b1), .val (.int z7), .val (.int p0.toUInt32.toUInt16.toUInt32.toInt32)] [(.int (1 : Int32))])
      exact hR X10 (fun fs hl => retN X10 hx (t := .boolean) hret (by simp) (hb hby at_70) hl) (fun q => by rw [hret] at q; cases q) ⟨rfl, F10⟩ (by decide) (by decide)
    · refine hp (fun tq kq => XS.ifNo X5.here hx rfl (hb hby at_37) rfl ((if0 _ _).trans (feq hb8).1) kq) ?_
      show G T5 (mkF m 40 #[.val (.int p0), .val (.int p1), .val (.ref b1), .val (.int z7), .unset] [])
      refine hp (fun tq kq => XS.aloadN X5.here hx rfl (hb hby at_40) rfl rfl kq) ?_
      show G T5 (mkF m 41 #[.val (.int p0), .val (.int p1), .val (.ref b1), .val (.int z7), .unset] [(.ref b1)])
      refine hp (fun tq kq => XS.iloadN X5.here hx rfl (hb hby at_41) rfl kq) ?_
      show G T5 (mkF m 42 #[.val (.int p0), .val (.int p1), .val (.ref b1), .val (.int z7), .unset] [(.int p1), (.ref b1)])
      refine hp (fun tq kq => XS.iconst X5.here hx rfl (hb hby at_42) kq) ?_
      show G T5 (mkF m 43 #[.val (.int p0), .val (.int p1), .val (.ref b1), .val (.int z7), .unset] [(.int (3 : Int32)), (.int p1), (.ref b1)])
      refine hp (fun tq kq => XS.iand X5.here hx rfl (hb hby at_43) rfl kq) ?_
      show G T5 (mkF m 44 #[.val (.int p0), .val (.int p1), .val (.ref b1), .val (.int z7), .unset] [(.int (p1 &&& (3 : Int32))), (.ref b1)])
      refine hp (own_ldC X5 hx hZ e5 V5_b1 (j := (p1 &&& (3 : Int32))) (p1 &&& (3 : Int32)).toNatClampNeg rfl (own_ix p1).1 (own_ix p1).2 (g := (mkF m 44 #[.val (.int p0), .val (.int p1), .val (.ref b1), .val (.int z7), .unset] [(.int (p1 &&& (3 : Int32))), (.ref b1)])) rfl rfl (hb hby at_44)) ?_
      show G T5 (mkF m 45 #[.val (.int p0), .val (.int p1), .val (.ref b1), .val (.int z7), .unset] [(.int ((own_up (own_up (own_up (own_up (fun _ => (0 : Int32)) 0 (32 : Int32).toUInt32.toUInt16.toUInt32.toInt32) 1 (9 : Int32).toUInt32.toUInt16.toUInt32.toInt32) 2 (10 : Int32).toUInt32.toUInt16.toUInt32.toInt32) 3 (13 : Int32).toUInt32.toUInt16.toUInt32.toInt32) (p1 &&& (3 : Int32)).toNatClampNeg))])
      refine hp (fun tq kq => XS.goto X5.here hx rfl (pc0 := 45) (pc' := 50) rfl (hb hby at_45) (by decide) (by decide) kq) ?_
      show G T5 (mkF m 50 #[.val (.int p0), .val (.int p1), .val (.ref b1), .val (.int z7), .unset] [(.int ((own_up (own_up (own_up (own_up (fun _ => (0 : Int32)) 0 (32 : Int32).toUInt32.toUInt16.toUInt32.toInt32) 1 (9 : Int32).toUInt32.toUInt16.toUInt32.toInt32) 2 (10 : Int32).toUInt32.toUInt16.toUInt32.toInt32) 3 (13 : Int32).toUInt32.toUInt16.toUInt32.toInt32) (p1 &&& (3 : Int32)).toNatClampNeg))])
      refine hp (fun tq kq => XS.istore X5.here hx rfl (hb hby at_50) rfl (l' := #[.val (.int p0), .val (.int p1), .val (.ref b1), .val (.int z7), .val (.int ((own_up (own_up (own_up (own_up (fun _ => (0 : Int32)) 0 (32 : Int32).toUInt32.toUInt16.toUInt32.toInt32) 1 (9 : Int32).toUInt32.toUInt16.toUInt32.toInt32) 2 (10 : Int32).toUInt32.toUInt16.toUInt32.toInt32) 3 (13 : Int32).toUInt32.toUInt16.toUInt32.toInt32) (p1 &&& (3 : Int32)).toNatClampNeg))]) rfl kq) ?_
      show G T5 (mkF m 52 #[.val (.int p0), .val (.int p1), .val (.ref b1), .val (.int z7), .val (.int ((own_up (own_up (own_up (own_up (fun _ => (0 : Int32)) 0 (32 : Int32).toUInt32.toUInt16.toUInt32.toInt32) 1 (9 : Int32).toUInt32.toUInt16.toUInt32.toInt32) 2 (10 : Int32).toUInt32.toUInt16.toUInt32.toInt32) 3 (13 : Int32).toUInt32.toUInt16.toUInt32.toInt32) (p1 &&& (3 : Int32)).toNatClampNeg))] [])
      refine (?_ : ∀ (z11 : Int32), z11 = ((own_up (own_up (own_up (own_up (fun _ => (0 : Int32)) 0 (32 : Int32).toUInt32.toUInt16.toUInt32.toInt32) 1 (9 : Int32).toUInt32.toUInt16.toUInt32.toInt32) 2 (10 : Int32).toUInt32.toUInt16.toUInt32.toInt32) 3 (13 : Int32).toUInt32.toUInt16.toUInt32.toInt32) (p1 &&& (3 : Int32)).toNatClampNeg) → G T5 (mkF m 52 #[.val (.int p0), .val (.int p1), .val (.ref b1), .val (.int z7), .val (.int z11)] [])) _ rfl
      intro z11 hz11
      refine hp (fun tq kq => XS.iload X5.here hx rfl (hb hby at_52) rfl kq) ?_
      show G T5 (mkF m 54 #[.val (.int p0), .val (.int p1), .val (.ref b1), .val (.int z7), .val (.int z11)] [(.int z11)])
      obtain ⟨v12, T12, L12, X12, hQ12, st12⟩ := own_callS X5 hx hZ (y := (⟨"com/example/tracewright/tracewright/XmlText", "isWhitespace", "(C)Z"⟩ : MethodName)) (rm := ({ frames := 0, cells := 0, slots := 0, locals := 0 } : Room)) 0 hown (hw _ (List.mem_of_getElem? (i := 1) rfl)) (hw _ (List.mem_of_getElem? (i := 2) rfl)) (hw _ (List.mem_of_getElem? (i := 3) rfl)) (hw _ (List.mem_of_getElem? (i := 4) rfl)) (by decide) (rm1 l Z a0 hw [] z11 h5 n0) e5 (by decide) (by decide) (g := (mkF m 54 #[.val (.int p0), .val (.int p1), .val (.ref b1), .val (.int z7), .val (.int z11)] [(.int z11)])) rfl (by rw [hml]; rfl) [(.int z11)] [] own_pd0 rfl rfl (by show 2 * 0 + _ ≤ _; exact Nat.le_of_eq rfl) (hb hby at_54) rfl (by decide) (by decide)
      obtain ⟨rfl, N12, e12⟩ := hQ12
      have F12 := Fr.app N5 N12
      refine hp st12 ?_
      show G T12 (mkF m 57 #[.val (.int p0), .val (.int p1), .val (.ref b1), .val (.int z7), .val (.int z11)] [(.int (own_ws z11))])
      refine hp (fun tq kq => XS.iload X12.here hx rfl (hb hby at_57) rfl kq) ?_
      show G T12 (mkF m 59 #[.val (.int p0), .val (.int p1), .val (.ref b1), .val (.int z7), .val (.int z11)] [(.int z11), (.int (own_ws z11))])
      obtain ⟨v13, T13, L13, X13, hQ13, st13⟩ := own_callS X12 hx hZ (y := (⟨"com/example/tracewright/tracewright/XmlTextIsWhitespacePinLaw", "expected", "(C)Z"⟩ : MethodName)) (rm := ({ frames := 0, cells := 0, slots := 0, locals := 0 } : Room)) 1 hown (hw _ (List.mem_of_getElem? (i := 5) rfl)) (hw _ (List.mem_of_getElem? (i := 6) rfl)) (hw _ (List.mem_of_getElem? (i := 7) rfl)) (hw _ (List.mem_of_getElem? (i := 8) rfl)) (by decide) (rm2 l Z a0 hw [] z11 h5 n0) e12 (by decide) (by decide) (g := (mkF m 59 #[.val (.int p0), .val (.int p1), .val (.ref b1), .val (.int z7), .val (.int z11)] [(.int z11), (.int (own_ws z11))])) rfl (by rw [hml]; rfl) [(.int z11)] [(.int (own_ws z11))] own_pd0 rfl rfl (by show 2 * 0 + _ ≤ _; exact Nat.le_of_eq rfl) (hb hby at_59) rfl (by decide) (by decide)
      obtain ⟨rfl, N13, e13⟩ := hQ13
      have F13 := Fr.app F12 N13
      refine hp st13 ?_
      show G T13 (mkF m 62 #[.val (.int p0), .val (.int p1), .val (.ref b1), .val (.int z7), .val (.int z11)] [(.int (own_exp z11)), (.int (own_ws z11))])
      refine hp (fun tq kq => XS.icmpNo X13.here hx rfl (hb hby at_62) rfl (teq (own_same _ (by rw [hz11]; exact (own_arr _)))).2 kq) ?_
      show G T13 (mkF m 65 #[.val (.int p0), .val (.int p1), .val (.ref b1), .val (.int z7), .val (.int z11)] [])
      refine hp (fun tq kq => XS.iconst X13.here hx rfl (hb hby at_65) kq) ?_
      show G T13 (mkF m 66 #[.val (.int p0), .val (.int p1), .val (.ref b1), .val (.int z7), .val (.int z11)] [(.int (1 : Int32))])
      refine hp (fun tq kq => XS.goto X13.here hx rfl (pc0 := 66) (pc' := 70) rfl (hb hby at_66) (by decide) (by decide) kq) ?_
      show G T13 (mkF m 70 #[.val (.int p0), .val (.int p1), .val (.ref b1), .val (.int z7), .val (.int z11)] [(.int (1 : Int32))])
      exact hR X13 (fun fs hl => retN X13 hx (t := .boolean) hret (by simp) (hb hby at_70) hl) (fun q => by rw [hret] at q; cases q) ⟨rfl, F13⟩ (by decide) (by decide)
  by_cases hb14 : (p1 &&& (4 : Int32)) = (0 : Int32)
  · refine hp (fun tq kq => XS.ifYes X5.here hx rfl (pc0 := 27) (pc' := 34) rfl (hb hby at_27) rfl ((if0 _ _).trans (teq hb14).1) (by decide) (by decide) kq) ?_
    show G T5 (mkF m 34 #[.val (.int p0), .val (.int p1), .val (.ref b1), .unset, .unset] [])
    refine hp (fun tq kq => XS.iconst X5.here hx rfl (hb hby at_34) kq) ?_
    show G T5 (mkF m 35 #[.val (.int p0), .val (.int p1), .val (.ref b1), .unset, .unset] [(.int (0 : Int32))])
    exact j6 _ ((if_pos hb14)).symm
  · refine hp (fun tq kq => XS.ifNo X5.here hx rfl (hb hby at_27) rfl ((if0 _ _).trans (feq hb14).1) kq) ?_
    show G T5 (mkF m 30 #[.val (.int p0), .val (.int p1), .val (.ref b1), .unset, .unset] [])
    refine hp (fun tq kq => XS.iconst X5.here hx rfl (hb hby at_30) kq) ?_
    show G T5 (mkF m 31 #[.val (.int p0), .val (.int p1), .val (.ref b1), .unset, .unset] [(.int (1 : Int32))])
    refine hp (fun tq kq => XS.goto X5.here hx rfl (pc0 := 31) (pc' := 35) rfl (hb hby at_31) (by decide) (by decide) kq) ?_
    show G T5 (mkF m 35 #[.val (.int p0), .val (.int p1), .val (.ref b1), .unset, .unset] [(.int (1 : Int32))])
    exact j6 _ ((if_neg hb14)).symm
set_option maxRecDepth 65536 in
set_option maxHeartbeats 40000000 in
theorem comes_1 {Post : Tables → Env → Array Value → State → Outcome → State → Prop} (hpost : ∀ tb e args s v u, (limb_1_1.after args s (.returned v) u = true ∧ limb_1_2.after args s (.returned v) u = true ∧ True) → FrameEnd s (.returned v) u (Jvm.fieldLocs frame_1_writes args s ++ Jvm.arrayLocs frame_1_arrays args s ++ Jvm.staticLocs frame_1_statics s) 16 128 → Post tb e args s (.returned v) u) :
    ArmFor flags0 classFile x code maxLocals ret World_1 tables_1 room_1 Calls_1 rest_1 Pre_1 Post := by
  intro l hfl _ _ p e ha hc hk s m args below hf hA hF happ hP
  obtain ⟨hcalls, hrest, hpre⟩ := hP
  obtain ⟨-, -, -, hnamed, -, -, -, hat⟩ := (Spec.applies_iff hf).mp happ
  obtain ⟨hg, hn⟩ := and_e (Cond.before_iff.mp (show (Jvm.Cond.and given_1 narrow_1).before args s = true from hpre))
  obtain ⟨hcnt, hgs⟩ := and_e hg
  obtain ⟨ha0, hgs⟩ := and_e hgs
  have ha1 := hgs
  obtain ⟨w0, w1, rfl⟩ : ∃ w0 w1 : Value, args = #[w0, w1] := by
    have hs : args.size = 2 := by simpa [Cond.value, given_1] using hcnt
    obtain ⟨L⟩ := args
    match L, hs with
    | [w0, w1], _ => exact ⟨w0, w1, rfl⟩
  have hw := fun d (hd : d ∈ tables_1) => atoms_spec (ws := Jvm.Cond.code x code maxLocals ret :: tables_1) hat d (List.mem_cons_of_mem _ hd)
  obtain ⟨i0, ei0⟩ := is_v ha0
  obtain rfl : w0 = (.int i0) := Option.some.inj ei0
  obtain ⟨i1, ei1⟩ := is_v ha1
  obtain rfl : w1 = (.int i1) := Option.some.inj ei1
  obtain ⟨n, o, h1, h2, h3, _, L, rfl, ⟨rfl, N⟩, hq⟩ := rm0 l s _ hw tables_1 i0 i1 s.heap s.heap.size (Nat.le_refl _) p e ha hc hk s m _ below hf ((Spec.applies_iff_loose hf).mp happ).1 ⟨rfl, State.Warmed39.refl s, rfl⟩ trivial
  exact ⟨n, _, h1, h2, h3, hpost _ _ _ _ _ _ ⟨Cond.after_iff.mpr rfl, Cond.after_iff.mpr (eq_i res_at (Term.int_eval (1)) rfl), trivial⟩ ⟨hq.1, hq.2.1, (hq.2.2.sift fun y hy => Or.inr (N y hy)).mono (by decide) (by decide)⟩⟩
theorem main_1_1 : Claimed_1_1 := comes_1 fun _ _ _ _ _ _ h hF => ⟨h.1, hF⟩
theorem main_1_2 : Claimed_1_2 := comes_1 fun _ _ _ _ _ _ h hF => ⟨h.2.1, hF⟩
end Jvm.Pilot.@@N@@
namespace Jvm.Pilot.@@N@@
open Jvm Jvm.ClassFile Sem Op Lib Jvm.Free Jvm.Stand Jvm.Pilot.@@N@@.Jvm.D
/-! MADE BY PROGRAM (witnessworld.py) out of the Statement's table words and the real class files: 11 classes; the members and pool entries that the words name. The judged class is class 1, her method 2. -/
namespace start1
open Jvm.ClassFile
def u (s : String) : CpInfo := .utf8 (stringToUtf16 s)
/-- a pool by its gaps: so many unusable entries, then the entry; so many at the end -/
def gap : Nat → List CpInfo → List CpInfo
  | 0, r => r
  | n + 1, r => .unusable :: gap n r
def poolList (es : List (Nat × CpInfo)) (last : Nat) : List CpInfo := es.foldr (fun e r => gap e.1 (e.2 :: r)) (gap last [])
def pool (es : List (Nat × CpInfo)) (last : Nat) : Array CpInfo := ⟨poolList es last⟩
def fileOf (pool : Array CpInfo) (this : Nat) (attrs : Array Attribute := #[]) (ms : Array MethodInfo := #[]) (fl : Nat := 33) (sup : Nat := 0) (ifs : Array Nat := #[]) (fds : Array FieldInfo := #[]) : ClassFile where
  minorVersion := 0
  majorVersion := 65
  constantPool := pool
  accessFlags := fl
  thisClass := this
  superClass := sup
  interfaces := ifs
  fields := fds
  methods := ms
  attributes := attrs
def plain (name : String) (sup : Option ClassId) : Class where
  name := name
  kind := .ordinary
  loader := none
  accessFlags := 33
  super := sup
  interfaces := #[]
  cf := none
  fields := #[]
  methods := #[]
  instanceTypes := #[]
  staticTypes := #[]
  resolved := #[]
  callSites := []
  init := .initialized
  statics := none
  mirror := none

def pool0 : Array CpInfo := pool [(5, u "<init>"), (0, u "()V"), (1, .class_ 10), (1, u "java/lang/Object")] 113

def k0m0 : Method := { name := "<init>", desc := "()V", sig := { parameters := [], returnType := none }, accessFlags := 1, code := none }
/-- java/lang/Object -/
def k0 : Class := { plain "java/lang/Object" none with
  accessFlags := 33
  interfaces := #[]
  cf := some (fileOf pool0 8 #[] #[{ accessFlags := 1, nameIndex := 5, descriptorIndex := 6, attributes := #[] }] 33 0 #[] #[])
  fields := #[]
  methods := #[k0m0]
  instanceTypes := #[]
  staticTypes := #[]
  resolved := Array.replicate 124 none
  statics := none }

def pool1 : Array CpInfo := pool [(2, .class_ 4), (1, u "java/lang/Object"), (0, u "<init>"), (0, u "()V"), (0, .class_ 8), (0, u "com/example/tracewright/tracewright/XmlTextIsWhitespacePinLaw"), (0, .long 4294977024), (1, .methodref 12 13), (0, .class_ 14), (0, .nameAndType 15 16), (0, u "com/example/tracewright/tracewright/XmlText"), (0, u "isWhitespace"), (0, u "(C)Z"), (0, .methodref 7 18), (0, .nameAndType 19 16), (0, u "expected"), (0, u "WHITE"), (0, u "J"), (4, u "law"), (0, u "(II)Z")] 4

def k1m0 : Method := { name := "<init>", desc := "()V", sig := { parameters := [], returnType := none }, accessFlags := 1, code := none }
def k1c1 : Code := { maxStack := 4, maxLocals := 1, code := method_2_code, exceptionTable := #[], attributes := #[] }
def k1m1 : Method := { name := "expected", desc := "(C)Z", sig := { parameters := [.char], returnType := some .boolean }, accessFlags := 10, code := some k1c1 }
def k1c2 : Code := { maxStack := 4, maxLocals := 5, code := code, exceptionTable := #[], attributes := #[] }
def k1m2 : Method := { name := "law", desc := "(II)Z", sig := { parameters := [.int, .int], returnType := some .boolean }, accessFlags := 9, code := some k1c2 }
/-- com/example/tracewright/tracewright/XmlTextIsWhitespacePinLaw -/
def k1 : Class := { plain "com/example/tracewright/tracewright/XmlTextIsWhitespacePinLaw" (some 0) with
  accessFlags := 49
  interfaces := #[]
  cf := some (fileOf pool1 7 #[] #[{ accessFlags := 1, nameIndex := 5, descriptorIndex := 6, attributes := #[] }, { accessFlags := 10, nameIndex := 19, descriptorIndex := 16, attributes := #[] }, { accessFlags := 9, nameIndex := 26, descriptorIndex := 27, attributes := #[] }] 49 2 #[] #[{ accessFlags := 26, nameIndex := 20, descriptorIndex := 21, attributes := #[] }])
  fields := #[{ name := "WHITE", type := .long, accessFlags := 26, slot := 0, constantValue := 0 }]
  methods := #[k1m0, k1m1, k1m2]
  instanceTypes := #[]
  staticTypes := #[.long]
  resolved := Array.replicate 32 none
  statics := none }

def pool2 : Array CpInfo := pool [(2, .class_ 4), (1, u "java/lang/Object"), (0, u "<init>"), (0, u "()V"), (1, .class_ 10), (1, u "com/example/tracewright/tracewright/XmlText"), (37, u "(C)Z"), (27, .class_ 77), (0, u "com/example/tracewright/tracewright/XmlText$Utf8Document"), (3, .class_ 82), (0, u "com/example/tracewright/tracewright/XmlText$EncodedDocument"), (102, u "DECLARED_ENCODING"), (0, u "Ljava/util/regex/Pattern;"), (17, u "isWhitespace"), (25, u "DECLARATION_LIMIT"), (0, u "I"), (8, .class_ 241), (0, u "com/example/tracewright/tracewright/XmlText$Document")] 32

def k2m0 : Method := { name := "<init>", desc := "()V", sig := { parameters := [], returnType := none }, accessFlags := 2, code := none }
def k2c1 : Code := { maxStack := 2, maxLocals := 1, code := prog_140_method_10_code, exceptionTable := #[], attributes := #[] }
def k2m1 : Method := { name := "isWhitespace", desc := "(C)Z", sig := { parameters := [.char], returnType := some .boolean }, accessFlags := 8, code := some k2c1 }
/-- com/example/tracewright/tracewright/XmlText -/
def k2 : Class := { plain "com/example/tracewright/tracewright/XmlText" (some 0) with
  accessFlags := 48
  interfaces := #[]
  cf := some (fileOf pool2 8 #[.nestMembers #[81, 76, 240]] #[{ accessFlags := 2, nameIndex := 5, descriptorIndex := 6, attributes := #[] }, { accessFlags := 8, nameIndex := 204, descriptorIndex := 48, attributes := #[] }] 48 2 #[] #[{ accessFlags := 26, nameIndex := 185, descriptorIndex := 186, attributes := #[] }, { accessFlags := 26, nameIndex := 230, descriptorIndex := 231, attributes := #[] }])
  fields := #[{ name := "DECLARED_ENCODING", type := (.object "java/util/regex/Pattern"), accessFlags := 26, slot := 0, constantValue := 0 }, { name := "DECLARATION_LIMIT", type := .int, accessFlags := 26, slot := 1, constantValue := 0 }]
  methods := #[k2m0, k2m1]
  instanceTypes := #[]
  staticTypes := #[(.object "java/util/regex/Pattern"), .int]
  resolved := Array.replicate 274 none
  statics := none }

def pool3 : Array CpInfo := pool [(1, u "java/lang/Cloneable"), (0, .class_ 1), (0, u "java/lang/Object"), (0, .class_ 3)] 3

/-- java/lang/Cloneable -/
def k3 : Class := { plain "java/lang/Cloneable" (some 0) with
  accessFlags := 1537
  interfaces := #[]
  cf := some (fileOf pool3 2 #[] #[] 1537 4 #[] #[])
  fields := #[]
  methods := #[]
  instanceTypes := #[]
  staticTypes := #[]
  resolved := Array.replicate 8 none
  statics := none }

def pool4 : Array CpInfo := pool [(1, u "java/io/Serializable"), (0, .class_ 1), (0, u "java/lang/Object"), (0, .class_ 3)] 3

/-- java/io/Serializable -/
def k4 : Class := { plain "java/io/Serializable" (some 0) with
  accessFlags := 1537
  interfaces := #[]
  cf := some (fileOf pool4 2 #[] #[] 1537 4 #[] #[])
  fields := #[]
  methods := #[]
  instanceTypes := #[]
  staticTypes := #[]
  resolved := Array.replicate 8 none
  statics := none }

/-- the primitive byte -/
def k5 : Class := { plain "byte" none with kind := .primitive 'B', accessFlags := 0x411 }
/-- [B -/
def k6 : Class := { plain "[B" (some 0) with kind := .array 5 .byte, interfaces := #[3, 4], accessFlags := 1041 }

/-- the primitive char -/
def k7 : Class := { plain "char" none with kind := .primitive 'C', accessFlags := 0x411 }
/-- [C -/
def k8 : Class := { plain "[C" (some 0) with kind := .array 7 .char, interfaces := #[3, 4], accessFlags := 1041 }

/-- the primitive int -/
def k9 : Class := { plain "int" none with kind := .primitive 'I', accessFlags := 0x411 }
/-- [I -/
def k10 : Class := { plain "[I" (some 0) with kind := .array 9 .int, interfaces := #[3, 4], accessFlags := 1041 }

def heap : Heap := #[]
def classes : Array Class := #[k0, k1, k2, k3, k4, k5, k6, k7, k8, k9, k10]
def interned : List (Array UInt16 × Addr) := []
def slotsUsed : Nat := 0
def theMethod : MethodId := ⟨1, 2⟩
def args0 : Array Value := #[.int 5, .int 3]
def aboutOver (below : List Frame) : State where
  vm := { classes := classes, interned := interned.toArray }
  heap := heap
  slotsUsed := slotsUsed
  threads := #[{ frames := .invoking theMethod args0 :: below }]
def below0 : List Frame := [.native { method := ⟨0, 0⟩, args := #[] }]
def about1 : State := aboutOver below0
def p0 : Program := .bare "" "" ""
def e0 : Env := launch0.env 0 0 0
theorem w_frames : about1.frames = Frame.invoking theMethod args0 :: below0 := rfl
set_option maxRecDepth 65536 in
theorem w_args : argsFit about1.vm theMethod args0 = true := by decide +kernel
set_option maxRecDepth 65536 in
theorem w_heap : heapFits about1 = true := by decide +kernel
set_option maxRecDepth 65536 in
theorem w_runnable : about1.curStatus? = some .runnable := by decide +kernel
set_option maxRecDepth 65536 in
theorem w_alone : about1.alone = true := by decide +kernel
set_option maxRecDepth 65536 in
theorem w_named : about1.methodNamed? x = some theMethod := by decide +kernel
set_option maxRecDepth 65536 in
theorem w_hears : about1.hears theMethod below0 = true := by decide +kernel
set_option maxRecDepth 65536 in
theorem w_ripe : about1.ripe theMethod args0 below0 = true := by decide +kernel
theorem w_running : about1.status = .running := rfl
set_option maxRecDepth 65536 in
theorem w_room : about1.hasRoom e0.platform room_1 = true :=
  launch0.hasRoom_least _ room_1 (by decide +kernel) (by decide +kernel) (by decide +kernel) (by decide +kernel) (by decide +kernel) (by decide +kernel)
theorem allAtoms_all (ts : List Jvm.Cond) (a : Array Jvm.Value) (st : Jvm.State) : (allAtoms ts).before a st = ts.all (fun c => c.before a st) := by
  induction ts with
  | nil => rfl
  | cons c t ih =>
    show (Jvm.Cond.and c (allAtoms t)).before a st = _
    rw [Jvm.Cond.before_and, ih, List.all_cons]
def words1 : List Jvm.Cond := Jvm.Cond.code x code maxLocals ret :: tables_1
/-- a 'code' word, met by the world's own term for the bytes: nothing is compared byte by byte -/
theorem code_word {y : MethodName} {bytes : ByteArray} {mx : Nat} {rt : Option FieldType} {a : Array Value} {s : State} {m : MethodId} {meth : Method} {c : Code} (h1 : s.methodNamed? y = some m) (h2 : s.vm.method? m = some meth) (h3 : meth.code = some c) (h4 : c.code = bytes)
    (h5 : (c.maxLocals == mx && c.exceptionTable.isEmpty && decide (c.maxStack ≤ mostOperands) && decide (meth.sig.returnType = rt) && !meth.locks && decide (parseMethodDescriptor y.desc = some meth.sig)) = true) : (Jvm.Cond.code y bytes mx rt).before a s = true := by
  simp only [Bool.and_eq_true, beq_iff_eq, Bool.not_eq_true', decide_eq_true_eq] at h5
  obtain ⟨⟨⟨⟨⟨g1, g2⟩, g3⟩, g4⟩, g5⟩, g6⟩ := h5
  simp [Cond.before, Cond.holds, Cond.value, h1, h2, h3, h4, g1, g2, g3, g4, g5, g6]
def isCode : Jvm.Cond → Bool
  | .code _ _ _ _ => true
  | _ => false
theorem all_split {L : List Jvm.Cond} {P : Jvm.Cond → Bool} (h1 : L.all (fun c => isCode c || P c) = true) (h2 : ∀ c ∈ L.filter isCode, P c = true) : L.all P = true := by
  refine List.all_eq_true.mpr fun c hc => ?_
  have h := List.all_eq_true.mp h1 c hc
  rcases Bool.eq_false_or_eq_true (isCode c) with hi | hi
  · exact h2 c (List.mem_filter.mpr ⟨hc, hi⟩)
  · simpa [hi] using h
set_option maxRecDepth 65536 in
theorem w_c0 : (Jvm.Cond.code x code maxLocals ret).before args0 about1 = true := code_word (m := ⟨1, 2⟩) (meth := k1m2) (c := k1c2) (by decide +kernel) rfl rfl rfl (by decide +kernel)
set_option maxRecDepth 65536 in
theorem w_c1 : (Jvm.Cond.code ({ cls := "com/example/tracewright/tracewright/XmlText", name := "isWhitespace", desc := "(C)Z" } : Jvm.MethodName) prog_140_method_10_code (1 : Nat) (Option.some Jvm.ClassFile.FieldType.boolean)).before args0 about1 = true := code_word (m := ⟨2, 1⟩) (meth := k2m1) (c := k2c1) (by decide +kernel) rfl rfl rfl (by decide +kernel)
set_option maxRecDepth 65536 in
theorem w_c2 : (Jvm.Cond.code ({ cls := "com/example/tracewright/tracewright/XmlTextIsWhitespacePinLaw", name := "expected", desc := "(C)Z" } : Jvm.MethodName) method_2_code (1 : Nat) (Option.some Jvm.ClassFile.FieldType.boolean)).before args0 about1 = true := code_word (m := ⟨1, 1⟩) (meth := k1m1) (c := k1c1) (by decide +kernel) rfl rfl rfl (by decide +kernel)
def codes1 : List Jvm.Cond := [Jvm.Cond.code x code maxLocals ret, Jvm.Cond.code ({ cls := "com/example/tracewright/tracewright/XmlText", name := "isWhitespace", desc := "(C)Z" } : Jvm.MethodName) prog_140_method_10_code (1 : Nat) (Option.some Jvm.ClassFile.FieldType.boolean), Jvm.Cond.code ({ cls := "com/example/tracewright/tracewright/XmlTextIsWhitespacePinLaw", name := "expected", desc := "(C)Z" } : Jvm.MethodName) method_2_code (1 : Nat) (Option.some Jvm.ClassFile.FieldType.boolean)]
set_option maxRecDepth 65536 in
theorem codes_eq : words1.filter isCode = codes1 := rfl
theorem w_codes : ∀ c ∈ words1.filter isCode, c.before args0 about1 = true := by
  rw [codes_eq]
  intro c hc
  simp only [codes1, List.mem_cons, List.not_mem_nil, or_false] at hc
  rcases hc with rfl | rfl | rfl
  · exact w_c0
  · exact w_c1
  · exact w_c2
set_option maxRecDepth 65536 in
theorem w_t1 : words1.all (fun c => isCode c || c.before args0 about1) = true := by decide +kernel
theorem w_tables : (allAtoms (Jvm.Cond.code x code maxLocals ret :: tables_1)).before args0 about1 = true := by
  rw [allAtoms_all]
  show words1.all (fun c => c.before args0 about1) = true
  refine all_split ?_ w_codes
  rw [w_t1]
set_option maxRecDepth 65536 in
theorem w_case : (Jvm.Cond.and given_1 narrow_1).before args0 about1 = true := by decide +kernel
theorem w_applies : (headSpec (Jvm.Cond.code x code maxLocals ret :: tables_1) room_1).applies x e0.platform about1 = true :=
  (Spec.applies_iff w_frames).mpr ⟨w_running, w_runnable, w_alone, w_named, w_hears, w_ripe, w_room, w_tables⟩
theorem atStart : AtStart classFile x code maxLocals ret World_1 tables_1 room_1 Calls_1 rest_1 Pre_1 launch0 p0 e0 about1 theMethod args0 below0 :=
  ⟨lists_1, trivial, launch0.admits_env _ _ _, launch0.least_env, fairChoices_fair.cas, fairChoices_fair.clock, w_frames, w_args, w_heap, w_applies, trivial, trivial, w_case⟩
end start1
theorem witness_1 : WitnessClaimed_1 := ⟨start1.p0, start1.e0, start1.about1, start1.theMethod, start1.args0, start1.below0, start1.atStart⟩
end Jvm.Pilot.@@N@@
