import JvmDerived
import JvmDerived.Pilot.@@N@@Statement
import JvmDerived.Pilot.@@N@@Code
set_option linter.unusedVariables false
set_option linter.unusedSimpArgs false
namespace Jvm.RoadKit
open Sem ClassFile Op Lib Jvm.Stand Jvm.Free Jvm.LawKit
section New
variable {p : Program} {l : Launch} {e : Env} {R : Room} {s : State} {m : MethodId} {args : Array Value} {below : List Frame} {meth : Method} {c : Code} {T : State} {locs : List Loc} {cells slots : Nat}
theorem retI (X : Stand p l e R s m args below meth c T locs cells slots) (hx : p.tables.exec = Jvm.exec) {pc : Nat} {Ls : Array Slot} {z : Int32} {rest : List Value} (hret : meth.sig.returnType = some .int) (hd : decode c.code pc = .ok (.ireturn, 1)) {fs : List Frame}
    (hl : ∀ (f : JFrame) (acts : List Action), f.method = m → f.locked = none → f.entered = [] → (doReturn e (T.setTop f) acts (some (.int z))).1 = T.setFrames fs) : Steps p.tables e below (T.setTop (mkF m pc Ls (.int z :: rest))) (T.setFrames fs) := by
  have hm' : T.vm.method? m = some meth := X.method'
  have hn : narrow .int (.int z) = .int z := rfl
  show Steps p.tables e below (T.setTop { method := m, pc := pc, locals := Ls, stack := _ :: rest, locked := none }) _
  jvm_step X.here [X.here.top, hx, hd, hm', hret, hn]
  first | (intro acts; rw [hl _ acts rfl rfl rfl]) | rw [hl _ _ rfl rfl rfl]
  exact Steps.refl _
end New
end Jvm.RoadKit
namespace Jvm.Pilot.@@N@@
open Jvm Jvm.ClassFile Sem Op Lib Jvm.Free Jvm.Stand Jvm.LawKit Jvm.RoadKit Bundle Jvm.Pilot.@@N@@.Jvm.D
/-! 1. own frame of the walks: a goal 'G T f' says: from the state T with the top frame f the body comes to its end as its contract says. G is kept opaque in a walk: own_Pre steps it back, own_Ret ends it. -/
abbrev own_Pre (p : Program) (e : Env) (below : List Frame) (G : State → JFrame → Prop) : Prop :=
  ∀ {T T2 : State} {f f2 : JFrame}, (∀ t, Steps p.tables e below (T2.setTop f2) t → Steps p.tables e below (T.setTop f) t) → G T2 f2 → G T f
abbrev own_Lv (p : Program) (e : Env) (below : List Frame) (m : MethodId) (T : State) (f : JFrame) (v : Option Value) : Prop :=
  ∀ fs, (∀ (f : JFrame) (acts : List Action), f.method = m → f.locked = none → f.entered = [] → (doReturn e (T.setTop f) acts v).1 = T.setFrames fs) → Steps p.tables e below (T.setTop f) (T.setFrames fs)
abbrev own_Ret (p : Program) (l : Launch) (e : Env) (R : Room) (s : State) (m : MethodId) (as' : Array Value) (below : List Frame) (meth : Method) (c : Code) (Q : Option Value → Heap → List Loc → Prop) (C S : Nat) (G : State → JFrame → Prop) : Prop :=
  ∀ {T : State} {locs : List Loc} {cells slots : Nat} {f : JFrame} {v : Option Value}, Stand p l e R s m as' below meth c T locs cells slots → own_Lv p e below m T f v → (meth.sig.returnType = none → v = none) → Q v T.heap locs → cells ≤ C → slots ≤ S → G T f
theorem own_contract {l : Launch} {Z : State} {y : MethodName} {bytes : ByteArray} {maxL : Nat} {ret : Option FieldType} {ws : List Jvm.Cond} {rm : Room} {as' : Array Value} {h0 : Heap} {Q : Option Value → Heap → List Loc → Prop} {Ls : Array Slot}
    (hpl : plainFor y = true) (hef : ∀ m, entryFrame m as' maxL = mkF m 0 Ls [])
    (H : ∀ (p : Program) (e : Env) (s : State) (m : MethodId) (below : List Frame) (meth : Method) (c : Code) (s₁ : State) (G : State → JFrame → Prop),
      p.tables.exec = Jvm.exec → c.code = bytes → c.maxLocals = maxL → s.vm.findClass y.cls = some m.cls → meth.name = y.name → meth.sig.returnType = ret → Z.Warmed39 s.vm →
      Stand p l e rm s m as' below meth c s₁ [] 0 0 → s₁.heap = h0 → own_Pre p e below G → own_Ret p l e rm s m as' below meth c Q rm.cells rm.slots G → G s₁ (mkF m 0 Ls [])) :
    MetFree l y (head1 (Jvm.Cond.code y bytes maxL ret :: ws) rm) (fun a U => a = as' ∧ Z.Warmed39 U.vm ∧ U.heap = h0) (fun _ _ _ _ _ => True) (fun _ U o U' => ∃ v L, o = .returned v ∧ Q v U'.heap L ∧ FrameEnd U o U' L rm.cells rm.slots) := by
  refine MetFree.of_bodySF hpl hisR ?_
  intro p e s m args below meth c s₁ Bd hml0 hP hK
  obtain ⟨rfl, hZ, hh⟩ := hP
  have X0 : Stand p l e rm s m args below meth c s₁ [] 0 0 := Stand.of_body Bd
  have e0 : s₁.heap = h0 := by rw [← hh, Bd.state]; rfl
  obtain ⟨T', locs, cells, slots, v, X, hst, hv, hQ, hc, hs⟩ := H p e s m below meth c s₁
    (fun T f => ∃ (T' : State) (locs : List Loc) (cells slots : Nat) (v : Option Value), Stand p l e rm s m args below meth c T' locs cells slots ∧
      (∀ fs, (∀ (f : JFrame) (acts : List Action), f.method = m → f.locked = none → f.entered = [] → (doReturn e (T'.setTop f) acts v).1 = T'.setFrames fs) → Steps p.tables e below (T.setTop f) (T'.setFrames fs)) ∧
      (meth.sig.returnType = none → v = none) ∧ Q v T'.heap locs ∧ cells ≤ rm.cells ∧ slots ≤ rm.slots)
    Bd.exec Bd.bytes hml0 (findClass_of_methodNamed Bd.named) (name_of_methodNamed Bd.named Bd.method).1 Bd.returns hZ X0 e0
    (fun {T T2 f f2} hs hG => by
      obtain ⟨T', locs, cells, slots, v, X, hst, r⟩ := hG
      exact ⟨T', locs, cells, slots, v, X, fun fs hl => hs _ (hst fs hl), r⟩)
    (fun {T locs cells slots f v} X hl hv hQ hc hs => ⟨T, locs, cells, slots, v, X, hl, hv, hQ, hc, hs⟩)
  obtain ⟨fs, hr, hrun, hended, hW, hsame⟩ := X.leave hv Bd.notSynchronized
  exact ⟨_, _, castTop (hef m) (hst fs hr), hrun, hended, _, _, rfl, hQ, ⟨_, rfl⟩, hW, hsame.mono hc hs⟩
/-- what a body without a write says: its value, nothing old written, the heap as it was -/
abbrev own_Q (r : Option Value) (h0 : Heap) (n0 : Nat) (v : Option Value) (h : Heap) (L : List Loc) : Prop := v = r ∧ Fr n0 L ∧ h = h0
section Calls
variable {p : Program} {l : Launch} {e : Env} {R : Room} {s : State} {m : MethodId} {args : Array Value} {below : List Frame} {meth : Method} {c : Code} {T : State} {locs : List Loc} {cells slots : Nat} {Z : State} {a0 : Array Value} {h : Heap}
theorem own_callS (X : Stand p l e R s m args below meth c T locs cells slots) (hx : p.tables.exec = Jvm.exec) (hZ : Z.Warmed39 s.vm) {own : String} {index : Nat} {y : MethodName} {bytes : ByteArray} {maxL : Nat} {ret : Option FieldType} {rm : Room} {as' : Array Value} {Q : Option Value → Heap → List Loc → Prop}
    (W : Nat) (hown : s.vm.findClass own = some m.cls) (w1 : (Cond.methodLink own index y).before a0 Z = true) (w2 : (Cond.static y).before a0 Z = true) (w3 : (Cond.initialized y.cls).before a0 Z = true) (w4 : (Cond.code y bytes maxL ret).before a0 Z = true)
    (hy : y.cls ≠ "java/lang/invoke/MethodHandle" ∧ y.cls ≠ "java/lang/invoke/VarHandle")
    (hM : MetFree l y (head1 [Cond.code y bytes maxL ret] rm) (fun a U => a = as' ∧ Z.Warmed39 U.vm ∧ U.heap = h) (fun _ _ _ _ _ => True) (fun _ U o U' => ∃ v L, o = .returned v ∧ Q v U'.heap L ∧ FrameEnd U o U' L rm.cells rm.slots))
    (eT : T.heap = h) (hf : rm.frames + 1 ≤ R.frames) (hl : W + (maxL + 11) + rm.locals ≤ R.locals) {g : JFrame} (hg : g.method = m) (hsize : g.locals.size = c.maxLocals) (argsL rest : List Value) {ps : List FieldType} {r : Option FieldType}
    (hd : parseMethodDescriptor y.desc = some ⟨ps, r⟩) (hlen : argsL.length = ps.length) (hstack : g.stack = argsL.reverse ++ rest) (hW : 2 * g.monitorRoom + (rest.map fun v => v.category).sum ≤ W) (hdg : decode c.code g.pc = .ok (.invokestatic index, 3))
    (has : argsL.toArray = as') (hc : cells + rm.cells ≤ R.cells) (hs : slots + rm.slots ≤ R.slots) :
    ∃ (v : Option Value) (T' : State) (L : List Loc), Stand p l e R s m args below meth c T' (locs ++ L) (cells + rm.cells) (slots + rm.slots) ∧ Q v T'.heap L ∧
      ∀ t, Steps p.tables e below (T'.setTop { g with pc := g.pc + 3, stack := v.toList ++ rest }) t → Steps p.tables e below (T.setTop g) t := by
  obtain ⟨v, _, ⟨T', L', k', n'⟩, -, X', ⟨Lc, hQ, l', y', z'⟩, st⟩ := Jvm.LawKit.callS X hx (y := y) hown (mvT hZ w1) (mvT hZ w2) (mvT hZ w3) (mvT hZ w4) hy (backOf (W := W) hM hZ w4 w3 hf hl) hg hsize (argsL := argsL) (rest := rest) (lenOf hd hlen) hstack hW hdg (fun _ _ => ⟨has, eT, hc, hs⟩)
  dsimp only [Pt.U, Pt.locs, Pt.cells, Pt.slots] at X' l' y' z' st hQ
  subst l' y' z'
  exact ⟨v, T', Lc, X', hQ, st⟩
theorem own_callI (X : Stand p l e R s m args below meth c T locs cells slots) (hx : p.tables.exec = Jvm.exec) (hZ : Z.Warmed39 s.vm) {own : String} {index : Nat} {y : MethodName} {bytes : ByteArray} {maxL : Nat} {rm : Room} {as' : Array Value} {Q : Option Value → Heap → List Loc → Prop}
    (W : Nat) (hy1 : y.name = "<init>") (hown : s.vm.findClass own = some m.cls) (w1 : (Cond.methodLink own index y).before a0 Z = true) (w2 : (Cond.instanceMethod y).before a0 Z = true) (w3 : (Cond.initialized y.cls).before a0 Z = true) (w4 : (Cond.code y bytes maxL none).before a0 Z = true)
    (hy : y.cls ≠ "java/lang/invoke/MethodHandle" ∧ y.cls ≠ "java/lang/invoke/VarHandle")
    (hM : MetFree l y (head1 [Cond.code y bytes maxL none] rm) (fun a U => a = as' ∧ Z.Warmed39 U.vm ∧ U.heap = h) (fun _ _ _ _ _ => True) (fun _ U o U' => ∃ v L, o = .returned v ∧ Q v U'.heap L ∧ FrameEnd U o U' L rm.cells rm.slots))
    (eT : T.heap = h) (hf : rm.frames + 1 ≤ R.frames) (hl : W + (maxL + 11) + rm.locals ≤ R.locals) {g : JFrame} (hg : g.method = m) (hsize : g.locals.size = c.maxLocals) (a : Addr) (argsL rest : List Value) {ps : List FieldType} {r : Option FieldType}
    (hd : parseMethodDescriptor y.desc = some ⟨ps, r⟩) (hlen : argsL.length = ps.length) (hstack : g.stack = argsL.reverse ++ .ref a :: rest) (hW : 2 * g.monitorRoom + (rest.map fun v => v.category).sum ≤ W) (hdg : decode c.code g.pc = .ok (.invokespecial index, 3))
    (has : (.ref a :: argsL).toArray = as') (hc : cells + rm.cells ≤ R.cells) (hs : slots + rm.slots ≤ R.slots) :
    ∃ (v : Option Value) (T' : State) (L : List Loc), Stand p l e R s m args below meth c T' (locs ++ L) (cells + rm.cells) (slots + rm.slots) ∧ Q v T'.heap L ∧
      ∀ t, Steps p.tables e below (T'.setTop { g with pc := g.pc + 3, stack := v.toList ++ rest }) t → Steps p.tables e below (T.setTop g) t := by
  obtain ⟨v, _, ⟨T', L', k', n'⟩, -, X', ⟨Lc, hQ, l', y', z'⟩, st⟩ := X.specialBack hx (y := y) hy1 hown (mvT hZ w1) (mvT hZ w2) (mvT hZ w4) hy (backOf (W := W) hM hZ w4 w3 hf hl) hg hsize (Steps.refl _) (a := a) (argsL := argsL) (rest := rest) (lenOf hd hlen) hstack hW hdg (fun _ _ => ⟨has, eT, hc, hs⟩)
  dsimp only [Pt.U, Pt.locs, Pt.cells, Pt.slots] at X' l' y' z' st hQ
  subst l' y' z'
  exact ⟨v, T', Lc, X', hQ, fun t k => st.trans k⟩
theorem own_callV (X : Stand p l e R s m args below meth c T locs cells slots) (hx : p.tables.exec = Jvm.exec) (hZ : Z.Warmed39 s.vm) {own C : String} {index : Nat} {y : MethodName} {bytes : ByteArray} {maxL : Nat} {ret : Option FieldType} {rm : Room} {as' : Array Value} {Q : Option Value → Heap → List Loc → Prop}
    (W : Nat) (hown : s.vm.findClass own = some m.cls) (w1 : (Cond.methodLink own index y).before a0 Z = true) (w2 : (Cond.declares y).before a0 Z = true) (w3 : (Cond.selects C y y).before a0 Z = true) (w4 : (Cond.instanceMethod y).before a0 Z = true) (w5 : (Cond.initialized y.cls).before a0 Z = true) (w6 : (Cond.code y bytes maxL ret).before a0 Z = true)
    (hy : y.cls ≠ "java/lang/invoke/MethodHandle" ∧ y.cls ≠ "java/lang/invoke/VarHandle")
    (hM : MetFree l y (head1 [Cond.code y bytes maxL ret] rm) (fun a U => a = as' ∧ Z.Warmed39 U.vm ∧ U.heap = h) (fun _ _ _ _ _ => True) (fun _ U o U' => ∃ v L, o = .returned v ∧ Q v U'.heap L ∧ FrameEnd U o U' L rm.cells rm.slots))
    (eT : T.heap = h) {b : Addr} (E : Exa Z h b C) (hf : rm.frames + 1 ≤ R.frames) (hl : W + (maxL + 11) + rm.locals ≤ R.locals) {g : JFrame} (hg : g.method = m) (hsize : g.locals.size = c.maxLocals) (argsL rest : List Value) {ps : List FieldType} {r : Option FieldType}
    (hd : parseMethodDescriptor y.desc = some ⟨ps, r⟩) (hlen : argsL.length = ps.length) (hstack : g.stack = argsL.reverse ++ .ref b :: rest) (hW : 2 * g.monitorRoom + (rest.map fun v => v.category).sum ≤ W) (hdg : decode c.code g.pc = .ok (.invokevirtual index, 3))
    (has : (.ref b :: argsL).toArray = as') (hc : cells + rm.cells ≤ R.cells) (hs : slots + rm.slots ≤ R.slots) :
    ∃ (v : Option Value) (T' : State) (L : List Loc), Stand p l e R s m args below meth c T' (locs ++ L) (cells + rm.cells) (slots + rm.slots) ∧ Q v T'.heap L ∧
      ∀ t, Steps p.tables e below (T'.setTop { g with pc := g.pc + 3, stack := v.toList ++ rest }) t → Steps p.tables e below (T.setTop g) t := by
  obtain ⟨cq, kq, qa, qb, qc⟩ := isOf hZ eT E
  obtain ⟨v, _, ⟨T', L', k', n'⟩, -, X', ⟨Lc, hQ, l', y', z'⟩, st⟩ := X.virtualBack hx (y := y) (z := y) hown (mvT hZ w1) (mvT hZ w2) (notFace_of_selects (args := #[]) (mvT hZ w3)) (mvT hZ w3) (mvT hZ w4) hy (backOf (W := W) hM hZ w6 w5 hf hl) qa qc hg hsize (Steps.refl _) (argsL := argsL) (rest := rest) (lenOf hd hlen) hstack hW hdg (fun _ _ => ⟨has, eT, hc, hs⟩)
  dsimp only [Pt.U, Pt.locs, Pt.cells, Pt.slots] at X' l' y' z' st hQ
  subst l' y' z'
  exact ⟨v, T', Lc, X', hQ, fun t k => st.trans k⟩
end Calls
theorem own_lrem {tb : Tables} [Ours tb] {e : Env} {below : List Frame} {T target : State} {m : MethodId} {c : Code} {g : JFrame} (h : At T m c below) (hx : tb.exec = Jvm.exec) (hg : g.method = m) {x y : Int64} {rest : List Value} (hd : decode c.code g.pc = .ok (.lrem, 1)) (hs : g.stack = .long y :: .long x :: rest) (hy : y ≠ 0)
    (hr : Steps tb e below (T.setTop { g with pc := g.pc + 1, stack := .long (x % y) :: rest }) target) : Steps tb e below (T.setTop g) target := XS.lrem h hx hg hd hs hy (by rw [lrem_mod]; exact hr)
/-! 2. own facts of arrays: n places, place i holds f i -/
def own_up {α : Type} (f : Nat → α) (j : Nat) (v : α) : Nat → α := fun i => if i = j then v else f i
theorem own_up_at {α : Type} (f : Nat → α) (j : Nat) (v : α) (i : Nat) : own_up f j v i = if i = j then v else f i := rfl
def own_AI (Z : State) (h : Heap) (a : Addr) (ty : FieldType) (n : Nat) (f : Nat → Int32) : Prop :=
  ∃ c : Cell, Arr Z h a c ty ∧ c.slots.size = n ∧ n < 2147483648 ∧ ∀ i, i < n → c.slots[i]? = some (.int (f i))
def own_AJ (Z : State) (h : Heap) (a : Addr) (n : Nat) (f : Nat → Int64) : Prop :=
  ∃ c : Cell, Arr Z h a c .long ∧ c.slots.size = n ∧ n < 2147483648 ∧ ∀ i, i < n → c.slots[i]? = some (.long (f i))
section Arrays
variable {Z : State} {h h' : Heap} {a b : Addr} {ty : FieldType} {n : Nat} {f g : Nat → Int32} {fj gj : Nat → Int64}
theorem own_AI.lt (V : own_AI Z h a ty n f) : a < h.size := by obtain ⟨c, A, -⟩ := V; exact A.lt
theorem own_AI.ext (V : own_AI Z h a ty n f) (E : Ext h h') : own_AI Z h' a ty n f := by obtain ⟨c, A, r⟩ := V; exact ⟨c, A.ext E, r⟩
theorem own_AI.other {sl : Nat} {v : Value} (V : own_AI Z h b ty n f) (W : Wr h h' a sl v) (q : b ≠ a) : own_AI Z h' b ty n f := by obtain ⟨c, A, r⟩ := V; exact ⟨c, A.other W q, r⟩
theorem own_AI.keep {ws : List Addr} (V : own_AI Z h a ty n f) (K : Keep h h' ws) (q : a ∉ ws) : own_AI Z h' a ty n f := by obtain ⟨c, A, r⟩ := V; exact ⟨c, ⟨K.2.1 a c A.1 q, A.2⟩, r⟩
theorem own_AI.cong (V : own_AI Z h a ty n f) (q : ∀ i, i < n → f i = g i) : own_AI Z h a ty n g := by obtain ⟨c, A, S, B, H⟩ := V; exact ⟨c, A, S, B, fun i hi => by rw [← q i hi]; exact H i hi⟩
theorem own_AI.new {k : ClassId} {z : Int32} (A : Arr Z h a (newA k ty z) ty) (q : ¬ z < 0) (d : defaultValue ty = .int 0) (n : Nat) (hn : z.toNatClampNeg = n) : own_AI Z h a ty n (fun _ => 0) := by
  subst hn
  exact ⟨_, A, sz_new _ _ _, (back32 q).2, fun i hi => by simp [newA, hi, d]⟩
theorem own_slot (c : Cell) (i k : Nat) (v : Value) (hk : k < c.slots.size) : (c.setSlot i v).slots[k]? = if k = i then some v else c.slots[k]? := by
  by_cases q : k = i
  · subst q; simp [Cell.setSlot, hk]
  · simp [Cell.setSlot, q, Array.getElem?_setIfInBounds, Ne.symm q]
theorem own_AI.set {x : Int32} {i : Nat} (V : own_AI Z h a ty n f) (W : Wr h h' a i (.int x)) : own_AI Z h' a ty n (own_up f i x) := by
  obtain ⟨c, A, S, B, H⟩ := V
  refine ⟨_, A.same W, (sz_set _ _ _).trans S, B, fun k hk => ?_⟩
  rw [own_slot c i k _ (by omega), own_up_at]
  by_cases q : k = i
  · rw [if_pos q, if_pos q]
  · rw [if_neg q, if_neg q]; exact H k hk
theorem own_AI.at (V : own_AI Z h a ty n f) {j : Int32} (i : Nat) (hi : j.toNatClampNeg = i) (h0 : ¬ j < 0) (hn : i < n) :
    ∃ c : Cell, Arr Z h a c ty ∧ ¬ (j < 0 ∨ c.slots.size ≤ j.toNatClampNeg) ∧ c.slots[j.toNatClampNeg]? = some (.int (f i)) := by
  obtain ⟨c, A, S, B, H⟩ := V
  subst hi
  exact ⟨c, A, fun q => q.elim h0 (fun q => by omega), H _ hn⟩
theorem own_AJ.lt (V : own_AJ Z h a n fj) : a < h.size := by obtain ⟨c, A, -⟩ := V; exact A.lt
theorem own_AJ.ext (V : own_AJ Z h a n fj) (E : Ext h h') : own_AJ Z h' a n fj := by obtain ⟨c, A, r⟩ := V; exact ⟨c, A.ext E, r⟩
theorem own_AJ.other {sl : Nat} {v : Value} (V : own_AJ Z h b n fj) (W : Wr h h' a sl v) (q : b ≠ a) : own_AJ Z h' b n fj := by obtain ⟨c, A, r⟩ := V; exact ⟨c, A.other W q, r⟩
theorem own_AJ.keep {ws : List Addr} (V : own_AJ Z h a n fj) (K : Keep h h' ws) (q : a ∉ ws) : own_AJ Z h' a n fj := by obtain ⟨c, A, r⟩ := V; exact ⟨c, ⟨K.2.1 a c A.1 q, A.2⟩, r⟩
theorem own_AJ.cong (V : own_AJ Z h a n fj) (q : ∀ i, i < n → fj i = gj i) : own_AJ Z h a n gj := by obtain ⟨c, A, S, B, H⟩ := V; exact ⟨c, A, S, B, fun i hi => by rw [← q i hi]; exact H i hi⟩
theorem own_AJ.new {k : ClassId} {z : Int32} (A : Arr Z h a (newA k .long z) .long) (q : ¬ z < 0) (n : Nat) (hn : z.toNatClampNeg = n) : own_AJ Z h a n (fun _ => 0) := by
  subst hn
  exact ⟨_, A, sz_new _ _ _, (back32 q).2, fun i hi => by simp [newA, hi]; rfl⟩
theorem own_AJ.set {x : Int64} {i : Nat} (V : own_AJ Z h a n fj) (W : Wr h h' a i (.long x)) : own_AJ Z h' a n (own_up fj i x) := by
  obtain ⟨c, A, S, B, H⟩ := V
  refine ⟨_, A.same W, (sz_set _ _ _).trans S, B, fun k hk => ?_⟩
  rw [own_slot c i k _ (by omega), own_up_at]
  by_cases q : k = i
  · rw [if_pos q, if_pos q]
  · rw [if_neg q, if_neg q]; exact H k hk
theorem own_AJ.at (V : own_AJ Z h a n fj) {j : Int32} (i : Nat) (hi : j.toNatClampNeg = i) (h0 : ¬ j < 0) (hn : i < n) :
    ∃ c : Cell, Arr Z h a c .long ∧ ¬ (j < 0 ∨ c.slots.size ≤ j.toNatClampNeg) ∧ c.slots[j.toNatClampNeg]? = some (.long (fj i)) := by
  obtain ⟨c, A, S, B, H⟩ := V
  subst hi
  exact ⟨c, A, fun q => q.elim h0 (fun q => by omega), H _ hn⟩
end Arrays
section ArraySteps
variable {p : Program} {l : Launch} {e : Env} {R : Room} {s : State} {m : MethodId} {args : Array Value} {below : List Frame} {meth : Method} {c : Code} {T : State} {locs : List Loc} {cells slots : Nat} {Z : State} {a0 : Array Value} {h : Heap} {a : Addr} {n : Nat} {f : Nat → Int32} {fj : Nat → Int64} {j x : Int32} {xj : Int64} {g : JFrame} {rest : List Value}
theorem own_stI (X : Stand p l e R s m args below meth c T locs cells slots) (hx : p.tables.exec = Jvm.exec) (hZ : Z.Warmed39 s.vm) (eT : T.heap = h) (V : own_AI Z h a .int n f) (i : Nat) (hi : j.toNatClampNeg = i) (h0 : ¬ j < 0) (hn : i < n) (hg : g.method = m) (hs : g.stack = .int x :: .int j :: .ref a :: rest) (hd : decode c.code g.pc = .ok (.iastore, 1)) :
    ∃ T' h', Stand p l e R s m args below meth c T' (locs ++ [⟨a, i⟩]) cells slots ∧ T'.heap = h' ∧ Wr h h' a i (.int x) ∧ own_AI Z h' a .int n (own_up f i x) ∧ ∀ t, Steps p.tables e below (T'.setTop { g with pc := g.pc + 1, stack := rest }) t → Steps p.tables e below (T.setTop g) t := by
  obtain ⟨cl, A, hj, -⟩ := V.at i hi h0 hn
  obtain ⟨T', h', X', e', W, st⟩ := stI X hx hZ eT A hj hg hs hd
  subst hi
  exact ⟨T', h', X', e', W, V.set W, st⟩
theorem own_stB (X : Stand p l e R s m args below meth c T locs cells slots) (hx : p.tables.exec = Jvm.exec) (hZ : Z.Warmed39 s.vm) (eT : T.heap = h) (V : own_AI Z h a .byte n f) (i : Nat) (hi : j.toNatClampNeg = i) (h0 : ¬ j < 0) (hn : i < n) (hg : g.method = m) (hs : g.stack = .int x :: .int j :: .ref a :: rest) (hd : decode c.code g.pc = .ok (.bastore, 1)) :
    ∃ T' h', Stand p l e R s m args below meth c T' (locs ++ [⟨a, i⟩]) cells slots ∧ T'.heap = h' ∧ Wr h h' a i (.int (nar .byte x)) ∧ own_AI Z h' a .byte n (own_up f i x.toInt8.toInt32) ∧ ∀ t, Steps p.tables e below (T'.setTop { g with pc := g.pc + 1, stack := rest }) t → Steps p.tables e below (T.setTop g) t := by
  obtain ⟨cl, A, hj, -⟩ := V.at i hi h0 hn
  obtain ⟨T', h', X', e', W, st⟩ := stB X hx hZ eT A hj hg hs hd
  subst hi
  exact ⟨T', h', X', e', W, V.set W, st⟩
theorem own_stC (X : Stand p l e R s m args below meth c T locs cells slots) (hx : p.tables.exec = Jvm.exec) (hZ : Z.Warmed39 s.vm) (eT : T.heap = h) (V : own_AI Z h a .char n f) (i : Nat) (hi : j.toNatClampNeg = i) (h0 : ¬ j < 0) (hn : i < n) (hg : g.method = m) (hs : g.stack = .int x :: .int j :: .ref a :: rest) (hd : decode c.code g.pc = .ok (.castore, 1)) :
    ∃ T' h', Stand p l e R s m args below meth c T' (locs ++ [⟨a, i⟩]) cells slots ∧ T'.heap = h' ∧ Wr h h' a i (.int (nar .char x)) ∧ own_AI Z h' a .char n (own_up f i x.toUInt32.toUInt16.toUInt32.toInt32) ∧ ∀ t, Steps p.tables e below (T'.setTop { g with pc := g.pc + 1, stack := rest }) t → Steps p.tables e below (T.setTop g) t := by
  obtain ⟨cl, A, hj, -⟩ := V.at i hi h0 hn
  obtain ⟨T', h', X', e', W, st⟩ := stC X hx hZ eT A hj hg hs hd
  subst hi
  exact ⟨T', h', X', e', W, V.set W, st⟩
theorem own_stJ (X : Stand p l e R s m args below meth c T locs cells slots) (hx : p.tables.exec = Jvm.exec) (hZ : Z.Warmed39 s.vm) (eT : T.heap = h) (V : own_AJ Z h a n fj) (i : Nat) (hi : j.toNatClampNeg = i) (h0 : ¬ j < 0) (hn : i < n) (hg : g.method = m) (hs : g.stack = .long xj :: .int j :: .ref a :: rest) (hd : decode c.code g.pc = .ok (.lastore, 1)) :
    ∃ T' h', Stand p l e R s m args below meth c T' (locs ++ [⟨a, i⟩]) cells slots ∧ T'.heap = h' ∧ Wr h h' a i (.long xj) ∧ own_AJ Z h' a n (own_up fj i xj) ∧ ∀ t, Steps p.tables e below (T'.setTop { g with pc := g.pc + 1, stack := rest }) t → Steps p.tables e below (T.setTop g) t := by
  obtain ⟨cl, A, hj, -⟩ := V.at i hi h0 hn
  obtain ⟨T', h', X', e', W, st⟩ := stJ X hx hZ eT A hj hg hs hd
  subst hi
  exact ⟨T', h', X', e', W, V.set W, st⟩
theorem own_ldI (X : Stand p l e R s m args below meth c T locs cells slots) (hx : p.tables.exec = Jvm.exec) (hZ : Z.Warmed39 s.vm) (eT : T.heap = h) (V : own_AI Z h a .int n f) (i : Nat) (hi : j.toNatClampNeg = i) (h0 : ¬ j < 0) (hn : i < n) (hg : g.method = m) (hs : g.stack = .int j :: .ref a :: rest) (hd : decode c.code g.pc = .ok (.iaload, 1)) :
    ∀ t, Steps p.tables e below (T.setTop { g with pc := g.pc + 1, stack := .int (f i) :: rest }) t → Steps p.tables e below (T.setTop g) t := by
  obtain ⟨cl, A, hj, hv⟩ := V.at i hi h0 hn
  exact fun t k => X.iaload hx (by rw [eT]; exact A.1) (State.isArrayOf_alike hZ.alike A.2.1) A.2.2 hj hv hg hs hd t k
theorem own_ldB (X : Stand p l e R s m args below meth c T locs cells slots) (hx : p.tables.exec = Jvm.exec) (hZ : Z.Warmed39 s.vm) (eT : T.heap = h) (V : own_AI Z h a .byte n f) (i : Nat) (hi : j.toNatClampNeg = i) (h0 : ¬ j < 0) (hn : i < n) (hg : g.method = m) (hs : g.stack = .int j :: .ref a :: rest) (hd : decode c.code g.pc = .ok (.baload, 1)) :
    ∀ t, Steps p.tables e below (T.setTop { g with pc := g.pc + 1, stack := .int (f i) :: rest }) t → Steps p.tables e below (T.setTop g) t := by
  obtain ⟨cl, A, hj, hv⟩ := V.at i hi h0 hn
  exact fun t k => X.baloadBytes hx (by rw [eT]; exact A.1) (State.isArrayOf_alike hZ.alike A.2.1) A.2.2 hj hv hg hs hd t k
theorem own_ldC (X : Stand p l e R s m args below meth c T locs cells slots) (hx : p.tables.exec = Jvm.exec) (hZ : Z.Warmed39 s.vm) (eT : T.heap = h) (V : own_AI Z h a .char n f) (i : Nat) (hi : j.toNatClampNeg = i) (h0 : ¬ j < 0) (hn : i < n) (hg : g.method = m) (hs : g.stack = .int j :: .ref a :: rest) (hd : decode c.code g.pc = .ok (.caload, 1)) :
    ∀ t, Steps p.tables e below (T.setTop { g with pc := g.pc + 1, stack := .int (f i) :: rest }) t → Steps p.tables e below (T.setTop g) t := by
  obtain ⟨cl, A, hj, hv⟩ := V.at i hi h0 hn
  exact fun t k => X.caload hx (by rw [eT]; exact A.1) (State.isArrayOf_alike hZ.alike A.2.1) A.2.2 hj hv hg hs hd t k
theorem own_ldJ (X : Stand p l e R s m args below meth c T locs cells slots) (hx : p.tables.exec = Jvm.exec) (hZ : Z.Warmed39 s.vm) (eT : T.heap = h) (V : own_AJ Z h a n fj) (i : Nat) (hi : j.toNatClampNeg = i) (h0 : ¬ j < 0) (hn : i < n) (hg : g.method = m) (hs : g.stack = .int j :: .ref a :: rest) (hd : decode c.code g.pc = .ok (.laload, 1)) :
    ∀ t, Steps p.tables e below (T.setTop { g with pc := g.pc + 1, stack := .long (fj i) :: rest }) t → Steps p.tables e below (T.setTop g) t := by
  obtain ⟨cl, A, hj, hv⟩ := V.at i hi h0 hn
  exact fun t k => X.laload hx (by rw [eT]; exact A.1) (State.isArrayOf_alike hZ.alike A.2.1) A.2.2 hj hv hg hs hd t k
theorem own_lenI {ty : FieldType} (X : Stand p l e R s m args below meth c T locs cells slots) (hx : p.tables.exec = Jvm.exec) (hZ : Z.Warmed39 s.vm) (eT : T.heap = h) (V : own_AI Z h a ty n f) (N : Int32) (hN : n.toInt32 = N) (hg : g.method = m) (hs : g.stack = .ref a :: rest) (hd : decode c.code g.pc = .ok (.arraylength, 1)) :
    ∀ t, Steps p.tables e below (T.setTop { g with pc := g.pc + 1, stack := .int N :: rest }) t → Steps p.tables e below (T.setTop g) t := by
  obtain ⟨cl, A, S, -⟩ := V
  subst hN S
  exact fun t k => X.arraylength hx (by rw [eT]; exact A.1) (State.isArrayOf_alike hZ.alike A.2.1) hg hs hd t k
theorem own_lenJ (X : Stand p l e R s m args below meth c T locs cells slots) (hx : p.tables.exec = Jvm.exec) (hZ : Z.Warmed39 s.vm) (eT : T.heap = h) (V : own_AJ Z h a n fj) (N : Int32) (hN : n.toInt32 = N) (hg : g.method = m) (hs : g.stack = .ref a :: rest) (hd : decode c.code g.pc = .ok (.arraylength, 1)) :
    ∀ t, Steps p.tables e below (T.setTop { g with pc := g.pc + 1, stack := .int N :: rest }) t → Steps p.tables e below (T.setTop g) t := by
  obtain ⟨cl, A, S, -⟩ := V
  subst hN S
  exact fun t k => X.arraylength hx (by rw [eT]; exact A.1) (State.isArrayOf_alike hZ.alike A.2.1) hg hs hd t k
/-- areturn -/
theorem own_retA (X : Stand p l e R s m args below meth c T locs cells slots) (hx : p.tables.exec = Jvm.exec) {pc : Nat} {Ls : Array Slot} {t : FieldType} (hret : meth.sig.returnType = some t) (ht : t.isReference = true) (hd : decode c.code pc = .ok (.areturn, 1)) {fs : List Frame}
    (hl : ∀ (f : JFrame) (acts : List Action), f.method = m → f.locked = none → f.entered = [] → (doReturn e (T.setTop f) acts (some (.ref a))).1 = T.setFrames fs) : Steps p.tables e below (T.setTop (mkF m pc Ls (.ref a :: rest))) (T.setFrames fs) :=
  retOut X hx hret (by cases t <;> first | rfl | (cases ht; done)) (Or.inr (Or.inr (Or.inr (Or.inr ⟨rfl, ht, rfl⟩)))) hd hl
end ArraySteps
section Private
variable {p : Program} {l : Launch} {e : Env} {R : Room} {s : State} {m : MethodId} {args : Array Value} {below : List Frame} {meth : Method} {c : Code} {T : State} {locs : List Loc} {cells slots : Nat} {Z : State} {a0 : Array Value} {h : Heap}
/-- invokevirtual of a private method: that it selects itself is derived; w0: a 'selects' word of the same class says that it is no interface -/
theorem own_callP (X : Stand p l e R s m args below meth c T locs cells slots) (hx : p.tables.exec = Jvm.exec) (hZ : Z.Warmed39 s.vm) {own C : String} {index : Nat} {y z : MethodName} {bytes : ByteArray} {maxL : Nat} {ret : Option FieldType} {rm : Room} {as' : Array Value} {Q : Option Value → Heap → List Loc → Prop}
    (W : Nat) (hown : s.vm.findClass own = some m.cls) (w0 : (Cond.selects C z z).before a0 Z = true) (hz : z.cls = y.cls) (w1 : (Cond.methodLink own index y).before a0 Z = true) (w2 : (Cond.instanceMethod y).before a0 Z = true) (w3 : (Cond.privateMethod y).before a0 Z = true) (w5 : (Cond.initialized y.cls).before a0 Z = true) (w6 : (Cond.code y bytes maxL ret).before a0 Z = true)
    (hy : y.cls ≠ "java/lang/invoke/MethodHandle" ∧ y.cls ≠ "java/lang/invoke/VarHandle")
    (hM : MetFree l y (head1 [Cond.code y bytes maxL ret] rm) (fun a U => a = as' ∧ Z.Warmed39 U.vm ∧ U.heap = h) (fun _ _ _ _ _ => True) (fun _ U o U' => ∃ v L, o = .returned v ∧ Q v U'.heap L ∧ FrameEnd U o U' L rm.cells rm.slots))
    (eT : T.heap = h) {b : Addr} {C' : String} (E : Exa Z h b C') (hf : rm.frames + 1 ≤ R.frames) (hl : W + (maxL + 11) + rm.locals ≤ R.locals) {g : JFrame} (hg : g.method = m) (hsize : g.locals.size = c.maxLocals) (argsL rest : List Value) {ps : List FieldType} {r : Option FieldType}
    (hd : parseMethodDescriptor y.desc = some ⟨ps, r⟩) (hlen : argsL.length = ps.length) (hstack : g.stack = argsL.reverse ++ .ref b :: rest) (hW : 2 * g.monitorRoom + (rest.map fun v => v.category).sum ≤ W) (hdg : decode c.code g.pc = .ok (.invokevirtual index, 3))
    (has : (.ref b :: argsL).toArray = as') (hc : cells + rm.cells ≤ R.cells) (hs : slots + rm.slots ≤ R.slots) :
    ∃ (v : Option Value) (T' : State) (L : List Loc), Stand p l e R s m args below meth c T' (locs ++ L) (cells + rm.cells) (slots + rm.slots) ∧ Q v T'.heap L ∧
      ∀ t, Steps p.tables e below (T'.setTop { g with pc := g.pc + 3, stack := v.toList ++ rest }) t → Steps p.tables e below (T.setTop g) t := by
  have hs0 : (Cond.selects C z z).before args s = true := mvT hZ w0
  obtain ⟨c2, r2, m2, q1, q2, q3, q4, kP, hkP, hkPi⟩ := Cond.selects_spec hs0
  have hpr : s.PrivateAt y := Cond.privateMethod_at (mvP hZ w3 (args := #[]))
  have hin : (Cond.instanceMethod y).before args s = true := mvT hZ w2
  have hfc : s.vm.findClass y.cls = some m2.cls := by rw [← hz]; exact findClass_of_methodNamed q3
  have hsel : (Cond.selects y.cls y y).before args s = true := selects_self_of_private hfc hkP hkPi hpr hin hy
  obtain ⟨cq, qc, qc'⟩ := E.cell
  obtain ⟨v, _, ⟨T', L', k', n'⟩, -, X', ⟨Lc, hQ, l', y', z'⟩, st⟩ := X.privateBack hx (y := y) hown (mvT hZ w1) hin hsel hpr (mvT hZ w6) hy (backOf (W := W) hM hZ w6 w5 hf hl) hg hsize (Steps.refl _) (a := b) (by rw [eT]; exact qc) qc' (argsL := argsL) (rest := rest) (lenOf hd hlen) hstack hW hdg (fun _ _ => ⟨has, eT, hc, hs⟩)
  dsimp only [Pt.U, Pt.locs, Pt.cells, Pt.slots] at X' l' y' z' st hQ
  subst l' y' z'
  exact ⟨v, T', Lc, X', hQ, fun t k => st.trans k⟩
end Private
theorem own_pd0 : parseMethodDescriptor "(II)J" = some ⟨[.int, .int], some .long⟩ := by decide +kernel
theorem own_pd1 : parseMethodDescriptor "(IZI)V" = some ⟨[.int, .boolean, .int], none⟩ := by decide +kernel
theorem own_pd2 : parseMethodDescriptor "(I)J" = some ⟨[.int], some .long⟩ := by decide +kernel
theorem own_pd3 : parseMethodDescriptor "(I)I" = some ⟨[.int], some .int⟩ := by decide +kernel
theorem own_pd4 : parseMethodDescriptor "(IJI)V" = some ⟨[.int, .long, .int], none⟩ := by decide +kernel
theorem own_pd5 : parseMethodDescriptor "(I)V" = some ⟨[.int], none⟩ := by decide +kernel
theorem own_pd6 : parseMethodDescriptor "(III)I" = some ⟨[.int, .int, .int], some .int⟩ := by decide +kernel
theorem own_pd7 : parseMethodDescriptor "(II)V" = some ⟨[.int, .int], none⟩ := by decide +kernel
theorem d4_0 : decode prog_20_method_13_code 0 = .ok (.iload_n 0, 1) := by decide +kernel
theorem d4_1 : decode prog_20_method_13_code 1 = .ok (.i2l, 1) := by decide +kernel
theorem d4_2 : decode prog_20_method_13_code 2 = .ok (.bipush 32, 2) := by decide +kernel
theorem d4_4 : decode prog_20_method_13_code 4 = .ok (.lshl, 1) := by decide +kernel
theorem d4_5 : decode prog_20_method_13_code 5 = .ok (.iload_n 1, 1) := by decide +kernel
theorem d4_6 : decode prog_20_method_13_code 6 = .ok (.i2l, 1) := by decide +kernel
theorem d4_7 : decode prog_20_method_13_code 7 = .ok (.lor, 1) := by decide +kernel
theorem d4_8 : decode prog_20_method_13_code 8 = .ok (.lreturn, 1) := by decide +kernel
theorem own_ef4 (m : MethodId) (p0 : Int32) (p1 : Int32) : entryFrame m #[(.int p0), (.int p1)] 2 = mkF m 0 #[.val (.int p0), .val (.int p1)] [] := by first | (simp [entryFrame, mkF, argsToLocals, Value.category]; done) | rfl
def own_key2 (p0 : Int32) (p1 : Int32) : Int64 := ((p0.toInt64 <<< ((32 : Int32) &&& 0x3f).toInt64) ||| p1.toInt64)
theorem own_pn4 : plainName "com/example/slabwarden/slabwarden/chunk/FreeRuns" = true := by first | (simp [plainName, overriddenIn]; done) | decide +kernel
set_option maxRecDepth 65536 in
set_option maxHeartbeats 40000000 in
theorem rm4 (l : Launch) (Z : State) (a0 : Array Value) (hw : ∀ d ∈ tables_1, d.before a0 Z = true) (ws : List Jvm.Cond) (p0 : Int32) (p1 : Int32) (h0 : Heap) (n0 : Nat)  :
    MetFree l (⟨"com/example/slabwarden/slabwarden/chunk/FreeRuns", "key", "(II)J"⟩ : MethodName) (head1 (Jvm.Cond.code (⟨"com/example/slabwarden/slabwarden/chunk/FreeRuns", "key", "(II)J"⟩ : MethodName) prog_20_method_13_code 2 (some .long) :: ws) ({ frames := 0, cells := 0, slots := 0, locals := 0 } : Room)) (fun a U => a = #[(.int p0), (.int p1)] ∧ Z.Warmed39 U.vm ∧ U.heap = h0) (fun _ _ _ _ _ => True) (fun _ U o U' => ∃ v L, o = .returned v ∧ own_Q (some (.long (own_key2 p0 p1))) h0 n0 v U'.heap L ∧ FrameEnd U o U' L ({ frames := 0, cells := 0, slots := 0, locals := 0 } : Room).cells ({ frames := 0, cells := 0, slots := 0, locals := 0 } : Room).slots) := by
  refine own_contract (plainFor_of_name own_pn4) (fun m => own_ef4 m p0 p1) ?_
  intro p e s m below meth c s₁ G hx hby hml0 hown0 hnm hret hZ X0 e0 hp hR
  have hml : c.maxLocals = 2 := hml0
  have hown : s.vm.findClass "com/example/slabwarden/slabwarden/chunk/FreeRuns" = some m.cls := hown0
  have N0 := Fr.nil n0
  show G s₁ (mkF m 0 #[.val (.int p0), .val (.int p1)] [])
  refine hp (fun tq kq => XS.iloadN X0.here hx rfl (hb hby d4_0) rfl kq) ?_
  show G s₁ (mkF m 1 #[.val (.int p0), .val (.int p1)] [(.int p0)])
  refine hp (fun tq kq => XS.i2l X0.here hx rfl (hb hby d4_1) rfl kq) ?_
  show G s₁ (mkF m 2 #[.val (.int p0), .val (.int p1)] [(.long p0.toInt64)])
  refine hp (fun tq kq => XS.bipush X0.here hx rfl (hb hby d4_2) kq) ?_
  show G s₁ (mkF m 4 #[.val (.int p0), .val (.int p1)] [(.int (32 : Int32)), (.long p0.toInt64)])
  refine hp (fun tq kq => XS.lshl X0.here hx rfl (hb hby d4_4) rfl kq) ?_
  show G s₁ (mkF m 5 #[.val (.int p0), .val (.int p1)] [(.long (p0.toInt64 <<< ((32 : Int32) &&& 0x3f).toInt64))])
  refine hp (fun tq kq => XS.iloadN X0.here hx rfl (hb hby d4_5) rfl kq) ?_
  show G s₁ (mkF m 6 #[.val (.int p0), .val (.int p1)] [(.int p1), (.long (p0.toInt64 <<< ((32 : Int32) &&& 0x3f).toInt64))])
  refine hp (fun tq kq => XS.i2l X0.here hx rfl (hb hby d4_6) rfl kq) ?_
  show G s₁ (mkF m 7 #[.val (.int p0), .val (.int p1)] [(.long p1.toInt64), (.long (p0.toInt64 <<< ((32 : Int32) &&& 0x3f).toInt64))])
  refine hp (fun tq kq => XS.lor X0.here hx rfl (hb hby d4_7) rfl kq) ?_
  show G s₁ (mkF m 8 #[.val (.int p0), .val (.int p1)] [(.long ((p0.toInt64 <<< ((32 : Int32) &&& 0x3f).toInt64) ||| p1.toInt64))])
  exact hR X0 (fun fs hl => X0.lreturnOut hx hret (hb hby d4_8) hl) (fun q => by rw [hret] at q; cases q) ⟨rfl, N0, e0⟩ (by decide) (by decide)
theorem d9_0 : decode prog_20_method_14_code 0 = .ok (.iload_n 0, 1) := by decide +kernel
theorem d9_1 : decode prog_20_method_14_code 1 = .ok (.ldc 56, 2) := by decide +kernel
theorem d9_3 : decode prog_20_method_14_code 3 = .ok (.imul, 1) := by decide +kernel
theorem d9_4 : decode prog_20_method_14_code 4 = .ok (.istore_n 1, 1) := by decide +kernel
theorem d9_5 : decode prog_20_method_14_code 5 = .ok (.iload_n 1, 1) := by decide +kernel
theorem d9_6 : decode prog_20_method_14_code 6 = .ok (.iload_n 1, 1) := by decide +kernel
theorem d9_7 : decode prog_20_method_14_code 7 = .ok (.bipush 15, 2) := by decide +kernel
theorem d9_9 : decode prog_20_method_14_code 9 = .ok (.iushr, 1) := by decide +kernel
theorem d9_10 : decode prog_20_method_14_code 10 = .ok (.ixor, 1) := by decide +kernel
theorem d9_11 : decode prog_20_method_14_code 11 = .ok (.istore_n 1, 1) := by decide +kernel
theorem d9_12 : decode prog_20_method_14_code 12 = .ok (.iload_n 1, 1) := by decide +kernel
theorem d9_13 : decode prog_20_method_14_code 13 = .ok (.ldc 57, 2) := by decide +kernel
theorem d9_15 : decode prog_20_method_14_code 15 = .ok (.imul, 1) := by decide +kernel
theorem d9_16 : decode prog_20_method_14_code 16 = .ok (.istore_n 1, 1) := by decide +kernel
theorem d9_17 : decode prog_20_method_14_code 17 = .ok (.iload_n 1, 1) := by decide +kernel
theorem d9_18 : decode prog_20_method_14_code 18 = .ok (.iload_n 1, 1) := by decide +kernel
theorem d9_19 : decode prog_20_method_14_code 19 = .ok (.bipush 13, 2) := by decide +kernel
theorem d9_21 : decode prog_20_method_14_code 21 = .ok (.iushr, 1) := by decide +kernel
theorem d9_22 : decode prog_20_method_14_code 22 = .ok (.ixor, 1) := by decide +kernel
theorem d9_23 : decode prog_20_method_14_code 23 = .ok (.ireturn, 1) := by decide +kernel
theorem own_ef9 (m : MethodId) (p0 : Int32) : entryFrame m #[(.int p0)] 2 = mkF m 0 #[.val (.int p0), .unset] [] := by first | (simp [entryFrame, mkF, argsToLocals, Value.category]; done) | rfl
def own_pri (p0 : Int32) : Int32 := let z1 : Int32 := (p0 * (-1640531527 : Int32))
  let z2 : Int32 := (z1 ^^^ ((z1.toUInt32 >>> ((15 : Int32) &&& 31).toUInt32).toInt32))
  let z3 : Int32 := (z2 * (-2048144789 : Int32))
  (z3 ^^^ ((z3.toUInt32 >>> ((13 : Int32) &&& 31).toUInt32).toInt32))
theorem own_pn9 : plainName "com/example/slabwarden/slabwarden/chunk/FreeRuns" = true := by first | (simp [plainName, overriddenIn]; done) | decide +kernel
set_option maxRecDepth 65536 in
set_option maxHeartbeats 40000000 in
theorem rm9 (l : Launch) (Z : State) (a0 : Array Value) (hw : ∀ d ∈ tables_1, d.before a0 Z = true) (ws : List Jvm.Cond) (p0 : Int32) (h0 : Heap) (n0 : Nat)  :
    MetFree l (⟨"com/example/slabwarden/slabwarden/chunk/FreeRuns", "priority", "(I)I"⟩ : MethodName) (head1 (Jvm.Cond.code (⟨"com/example/slabwarden/slabwarden/chunk/FreeRuns", "priority", "(I)I"⟩ : MethodName) prog_20_method_14_code 2 (some .int) :: ws) ({ frames := 0, cells := 0, slots := 0, locals := 0 } : Room)) (fun a U => a = #[(.int p0)] ∧ Z.Warmed39 U.vm ∧ U.heap = h0) (fun _ _ _ _ _ => True) (fun _ U o U' => ∃ v L, o = .returned v ∧ own_Q (some (.int (own_pri p0))) h0 n0 v U'.heap L ∧ FrameEnd U o U' L ({ frames := 0, cells := 0, slots := 0, locals := 0 } : Room).cells ({ frames := 0, cells := 0, slots := 0, locals := 0 } : Room).slots) := by
  refine own_contract (plainFor_of_name own_pn9) (fun m => own_ef9 m p0) ?_
  intro p e s m below meth c s₁ G hx hby hml0 hown0 hnm hret hZ X0 e0 hp hR
  have hml : c.maxLocals = 2 := hml0
  have hown : s.vm.findClass "com/example/slabwarden/slabwarden/chunk/FreeRuns" = some m.cls := hown0
  have N0 := Fr.nil n0
  show G s₁ (mkF m 0 #[.val (.int p0), .unset] [])
  refine hp (fun tq kq => XS.iloadN X0.here hx rfl (hb hby d9_0) rfl kq) ?_
  show G s₁ (mkF m 1 #[.val (.int p0), .unset] [(.int p0)])
  refine hp (fun tq kq => X0.ldcInt hx hown (mvT hZ (hw _ (List.mem_of_getElem? (i := 48) rfl))) (g := (mkF m 1 #[.val (.int p0), .unset] [(.int p0)])) rfl (hb hby d9_1) _ kq) ?_
  show G s₁ (mkF m 3 #[.val (.int p0), .unset] [(.int (-1640531527 : Int32)), (.int p0)])
  refine hp (fun tq kq => XS.imul X0.here hx rfl (hb hby d9_3) rfl kq) ?_
  show G s₁ (mkF m 4 #[.val (.int p0), .unset] [(.int (p0 * (-1640531527 : Int32)))])
  refine hp (fun tq kq => XS.istoreN X0.here hx rfl (hb hby d9_4) rfl (l' := #[.val (.int p0), .val (.int (p0 * (-1640531527 : Int32)))]) rfl kq) ?_
  show G s₁ (mkF m 5 #[.val (.int p0), .val (.int (p0 * (-1640531527 : Int32)))] [])
  refine (?_ : ∀ (z1 : Int32), z1 = (p0 * (-1640531527 : Int32)) → G s₁ (mkF m 5 #[.val (.int p0), .val (.int z1)] [])) _ rfl
  intro z1 hz1
  refine hp (fun tq kq => XS.iloadN X0.here hx rfl (hb hby d9_5) rfl kq) ?_
  show G s₁ (mkF m 6 #[.val (.int p0), .val (.int z1)] [(.int z1)])
  refine hp (fun tq kq => XS.iloadN X0.here hx rfl (hb hby d9_6) rfl kq) ?_
  show G s₁ (mkF m 7 #[.val (.int p0), .val (.int z1)] [(.int z1), (.int z1)])
  refine hp (fun tq kq => XS.bipush X0.here hx rfl (hb hby d9_7) kq) ?_
  show G s₁ (mkF m 9 #[.val (.int p0), .val (.int z1)] [(.int (15 : Int32)), (.int z1), (.int z1)])
  refine hp (fun tq kq => XS.iushr X0.here hx rfl (hb hby d9_9) rfl kq) ?_
  show G s₁ (mkF m 10 #[.val (.int p0), .val (.int z1)] [(.int ((z1.toUInt32 >>> ((15 : Int32) &&& 31).toUInt32).toInt32)), (.int z1)])
  refine hp (fun tq kq => XS.ixor X0.here hx rfl (hb hby d9_10) rfl kq) ?_
  show G s₁ (mkF m 11 #[.val (.int p0), .val (.int z1)] [(.int (z1 ^^^ ((z1.toUInt32 >>> ((15 : Int32) &&& 31).toUInt32).toInt32)))])
  refine hp (fun tq kq => XS.istoreN X0.here hx rfl (hb hby d9_11) rfl (l' := #[.val (.int p0), .val (.int (z1 ^^^ ((z1.toUInt32 >>> ((15 : Int32) &&& 31).toUInt32).toInt32)))]) rfl kq) ?_
  show G s₁ (mkF m 12 #[.val (.int p0), .val (.int (z1 ^^^ ((z1.toUInt32 >>> ((15 : Int32) &&& 31).toUInt32).toInt32)))] [])
  refine (?_ : ∀ (z2 : Int32), z2 = (z1 ^^^ ((z1.toUInt32 >>> ((15 : Int32) &&& 31).toUInt32).toInt32)) → G s₁ (mkF m 12 #[.val (.int p0), .val (.int z2)] [])) _ rfl
  intro z2 hz2
  refine hp (fun tq kq => XS.iloadN X0.here hx rfl (hb hby d9_12) rfl kq) ?_
  show G s₁ (mkF m 13 #[.val (.int p0), .val (.int z2)] [(.int z2)])
  refine hp (fun tq kq => X0.ldcInt hx hown (mvT hZ (hw _ (List.mem_of_getElem? (i := 49) rfl))) (g := (mkF m 13 #[.val (.int p0), .val (.int z2)] [(.int z2)])) rfl (hb hby d9_13) _ kq) ?_
  show G s₁ (mkF m 15 #[.val (.int p0), .val (.int z2)] [(.int (-2048144789 : Int32)), (.int z2)])
  refine hp (fun tq kq => XS.imul X0.here hx rfl (hb hby d9_15) rfl kq) ?_
  show G s₁ (mkF m 16 #[.val (.int p0), .val (.int z2)] [(.int (z2 * (-2048144789 : Int32)))])
  refine hp (fun tq kq => XS.istoreN X0.here hx rfl (hb hby d9_16) rfl (l' := #[.val (.int p0), .val (.int (z2 * (-2048144789 : Int32)))]) rfl kq) ?_
  show G s₁ (mkF m 17 #[.val (.int p0), .val (.int (z2 * (-2048144789 : Int32)))] [])
  refine (?_ : ∀ (z3 : Int32), z3 = (z2 * (-2048144789 : Int32)) → G s₁ (mkF m 17 #[.val (.int p0), .val (.int z3)] [])) _ rfl
  intro z3 hz3
  refine hp (fun tq kq => XS.iloadN X0.here hx rfl (hb hby d9_17) rfl kq) ?_
  show G s₁ (mkF m 18 #[.val (.int p0), .val (.int z3)] [(.int z3)])
  refine hp (fun tq kq => XS.iloadN X0.here hx rfl (hb hby d9_18) rfl kq) ?_
  show G s₁ (mkF m 19 #[.val (.int p0), .val (.int z3)] [(.int z3), (.int z3)])
  refine hp (fun tq kq => XS.bipush X0.here hx rfl (hb hby d9_19) kq) ?_
  show G s₁ (mkF m 21 #[.val (.int p0), .val (.int z3)] [(.int (13 : Int32)), (.int z3), (.int z3)])
  refine hp (fun tq kq => XS.iushr X0.here hx rfl (hb hby d9_21) rfl kq) ?_
  show G s₁ (mkF m 22 #[.val (.int p0), .val (.int z3)] [(.int ((z3.toUInt32 >>> ((13 : Int32) &&& 31).toUInt32).toInt32)), (.int z3)])
  refine hp (fun tq kq => XS.ixor X0.here hx rfl (hb hby d9_22) rfl kq) ?_
  show G s₁ (mkF m 23 #[.val (.int p0), .val (.int z3)] [(.int (z3 ^^^ ((z3.toUInt32 >>> ((13 : Int32) &&& 31).toUInt32).toInt32)))])
  exact hR X0 (fun fs hl => retI X0 hx hret (hb hby d9_23) hl) (fun q => by rw [hret] at q; cases q) ⟨(by subst hz3 hz2 hz1; exact rfl), N0, e0⟩ (by decide) (by decide)
theorem d5_0 : decode method_2_code 0 = .ok (.iload_n 1, 1) := by decide +kernel
theorem d5_1 : decode method_2_code 1 = .ok (.ifCond .le 19, 3) := by decide +kernel
theorem d5_4 : decode method_2_code 4 = .ok (.iload_n 1, 1) := by decide +kernel
theorem d5_5 : decode method_2_code 5 = .ok (.iload_n 2, 1) := by decide +kernel
theorem d5_6 : decode method_2_code 6 = .ok (.if_icmp .lt 14, 3) := by decide +kernel
theorem d5_9 : decode method_2_code 9 = .ok (.iload_n 0, 1) := by decide +kernel
theorem d5_10 : decode method_2_code 10 = .ok (.ifCond .eq 8, 3) := by decide +kernel
theorem d5_13 : decode method_2_code 13 = .ok (.iload_n 1, 1) := by decide +kernel
theorem d5_14 : decode method_2_code 14 = .ok (.iload_n 0, 1) := by decide +kernel
theorem d5_15 : decode method_2_code 15 = .ok (.if_icmp .ge 5, 3) := by decide +kernel
theorem d5_18 : decode method_2_code 18 = .ok (.iload_n 1, 1) := by decide +kernel
theorem d5_19 : decode method_2_code 19 = .ok (.ireturn, 1) := by decide +kernel
theorem d5_20 : decode method_2_code 20 = .ok (.iload_n 0, 1) := by decide +kernel
theorem d5_21 : decode method_2_code 21 = .ok (.ireturn, 1) := by decide +kernel
theorem own_ef5 (m : MethodId) (p0 : Int32) (p1 : Int32) (p2 : Int32) : entryFrame m #[(.int p0), (.int p1), (.int p2)] 3 = mkF m 0 #[.val (.int p0), .val (.int p1), .val (.int p2)] [] := by first | (simp [entryFrame, mkF, argsToLocals, Value.category]; done) | rfl
def own_pick (p0 : Int32) (p1 : Int32) (p2 : Int32) : Int32 := if (0 : Int32) < p1 then (if p1 < p2 then p0 else if p0 = (0 : Int32) then p1 else if p1 < p0 then p1 else p0) else p0
theorem own_pn5 : plainName "com/example/slabwarden/slabwarden/chunk/FreeRunsShortestAtLeastPinLaw" = true := by first | (simp [plainName, overriddenIn]; done) | decide +kernel
set_option maxRecDepth 65536 in
set_option maxHeartbeats 40000000 in
theorem rm5 (l : Launch) (Z : State) (a0 : Array Value) (hw : ∀ d ∈ tables_1, d.before a0 Z = true) (ws : List Jvm.Cond) (p0 : Int32) (p1 : Int32) (p2 : Int32) (h0 : Heap) (n0 : Nat)  :
    MetFree l (⟨"com/example/slabwarden/slabwarden/chunk/FreeRunsShortestAtLeastPinLaw", "pick", "(III)I"⟩ : MethodName) (head1 (Jvm.Cond.code (⟨"com/example/slabwarden/slabwarden/chunk/FreeRunsShortestAtLeastPinLaw", "pick", "(III)I"⟩ : MethodName) method_2_code 3 (some .int) :: ws) ({ frames := 0, cells := 0, slots := 0, locals := 0 } : Room)) (fun a U => a = #[(.int p0), (.int p1), (.int p2)] ∧ Z.Warmed39 U.vm ∧ U.heap = h0) (fun _ _ _ _ _ => True) (fun _ U o U' => ∃ v L, o = .returned v ∧ own_Q (some (.int (own_pick p0 p1 p2))) h0 n0 v U'.heap L ∧ FrameEnd U o U' L ({ frames := 0, cells := 0, slots := 0, locals := 0 } : Room).cells ({ frames := 0, cells := 0, slots := 0, locals := 0 } : Room).slots) := by
  refine own_contract (plainFor_of_name own_pn5) (fun m => own_ef5 m p0 p1 p2) ?_
  intro p e s m below meth c s₁ G hx hby hml0 hown0 hnm hret hZ X0 e0 hp hR
  have hml : c.maxLocals = 3 := hml0
  have hown : s.vm.findClass "com/example/slabwarden/slabwarden/chunk/FreeRunsShortestAtLeastPinLaw" = some m.cls := hown0
  have N0 := Fr.nil n0
  show G s₁ (mkF m 0 #[.val (.int p0), .val (.int p1), .val (.int p2)] [])
  refine hp (fun tq kq => XS.iloadN X0.here hx rfl (hb hby d5_0) rfl kq) ?_
  show G s₁ (mkF m 1 #[.val (.int p0), .val (.int p1), .val (.int p2)] [(.int p1)])
  by_cases hb1 : (0 : Int32) < p1
  · refine hp (fun tq kq => XS.ifNo X0.here hx rfl (hb hby d5_1) rfl ((if0 _ _).trans (tlt hb1).2.2.2) kq) ?_
    show G s₁ (mkF m 4 #[.val (.int p0), .val (.int p1), .val (.int p2)] [])
    refine hp (fun tq kq => XS.iloadN X0.here hx rfl (hb hby d5_4) rfl kq) ?_
    show G s₁ (mkF m 5 #[.val (.int p0), .val (.int p1), .val (.int p2)] [(.int p1)])
    refine hp (fun tq kq => XS.iloadN X0.here hx rfl (hb hby d5_5) rfl kq) ?_
    show G s₁ (mkF m 6 #[.val (.int p0), .val (.int p1), .val (.int p2)] [(.int p2), (.int p1)])
    by_cases hb2 : p1 < p2
    · refine hp (fun tq kq => XS.icmpYes X0.here hx rfl (pc0 := 6) (pc' := 20) rfl (hb hby d5_6) rfl (tlt hb2).1 (by decide) (by decide) kq) ?_
      show G s₁ (mkF m 20 #[.val (.int p0), .val (.int p1), .val (.int p2)] [])
      refine hp (fun tq kq => XS.iloadN X0.here hx rfl (hb hby d5_20) rfl kq) ?_
      show G s₁ (mkF m 21 #[.val (.int p0), .val (.int p1), .val (.int p2)] [(.int p0)])
      exact hR X0 (fun fs hl => retI X0 hx hret (hb hby d5_21) hl) (fun q => by rw [hret] at q; cases q) ⟨(congrArg (fun q => some (Value.int q)) ((if_pos hb1).trans (if_pos hb2)).symm), N0, e0⟩ (by decide) (by decide)
    · refine hp (fun tq kq => XS.icmpNo X0.here hx rfl (hb hby d5_6) rfl (flt hb2).1 kq) ?_
      show G s₁ (mkF m 9 #[.val (.int p0), .val (.int p1), .val (.int p2)] [])
      refine hp (fun tq kq => XS.iloadN X0.here hx rfl (hb hby d5_9) rfl kq) ?_
      show G s₁ (mkF m 10 #[.val (.int p0), .val (.int p1), .val (.int p2)] [(.int p0)])
      by_cases hb3 : p0 = (0 : Int32)
      · refine hp (fun tq kq => XS.ifYes X0.here hx rfl (pc0 := 10) (pc' := 18) rfl (hb hby d5_10) rfl ((if0 _ _).trans (teq hb3).1) (by decide) (by decide) kq) ?_
        show G s₁ (mkF m 18 #[.val (.int p0), .val (.int p1), .val (.int p2)] [])
        refine hp (fun tq kq => XS.iloadN X0.here hx rfl (hb hby d5_18) rfl kq) ?_
        show G s₁ (mkF m 19 #[.val (.int p0), .val (.int p1), .val (.int p2)] [(.int p1)])
        exact hR X0 (fun fs hl => retI X0 hx hret (hb hby d5_19) hl) (fun q => by rw [hret] at q; cases q) ⟨(congrArg (fun q => some (Value.int q)) ((if_pos hb1).trans ((if_neg hb2).trans (if_pos hb3))).symm), N0, e0⟩ (by decide) (by decide)
      · refine hp (fun tq kq => XS.ifNo X0.here hx rfl (hb hby d5_10) rfl ((if0 _ _).trans (feq hb3).1) kq) ?_
        show G s₁ (mkF m 13 #[.val (.int p0), .val (.int p1), .val (.int p2)] [])
        refine hp (fun tq kq => XS.iloadN X0.here hx rfl (hb hby d5_13) rfl kq) ?_
        show G s₁ (mkF m 14 #[.val (.int p0), .val (.int p1), .val (.int p2)] [(.int p1)])
        refine hp (fun tq kq => XS.iloadN X0.here hx rfl (hb hby d5_14) rfl kq) ?_
        show G s₁ (mkF m 15 #[.val (.int p0), .val (.int p1), .val (.int p2)] [(.int p0), (.int p1)])
        by_cases hb4 : p1 < p0
        · refine hp (fun tq kq => XS.icmpNo X0.here hx rfl (hb hby d5_15) rfl (tlt hb4).2.1 kq) ?_
          show G s₁ (mkF m 18 #[.val (.int p0), .val (.int p1), .val (.int p2)] [])
          refine hp (fun tq kq => XS.iloadN X0.here hx rfl (hb hby d5_18) rfl kq) ?_
          show G s₁ (mkF m 19 #[.val (.int p0), .val (.int p1), .val (.int p2)] [(.int p1)])
          exact hR X0 (fun fs hl => retI X0 hx hret (hb hby d5_19) hl) (fun q => by rw [hret] at q; cases q) ⟨(congrArg (fun q => some (Value.int q)) ((if_pos hb1).trans ((if_neg hb2).trans ((if_neg hb3).trans (if_pos hb4)))).symm), N0, e0⟩ (by decide) (by decide)
        · refine hp (fun tq kq => XS.icmpYes X0.here hx rfl (pc0 := 15) (pc' := 20) rfl (hb hby d5_15) rfl (flt hb4).2.1 (by decide) (by decide) kq) ?_
          show G s₁ (mkF m 20 #[.val (.int p0), .val (.int p1), .val (.int p2)] [])
          refine hp (fun tq kq => XS.iloadN X0.here hx rfl (hb hby d5_20) rfl kq) ?_
          show G s₁ (mkF m 21 #[.val (.int p0), .val (.int p1), .val (.int p2)] [(.int p0)])
          exact hR X0 (fun fs hl => retI X0 hx hret (hb hby d5_21) hl) (fun q => by rw [hret] at q; cases q) ⟨(congrArg (fun q => some (Value.int q)) ((if_pos hb1).trans ((if_neg hb2).trans ((if_neg hb3).trans (if_neg hb4)))).symm), N0, e0⟩ (by decide) (by decide)
  · refine hp (fun tq kq => XS.ifYes X0.here hx rfl (pc0 := 1) (pc' := 20) rfl (hb hby d5_1) rfl ((if0 _ _).trans (flt hb1).2.2.2) (by decide) (by decide) kq) ?_
    show G s₁ (mkF m 20 #[.val (.int p0), .val (.int p1), .val (.int p2)] [])
    refine hp (fun tq kq => XS.iloadN X0.here hx rfl (hb hby d5_20) rfl kq) ?_
    show G s₁ (mkF m 21 #[.val (.int p0), .val (.int p1), .val (.int p2)] [(.int p0)])
    exact hR X0 (fun fs hl => retI X0 hx hret (hb hby d5_21) hl) (fun q => by rw [hret] at q; cases q) ⟨(congrArg (fun q => some (Value.int q)) (if_neg hb1).symm), N0, e0⟩ (by decide) (by decide)
/-! the model: nodes are 0 to 19, 20 stands for none; a tree: its root, the left and the right children -/
abbrev own_S : Type := Nat × List Nat × List Nat
def own_hang (a : Nat) (r : Bool) (n : Nat) (S : own_S) : own_S := if a = 20 then (n, S.2.1, S.2.2) else if r = true then (S.1, S.2.1, S.2.2.set a n) else (S.1, S.2.1.set a n, S.2.2)
/-- the key of n is less than that of m: by length, then by place -/
def own_klt (ln : List Nat) (n m : Nat) : Bool := Nat.blt (ln.getD n 0) (ln.getD m 0) || (Nat.beq (ln.getD n 0) (ln.getD m 0) && Nat.blt n m)
/-- the places by their priority -/
def own_rank (n : Nat) : Nat := [12, 5, 3, 11, 6, 7, 10, 1, 14, 13, 15, 0, 9, 4, 2, 19, 17, 8, 16, 18].getD n 0
def own_split (ln : List Nat) (p : Nat) : Nat → Nat → Nat → Bool → Nat → Bool → own_S → Option own_S
  | 0, _, _, _, _, _, _ => none
  | f + 1, n, a, ar, b, br, S => if n = 20 then some (own_hang b br 20 (own_hang a ar 20 S)) else if 20 < n then none else
      if own_klt ln n p = true then own_split ln p f ((own_hang a ar n S).2.2.getD n 0) n true b br (own_hang a ar n S)
      else own_split ln p f ((own_hang b br n S).2.1.getD n 0) a ar n false (own_hang b br n S)
def own_walk (ln : List Nat) (p : Nat) (S : own_S) : Nat → Nat → Nat → Bool → Option (Nat × Nat × Bool)
  | 0, _, _, _ => none
  | f + 1, n, q, g => if n = 20 then some (n, q, g) else if 20 < n then none else
      if own_rank p < own_rank n then (if own_klt ln n p = true then own_walk ln p S f (S.2.2.getD n 0) n true else own_walk ln p S f (S.2.1.getD n 0) n false) else some (n, q, g)
def own_insert (ln : List Nat) (p : Nat) (S : own_S) : Option own_S := match own_walk ln p S 6 S.1 20 false with
  | none => none
  | some (n, q, g) => match own_split ln p 6 n p false p true S with
    | none => none
    | some S1 => some (own_hang q g p S1)
def own_add (s len : Nat) (M : List Nat × own_S) : Option (List Nat × own_S) := match own_insert (M.1.set s len) s M.2 with
  | none => none
  | some S1 => some (M.1.set s len, S1)
def own_opt (s len : Nat) (M : List Nat × own_S) : Option (List Nat × own_S) := if 0 < len then own_add s len M else some M
def own_find (ln : List Nat) (pg : Int) (S : own_S) : Nat → Nat → Nat → Option Nat
  | 0, _, _ => none
  | f + 1, n, best => if n = 20 then some best else if 20 < n then none else
      if ((ln.getD n 0 : Nat) : Int) < pg then own_find ln pg S f (S.2.2.getD n 0) best else own_find ln pg S f (S.2.1.getD n 0) n
def own_M0 : List Nat × own_S := (List.replicate 20 0, 20, List.replicate 20 0, List.replicate 20 0)
def own_M (s a b c d : Nat) : Option (List Nat × own_S) := ((((own_opt s a own_M0).bind (own_opt (s + 4) b)).bind (own_opt (s + 8) c)).bind (own_opt (s + 12) d))
/-- the shortest length that is long enough; 0: none -/
def own_pk (cur len : Nat) (pg : Int) : Nat := if 0 < len ∧ pg ≤ (len : Int) ∧ (cur = 0 ∨ len < cur) then len else cur
def own_want (s a b c d : Nat) (pg : Int) : Nat := let m := own_pk (own_pk (own_pk (own_pk 0 a pg) b pg) c pg) d pg
  if m = 0 then 20 else if a = m then s else if b = m then s + 4 else if c = m then s + 8 else s + 12
def own_chk (s a b c d : Nat) (pg : Int) : Bool := match own_M s a b c d with
  | none => false
  | some M => decide (own_find M.1 pg M.2 6 M.2.1 20 = some (own_want s a b c d pg))

/-! the model and the machine's ints -/
def own_i (n : Nat) : Int32 := if n = 20 then (-1 : Int32) else Int32.ofNat n
def own_b (r : Bool) : Int32 := if r = true then (1 : Int32) else (0 : Int32)
def own_lnf (ln : List Nat) (i : Nat) : Int32 := Int32.ofNat (ln.getD i 0)
def own_arr (L : List Nat) (i : Nat) : Int32 := own_i (L.getD i 0)
theorem own_iv {n : Nat} (h : n < 20) : own_i n = Int32.ofNat n := if_neg (by omega)
theorem own_ival {n : Nat} (h : n < 20) : (own_i n).toInt = (n : Int) := by rw [own_iv h]; exact Int32.toInt_ofNat_of_lt (by omega)
theorem own_ii {n : Nat} (h : n < 20) : (own_i n).toNatClampNeg = n ∧ ¬ own_i n < 0 := by
  have e := own_ival h
  have e0 : (0 : Int32).toInt = 0 := by decide
  rw [Int32.lt_iff_toInt_lt, e0, Int32.toNatClampNeg, e]
  omega
theorem own_ine {n : Nat} (h : n < 20) : ¬ own_i n = (-1 : Int32) := fun q => by
  have e := own_ival h
  have e1 : (-1 : Int32).toInt = -1 := by decide
  rw [q, e1] at e
  omega
theorem own_i20 {n : Nat} (h : n ≤ 20) (q : own_i n = (-1 : Int32)) : n = 20 := by
  by_cases z : n = 20
  · exact z
  · exact absurd q (own_ine (by omega))
theorem own_i20n {n : Nat} (h : n ≤ 20) (q : ¬ own_i n = (-1 : Int32)) : n < 20 := by
  by_cases z : n = 20
  · subst z; exact absurd rfl q
  · omega
theorem own_b0 {r : Bool} (q : own_b r = (0 : Int32)) : r = false := by cases r; rfl; exact absurd q (by decide)
theorem own_b1 {r : Bool} (q : ¬ own_b r = (0 : Int32)) : r = true := by cases r; exact absurd rfl q; rfl
theorem own_arr_set {L : List Nat} (hl : L.length = 20) {a : Nat} (ha : a < 20) (v : Nat) : ∀ i, i < 20 → own_up (own_arr L) a (own_i v) i = own_arr (L.set a v) i := by
  intro i hi
  unfold own_arr own_up
  by_cases q : i = a
  · subst q; rw [if_pos rfl, List.getD_eq_getElem?_getD, List.getElem?_set_self (by omega)]; rfl
  · rw [if_neg q]
    show own_i (L.getD i 0) = _
    rw [List.getD_eq_getElem?_getD, List.getD_eq_getElem?_getD, List.getElem?_set_ne (fun z => q z.symm)]
theorem own_lnf_set {L : List Nat} (hl : L.length = 20) {a : Nat} (ha : a < 20) (v : Nat) : ∀ i, i < 20 → own_up (own_lnf L) a (Int32.ofNat v) i = own_lnf (L.set a v) i := by
  intro i hi
  unfold own_lnf own_up
  by_cases q : i = a
  · subst q; rw [if_pos rfl, List.getD_eq_getElem?_getD, List.getElem?_set_self (by omega)]; rfl
  · rw [if_neg q]
    show Int32.ofNat (L.getD i 0) = _
    rw [List.getD_eq_getElem?_getD, List.getD_eq_getElem?_getD, List.getElem?_set_ne (fun z => q z.symm)]
theorem own_zeroL : ∀ i, i < 20 → (fun _ => (0 : Int32)) i = own_lnf (List.replicate 20 0) i := by decide +kernel
theorem own_zeroA : ∀ i, i < 20 → (fun _ => (0 : Int32)) i = own_arr (List.replicate 20 0) i := by decide +kernel
/-- every length is at most 3 -/
def own_small (ln : List Nat) : Prop := ∀ i, ln.getD i 0 ≤ 3
theorem own_small_set {ln : List Nat} (h : own_small ln) (a : Nat) {v : Nat} (hv : v ≤ 3) : own_small (ln.set a v) := by
  intro i
  by_cases q : i = a
  · subst q
    rw [List.getD_eq_getElem?_getD]
    by_cases z : i < ln.length
    · rw [List.getElem?_set_self z]; exact hv
    · rw [List.getElem?_eq_none (by rw [List.length_set]; omega)]; exact Nat.zero_le _
  · rw [List.getD_eq_getElem?_getD, List.getElem?_set_ne (fun z => q z.symm), ← List.getD_eq_getElem?_getD]; exact h i
theorem own_keyint (x y : Int32) (hx : -2147483648 ≤ x.toInt) (hy : 0 ≤ y.toInt) : (own_key2 x y).toInt = x.toInt * 4294967296 + y.toInt := by
  have ra := rng32 x
  have rb := rng32 y
  have i1 := c_i2l x
  have i2 := c_i2l y
  have s := c_lshl x.toInt64 32 32 (by decide)
  rw [i1] at s
  have hk : own_key2 x y = (x.toInt64 <<< ((32 : Int32) &&& 0x3f).toInt64) ||| y.toInt64 := rfl
  rw [hk]
  generalize (x.toInt64 <<< ((32 : Int32) &&& 0x3f).toInt64) = A at *
  have rA := rng64 A
  have qA : A.toInt = x.toInt * 4294967296 := by
    generalize A.toInt = u at *
    generalize x.toInt = v at *
    omega
  have o := c_orL A y.toInt64 32 (by decide) 4294967296 (by decide) (by rw [qA]; generalize x.toInt = v at *; omega) (by rw [i2]; omega) (by rw [i2]; omega)
  have r := rng64 (A ||| y.toInt64)
  rw [qA, i2] at o
  generalize (A ||| y.toInt64).toInt = u at *
  generalize x.toInt = v at *
  generalize y.toInt = w at *
  omega
theorem own_lnv {ln : List Nat} (h : own_small ln) (n : Nat) : (own_lnf ln n).toInt = ((ln.getD n 0 : Nat) : Int) := Int32.toInt_ofNat_of_lt (by have := h n; omega)
theorem own_klt_iff {ln : List Nat} (h : own_small ln) {n p : Nat} (hn : n < 20) (hp : p < 20) : own_key2 (own_lnf ln n) (own_i n) < own_key2 (own_lnf ln p) (own_i p) ↔ own_klt ln n p = true := by
  have a1 := own_lnv h n
  have a2 := own_lnv h p
  have b1 := own_ival hn
  have b2 := own_ival hp
  rw [Int64.lt_iff_toInt_lt, own_keyint _ _ (rng32 _).1 (by rw [b1]; omega), own_keyint _ _ (rng32 _).1 (by rw [b2]; omega), a1, a2, b1, b2]
  unfold own_klt
  simp only [Bool.or_eq_true, Bool.and_eq_true, Nat.blt_eq, Nat.beq_eq]
  clear a1 a2 b1 b2
  generalize ln.getD n 0 = x
  generalize ln.getD p 0 = y
  by_cases c1 : x < y
  · exact ⟨fun _ => Or.inl c1, fun _ => by omega⟩
  · by_cases c2 : x = y
    · subst c2
      exact ⟨fun z => Or.inr ⟨rfl, by omega⟩, fun z => by rcases z with z | ⟨-, z⟩ <;> omega⟩
    · exact ⟨fun z => by exfalso; omega, fun z => by rcases z with z | ⟨z, -⟩ <;> omega⟩
theorem own_pg_iff {ln : List Nat} (h : own_small ln) {n : Nat} (hn : n < 20) (pages : Int32) : own_key2 (own_lnf ln n) (own_i n) < own_key2 pages (0 : Int32) ↔ ((ln.getD n 0 : Nat) : Int) < pages.toInt := by
  have a1 := own_lnv h n
  have b1 := own_ival hn
  have e0 : (0 : Int32).toInt = 0 := by decide
  rw [Int64.lt_iff_toInt_lt, own_keyint _ _ (rng32 _).1 (by rw [b1]; omega), own_keyint _ _ (rng32 _).1 (by rw [e0]; decide), a1, b1, e0]
  generalize ln.getD n 0 = x
  generalize pages.toInt = y
  omega
theorem own_pri_all : ((List.range 20).all fun p => (List.range 20).all fun n => decide (own_pri (Int32.ofNat p) < own_pri (Int32.ofNat n)) == decide (own_rank p < own_rank n)) = true := by decide +kernel
theorem own_pri_iff {p n : Nat} (hp : p < 20) (hn : n < 20) : own_pri (own_i p) < own_pri (own_i n) ↔ own_rank p < own_rank n := by
  have h := List.all_eq_true.mp (List.all_eq_true.mp own_pri_all p (List.mem_range.mpr hp)) n (List.mem_range.mpr hn)
  rw [beq_iff_eq] at h
  rw [own_iv hp, own_iv hn]
  exact decide_eq_decide.mp h
/-! the model's steps -/
section Steps
variable {ln : List Nat} {p n q a b f : Nat} {g ar br : Bool} {S S' : own_S} {r : Nat × Nat × Bool}
theorem own_split_end (h : own_split ln p (f + 1) 20 a ar b br S = some S') : own_hang b br 20 (own_hang a ar 20 S) = S' := Option.some.inj (by rw [own_split, if_pos rfl] at h; exact h)
theorem own_split_big (hn : ¬ n = 20) (hb : 20 < n) : ¬ own_split ln p (f + 1) n a ar b br S = some S' := by rw [own_split, if_neg hn, if_pos hb]; exact nofun
theorem own_split_lt (hn : ¬ n = 20) (hb : ¬ 20 < n) (hk : own_klt ln n p = true) (h : own_split ln p (f + 1) n a ar b br S = some S') : own_split ln p f ((own_hang a ar n S).2.2.getD n 0) n true b br (own_hang a ar n S) = some S' := by rw [own_split, if_neg hn, if_neg hb, if_pos hk] at h; exact h
theorem own_split_ge (hn : ¬ n = 20) (hb : ¬ 20 < n) (hk : ¬ own_klt ln n p = true) (h : own_split ln p (f + 1) n a ar b br S = some S') : own_split ln p f ((own_hang b br n S).2.1.getD n 0) a ar n false (own_hang b br n S) = some S' := by rw [own_split, if_neg hn, if_neg hb, if_neg hk] at h; exact h
theorem own_walk_end (h : own_walk ln p S (f + 1) 20 q g = some r) : (20, q, g) = r := Option.some.inj (by rw [own_walk, if_pos rfl] at h; exact h)
theorem own_walk_big (hn : ¬ n = 20) (hb : 20 < n) : ¬ own_walk ln p S (f + 1) n q g = some r := by rw [own_walk, if_neg hn, if_pos hb]; exact nofun
theorem own_walk_stop (hn : ¬ n = 20) (hb : ¬ 20 < n) (hk : ¬ own_rank p < own_rank n) (h : own_walk ln p S (f + 1) n q g = some r) : (n, q, g) = r := Option.some.inj (by rw [own_walk, if_neg hn, if_neg hb, if_neg hk] at h; exact h)
theorem own_walk_r (hn : ¬ n = 20) (hb : ¬ 20 < n) (hk : own_rank p < own_rank n) (hl : own_klt ln n p = true) (h : own_walk ln p S (f + 1) n q g = some r) : own_walk ln p S f (S.2.2.getD n 0) n true = some r := by rw [own_walk, if_neg hn, if_neg hb, if_pos hk, if_pos hl] at h; exact h
theorem own_walk_l (hn : ¬ n = 20) (hb : ¬ 20 < n) (hk : own_rank p < own_rank n) (hl : ¬ own_klt ln n p = true) (h : own_walk ln p S (f + 1) n q g = some r) : own_walk ln p S f (S.2.1.getD n 0) n false = some r := by rw [own_walk, if_neg hn, if_neg hb, if_pos hk, if_neg hl] at h; exact h
theorem own_walk_le (hq : q ≤ 20) : ∀ (f n q : Nat) (g : Bool), q ≤ 20 → own_walk ln p S f n q g = some r → r.2.1 ≤ 20 ∧ r.1 ≤ 20 := by
  intro f
  induction f with
  | zero => intro n q g hq h; exact nomatch h
  | succ f ih =>
    intro n q g hq h
    by_cases hn : n = 20
    · subst hn; have := own_walk_end h; subst this; exact ⟨hq, Nat.le_refl _⟩
    · by_cases hb : 20 < n
      · exact absurd h (own_walk_big hn hb)
      · by_cases hk : own_rank p < own_rank n
        · by_cases hl : own_klt ln n p = true
          · exact ih _ _ _ (by omega) (own_walk_r hn hb hk hl h)
          · exact ih _ _ _ (by omega) (own_walk_l hn hb hk hl h)
        · have := own_walk_stop hn hb hk h; subst this; exact ⟨hq, by omega⟩
theorem own_insert_spec (h : own_insert ln p S = some S') : ∃ (n q : Nat) (g : Bool) (S1 : own_S), own_walk ln p S 6 S.1 20 false = some (n, q, g) ∧ own_split ln p 6 n p false p true S = some S1 ∧ own_hang q g p S1 = S' ∧ q ≤ 20 := by
  unfold own_insert at h
  split at h
  · exact nomatch h
  · rename_i n q g hw
    split at h
    · exact nomatch h
    · rename_i S1 hs
      exact ⟨n, q, g, S1, hw, hs, Option.some.inj h, (own_walk_le (Nat.le_refl 20) _ _ _ _ (Nat.le_refl 20) hw).1⟩
theorem own_find_end {pg : Int} {best r : Nat} (h : own_find ln pg S (f + 1) 20 best = some r) : best = r := Option.some.inj (by rw [own_find, if_pos rfl] at h; exact h)
theorem own_find_big {pg : Int} {best r : Nat} (hn : ¬ n = 20) (hb : 20 < n) : ¬ own_find ln pg S (f + 1) n best = some r := by rw [own_find, if_neg hn, if_pos hb]; exact nofun
theorem own_find_lt {pg : Int} {best r : Nat} (hn : ¬ n = 20) (hb : ¬ 20 < n) (hk : ((ln.getD n 0 : Nat) : Int) < pg) (h : own_find ln pg S (f + 1) n best = some r) : own_find ln pg S f (S.2.2.getD n 0) best = some r := by rw [own_find, if_neg hn, if_neg hb, if_pos hk] at h; exact h
theorem own_find_ge {pg : Int} {best r : Nat} (hn : ¬ n = 20) (hb : ¬ 20 < n) (hk : ¬ ((ln.getD n 0 : Nat) : Int) < pg) (h : own_find ln pg S (f + 1) n best = some r) : own_find ln pg S f (S.2.1.getD n 0) n = some r := by rw [own_find, if_neg hn, if_neg hb, if_neg hk] at h; exact h
theorem own_hang_root (a : Nat) (r : Bool) (n : Nat) (S : own_S) (h : a = 20) : own_hang a r n S = (n, S.2.1, S.2.2) := if_pos h
theorem own_hang_r (a : Nat) (r : Bool) (n : Nat) (S : own_S) (h : ¬ a = 20) (hr : r = true) : own_hang a r n S = (S.1, S.2.1, S.2.2.set a n) := (if_neg h).trans (if_pos hr)
theorem own_hang_l (a : Nat) (r : Bool) (n : Nat) (S : own_S) (h : ¬ a = 20) (hr : r = false) : own_hang a r n S = (S.1, S.2.1.set a n, S.2.2) := (if_neg h).trans (if_neg (by rw [hr]; decide))
end Steps

def own_T (Z : State) (h : Heap) (o la ea lf rt : Addr) (ln : List Nat) (S : own_S) : Prop := Exa Z h o "com/example/slabwarden/slabwarden/chunk/FreeRuns" ∧ Fld Z h o "com/example/slabwarden/slabwarden/chunk/FreeRuns" "root" "I" (.int (own_i S.1)) ∧ Fld Z h o "com/example/slabwarden/slabwarden/chunk/FreeRuns" "lengthOfRunFirstAt" "[I" (.ref la) ∧ Fld Z h o "com/example/slabwarden/slabwarden/chunk/FreeRuns" "firstPlusOneOfRunEndingAt" "[I" (.ref ea) ∧ Fld Z h o "com/example/slabwarden/slabwarden/chunk/FreeRuns" "left" "[I" (.ref lf) ∧ Fld Z h o "com/example/slabwarden/slabwarden/chunk/FreeRuns" "right" "[I" (.ref rt) ∧ own_AI Z h la .int 20 (own_lnf ln) ∧ (∃ fe, own_AI Z h ea .int 20 fe) ∧ own_AI Z h lf .int 20 (own_arr S.2.1) ∧ own_AI Z h rt .int 20 (own_arr S.2.2) ∧ ln.length = 20 ∧ S.2.1.length = 20 ∧ S.2.2.length = 20
def own_D (n0 : Nat) (o la ea lf rt : Addr) : Prop := n0 ≤ o ∧ n0 ≤ la ∧ n0 ≤ ea ∧ n0 ≤ lf ∧ n0 ≤ rt ∧ o ≠ la ∧ o ≠ ea ∧ o ≠ lf ∧ o ≠ rt ∧ la ≠ ea ∧ la ≠ lf ∧ la ≠ rt ∧ ea ≠ lf ∧ ea ≠ rt ∧ lf ≠ rt
theorem d8_0 : decode prog_20_method_12_code 0 = .ok (.aload_n 0, 1) := by decide +kernel
theorem d8_1 : decode prog_20_method_12_code 1 = .ok (.getfield 13, 3) := by decide +kernel
theorem d8_4 : decode prog_20_method_12_code 4 = .ok (.iload_n 1, 1) := by decide +kernel
theorem d8_5 : decode prog_20_method_12_code 5 = .ok (.iaload, 1) := by decide +kernel
theorem d8_6 : decode prog_20_method_12_code 6 = .ok (.iload_n 1, 1) := by decide +kernel
theorem d8_7 : decode prog_20_method_12_code 7 = .ok (.invokestatic 26, 3) := by decide +kernel
theorem d8_10 : decode prog_20_method_12_code 10 = .ok (.lreturn, 1) := by decide +kernel
theorem own_ef8 (m : MethodId) (p0 : Addr) (p1 : Int32) : entryFrame m #[(.ref p0), (.int p1)] 2 = mkF m 0 #[.val (.ref p0), .val (.int p1)] [] := by first | (simp [entryFrame, mkF, argsToLocals, Value.category]; done) | rfl
theorem own_pn8 : plainName "com/example/slabwarden/slabwarden/chunk/FreeRuns" = true := by first | (simp [plainName, overriddenIn]; done) | decide +kernel
set_option maxRecDepth 65536 in
set_option maxHeartbeats 40000000 in
theorem rm8 (l : Launch) (Z : State) (a0 : Array Value) (hw : ∀ d ∈ tables_1, d.before a0 Z = true) (ws : List Jvm.Cond) (p0 : Addr) (p1 : Int32) (la ea lf rt : Addr) (ln : List Nat) (S : own_S) (i0 : Nat) (h0 : Heap) (n0 : Nat) (h1 : p1 = own_i i0) (hi : i0 < 20) (hT : own_T Z h0 p0 la ea lf rt ln S) :
    MetFree l (⟨"com/example/slabwarden/slabwarden/chunk/FreeRuns", "key", "(I)J"⟩ : MethodName) (head1 (Jvm.Cond.code (⟨"com/example/slabwarden/slabwarden/chunk/FreeRuns", "key", "(I)J"⟩ : MethodName) prog_20_method_12_code 2 (some .long) :: ws) ({ frames := 1, cells := 0, slots := 0, locals := 13 } : Room)) (fun a U => a = #[(.ref p0), (.int p1)] ∧ Z.Warmed39 U.vm ∧ U.heap = h0) (fun _ _ _ _ _ => True) (fun _ U o U' => ∃ v L, o = .returned v ∧ own_Q (some (.long (own_key2 ((own_lnf ln) i0) (own_i i0)))) h0 n0 v U'.heap L ∧ FrameEnd U o U' L ({ frames := 1, cells := 0, slots := 0, locals := 13 } : Room).cells ({ frames := 1, cells := 0, slots := 0, locals := 13 } : Room).slots) := by
  refine own_contract (plainFor_of_name own_pn8) (fun m => own_ef8 m p0 p1) ?_
  intro p e s m below meth c s₁ G hx hby hml0 hown0 hnm hret hZ X0 e0 hp hR
  have hml : c.maxLocals = 2 := hml0
  have hown : s.vm.findClass "com/example/slabwarden/slabwarden/chunk/FreeRuns" = some m.cls := hown0
  have N0 := Fr.nil n0
  show G s₁ (mkF m 0 #[.val (.ref p0), .val (.int p1)] [])
  have K0 : Keep h0 h0 [] := Keep.refl _ _
  subst h1
  obtain ⟨Et1, Frt1, Flt1, Fet1, Fat1, Fbt1, Vlt1, ⟨fet1, Vet1⟩, Vat1, Vbt1, hlt1, hat1, hbt1⟩ := hT
  show G s₁ (mkF m 0 #[.val (.ref p0), .val (.int (own_i i0))] [])
  refine hp (fun tq kq => XS.aloadN X0.here hx rfl (hb hby d8_0) rfl rfl kq) ?_
  show G s₁ (mkF m 1 #[.val (.ref p0), .val (.int (own_i i0))] [(.ref p0)])
  obtain ⟨T2, X2, e2, st2⟩ := getF X0 hx hZ hown (host := "") (Or.inl (hw _ (List.mem_of_getElem? (i := 12) rfl))) Via.refl e0 Flt1 (g := (mkF m 1 #[.val (.ref p0), .val (.int (own_i i0))] [(.ref p0)])) rfl rfl (hb hby d8_1)
  refine hp st2 ?_
  show G T2 (mkF m 4 #[.val (.ref p0), .val (.int (own_i i0))] [(.ref la)])
  refine hp (fun tq kq => XS.iloadN X2.here hx rfl (hb hby d8_4) rfl kq) ?_
  show G T2 (mkF m 5 #[.val (.ref p0), .val (.int (own_i i0))] [(.int (own_i i0)), (.ref la)])
  refine hp (own_ldI X2 hx hZ e2 Vlt1 (j := (own_i i0)) i0 (own_ii hi).1 (own_ii hi).2 hi (g := (mkF m 5 #[.val (.ref p0), .val (.int (own_i i0))] [(.int (own_i i0)), (.ref la)])) rfl rfl (hb hby d8_5)) ?_
  show G T2 (mkF m 6 #[.val (.ref p0), .val (.int (own_i i0))] [(.int ((own_lnf ln) i0))])
  refine hp (fun tq kq => XS.iloadN X2.here hx rfl (hb hby d8_6) rfl kq) ?_
  show G T2 (mkF m 7 #[.val (.ref p0), .val (.int (own_i i0))] [(.int (own_i i0)), (.int ((own_lnf ln) i0))])
  obtain ⟨v3, T3, L3, X3, hQ3, st3⟩ := own_callS X2 hx hZ (y := (⟨"com/example/slabwarden/slabwarden/chunk/FreeRuns", "key", "(II)J"⟩ : MethodName)) (rm := ({ frames := 0, cells := 0, slots := 0, locals := 0 } : Room)) 0 hown (hw _ (List.mem_of_getElem? (i := 25) rfl)) (hw _ (List.mem_of_getElem? (i := 26) rfl)) (hw _ (List.mem_of_getElem? (i := 2) rfl)) (hw _ (List.mem_of_getElem? (i := 27) rfl)) (by decide) (rm4 l Z a0 hw [] ((own_lnf ln) i0) (own_i i0) h0 n0) e2 (by decide) (by decide) (g := (mkF m 7 #[.val (.ref p0), .val (.int (own_i i0))] [(.int (own_i i0)), (.int ((own_lnf ln) i0))])) rfl (by rw [hml]; rfl) [(.int ((own_lnf ln) i0)), (.int (own_i i0))] [] own_pd0 rfl rfl (by show 2 * 0 + _ ≤ _; exact Nat.le_of_eq rfl) (hb hby d8_7) rfl (by decide) (by decide)
  obtain ⟨rfl, N3, e3⟩ := hQ3
  have F3 := Fr.app N0 N3
  refine hp st3 ?_
  show G T3 (mkF m 10 #[.val (.ref p0), .val (.int (own_i i0))] [(.long (own_key2 ((own_lnf ln) i0) (own_i i0)))])
  exact hR X3 (fun fs hl => X3.lreturnOut hx hret (hb hby d8_10) hl) (fun q => by rw [hret] at q; cases q) (by rw [e3]; exact ⟨rfl, F3, rfl⟩) (by decide) (by decide)
abbrev own_Qh (Z : State) (p0 la ea lf rt : Addr) (ln : List Nat) (S : own_S) (h0 : Heap) (n0 : Nat) (v : Option Value) (h : Heap) (L : List Loc) : Prop := v = none ∧ Fr n0 L ∧ Keep h0 h [p0, lf, rt] ∧ own_T Z h p0 la ea lf rt ln S
theorem d11_0 : decode prog_20_method_11_code 0 = .ok (.iload_n 1, 1) := by decide +kernel
theorem d11_1 : decode prog_20_method_11_code 1 = .ok (.iconst (-1), 1) := by decide +kernel
theorem d11_2 : decode prog_20_method_11_code 2 = .ok (.if_icmp .ne 11, 3) := by decide +kernel
theorem d11_5 : decode prog_20_method_11_code 5 = .ok (.aload_n 0, 1) := by decide +kernel
theorem d11_6 : decode prog_20_method_11_code 6 = .ok (.iload_n 3, 1) := by decide +kernel
theorem d11_7 : decode prog_20_method_11_code 7 = .ok (.putfield 9, 3) := by decide +kernel
theorem d11_10 : decode prog_20_method_11_code 10 = .ok (.goto 24, 3) := by decide +kernel
theorem d11_13 : decode prog_20_method_11_code 13 = .ok (.iload_n 2, 1) := by decide +kernel
theorem d11_14 : decode prog_20_method_11_code 14 = .ok (.ifCond .eq 13, 3) := by decide +kernel
theorem d11_17 : decode prog_20_method_11_code 17 = .ok (.aload_n 0, 1) := by decide +kernel
theorem d11_18 : decode prog_20_method_11_code 18 = .ok (.getfield 23, 3) := by decide +kernel
theorem d11_21 : decode prog_20_method_11_code 21 = .ok (.iload_n 1, 1) := by decide +kernel
theorem d11_22 : decode prog_20_method_11_code 22 = .ok (.iload_n 3, 1) := by decide +kernel
theorem d11_23 : decode prog_20_method_11_code 23 = .ok (.iastore, 1) := by decide +kernel
theorem d11_24 : decode prog_20_method_11_code 24 = .ok (.goto 10, 3) := by decide +kernel
theorem d11_27 : decode prog_20_method_11_code 27 = .ok (.aload_n 0, 1) := by decide +kernel
theorem d11_28 : decode prog_20_method_11_code 28 = .ok (.getfield 20, 3) := by decide +kernel
theorem d11_31 : decode prog_20_method_11_code 31 = .ok (.iload_n 1, 1) := by decide +kernel
theorem d11_32 : decode prog_20_method_11_code 32 = .ok (.iload_n 3, 1) := by decide +kernel
theorem d11_33 : decode prog_20_method_11_code 33 = .ok (.iastore, 1) := by decide +kernel
theorem d11_34 : decode prog_20_method_11_code 34 = .ok (.return_, 1) := by decide +kernel
theorem own_ef11 (m : MethodId) (p0 : Addr) (p1 : Int32) (p2 : Int32) (p3 : Int32) : entryFrame m #[(.ref p0), (.int p1), (.int p2), (.int p3)] 4 = mkF m 0 #[.val (.ref p0), .val (.int p1), .val (.int p2), .val (.int p3)] [] := by first | (simp [entryFrame, mkF, argsToLocals, Value.category]; done) | rfl
theorem own_pn11 : plainName "com/example/slabwarden/slabwarden/chunk/FreeRuns" = true := by first | (simp [plainName, overriddenIn]; done) | decide +kernel
set_option maxRecDepth 65536 in
set_option maxHeartbeats 40000000 in
theorem rm11 (l : Launch) (Z : State) (a0 : Array Value) (hw : ∀ d ∈ tables_1, d.before a0 Z = true) (ws : List Jvm.Cond) (p0 : Addr) (p1 : Int32) (p2 : Int32) (p3 : Int32) (la ea lf rt : Addr) (ln : List Nat) (S : own_S) (a : Nat) (r : Bool) (n : Nat) (h0 : Heap) (n0 : Nat) (h1 : p1 = own_i a) (h2 : p2 = own_b r) (h3 : p3 = own_i n) (ha0 : a ≤ 20) (hT : own_T Z h0 p0 la ea lf rt ln S) (hD : own_D n0 p0 la ea lf rt) :
    MetFree l (⟨"com/example/slabwarden/slabwarden/chunk/FreeRuns", "hang", "(IZI)V"⟩ : MethodName) (head1 (Jvm.Cond.code (⟨"com/example/slabwarden/slabwarden/chunk/FreeRuns", "hang", "(IZI)V"⟩ : MethodName) prog_20_method_11_code 4 none :: ws) ({ frames := 0, cells := 0, slots := 0, locals := 0 } : Room)) (fun a U => a = #[(.ref p0), (.int p1), (.int p2), (.int p3)] ∧ Z.Warmed39 U.vm ∧ U.heap = h0) (fun _ _ _ _ _ => True) (fun _ U o U' => ∃ v L, o = .returned v ∧ own_Qh Z p0 la ea lf rt ln (own_hang a r n S) h0 n0 v U'.heap L ∧ FrameEnd U o U' L ({ frames := 0, cells := 0, slots := 0, locals := 0 } : Room).cells ({ frames := 0, cells := 0, slots := 0, locals := 0 } : Room).slots) := by
  refine own_contract (plainFor_of_name own_pn11) (fun m => own_ef11 m p0 p1 p2 p3) ?_
  intro p e s m below meth c s₁ G hx hby hml0 hown0 hnm hret hZ X0 e0 hp hR
  have hml : c.maxLocals = 4 := hml0
  have hown : s.vm.findClass "com/example/slabwarden/slabwarden/chunk/FreeRuns" = some m.cls := hown0
  have N0 := Fr.nil n0
  show G s₁ (mkF m 0 #[.val (.ref p0), .val (.int p1), .val (.int p2), .val (.int p3)] [])
  have K0 : Keep h0 h0 [p0, lf, rt] := Keep.refl _ _
  subst h1 h2 h3
  obtain ⟨Et1, Frt1, Flt1, Fet1, Fat1, Fbt1, Vlt1, ⟨fet1, Vet1⟩, Vat1, Vbt1, hlt1, hat1, hbt1⟩ := hT
  obtain ⟨g_o, g_la, g_ea, g_lf, g_rt, n_o_la, n_o_ea, n_o_lf, n_o_rt, n_la_ea, n_la_lf, n_la_rt, n_ea_lf, n_ea_rt, n_lf_rt⟩ := id hD
  show G s₁ (mkF m 0 #[.val (.ref p0), .val (.int (own_i a)), .val (.int (own_b r)), .val (.int (own_i n))] [])
  refine hp (fun tq kq => XS.iloadN X0.here hx rfl (hb hby d11_0) rfl kq) ?_
  show G s₁ (mkF m 1 #[.val (.ref p0), .val (.int (own_i a)), .val (.int (own_b r)), .val (.int (own_i n))] [(.int (own_i a))])
  refine hp (fun tq kq => XS.iconst X0.here hx rfl (hb hby d11_1) kq) ?_
  show G s₁ (mkF m 2 #[.val (.ref p0), .val (.int (own_i a)), .val (.int (own_b r)), .val (.int (own_i n))] [(.int (-1 : Int32)), (.int (own_i a))])
  by_cases hb2 : (own_i a) = (-1 : Int32)
  · refine hp (fun tq kq => XS.icmpNo X0.here hx rfl (hb hby d11_2) rfl (teq hb2).2 kq) ?_
    show G s₁ (mkF m 5 #[.val (.ref p0), .val (.int (own_i a)), .val (.int (own_b r)), .val (.int (own_i n))] [])
    refine hp (fun tq kq => XS.aloadN X0.here hx rfl (hb hby d11_5) rfl rfl kq) ?_
    show G s₁ (mkF m 6 #[.val (.ref p0), .val (.int (own_i a)), .val (.int (own_b r)), .val (.int (own_i n))] [(.ref p0)])
    refine hp (fun tq kq => XS.iloadN X0.here hx rfl (hb hby d11_6) rfl kq) ?_
    show G s₁ (mkF m 7 #[.val (.ref p0), .val (.int (own_i a)), .val (.int (own_b r)), .val (.int (own_i n))] [(.int (own_i n)), (.ref p0)])
    obtain ⟨T3, h3, X3, e3, W3, st3⟩ := putF X0 hx hZ hown (host := "") (Or.inl (hw _ (List.mem_of_getElem? (i := 9) rfl))) Via.refl e0 Frt1 Et1 (Or.inl (hw _ (List.mem_of_getElem? (i := 10) rfl))) (hw _ (List.mem_of_getElem? (i := 1) rfl)) (ty := .int) (by decide) rfl rfl (g := (mkF m 7 #[.val (.ref p0), .val (.int (own_i a)), .val (.int (own_b r)), .val (.int (own_i n))] [(.int (own_i n)), (.ref p0)])) rfl rfl (hb hby d11_7)
    have F3_root_p0 := Fld.same W3 Frt1
    have V3_la := Vlt1.other W3 (Ne.symm n_o_la)
    have V3_ea := Vet1.other W3 (Ne.symm n_o_ea)
    have V3_lf := Vat1.other W3 (Ne.symm n_o_lf)
    have V3_rt := Vbt1.other W3 (Ne.symm n_o_rt)
    have E3_p0 := Exa.wr W3 Et1
    have F3_lengthOfRunFirstAt_p0 := Fld.other W3 Flt1 (Or.inr (slot_ne (Or.inr (hw _ (List.mem_of_getElem? (i := 13) rfl))) (Or.inl (hw _ (List.mem_of_getElem? (i := 10) rfl))) (by decide) (t := (.array .int)) (t' := .int) (by decide) (by decide)))
    have F3_firstPlusOneOfRunEndingAt_p0 := Fld.other W3 Fet1 (Or.inr (slot_ne (Or.inr (hw _ (List.mem_of_getElem? (i := 15) rfl))) (Or.inl (hw _ (List.mem_of_getElem? (i := 10) rfl))) (by decide) (t := (.array .int)) (t' := .int) (by decide) (by decide)))
    have F3_left_p0 := Fld.other W3 Fat1 (Or.inr (slot_ne (Or.inr (hw _ (List.mem_of_getElem? (i := 17) rfl))) (Or.inl (hw _ (List.mem_of_getElem? (i := 10) rfl))) (by decide) (t := (.array .int)) (t' := .int) (by decide) (by decide)))
    have F3_right_p0 := Fld.other W3 Fbt1 (Or.inr (slot_ne (Or.inr (hw _ (List.mem_of_getElem? (i := 19) rfl))) (Or.inl (hw _ (List.mem_of_getElem? (i := 10) rfl))) (by decide) (t := (.array .int)) (t' := .int) (by decide) (by decide)))
    have K3 := K0.wr W3 (Or.inl (by simp))
    have N3 := Fr.snoc X3 N0 g_o
    refine hp st3 ?_
    show G T3 (mkF m 10 #[.val (.ref p0), .val (.int (own_i a)), .val (.int (own_b r)), .val (.int (own_i n))] [])
    refine hp (fun tq kq => XS.goto X3.here hx rfl (pc0 := 10) (pc' := 34) rfl (hb hby d11_10) (by decide) (by decide) kq) ?_
    show G T3 (mkF m 34 #[.val (.ref p0), .val (.int (own_i a)), .val (.int (own_b r)), .val (.int (own_i n))] [])
    exact hR X3 (fun fs hl => X3.returnOut hx hret (hb hby d11_34) hl) (fun _ => rfl) (by rw [e3]; exact ⟨rfl, N3, K3, by rw [own_hang_root a r n S (own_i20 ha0 hb2)]; exact ⟨E3_p0, F3_root_p0, F3_lengthOfRunFirstAt_p0, F3_firstPlusOneOfRunEndingAt_p0, F3_left_p0, F3_right_p0, V3_la, ⟨_, V3_ea⟩, V3_lf, V3_rt, hlt1, hat1, hbt1⟩⟩) (by decide) (by decide)
  · refine hp (fun tq kq => XS.icmpYes X0.here hx rfl (pc0 := 2) (pc' := 13) rfl (hb hby d11_2) rfl (feq hb2).2 (by decide) (by decide) kq) ?_
    show G s₁ (mkF m 13 #[.val (.ref p0), .val (.int (own_i a)), .val (.int (own_b r)), .val (.int (own_i n))] [])
    refine hp (fun tq kq => XS.iloadN X0.here hx rfl (hb hby d11_13) rfl kq) ?_
    show G s₁ (mkF m 14 #[.val (.ref p0), .val (.int (own_i a)), .val (.int (own_b r)), .val (.int (own_i n))] [(.int (own_b r))])
    by_cases hb4 : (own_b r) = (0 : Int32)
    · refine hp (fun tq kq => XS.ifYes X0.here hx rfl (pc0 := 14) (pc' := 27) rfl (hb hby d11_14) rfl ((if0 _ _).trans (teq hb4).1) (by decide) (by decide) kq) ?_
      show G s₁ (mkF m 27 #[.val (.ref p0), .val (.int (own_i a)), .val (.int (own_b r)), .val (.int (own_i n))] [])
      refine hp (fun tq kq => XS.aloadN X0.here hx rfl (hb hby d11_27) rfl rfl kq) ?_
      show G s₁ (mkF m 28 #[.val (.ref p0), .val (.int (own_i a)), .val (.int (own_b r)), .val (.int (own_i n))] [(.ref p0)])
      obtain ⟨T5, X5, e5, st5⟩ := getF X0 hx hZ hown (host := "") (Or.inl (hw _ (List.mem_of_getElem? (i := 16) rfl))) Via.refl e0 Fat1 (g := (mkF m 28 #[.val (.ref p0), .val (.int (own_i a)), .val (.int (own_b r)), .val (.int (own_i n))] [(.ref p0)])) rfl rfl (hb hby d11_28)
      refine hp st5 ?_
      show G T5 (mkF m 31 #[.val (.ref p0), .val (.int (own_i a)), .val (.int (own_b r)), .val (.int (own_i n))] [(.ref lf)])
      refine hp (fun tq kq => XS.iloadN X5.here hx rfl (hb hby d11_31) rfl kq) ?_
      show G T5 (mkF m 32 #[.val (.ref p0), .val (.int (own_i a)), .val (.int (own_b r)), .val (.int (own_i n))] [(.int (own_i a)), (.ref lf)])
      refine hp (fun tq kq => XS.iloadN X5.here hx rfl (hb hby d11_32) rfl kq) ?_
      show G T5 (mkF m 33 #[.val (.ref p0), .val (.int (own_i a)), .val (.int (own_b r)), .val (.int (own_i n))] [(.int (own_i n)), (.int (own_i a)), (.ref lf)])
      obtain ⟨T6, h6, X6, e6, W6, V6_lf, st6⟩ := own_stI X5 hx hZ e5 Vat1 (j := (own_i a)) a (own_ii (own_i20n ha0 hb2)).1 (own_ii (own_i20n ha0 hb2)).2 (own_i20n ha0 hb2) (g := (mkF m 33 #[.val (.ref p0), .val (.int (own_i a)), .val (.int (own_b r)), .val (.int (own_i n))] [(.int (own_i n)), (.int (own_i a)), (.ref lf)])) rfl rfl (hb hby d11_33)
      have V6_la := Vlt1.other W6 n_la_lf
      have V6_ea := Vet1.other W6 n_ea_lf
      have V6_rt := Vbt1.other W6 (Ne.symm n_lf_rt)
      have E6_p0 := Exa.wr W6 Et1
      have F6_root_p0 := Fld.other W6 Frt1 (Or.inl n_o_lf)
      have F6_lengthOfRunFirstAt_p0 := Fld.other W6 Flt1 (Or.inl n_o_lf)
      have F6_firstPlusOneOfRunEndingAt_p0 := Fld.other W6 Fet1 (Or.inl n_o_lf)
      have F6_left_p0 := Fld.other W6 Fat1 (Or.inl n_o_lf)
      have F6_right_p0 := Fld.other W6 Fbt1 (Or.inl n_o_lf)
      have K6 := K0.wr W6 (Or.inl (by simp))
      have N6 := Fr.snoc X6 N0 g_lf
      refine hp st6 ?_
      show G T6 (mkF m 34 #[.val (.ref p0), .val (.int (own_i a)), .val (.int (own_b r)), .val (.int (own_i n))] [])
      exact hR X6 (fun fs hl => X6.returnOut hx hret (hb hby d11_34) hl) (fun _ => rfl) (by rw [e6]; exact ⟨rfl, N6, K6, by rw [own_hang_l a r n S (fun z => hb2 (by rw [z]; rfl)) (own_b0 hb4)]; exact ⟨E6_p0, F6_root_p0, F6_lengthOfRunFirstAt_p0, F6_firstPlusOneOfRunEndingAt_p0, F6_left_p0, F6_right_p0, V6_la, ⟨_, V6_ea⟩, V6_lf.cong (own_arr_set hat1 (own_i20n ha0 hb2) n), V6_rt, hlt1, (by rw [List.length_set]; exact hat1), hbt1⟩⟩) (by decide) (by decide)
    · refine hp (fun tq kq => XS.ifNo X0.here hx rfl (hb hby d11_14) rfl ((if0 _ _).trans (feq hb4).1) kq) ?_
      show G s₁ (mkF m 17 #[.val (.ref p0), .val (.int (own_i a)), .val (.int (own_b r)), .val (.int (own_i n))] [])
      refine hp (fun tq kq => XS.aloadN X0.here hx rfl (hb hby d11_17) rfl rfl kq) ?_
      show G s₁ (mkF m 18 #[.val (.ref p0), .val (.int (own_i a)), .val (.int (own_b r)), .val (.int (own_i n))] [(.ref p0)])
      obtain ⟨T7, X7, e7, st7⟩ := getF X0 hx hZ hown (host := "") (Or.inl (hw _ (List.mem_of_getElem? (i := 18) rfl))) Via.refl e0 Fbt1 (g := (mkF m 18 #[.val (.ref p0), .val (.int (own_i a)), .val (.int (own_b r)), .val (.int (own_i n))] [(.ref p0)])) rfl rfl (hb hby d11_18)
      refine hp st7 ?_
      show G T7 (mkF m 21 #[.val (.ref p0), .val (.int (own_i a)), .val (.int (own_b r)), .val (.int (own_i n))] [(.ref rt)])
      refine hp (fun tq kq => XS.iloadN X7.here hx rfl (hb hby d11_21) rfl kq) ?_
      show G T7 (mkF m 22 #[.val (.ref p0), .val (.int (own_i a)), .val (.int (own_b r)), .val (.int (own_i n))] [(.int (own_i a)), (.ref rt)])
      refine hp (fun tq kq => XS.iloadN X7.here hx rfl (hb hby d11_22) rfl kq) ?_
      show G T7 (mkF m 23 #[.val (.ref p0), .val (.int (own_i a)), .val (.int (own_b r)), .val (.int (own_i n))] [(.int (own_i n)), (.int (own_i a)), (.ref rt)])
      obtain ⟨T8, h8, X8, e8, W8, V8_rt, st8⟩ := own_stI X7 hx hZ e7 Vbt1 (j := (own_i a)) a (own_ii (own_i20n ha0 hb2)).1 (own_ii (own_i20n ha0 hb2)).2 (own_i20n ha0 hb2) (g := (mkF m 23 #[.val (.ref p0), .val (.int (own_i a)), .val (.int (own_b r)), .val (.int (own_i n))] [(.int (own_i n)), (.int (own_i a)), (.ref rt)])) rfl rfl (hb hby d11_23)
      have V8_la := Vlt1.other W8 n_la_rt
      have V8_ea := Vet1.other W8 n_ea_rt
      have V8_lf := Vat1.other W8 n_lf_rt
      have E8_p0 := Exa.wr W8 Et1
      have F8_root_p0 := Fld.other W8 Frt1 (Or.inl n_o_rt)
      have F8_lengthOfRunFirstAt_p0 := Fld.other W8 Flt1 (Or.inl n_o_rt)
      have F8_firstPlusOneOfRunEndingAt_p0 := Fld.other W8 Fet1 (Or.inl n_o_rt)
      have F8_left_p0 := Fld.other W8 Fat1 (Or.inl n_o_rt)
      have F8_right_p0 := Fld.other W8 Fbt1 (Or.inl n_o_rt)
      have K8 := K0.wr W8 (Or.inl (by simp))
      have N8 := Fr.snoc X8 N0 g_rt
      refine hp st8 ?_
      show G T8 (mkF m 24 #[.val (.ref p0), .val (.int (own_i a)), .val (.int (own_b r)), .val (.int (own_i n))] [])
      refine hp (fun tq kq => XS.goto X8.here hx rfl (pc0 := 24) (pc' := 34) rfl (hb hby d11_24) (by decide) (by decide) kq) ?_
      show G T8 (mkF m 34 #[.val (.ref p0), .val (.int (own_i a)), .val (.int (own_b r)), .val (.int (own_i n))] [])
      exact hR X8 (fun fs hl => X8.returnOut hx hret (hb hby d11_34) hl) (fun _ => rfl) (by rw [e8]; exact ⟨rfl, N8, K8, by rw [own_hang_r a r n S (fun z => hb2 (by rw [z]; rfl)) (own_b1 hb4)]; exact ⟨E8_p0, F8_root_p0, F8_lengthOfRunFirstAt_p0, F8_firstPlusOneOfRunEndingAt_p0, F8_left_p0, F8_right_p0, V8_la, ⟨_, V8_ea⟩, V8_lf, V8_rt.cong (own_arr_set hbt1 (own_i20n ha0 hb2) n), hlt1, hat1, (by rw [List.length_set]; exact hbt1)⟩⟩) (by decide) (by decide)
theorem d10_0 : decode prog_20_method_9_code 0 = .ok (.iload 4, 2) := by decide +kernel
theorem d10_2 : decode prog_20_method_9_code 2 = .ok (.istore 5, 2) := by decide +kernel
theorem d10_4 : decode prog_20_method_9_code 4 = .ok (.iconst 0, 1) := by decide +kernel
theorem d10_5 : decode prog_20_method_9_code 5 = .ok (.istore 6, 2) := by decide +kernel
theorem d10_7 : decode prog_20_method_9_code 7 = .ok (.iload 4, 2) := by decide +kernel
theorem d10_9 : decode prog_20_method_9_code 9 = .ok (.istore 7, 2) := by decide +kernel
theorem d10_11 : decode prog_20_method_9_code 11 = .ok (.iconst 1, 1) := by decide +kernel
theorem d10_12 : decode prog_20_method_9_code 12 = .ok (.istore 8, 2) := by decide +kernel
theorem d10_14 : decode prog_20_method_9_code 14 = .ok (.iload_n 1, 1) := by decide +kernel
theorem d10_15 : decode prog_20_method_9_code 15 = .ok (.iconst (-1), 1) := by decide +kernel
theorem d10_16 : decode prog_20_method_9_code 16 = .ok (.if_icmp .eq 63, 3) := by decide +kernel
theorem d10_19 : decode prog_20_method_9_code 19 = .ok (.aload_n 0, 1) := by decide +kernel
theorem d10_20 : decode prog_20_method_9_code 20 = .ok (.iload_n 1, 1) := by decide +kernel
theorem d10_21 : decode prog_20_method_9_code 21 = .ok (.invokevirtual 30, 3) := by decide +kernel
theorem d10_24 : decode prog_20_method_9_code 24 = .ok (.lload_n 2, 1) := by decide +kernel
theorem d10_25 : decode prog_20_method_9_code 25 = .ok (.lcmp, 1) := by decide +kernel
theorem d10_26 : decode prog_20_method_9_code 26 = .ok (.ifCond .ge 28, 3) := by decide +kernel
theorem d10_29 : decode prog_20_method_9_code 29 = .ok (.aload_n 0, 1) := by decide +kernel
theorem d10_30 : decode prog_20_method_9_code 30 = .ok (.iload 5, 2) := by decide +kernel
theorem d10_32 : decode prog_20_method_9_code 32 = .ok (.iload 6, 2) := by decide +kernel
theorem d10_34 : decode prog_20_method_9_code 34 = .ok (.iload_n 1, 1) := by decide +kernel
theorem d10_35 : decode prog_20_method_9_code 35 = .ok (.invokevirtual 48, 3) := by decide +kernel
theorem d10_38 : decode prog_20_method_9_code 38 = .ok (.iload_n 1, 1) := by decide +kernel
theorem d10_39 : decode prog_20_method_9_code 39 = .ok (.istore 5, 2) := by decide +kernel
theorem d10_41 : decode prog_20_method_9_code 41 = .ok (.iconst 1, 1) := by decide +kernel
theorem d10_42 : decode prog_20_method_9_code 42 = .ok (.istore 6, 2) := by decide +kernel
theorem d10_44 : decode prog_20_method_9_code 44 = .ok (.aload_n 0, 1) := by decide +kernel
theorem d10_45 : decode prog_20_method_9_code 45 = .ok (.getfield 23, 3) := by decide +kernel
theorem d10_48 : decode prog_20_method_9_code 48 = .ok (.iload_n 1, 1) := by decide +kernel
theorem d10_49 : decode prog_20_method_9_code 49 = .ok (.iaload, 1) := by decide +kernel
theorem d10_50 : decode prog_20_method_9_code 50 = .ok (.istore_n 1, 1) := by decide +kernel
theorem d10_51 : decode prog_20_method_9_code 51 = .ok (.goto (-37), 3) := by decide +kernel
theorem d10_54 : decode prog_20_method_9_code 54 = .ok (.aload_n 0, 1) := by decide +kernel
theorem d10_55 : decode prog_20_method_9_code 55 = .ok (.iload 7, 2) := by decide +kernel
theorem d10_57 : decode prog_20_method_9_code 57 = .ok (.iload 8, 2) := by decide +kernel
theorem d10_59 : decode prog_20_method_9_code 59 = .ok (.iload_n 1, 1) := by decide +kernel
theorem d10_60 : decode prog_20_method_9_code 60 = .ok (.invokevirtual 48, 3) := by decide +kernel
theorem d10_63 : decode prog_20_method_9_code 63 = .ok (.iload_n 1, 1) := by decide +kernel
theorem d10_64 : decode prog_20_method_9_code 64 = .ok (.istore 7, 2) := by decide +kernel
theorem d10_66 : decode prog_20_method_9_code 66 = .ok (.iconst 0, 1) := by decide +kernel
theorem d10_67 : decode prog_20_method_9_code 67 = .ok (.istore 8, 2) := by decide +kernel
theorem d10_69 : decode prog_20_method_9_code 69 = .ok (.aload_n 0, 1) := by decide +kernel
theorem d10_70 : decode prog_20_method_9_code 70 = .ok (.getfield 20, 3) := by decide +kernel
theorem d10_73 : decode prog_20_method_9_code 73 = .ok (.iload_n 1, 1) := by decide +kernel
theorem d10_74 : decode prog_20_method_9_code 74 = .ok (.iaload, 1) := by decide +kernel
theorem d10_75 : decode prog_20_method_9_code 75 = .ok (.istore_n 1, 1) := by decide +kernel
theorem d10_76 : decode prog_20_method_9_code 76 = .ok (.goto (-62), 3) := by decide +kernel
theorem d10_79 : decode prog_20_method_9_code 79 = .ok (.aload_n 0, 1) := by decide +kernel
theorem d10_80 : decode prog_20_method_9_code 80 = .ok (.iload 5, 2) := by decide +kernel
theorem d10_82 : decode prog_20_method_9_code 82 = .ok (.iload 6, 2) := by decide +kernel
theorem d10_84 : decode prog_20_method_9_code 84 = .ok (.iconst (-1), 1) := by decide +kernel
theorem d10_85 : decode prog_20_method_9_code 85 = .ok (.invokevirtual 48, 3) := by decide +kernel
theorem d10_88 : decode prog_20_method_9_code 88 = .ok (.aload_n 0, 1) := by decide +kernel
theorem d10_89 : decode prog_20_method_9_code 89 = .ok (.iload 7, 2) := by decide +kernel
theorem d10_91 : decode prog_20_method_9_code 91 = .ok (.iload 8, 2) := by decide +kernel
theorem d10_93 : decode prog_20_method_9_code 93 = .ok (.iconst (-1), 1) := by decide +kernel
theorem d10_94 : decode prog_20_method_9_code 94 = .ok (.invokevirtual 48, 3) := by decide +kernel
theorem d10_97 : decode prog_20_method_9_code 97 = .ok (.return_, 1) := by decide +kernel
theorem own_ef10 (m : MethodId) (p0 : Addr) (p1 : Int32) (p2 : Int64) (p3 : Int32) : entryFrame m #[(.ref p0), (.int p1), (.long p2), (.int p3)] 9 = mkF m 0 #[.val (.ref p0), .val (.int p1), .val (.long p2), .second, .val (.int p3), .unset, .unset, .unset, .unset] [] := by first | (simp [entryFrame, mkF, argsToLocals, Value.category]; done) | rfl
theorem own_pn10 : plainName "com/example/slabwarden/slabwarden/chunk/FreeRuns" = true := by first | (simp [plainName, overriddenIn]; done) | decide +kernel
set_option maxRecDepth 65536 in
set_option maxHeartbeats 40000000 in
theorem rm10 (l : Launch) (Z : State) (a0 : Array Value) (hw : ∀ d ∈ tables_1, d.before a0 Z = true) (ws : List Jvm.Cond) (p0 : Addr) (p1 : Int32) (p2 : Int64) (p3 : Int32) (la ea lf rt : Addr) (ln : List Nat) (S : own_S) (nd pp fu : Nat) (S' : own_S) (h0 : Heap) (n0 : Nat) (h1 : p1 = own_i nd) (h2 : p2 = own_key2 ((own_lnf ln) pp) (own_i pp)) (h3 : p3 = own_i pp) (hpp : pp < 20) (hln : own_small ln) (hT : own_T Z h0 p0 la ea lf rt ln S) (hD : own_D n0 p0 la ea lf rt) (hm : own_split ln pp fu nd pp false pp true S = some S') :
    MetFree l (⟨"com/example/slabwarden/slabwarden/chunk/FreeRuns", "split", "(IJI)V"⟩ : MethodName) (head1 (Jvm.Cond.code (⟨"com/example/slabwarden/slabwarden/chunk/FreeRuns", "split", "(IJI)V"⟩ : MethodName) prog_20_method_9_code 9 none :: ws) ({ frames := 2, cells := 0, slots := 0, locals := 26 } : Room)) (fun a U => a = #[(.ref p0), (.int p1), (.long p2), (.int p3)] ∧ Z.Warmed39 U.vm ∧ U.heap = h0) (fun _ _ _ _ _ => True) (fun _ U o U' => ∃ v L, o = .returned v ∧ own_Qh Z p0 la ea lf rt ln S' h0 n0 v U'.heap L ∧ FrameEnd U o U' L ({ frames := 2, cells := 0, slots := 0, locals := 26 } : Room).cells ({ frames := 2, cells := 0, slots := 0, locals := 26 } : Room).slots) := by
  refine own_contract (plainFor_of_name own_pn10) (fun m => own_ef10 m p0 p1 p2 p3) ?_
  intro p e s m below meth c s₁ G hx hby hml0 hown0 hnm hret hZ X0 e0 hp hR
  have hml : c.maxLocals = 9 := hml0
  have hown : s.vm.findClass "com/example/slabwarden/slabwarden/chunk/FreeRuns" = some m.cls := hown0
  have N0 := Fr.nil n0
  show G s₁ (mkF m 0 #[.val (.ref p0), .val (.int p1), .val (.long p2), .second, .val (.int p3), .unset, .unset, .unset, .unset] [])
  have K0 : Keep h0 h0 [p0, lf, rt] := Keep.refl _ _
  subst h1 h2 h3
  obtain ⟨g_o, g_la, g_ea, g_lf, g_rt, n_o_la, n_o_ea, n_o_lf, n_o_rt, n_la_ea, n_la_lf, n_la_rt, n_ea_lf, n_ea_rt, n_lf_rt⟩ := id hD
  show G s₁ (mkF m 0 #[.val (.ref p0), .val (.int (own_i nd)), .val (.long (own_key2 ((own_lnf ln) pp) (own_i pp))), .second, .val (.int (own_i pp)), .unset, .unset, .unset, .unset] [])
  refine hp (fun tq kq => XS.iload X0.here hx rfl (hb hby d10_0) rfl kq) ?_
  show G s₁ (mkF m 2 #[.val (.ref p0), .val (.int (own_i nd)), .val (.long (own_key2 ((own_lnf ln) pp) (own_i pp))), .second, .val (.int (own_i pp)), .unset, .unset, .unset, .unset] [(.int (own_i pp))])
  refine hp (fun tq kq => XS.istore X0.here hx rfl (hb hby d10_2) rfl (l' := #[.val (.ref p0), .val (.int (own_i nd)), .val (.long (own_key2 ((own_lnf ln) pp) (own_i pp))), .second, .val (.int (own_i pp)), .val (.int (own_i pp)), .unset, .unset, .unset]) rfl kq) ?_
  show G s₁ (mkF m 4 #[.val (.ref p0), .val (.int (own_i nd)), .val (.long (own_key2 ((own_lnf ln) pp) (own_i pp))), .second, .val (.int (own_i pp)), .val (.int (own_i pp)), .unset, .unset, .unset] [])
  refine hp (fun tq kq => XS.iconst X0.here hx rfl (hb hby d10_4) kq) ?_
  show G s₁ (mkF m 5 #[.val (.ref p0), .val (.int (own_i nd)), .val (.long (own_key2 ((own_lnf ln) pp) (own_i pp))), .second, .val (.int (own_i pp)), .val (.int (own_i pp)), .unset, .unset, .unset] [(.int (0 : Int32))])
  refine hp (fun tq kq => XS.istore X0.here hx rfl (hb hby d10_5) rfl (l' := #[.val (.ref p0), .val (.int (own_i nd)), .val (.long (own_key2 ((own_lnf ln) pp) (own_i pp))), .second, .val (.int (own_i pp)), .val (.int (own_i pp)), .val (.int (0 : Int32)), .unset, .unset]) rfl kq) ?_
  show G s₁ (mkF m 7 #[.val (.ref p0), .val (.int (own_i nd)), .val (.long (own_key2 ((own_lnf ln) pp) (own_i pp))), .second, .val (.int (own_i pp)), .val (.int (own_i pp)), .val (.int (0 : Int32)), .unset, .unset] [])
  refine hp (fun tq kq => XS.iload X0.here hx rfl (hb hby d10_7) rfl kq) ?_
  show G s₁ (mkF m 9 #[.val (.ref p0), .val (.int (own_i nd)), .val (.long (own_key2 ((own_lnf ln) pp) (own_i pp))), .second, .val (.int (own_i pp)), .val (.int (own_i pp)), .val (.int (0 : Int32)), .unset, .unset] [(.int (own_i pp))])
  refine hp (fun tq kq => XS.istore X0.here hx rfl (hb hby d10_9) rfl (l' := #[.val (.ref p0), .val (.int (own_i nd)), .val (.long (own_key2 ((own_lnf ln) pp) (own_i pp))), .second, .val (.int (own_i pp)), .val (.int (own_i pp)), .val (.int (0 : Int32)), .val (.int (own_i pp)), .unset]) rfl kq) ?_
  show G s₁ (mkF m 11 #[.val (.ref p0), .val (.int (own_i nd)), .val (.long (own_key2 ((own_lnf ln) pp) (own_i pp))), .second, .val (.int (own_i pp)), .val (.int (own_i pp)), .val (.int (0 : Int32)), .val (.int (own_i pp)), .unset] [])
  refine hp (fun tq kq => XS.iconst X0.here hx rfl (hb hby d10_11) kq) ?_
  show G s₁ (mkF m 12 #[.val (.ref p0), .val (.int (own_i nd)), .val (.long (own_key2 ((own_lnf ln) pp) (own_i pp))), .second, .val (.int (own_i pp)), .val (.int (own_i pp)), .val (.int (0 : Int32)), .val (.int (own_i pp)), .unset] [(.int (1 : Int32))])
  refine hp (fun tq kq => XS.istore X0.here hx rfl (hb hby d10_12) rfl (l' := #[.val (.ref p0), .val (.int (own_i nd)), .val (.long (own_key2 ((own_lnf ln) pp) (own_i pp))), .second, .val (.int (own_i pp)), .val (.int (own_i pp)), .val (.int (0 : Int32)), .val (.int (own_i pp)), .val (.int (1 : Int32))]) rfl kq) ?_
  show G s₁ (mkF m 14 #[.val (.ref p0), .val (.int (own_i nd)), .val (.long (own_key2 ((own_lnf ln) pp) (own_i pp))), .second, .val (.int (own_i pp)), .val (.int (own_i pp)), .val (.int (0 : Int32)), .val (.int (own_i pp)), .val (.int (1 : Int32))] [])
  have loop : ∀ (fu9 nd9 a9 : Nat) (ar9 : Bool) (b9 : Nat) (br9 : Bool) (S9 : own_S) (T9w : State) (locs9w : List Loc) (c9w s9w : Nat) (h9w : Heap), Stand p l e ({ frames := 2, cells := 0, slots := 0, locals := 26 } : Room) s m #[(.ref p0), (.int (own_i nd)), (.long (own_key2 ((own_lnf ln) pp) (own_i pp))), (.int (own_i pp))] below meth c T9w locs9w c9w s9w → T9w.heap = h9w → Keep h0 h9w [p0, lf, rt] → Fr n0 locs9w → c9w ≤ 0 → s9w ≤ 0 → a9 < 20 → b9 < 20 → own_T Z h9w p0 la ea lf rt ln S9 → own_split ln pp fu9 nd9 a9 ar9 b9 br9 S9 = some S' → G T9w (mkF m 14 #[.val (.ref p0), .val (.int (own_i nd9)), .val (.long (own_key2 ((own_lnf ln) pp) (own_i pp))), .second, .val (.int (own_i pp)), .val (.int (own_i a9)), .val (.int (own_b ar9)), .val (.int (own_i b9)), .val (.int (own_b br9))] []) := by
    intro fu9
    induction fu9 with
    | zero => intro nd9 a9 ar9 b9 br9 S9 T9w locs9w c9w s9w h9w X9w e9w K9w N9w hc9w hs9w ha9 hb9 hT9 hm; exact nomatch hm
    | succ fu9 ih =>
      intro nd9 a9 ar9 b9 br9 S9 T9w locs9w c9w s9w h9w X9w e9w K9w N9w hc9w hs9w ha9 hb9 hT9 hm
      obtain ⟨Et1, Frt1, Flt1, Fet1, Fat1, Fbt1, Vlt1, ⟨fet1, Vet1⟩, Vat1, Vbt1, hlt1, hat1, hbt1⟩ := hT9
      by_cases hnd : nd9 = 20
      · subst hnd
        show G T9w (mkF m 14 #[.val (.ref p0), .val (.int (own_i 20)), .val (.long (own_key2 ((own_lnf ln) pp) (own_i pp))), .second, .val (.int (own_i pp)), .val (.int (own_i a9)), .val (.int (own_b ar9)), .val (.int (own_i b9)), .val (.int (own_b br9))] [])
        refine hp (fun tq kq => XS.iloadN X9w.here hx rfl (hb hby d10_14) rfl kq) ?_
        show G T9w (mkF m 15 #[.val (.ref p0), .val (.int (own_i 20)), .val (.long (own_key2 ((own_lnf ln) pp) (own_i pp))), .second, .val (.int (own_i pp)), .val (.int (own_i a9)), .val (.int (own_b ar9)), .val (.int (own_i b9)), .val (.int (own_b br9))] [(.int (own_i 20))])
        refine hp (fun tq kq => XS.iconst X9w.here hx rfl (hb hby d10_15) kq) ?_
        show G T9w (mkF m 16 #[.val (.ref p0), .val (.int (own_i 20)), .val (.long (own_key2 ((own_lnf ln) pp) (own_i pp))), .second, .val (.int (own_i pp)), .val (.int (own_i a9)), .val (.int (own_b ar9)), .val (.int (own_i b9)), .val (.int (own_b br9))] [(.int (-1 : Int32)), (.int (own_i 20))])
        refine hp (fun tq kq => XS.icmpYes X9w.here hx rfl (pc0 := 16) (pc' := 79) rfl (hb hby d10_16) rfl (teq rfl).1 (by decide) (by decide) kq) ?_
        show G T9w (mkF m 79 #[.val (.ref p0), .val (.int (own_i 20)), .val (.long (own_key2 ((own_lnf ln) pp) (own_i pp))), .second, .val (.int (own_i pp)), .val (.int (own_i a9)), .val (.int (own_b ar9)), .val (.int (own_i b9)), .val (.int (own_b br9))] [])
        refine hp (fun tq kq => XS.aloadN X9w.here hx rfl (hb hby d10_79) rfl rfl kq) ?_
        show G T9w (mkF m 80 #[.val (.ref p0), .val (.int (own_i 20)), .val (.long (own_key2 ((own_lnf ln) pp) (own_i pp))), .second, .val (.int (own_i pp)), .val (.int (own_i a9)), .val (.int (own_b ar9)), .val (.int (own_i b9)), .val (.int (own_b br9))] [(.ref p0)])
        refine hp (fun tq kq => XS.iload X9w.here hx rfl (hb hby d10_80) rfl kq) ?_
        show G T9w (mkF m 82 #[.val (.ref p0), .val (.int (own_i 20)), .val (.long (own_key2 ((own_lnf ln) pp) (own_i pp))), .second, .val (.int (own_i pp)), .val (.int (own_i a9)), .val (.int (own_b ar9)), .val (.int (own_i b9)), .val (.int (own_b br9))] [(.int (own_i a9)), (.ref p0)])
        refine hp (fun tq kq => XS.iload X9w.here hx rfl (hb hby d10_82) rfl kq) ?_
        show G T9w (mkF m 84 #[.val (.ref p0), .val (.int (own_i 20)), .val (.long (own_key2 ((own_lnf ln) pp) (own_i pp))), .second, .val (.int (own_i pp)), .val (.int (own_i a9)), .val (.int (own_b ar9)), .val (.int (own_i b9)), .val (.int (own_b br9))] [(.int (own_b ar9)), (.int (own_i a9)), (.ref p0)])
        refine hp (fun tq kq => XS.iconst X9w.here hx rfl (hb hby d10_84) kq) ?_
        show G T9w (mkF m 85 #[.val (.ref p0), .val (.int (own_i 20)), .val (.long (own_key2 ((own_lnf ln) pp) (own_i pp))), .second, .val (.int (own_i pp)), .val (.int (own_i a9)), .val (.int (own_b ar9)), .val (.int (own_i b9)), .val (.int (own_b br9))] [(.int (-1 : Int32)), (.int (own_b ar9)), (.int (own_i a9)), (.ref p0)])
        obtain ⟨v2, T2, L2, X2, hQ2, st2⟩ := own_callP X9w hx hZ (y := (⟨"com/example/slabwarden/slabwarden/chunk/FreeRuns", "hang", "(IZI)V"⟩ : MethodName)) (z := (⟨"com/example/slabwarden/slabwarden/chunk/FreeRuns", "shortestAtLeast", "(I)I"⟩ : MethodName)) (rm := ({ frames := 0, cells := 0, slots := 0, locals := 0 } : Room)) 0 hown (hw _ (List.mem_of_getElem? (i := 23) rfl)) rfl (hw _ (List.mem_of_getElem? (i := 54) rfl)) (hw _ (List.mem_of_getElem? (i := 55) rfl)) (hw _ (List.mem_of_getElem? (i := 56) rfl)) (hw _ (List.mem_of_getElem? (i := 2) rfl)) (hw _ (List.mem_of_getElem? (i := 57) rfl)) (by decide) (rm11 l Z a0 hw [] p0 (own_i a9) (own_b ar9) (-1 : Int32) la ea lf rt ln S9 a9 ar9 20 h9w n0 rfl rfl rfl (Nat.le_of_lt ha9) ⟨Et1, Frt1, Flt1, Fet1, Fat1, Fbt1, Vlt1, ⟨_, Vet1⟩, Vat1, Vbt1, hlt1, hat1, hbt1⟩ hD) e9w Et1 (by decide) (by decide) (g := (mkF m 85 #[.val (.ref p0), .val (.int (own_i 20)), .val (.long (own_key2 ((own_lnf ln) pp) (own_i pp))), .second, .val (.int (own_i pp)), .val (.int (own_i a9)), .val (.int (own_b ar9)), .val (.int (own_i b9)), .val (.int (own_b br9))] [(.int (-1 : Int32)), (.int (own_b ar9)), (.int (own_i a9)), (.ref p0)])) rfl (by rw [hml]; rfl) [(.int (own_i a9)), (.int (own_b ar9)), (.int (-1 : Int32))] [] own_pd1 rfl rfl (by show 2 * 0 + _ ≤ _; exact Nat.le_of_eq rfl) (hb hby d10_85) rfl hc9w hs9w
        obtain ⟨rfl, N2, Kc2, hT2⟩ := hQ2
        have N2b := Fr.app N9w N2
        have K2 := K9w.trans Kc2 (allS (Or.inl (by simp)) (allS (Or.inl (by simp)) (allS (Or.inl (by simp)) all0)))
        obtain ⟨Et3, Frt3, Flt3, Fet3, Fat3, Fbt3, Vlt3, ⟨fet3, Vet3⟩, Vat3, Vbt3, hlt3, hat3, hbt3⟩ := hT2
        refine hp st2 ?_
        show G T2 (mkF m 88 #[.val (.ref p0), .val (.int (own_i 20)), .val (.long (own_key2 ((own_lnf ln) pp) (own_i pp))), .second, .val (.int (own_i pp)), .val (.int (own_i a9)), .val (.int (own_b ar9)), .val (.int (own_i b9)), .val (.int (own_b br9))] [])
        refine hp (fun tq kq => XS.aloadN X2.here hx rfl (hb hby d10_88) rfl rfl kq) ?_
        show G T2 (mkF m 89 #[.val (.ref p0), .val (.int (own_i 20)), .val (.long (own_key2 ((own_lnf ln) pp) (own_i pp))), .second, .val (.int (own_i pp)), .val (.int (own_i a9)), .val (.int (own_b ar9)), .val (.int (own_i b9)), .val (.int (own_b br9))] [(.ref p0)])
        refine hp (fun tq kq => XS.iload X2.here hx rfl (hb hby d10_89) rfl kq) ?_
        show G T2 (mkF m 91 #[.val (.ref p0), .val (.int (own_i 20)), .val (.long (own_key2 ((own_lnf ln) pp) (own_i pp))), .second, .val (.int (own_i pp)), .val (.int (own_i a9)), .val (.int (own_b ar9)), .val (.int (own_i b9)), .val (.int (own_b br9))] [(.int (own_i b9)), (.ref p0)])
        refine hp (fun tq kq => XS.iload X2.here hx rfl (hb hby d10_91) rfl kq) ?_
        show G T2 (mkF m 93 #[.val (.ref p0), .val (.int (own_i 20)), .val (.long (own_key2 ((own_lnf ln) pp) (own_i pp))), .second, .val (.int (own_i pp)), .val (.int (own_i a9)), .val (.int (own_b ar9)), .val (.int (own_i b9)), .val (.int (own_b br9))] [(.int (own_b br9)), (.int (own_i b9)), (.ref p0)])
        refine hp (fun tq kq => XS.iconst X2.here hx rfl (hb hby d10_93) kq) ?_
        show G T2 (mkF m 94 #[.val (.ref p0), .val (.int (own_i 20)), .val (.long (own_key2 ((own_lnf ln) pp) (own_i pp))), .second, .val (.int (own_i pp)), .val (.int (own_i a9)), .val (.int (own_b ar9)), .val (.int (own_i b9)), .val (.int (own_b br9))] [(.int (-1 : Int32)), (.int (own_b br9)), (.int (own_i b9)), (.ref p0)])
        obtain ⟨v4, T4, L4, X4, hQ4, st4⟩ := own_callP X2 hx hZ (y := (⟨"com/example/slabwarden/slabwarden/chunk/FreeRuns", "hang", "(IZI)V"⟩ : MethodName)) (z := (⟨"com/example/slabwarden/slabwarden/chunk/FreeRuns", "shortestAtLeast", "(I)I"⟩ : MethodName)) (rm := ({ frames := 0, cells := 0, slots := 0, locals := 0 } : Room)) 0 hown (hw _ (List.mem_of_getElem? (i := 23) rfl)) rfl (hw _ (List.mem_of_getElem? (i := 54) rfl)) (hw _ (List.mem_of_getElem? (i := 55) rfl)) (hw _ (List.mem_of_getElem? (i := 56) rfl)) (hw _ (List.mem_of_getElem? (i := 2) rfl)) (hw _ (List.mem_of_getElem? (i := 57) rfl)) (by decide) (rm11 l Z a0 hw [] p0 (own_i b9) (own_b br9) (-1 : Int32) la ea lf rt ln (own_hang a9 ar9 20 S9) b9 br9 20 T2.heap n0 rfl rfl rfl (Nat.le_of_lt hb9) ⟨Et3, Frt3, Flt3, Fet3, Fat3, Fbt3, Vlt3, ⟨_, Vet3⟩, Vat3, Vbt3, hlt3, hat3, hbt3⟩ hD) rfl Et3 (by decide) (by decide) (g := (mkF m 94 #[.val (.ref p0), .val (.int (own_i 20)), .val (.long (own_key2 ((own_lnf ln) pp) (own_i pp))), .second, .val (.int (own_i pp)), .val (.int (own_i a9)), .val (.int (own_b ar9)), .val (.int (own_i b9)), .val (.int (own_b br9))] [(.int (-1 : Int32)), (.int (own_b br9)), (.int (own_i b9)), (.ref p0)])) rfl (by rw [hml]; rfl) [(.int (own_i b9)), (.int (own_b br9)), (.int (-1 : Int32))] [] own_pd1 rfl rfl (by show 2 * 0 + _ ≤ _; exact Nat.le_of_eq rfl) (hb hby d10_94) rfl hc9w hs9w
        obtain ⟨rfl, N4, Kc4, hT4⟩ := hQ4
        have N4b := Fr.app N2b N4
        have K4 := K2.trans Kc4 (allS (Or.inl (by simp)) (allS (Or.inl (by simp)) (allS (Or.inl (by simp)) all0)))
        obtain ⟨Et5, Frt5, Flt5, Fet5, Fat5, Fbt5, Vlt5, ⟨fet5, Vet5⟩, Vat5, Vbt5, hlt5, hat5, hbt5⟩ := hT4
        refine hp st4 ?_
        show G T4 (mkF m 97 #[.val (.ref p0), .val (.int (own_i 20)), .val (.long (own_key2 ((own_lnf ln) pp) (own_i pp))), .second, .val (.int (own_i pp)), .val (.int (own_i a9)), .val (.int (own_b ar9)), .val (.int (own_i b9)), .val (.int (own_b br9))] [])
        exact hR X4 (fun fs hl => X4.returnOut hx hret (hb hby d10_97) hl) (fun _ => rfl) ⟨rfl, N4b, K4, own_split_end hm ▸ ⟨Et5, Frt5, Flt5, Fet5, Fat5, Fbt5, Vlt5, ⟨_, Vet5⟩, Vat5, Vbt5, hlt5, hat5, hbt5⟩⟩ hc9w hs9w
      · by_cases hbig : 20 < nd9
        · exact absurd hm (own_split_big hnd hbig)
        · have hnd2 : nd9 < 20 := by omega
          show G T9w (mkF m 14 #[.val (.ref p0), .val (.int (own_i nd9)), .val (.long (own_key2 ((own_lnf ln) pp) (own_i pp))), .second, .val (.int (own_i pp)), .val (.int (own_i a9)), .val (.int (own_b ar9)), .val (.int (own_i b9)), .val (.int (own_b br9))] [])
          refine hp (fun tq kq => XS.iloadN X9w.here hx rfl (hb hby d10_14) rfl kq) ?_
          show G T9w (mkF m 15 #[.val (.ref p0), .val (.int (own_i nd9)), .val (.long (own_key2 ((own_lnf ln) pp) (own_i pp))), .second, .val (.int (own_i pp)), .val (.int (own_i a9)), .val (.int (own_b ar9)), .val (.int (own_i b9)), .val (.int (own_b br9))] [(.int (own_i nd9))])
          refine hp (fun tq kq => XS.iconst X9w.here hx rfl (hb hby d10_15) kq) ?_
          show G T9w (mkF m 16 #[.val (.ref p0), .val (.int (own_i nd9)), .val (.long (own_key2 ((own_lnf ln) pp) (own_i pp))), .second, .val (.int (own_i pp)), .val (.int (own_i a9)), .val (.int (own_b ar9)), .val (.int (own_i b9)), .val (.int (own_b br9))] [(.int (-1 : Int32)), (.int (own_i nd9))])
          refine hp (fun tq kq => XS.icmpNo X9w.here hx rfl (hb hby d10_16) rfl (feq (own_ine hnd2)).1 kq) ?_
          show G T9w (mkF m 19 #[.val (.ref p0), .val (.int (own_i nd9)), .val (.long (own_key2 ((own_lnf ln) pp) (own_i pp))), .second, .val (.int (own_i pp)), .val (.int (own_i a9)), .val (.int (own_b ar9)), .val (.int (own_i b9)), .val (.int (own_b br9))] [])
          refine hp (fun tq kq => XS.aloadN X9w.here hx rfl (hb hby d10_19) rfl rfl kq) ?_
          show G T9w (mkF m 20 #[.val (.ref p0), .val (.int (own_i nd9)), .val (.long (own_key2 ((own_lnf ln) pp) (own_i pp))), .second, .val (.int (own_i pp)), .val (.int (own_i a9)), .val (.int (own_b ar9)), .val (.int (own_i b9)), .val (.int (own_b br9))] [(.ref p0)])
          refine hp (fun tq kq => XS.iloadN X9w.here hx rfl (hb hby d10_20) rfl kq) ?_
          show G T9w (mkF m 21 #[.val (.ref p0), .val (.int (own_i nd9)), .val (.long (own_key2 ((own_lnf ln) pp) (own_i pp))), .second, .val (.int (own_i pp)), .val (.int (own_i a9)), .val (.int (own_b ar9)), .val (.int (own_i b9)), .val (.int (own_b br9))] [(.int (own_i nd9)), (.ref p0)])
          obtain ⟨v6, T6, L6, X6, hQ6, st6⟩ := own_callP X9w hx hZ (y := (⟨"com/example/slabwarden/slabwarden/chunk/FreeRuns", "key", "(I)J"⟩ : MethodName)) (z := (⟨"com/example/slabwarden/slabwarden/chunk/FreeRuns", "shortestAtLeast", "(I)I"⟩ : MethodName)) (rm := ({ frames := 1, cells := 0, slots := 0, locals := 13 } : Room)) 0 hown (hw _ (List.mem_of_getElem? (i := 23) rfl)) rfl (hw _ (List.mem_of_getElem? (i := 41) rfl)) (hw _ (List.mem_of_getElem? (i := 42) rfl)) (hw _ (List.mem_of_getElem? (i := 43) rfl)) (hw _ (List.mem_of_getElem? (i := 2) rfl)) (hw _ (List.mem_of_getElem? (i := 44) rfl)) (by decide) (rm8 l Z a0 hw [] p0 (own_i nd9) la ea lf rt ln S9 nd9 h9w n0 rfl hnd2 ⟨Et1, Frt1, Flt1, Fet1, Fat1, Fbt1, Vlt1, ⟨_, Vet1⟩, Vat1, Vbt1, hlt1, hat1, hbt1⟩) e9w Et1 (by decide) (by decide) (g := (mkF m 21 #[.val (.ref p0), .val (.int (own_i nd9)), .val (.long (own_key2 ((own_lnf ln) pp) (own_i pp))), .second, .val (.int (own_i pp)), .val (.int (own_i a9)), .val (.int (own_b ar9)), .val (.int (own_i b9)), .val (.int (own_b br9))] [(.int (own_i nd9)), (.ref p0)])) rfl (by rw [hml]; rfl) [(.int (own_i nd9))] [] own_pd2 rfl rfl (by show 2 * 0 + _ ≤ _; exact Nat.le_of_eq rfl) (hb hby d10_21) rfl hc9w hs9w
          obtain ⟨rfl, N6, e6⟩ := hQ6
          have N6b := Fr.app N9w N6
          refine hp st6 ?_
          show G T6 (mkF m 24 #[.val (.ref p0), .val (.int (own_i nd9)), .val (.long (own_key2 ((own_lnf ln) pp) (own_i pp))), .second, .val (.int (own_i pp)), .val (.int (own_i a9)), .val (.int (own_b ar9)), .val (.int (own_i b9)), .val (.int (own_b br9))] [(.long (own_key2 ((own_lnf ln) nd9) (own_i nd9)))])
          refine hp (fun tq kq => XS.lloadN X6.here hx rfl (hb hby d10_24) rfl kq) ?_
          show G T6 (mkF m 25 #[.val (.ref p0), .val (.int (own_i nd9)), .val (.long (own_key2 ((own_lnf ln) pp) (own_i pp))), .second, .val (.int (own_i pp)), .val (.int (own_i a9)), .val (.int (own_b ar9)), .val (.int (own_i b9)), .val (.int (own_b br9))] [(.long (own_key2 ((own_lnf ln) pp) (own_i pp))), (.long (own_key2 ((own_lnf ln) nd9) (own_i nd9)))])
          refine hp (fun tq kq => XS.lcmp X6.here hx rfl (hb hby d10_25) rfl kq) ?_
          show G T6 (mkF m 26 #[.val (.ref p0), .val (.int (own_i nd9)), .val (.long (own_key2 ((own_lnf ln) pp) (own_i pp))), .second, .val (.int (own_i pp)), .val (.int (own_i a9)), .val (.int (own_b ar9)), .val (.int (own_i b9)), .val (.int (own_b br9))] [(.int (lcmpW (own_key2 ((own_lnf ln) nd9) (own_i nd9)) (own_key2 ((own_lnf ln) pp) (own_i pp))))])
          by_cases hb7 : (own_key2 ((own_lnf ln) nd9) (own_i nd9)) < (own_key2 ((own_lnf ln) pp) (own_i pp))
          · refine hp (fun tq kq => XS.ifNo X6.here hx rfl (hb hby d10_26) rfl ((if0 _ _).trans (tlt ((lw_lt _ _).mpr hb7)).2.1) kq) ?_
            show G T6 (mkF m 29 #[.val (.ref p0), .val (.int (own_i nd9)), .val (.long (own_key2 ((own_lnf ln) pp) (own_i pp))), .second, .val (.int (own_i pp)), .val (.int (own_i a9)), .val (.int (own_b ar9)), .val (.int (own_i b9)), .val (.int (own_b br9))] [])
            refine hp (fun tq kq => XS.aloadN X6.here hx rfl (hb hby d10_29) rfl rfl kq) ?_
            show G T6 (mkF m 30 #[.val (.ref p0), .val (.int (own_i nd9)), .val (.long (own_key2 ((own_lnf ln) pp) (own_i pp))), .second, .val (.int (own_i pp)), .val (.int (own_i a9)), .val (.int (own_b ar9)), .val (.int (own_i b9)), .val (.int (own_b br9))] [(.ref p0)])
            refine hp (fun tq kq => XS.iload X6.here hx rfl (hb hby d10_30) rfl kq) ?_
            show G T6 (mkF m 32 #[.val (.ref p0), .val (.int (own_i nd9)), .val (.long (own_key2 ((own_lnf ln) pp) (own_i pp))), .second, .val (.int (own_i pp)), .val (.int (own_i a9)), .val (.int (own_b ar9)), .val (.int (own_i b9)), .val (.int (own_b br9))] [(.int (own_i a9)), (.ref p0)])
            refine hp (fun tq kq => XS.iload X6.here hx rfl (hb hby d10_32) rfl kq) ?_
            show G T6 (mkF m 34 #[.val (.ref p0), .val (.int (own_i nd9)), .val (.long (own_key2 ((own_lnf ln) pp) (own_i pp))), .second, .val (.int (own_i pp)), .val (.int (own_i a9)), .val (.int (own_b ar9)), .val (.int (own_i b9)), .val (.int (own_b br9))] [(.int (own_b ar9)), (.int (own_i a9)), (.ref p0)])
            refine hp (fun tq kq => XS.iloadN X6.here hx rfl (hb hby d10_34) rfl kq) ?_
            show G T6 (mkF m 35 #[.val (.ref p0), .val (.int (own_i nd9)), .val (.long (own_key2 ((own_lnf ln) pp) (own_i pp))), .second, .val (.int (own_i pp)), .val (.int (own_i a9)), .val (.int (own_b ar9)), .val (.int (own_i b9)), .val (.int (own_b br9))] [(.int (own_i nd9)), (.int (own_b ar9)), (.int (own_i a9)), (.ref p0)])
            obtain ⟨v8, T8, L8, X8, hQ8, st8⟩ := own_callP X6 hx hZ (y := (⟨"com/example/slabwarden/slabwarden/chunk/FreeRuns", "hang", "(IZI)V"⟩ : MethodName)) (z := (⟨"com/example/slabwarden/slabwarden/chunk/FreeRuns", "shortestAtLeast", "(I)I"⟩ : MethodName)) (rm := ({ frames := 0, cells := 0, slots := 0, locals := 0 } : Room)) 0 hown (hw _ (List.mem_of_getElem? (i := 23) rfl)) rfl (hw _ (List.mem_of_getElem? (i := 54) rfl)) (hw _ (List.mem_of_getElem? (i := 55) rfl)) (hw _ (List.mem_of_getElem? (i := 56) rfl)) (hw _ (List.mem_of_getElem? (i := 2) rfl)) (hw _ (List.mem_of_getElem? (i := 57) rfl)) (by decide) (rm11 l Z a0 hw [] p0 (own_i a9) (own_b ar9) (own_i nd9) la ea lf rt ln S9 a9 ar9 nd9 h9w n0 rfl rfl rfl (Nat.le_of_lt ha9) ⟨Et1, Frt1, Flt1, Fet1, Fat1, Fbt1, Vlt1, ⟨_, Vet1⟩, Vat1, Vbt1, hlt1, hat1, hbt1⟩ hD) e6 Et1 (by decide) (by decide) (g := (mkF m 35 #[.val (.ref p0), .val (.int (own_i nd9)), .val (.long (own_key2 ((own_lnf ln) pp) (own_i pp))), .second, .val (.int (own_i pp)), .val (.int (own_i a9)), .val (.int (own_b ar9)), .val (.int (own_i b9)), .val (.int (own_b br9))] [(.int (own_i nd9)), (.int (own_b ar9)), (.int (own_i a9)), (.ref p0)])) rfl (by rw [hml]; rfl) [(.int (own_i a9)), (.int (own_b ar9)), (.int (own_i nd9))] [] own_pd1 rfl rfl (by show 2 * 0 + _ ≤ _; exact Nat.le_of_eq rfl) (hb hby d10_35) rfl hc9w hs9w
            obtain ⟨rfl, N8, Kc8, hT8⟩ := hQ8
            have N8b := Fr.app N6b N8
            have K8 := K9w.trans Kc8 (allS (Or.inl (by simp)) (allS (Or.inl (by simp)) (allS (Or.inl (by simp)) all0)))
            obtain ⟨Et9, Frt9, Flt9, Fet9, Fat9, Fbt9, Vlt9, ⟨fet9, Vet9⟩, Vat9, Vbt9, hlt9, hat9, hbt9⟩ := hT8
            refine hp st8 ?_
            show G T8 (mkF m 38 #[.val (.ref p0), .val (.int (own_i nd9)), .val (.long (own_key2 ((own_lnf ln) pp) (own_i pp))), .second, .val (.int (own_i pp)), .val (.int (own_i a9)), .val (.int (own_b ar9)), .val (.int (own_i b9)), .val (.int (own_b br9))] [])
            refine hp (fun tq kq => XS.iloadN X8.here hx rfl (hb hby d10_38) rfl kq) ?_
            show G T8 (mkF m 39 #[.val (.ref p0), .val (.int (own_i nd9)), .val (.long (own_key2 ((own_lnf ln) pp) (own_i pp))), .second, .val (.int (own_i pp)), .val (.int (own_i a9)), .val (.int (own_b ar9)), .val (.int (own_i b9)), .val (.int (own_b br9))] [(.int (own_i nd9))])
            refine hp (fun tq kq => XS.istore X8.here hx rfl (hb hby d10_39) rfl (l' := #[.val (.ref p0), .val (.int (own_i nd9)), .val (.long (own_key2 ((own_lnf ln) pp) (own_i pp))), .second, .val (.int (own_i pp)), .val (.int (own_i nd9)), .val (.int (own_b ar9)), .val (.int (own_i b9)), .val (.int (own_b br9))]) rfl kq) ?_
            show G T8 (mkF m 41 #[.val (.ref p0), .val (.int (own_i nd9)), .val (.long (own_key2 ((own_lnf ln) pp) (own_i pp))), .second, .val (.int (own_i pp)), .val (.int (own_i nd9)), .val (.int (own_b ar9)), .val (.int (own_i b9)), .val (.int (own_b br9))] [])
            refine hp (fun tq kq => XS.iconst X8.here hx rfl (hb hby d10_41) kq) ?_
            show G T8 (mkF m 42 #[.val (.ref p0), .val (.int (own_i nd9)), .val (.long (own_key2 ((own_lnf ln) pp) (own_i pp))), .second, .val (.int (own_i pp)), .val (.int (own_i nd9)), .val (.int (own_b ar9)), .val (.int (own_i b9)), .val (.int (own_b br9))] [(.int (1 : Int32))])
            refine hp (fun tq kq => XS.istore X8.here hx rfl (hb hby d10_42) rfl (l' := #[.val (.ref p0), .val (.int (own_i nd9)), .val (.long (own_key2 ((own_lnf ln) pp) (own_i pp))), .second, .val (.int (own_i pp)), .val (.int (own_i nd9)), .val (.int (1 : Int32)), .val (.int (own_i b9)), .val (.int (own_b br9))]) rfl kq) ?_
            show G T8 (mkF m 44 #[.val (.ref p0), .val (.int (own_i nd9)), .val (.long (own_key2 ((own_lnf ln) pp) (own_i pp))), .second, .val (.int (own_i pp)), .val (.int (own_i nd9)), .val (.int (1 : Int32)), .val (.int (own_i b9)), .val (.int (own_b br9))] [])
            refine hp (fun tq kq => XS.aloadN X8.here hx rfl (hb hby d10_44) rfl rfl kq) ?_
            show G T8 (mkF m 45 #[.val (.ref p0), .val (.int (own_i nd9)), .val (.long (own_key2 ((own_lnf ln) pp) (own_i pp))), .second, .val (.int (own_i pp)), .val (.int (own_i nd9)), .val (.int (1 : Int32)), .val (.int (own_i b9)), .val (.int (own_b br9))] [(.ref p0)])
            obtain ⟨T10, X10, e10, st10⟩ := getF X8 hx hZ hown (host := "") (Or.inl (hw _ (List.mem_of_getElem? (i := 18) rfl))) Via.refl rfl Fbt9 (g := (mkF m 45 #[.val (.ref p0), .val (.int (own_i nd9)), .val (.long (own_key2 ((own_lnf ln) pp) (own_i pp))), .second, .val (.int (own_i pp)), .val (.int (own_i nd9)), .val (.int (1 : Int32)), .val (.int (own_i b9)), .val (.int (own_b br9))] [(.ref p0)])) rfl rfl (hb hby d10_45)
            refine hp st10 ?_
            show G T10 (mkF m 48 #[.val (.ref p0), .val (.int (own_i nd9)), .val (.long (own_key2 ((own_lnf ln) pp) (own_i pp))), .second, .val (.int (own_i pp)), .val (.int (own_i nd9)), .val (.int (1 : Int32)), .val (.int (own_i b9)), .val (.int (own_b br9))] [(.ref rt)])
            refine hp (fun tq kq => XS.iloadN X10.here hx rfl (hb hby d10_48) rfl kq) ?_
            show G T10 (mkF m 49 #[.val (.ref p0), .val (.int (own_i nd9)), .val (.long (own_key2 ((own_lnf ln) pp) (own_i pp))), .second, .val (.int (own_i pp)), .val (.int (own_i nd9)), .val (.int (1 : Int32)), .val (.int (own_i b9)), .val (.int (own_b br9))] [(.int (own_i nd9)), (.ref rt)])
            refine hp (own_ldI X10 hx hZ e10 Vbt9 (j := (own_i nd9)) nd9 (own_ii hnd2).1 (own_ii hnd2).2 hnd2 (g := (mkF m 49 #[.val (.ref p0), .val (.int (own_i nd9)), .val (.long (own_key2 ((own_lnf ln) pp) (own_i pp))), .second, .val (.int (own_i pp)), .val (.int (own_i nd9)), .val (.int (1 : Int32)), .val (.int (own_i b9)), .val (.int (own_b br9))] [(.int (own_i nd9)), (.ref rt)])) rfl rfl (hb hby d10_49)) ?_
            show G T10 (mkF m 50 #[.val (.ref p0), .val (.int (own_i nd9)), .val (.long (own_key2 ((own_lnf ln) pp) (own_i pp))), .second, .val (.int (own_i pp)), .val (.int (own_i nd9)), .val (.int (1 : Int32)), .val (.int (own_i b9)), .val (.int (own_b br9))] [(.int ((own_arr (own_hang a9 ar9 nd9 S9).2.2) nd9))])
            refine hp (fun tq kq => XS.istoreN X10.here hx rfl (hb hby d10_50) rfl (l' := #[.val (.ref p0), .val (.int ((own_arr (own_hang a9 ar9 nd9 S9).2.2) nd9)), .val (.long (own_key2 ((own_lnf ln) pp) (own_i pp))), .second, .val (.int (own_i pp)), .val (.int (own_i nd9)), .val (.int (1 : Int32)), .val (.int (own_i b9)), .val (.int (own_b br9))]) rfl kq) ?_
            show G T10 (mkF m 51 #[.val (.ref p0), .val (.int ((own_arr (own_hang a9 ar9 nd9 S9).2.2) nd9)), .val (.long (own_key2 ((own_lnf ln) pp) (own_i pp))), .second, .val (.int (own_i pp)), .val (.int (own_i nd9)), .val (.int (1 : Int32)), .val (.int (own_i b9)), .val (.int (own_b br9))] [])
            refine hp (fun tq kq => XS.goto X10.here hx rfl (pc0 := 51) (pc' := 14) rfl (hb hby d10_51) (by decide) (by decide) kq) ?_
            show G T10 (mkF m 14 #[.val (.ref p0), .val (.int ((own_arr (own_hang a9 ar9 nd9 S9).2.2) nd9)), .val (.long (own_key2 ((own_lnf ln) pp) (own_i pp))), .second, .val (.int (own_i pp)), .val (.int (own_i nd9)), .val (.int (1 : Int32)), .val (.int (own_i b9)), .val (.int (own_b br9))] [])
            exact ih _ _ _ _ _ _ _ _ _ _ _ X10 e10 K8 N8b hc9w hs9w hnd2 hb9 ⟨Et9, Frt9, Flt9, Fet9, Fat9, Fbt9, Vlt9, ⟨_, Vet9⟩, Vat9, Vbt9, hlt9, hat9, hbt9⟩ (own_split_lt hnd hbig ((own_klt_iff hln hnd2 hpp).mp hb7) hm)
          · refine hp (fun tq kq => XS.ifYes X6.here hx rfl (pc0 := 26) (pc' := 54) rfl (hb hby d10_26) rfl ((if0 _ _).trans (flt (fun q => hb7 ((lw_lt _ _).mp q))).2.1) (by decide) (by decide) kq) ?_
            show G T6 (mkF m 54 #[.val (.ref p0), .val (.int (own_i nd9)), .val (.long (own_key2 ((own_lnf ln) pp) (own_i pp))), .second, .val (.int (own_i pp)), .val (.int (own_i a9)), .val (.int (own_b ar9)), .val (.int (own_i b9)), .val (.int (own_b br9))] [])
            refine hp (fun tq kq => XS.aloadN X6.here hx rfl (hb hby d10_54) rfl rfl kq) ?_
            show G T6 (mkF m 55 #[.val (.ref p0), .val (.int (own_i nd9)), .val (.long (own_key2 ((own_lnf ln) pp) (own_i pp))), .second, .val (.int (own_i pp)), .val (.int (own_i a9)), .val (.int (own_b ar9)), .val (.int (own_i b9)), .val (.int (own_b br9))] [(.ref p0)])
            refine hp (fun tq kq => XS.iload X6.here hx rfl (hb hby d10_55) rfl kq) ?_
            show G T6 (mkF m 57 #[.val (.ref p0), .val (.int (own_i nd9)), .val (.long (own_key2 ((own_lnf ln) pp) (own_i pp))), .second, .val (.int (own_i pp)), .val (.int (own_i a9)), .val (.int (own_b ar9)), .val (.int (own_i b9)), .val (.int (own_b br9))] [(.int (own_i b9)), (.ref p0)])
            refine hp (fun tq kq => XS.iload X6.here hx rfl (hb hby d10_57) rfl kq) ?_
            show G T6 (mkF m 59 #[.val (.ref p0), .val (.int (own_i nd9)), .val (.long (own_key2 ((own_lnf ln) pp) (own_i pp))), .second, .val (.int (own_i pp)), .val (.int (own_i a9)), .val (.int (own_b ar9)), .val (.int (own_i b9)), .val (.int (own_b br9))] [(.int (own_b br9)), (.int (own_i b9)), (.ref p0)])
            refine hp (fun tq kq => XS.iloadN X6.here hx rfl (hb hby d10_59) rfl kq) ?_
            show G T6 (mkF m 60 #[.val (.ref p0), .val (.int (own_i nd9)), .val (.long (own_key2 ((own_lnf ln) pp) (own_i pp))), .second, .val (.int (own_i pp)), .val (.int (own_i a9)), .val (.int (own_b ar9)), .val (.int (own_i b9)), .val (.int (own_b br9))] [(.int (own_i nd9)), (.int (own_b br9)), (.int (own_i b9)), (.ref p0)])
            obtain ⟨v11, T11, L11, X11, hQ11, st11⟩ := own_callP X6 hx hZ (y := (⟨"com/example/slabwarden/slabwarden/chunk/FreeRuns", "hang", "(IZI)V"⟩ : MethodName)) (z := (⟨"com/example/slabwarden/slabwarden/chunk/FreeRuns", "shortestAtLeast", "(I)I"⟩ : MethodName)) (rm := ({ frames := 0, cells := 0, slots := 0, locals := 0 } : Room)) 0 hown (hw _ (List.mem_of_getElem? (i := 23) rfl)) rfl (hw _ (List.mem_of_getElem? (i := 54) rfl)) (hw _ (List.mem_of_getElem? (i := 55) rfl)) (hw _ (List.mem_of_getElem? (i := 56) rfl)) (hw _ (List.mem_of_getElem? (i := 2) rfl)) (hw _ (List.mem_of_getElem? (i := 57) rfl)) (by decide) (rm11 l Z a0 hw [] p0 (own_i b9) (own_b br9) (own_i nd9) la ea lf rt ln S9 b9 br9 nd9 h9w n0 rfl rfl rfl (Nat.le_of_lt hb9) ⟨Et1, Frt1, Flt1, Fet1, Fat1, Fbt1, Vlt1, ⟨_, Vet1⟩, Vat1, Vbt1, hlt1, hat1, hbt1⟩ hD) e6 Et1 (by decide) (by decide) (g := (mkF m 60 #[.val (.ref p0), .val (.int (own_i nd9)), .val (.long (own_key2 ((own_lnf ln) pp) (own_i pp))), .second, .val (.int (own_i pp)), .val (.int (own_i a9)), .val (.int (own_b ar9)), .val (.int (own_i b9)), .val (.int (own_b br9))] [(.int (own_i nd9)), (.int (own_b br9)), (.int (own_i b9)), (.ref p0)])) rfl (by rw [hml]; rfl) [(.int (own_i b9)), (.int (own_b br9)), (.int (own_i nd9))] [] own_pd1 rfl rfl (by show 2 * 0 + _ ≤ _; exact Nat.le_of_eq rfl) (hb hby d10_60) rfl hc9w hs9w
            obtain ⟨rfl, N11, Kc11, hT11⟩ := hQ11
            have N11b := Fr.app N6b N11
            have K11 := K9w.trans Kc11 (allS (Or.inl (by simp)) (allS (Or.inl (by simp)) (allS (Or.inl (by simp)) all0)))
            obtain ⟨Et12, Frt12, Flt12, Fet12, Fat12, Fbt12, Vlt12, ⟨fet12, Vet12⟩, Vat12, Vbt12, hlt12, hat12, hbt12⟩ := hT11
            refine hp st11 ?_
            show G T11 (mkF m 63 #[.val (.ref p0), .val (.int (own_i nd9)), .val (.long (own_key2 ((own_lnf ln) pp) (own_i pp))), .second, .val (.int (own_i pp)), .val (.int (own_i a9)), .val (.int (own_b ar9)), .val (.int (own_i b9)), .val (.int (own_b br9))] [])
            refine hp (fun tq kq => XS.iloadN X11.here hx rfl (hb hby d10_63) rfl kq) ?_
            show G T11 (mkF m 64 #[.val (.ref p0), .val (.int (own_i nd9)), .val (.long (own_key2 ((own_lnf ln) pp) (own_i pp))), .second, .val (.int (own_i pp)), .val (.int (own_i a9)), .val (.int (own_b ar9)), .val (.int (own_i b9)), .val (.int (own_b br9))] [(.int (own_i nd9))])
            refine hp (fun tq kq => XS.istore X11.here hx rfl (hb hby d10_64) rfl (l' := #[.val (.ref p0), .val (.int (own_i nd9)), .val (.long (own_key2 ((own_lnf ln) pp) (own_i pp))), .second, .val (.int (own_i pp)), .val (.int (own_i a9)), .val (.int (own_b ar9)), .val (.int (own_i nd9)), .val (.int (own_b br9))]) rfl kq) ?_
            show G T11 (mkF m 66 #[.val (.ref p0), .val (.int (own_i nd9)), .val (.long (own_key2 ((own_lnf ln) pp) (own_i pp))), .second, .val (.int (own_i pp)), .val (.int (own_i a9)), .val (.int (own_b ar9)), .val (.int (own_i nd9)), .val (.int (own_b br9))] [])
            refine hp (fun tq kq => XS.iconst X11.here hx rfl (hb hby d10_66) kq) ?_
            show G T11 (mkF m 67 #[.val (.ref p0), .val (.int (own_i nd9)), .val (.long (own_key2 ((own_lnf ln) pp) (own_i pp))), .second, .val (.int (own_i pp)), .val (.int (own_i a9)), .val (.int (own_b ar9)), .val (.int (own_i nd9)), .val (.int (own_b br9))] [(.int (0 : Int32))])
            refine hp (fun tq kq => XS.istore X11.here hx rfl (hb hby d10_67) rfl (l' := #[.val (.ref p0), .val (.int (own_i nd9)), .val (.long (own_key2 ((own_lnf ln) pp) (own_i pp))), .second, .val (.int (own_i pp)), .val (.int (own_i a9)), .val (.int (own_b ar9)), .val (.int (own_i nd9)), .val (.int (0 : Int32))]) rfl kq) ?_
            show G T11 (mkF m 69 #[.val (.ref p0), .val (.int (own_i nd9)), .val (.long (own_key2 ((own_lnf ln) pp) (own_i pp))), .second, .val (.int (own_i pp)), .val (.int (own_i a9)), .val (.int (own_b ar9)), .val (.int (own_i nd9)), .val (.int (0 : Int32))] [])
            refine hp (fun tq kq => XS.aloadN X11.here hx rfl (hb hby d10_69) rfl rfl kq) ?_
            show G T11 (mkF m 70 #[.val (.ref p0), .val (.int (own_i nd9)), .val (.long (own_key2 ((own_lnf ln) pp) (own_i pp))), .second, .val (.int (own_i pp)), .val (.int (own_i a9)), .val (.int (own_b ar9)), .val (.int (own_i nd9)), .val (.int (0 : Int32))] [(.ref p0)])
            obtain ⟨T13, X13, e13, st13⟩ := getF X11 hx hZ hown (host := "") (Or.inl (hw _ (List.mem_of_getElem? (i := 16) rfl))) Via.refl rfl Fat12 (g := (mkF m 70 #[.val (.ref p0), .val (.int (own_i nd9)), .val (.long (own_key2 ((own_lnf ln) pp) (own_i pp))), .second, .val (.int (own_i pp)), .val (.int (own_i a9)), .val (.int (own_b ar9)), .val (.int (own_i nd9)), .val (.int (0 : Int32))] [(.ref p0)])) rfl rfl (hb hby d10_70)
            refine hp st13 ?_
            show G T13 (mkF m 73 #[.val (.ref p0), .val (.int (own_i nd9)), .val (.long (own_key2 ((own_lnf ln) pp) (own_i pp))), .second, .val (.int (own_i pp)), .val (.int (own_i a9)), .val (.int (own_b ar9)), .val (.int (own_i nd9)), .val (.int (0 : Int32))] [(.ref lf)])
            refine hp (fun tq kq => XS.iloadN X13.here hx rfl (hb hby d10_73) rfl kq) ?_
            show G T13 (mkF m 74 #[.val (.ref p0), .val (.int (own_i nd9)), .val (.long (own_key2 ((own_lnf ln) pp) (own_i pp))), .second, .val (.int (own_i pp)), .val (.int (own_i a9)), .val (.int (own_b ar9)), .val (.int (own_i nd9)), .val (.int (0 : Int32))] [(.int (own_i nd9)), (.ref lf)])
            refine hp (own_ldI X13 hx hZ e13 Vat12 (j := (own_i nd9)) nd9 (own_ii hnd2).1 (own_ii hnd2).2 hnd2 (g := (mkF m 74 #[.val (.ref p0), .val (.int (own_i nd9)), .val (.long (own_key2 ((own_lnf ln) pp) (own_i pp))), .second, .val (.int (own_i pp)), .val (.int (own_i a9)), .val (.int (own_b ar9)), .val (.int (own_i nd9)), .val (.int (0 : Int32))] [(.int (own_i nd9)), (.ref lf)])) rfl rfl (hb hby d10_74)) ?_
            show G T13 (mkF m 75 #[.val (.ref p0), .val (.int (own_i nd9)), .val (.long (own_key2 ((own_lnf ln) pp) (own_i pp))), .second, .val (.int (own_i pp)), .val (.int (own_i a9)), .val (.int (own_b ar9)), .val (.int (own_i nd9)), .val (.int (0 : Int32))] [(.int ((own_arr (own_hang b9 br9 nd9 S9).2.1) nd9))])
            refine hp (fun tq kq => XS.istoreN X13.here hx rfl (hb hby d10_75) rfl (l' := #[.val (.ref p0), .val (.int ((own_arr (own_hang b9 br9 nd9 S9).2.1) nd9)), .val (.long (own_key2 ((own_lnf ln) pp) (own_i pp))), .second, .val (.int (own_i pp)), .val (.int (own_i a9)), .val (.int (own_b ar9)), .val (.int (own_i nd9)), .val (.int (0 : Int32))]) rfl kq) ?_
            show G T13 (mkF m 76 #[.val (.ref p0), .val (.int ((own_arr (own_hang b9 br9 nd9 S9).2.1) nd9)), .val (.long (own_key2 ((own_lnf ln) pp) (own_i pp))), .second, .val (.int (own_i pp)), .val (.int (own_i a9)), .val (.int (own_b ar9)), .val (.int (own_i nd9)), .val (.int (0 : Int32))] [])
            refine hp (fun tq kq => XS.goto X13.here hx rfl (pc0 := 76) (pc' := 14) rfl (hb hby d10_76) (by decide) (by decide) kq) ?_
            show G T13 (mkF m 14 #[.val (.ref p0), .val (.int ((own_arr (own_hang b9 br9 nd9 S9).2.1) nd9)), .val (.long (own_key2 ((own_lnf ln) pp) (own_i pp))), .second, .val (.int (own_i pp)), .val (.int (own_i a9)), .val (.int (own_b ar9)), .val (.int (own_i nd9)), .val (.int (0 : Int32))] [])
            exact ih _ _ _ _ _ _ _ _ _ _ _ X13 e13 K11 N11b hc9w hs9w ha9 hnd2 ⟨Et12, Frt12, Flt12, Fet12, Fat12, Fbt12, Vlt12, ⟨_, Vet12⟩, Vat12, Vbt12, hlt12, hat12, hbt12⟩ (own_split_ge hnd hbig (fun z => hb7 ((own_klt_iff hln hnd2 hpp).mpr z)) hm)
  exact loop fu nd pp false pp true S _ _ _ _ _ X0 e0 K0 N0 (by decide) (by decide) hpp hpp hT hm
theorem d7_0 : decode prog_20_method_7_code 0 = .ok (.aload_n 0, 1) := by decide +kernel
theorem d7_1 : decode prog_20_method_7_code 1 = .ok (.iload_n 1, 1) := by decide +kernel
theorem d7_2 : decode prog_20_method_7_code 2 = .ok (.invokevirtual 30, 3) := by decide +kernel
theorem d7_5 : decode prog_20_method_7_code 5 = .ok (.lstore_n 2, 1) := by decide +kernel
theorem d7_6 : decode prog_20_method_7_code 6 = .ok (.iload_n 1, 1) := by decide +kernel
theorem d7_7 : decode prog_20_method_7_code 7 = .ok (.invokestatic 40, 3) := by decide +kernel
theorem d7_10 : decode prog_20_method_7_code 10 = .ok (.istore 4, 2) := by decide +kernel
theorem d7_12 : decode prog_20_method_7_code 12 = .ok (.iconst (-1), 1) := by decide +kernel
theorem d7_13 : decode prog_20_method_7_code 13 = .ok (.istore 5, 2) := by decide +kernel
theorem d7_15 : decode prog_20_method_7_code 15 = .ok (.iconst 0, 1) := by decide +kernel
theorem d7_16 : decode prog_20_method_7_code 16 = .ok (.istore 6, 2) := by decide +kernel
theorem d7_18 : decode prog_20_method_7_code 18 = .ok (.aload_n 0, 1) := by decide +kernel
theorem d7_19 : decode prog_20_method_7_code 19 = .ok (.getfield 9, 3) := by decide +kernel
theorem d7_22 : decode prog_20_method_7_code 22 = .ok (.istore 7, 2) := by decide +kernel
theorem d7_24 : decode prog_20_method_7_code 24 = .ok (.iload 7, 2) := by decide +kernel
theorem d7_26 : decode prog_20_method_7_code 26 = .ok (.iconst (-1), 1) := by decide +kernel
theorem d7_27 : decode prog_20_method_7_code 27 = .ok (.if_icmp .eq 62, 3) := by decide +kernel
theorem d7_30 : decode prog_20_method_7_code 30 = .ok (.iload 7, 2) := by decide +kernel
theorem d7_32 : decode prog_20_method_7_code 32 = .ok (.invokestatic 40, 3) := by decide +kernel
theorem d7_35 : decode prog_20_method_7_code 35 = .ok (.iload 4, 2) := by decide +kernel
theorem d7_37 : decode prog_20_method_7_code 37 = .ok (.if_icmp .le 52, 3) := by decide +kernel
theorem d7_40 : decode prog_20_method_7_code 40 = .ok (.iload 7, 2) := by decide +kernel
theorem d7_42 : decode prog_20_method_7_code 42 = .ok (.istore 5, 2) := by decide +kernel
theorem d7_44 : decode prog_20_method_7_code 44 = .ok (.lload_n 2, 1) := by decide +kernel
theorem d7_45 : decode prog_20_method_7_code 45 = .ok (.aload_n 0, 1) := by decide +kernel
theorem d7_46 : decode prog_20_method_7_code 46 = .ok (.iload 7, 2) := by decide +kernel
theorem d7_48 : decode prog_20_method_7_code 48 = .ok (.invokevirtual 30, 3) := by decide +kernel
theorem d7_51 : decode prog_20_method_7_code 51 = .ok (.lcmp, 1) := by decide +kernel
theorem d7_52 : decode prog_20_method_7_code 52 = .ok (.ifCond .le 7, 3) := by decide +kernel
theorem d7_55 : decode prog_20_method_7_code 55 = .ok (.iconst 1, 1) := by decide +kernel
theorem d7_56 : decode prog_20_method_7_code 56 = .ok (.goto 4, 3) := by decide +kernel
theorem d7_59 : decode prog_20_method_7_code 59 = .ok (.iconst 0, 1) := by decide +kernel
theorem d7_60 : decode prog_20_method_7_code 60 = .ok (.istore 6, 2) := by decide +kernel
theorem d7_62 : decode prog_20_method_7_code 62 = .ok (.iload 6, 2) := by decide +kernel
theorem d7_64 : decode prog_20_method_7_code 64 = .ok (.ifCond .eq 13, 3) := by decide +kernel
theorem d7_67 : decode prog_20_method_7_code 67 = .ok (.aload_n 0, 1) := by decide +kernel
theorem d7_68 : decode prog_20_method_7_code 68 = .ok (.getfield 23, 3) := by decide +kernel
theorem d7_71 : decode prog_20_method_7_code 71 = .ok (.iload 7, 2) := by decide +kernel
theorem d7_73 : decode prog_20_method_7_code 73 = .ok (.iaload, 1) := by decide +kernel
theorem d7_74 : decode prog_20_method_7_code 74 = .ok (.goto 10, 3) := by decide +kernel
theorem d7_77 : decode prog_20_method_7_code 77 = .ok (.aload_n 0, 1) := by decide +kernel
theorem d7_78 : decode prog_20_method_7_code 78 = .ok (.getfield 20, 3) := by decide +kernel
theorem d7_81 : decode prog_20_method_7_code 81 = .ok (.iload 7, 2) := by decide +kernel
theorem d7_83 : decode prog_20_method_7_code 83 = .ok (.iaload, 1) := by decide +kernel
theorem d7_84 : decode prog_20_method_7_code 84 = .ok (.istore 7, 2) := by decide +kernel
theorem d7_86 : decode prog_20_method_7_code 86 = .ok (.goto (-62), 3) := by decide +kernel
theorem d7_89 : decode prog_20_method_7_code 89 = .ok (.aload_n 0, 1) := by decide +kernel
theorem d7_90 : decode prog_20_method_7_code 90 = .ok (.iload 7, 2) := by decide +kernel
theorem d7_92 : decode prog_20_method_7_code 92 = .ok (.lload_n 2, 1) := by decide +kernel
theorem d7_93 : decode prog_20_method_7_code 93 = .ok (.iload_n 1, 1) := by decide +kernel
theorem d7_94 : decode prog_20_method_7_code 94 = .ok (.invokevirtual 44, 3) := by decide +kernel
theorem d7_97 : decode prog_20_method_7_code 97 = .ok (.aload_n 0, 1) := by decide +kernel
theorem d7_98 : decode prog_20_method_7_code 98 = .ok (.iload 5, 2) := by decide +kernel
theorem d7_100 : decode prog_20_method_7_code 100 = .ok (.iload 6, 2) := by decide +kernel
theorem d7_102 : decode prog_20_method_7_code 102 = .ok (.iload_n 1, 1) := by decide +kernel
theorem d7_103 : decode prog_20_method_7_code 103 = .ok (.invokevirtual 48, 3) := by decide +kernel
theorem d7_106 : decode prog_20_method_7_code 106 = .ok (.return_, 1) := by decide +kernel
theorem own_ef7 (m : MethodId) (p0 : Addr) (p1 : Int32) : entryFrame m #[(.ref p0), (.int p1)] 8 = mkF m 0 #[.val (.ref p0), .val (.int p1), .unset, .unset, .unset, .unset, .unset, .unset] [] := by first | (simp [entryFrame, mkF, argsToLocals, Value.category]; done) | rfl
theorem own_pn7 : plainName "com/example/slabwarden/slabwarden/chunk/FreeRuns" = true := by first | (simp [plainName, overriddenIn]; done) | decide +kernel
set_option maxRecDepth 65536 in
set_option maxHeartbeats 40000000 in
theorem rm7 (l : Launch) (Z : State) (a0 : Array Value) (hw : ∀ d ∈ tables_1, d.before a0 Z = true) (ws : List Jvm.Cond) (p0 : Addr) (p1 : Int32) (la ea lf rt : Addr) (ln : List Nat) (S : own_S) (pp : Nat) (S' : own_S) (h0 : Heap) (n0 : Nat) (h1 : p1 = own_i pp) (hpp : pp < 20) (hln : own_small ln) (hT : own_T Z h0 p0 la ea lf rt ln S) (hD : own_D n0 p0 la ea lf rt) (hm : own_insert ln pp S = some S') :
    MetFree l (⟨"com/example/slabwarden/slabwarden/chunk/FreeRuns", "insert", "(I)V"⟩ : MethodName) (head1 (Jvm.Cond.code (⟨"com/example/slabwarden/slabwarden/chunk/FreeRuns", "insert", "(I)V"⟩ : MethodName) prog_20_method_7_code 8 none :: ws) ({ frames := 3, cells := 0, slots := 0, locals := 46 } : Room)) (fun a U => a = #[(.ref p0), (.int p1)] ∧ Z.Warmed39 U.vm ∧ U.heap = h0) (fun _ _ _ _ _ => True) (fun _ U o U' => ∃ v L, o = .returned v ∧ own_Qh Z p0 la ea lf rt ln S' h0 n0 v U'.heap L ∧ FrameEnd U o U' L ({ frames := 3, cells := 0, slots := 0, locals := 46 } : Room).cells ({ frames := 3, cells := 0, slots := 0, locals := 46 } : Room).slots) := by
  refine own_contract (plainFor_of_name own_pn7) (fun m => own_ef7 m p0 p1) ?_
  intro p e s m below meth c s₁ G hx hby hml0 hown0 hnm hret hZ X0 e0 hp hR
  have hml : c.maxLocals = 8 := hml0
  have hown : s.vm.findClass "com/example/slabwarden/slabwarden/chunk/FreeRuns" = some m.cls := hown0
  have N0 := Fr.nil n0
  show G s₁ (mkF m 0 #[.val (.ref p0), .val (.int p1), .unset, .unset, .unset, .unset, .unset, .unset] [])
  have K0 : Keep h0 h0 [p0, lf, rt] := Keep.refl _ _
  subst h1
  obtain ⟨g_o, g_la, g_ea, g_lf, g_rt, n_o_la, n_o_ea, n_o_lf, n_o_rt, n_la_ea, n_la_lf, n_la_rt, n_ea_lf, n_ea_rt, n_lf_rt⟩ := id hD
  obtain ⟨Et1, Frt1, Flt1, Fet1, Fat1, Fbt1, Vlt1, ⟨fet1, Vet1⟩, Vat1, Vbt1, hlt1, hat1, hbt1⟩ := id hT
  show G s₁ (mkF m 0 #[.val (.ref p0), .val (.int (own_i pp)), .unset, .unset, .unset, .unset, .unset, .unset] [])
  obtain ⟨nd, q, g, S1, hwk, hsp, hS', hq20⟩ := own_insert_spec hm
  refine hp (fun tq kq => XS.aloadN X0.here hx rfl (hb hby d7_0) rfl rfl kq) ?_
  show G s₁ (mkF m 1 #[.val (.ref p0), .val (.int (own_i pp)), .unset, .unset, .unset, .unset, .unset, .unset] [(.ref p0)])
  refine hp (fun tq kq => XS.iloadN X0.here hx rfl (hb hby d7_1) rfl kq) ?_
  show G s₁ (mkF m 2 #[.val (.ref p0), .val (.int (own_i pp)), .unset, .unset, .unset, .unset, .unset, .unset] [(.int (own_i pp)), (.ref p0)])
  obtain ⟨v2, T2, L2, X2, hQ2, st2⟩ := own_callP X0 hx hZ (y := (⟨"com/example/slabwarden/slabwarden/chunk/FreeRuns", "key", "(I)J"⟩ : MethodName)) (z := (⟨"com/example/slabwarden/slabwarden/chunk/FreeRuns", "shortestAtLeast", "(I)I"⟩ : MethodName)) (rm := ({ frames := 1, cells := 0, slots := 0, locals := 13 } : Room)) 0 hown (hw _ (List.mem_of_getElem? (i := 23) rfl)) rfl (hw _ (List.mem_of_getElem? (i := 41) rfl)) (hw _ (List.mem_of_getElem? (i := 42) rfl)) (hw _ (List.mem_of_getElem? (i := 43) rfl)) (hw _ (List.mem_of_getElem? (i := 2) rfl)) (hw _ (List.mem_of_getElem? (i := 44) rfl)) (by decide) (rm8 l Z a0 hw [] p0 (own_i pp) la ea lf rt ln S pp h0 n0 rfl hpp ⟨Et1, Frt1, Flt1, Fet1, Fat1, Fbt1, Vlt1, ⟨_, Vet1⟩, Vat1, Vbt1, hlt1, hat1, hbt1⟩) e0 Et1 (by decide) (by decide) (g := (mkF m 2 #[.val (.ref p0), .val (.int (own_i pp)), .unset, .unset, .unset, .unset, .unset, .unset] [(.int (own_i pp)), (.ref p0)])) rfl (by rw [hml]; rfl) [(.int (own_i pp))] [] own_pd2 rfl rfl (by show 2 * 0 + _ ≤ _; exact Nat.le_of_eq rfl) (hb hby d7_2) rfl (by decide) (by decide)
  obtain ⟨rfl, N2, e2⟩ := hQ2
  have N2b := Fr.app N0 N2
  refine hp st2 ?_
  show G T2 (mkF m 5 #[.val (.ref p0), .val (.int (own_i pp)), .unset, .unset, .unset, .unset, .unset, .unset] [(.long (own_key2 ((own_lnf ln) pp) (own_i pp)))])
  refine hp (fun tq kq => XS.lstoreN X2.here hx rfl (hb hby d7_5) rfl (l' := #[.val (.ref p0), .val (.int (own_i pp)), .val (.long (own_key2 ((own_lnf ln) pp) (own_i pp))), .second, .unset, .unset, .unset, .unset]) rfl kq) ?_
  show G T2 (mkF m 6 #[.val (.ref p0), .val (.int (own_i pp)), .val (.long (own_key2 ((own_lnf ln) pp) (own_i pp))), .second, .unset, .unset, .unset, .unset] [])
  refine hp (fun tq kq => XS.iloadN X2.here hx rfl (hb hby d7_6) rfl kq) ?_
  show G T2 (mkF m 7 #[.val (.ref p0), .val (.int (own_i pp)), .val (.long (own_key2 ((own_lnf ln) pp) (own_i pp))), .second, .unset, .unset, .unset, .unset] [(.int (own_i pp))])
  obtain ⟨v3, T3, L3, X3, hQ3, st3⟩ := own_callS X2 hx hZ (y := (⟨"com/example/slabwarden/slabwarden/chunk/FreeRuns", "priority", "(I)I"⟩ : MethodName)) (rm := ({ frames := 0, cells := 0, slots := 0, locals := 0 } : Room)) 0 hown (hw _ (List.mem_of_getElem? (i := 45) rfl)) (hw _ (List.mem_of_getElem? (i := 46) rfl)) (hw _ (List.mem_of_getElem? (i := 2) rfl)) (hw _ (List.mem_of_getElem? (i := 47) rfl)) (by decide) (rm9 l Z a0 hw [] (own_i pp) h0 n0) e2 (by decide) (by decide) (g := (mkF m 7 #[.val (.ref p0), .val (.int (own_i pp)), .val (.long (own_key2 ((own_lnf ln) pp) (own_i pp))), .second, .unset, .unset, .unset, .unset] [(.int (own_i pp))])) rfl (by rw [hml]; rfl) [(.int (own_i pp))] [] own_pd3 rfl rfl (by show 2 * 0 + _ ≤ _; exact Nat.le_of_eq rfl) (hb hby d7_7) rfl (by decide) (by decide)
  obtain ⟨rfl, N3, e3⟩ := hQ3
  have F3 := Fr.app N2b N3
  refine hp st3 ?_
  show G T3 (mkF m 10 #[.val (.ref p0), .val (.int (own_i pp)), .val (.long (own_key2 ((own_lnf ln) pp) (own_i pp))), .second, .unset, .unset, .unset, .unset] [(.int (own_pri (own_i pp)))])
  refine hp (fun tq kq => XS.istore X3.here hx rfl (hb hby d7_10) rfl (l' := #[.val (.ref p0), .val (.int (own_i pp)), .val (.long (own_key2 ((own_lnf ln) pp) (own_i pp))), .second, .val (.int (own_pri (own_i pp))), .unset, .unset, .unset]) rfl kq) ?_
  show G T3 (mkF m 12 #[.val (.ref p0), .val (.int (own_i pp)), .val (.long (own_key2 ((own_lnf ln) pp) (own_i pp))), .second, .val (.int (own_pri (own_i pp))), .unset, .unset, .unset] [])
  refine hp (fun tq kq => XS.iconst X3.here hx rfl (hb hby d7_12) kq) ?_
  show G T3 (mkF m 13 #[.val (.ref p0), .val (.int (own_i pp)), .val (.long (own_key2 ((own_lnf ln) pp) (own_i pp))), .second, .val (.int (own_pri (own_i pp))), .unset, .unset, .unset] [(.int (-1 : Int32))])
  refine hp (fun tq kq => XS.istore X3.here hx rfl (hb hby d7_13) rfl (l' := #[.val (.ref p0), .val (.int (own_i pp)), .val (.long (own_key2 ((own_lnf ln) pp) (own_i pp))), .second, .val (.int (own_pri (own_i pp))), .val (.int (-1 : Int32)), .unset, .unset]) rfl kq) ?_
  show G T3 (mkF m 15 #[.val (.ref p0), .val (.int (own_i pp)), .val (.long (own_key2 ((own_lnf ln) pp) (own_i pp))), .second, .val (.int (own_pri (own_i pp))), .val (.int (-1 : Int32)), .unset, .unset] [])
  refine hp (fun tq kq => XS.iconst X3.here hx rfl (hb hby d7_15) kq) ?_
  show G T3 (mkF m 16 #[.val (.ref p0), .val (.int (own_i pp)), .val (.long (own_key2 ((own_lnf ln) pp) (own_i pp))), .second, .val (.int (own_pri (own_i pp))), .val (.int (-1 : Int32)), .unset, .unset] [(.int (0 : Int32))])
  refine hp (fun tq kq => XS.istore X3.here hx rfl (hb hby d7_16) rfl (l' := #[.val (.ref p0), .val (.int (own_i pp)), .val (.long (own_key2 ((own_lnf ln) pp) (own_i pp))), .second, .val (.int (own_pri (own_i pp))), .val (.int (-1 : Int32)), .val (.int (0 : Int32)), .unset]) rfl kq) ?_
  show G T3 (mkF m 18 #[.val (.ref p0), .val (.int (own_i pp)), .val (.long (own_key2 ((own_lnf ln) pp) (own_i pp))), .second, .val (.int (own_pri (own_i pp))), .val (.int (-1 : Int32)), .val (.int (0 : Int32)), .unset] [])
  refine hp (fun tq kq => XS.aloadN X3.here hx rfl (hb hby d7_18) rfl rfl kq) ?_
  show G T3 (mkF m 19 #[.val (.ref p0), .val (.int (own_i pp)), .val (.long (own_key2 ((own_lnf ln) pp) (own_i pp))), .second, .val (.int (own_pri (own_i pp))), .val (.int (-1 : Int32)), .val (.int (0 : Int32)), .unset] [(.ref p0)])
  obtain ⟨T4, X4, e4, st4⟩ := getF X3 hx hZ hown (host := "") (Or.inl (hw _ (List.mem_of_getElem? (i := 9) rfl))) Via.refl e3 Frt1 (g := (mkF m 19 #[.val (.ref p0), .val (.int (own_i pp)), .val (.long (own_key2 ((own_lnf ln) pp) (own_i pp))), .second, .val (.int (own_pri (own_i pp))), .val (.int (-1 : Int32)), .val (.int (0 : Int32)), .unset] [(.ref p0)])) rfl rfl (hb hby d7_19)
  refine hp st4 ?_
  show G T4 (mkF m 22 #[.val (.ref p0), .val (.int (own_i pp)), .val (.long (own_key2 ((own_lnf ln) pp) (own_i pp))), .second, .val (.int (own_pri (own_i pp))), .val (.int (-1 : Int32)), .val (.int (0 : Int32)), .unset] [(.int (own_i S.1))])
  refine hp (fun tq kq => XS.istore X4.here hx rfl (hb hby d7_22) rfl (l' := #[.val (.ref p0), .val (.int (own_i pp)), .val (.long (own_key2 ((own_lnf ln) pp) (own_i pp))), .second, .val (.int (own_pri (own_i pp))), .val (.int (-1 : Int32)), .val (.int (0 : Int32)), .val (.int (own_i S.1))]) rfl kq) ?_
  show G T4 (mkF m 24 #[.val (.ref p0), .val (.int (own_i pp)), .val (.long (own_key2 ((own_lnf ln) pp) (own_i pp))), .second, .val (.int (own_pri (own_i pp))), .val (.int (-1 : Int32)), .val (.int (0 : Int32)), .val (.int (own_i S.1))] [])
  have fin : ∀ (T9w : State) (locs9w : List Loc) (c9w s9w : Nat), Stand p l e ({ frames := 3, cells := 0, slots := 0, locals := 46 } : Room) s m #[(.ref p0), (.int (own_i pp))] below meth c T9w locs9w c9w s9w → T9w.heap = h0 → Fr n0 locs9w → c9w ≤ 0 → s9w ≤ 0 → G T9w (mkF m 89 #[.val (.ref p0), .val (.int (own_i pp)), .val (.long (own_key2 ((own_lnf ln) pp) (own_i pp))), .second, .val (.int (own_pri (own_i pp))), .val (.int (own_i q)), .val (.int (own_b g)), .val (.int (own_i nd))] []) := by
    intro T9w locs9w c9w s9w X9w e9w N9w hc9w hs9w
    show G T9w (mkF m 89 #[.val (.ref p0), .val (.int (own_i pp)), .val (.long (own_key2 ((own_lnf ln) pp) (own_i pp))), .second, .val (.int (own_pri (own_i pp))), .val (.int (own_i q)), .val (.int (own_b g)), .val (.int (own_i nd))] [])
    refine hp (fun tq kq => XS.aloadN X9w.here hx rfl (hb hby d7_89) rfl rfl kq) ?_
    show G T9w (mkF m 90 #[.val (.ref p0), .val (.int (own_i pp)), .val (.long (own_key2 ((own_lnf ln) pp) (own_i pp))), .second, .val (.int (own_pri (own_i pp))), .val (.int (own_i q)), .val (.int (own_b g)), .val (.int (own_i nd))] [(.ref p0)])
    refine hp (fun tq kq => XS.iload X9w.here hx rfl (hb hby d7_90) rfl kq) ?_
    show G T9w (mkF m 92 #[.val (.ref p0), .val (.int (own_i pp)), .val (.long (own_key2 ((own_lnf ln) pp) (own_i pp))), .second, .val (.int (own_pri (own_i pp))), .val (.int (own_i q)), .val (.int (own_b g)), .val (.int (own_i nd))] [(.int (own_i nd)), (.ref p0)])
    refine hp (fun tq kq => XS.lloadN X9w.here hx rfl (hb hby d7_92) rfl kq) ?_
    show G T9w (mkF m 93 #[.val (.ref p0), .val (.int (own_i pp)), .val (.long (own_key2 ((own_lnf ln) pp) (own_i pp))), .second, .val (.int (own_pri (own_i pp))), .val (.int (own_i q)), .val (.int (own_b g)), .val (.int (own_i nd))] [(.long (own_key2 ((own_lnf ln) pp) (own_i pp))), (.int (own_i nd)), (.ref p0)])
    refine hp (fun tq kq => XS.iloadN X9w.here hx rfl (hb hby d7_93) rfl kq) ?_
    show G T9w (mkF m 94 #[.val (.ref p0), .val (.int (own_i pp)), .val (.long (own_key2 ((own_lnf ln) pp) (own_i pp))), .second, .val (.int (own_pri (own_i pp))), .val (.int (own_i q)), .val (.int (own_b g)), .val (.int (own_i nd))] [(.int (own_i pp)), (.long (own_key2 ((own_lnf ln) pp) (own_i pp))), (.int (own_i nd)), (.ref p0)])
    obtain ⟨v5, T5, L5, X5, hQ5, st5⟩ := own_callP X9w hx hZ (y := (⟨"com/example/slabwarden/slabwarden/chunk/FreeRuns", "split", "(IJI)V"⟩ : MethodName)) (z := (⟨"com/example/slabwarden/slabwarden/chunk/FreeRuns", "shortestAtLeast", "(I)I"⟩ : MethodName)) (rm := ({ frames := 2, cells := 0, slots := 0, locals := 26 } : Room)) 0 hown (hw _ (List.mem_of_getElem? (i := 23) rfl)) rfl (hw _ (List.mem_of_getElem? (i := 50) rfl)) (hw _ (List.mem_of_getElem? (i := 51) rfl)) (hw _ (List.mem_of_getElem? (i := 52) rfl)) (hw _ (List.mem_of_getElem? (i := 2) rfl)) (hw _ (List.mem_of_getElem? (i := 53) rfl)) (by decide) (rm10 l Z a0 hw [] p0 (own_i nd) (own_key2 ((own_lnf ln) pp) (own_i pp)) (own_i pp) la ea lf rt ln S nd pp 6 S1 h0 n0 rfl rfl rfl hpp hln ⟨Et1, Frt1, Flt1, Fet1, Fat1, Fbt1, Vlt1, ⟨_, Vet1⟩, Vat1, Vbt1, hlt1, hat1, hbt1⟩ hD hsp) e9w Et1 (by decide) (by decide) (g := (mkF m 94 #[.val (.ref p0), .val (.int (own_i pp)), .val (.long (own_key2 ((own_lnf ln) pp) (own_i pp))), .second, .val (.int (own_pri (own_i pp))), .val (.int (own_i q)), .val (.int (own_b g)), .val (.int (own_i nd))] [(.int (own_i pp)), (.long (own_key2 ((own_lnf ln) pp) (own_i pp))), (.int (own_i nd)), (.ref p0)])) rfl (by rw [hml]; rfl) [(.int (own_i nd)), (.long (own_key2 ((own_lnf ln) pp) (own_i pp))), (.int (own_i pp))] [] own_pd4 rfl rfl (by show 2 * 0 + _ ≤ _; exact Nat.le_of_eq rfl) (hb hby d7_94) rfl hc9w hs9w
    obtain ⟨rfl, N5, Kc5, hT5⟩ := hQ5
    have N5b := Fr.app N9w N5
    have K5 := K0.trans Kc5 (allS (Or.inl (by simp)) (allS (Or.inl (by simp)) (allS (Or.inl (by simp)) all0)))
    obtain ⟨Et6, Frt6, Flt6, Fet6, Fat6, Fbt6, Vlt6, ⟨fet6, Vet6⟩, Vat6, Vbt6, hlt6, hat6, hbt6⟩ := hT5
    refine hp st5 ?_
    show G T5 (mkF m 97 #[.val (.ref p0), .val (.int (own_i pp)), .val (.long (own_key2 ((own_lnf ln) pp) (own_i pp))), .second, .val (.int (own_pri (own_i pp))), .val (.int (own_i q)), .val (.int (own_b g)), .val (.int (own_i nd))] [])
    refine hp (fun tq kq => XS.aloadN X5.here hx rfl (hb hby d7_97) rfl rfl kq) ?_
    show G T5 (mkF m 98 #[.val (.ref p0), .val (.int (own_i pp)), .val (.long (own_key2 ((own_lnf ln) pp) (own_i pp))), .second, .val (.int (own_pri (own_i pp))), .val (.int (own_i q)), .val (.int (own_b g)), .val (.int (own_i nd))] [(.ref p0)])
    refine hp (fun tq kq => XS.iload X5.here hx rfl (hb hby d7_98) rfl kq) ?_
    show G T5 (mkF m 100 #[.val (.ref p0), .val (.int (own_i pp)), .val (.long (own_key2 ((own_lnf ln) pp) (own_i pp))), .second, .val (.int (own_pri (own_i pp))), .val (.int (own_i q)), .val (.int (own_b g)), .val (.int (own_i nd))] [(.int (own_i q)), (.ref p0)])
    refine hp (fun tq kq => XS.iload X5.here hx rfl (hb hby d7_100) rfl kq) ?_
    show G T5 (mkF m 102 #[.val (.ref p0), .val (.int (own_i pp)), .val (.long (own_key2 ((own_lnf ln) pp) (own_i pp))), .second, .val (.int (own_pri (own_i pp))), .val (.int (own_i q)), .val (.int (own_b g)), .val (.int (own_i nd))] [(.int (own_b g)), (.int (own_i q)), (.ref p0)])
    refine hp (fun tq kq => XS.iloadN X5.here hx rfl (hb hby d7_102) rfl kq) ?_
    show G T5 (mkF m 103 #[.val (.ref p0), .val (.int (own_i pp)), .val (.long (own_key2 ((own_lnf ln) pp) (own_i pp))), .second, .val (.int (own_pri (own_i pp))), .val (.int (own_i q)), .val (.int (own_b g)), .val (.int (own_i nd))] [(.int (own_i pp)), (.int (own_b g)), (.int (own_i q)), (.ref p0)])
    obtain ⟨v7, T7, L7, X7, hQ7, st7⟩ := own_callP X5 hx hZ (y := (⟨"com/example/slabwarden/slabwarden/chunk/FreeRuns", "hang", "(IZI)V"⟩ : MethodName)) (z := (⟨"com/example/slabwarden/slabwarden/chunk/FreeRuns", "shortestAtLeast", "(I)I"⟩ : MethodName)) (rm := ({ frames := 0, cells := 0, slots := 0, locals := 0 } : Room)) 0 hown (hw _ (List.mem_of_getElem? (i := 23) rfl)) rfl (hw _ (List.mem_of_getElem? (i := 54) rfl)) (hw _ (List.mem_of_getElem? (i := 55) rfl)) (hw _ (List.mem_of_getElem? (i := 56) rfl)) (hw _ (List.mem_of_getElem? (i := 2) rfl)) (hw _ (List.mem_of_getElem? (i := 57) rfl)) (by decide) (rm11 l Z a0 hw [] p0 (own_i q) (own_b g) (own_i pp) la ea lf rt ln S1 q g pp T5.heap n0 rfl rfl rfl hq20 ⟨Et6, Frt6, Flt6, Fet6, Fat6, Fbt6, Vlt6, ⟨_, Vet6⟩, Vat6, Vbt6, hlt6, hat6, hbt6⟩ hD) rfl Et6 (by decide) (by decide) (g := (mkF m 103 #[.val (.ref p0), .val (.int (own_i pp)), .val (.long (own_key2 ((own_lnf ln) pp) (own_i pp))), .second, .val (.int (own_pri (own_i pp))), .val (.int (own_i q)), .val (.int (own_b g)), .val (.int (own_i nd))] [(.int (own_i pp)), (.int (own_b g)), (.int (own_i q)), (.ref p0)])) rfl (by rw [hml]; rfl) [(.int (own_i q)), (.int (own_b g)), (.int (own_i pp))] [] own_pd1 rfl rfl (by show 2 * 0 + _ ≤ _; exact Nat.le_of_eq rfl) (hb hby d7_103) rfl hc9w hs9w
    obtain ⟨rfl, N7, Kc7, hT7⟩ := hQ7
    have N7b := Fr.app N5b N7
    have K7 := K5.trans Kc7 (allS (Or.inl (by simp)) (allS (Or.inl (by simp)) (allS (Or.inl (by simp)) all0)))
    obtain ⟨Et8, Frt8, Flt8, Fet8, Fat8, Fbt8, Vlt8, ⟨fet8, Vet8⟩, Vat8, Vbt8, hlt8, hat8, hbt8⟩ := hT7
    refine hp st7 ?_
    show G T7 (mkF m 106 #[.val (.ref p0), .val (.int (own_i pp)), .val (.long (own_key2 ((own_lnf ln) pp) (own_i pp))), .second, .val (.int (own_pri (own_i pp))), .val (.int (own_i q)), .val (.int (own_b g)), .val (.int (own_i nd))] [])
    exact hR X7 (fun fs hl => X7.returnOut hx hret (hb hby d7_106) hl) (fun _ => rfl) ⟨rfl, N7b, K7, hS' ▸ ⟨Et8, Frt8, Flt8, Fet8, Fat8, Fbt8, Vlt8, ⟨_, Vet8⟩, Vat8, Vbt8, hlt8, hat8, hbt8⟩⟩ hc9w hs9w
  have loop : ∀ (fu9 nd9 q9 : Nat) (g9 : Bool) (T9w : State) (locs9w : List Loc) (c9w s9w : Nat), Stand p l e ({ frames := 3, cells := 0, slots := 0, locals := 46 } : Room) s m #[(.ref p0), (.int (own_i pp))] below meth c T9w locs9w c9w s9w → T9w.heap = h0 → Fr n0 locs9w → c9w ≤ 0 → s9w ≤ 0 → own_walk ln pp S fu9 nd9 q9 g9 = some (nd, q, g) → G T9w (mkF m 24 #[.val (.ref p0), .val (.int (own_i pp)), .val (.long (own_key2 ((own_lnf ln) pp) (own_i pp))), .second, .val (.int (own_pri (own_i pp))), .val (.int (own_i q9)), .val (.int (own_b g9)), .val (.int (own_i nd9))] []) := by
    intro fu9
    induction fu9 with
    | zero => intro nd9 q9 g9 T9w locs9w c9w s9w X9w e9w N9w hc9w hs9w hw9; exact nomatch hw9
    | succ fu9 ih =>
      intro nd9 q9 g9 T9w locs9w c9w s9w X9w e9w N9w hc9w hs9w hw9
      by_cases hnd : nd9 = 20
      · subst hnd
        show G T9w (mkF m 24 #[.val (.ref p0), .val (.int (own_i pp)), .val (.long (own_key2 ((own_lnf ln) pp) (own_i pp))), .second, .val (.int (own_pri (own_i pp))), .val (.int (own_i q9)), .val (.int (own_b g9)), .val (.int (own_i 20))] [])
        refine hp (fun tq kq => XS.iload X9w.here hx rfl (hb hby d7_24) rfl kq) ?_
        show G T9w (mkF m 26 #[.val (.ref p0), .val (.int (own_i pp)), .val (.long (own_key2 ((own_lnf ln) pp) (own_i pp))), .second, .val (.int (own_pri (own_i pp))), .val (.int (own_i q9)), .val (.int (own_b g9)), .val (.int (own_i 20))] [(.int (own_i 20))])
        refine hp (fun tq kq => XS.iconst X9w.here hx rfl (hb hby d7_26) kq) ?_
        show G T9w (mkF m 27 #[.val (.ref p0), .val (.int (own_i pp)), .val (.long (own_key2 ((own_lnf ln) pp) (own_i pp))), .second, .val (.int (own_pri (own_i pp))), .val (.int (own_i q9)), .val (.int (own_b g9)), .val (.int (own_i 20))] [(.int (-1 : Int32)), (.int (own_i 20))])
        refine hp (fun tq kq => XS.icmpYes X9w.here hx rfl (pc0 := 27) (pc' := 89) rfl (hb hby d7_27) rfl (teq rfl).1 (by decide) (by decide) kq) ?_
        show G T9w (mkF m 89 #[.val (.ref p0), .val (.int (own_i pp)), .val (.long (own_key2 ((own_lnf ln) pp) (own_i pp))), .second, .val (.int (own_pri (own_i pp))), .val (.int (own_i q9)), .val (.int (own_b g9)), .val (.int (own_i 20))] [])
        cases own_walk_end hw9
        exact fin _ _ _ _ X9w e9w N9w hc9w hs9w
      · by_cases hbig : 20 < nd9
        · exact absurd hw9 (own_walk_big hnd hbig)
        · have hnd2 : nd9 < 20 := by omega
          show G T9w (mkF m 24 #[.val (.ref p0), .val (.int (own_i pp)), .val (.long (own_key2 ((own_lnf ln) pp) (own_i pp))), .second, .val (.int (own_pri (own_i pp))), .val (.int (own_i q9)), .val (.int (own_b g9)), .val (.int (own_i nd9))] [])
          refine hp (fun tq kq => XS.iload X9w.here hx rfl (hb hby d7_24) rfl kq) ?_
          show G T9w (mkF m 26 #[.val (.ref p0), .val (.int (own_i pp)), .val (.long (own_key2 ((own_lnf ln) pp) (own_i pp))), .second, .val (.int (own_pri (own_i pp))), .val (.int (own_i q9)), .val (.int (own_b g9)), .val (.int (own_i nd9))] [(.int (own_i nd9))])
          refine hp (fun tq kq => XS.iconst X9w.here hx rfl (hb hby d7_26) kq) ?_
          show G T9w (mkF m 27 #[.val (.ref p0), .val (.int (own_i pp)), .val (.long (own_key2 ((own_lnf ln) pp) (own_i pp))), .second, .val (.int (own_pri (own_i pp))), .val (.int (own_i q9)), .val (.int (own_b g9)), .val (.int (own_i nd9))] [(.int (-1 : Int32)), (.int (own_i nd9))])
          refine hp (fun tq kq => XS.icmpNo X9w.here hx rfl (hb hby d7_27) rfl (feq (own_ine hnd2)).1 kq) ?_
          show G T9w (mkF m 30 #[.val (.ref p0), .val (.int (own_i pp)), .val (.long (own_key2 ((own_lnf ln) pp) (own_i pp))), .second, .val (.int (own_pri (own_i pp))), .val (.int (own_i q9)), .val (.int (own_b g9)), .val (.int (own_i nd9))] [])
          refine hp (fun tq kq => XS.iload X9w.here hx rfl (hb hby d7_30) rfl kq) ?_
          show G T9w (mkF m 32 #[.val (.ref p0), .val (.int (own_i pp)), .val (.long (own_key2 ((own_lnf ln) pp) (own_i pp))), .second, .val (.int (own_pri (own_i pp))), .val (.int (own_i q9)), .val (.int (own_b g9)), .val (.int (own_i nd9))] [(.int (own_i nd9))])
          obtain ⟨v9, T9, L9, X9, hQ9, st9⟩ := own_callS X9w hx hZ (y := (⟨"com/example/slabwarden/slabwarden/chunk/FreeRuns", "priority", "(I)I"⟩ : MethodName)) (rm := ({ frames := 0, cells := 0, slots := 0, locals := 0 } : Room)) 0 hown (hw _ (List.mem_of_getElem? (i := 45) rfl)) (hw _ (List.mem_of_getElem? (i := 46) rfl)) (hw _ (List.mem_of_getElem? (i := 2) rfl)) (hw _ (List.mem_of_getElem? (i := 47) rfl)) (by decide) (rm9 l Z a0 hw [] (own_i nd9) h0 n0) e9w (by decide) (by decide) (g := (mkF m 32 #[.val (.ref p0), .val (.int (own_i pp)), .val (.long (own_key2 ((own_lnf ln) pp) (own_i pp))), .second, .val (.int (own_pri (own_i pp))), .val (.int (own_i q9)), .val (.int (own_b g9)), .val (.int (own_i nd9))] [(.int (own_i nd9))])) rfl (by rw [hml]; rfl) [(.int (own_i nd9))] [] own_pd3 rfl rfl (by show 2 * 0 + _ ≤ _; exact Nat.le_of_eq rfl) (hb hby d7_32) rfl hc9w hs9w
          obtain ⟨rfl, N9, e9⟩ := hQ9
          have F9 := Fr.app N9w N9
          refine hp st9 ?_
          show G T9 (mkF m 35 #[.val (.ref p0), .val (.int (own_i pp)), .val (.long (own_key2 ((own_lnf ln) pp) (own_i pp))), .second, .val (.int (own_pri (own_i pp))), .val (.int (own_i q9)), .val (.int (own_b g9)), .val (.int (own_i nd9))] [(.int (own_pri (own_i nd9)))])
          refine hp (fun tq kq => XS.iload X9.here hx rfl (hb hby d7_35) rfl kq) ?_
          show G T9 (mkF m 37 #[.val (.ref p0), .val (.int (own_i pp)), .val (.long (own_key2 ((own_lnf ln) pp) (own_i pp))), .second, .val (.int (own_pri (own_i pp))), .val (.int (own_i q9)), .val (.int (own_b g9)), .val (.int (own_i nd9))] [(.int (own_pri (own_i pp))), (.int (own_pri (own_i nd9)))])
          by_cases hb10 : (own_pri (own_i pp)) < (own_pri (own_i nd9))
          · refine hp (fun tq kq => XS.icmpNo X9.here hx rfl (hb hby d7_37) rfl (tlt hb10).2.2.2 kq) ?_
            show G T9 (mkF m 40 #[.val (.ref p0), .val (.int (own_i pp)), .val (.long (own_key2 ((own_lnf ln) pp) (own_i pp))), .second, .val (.int (own_pri (own_i pp))), .val (.int (own_i q9)), .val (.int (own_b g9)), .val (.int (own_i nd9))] [])
            refine hp (fun tq kq => XS.iload X9.here hx rfl (hb hby d7_40) rfl kq) ?_
            show G T9 (mkF m 42 #[.val (.ref p0), .val (.int (own_i pp)), .val (.long (own_key2 ((own_lnf ln) pp) (own_i pp))), .second, .val (.int (own_pri (own_i pp))), .val (.int (own_i q9)), .val (.int (own_b g9)), .val (.int (own_i nd9))] [(.int (own_i nd9))])
            refine hp (fun tq kq => XS.istore X9.here hx rfl (hb hby d7_42) rfl (l' := #[.val (.ref p0), .val (.int (own_i pp)), .val (.long (own_key2 ((own_lnf ln) pp) (own_i pp))), .second, .val (.int (own_pri (own_i pp))), .val (.int (own_i nd9)), .val (.int (own_b g9)), .val (.int (own_i nd9))]) rfl kq) ?_
            show G T9 (mkF m 44 #[.val (.ref p0), .val (.int (own_i pp)), .val (.long (own_key2 ((own_lnf ln) pp) (own_i pp))), .second, .val (.int (own_pri (own_i pp))), .val (.int (own_i nd9)), .val (.int (own_b g9)), .val (.int (own_i nd9))] [])
            refine hp (fun tq kq => XS.lloadN X9.here hx rfl (hb hby d7_44) rfl kq) ?_
            show G T9 (mkF m 45 #[.val (.ref p0), .val (.int (own_i pp)), .val (.long (own_key2 ((own_lnf ln) pp) (own_i pp))), .second, .val (.int (own_pri (own_i pp))), .val (.int (own_i nd9)), .val (.int (own_b g9)), .val (.int (own_i nd9))] [(.long (own_key2 ((own_lnf ln) pp) (own_i pp)))])
            refine hp (fun tq kq => XS.aloadN X9.here hx rfl (hb hby d7_45) rfl rfl kq) ?_
            show G T9 (mkF m 46 #[.val (.ref p0), .val (.int (own_i pp)), .val (.long (own_key2 ((own_lnf ln) pp) (own_i pp))), .second, .val (.int (own_pri (own_i pp))), .val (.int (own_i nd9)), .val (.int (own_b g9)), .val (.int (own_i nd9))] [(.ref p0), (.long (own_key2 ((own_lnf ln) pp) (own_i pp)))])
            refine hp (fun tq kq => XS.iload X9.here hx rfl (hb hby d7_46) rfl kq) ?_
            show G T9 (mkF m 48 #[.val (.ref p0), .val (.int (own_i pp)), .val (.long (own_key2 ((own_lnf ln) pp) (own_i pp))), .second, .val (.int (own_pri (own_i pp))), .val (.int (own_i nd9)), .val (.int (own_b g9)), .val (.int (own_i nd9))] [(.int (own_i nd9)), (.ref p0), (.long (own_key2 ((own_lnf ln) pp) (own_i pp)))])
            obtain ⟨v11, T11, L11, X11, hQ11, st11⟩ := own_callP X9 hx hZ (y := (⟨"com/example/slabwarden/slabwarden/chunk/FreeRuns", "key", "(I)J"⟩ : MethodName)) (z := (⟨"com/example/slabwarden/slabwarden/chunk/FreeRuns", "shortestAtLeast", "(I)I"⟩ : MethodName)) (rm := ({ frames := 1, cells := 0, slots := 0, locals := 13 } : Room)) 2 hown (hw _ (List.mem_of_getElem? (i := 23) rfl)) rfl (hw _ (List.mem_of_getElem? (i := 41) rfl)) (hw _ (List.mem_of_getElem? (i := 42) rfl)) (hw _ (List.mem_of_getElem? (i := 43) rfl)) (hw _ (List.mem_of_getElem? (i := 2) rfl)) (hw _ (List.mem_of_getElem? (i := 44) rfl)) (by decide) (rm8 l Z a0 hw [] p0 (own_i nd9) la ea lf rt ln S nd9 h0 n0 rfl hnd2 ⟨Et1, Frt1, Flt1, Fet1, Fat1, Fbt1, Vlt1, ⟨_, Vet1⟩, Vat1, Vbt1, hlt1, hat1, hbt1⟩) e9 Et1 (by decide) (by decide) (g := (mkF m 48 #[.val (.ref p0), .val (.int (own_i pp)), .val (.long (own_key2 ((own_lnf ln) pp) (own_i pp))), .second, .val (.int (own_pri (own_i pp))), .val (.int (own_i nd9)), .val (.int (own_b g9)), .val (.int (own_i nd9))] [(.int (own_i nd9)), (.ref p0), (.long (own_key2 ((own_lnf ln) pp) (own_i pp)))])) rfl (by rw [hml]; rfl) [(.int (own_i nd9))] [(.long (own_key2 ((own_lnf ln) pp) (own_i pp)))] own_pd2 rfl rfl (by show 2 * 0 + _ ≤ _; exact Nat.le_of_eq rfl) (hb hby d7_48) rfl hc9w hs9w
            obtain ⟨rfl, N11, e11⟩ := hQ11
            have N11b := Fr.app F9 N11
            refine hp st11 ?_
            show G T11 (mkF m 51 #[.val (.ref p0), .val (.int (own_i pp)), .val (.long (own_key2 ((own_lnf ln) pp) (own_i pp))), .second, .val (.int (own_pri (own_i pp))), .val (.int (own_i nd9)), .val (.int (own_b g9)), .val (.int (own_i nd9))] [(.long (own_key2 ((own_lnf ln) nd9) (own_i nd9))), (.long (own_key2 ((own_lnf ln) pp) (own_i pp)))])
            refine hp (fun tq kq => XS.lcmp X11.here hx rfl (hb hby d7_51) rfl kq) ?_
            show G T11 (mkF m 52 #[.val (.ref p0), .val (.int (own_i pp)), .val (.long (own_key2 ((own_lnf ln) pp) (own_i pp))), .second, .val (.int (own_pri (own_i pp))), .val (.int (own_i nd9)), .val (.int (own_b g9)), .val (.int (own_i nd9))] [(.int (lcmpW (own_key2 ((own_lnf ln) pp) (own_i pp)) (own_key2 ((own_lnf ln) nd9) (own_i nd9))))])
            by_cases hb12 : (own_key2 ((own_lnf ln) nd9) (own_i nd9)) < (own_key2 ((own_lnf ln) pp) (own_i pp))
            · refine hp (fun tq kq => XS.ifNo X11.here hx rfl (hb hby d7_52) rfl ((if0 _ _).trans (tlt ((lw_gt _ _).mpr hb12)).2.2.2) kq) ?_
              show G T11 (mkF m 55 #[.val (.ref p0), .val (.int (own_i pp)), .val (.long (own_key2 ((own_lnf ln) pp) (own_i pp))), .second, .val (.int (own_pri (own_i pp))), .val (.int (own_i nd9)), .val (.int (own_b g9)), .val (.int (own_i nd9))] [])
              refine hp (fun tq kq => XS.iconst X11.here hx rfl (hb hby d7_55) kq) ?_
              show G T11 (mkF m 56 #[.val (.ref p0), .val (.int (own_i pp)), .val (.long (own_key2 ((own_lnf ln) pp) (own_i pp))), .second, .val (.int (own_pri (own_i pp))), .val (.int (own_i nd9)), .val (.int (own_b g9)), .val (.int (own_i nd9))] [(.int (1 : Int32))])
              refine hp (fun tq kq => XS.goto X11.here hx rfl (pc0 := 56) (pc' := 60) rfl (hb hby d7_56) (by decide) (by decide) kq) ?_
              show G T11 (mkF m 60 #[.val (.ref p0), .val (.int (own_i pp)), .val (.long (own_key2 ((own_lnf ln) pp) (own_i pp))), .second, .val (.int (own_pri (own_i pp))), .val (.int (own_i nd9)), .val (.int (own_b g9)), .val (.int (own_i nd9))] [(.int (1 : Int32))])
              refine hp (fun tq kq => XS.istore X11.here hx rfl (hb hby d7_60) rfl (l' := #[.val (.ref p0), .val (.int (own_i pp)), .val (.long (own_key2 ((own_lnf ln) pp) (own_i pp))), .second, .val (.int (own_pri (own_i pp))), .val (.int (own_i nd9)), .val (.int (1 : Int32)), .val (.int (own_i nd9))]) rfl kq) ?_
              show G T11 (mkF m 62 #[.val (.ref p0), .val (.int (own_i pp)), .val (.long (own_key2 ((own_lnf ln) pp) (own_i pp))), .second, .val (.int (own_pri (own_i pp))), .val (.int (own_i nd9)), .val (.int (1 : Int32)), .val (.int (own_i nd9))] [])
              refine hp (fun tq kq => XS.iload X11.here hx rfl (hb hby d7_62) rfl kq) ?_
              show G T11 (mkF m 64 #[.val (.ref p0), .val (.int (own_i pp)), .val (.long (own_key2 ((own_lnf ln) pp) (own_i pp))), .second, .val (.int (own_pri (own_i pp))), .val (.int (own_i nd9)), .val (.int (1 : Int32)), .val (.int (own_i nd9))] [(.int (1 : Int32))])
              refine hp (fun tq kq => XS.ifNo X11.here hx rfl (hb hby d7_64) rfl ((if0 _ _).trans (feq (by decide)).1) kq) ?_
              show G T11 (mkF m 67 #[.val (.ref p0), .val (.int (own_i pp)), .val (.long (own_key2 ((own_lnf ln) pp) (own_i pp))), .second, .val (.int (own_pri (own_i pp))), .val (.int (own_i nd9)), .val (.int (1 : Int32)), .val (.int (own_i nd9))] [])
              refine hp (fun tq kq => XS.aloadN X11.here hx rfl (hb hby d7_67) rfl rfl kq) ?_
              show G T11 (mkF m 68 #[.val (.ref p0), .val (.int (own_i pp)), .val (.long (own_key2 ((own_lnf ln) pp) (own_i pp))), .second, .val (.int (own_pri (own_i pp))), .val (.int (own_i nd9)), .val (.int (1 : Int32)), .val (.int (own_i nd9))] [(.ref p0)])
              obtain ⟨T13, X13, e13, st13⟩ := getF X11 hx hZ hown (host := "") (Or.inl (hw _ (List.mem_of_getElem? (i := 18) rfl))) Via.refl e11 Fbt1 (g := (mkF m 68 #[.val (.ref p0), .val (.int (own_i pp)), .val (.long (own_key2 ((own_lnf ln) pp) (own_i pp))), .second, .val (.int (own_pri (own_i pp))), .val (.int (own_i nd9)), .val (.int (1 : Int32)), .val (.int (own_i nd9))] [(.ref p0)])) rfl rfl (hb hby d7_68)
              refine hp st13 ?_
              show G T13 (mkF m 71 #[.val (.ref p0), .val (.int (own_i pp)), .val (.long (own_key2 ((own_lnf ln) pp) (own_i pp))), .second, .val (.int (own_pri (own_i pp))), .val (.int (own_i nd9)), .val (.int (1 : Int32)), .val (.int (own_i nd9))] [(.ref rt)])
              refine hp (fun tq kq => XS.iload X13.here hx rfl (hb hby d7_71) rfl kq) ?_
              show G T13 (mkF m 73 #[.val (.ref p0), .val (.int (own_i pp)), .val (.long (own_key2 ((own_lnf ln) pp) (own_i pp))), .second, .val (.int (own_pri (own_i pp))), .val (.int (own_i nd9)), .val (.int (1 : Int32)), .val (.int (own_i nd9))] [(.int (own_i nd9)), (.ref rt)])
              refine hp (own_ldI X13 hx hZ e13 Vbt1 (j := (own_i nd9)) nd9 (own_ii hnd2).1 (own_ii hnd2).2 hnd2 (g := (mkF m 73 #[.val (.ref p0), .val (.int (own_i pp)), .val (.long (own_key2 ((own_lnf ln) pp) (own_i pp))), .second, .val (.int (own_pri (own_i pp))), .val (.int (own_i nd9)), .val (.int (1 : Int32)), .val (.int (own_i nd9))] [(.int (own_i nd9)), (.ref rt)])) rfl rfl (hb hby d7_73)) ?_
              show G T13 (mkF m 74 #[.val (.ref p0), .val (.int (own_i pp)), .val (.long (own_key2 ((own_lnf ln) pp) (own_i pp))), .second, .val (.int (own_pri (own_i pp))), .val (.int (own_i nd9)), .val (.int (1 : Int32)), .val (.int (own_i nd9))] [(.int ((own_arr S.2.2) nd9))])
              refine hp (fun tq kq => XS.goto X13.here hx rfl (pc0 := 74) (pc' := 84) rfl (hb hby d7_74) (by decide) (by decide) kq) ?_
              show G T13 (mkF m 84 #[.val (.ref p0), .val (.int (own_i pp)), .val (.long (own_key2 ((own_lnf ln) pp) (own_i pp))), .second, .val (.int (own_pri (own_i pp))), .val (.int (own_i nd9)), .val (.int (1 : Int32)), .val (.int (own_i nd9))] [(.int ((own_arr S.2.2) nd9))])
              refine hp (fun tq kq => XS.istore X13.here hx rfl (hb hby d7_84) rfl (l' := #[.val (.ref p0), .val (.int (own_i pp)), .val (.long (own_key2 ((own_lnf ln) pp) (own_i pp))), .second, .val (.int (own_pri (own_i pp))), .val (.int (own_i nd9)), .val (.int (1 : Int32)), .val (.int ((own_arr S.2.2) nd9))]) rfl kq) ?_
              show G T13 (mkF m 86 #[.val (.ref p0), .val (.int (own_i pp)), .val (.long (own_key2 ((own_lnf ln) pp) (own_i pp))), .second, .val (.int (own_pri (own_i pp))), .val (.int (own_i nd9)), .val (.int (1 : Int32)), .val (.int ((own_arr S.2.2) nd9))] [])
              refine hp (fun tq kq => XS.goto X13.here hx rfl (pc0 := 86) (pc' := 24) rfl (hb hby d7_86) (by decide) (by decide) kq) ?_
              show G T13 (mkF m 24 #[.val (.ref p0), .val (.int (own_i pp)), .val (.long (own_key2 ((own_lnf ln) pp) (own_i pp))), .second, .val (.int (own_pri (own_i pp))), .val (.int (own_i nd9)), .val (.int (1 : Int32)), .val (.int ((own_arr S.2.2) nd9))] [])
              exact ih _ _ _ _ _ _ _ X13 e13 N11b hc9w hs9w (own_walk_r hnd hbig ((own_pri_iff hpp hnd2).mp hb10) ((own_klt_iff hln hnd2 hpp).mp hb12) hw9)
            · refine hp (fun tq kq => XS.ifYes X11.here hx rfl (pc0 := 52) (pc' := 59) rfl (hb hby d7_52) rfl ((if0 _ _).trans (flt (fun q => hb12 ((lw_gt _ _).mp q))).2.2.2) (by decide) (by decide) kq) ?_
              show G T11 (mkF m 59 #[.val (.ref p0), .val (.int (own_i pp)), .val (.long (own_key2 ((own_lnf ln) pp) (own_i pp))), .second, .val (.int (own_pri (own_i pp))), .val (.int (own_i nd9)), .val (.int (own_b g9)), .val (.int (own_i nd9))] [])
              refine hp (fun tq kq => XS.iconst X11.here hx rfl (hb hby d7_59) kq) ?_
              show G T11 (mkF m 60 #[.val (.ref p0), .val (.int (own_i pp)), .val (.long (own_key2 ((own_lnf ln) pp) (own_i pp))), .second, .val (.int (own_pri (own_i pp))), .val (.int (own_i nd9)), .val (.int (own_b g9)), .val (.int (own_i nd9))] [(.int (0 : Int32))])
              refine hp (fun tq kq => XS.istore X11.here hx rfl (hb hby d7_60) rfl (l' := #[.val (.ref p0), .val (.int (own_i pp)), .val (.long (own_key2 ((own_lnf ln) pp) (own_i pp))), .second, .val (.int (own_pri (own_i pp))), .val (.int (own_i nd9)), .val (.int (0 : Int32)), .val (.int (own_i nd9))]) rfl kq) ?_
              show G T11 (mkF m 62 #[.val (.ref p0), .val (.int (own_i pp)), .val (.long (own_key2 ((own_lnf ln) pp) (own_i pp))), .second, .val (.int (own_pri (own_i pp))), .val (.int (own_i nd9)), .val (.int (0 : Int32)), .val (.int (own_i nd9))] [])
              refine hp (fun tq kq => XS.iload X11.here hx rfl (hb hby d7_62) rfl kq) ?_
              show G T11 (mkF m 64 #[.val (.ref p0), .val (.int (own_i pp)), .val (.long (own_key2 ((own_lnf ln) pp) (own_i pp))), .second, .val (.int (own_pri (own_i pp))), .val (.int (own_i nd9)), .val (.int (0 : Int32)), .val (.int (own_i nd9))] [(.int (0 : Int32))])
              refine hp (fun tq kq => XS.ifYes X11.here hx rfl (pc0 := 64) (pc' := 77) rfl (hb hby d7_64) rfl ((if0 _ _).trans (teq (by decide)).1) (by decide) (by decide) kq) ?_
              show G T11 (mkF m 77 #[.val (.ref p0), .val (.int (own_i pp)), .val (.long (own_key2 ((own_lnf ln) pp) (own_i pp))), .second, .val (.int (own_pri (own_i pp))), .val (.int (own_i nd9)), .val (.int (0 : Int32)), .val (.int (own_i nd9))] [])
              refine hp (fun tq kq => XS.aloadN X11.here hx rfl (hb hby d7_77) rfl rfl kq) ?_
              show G T11 (mkF m 78 #[.val (.ref p0), .val (.int (own_i pp)), .val (.long (own_key2 ((own_lnf ln) pp) (own_i pp))), .second, .val (.int (own_pri (own_i pp))), .val (.int (own_i nd9)), .val (.int (0 : Int32)), .val (.int (own_i nd9))] [(.ref p0)])
              obtain ⟨T14, X14, e14, st14⟩ := getF X11 hx hZ hown (host := "") (Or.inl (hw _ (List.mem_of_getElem? (i := 16) rfl))) Via.refl e11 Fat1 (g := (mkF m 78 #[.val (.ref p0), .val (.int (own_i pp)), .val (.long (own_key2 ((own_lnf ln) pp) (own_i pp))), .second, .val (.int (own_pri (own_i pp))), .val (.int (own_i nd9)), .val (.int (0 : Int32)), .val (.int (own_i nd9))] [(.ref p0)])) rfl rfl (hb hby d7_78)
              refine hp st14 ?_
              show G T14 (mkF m 81 #[.val (.ref p0), .val (.int (own_i pp)), .val (.long (own_key2 ((own_lnf ln) pp) (own_i pp))), .second, .val (.int (own_pri (own_i pp))), .val (.int (own_i nd9)), .val (.int (0 : Int32)), .val (.int (own_i nd9))] [(.ref lf)])
              refine hp (fun tq kq => XS.iload X14.here hx rfl (hb hby d7_81) rfl kq) ?_
              show G T14 (mkF m 83 #[.val (.ref p0), .val (.int (own_i pp)), .val (.long (own_key2 ((own_lnf ln) pp) (own_i pp))), .second, .val (.int (own_pri (own_i pp))), .val (.int (own_i nd9)), .val (.int (0 : Int32)), .val (.int (own_i nd9))] [(.int (own_i nd9)), (.ref lf)])
              refine hp (own_ldI X14 hx hZ e14 Vat1 (j := (own_i nd9)) nd9 (own_ii hnd2).1 (own_ii hnd2).2 hnd2 (g := (mkF m 83 #[.val (.ref p0), .val (.int (own_i pp)), .val (.long (own_key2 ((own_lnf ln) pp) (own_i pp))), .second, .val (.int (own_pri (own_i pp))), .val (.int (own_i nd9)), .val (.int (0 : Int32)), .val (.int (own_i nd9))] [(.int (own_i nd9)), (.ref lf)])) rfl rfl (hb hby d7_83)) ?_
              show G T14 (mkF m 84 #[.val (.ref p0), .val (.int (own_i pp)), .val (.long (own_key2 ((own_lnf ln) pp) (own_i pp))), .second, .val (.int (own_pri (own_i pp))), .val (.int (own_i nd9)), .val (.int (0 : Int32)), .val (.int (own_i nd9))] [(.int ((own_arr S.2.1) nd9))])
              refine hp (fun tq kq => XS.istore X14.here hx rfl (hb hby d7_84) rfl (l' := #[.val (.ref p0), .val (.int (own_i pp)), .val (.long (own_key2 ((own_lnf ln) pp) (own_i pp))), .second, .val (.int (own_pri (own_i pp))), .val (.int (own_i nd9)), .val (.int (0 : Int32)), .val (.int ((own_arr S.2.1) nd9))]) rfl kq) ?_
              show G T14 (mkF m 86 #[.val (.ref p0), .val (.int (own_i pp)), .val (.long (own_key2 ((own_lnf ln) pp) (own_i pp))), .second, .val (.int (own_pri (own_i pp))), .val (.int (own_i nd9)), .val (.int (0 : Int32)), .val (.int ((own_arr S.2.1) nd9))] [])
              refine hp (fun tq kq => XS.goto X14.here hx rfl (pc0 := 86) (pc' := 24) rfl (hb hby d7_86) (by decide) (by decide) kq) ?_
              show G T14 (mkF m 24 #[.val (.ref p0), .val (.int (own_i pp)), .val (.long (own_key2 ((own_lnf ln) pp) (own_i pp))), .second, .val (.int (own_pri (own_i pp))), .val (.int (own_i nd9)), .val (.int (0 : Int32)), .val (.int ((own_arr S.2.1) nd9))] [])
              exact ih _ _ _ _ _ _ _ X14 e14 N11b hc9w hs9w (own_walk_l hnd hbig ((own_pri_iff hpp hnd2).mp hb10) (fun z => hb12 ((own_klt_iff hln hnd2 hpp).mpr z)) hw9)
          · refine hp (fun tq kq => XS.icmpYes X9.here hx rfl (pc0 := 37) (pc' := 89) rfl (hb hby d7_37) rfl (flt hb10).2.2.2 (by decide) (by decide) kq) ?_
            show G T9 (mkF m 89 #[.val (.ref p0), .val (.int (own_i pp)), .val (.long (own_key2 ((own_lnf ln) pp) (own_i pp))), .second, .val (.int (own_pri (own_i pp))), .val (.int (own_i q9)), .val (.int (own_b g9)), .val (.int (own_i nd9))] [])
            cases own_walk_stop hnd hbig (fun z => hb10 ((own_pri_iff hpp hnd2).mpr z)) hw9
            exact fin _ _ _ _ X9 e9 F9 hc9w hs9w
  exact loop 6 S.1 20 false _ _ _ _ X4 e4 F3 (by decide) (by decide) hwk
theorem d6_0 : decode prog_20_method_5_code 0 = .ok (.aload_n 0, 1) := by decide +kernel
theorem d6_1 : decode prog_20_method_5_code 1 = .ok (.getfield 13, 3) := by decide +kernel
theorem d6_4 : decode prog_20_method_5_code 4 = .ok (.iload_n 1, 1) := by decide +kernel
theorem d6_5 : decode prog_20_method_5_code 5 = .ok (.iload_n 2, 1) := by decide +kernel
theorem d6_6 : decode prog_20_method_5_code 6 = .ok (.iastore, 1) := by decide +kernel
theorem d6_7 : decode prog_20_method_5_code 7 = .ok (.aload_n 0, 1) := by decide +kernel
theorem d6_8 : decode prog_20_method_5_code 8 = .ok (.getfield 17, 3) := by decide +kernel
theorem d6_11 : decode prog_20_method_5_code 11 = .ok (.iload_n 1, 1) := by decide +kernel
theorem d6_12 : decode prog_20_method_5_code 12 = .ok (.iload_n 2, 1) := by decide +kernel
theorem d6_13 : decode prog_20_method_5_code 13 = .ok (.iadd, 1) := by decide +kernel
theorem d6_14 : decode prog_20_method_5_code 14 = .ok (.iconst 1, 1) := by decide +kernel
theorem d6_15 : decode prog_20_method_5_code 15 = .ok (.isub, 1) := by decide +kernel
theorem d6_16 : decode prog_20_method_5_code 16 = .ok (.iload_n 1, 1) := by decide +kernel
theorem d6_17 : decode prog_20_method_5_code 17 = .ok (.iconst 1, 1) := by decide +kernel
theorem d6_18 : decode prog_20_method_5_code 18 = .ok (.iadd, 1) := by decide +kernel
theorem d6_19 : decode prog_20_method_5_code 19 = .ok (.iastore, 1) := by decide +kernel
theorem d6_20 : decode prog_20_method_5_code 20 = .ok (.aload_n 0, 1) := by decide +kernel
theorem d6_21 : decode prog_20_method_5_code 21 = .ok (.iload_n 1, 1) := by decide +kernel
theorem d6_22 : decode prog_20_method_5_code 22 = .ok (.invokevirtual 33, 3) := by decide +kernel
theorem d6_25 : decode prog_20_method_5_code 25 = .ok (.return_, 1) := by decide +kernel
theorem own_ef6 (m : MethodId) (p0 : Addr) (p1 : Int32) (p2 : Int32) : entryFrame m #[(.ref p0), (.int p1), (.int p2)] 3 = mkF m 0 #[.val (.ref p0), .val (.int p1), .val (.int p2)] [] := by first | (simp [entryFrame, mkF, argsToLocals, Value.category]; done) | rfl
theorem own_add_spec {ln ln' : List Nat} {S S' : own_S} {s len : Nat} (h : own_add s len (ln, S) = some (ln', S')) : own_insert (ln.set s len) s S = some S' ∧ ln.set s len = ln' := by
  unfold own_add at h
  split at h
  · exact nomatch h
  · rename_i S1 hs
    have q := Option.some.inj h
    cases q
    exact ⟨hs, rfl⟩
theorem own_endix {pp len : Nat} (hpq : pp < 18) (hlen : 1 ≤ len ∧ len ≤ 3) : (((own_i pp) + (Int32.ofNat len)) - (1 : Int32)).toNatClampNeg = pp + len - 1 ∧ ¬ (((own_i pp) + (Int32.ofNat len)) - (1 : Int32)) < 0 ∧ pp + len - 1 < 20 := by
  have a := own_ival (show pp < 20 by omega)
  have b : (Int32.ofNat len).toInt = (len : Int) := Int32.toInt_ofNat_of_lt (by omega)
  have e : (1 : Int32).toInt = 1 := by decide
  have e0 : (0 : Int32).toInt = 0 := by decide
  have c := c_iadd (own_i pp) (Int32.ofNat len)
  have r := rng32 (own_i pp + Int32.ofNat len)
  rw [a, b] at c
  have q : (own_i pp + Int32.ofNat len).toInt = pp + len := by
    generalize (own_i pp + Int32.ofNat len).toInt = y at *
    omega
  have d := c_isub (own_i pp + Int32.ofNat len) 1
  have r2 := rng32 (own_i pp + Int32.ofNat len - 1)
  rw [q, e] at d
  rw [Int32.lt_iff_toInt_lt, e0, Int32.toNatClampNeg]
  generalize (own_i pp + Int32.ofNat len - 1).toInt = y at *
  omega
abbrev own_Qx (Z : State) (p0 la ea lf rt : Addr) (ln : List Nat) (S : own_S) (h0 : Heap) (n0 : Nat) (v : Option Value) (h : Heap) (L : List Loc) : Prop := v = none ∧ Fr n0 L ∧ Keep h0 h [p0, la, ea, lf, rt] ∧ own_T Z h p0 la ea lf rt ln S
theorem own_pn6 : plainName "com/example/slabwarden/slabwarden/chunk/FreeRuns" = true := by first | (simp [plainName, overriddenIn]; done) | decide +kernel
set_option maxRecDepth 65536 in
set_option maxHeartbeats 40000000 in
theorem rm6 (l : Launch) (Z : State) (a0 : Array Value) (hw : ∀ d ∈ tables_1, d.before a0 Z = true) (ws : List Jvm.Cond) (p0 : Addr) (p1 : Int32) (p2 : Int32) (la ea lf rt : Addr) (ln : List Nat) (S : own_S) (pp len : Nat) (ln' : List Nat) (S' : own_S) (h0 : Heap) (n0 : Nat) (h1 : p1 = own_i pp) (h2 : p2 = Int32.ofNat len) (hpq : pp < 18) (hlen : 1 ≤ len ∧ len ≤ 3) (hln : own_small ln) (hT : own_T Z h0 p0 la ea lf rt ln S) (hD : own_D n0 p0 la ea lf rt) (hm : own_add pp len (ln, S) = some (ln', S')) :
    MetFree l (⟨"com/example/slabwarden/slabwarden/chunk/FreeRuns", "add", "(II)V"⟩ : MethodName) (head1 (Jvm.Cond.code (⟨"com/example/slabwarden/slabwarden/chunk/FreeRuns", "add", "(II)V"⟩ : MethodName) prog_20_method_5_code 3 none :: ws) ({ frames := 4, cells := 0, slots := 0, locals := 65 } : Room)) (fun a U => a = #[(.ref p0), (.int p1), (.int p2)] ∧ Z.Warmed39 U.vm ∧ U.heap = h0) (fun _ _ _ _ _ => True) (fun _ U o U' => ∃ v L, o = .returned v ∧ own_Qx Z p0 la ea lf rt ln' S' h0 n0 v U'.heap L ∧ FrameEnd U o U' L ({ frames := 4, cells := 0, slots := 0, locals := 65 } : Room).cells ({ frames := 4, cells := 0, slots := 0, locals := 65 } : Room).slots) := by
  refine own_contract (plainFor_of_name own_pn6) (fun m => own_ef6 m p0 p1 p2) ?_
  intro p e s m below meth c s₁ G hx hby hml0 hown0 hnm hret hZ X0 e0 hp hR
  have hml : c.maxLocals = 3 := hml0
  have hown : s.vm.findClass "com/example/slabwarden/slabwarden/chunk/FreeRuns" = some m.cls := hown0
  have N0 := Fr.nil n0
  show G s₁ (mkF m 0 #[.val (.ref p0), .val (.int p1), .val (.int p2)] [])
  have K0 : Keep h0 h0 [p0, la, ea, lf, rt] := Keep.refl _ _
  have hpp : pp < 20 := by omega
  subst h1 h2
  obtain ⟨g_o, g_la, g_ea, g_lf, g_rt, n_o_la, n_o_ea, n_o_lf, n_o_rt, n_la_ea, n_la_lf, n_la_rt, n_ea_lf, n_ea_rt, n_lf_rt⟩ := id hD
  obtain ⟨Et1, Frt1, Flt1, Fet1, Fat1, Fbt1, Vlt1, ⟨fet1, Vet1⟩, Vat1, Vbt1, hlt1, hat1, hbt1⟩ := id hT
  show G s₁ (mkF m 0 #[.val (.ref p0), .val (.int (own_i pp)), .val (.int (Int32.ofNat len))] [])
  obtain ⟨hins, hln'⟩ := own_add_spec hm
  have hln2 := own_small_set hln pp hlen.2
  have hix := own_endix hpq hlen
  refine hp (fun tq kq => XS.aloadN X0.here hx rfl (hb hby d6_0) rfl rfl kq) ?_
  show G s₁ (mkF m 1 #[.val (.ref p0), .val (.int (own_i pp)), .val (.int (Int32.ofNat len))] [(.ref p0)])
  obtain ⟨T2, X2, e2, st2⟩ := getF X0 hx hZ hown (host := "") (Or.inl (hw _ (List.mem_of_getElem? (i := 12) rfl))) Via.refl e0 Flt1 (g := (mkF m 1 #[.val (.ref p0), .val (.int (own_i pp)), .val (.int (Int32.ofNat len))] [(.ref p0)])) rfl rfl (hb hby d6_1)
  refine hp st2 ?_
  show G T2 (mkF m 4 #[.val (.ref p0), .val (.int (own_i pp)), .val (.int (Int32.ofNat len))] [(.ref la)])
  refine hp (fun tq kq => XS.iloadN X2.here hx rfl (hb hby d6_4) rfl kq) ?_
  show G T2 (mkF m 5 #[.val (.ref p0), .val (.int (own_i pp)), .val (.int (Int32.ofNat len))] [(.int (own_i pp)), (.ref la)])
  refine hp (fun tq kq => XS.iloadN X2.here hx rfl (hb hby d6_5) rfl kq) ?_
  show G T2 (mkF m 6 #[.val (.ref p0), .val (.int (own_i pp)), .val (.int (Int32.ofNat len))] [(.int (Int32.ofNat len)), (.int (own_i pp)), (.ref la)])
  obtain ⟨T3, h3, X3, e3, W3, V3_la, st3⟩ := own_stI X2 hx hZ e2 Vlt1 (j := (own_i pp)) pp (own_ii hpp).1 (own_ii hpp).2 hpp (g := (mkF m 6 #[.val (.ref p0), .val (.int (own_i pp)), .val (.int (Int32.ofNat len))] [(.int (Int32.ofNat len)), (.int (own_i pp)), (.ref la)])) rfl rfl (hb hby d6_6)
  have V3_ea := Vet1.other W3 (Ne.symm n_la_ea)
  have V3_lf := Vat1.other W3 (Ne.symm n_la_lf)
  have V3_rt := Vbt1.other W3 (Ne.symm n_la_rt)
  have E3_p0 := Exa.wr W3 Et1
  have F3_root_p0 := Fld.other W3 Frt1 (Or.inl n_o_la)
  have F3_lengthOfRunFirstAt_p0 := Fld.other W3 Flt1 (Or.inl n_o_la)
  have F3_firstPlusOneOfRunEndingAt_p0 := Fld.other W3 Fet1 (Or.inl n_o_la)
  have F3_left_p0 := Fld.other W3 Fat1 (Or.inl n_o_la)
  have F3_right_p0 := Fld.other W3 Fbt1 (Or.inl n_o_la)
  have K3 := K0.wr W3 (Or.inl (by simp))
  have N3 := Fr.snoc X3 N0 g_la
  refine hp st3 ?_
  show G T3 (mkF m 7 #[.val (.ref p0), .val (.int (own_i pp)), .val (.int (Int32.ofNat len))] [])
  refine hp (fun tq kq => XS.aloadN X3.here hx rfl (hb hby d6_7) rfl rfl kq) ?_
  show G T3 (mkF m 8 #[.val (.ref p0), .val (.int (own_i pp)), .val (.int (Int32.ofNat len))] [(.ref p0)])
  obtain ⟨T4, X4, e4, st4⟩ := getF X3 hx hZ hown (host := "") (Or.inl (hw _ (List.mem_of_getElem? (i := 14) rfl))) Via.refl e3 F3_firstPlusOneOfRunEndingAt_p0 (g := (mkF m 8 #[.val (.ref p0), .val (.int (own_i pp)), .val (.int (Int32.ofNat len))] [(.ref p0)])) rfl rfl (hb hby d6_8)
  refine hp st4 ?_
  show G T4 (mkF m 11 #[.val (.ref p0), .val (.int (own_i pp)), .val (.int (Int32.ofNat len))] [(.ref ea)])
  refine hp (fun tq kq => XS.iloadN X4.here hx rfl (hb hby d6_11) rfl kq) ?_
  show G T4 (mkF m 12 #[.val (.ref p0), .val (.int (own_i pp)), .val (.int (Int32.ofNat len))] [(.int (own_i pp)), (.ref ea)])
  refine hp (fun tq kq => XS.iloadN X4.here hx rfl (hb hby d6_12) rfl kq) ?_
  show G T4 (mkF m 13 #[.val (.ref p0), .val (.int (own_i pp)), .val (.int (Int32.ofNat len))] [(.int (Int32.ofNat len)), (.int (own_i pp)), (.ref ea)])
  refine hp (fun tq kq => XS.iadd X4.here hx rfl (hb hby d6_13) rfl kq) ?_
  show G T4 (mkF m 14 #[.val (.ref p0), .val (.int (own_i pp)), .val (.int (Int32.ofNat len))] [(.int ((own_i pp) + (Int32.ofNat len))), (.ref ea)])
  refine hp (fun tq kq => XS.iconst X4.here hx rfl (hb hby d6_14) kq) ?_
  show G T4 (mkF m 15 #[.val (.ref p0), .val (.int (own_i pp)), .val (.int (Int32.ofNat len))] [(.int (1 : Int32)), (.int ((own_i pp) + (Int32.ofNat len))), (.ref ea)])
  refine hp (fun tq kq => XS.isub X4.here hx rfl (hb hby d6_15) rfl kq) ?_
  show G T4 (mkF m 16 #[.val (.ref p0), .val (.int (own_i pp)), .val (.int (Int32.ofNat len))] [(.int (((own_i pp) + (Int32.ofNat len)) - (1 : Int32))), (.ref ea)])
  refine hp (fun tq kq => XS.iloadN X4.here hx rfl (hb hby d6_16) rfl kq) ?_
  show G T4 (mkF m 17 #[.val (.ref p0), .val (.int (own_i pp)), .val (.int (Int32.ofNat len))] [(.int (own_i pp)), (.int (((own_i pp) + (Int32.ofNat len)) - (1 : Int32))), (.ref ea)])
  refine hp (fun tq kq => XS.iconst X4.here hx rfl (hb hby d6_17) kq) ?_
  show G T4 (mkF m 18 #[.val (.ref p0), .val (.int (own_i pp)), .val (.int (Int32.ofNat len))] [(.int (1 : Int32)), (.int (own_i pp)), (.int (((own_i pp) + (Int32.ofNat len)) - (1 : Int32))), (.ref ea)])
  refine hp (fun tq kq => XS.iadd X4.here hx rfl (hb hby d6_18) rfl kq) ?_
  show G T4 (mkF m 19 #[.val (.ref p0), .val (.int (own_i pp)), .val (.int (Int32.ofNat len))] [(.int ((own_i pp) + (1 : Int32))), (.int (((own_i pp) + (Int32.ofNat len)) - (1 : Int32))), (.ref ea)])
  obtain ⟨T5, h5, X5, e5, W5, V5_ea, st5⟩ := own_stI X4 hx hZ e4 V3_ea (j := (((own_i pp) + (Int32.ofNat len)) - (1 : Int32))) (pp + len - 1) hix.1 hix.2.1 hix.2.2 (g := (mkF m 19 #[.val (.ref p0), .val (.int (own_i pp)), .val (.int (Int32.ofNat len))] [(.int ((own_i pp) + (1 : Int32))), (.int (((own_i pp) + (Int32.ofNat len)) - (1 : Int32))), (.ref ea)])) rfl rfl (hb hby d6_19)
  have V5_la := V3_la.other W5 n_la_ea
  have V5_lf := V3_lf.other W5 (Ne.symm n_ea_lf)
  have V5_rt := V3_rt.other W5 (Ne.symm n_ea_rt)
  have E5_p0 := Exa.wr W5 E3_p0
  have F5_root_p0 := Fld.other W5 F3_root_p0 (Or.inl n_o_ea)
  have F5_lengthOfRunFirstAt_p0 := Fld.other W5 F3_lengthOfRunFirstAt_p0 (Or.inl n_o_ea)
  have F5_firstPlusOneOfRunEndingAt_p0 := Fld.other W5 F3_firstPlusOneOfRunEndingAt_p0 (Or.inl n_o_ea)
  have F5_left_p0 := Fld.other W5 F3_left_p0 (Or.inl n_o_ea)
  have F5_right_p0 := Fld.other W5 F3_right_p0 (Or.inl n_o_ea)
  have K5 := K3.wr W5 (Or.inl (by simp))
  have N5 := Fr.snoc X5 N3 g_ea
  refine hp st5 ?_
  show G T5 (mkF m 20 #[.val (.ref p0), .val (.int (own_i pp)), .val (.int (Int32.ofNat len))] [])
  refine hp (fun tq kq => XS.aloadN X5.here hx rfl (hb hby d6_20) rfl rfl kq) ?_
  show G T5 (mkF m 21 #[.val (.ref p0), .val (.int (own_i pp)), .val (.int (Int32.ofNat len))] [(.ref p0)])
  refine hp (fun tq kq => XS.iloadN X5.here hx rfl (hb hby d6_21) rfl kq) ?_
  show G T5 (mkF m 22 #[.val (.ref p0), .val (.int (own_i pp)), .val (.int (Int32.ofNat len))] [(.int (own_i pp)), (.ref p0)])
  obtain ⟨v6, T6, L6, X6, hQ6, st6⟩ := own_callP X5 hx hZ (y := (⟨"com/example/slabwarden/slabwarden/chunk/FreeRuns", "insert", "(I)V"⟩ : MethodName)) (z := (⟨"com/example/slabwarden/slabwarden/chunk/FreeRuns", "shortestAtLeast", "(I)I"⟩ : MethodName)) (rm := ({ frames := 3, cells := 0, slots := 0, locals := 46 } : Room)) 0 hown (hw _ (List.mem_of_getElem? (i := 23) rfl)) rfl (hw _ (List.mem_of_getElem? (i := 37) rfl)) (hw _ (List.mem_of_getElem? (i := 38) rfl)) (hw _ (List.mem_of_getElem? (i := 39) rfl)) (hw _ (List.mem_of_getElem? (i := 2) rfl)) (hw _ (List.mem_of_getElem? (i := 40) rfl)) (by decide) (rm7 l Z a0 hw [] p0 (own_i pp) la ea lf rt (ln.set pp len) S pp S' h5 n0 rfl hpp hln2 ⟨E5_p0, F5_root_p0, F5_lengthOfRunFirstAt_p0, F5_firstPlusOneOfRunEndingAt_p0, F5_left_p0, F5_right_p0, (V5_la.cong (own_lnf_set hlt1 hpp len)), ⟨_, V5_ea⟩, V5_lf, V5_rt, (by rw [List.length_set]; exact hlt1), hat1, hbt1⟩ hD hins) e5 E5_p0 (by decide) (by decide) (g := (mkF m 22 #[.val (.ref p0), .val (.int (own_i pp)), .val (.int (Int32.ofNat len))] [(.int (own_i pp)), (.ref p0)])) rfl (by rw [hml]; rfl) [(.int (own_i pp))] [] own_pd5 rfl rfl (by show 2 * 0 + _ ≤ _; exact Nat.le_of_eq rfl) (hb hby d6_22) rfl (by decide) (by decide)
  obtain ⟨rfl, N6, Kc6, hT6⟩ := hQ6
  have N6b := Fr.app N5 N6
  have K6 := K5.trans Kc6 (allS (Or.inl (by simp)) (allS (Or.inl (by simp)) (allS (Or.inl (by simp)) all0)))
  obtain ⟨Et7, Frt7, Flt7, Fet7, Fat7, Fbt7, Vlt7, ⟨fet7, Vet7⟩, Vat7, Vbt7, hlt7, hat7, hbt7⟩ := hT6
  refine hp st6 ?_
  show G T6 (mkF m 25 #[.val (.ref p0), .val (.int (own_i pp)), .val (.int (Int32.ofNat len))] [])
  exact hR X6 (fun fs hl => X6.returnOut hx hret (hb hby d6_25) hl) (fun _ => rfl) ⟨rfl, N6b, K6, hln' ▸ ⟨Et7, Frt7, Flt7, Fet7, Fat7, Fbt7, Vlt7, ⟨_, Vet7⟩, Vat7, Vbt7, hlt7, hat7, hbt7⟩⟩ (by decide) (by decide)
theorem d1_0 : decode prog_20_method_1_code 0 = .ok (.aload_n 0, 1) := by decide +kernel
theorem d1_1 : decode prog_20_method_1_code 1 = .ok (.invokespecial 1, 3) := by decide +kernel
theorem d1_4 : decode prog_20_method_1_code 4 = .ok (.aload_n 0, 1) := by decide +kernel
theorem d1_5 : decode prog_20_method_1_code 5 = .ok (.iconst (-1), 1) := by decide +kernel
theorem d1_6 : decode prog_20_method_1_code 6 = .ok (.putfield 9, 3) := by decide +kernel
theorem d1_9 : decode prog_20_method_1_code 9 = .ok (.aload_n 0, 1) := by decide +kernel
theorem d1_10 : decode prog_20_method_1_code 10 = .ok (.iload_n 1, 1) := by decide +kernel
theorem d1_11 : decode prog_20_method_1_code 11 = .ok (.newarray .int, 2) := by decide +kernel
theorem d1_13 : decode prog_20_method_1_code 13 = .ok (.putfield 13, 3) := by decide +kernel
theorem d1_16 : decode prog_20_method_1_code 16 = .ok (.aload_n 0, 1) := by decide +kernel
theorem d1_17 : decode prog_20_method_1_code 17 = .ok (.iload_n 1, 1) := by decide +kernel
theorem d1_18 : decode prog_20_method_1_code 18 = .ok (.newarray .int, 2) := by decide +kernel
theorem d1_20 : decode prog_20_method_1_code 20 = .ok (.putfield 17, 3) := by decide +kernel
theorem d1_23 : decode prog_20_method_1_code 23 = .ok (.aload_n 0, 1) := by decide +kernel
theorem d1_24 : decode prog_20_method_1_code 24 = .ok (.iload_n 1, 1) := by decide +kernel
theorem d1_25 : decode prog_20_method_1_code 25 = .ok (.newarray .int, 2) := by decide +kernel
theorem d1_27 : decode prog_20_method_1_code 27 = .ok (.putfield 20, 3) := by decide +kernel
theorem d1_30 : decode prog_20_method_1_code 30 = .ok (.aload_n 0, 1) := by decide +kernel
theorem d1_31 : decode prog_20_method_1_code 31 = .ok (.iload_n 1, 1) := by decide +kernel
theorem d1_32 : decode prog_20_method_1_code 32 = .ok (.newarray .int, 2) := by decide +kernel
theorem d1_34 : decode prog_20_method_1_code 34 = .ok (.putfield 23, 3) := by decide +kernel
theorem d1_37 : decode prog_20_method_1_code 37 = .ok (.return_, 1) := by decide +kernel
theorem own_ef1 (m : MethodId) (p0 : Addr) (p1 : Int32) : entryFrame m #[(.ref p0), (.int p1)] 2 = mkF m 0 #[.val (.ref p0), .val (.int p1)] [] := by first | (simp [entryFrame, mkF, argsToLocals, Value.category]; done) | rfl
abbrev own_Qi (Z : State) (p0 : Addr) (h0 : Heap) (n0 : Nat) (v : Option Value) (h : Heap) (L : List Loc) : Prop := ∃ la ea lf rt : Addr, v = none ∧ Fr n0 L ∧ Keep h0 h [p0] ∧ own_T Z h p0 la ea lf rt own_M0.1 own_M0.2 ∧ p0 ≠ la ∧ p0 ≠ ea ∧ p0 ≠ lf ∧ p0 ≠ rt ∧ la ≠ ea ∧ la ≠ lf ∧ la ≠ rt ∧ ea ≠ lf ∧ ea ≠ rt ∧ lf ≠ rt ∧ h0.size ≤ la ∧ h0.size ≤ ea ∧ h0.size ≤ lf ∧ h0.size ≤ rt
theorem own_pn1 : plainName "com/example/slabwarden/slabwarden/chunk/FreeRuns" = true := by first | (simp [plainName, overriddenIn]; done) | decide +kernel
set_option maxRecDepth 65536 in
set_option maxHeartbeats 40000000 in
theorem rm1 (l : Launch) (Z : State) (a0 : Array Value) (hw : ∀ d ∈ tables_1, d.before a0 Z = true) (ws : List Jvm.Cond) (p0 : Addr) (p1 : Int32)  (h0 : Heap) (n0 : Nat) (Z0 : n0 ≤ h0.size) (h20 : p1 = (20 : Int32)) (E_p0 : Exa Z h0 p0 "com/example/slabwarden/slabwarden/chunk/FreeRuns") (F_r : Fld Z h0 p0 "com/example/slabwarden/slabwarden/chunk/FreeRuns" "root" "I" (.int (0 : Int32))) (F_l : Fld Z h0 p0 "com/example/slabwarden/slabwarden/chunk/FreeRuns" "lengthOfRunFirstAt" "[I" .null) (F_e : Fld Z h0 p0 "com/example/slabwarden/slabwarden/chunk/FreeRuns" "firstPlusOneOfRunEndingAt" "[I" .null) (F_a : Fld Z h0 p0 "com/example/slabwarden/slabwarden/chunk/FreeRuns" "left" "[I" .null) (F_b : Fld Z h0 p0 "com/example/slabwarden/slabwarden/chunk/FreeRuns" "right" "[I" .null) (g_p0 : n0 ≤ p0) :
    MetFree l (⟨"com/example/slabwarden/slabwarden/chunk/FreeRuns", "<init>", "(I)V"⟩ : MethodName) (head1 (Jvm.Cond.code (⟨"com/example/slabwarden/slabwarden/chunk/FreeRuns", "<init>", "(I)V"⟩ : MethodName) prog_20_method_1_code 2 none :: ws) ({ frames := 1, cells := 4, slots := 80, locals := 12 } : Room)) (fun a U => a = #[(.ref p0), (.int p1)] ∧ Z.Warmed39 U.vm ∧ U.heap = h0) (fun _ _ _ _ _ => True) (fun _ U o U' => ∃ v L, o = .returned v ∧ own_Qi Z p0 h0 n0 v U'.heap L ∧ FrameEnd U o U' L ({ frames := 1, cells := 4, slots := 80, locals := 12 } : Room).cells ({ frames := 1, cells := 4, slots := 80, locals := 12 } : Room).slots) := by
  refine own_contract (plainFor_of_name own_pn1) (fun m => own_ef1 m p0 p1) ?_
  intro p e s m below meth c s₁ G hx hby hml0 hown0 hnm hret hZ X0 e0 hp hR
  have hml : c.maxLocals = 2 := hml0
  have hown : s.vm.findClass "com/example/slabwarden/slabwarden/chunk/FreeRuns" = some m.cls := hown0
  have N0 := Fr.nil n0
  show G s₁ (mkF m 0 #[.val (.ref p0), .val (.int p1)] [])
  have K0 : Keep h0 h0 [p0] := Keep.refl _ _
  subst h20
  show G s₁ (mkF m 0 #[.val (.ref p0), .val (.int (20 : Int32))] [])
  refine hp (fun tq kq => XS.aloadN X0.here hx rfl (hb hby d1_0) rfl rfl kq) ?_
  show G s₁ (mkF m 1 #[.val (.ref p0), .val (.int (20 : Int32))] [(.ref p0)])
  obtain ⟨T1, X1, e1, st1⟩ := initO X0 hx hZ hown (hw _ (List.mem_of_getElem? (i := 6) rfl)) (hw _ (List.mem_of_getElem? (i := 7) rfl)) (hw _ (List.mem_of_getElem? (i := 8) rfl)) e0 (g := (mkF m 1 #[.val (.ref p0), .val (.int (20 : Int32))] [(.ref p0)])) rfl (by rw [hml]; rfl) rfl (hb hby d1_1) (by decide) (W := 0) (by show 2 * 0 + _ ≤ _; exact Nat.le_of_eq rfl) (by decide)
  refine hp st1 ?_
  show G T1 (mkF m 4 #[.val (.ref p0), .val (.int (20 : Int32))] [])
  refine hp (fun tq kq => XS.aloadN X1.here hx rfl (hb hby d1_4) rfl rfl kq) ?_
  show G T1 (mkF m 5 #[.val (.ref p0), .val (.int (20 : Int32))] [(.ref p0)])
  refine hp (fun tq kq => XS.iconst X1.here hx rfl (hb hby d1_5) kq) ?_
  show G T1 (mkF m 6 #[.val (.ref p0), .val (.int (20 : Int32))] [(.int (-1 : Int32)), (.ref p0)])
  obtain ⟨T2, h2, X2, e2, W2, st2⟩ := putF X1 hx hZ hown (host := "") (Or.inl (hw _ (List.mem_of_getElem? (i := 9) rfl))) Via.refl e1 F_r E_p0 (Or.inl (hw _ (List.mem_of_getElem? (i := 10) rfl))) (hw _ (List.mem_of_getElem? (i := 1) rfl)) (ty := .int) (by decide) rfl rfl (g := (mkF m 6 #[.val (.ref p0), .val (.int (20 : Int32))] [(.int (-1 : Int32)), (.ref p0)])) rfl rfl (hb hby d1_6)
  have F2_root_p0 := Fld.same W2 F_r
  have E2_p0 := Exa.wr W2 E_p0
  have F2_lengthOfRunFirstAt_p0 := Fld.other W2 F_l (Or.inr (slot_ne (Or.inr (hw _ (List.mem_of_getElem? (i := 13) rfl))) (Or.inl (hw _ (List.mem_of_getElem? (i := 10) rfl))) (by decide) (t := (.array .int)) (t' := .int) (by decide) (by decide)))
  have F2_firstPlusOneOfRunEndingAt_p0 := Fld.other W2 F_e (Or.inr (slot_ne (Or.inr (hw _ (List.mem_of_getElem? (i := 15) rfl))) (Or.inl (hw _ (List.mem_of_getElem? (i := 10) rfl))) (by decide) (t := (.array .int)) (t' := .int) (by decide) (by decide)))
  have F2_left_p0 := Fld.other W2 F_a (Or.inr (slot_ne (Or.inr (hw _ (List.mem_of_getElem? (i := 17) rfl))) (Or.inl (hw _ (List.mem_of_getElem? (i := 10) rfl))) (by decide) (t := (.array .int)) (t' := .int) (by decide) (by decide)))
  have F2_right_p0 := Fld.other W2 F_b (Or.inr (slot_ne (Or.inr (hw _ (List.mem_of_getElem? (i := 19) rfl))) (Or.inl (hw _ (List.mem_of_getElem? (i := 10) rfl))) (by decide) (t := (.array .int)) (t' := .int) (by decide) (by decide)))
  have K2 := K0.wr W2 (Or.inl (by simp))
  have N2 := Fr.snoc X2 N0 g_p0
  refine hp st2 ?_
  show G T2 (mkF m 9 #[.val (.ref p0), .val (.int (20 : Int32))] [])
  refine hp (fun tq kq => XS.aloadN X2.here hx rfl (hb hby d1_9) rfl rfl kq) ?_
  show G T2 (mkF m 10 #[.val (.ref p0), .val (.int (20 : Int32))] [(.ref p0)])
  refine hp (fun tq kq => XS.iloadN X2.here hx rfl (hb hby d1_10) rfl kq) ?_
  show G T2 (mkF m 11 #[.val (.ref p0), .val (.int (20 : Int32))] [(.int (20 : Int32)), (.ref p0)])
  obtain ⟨T3, h3, k3, X3, e3, E3, A3, st3⟩ := newP X2 hx hZ (hw _ (List.mem_of_getElem? (i := 11) rfl)) e2 (g := (mkF m 11 #[.val (.ref p0), .val (.int (20 : Int32))] [(.int (20 : Int32)), (.ref p0)])) rfl (hb hby d1_11) rfl (by decide) (cap := 20) (by decide) (by decide) (by decide) (by decide)
  obtain ⟨b3, g3⟩ : ∃ z, z = h2.size := ⟨_, rfl⟩
  rw [← g3] at A3 st3
  have ne3_p0 : p0 ≠ b3 := Nat.ne_of_lt (Nat.lt_of_lt_of_le E2_p0.lt (Nat.le_of_eq g3.symm))
  have sz_b3 : h0.size ≤ b3 := Nat.le_trans K2.1 (Nat.le_of_eq g3.symm)
  have g_b3 : n0 ≤ b3 := Nat.le_trans Z0 sz_b3
  have E3_p0 := Exa.ext E3 E2_p0
  have F3_root_p0 := Fld.ext E3 F2_root_p0
  have F3_lengthOfRunFirstAt_p0 := Fld.ext E3 F2_lengthOfRunFirstAt_p0
  have F3_firstPlusOneOfRunEndingAt_p0 := Fld.ext E3 F2_firstPlusOneOfRunEndingAt_p0
  have F3_left_p0 := Fld.ext E3 F2_left_p0
  have F3_right_p0 := Fld.ext E3 F2_right_p0
  have K3 := K2.ext E3
  have V3_b3 : own_AI Z h3 b3 .int 20 (fun _ => 0) := own_AI.new A3 (by decide) rfl 20 (by decide)
  refine hp st3 ?_
  show G T3 (mkF m 13 #[.val (.ref p0), .val (.int (20 : Int32))] [(.ref b3), (.ref p0)])
  obtain ⟨T4, h4, X4, e4, W4, st4⟩ := putF X3 hx hZ hown (host := "") (Or.inl (hw _ (List.mem_of_getElem? (i := 12) rfl))) Via.refl e3 F3_lengthOfRunFirstAt_p0 E3_p0 (Or.inr ⟨(hw _ (List.mem_of_getElem? (i := 13) rfl)), rfl, hnm⟩) (hw _ (List.mem_of_getElem? (i := 1) rfl)) (ty := (.array .int)) (by decide) rfl rfl (g := (mkF m 13 #[.val (.ref p0), .val (.int (20 : Int32))] [(.ref b3), (.ref p0)])) rfl rfl (hb hby d1_13)
  have F4_lengthOfRunFirstAt_p0 := Fld.same W4 F3_lengthOfRunFirstAt_p0
  have V4_b3 := V3_b3.other W4 (Ne.symm ne3_p0)
  have E4_p0 := Exa.wr W4 E3_p0
  have F4_root_p0 := Fld.other W4 F3_root_p0 (Or.inr (slot_ne (Or.inl (hw _ (List.mem_of_getElem? (i := 10) rfl))) (Or.inr (hw _ (List.mem_of_getElem? (i := 13) rfl))) (by decide) (t := .int) (t' := (.array .int)) (by decide) (by decide)))
  have F4_firstPlusOneOfRunEndingAt_p0 := Fld.other W4 F3_firstPlusOneOfRunEndingAt_p0 (Or.inr (slot_ne (Or.inr (hw _ (List.mem_of_getElem? (i := 15) rfl))) (Or.inr (hw _ (List.mem_of_getElem? (i := 13) rfl))) (by decide) (t := (.array .int)) (t' := (.array .int)) (by decide) (by decide)))
  have F4_left_p0 := Fld.other W4 F3_left_p0 (Or.inr (slot_ne (Or.inr (hw _ (List.mem_of_getElem? (i := 17) rfl))) (Or.inr (hw _ (List.mem_of_getElem? (i := 13) rfl))) (by decide) (t := (.array .int)) (t' := (.array .int)) (by decide) (by decide)))
  have F4_right_p0 := Fld.other W4 F3_right_p0 (Or.inr (slot_ne (Or.inr (hw _ (List.mem_of_getElem? (i := 19) rfl))) (Or.inr (hw _ (List.mem_of_getElem? (i := 13) rfl))) (by decide) (t := (.array .int)) (t' := (.array .int)) (by decide) (by decide)))
  have K4 := K3.wr W4 (Or.inl (by simp))
  have N4 := Fr.snoc X4 N2 g_p0
  refine hp st4 ?_
  show G T4 (mkF m 16 #[.val (.ref p0), .val (.int (20 : Int32))] [])
  refine hp (fun tq kq => XS.aloadN X4.here hx rfl (hb hby d1_16) rfl rfl kq) ?_
  show G T4 (mkF m 17 #[.val (.ref p0), .val (.int (20 : Int32))] [(.ref p0)])
  refine hp (fun tq kq => XS.iloadN X4.here hx rfl (hb hby d1_17) rfl kq) ?_
  show G T4 (mkF m 18 #[.val (.ref p0), .val (.int (20 : Int32))] [(.int (20 : Int32)), (.ref p0)])
  obtain ⟨T5, h5, k5, X5, e5, E5, A5, st5⟩ := newP X4 hx hZ (hw _ (List.mem_of_getElem? (i := 11) rfl)) e4 (g := (mkF m 18 #[.val (.ref p0), .val (.int (20 : Int32))] [(.int (20 : Int32)), (.ref p0)])) rfl (hb hby d1_18) rfl (by decide) (cap := 20) (by decide) (by decide) (by decide) (by decide)
  obtain ⟨b5, g5⟩ : ∃ z, z = h4.size := ⟨_, rfl⟩
  rw [← g5] at A5 st5
  have ne5_b3 : b3 ≠ b5 := Nat.ne_of_lt (Nat.lt_of_lt_of_le V4_b3.lt (Nat.le_of_eq g5.symm))
  have ne5_p0 : p0 ≠ b5 := Nat.ne_of_lt (Nat.lt_of_lt_of_le E4_p0.lt (Nat.le_of_eq g5.symm))
  have sz_b5 : h0.size ≤ b5 := Nat.le_trans K4.1 (Nat.le_of_eq g5.symm)
  have g_b5 : n0 ≤ b5 := Nat.le_trans Z0 sz_b5
  have V5_b3 := V4_b3.ext E5
  have E5_p0 := Exa.ext E5 E4_p0
  have F5_root_p0 := Fld.ext E5 F4_root_p0
  have F5_lengthOfRunFirstAt_p0 := Fld.ext E5 F4_lengthOfRunFirstAt_p0
  have F5_firstPlusOneOfRunEndingAt_p0 := Fld.ext E5 F4_firstPlusOneOfRunEndingAt_p0
  have F5_left_p0 := Fld.ext E5 F4_left_p0
  have F5_right_p0 := Fld.ext E5 F4_right_p0
  have K5 := K4.ext E5
  have V5_b5 : own_AI Z h5 b5 .int 20 (fun _ => 0) := own_AI.new A5 (by decide) rfl 20 (by decide)
  refine hp st5 ?_
  show G T5 (mkF m 20 #[.val (.ref p0), .val (.int (20 : Int32))] [(.ref b5), (.ref p0)])
  obtain ⟨T6, h6, X6, e6, W6, st6⟩ := putF X5 hx hZ hown (host := "") (Or.inl (hw _ (List.mem_of_getElem? (i := 14) rfl))) Via.refl e5 F5_firstPlusOneOfRunEndingAt_p0 E5_p0 (Or.inr ⟨(hw _ (List.mem_of_getElem? (i := 15) rfl)), rfl, hnm⟩) (hw _ (List.mem_of_getElem? (i := 1) rfl)) (ty := (.array .int)) (by decide) rfl rfl (g := (mkF m 20 #[.val (.ref p0), .val (.int (20 : Int32))] [(.ref b5), (.ref p0)])) rfl rfl (hb hby d1_20)
  have F6_firstPlusOneOfRunEndingAt_p0 := Fld.same W6 F5_firstPlusOneOfRunEndingAt_p0
  have V6_b3 := V5_b3.other W6 (Ne.symm ne3_p0)
  have V6_b5 := V5_b5.other W6 (Ne.symm ne5_p0)
  have E6_p0 := Exa.wr W6 E5_p0
  have F6_root_p0 := Fld.other W6 F5_root_p0 (Or.inr (slot_ne (Or.inl (hw _ (List.mem_of_getElem? (i := 10) rfl))) (Or.inr (hw _ (List.mem_of_getElem? (i := 15) rfl))) (by decide) (t := .int) (t' := (.array .int)) (by decide) (by decide)))
  have F6_lengthOfRunFirstAt_p0 := Fld.other W6 F5_lengthOfRunFirstAt_p0 (Or.inr (slot_ne (Or.inr (hw _ (List.mem_of_getElem? (i := 13) rfl))) (Or.inr (hw _ (List.mem_of_getElem? (i := 15) rfl))) (by decide) (t := (.array .int)) (t' := (.array .int)) (by decide) (by decide)))
  have F6_left_p0 := Fld.other W6 F5_left_p0 (Or.inr (slot_ne (Or.inr (hw _ (List.mem_of_getElem? (i := 17) rfl))) (Or.inr (hw _ (List.mem_of_getElem? (i := 15) rfl))) (by decide) (t := (.array .int)) (t' := (.array .int)) (by decide) (by decide)))
  have F6_right_p0 := Fld.other W6 F5_right_p0 (Or.inr (slot_ne (Or.inr (hw _ (List.mem_of_getElem? (i := 19) rfl))) (Or.inr (hw _ (List.mem_of_getElem? (i := 15) rfl))) (by decide) (t := (.array .int)) (t' := (.array .int)) (by decide) (by decide)))
  have K6 := K5.wr W6 (Or.inl (by simp))
  have N6 := Fr.snoc X6 N4 g_p0
  refine hp st6 ?_
  show G T6 (mkF m 23 #[.val (.ref p0), .val (.int (20 : Int32))] [])
  refine hp (fun tq kq => XS.aloadN X6.here hx rfl (hb hby d1_23) rfl rfl kq) ?_
  show G T6 (mkF m 24 #[.val (.ref p0), .val (.int (20 : Int32))] [(.ref p0)])
  refine hp (fun tq kq => XS.iloadN X6.here hx rfl (hb hby d1_24) rfl kq) ?_
  show G T6 (mkF m 25 #[.val (.ref p0), .val (.int (20 : Int32))] [(.int (20 : Int32)), (.ref p0)])
  obtain ⟨T7, h7, k7, X7, e7, E7, A7, st7⟩ := newP X6 hx hZ (hw _ (List.mem_of_getElem? (i := 11) rfl)) e6 (g := (mkF m 25 #[.val (.ref p0), .val (.int (20 : Int32))] [(.int (20 : Int32)), (.ref p0)])) rfl (hb hby d1_25) rfl (by decide) (cap := 20) (by decide) (by decide) (by decide) (by decide)
  obtain ⟨b7, g7⟩ : ∃ z, z = h6.size := ⟨_, rfl⟩
  rw [← g7] at A7 st7
  have ne7_b3 : b3 ≠ b7 := Nat.ne_of_lt (Nat.lt_of_lt_of_le V6_b3.lt (Nat.le_of_eq g7.symm))
  have ne7_b5 : b5 ≠ b7 := Nat.ne_of_lt (Nat.lt_of_lt_of_le V6_b5.lt (Nat.le_of_eq g7.symm))
  have ne7_p0 : p0 ≠ b7 := Nat.ne_of_lt (Nat.lt_of_lt_of_le E6_p0.lt (Nat.le_of_eq g7.symm))
  have sz_b7 : h0.size ≤ b7 := Nat.le_trans K6.1 (Nat.le_of_eq g7.symm)
  have g_b7 : n0 ≤ b7 := Nat.le_trans Z0 sz_b7
  have V7_b3 := V6_b3.ext E7
  have V7_b5 := V6_b5.ext E7
  have E7_p0 := Exa.ext E7 E6_p0
  have F7_root_p0 := Fld.ext E7 F6_root_p0
  have F7_lengthOfRunFirstAt_p0 := Fld.ext E7 F6_lengthOfRunFirstAt_p0
  have F7_firstPlusOneOfRunEndingAt_p0 := Fld.ext E7 F6_firstPlusOneOfRunEndingAt_p0
  have F7_left_p0 := Fld.ext E7 F6_left_p0
  have F7_right_p0 := Fld.ext E7 F6_right_p0
  have K7 := K6.ext E7
  have V7_b7 : own_AI Z h7 b7 .int 20 (fun _ => 0) := own_AI.new A7 (by decide) rfl 20 (by decide)
  refine hp st7 ?_
  show G T7 (mkF m 27 #[.val (.ref p0), .val (.int (20 : Int32))] [(.ref b7), (.ref p0)])
  obtain ⟨T8, h8, X8, e8, W8, st8⟩ := putF X7 hx hZ hown (host := "") (Or.inl (hw _ (List.mem_of_getElem? (i := 16) rfl))) Via.refl e7 F7_left_p0 E7_p0 (Or.inr ⟨(hw _ (List.mem_of_getElem? (i := 17) rfl)), rfl, hnm⟩) (hw _ (List.mem_of_getElem? (i := 1) rfl)) (ty := (.array .int)) (by decide) rfl rfl (g := (mkF m 27 #[.val (.ref p0), .val (.int (20 : Int32))] [(.ref b7), (.ref p0)])) rfl rfl (hb hby d1_27)
  have F8_left_p0 := Fld.same W8 F7_left_p0
  have V8_b3 := V7_b3.other W8 (Ne.symm ne3_p0)
  have V8_b5 := V7_b5.other W8 (Ne.symm ne5_p0)
  have V8_b7 := V7_b7.other W8 (Ne.symm ne7_p0)
  have E8_p0 := Exa.wr W8 E7_p0
  have F8_root_p0 := Fld.other W8 F7_root_p0 (Or.inr (slot_ne (Or.inl (hw _ (List.mem_of_getElem? (i := 10) rfl))) (Or.inr (hw _ (List.mem_of_getElem? (i := 17) rfl))) (by decide) (t := .int) (t' := (.array .int)) (by decide) (by decide)))
  have F8_lengthOfRunFirstAt_p0 := Fld.other W8 F7_lengthOfRunFirstAt_p0 (Or.inr (slot_ne (Or.inr (hw _ (List.mem_of_getElem? (i := 13) rfl))) (Or.inr (hw _ (List.mem_of_getElem? (i := 17) rfl))) (by decide) (t := (.array .int)) (t' := (.array .int)) (by decide) (by decide)))
  have F8_firstPlusOneOfRunEndingAt_p0 := Fld.other W8 F7_firstPlusOneOfRunEndingAt_p0 (Or.inr (slot_ne (Or.inr (hw _ (List.mem_of_getElem? (i := 15) rfl))) (Or.inr (hw _ (List.mem_of_getElem? (i := 17) rfl))) (by decide) (t := (.array .int)) (t' := (.array .int)) (by decide) (by decide)))
  have F8_right_p0 := Fld.other W8 F7_right_p0 (Or.inr (slot_ne (Or.inr (hw _ (List.mem_of_getElem? (i := 19) rfl))) (Or.inr (hw _ (List.mem_of_getElem? (i := 17) rfl))) (by decide) (t := (.array .int)) (t' := (.array .int)) (by decide) (by decide)))
  have K8 := K7.wr W8 (Or.inl (by simp))
  have N8 := Fr.snoc X8 N6 g_p0
  refine hp st8 ?_
  show G T8 (mkF m 30 #[.val (.ref p0), .val (.int (20 : Int32))] [])
  refine hp (fun tq kq => XS.aloadN X8.here hx rfl (hb hby d1_30) rfl rfl kq) ?_
  show G T8 (mkF m 31 #[.val (.ref p0), .val (.int (20 : Int32))] [(.ref p0)])
  refine hp (fun tq kq => XS.iloadN X8.here hx rfl (hb hby d1_31) rfl kq) ?_
  show G T8 (mkF m 32 #[.val (.ref p0), .val (.int (20 : Int32))] [(.int (20 : Int32)), (.ref p0)])
  obtain ⟨T9, h9, k9, X9, e9, E9, A9, st9⟩ := newP X8 hx hZ (hw _ (List.mem_of_getElem? (i := 11) rfl)) e8 (g := (mkF m 32 #[.val (.ref p0), .val (.int (20 : Int32))] [(.int (20 : Int32)), (.ref p0)])) rfl (hb hby d1_32) rfl (by decide) (cap := 20) (by decide) (by decide) (by decide) (by decide)
  obtain ⟨b9, g9⟩ : ∃ z, z = h8.size := ⟨_, rfl⟩
  rw [← g9] at A9 st9
  have ne9_b3 : b3 ≠ b9 := Nat.ne_of_lt (Nat.lt_of_lt_of_le V8_b3.lt (Nat.le_of_eq g9.symm))
  have ne9_b5 : b5 ≠ b9 := Nat.ne_of_lt (Nat.lt_of_lt_of_le V8_b5.lt (Nat.le_of_eq g9.symm))
  have ne9_b7 : b7 ≠ b9 := Nat.ne_of_lt (Nat.lt_of_lt_of_le V8_b7.lt (Nat.le_of_eq g9.symm))
  have ne9_p0 : p0 ≠ b9 := Nat.ne_of_lt (Nat.lt_of_lt_of_le E8_p0.lt (Nat.le_of_eq g9.symm))
  have sz_b9 : h0.size ≤ b9 := Nat.le_trans K8.1 (Nat.le_of_eq g9.symm)
  have g_b9 : n0 ≤ b9 := Nat.le_trans Z0 sz_b9
  have V9_b3 := V8_b3.ext E9
  have V9_b5 := V8_b5.ext E9
  have V9_b7 := V8_b7.ext E9
  have E9_p0 := Exa.ext E9 E8_p0
  have F9_root_p0 := Fld.ext E9 F8_root_p0
  have F9_lengthOfRunFirstAt_p0 := Fld.ext E9 F8_lengthOfRunFirstAt_p0
  have F9_firstPlusOneOfRunEndingAt_p0 := Fld.ext E9 F8_firstPlusOneOfRunEndingAt_p0
  have F9_left_p0 := Fld.ext E9 F8_left_p0
  have F9_right_p0 := Fld.ext E9 F8_right_p0
  have K9 := K8.ext E9
  have V9_b9 : own_AI Z h9 b9 .int 20 (fun _ => 0) := own_AI.new A9 (by decide) rfl 20 (by decide)
  refine hp st9 ?_
  show G T9 (mkF m 34 #[.val (.ref p0), .val (.int (20 : Int32))] [(.ref b9), (.ref p0)])
  obtain ⟨T10, h10, X10, e10, W10, st10⟩ := putF X9 hx hZ hown (host := "") (Or.inl (hw _ (List.mem_of_getElem? (i := 18) rfl))) Via.refl e9 F9_right_p0 E9_p0 (Or.inr ⟨(hw _ (List.mem_of_getElem? (i := 19) rfl)), rfl, hnm⟩) (hw _ (List.mem_of_getElem? (i := 1) rfl)) (ty := (.array .int)) (by decide) rfl rfl (g := (mkF m 34 #[.val (.ref p0), .val (.int (20 : Int32))] [(.ref b9), (.ref p0)])) rfl rfl (hb hby d1_34)
  have F10_right_p0 := Fld.same W10 F9_right_p0
  have V10_b3 := V9_b3.other W10 (Ne.symm ne3_p0)
  have V10_b5 := V9_b5.other W10 (Ne.symm ne5_p0)
  have V10_b7 := V9_b7.other W10 (Ne.symm ne7_p0)
  have V10_b9 := V9_b9.other W10 (Ne.symm ne9_p0)
  have E10_p0 := Exa.wr W10 E9_p0
  have F10_root_p0 := Fld.other W10 F9_root_p0 (Or.inr (slot_ne (Or.inl (hw _ (List.mem_of_getElem? (i := 10) rfl))) (Or.inr (hw _ (List.mem_of_getElem? (i := 19) rfl))) (by decide) (t := .int) (t' := (.array .int)) (by decide) (by decide)))
  have F10_lengthOfRunFirstAt_p0 := Fld.other W10 F9_lengthOfRunFirstAt_p0 (Or.inr (slot_ne (Or.inr (hw _ (List.mem_of_getElem? (i := 13) rfl))) (Or.inr (hw _ (List.mem_of_getElem? (i := 19) rfl))) (by decide) (t := (.array .int)) (t' := (.array .int)) (by decide) (by decide)))
  have F10_firstPlusOneOfRunEndingAt_p0 := Fld.other W10 F9_firstPlusOneOfRunEndingAt_p0 (Or.inr (slot_ne (Or.inr (hw _ (List.mem_of_getElem? (i := 15) rfl))) (Or.inr (hw _ (List.mem_of_getElem? (i := 19) rfl))) (by decide) (t := (.array .int)) (t' := (.array .int)) (by decide) (by decide)))
  have F10_left_p0 := Fld.other W10 F9_left_p0 (Or.inr (slot_ne (Or.inr (hw _ (List.mem_of_getElem? (i := 17) rfl))) (Or.inr (hw _ (List.mem_of_getElem? (i := 19) rfl))) (by decide) (t := (.array .int)) (t' := (.array .int)) (by decide) (by decide)))
  have K10 := K9.wr W10 (Or.inl (by simp))
  have N10 := Fr.snoc X10 N8 g_p0
  refine hp st10 ?_
  show G T10 (mkF m 37 #[.val (.ref p0), .val (.int (20 : Int32))] [])
  exact hR X10 (fun fs hl => X10.returnOut hx hret (hb hby d1_37) hl) (fun _ => rfl) (by rw [e10]; exact ⟨b3, b5, b7, b9, rfl, N10, K10, ⟨E10_p0, F10_root_p0, F10_lengthOfRunFirstAt_p0, F10_firstPlusOneOfRunEndingAt_p0, F10_left_p0, F10_right_p0, V10_b3.cong own_zeroL, ⟨_, V10_b5⟩, V10_b7.cong own_zeroA, V10_b9.cong own_zeroA, rfl, rfl, rfl⟩, ne3_p0, ne5_p0, ne7_p0, ne9_p0, ne5_b3, ne7_b3, ne9_b3, ne7_b5, ne9_b5, ne9_b7, sz_b3, sz_b5, sz_b7, sz_b9⟩) (by decide) (by decide)
theorem d3_0 : decode prog_20_method_4_code 0 = .ok (.iload_n 1, 1) := by decide +kernel
theorem d3_1 : decode prog_20_method_4_code 1 = .ok (.iconst 0, 1) := by decide +kernel
theorem d3_2 : decode prog_20_method_4_code 2 = .ok (.invokestatic 26, 3) := by decide +kernel
theorem d3_5 : decode prog_20_method_4_code 5 = .ok (.lstore_n 2, 1) := by decide +kernel
theorem d3_6 : decode prog_20_method_4_code 6 = .ok (.iconst (-1), 1) := by decide +kernel
theorem d3_7 : decode prog_20_method_4_code 7 = .ok (.istore 4, 2) := by decide +kernel
theorem d3_9 : decode prog_20_method_4_code 9 = .ok (.aload_n 0, 1) := by decide +kernel
theorem d3_10 : decode prog_20_method_4_code 10 = .ok (.getfield 9, 3) := by decide +kernel
theorem d3_13 : decode prog_20_method_4_code 13 = .ok (.istore 5, 2) := by decide +kernel
theorem d3_15 : decode prog_20_method_4_code 15 = .ok (.iload 5, 2) := by decide +kernel
theorem d3_17 : decode prog_20_method_4_code 17 = .ok (.iconst (-1), 1) := by decide +kernel
theorem d3_18 : decode prog_20_method_4_code 18 = .ok (.if_icmp .eq 42, 3) := by decide +kernel
theorem d3_21 : decode prog_20_method_4_code 21 = .ok (.aload_n 0, 1) := by decide +kernel
theorem d3_22 : decode prog_20_method_4_code 22 = .ok (.iload 5, 2) := by decide +kernel
theorem d3_24 : decode prog_20_method_4_code 24 = .ok (.invokevirtual 30, 3) := by decide +kernel
theorem d3_27 : decode prog_20_method_4_code 27 = .ok (.lload_n 2, 1) := by decide +kernel
theorem d3_28 : decode prog_20_method_4_code 28 = .ok (.lcmp, 1) := by decide +kernel
theorem d3_29 : decode prog_20_method_4_code 29 = .ok (.ifCond .lt 19, 3) := by decide +kernel
theorem d3_32 : decode prog_20_method_4_code 32 = .ok (.iload 5, 2) := by decide +kernel
theorem d3_34 : decode prog_20_method_4_code 34 = .ok (.istore 4, 2) := by decide +kernel
theorem d3_36 : decode prog_20_method_4_code 36 = .ok (.aload_n 0, 1) := by decide +kernel
theorem d3_37 : decode prog_20_method_4_code 37 = .ok (.getfield 20, 3) := by decide +kernel
theorem d3_40 : decode prog_20_method_4_code 40 = .ok (.iload 5, 2) := by decide +kernel
theorem d3_42 : decode prog_20_method_4_code 42 = .ok (.iaload, 1) := by decide +kernel
theorem d3_43 : decode prog_20_method_4_code 43 = .ok (.istore 5, 2) := by decide +kernel
theorem d3_45 : decode prog_20_method_4_code 45 = .ok (.goto (-30), 3) := by decide +kernel
theorem d3_48 : decode prog_20_method_4_code 48 = .ok (.aload_n 0, 1) := by decide +kernel
theorem d3_49 : decode prog_20_method_4_code 49 = .ok (.getfield 23, 3) := by decide +kernel
theorem d3_52 : decode prog_20_method_4_code 52 = .ok (.iload 5, 2) := by decide +kernel
theorem d3_54 : decode prog_20_method_4_code 54 = .ok (.iaload, 1) := by decide +kernel
theorem d3_55 : decode prog_20_method_4_code 55 = .ok (.istore 5, 2) := by decide +kernel
theorem d3_57 : decode prog_20_method_4_code 57 = .ok (.goto (-42), 3) := by decide +kernel
theorem d3_60 : decode prog_20_method_4_code 60 = .ok (.iload 4, 2) := by decide +kernel
theorem d3_62 : decode prog_20_method_4_code 62 = .ok (.ireturn, 1) := by decide +kernel
theorem own_ef3 (m : MethodId) (p0 : Addr) (p1 : Int32) : entryFrame m #[(.ref p0), (.int p1)] 6 = mkF m 0 #[.val (.ref p0), .val (.int p1), .unset, .unset, .unset, .unset] [] := by first | (simp [entryFrame, mkF, argsToLocals, Value.category]; done) | rfl
theorem own_pn3 : plainName "com/example/slabwarden/slabwarden/chunk/FreeRuns" = true := by first | (simp [plainName, overriddenIn]; done) | decide +kernel
set_option maxRecDepth 65536 in
set_option maxHeartbeats 40000000 in
theorem rm3 (l : Launch) (Z : State) (a0 : Array Value) (hw : ∀ d ∈ tables_1, d.before a0 Z = true) (ws : List Jvm.Cond) (p0 : Addr) (p1 : Int32) (la ea lf rt : Addr) (ln : List Nat) (S : own_S) (r : Nat) (h0 : Heap) (n0 : Nat) (hln : own_small ln) (hT : own_T Z h0 p0 la ea lf rt ln S) (hm : own_find ln p1.toInt S 6 S.1 20 = some r) :
    MetFree l (⟨"com/example/slabwarden/slabwarden/chunk/FreeRuns", "shortestAtLeast", "(I)I"⟩ : MethodName) (head1 (Jvm.Cond.code (⟨"com/example/slabwarden/slabwarden/chunk/FreeRuns", "shortestAtLeast", "(I)I"⟩ : MethodName) prog_20_method_4_code 6 (some .int) :: ws) ({ frames := 2, cells := 0, slots := 0, locals := 26 } : Room)) (fun a U => a = #[(.ref p0), (.int p1)] ∧ Z.Warmed39 U.vm ∧ U.heap = h0) (fun _ _ _ _ _ => True) (fun _ U o U' => ∃ v L, o = .returned v ∧ own_Q (some (.int (own_i r))) h0 n0 v U'.heap L ∧ FrameEnd U o U' L ({ frames := 2, cells := 0, slots := 0, locals := 26 } : Room).cells ({ frames := 2, cells := 0, slots := 0, locals := 26 } : Room).slots) := by
  refine own_contract (plainFor_of_name own_pn3) (fun m => own_ef3 m p0 p1) ?_
  intro p e s m below meth c s₁ G hx hby hml0 hown0 hnm hret hZ X0 e0 hp hR
  have hml : c.maxLocals = 6 := hml0
  have hown : s.vm.findClass "com/example/slabwarden/slabwarden/chunk/FreeRuns" = some m.cls := hown0
  have N0 := Fr.nil n0
  show G s₁ (mkF m 0 #[.val (.ref p0), .val (.int p1), .unset, .unset, .unset, .unset] [])
  have K0 : Keep h0 h0 [] := Keep.refl _ _
  obtain ⟨Et1, Frt1, Flt1, Fet1, Fat1, Fbt1, Vlt1, ⟨fet1, Vet1⟩, Vat1, Vbt1, hlt1, hat1, hbt1⟩ := id hT
  refine hp (fun tq kq => XS.iloadN X0.here hx rfl (hb hby d3_0) rfl kq) ?_
  show G s₁ (mkF m 1 #[.val (.ref p0), .val (.int p1), .unset, .unset, .unset, .unset] [(.int p1)])
  refine hp (fun tq kq => XS.iconst X0.here hx rfl (hb hby d3_1) kq) ?_
  show G s₁ (mkF m 2 #[.val (.ref p0), .val (.int p1), .unset, .unset, .unset, .unset] [(.int (0 : Int32)), (.int p1)])
  obtain ⟨v2, T2, L2, X2, hQ2, st2⟩ := own_callS X0 hx hZ (y := (⟨"com/example/slabwarden/slabwarden/chunk/FreeRuns", "key", "(II)J"⟩ : MethodName)) (rm := ({ frames := 0, cells := 0, slots := 0, locals := 0 } : Room)) 0 hown (hw _ (List.mem_of_getElem? (i := 25) rfl)) (hw _ (List.mem_of_getElem? (i := 26) rfl)) (hw _ (List.mem_of_getElem? (i := 2) rfl)) (hw _ (List.mem_of_getElem? (i := 27) rfl)) (by decide) (rm4 l Z a0 hw [] p1 (0 : Int32) h0 n0) e0 (by decide) (by decide) (g := (mkF m 2 #[.val (.ref p0), .val (.int p1), .unset, .unset, .unset, .unset] [(.int (0 : Int32)), (.int p1)])) rfl (by rw [hml]; rfl) [(.int p1), (.int (0 : Int32))] [] own_pd0 rfl rfl (by show 2 * 0 + _ ≤ _; exact Nat.le_of_eq rfl) (hb hby d3_2) rfl (by decide) (by decide)
  obtain ⟨rfl, N2, e2⟩ := hQ2
  have F2 := Fr.app N0 N2
  refine hp st2 ?_
  show G T2 (mkF m 5 #[.val (.ref p0), .val (.int p1), .unset, .unset, .unset, .unset] [(.long (own_key2 p1 (0 : Int32)))])
  refine hp (fun tq kq => XS.lstoreN X2.here hx rfl (hb hby d3_5) rfl (l' := #[.val (.ref p0), .val (.int p1), .val (.long (own_key2 p1 (0 : Int32))), .second, .unset, .unset]) rfl kq) ?_
  show G T2 (mkF m 6 #[.val (.ref p0), .val (.int p1), .val (.long (own_key2 p1 (0 : Int32))), .second, .unset, .unset] [])
  refine hp (fun tq kq => XS.iconst X2.here hx rfl (hb hby d3_6) kq) ?_
  show G T2 (mkF m 7 #[.val (.ref p0), .val (.int p1), .val (.long (own_key2 p1 (0 : Int32))), .second, .unset, .unset] [(.int (-1 : Int32))])
  refine hp (fun tq kq => XS.istore X2.here hx rfl (hb hby d3_7) rfl (l' := #[.val (.ref p0), .val (.int p1), .val (.long (own_key2 p1 (0 : Int32))), .second, .val (.int (-1 : Int32)), .unset]) rfl kq) ?_
  show G T2 (mkF m 9 #[.val (.ref p0), .val (.int p1), .val (.long (own_key2 p1 (0 : Int32))), .second, .val (.int (-1 : Int32)), .unset] [])
  refine hp (fun tq kq => XS.aloadN X2.here hx rfl (hb hby d3_9) rfl rfl kq) ?_
  show G T2 (mkF m 10 #[.val (.ref p0), .val (.int p1), .val (.long (own_key2 p1 (0 : Int32))), .second, .val (.int (-1 : Int32)), .unset] [(.ref p0)])
  obtain ⟨T3, X3, e3, st3⟩ := getF X2 hx hZ hown (host := "") (Or.inl (hw _ (List.mem_of_getElem? (i := 9) rfl))) Via.refl e2 Frt1 (g := (mkF m 10 #[.val (.ref p0), .val (.int p1), .val (.long (own_key2 p1 (0 : Int32))), .second, .val (.int (-1 : Int32)), .unset] [(.ref p0)])) rfl rfl (hb hby d3_10)
  refine hp st3 ?_
  show G T3 (mkF m 13 #[.val (.ref p0), .val (.int p1), .val (.long (own_key2 p1 (0 : Int32))), .second, .val (.int (-1 : Int32)), .unset] [(.int (own_i S.1))])
  refine hp (fun tq kq => XS.istore X3.here hx rfl (hb hby d3_13) rfl (l' := #[.val (.ref p0), .val (.int p1), .val (.long (own_key2 p1 (0 : Int32))), .second, .val (.int (-1 : Int32)), .val (.int (own_i S.1))]) rfl kq) ?_
  show G T3 (mkF m 15 #[.val (.ref p0), .val (.int p1), .val (.long (own_key2 p1 (0 : Int32))), .second, .val (.int (-1 : Int32)), .val (.int (own_i S.1))] [])
  have loop : ∀ (fu9 nd9 be9 : Nat) (T9w : State) (locs9w : List Loc) (c9w s9w : Nat), Stand p l e ({ frames := 2, cells := 0, slots := 0, locals := 26 } : Room) s m #[(.ref p0), (.int p1)] below meth c T9w locs9w c9w s9w → T9w.heap = h0 → Fr n0 locs9w → c9w ≤ 0 → s9w ≤ 0 → own_find ln p1.toInt S fu9 nd9 be9 = some r → G T9w (mkF m 15 #[.val (.ref p0), .val (.int p1), .val (.long (own_key2 p1 (0 : Int32))), .second, .val (.int (own_i be9)), .val (.int (own_i nd9))] []) := by
    intro fu9
    induction fu9 with
    | zero => intro nd9 be9 T9w locs9w c9w s9w X9w e9w N9w hc9w hs9w hf9; exact nomatch hf9
    | succ fu9 ih =>
      intro nd9 be9 T9w locs9w c9w s9w X9w e9w N9w hc9w hs9w hf9
      by_cases hnd : nd9 = 20
      · subst hnd
        show G T9w (mkF m 15 #[.val (.ref p0), .val (.int p1), .val (.long (own_key2 p1 (0 : Int32))), .second, .val (.int (own_i be9)), .val (.int (own_i 20))] [])
        refine hp (fun tq kq => XS.iload X9w.here hx rfl (hb hby d3_15) rfl kq) ?_
        show G T9w (mkF m 17 #[.val (.ref p0), .val (.int p1), .val (.long (own_key2 p1 (0 : Int32))), .second, .val (.int (own_i be9)), .val (.int (own_i 20))] [(.int (own_i 20))])
        refine hp (fun tq kq => XS.iconst X9w.here hx rfl (hb hby d3_17) kq) ?_
        show G T9w (mkF m 18 #[.val (.ref p0), .val (.int p1), .val (.long (own_key2 p1 (0 : Int32))), .second, .val (.int (own_i be9)), .val (.int (own_i 20))] [(.int (-1 : Int32)), (.int (own_i 20))])
        refine hp (fun tq kq => XS.icmpYes X9w.here hx rfl (pc0 := 18) (pc' := 60) rfl (hb hby d3_18) rfl (teq rfl).1 (by decide) (by decide) kq) ?_
        show G T9w (mkF m 60 #[.val (.ref p0), .val (.int p1), .val (.long (own_key2 p1 (0 : Int32))), .second, .val (.int (own_i be9)), .val (.int (own_i 20))] [])
        refine hp (fun tq kq => XS.iload X9w.here hx rfl (hb hby d3_60) rfl kq) ?_
        show G T9w (mkF m 62 #[.val (.ref p0), .val (.int p1), .val (.long (own_key2 p1 (0 : Int32))), .second, .val (.int (own_i be9)), .val (.int (own_i 20))] [(.int (own_i be9))])
        exact hR X9w (fun fs hl => retI X9w hx hret (hb hby d3_62) hl) (fun q => by rw [hret] at q; cases q) (by rw [e9w]; exact ⟨own_find_end hf9 ▸ rfl, N9w, rfl⟩) hc9w hs9w
      · by_cases hbig : 20 < nd9
        · exact absurd hf9 (own_find_big hnd hbig)
        · have hnd2 : nd9 < 20 := by omega
          show G T9w (mkF m 15 #[.val (.ref p0), .val (.int p1), .val (.long (own_key2 p1 (0 : Int32))), .second, .val (.int (own_i be9)), .val (.int (own_i nd9))] [])
          refine hp (fun tq kq => XS.iload X9w.here hx rfl (hb hby d3_15) rfl kq) ?_
          show G T9w (mkF m 17 #[.val (.ref p0), .val (.int p1), .val (.long (own_key2 p1 (0 : Int32))), .second, .val (.int (own_i be9)), .val (.int (own_i nd9))] [(.int (own_i nd9))])
          refine hp (fun tq kq => XS.iconst X9w.here hx rfl (hb hby d3_17) kq) ?_
          show G T9w (mkF m 18 #[.val (.ref p0), .val (.int p1), .val (.long (own_key2 p1 (0 : Int32))), .second, .val (.int (own_i be9)), .val (.int (own_i nd9))] [(.int (-1 : Int32)), (.int (own_i nd9))])
          refine hp (fun tq kq => XS.icmpNo X9w.here hx rfl (hb hby d3_18) rfl (feq (own_ine hnd2)).1 kq) ?_
          show G T9w (mkF m 21 #[.val (.ref p0), .val (.int p1), .val (.long (own_key2 p1 (0 : Int32))), .second, .val (.int (own_i be9)), .val (.int (own_i nd9))] [])
          refine hp (fun tq kq => XS.aloadN X9w.here hx rfl (hb hby d3_21) rfl rfl kq) ?_
          show G T9w (mkF m 22 #[.val (.ref p0), .val (.int p1), .val (.long (own_key2 p1 (0 : Int32))), .second, .val (.int (own_i be9)), .val (.int (own_i nd9))] [(.ref p0)])
          refine hp (fun tq kq => XS.iload X9w.here hx rfl (hb hby d3_22) rfl kq) ?_
          show G T9w (mkF m 24 #[.val (.ref p0), .val (.int p1), .val (.long (own_key2 p1 (0 : Int32))), .second, .val (.int (own_i be9)), .val (.int (own_i nd9))] [(.int (own_i nd9)), (.ref p0)])
          obtain ⟨v4, T4, L4, X4, hQ4, st4⟩ := own_callP X9w hx hZ (y := (⟨"com/example/slabwarden/slabwarden/chunk/FreeRuns", "key", "(I)J"⟩ : MethodName)) (z := (⟨"com/example/slabwarden/slabwarden/chunk/FreeRuns", "shortestAtLeast", "(I)I"⟩ : MethodName)) (rm := ({ frames := 1, cells := 0, slots := 0, locals := 13 } : Room)) 0 hown (hw _ (List.mem_of_getElem? (i := 23) rfl)) rfl (hw _ (List.mem_of_getElem? (i := 41) rfl)) (hw _ (List.mem_of_getElem? (i := 42) rfl)) (hw _ (List.mem_of_getElem? (i := 43) rfl)) (hw _ (List.mem_of_getElem? (i := 2) rfl)) (hw _ (List.mem_of_getElem? (i := 44) rfl)) (by decide) (rm8 l Z a0 hw [] p0 (own_i nd9) la ea lf rt ln S nd9 h0 n0 rfl hnd2 ⟨Et1, Frt1, Flt1, Fet1, Fat1, Fbt1, Vlt1, ⟨_, Vet1⟩, Vat1, Vbt1, hlt1, hat1, hbt1⟩) e9w Et1 (by decide) (by decide) (g := (mkF m 24 #[.val (.ref p0), .val (.int p1), .val (.long (own_key2 p1 (0 : Int32))), .second, .val (.int (own_i be9)), .val (.int (own_i nd9))] [(.int (own_i nd9)), (.ref p0)])) rfl (by rw [hml]; rfl) [(.int (own_i nd9))] [] own_pd2 rfl rfl (by show 2 * 0 + _ ≤ _; exact Nat.le_of_eq rfl) (hb hby d3_24) rfl hc9w hs9w
          obtain ⟨rfl, N4, e4⟩ := hQ4
          have N4b := Fr.app N9w N4
          refine hp st4 ?_
          show G T4 (mkF m 27 #[.val (.ref p0), .val (.int p1), .val (.long (own_key2 p1 (0 : Int32))), .second, .val (.int (own_i be9)), .val (.int (own_i nd9))] [(.long (own_key2 ((own_lnf ln) nd9) (own_i nd9)))])
          refine hp (fun tq kq => XS.lloadN X4.here hx rfl (hb hby d3_27) rfl kq) ?_
          show G T4 (mkF m 28 #[.val (.ref p0), .val (.int p1), .val (.long (own_key2 p1 (0 : Int32))), .second, .val (.int (own_i be9)), .val (.int (own_i nd9))] [(.long (own_key2 p1 (0 : Int32))), (.long (own_key2 ((own_lnf ln) nd9) (own_i nd9)))])
          refine hp (fun tq kq => XS.lcmp X4.here hx rfl (hb hby d3_28) rfl kq) ?_
          show G T4 (mkF m 29 #[.val (.ref p0), .val (.int p1), .val (.long (own_key2 p1 (0 : Int32))), .second, .val (.int (own_i be9)), .val (.int (own_i nd9))] [(.int (lcmpW (own_key2 ((own_lnf ln) nd9) (own_i nd9)) (own_key2 p1 (0 : Int32))))])
          by_cases hb5 : (own_key2 ((own_lnf ln) nd9) (own_i nd9)) < (own_key2 p1 (0 : Int32))
          · refine hp (fun tq kq => XS.ifYes X4.here hx rfl (pc0 := 29) (pc' := 48) rfl (hb hby d3_29) rfl ((if0 _ _).trans (tlt ((lw_lt _ _).mpr hb5)).1) (by decide) (by decide) kq) ?_
            show G T4 (mkF m 48 #[.val (.ref p0), .val (.int p1), .val (.long (own_key2 p1 (0 : Int32))), .second, .val (.int (own_i be9)), .val (.int (own_i nd9))] [])
            refine hp (fun tq kq => XS.aloadN X4.here hx rfl (hb hby d3_48) rfl rfl kq) ?_
            show G T4 (mkF m 49 #[.val (.ref p0), .val (.int p1), .val (.long (own_key2 p1 (0 : Int32))), .second, .val (.int (own_i be9)), .val (.int (own_i nd9))] [(.ref p0)])
            obtain ⟨T6, X6, e6, st6⟩ := getF X4 hx hZ hown (host := "") (Or.inl (hw _ (List.mem_of_getElem? (i := 18) rfl))) Via.refl e4 Fbt1 (g := (mkF m 49 #[.val (.ref p0), .val (.int p1), .val (.long (own_key2 p1 (0 : Int32))), .second, .val (.int (own_i be9)), .val (.int (own_i nd9))] [(.ref p0)])) rfl rfl (hb hby d3_49)
            refine hp st6 ?_
            show G T6 (mkF m 52 #[.val (.ref p0), .val (.int p1), .val (.long (own_key2 p1 (0 : Int32))), .second, .val (.int (own_i be9)), .val (.int (own_i nd9))] [(.ref rt)])
            refine hp (fun tq kq => XS.iload X6.here hx rfl (hb hby d3_52) rfl kq) ?_
            show G T6 (mkF m 54 #[.val (.ref p0), .val (.int p1), .val (.long (own_key2 p1 (0 : Int32))), .second, .val (.int (own_i be9)), .val (.int (own_i nd9))] [(.int (own_i nd9)), (.ref rt)])
            refine hp (own_ldI X6 hx hZ e6 Vbt1 (j := (own_i nd9)) nd9 (own_ii hnd2).1 (own_ii hnd2).2 hnd2 (g := (mkF m 54 #[.val (.ref p0), .val (.int p1), .val (.long (own_key2 p1 (0 : Int32))), .second, .val (.int (own_i be9)), .val (.int (own_i nd9))] [(.int (own_i nd9)), (.ref rt)])) rfl rfl (hb hby d3_54)) ?_
            show G T6 (mkF m 55 #[.val (.ref p0), .val (.int p1), .val (.long (own_key2 p1 (0 : Int32))), .second, .val (.int (own_i be9)), .val (.int (own_i nd9))] [(.int ((own_arr S.2.2) nd9))])
            refine hp (fun tq kq => XS.istore X6.here hx rfl (hb hby d3_55) rfl (l' := #[.val (.ref p0), .val (.int p1), .val (.long (own_key2 p1 (0 : Int32))), .second, .val (.int (own_i be9)), .val (.int ((own_arr S.2.2) nd9))]) rfl kq) ?_
            show G T6 (mkF m 57 #[.val (.ref p0), .val (.int p1), .val (.long (own_key2 p1 (0 : Int32))), .second, .val (.int (own_i be9)), .val (.int ((own_arr S.2.2) nd9))] [])
            refine hp (fun tq kq => XS.goto X6.here hx rfl (pc0 := 57) (pc' := 15) rfl (hb hby d3_57) (by decide) (by decide) kq) ?_
            show G T6 (mkF m 15 #[.val (.ref p0), .val (.int p1), .val (.long (own_key2 p1 (0 : Int32))), .second, .val (.int (own_i be9)), .val (.int ((own_arr S.2.2) nd9))] [])
            exact ih _ _ _ _ _ _ X6 e6 N4b hc9w hs9w (own_find_lt hnd hbig ((own_pg_iff hln hnd2 p1).mp hb5) hf9)
          · refine hp (fun tq kq => XS.ifNo X4.here hx rfl (hb hby d3_29) rfl ((if0 _ _).trans (flt (fun q => hb5 ((lw_lt _ _).mp q))).1) kq) ?_
            show G T4 (mkF m 32 #[.val (.ref p0), .val (.int p1), .val (.long (own_key2 p1 (0 : Int32))), .second, .val (.int (own_i be9)), .val (.int (own_i nd9))] [])
            refine hp (fun tq kq => XS.iload X4.here hx rfl (hb hby d3_32) rfl kq) ?_
            show G T4 (mkF m 34 #[.val (.ref p0), .val (.int p1), .val (.long (own_key2 p1 (0 : Int32))), .second, .val (.int (own_i be9)), .val (.int (own_i nd9))] [(.int (own_i nd9))])
            refine hp (fun tq kq => XS.istore X4.here hx rfl (hb hby d3_34) rfl (l' := #[.val (.ref p0), .val (.int p1), .val (.long (own_key2 p1 (0 : Int32))), .second, .val (.int (own_i nd9)), .val (.int (own_i nd9))]) rfl kq) ?_
            show G T4 (mkF m 36 #[.val (.ref p0), .val (.int p1), .val (.long (own_key2 p1 (0 : Int32))), .second, .val (.int (own_i nd9)), .val (.int (own_i nd9))] [])
            refine hp (fun tq kq => XS.aloadN X4.here hx rfl (hb hby d3_36) rfl rfl kq) ?_
            show G T4 (mkF m 37 #[.val (.ref p0), .val (.int p1), .val (.long (own_key2 p1 (0 : Int32))), .second, .val (.int (own_i nd9)), .val (.int (own_i nd9))] [(.ref p0)])
            obtain ⟨T7, X7, e7, st7⟩ := getF X4 hx hZ hown (host := "") (Or.inl (hw _ (List.mem_of_getElem? (i := 16) rfl))) Via.refl e4 Fat1 (g := (mkF m 37 #[.val (.ref p0), .val (.int p1), .val (.long (own_key2 p1 (0 : Int32))), .second, .val (.int (own_i nd9)), .val (.int (own_i nd9))] [(.ref p0)])) rfl rfl (hb hby d3_37)
            refine hp st7 ?_
            show G T7 (mkF m 40 #[.val (.ref p0), .val (.int p1), .val (.long (own_key2 p1 (0 : Int32))), .second, .val (.int (own_i nd9)), .val (.int (own_i nd9))] [(.ref lf)])
            refine hp (fun tq kq => XS.iload X7.here hx rfl (hb hby d3_40) rfl kq) ?_
            show G T7 (mkF m 42 #[.val (.ref p0), .val (.int p1), .val (.long (own_key2 p1 (0 : Int32))), .second, .val (.int (own_i nd9)), .val (.int (own_i nd9))] [(.int (own_i nd9)), (.ref lf)])
            refine hp (own_ldI X7 hx hZ e7 Vat1 (j := (own_i nd9)) nd9 (own_ii hnd2).1 (own_ii hnd2).2 hnd2 (g := (mkF m 42 #[.val (.ref p0), .val (.int p1), .val (.long (own_key2 p1 (0 : Int32))), .second, .val (.int (own_i nd9)), .val (.int (own_i nd9))] [(.int (own_i nd9)), (.ref lf)])) rfl rfl (hb hby d3_42)) ?_
            show G T7 (mkF m 43 #[.val (.ref p0), .val (.int p1), .val (.long (own_key2 p1 (0 : Int32))), .second, .val (.int (own_i nd9)), .val (.int (own_i nd9))] [(.int ((own_arr S.2.1) nd9))])
            refine hp (fun tq kq => XS.istore X7.here hx rfl (hb hby d3_43) rfl (l' := #[.val (.ref p0), .val (.int p1), .val (.long (own_key2 p1 (0 : Int32))), .second, .val (.int (own_i nd9)), .val (.int ((own_arr S.2.1) nd9))]) rfl kq) ?_
            show G T7 (mkF m 45 #[.val (.ref p0), .val (.int p1), .val (.long (own_key2 p1 (0 : Int32))), .second, .val (.int (own_i nd9)), .val (.int ((own_arr S.2.1) nd9))] [])
            refine hp (fun tq kq => XS.goto X7.here hx rfl (pc0 := 45) (pc' := 15) rfl (hb hby d3_45) (by decide) (by decide) kq) ?_
            show G T7 (mkF m 15 #[.val (.ref p0), .val (.int p1), .val (.long (own_key2 p1 (0 : Int32))), .second, .val (.int (own_i nd9)), .val (.int ((own_arr S.2.1) nd9))] [])
            exact ih _ _ _ _ _ _ X7 e7 N4b hc9w hs9w (own_find_ge hnd hbig (fun z => hb5 ((own_pg_iff hln hnd2 p1).mpr z)) hf9)
  exact loop 6 S.1 20 _ _ _ _ X3 e3 F2 (by decide) (by decide) hm
/-! the trees that the law makes: all of them, by evaluation -/
theorem own_all : ((List.range 4).all fun s => (List.range 4).all fun a => (List.range 4).all fun b => (List.range 4).all fun c => (List.range 4).all fun d => (List.range 5).all fun pg => own_chk s a b c d (pg : Int)) = true := by decide +kernel
theorem own_chk_at {s a b c d pg : Nat} (hs : s ≤ 3) (ha : a ≤ 3) (hb : b ≤ 3) (hc : c ≤ 3) (hd : d ≤ 3) (hp : pg ≤ 4) : own_chk s a b c d (pg : Int) = true := by
  have h := own_all
  have h := List.all_eq_true.mp h s (List.mem_range.mpr (by omega))
  have h := List.all_eq_true.mp h a (List.mem_range.mpr (by omega))
  have h := List.all_eq_true.mp h b (List.mem_range.mpr (by omega))
  have h := List.all_eq_true.mp h c (List.mem_range.mpr (by omega))
  have h := List.all_eq_true.mp h d (List.mem_range.mpr (by omega))
  exact List.all_eq_true.mp h pg (List.mem_range.mpr (by omega))
/-- the pages, held within 0 and 4 -/
def own_cl (pg : Int) : Nat := if pg < 0 then 0 else if 4 < pg then 4 else pg.toNat
theorem own_cl_le (pg : Int) : own_cl pg ≤ 4 := by unfold own_cl; (repeat' split) <;> omega
theorem own_cl_lt (pg : Int) {l : Nat} (h : l ≤ 3) : ((l : Int) < pg ↔ (l : Int) < ((own_cl pg : Nat) : Int)) := by unfold own_cl; (repeat' split) <;> omega
theorem own_cl_find {ln : List Nat} (h : own_small ln) (pg : Int) (S : own_S) : ∀ (f n best : Nat), own_find ln pg S f n best = own_find ln ((own_cl pg : Nat) : Int) S f n best := by
  intro f
  induction f with
  | zero => intro n best; rfl
  | succ f ih =>
    intro n best
    unfold own_find
    by_cases h1 : n = 20
    · rw [if_pos h1, if_pos h1]
    · rw [if_neg h1, if_neg h1]
      by_cases h2 : 20 < n
      · rw [if_pos h2, if_pos h2]
      · rw [if_neg h2, if_neg h2]
        by_cases h3 : ((ln.getD n 0 : Nat) : Int) < pg
        · rw [if_pos h3, if_pos ((own_cl_lt pg (h n)).mp h3), ih]
        · rw [if_neg h3, if_neg (fun z => h3 ((own_cl_lt pg (h n)).mpr z)), ih]
theorem own_cl_pk {cur len : Nat} (h : len ≤ 3) (pg : Int) : own_pk cur len pg = own_pk cur len ((own_cl pg : Nat) : Int) := by
  have q := own_cl_lt pg h
  have q2 : pg ≤ (len : Int) ↔ ((own_cl pg : Nat) : Int) ≤ (len : Int) := by omega
  unfold own_pk
  simp only [q2]
theorem own_cl_want {s a b c d : Nat} (ha : a ≤ 3) (hb : b ≤ 3) (hc : c ≤ 3) (hd : d ≤ 3) (pg : Int) : own_want s a b c d pg = own_want s a b c d ((own_cl pg : Nat) : Int) := by
  unfold own_want
  rw [own_cl_pk ha pg, own_cl_pk hb pg, own_cl_pk hc pg, own_cl_pk hd pg]
theorem own_optsmall {s len : Nat} {M M' : List Nat × own_S} (h : own_small M.1) (hl : len ≤ 3) (hm : own_opt s len M = some M') : own_small M'.1 := by
  unfold own_opt at hm
  split at hm
  · unfold own_add at hm
    split at hm
    · exact nomatch hm
    · have q := Option.some.inj hm; subst q; exact own_small_set h s hl
  · have q := Option.some.inj hm; subst q; exact h
theorem own_optadd {s len : Nat} {M M' : List Nat × own_S} (h : 0 < len) (hm : own_opt s len M = some M') : own_add s len (M.1, M.2) = some (M'.1, M'.2) := by
  unfold own_opt at hm; rw [if_pos h] at hm; exact hm
theorem own_optno {s len : Nat} {M M' : List Nat × own_S} (h : ¬ 0 < len) (hm : own_opt s len M = some M') : M = M' := by
  unfold own_opt at hm; rw [if_neg h] at hm; exact Option.some.inj hm
theorem own_small0 : own_small own_M0.1 := by
  intro i
  show (List.replicate 20 0).getD i 0 ≤ 3
  rw [List.getD_eq_getElem?_getD, List.getElem?_replicate]
  split <;> exact Nat.zero_le _
theorem own_steps {s a b c d : Nat} (hs : s ≤ 3) (ha : a ≤ 3) (hb : b ≤ 3) (hc : c ≤ 3) (hd : d ≤ 3) : ∃ M1 M2 M3 M4 : List Nat × own_S, own_opt s a own_M0 = some M1 ∧ own_opt (s + 4) b M1 = some M2 ∧ own_opt (s + 8) c M2 = some M3 ∧ own_opt (s + 12) d M3 = some M4 ∧ own_small M1.1 ∧ own_small M2.1 ∧ own_small M3.1 ∧ own_small M4.1 ∧ ∀ pg : Int, own_find M4.1 pg M4.2 6 M4.2.1 20 = some (own_want s a b c d pg) := by
  have h0 := own_chk_at hs ha hb hc hd (Nat.zero_le 4)
  unfold own_chk at h0
  split at h0
  · exact nomatch h0
  · rename_i M4 hM
    have hM' := hM
    unfold own_M at hM
    obtain ⟨M3, h3, h4⟩ := Option.bind_eq_some_iff.mp hM
    obtain ⟨M2, h2, h3⟩ := Option.bind_eq_some_iff.mp h3
    obtain ⟨M1, h1, h2⟩ := Option.bind_eq_some_iff.mp h2
    have s1 := own_optsmall own_small0 ha h1
    have s2 := own_optsmall s1 hb h2
    have s3 := own_optsmall s2 hc h3
    have s4 := own_optsmall s3 hd h4
    refine ⟨M1, M2, M3, M4, h1, h2, h3, h4, s1, s2, s3, s4, fun pg => ?_⟩
    have k := own_chk_at hs ha hb hc hd (own_cl_le pg)
    unfold own_chk at k
    rw [hM'] at k
    rw [own_cl_find s4, own_cl_want ha hb hc hd]
    exact of_decide_eq_true k
theorem own_m3 {x z : Int32} (hz : z = (x &&& (3 : Int32))) : ∃ a : Nat, a ≤ 3 ∧ z = Int32.ofNat a := by
  have h := c_mask x 3 2 (by decide) (by decide)
  rw [← hz] at h
  refine ⟨z.toInt.toNat, by omega, Int32.toInt_inj.mp ?_⟩
  rw [Int32.toInt_ofNat_of_lt (by omega)]
  omega
theorem own_place0 {s : Nat} (hs : s ≤ 3) : Int32.ofNat s = own_i s := (own_iv (by omega)).symm
theorem own_placek {s k : Nat} (hs : s + k < 20) : Int32.ofNat s + Int32.ofNat k = own_i (s + k) := by rw [own_iv hs]; exact (Int32.ofNat_add s k).symm
theorem own_place1 {s : Nat} (hs : s ≤ 3) : (Int32.ofNat s) + (4 : Int32) = own_i (s + 4) := own_placek (k := 4) (by omega)
theorem own_place2 {s : Nat} (hs : s ≤ 3) : (Int32.ofNat s) + (8 : Int32) = own_i (s + 8) := own_placek (k := 8) (by omega)
theorem own_place3 {s : Nat} (hs : s ≤ 3) : (Int32.ofNat s) + (12 : Int32) = own_i (s + 12) := own_placek (k := 12) (by omega)
theorem own_plt0 {s : Nat} (hs : s ≤ 3) : s < 18 := by omega
theorem own_plt1 {s : Nat} (hs : s ≤ 3) : s + 4 < 18 := by omega
theorem own_plt2 {s : Nat} (hs : s ≤ 3) : s + 8 < 18 := by omega
theorem own_plt3 {s : Nat} (hs : s ≤ 3) : s + 12 < 18 := by omega
theorem own_posiff {a : Nat} (ha : a ≤ 3) : (0 : Int32) < Int32.ofNat a ↔ 0 < a := by
  have e : (0 : Int32).toInt = 0 := by decide
  rw [Int32.lt_iff_toInt_lt, e, Int32.toInt_ofNat_of_lt (by omega)]; omega
theorem own_pos {a : Nat} (ha : a ≤ 3) (h : (0 : Int32) < Int32.ofNat a) : 0 < a := (own_posiff ha).mp h
theorem own_npos {a : Nat} (ha : a ≤ 3) (h : ¬ (0 : Int32) < Int32.ofNat a) : ¬ 0 < a := fun z => h ((own_posiff ha).mpr z)
theorem own_len1 {a : Nat} (ha : a ≤ 3) (h : (0 : Int32) < Int32.ofNat a) : 1 ≤ a ∧ a ≤ 3 := ⟨own_pos ha h, ha⟩
theorem own_pk_le {cur len : Nat} (hc : cur ≤ 3) (hl : len ≤ 3) (pg : Int) : own_pk cur len pg ≤ 3 := by unfold own_pk; split <;> assumption
theorem own_ofeq {a b : Nat} (ha : a ≤ 3) (hb : b ≤ 3) : Int32.ofNat a = Int32.ofNat b ↔ a = b := by
  rw [← Int32.toInt_inj, Int32.toInt_ofNat_of_lt (by omega), Int32.toInt_ofNat_of_lt (by omega)]; omega
theorem own_pick_pk {cur len : Nat} (hc : cur ≤ 3) (hl : len ≤ 3) (pg : Int32) : own_pick (Int32.ofNat cur) (Int32.ofNat len) pg = Int32.ofNat (own_pk cur len pg.toInt) := by
  have e1 : (Int32.ofNat len).toInt = (len : Int) := Int32.toInt_ofNat_of_lt (by omega)
  have e2 : (Int32.ofNat cur).toInt = (cur : Int) := Int32.toInt_ofNat_of_lt (by omega)
  have q0 := own_posiff hl
  have q1 : Int32.ofNat len < pg ↔ (len : Int) < pg.toInt := by rw [Int32.lt_iff_toInt_lt, e1]
  have q2 : Int32.ofNat cur = (0 : Int32) ↔ cur = 0 := own_ofeq hc (Nat.zero_le 3)
  have q3 : Int32.ofNat len < Int32.ofNat cur ↔ len < cur := by rw [Int32.lt_iff_toInt_lt, e1, e2]; omega
  unfold own_pick own_pk
  by_cases c0 : 0 < len
  · rw [if_pos (q0.mpr c0)]
    by_cases c1 : (len : Int) < pg.toInt
    · rw [if_pos (q1.mpr c1), if_neg (fun z => by omega)]
    · rw [if_neg (fun z => c1 (q1.mp z))]
      by_cases c2 : cur = 0
      · rw [if_pos (q2.mpr c2), if_pos ⟨c0, by omega, Or.inl c2⟩]
      · rw [if_neg (fun z => c2 (q2.mp z))]
        by_cases c3 : len < cur
        · rw [if_pos (q3.mpr c3), if_pos ⟨c0, by omega, Or.inr c3⟩]
        · rw [if_neg (fun z => c3 (q3.mp z)), if_neg (fun z => by omega)]
  · rw [if_neg (fun z => c0 (q0.mp z)), if_neg (fun z => c0 z.1)]
theorem own_final {s a b c d : Nat} (hs : s ≤ 3) (ha : a ≤ 3) (hb : b ≤ 3) (hc : c ≤ 3) (hd : d ≤ 3) {pg zG zM zW : Int32} (hG : zG = own_i (own_want s a b c d pg.toInt))
    (hM : zM = own_pick (own_pick (own_pick (own_pick (0 : Int32) (Int32.ofNat a) pg) (Int32.ofNat b) pg) (Int32.ofNat c) pg) (Int32.ofNat d) pg)
    (hW : zW = (if zM = (0 : Int32) then (-1 : Int32) else (if (Int32.ofNat a) = zM then (Int32.ofNat s) else (if (Int32.ofNat b) = zM then ((Int32.ofNat s) + (4 : Int32)) else (if (Int32.ofNat c) = zM then ((Int32.ofNat s) + (8 : Int32)) else ((Int32.ofNat s) + (12 : Int32))))))) : zG = zW := by
  have l1 := own_pk_le (Nat.zero_le 3) ha pg.toInt
  have l2 := own_pk_le l1 hb pg.toInt
  have l3 := own_pk_le l2 hc pg.toInt
  have l4 := own_pk_le l3 hd pg.toInt
  rw [show (0 : Int32) = Int32.ofNat 0 from rfl, own_pick_pk (Nat.zero_le 3) ha, own_pick_pk l1 hb, own_pick_pk l2 hc, own_pick_pk l3 hd] at hM
  rw [hG, hW, own_want, hM]
  generalize own_pk (own_pk (own_pk (own_pk 0 a pg.toInt) b pg.toInt) c pg.toInt) d pg.toInt = m at *
  have z0 : Int32.ofNat m = (0 : Int32) ↔ m = 0 := own_ofeq l4 (Nat.zero_le 3)
  show own_i (if m = 0 then 20 else if a = m then s else if b = m then s + 4 else if c = m then s + 8 else s + 12) = _
  by_cases c0 : m = 0
  · rw [if_pos c0, if_pos (z0.mpr c0)]; rfl
  · rw [if_neg c0, if_neg (fun z => c0 (z0.mp z))]
    by_cases c1 : a = m
    · rw [if_pos c1, if_pos ((own_ofeq ha l4).mpr c1)]; exact (own_place0 hs).symm
    · rw [if_neg c1, if_neg (fun z => c1 ((own_ofeq ha l4).mp z))]
      by_cases c2 : b = m
      · rw [if_pos c2, if_pos ((own_ofeq hb l4).mpr c2)]; exact (own_place1 hs).symm
      · rw [if_neg c2, if_neg (fun z => c2 ((own_ofeq hb l4).mp z))]
        by_cases c3 : c = m
        · rw [if_pos c3, if_pos ((own_ofeq hc l4).mpr c3)]; exact (own_place2 hs).symm
        · rw [if_neg c3, if_neg (fun z => c3 ((own_ofeq hc l4).mp z))]; exact (own_place3 hs).symm

theorem own_ef0 (m : MethodId) (p0 : Int32) (p1 : Int32) (p2 : Int32) : entryFrame m #[(.int p0), (.int p1), (.int p2)] maxLocals = mkF m 0 #[.val (.int p0), .val (.int p1), .val (.int p2), .unset, .unset, .unset, .unset, .unset, .unset, .unset, .unset, .unset] [] := by first | (simp [entryFrame, mkF, argsToLocals, Value.category, maxLocals]; done) | rfl
abbrev own_Q0 (n0 : Nat) (v : Option Value) (h : Heap) (L : List Loc) : Prop := v = some (.int 1) ∧ Fr n0 L
theorem own_pn0 : plainName "com/example/slabwarden/slabwarden/chunk/FreeRunsShortestAtLeastPinLaw" = true := by first | (simp [plainName, overriddenIn]; done) | decide +kernel
set_option maxRecDepth 65536 in
set_option maxHeartbeats 40000000 in
theorem rm0 (l : Launch) (Z : State) (a0 : Array Value) (hw : ∀ d ∈ tables_1, d.before a0 Z = true) (ws : List Jvm.Cond) (p0 : Int32) (p1 : Int32) (p2 : Int32) (h0 : Heap) (n0 : Nat) (Z0 : n0 ≤ h0.size) :
    MetFree l x (head1 (Jvm.Cond.code x code maxLocals ret :: ws) room_1) (fun a U => a = #[(.int p0), (.int p1), (.int p2)] ∧ Z.Warmed39 U.vm ∧ U.heap = h0) (fun _ _ _ _ _ => True) (fun _ U o U' => ∃ v L, o = .returned v ∧ own_Q0 n0 v U'.heap L ∧ FrameEnd U o U' L room_1.cells room_1.slots) := by
  refine own_contract (plainFor_of_name own_pn0) (fun m => own_ef0 m p0 p1 p2) ?_
  intro p e s m below meth c s₁ G hx hby hml0 hown0 hnm hret hZ X0 e0 hp hR
  have hml : c.maxLocals = 12 := hml0
  have hown : s.vm.findClass "com/example/slabwarden/slabwarden/chunk/FreeRunsShortestAtLeastPinLaw" = some m.cls := hown0
  have N0 := Fr.nil n0
  show G s₁ (mkF m 0 #[.val (.int p0), .val (.int p1), .val (.int p2), .unset, .unset, .unset, .unset, .unset, .unset, .unset, .unset, .unset] [])
  have K0 : Keep h0 h0 [] := Keep.refl _ _
  refine hp (fun tq kq => XS.iloadN X0.here hx rfl (hb hby at_0) rfl kq) ?_
  show G s₁ (mkF m 1 #[.val (.int p0), .val (.int p1), .val (.int p2), .unset, .unset, .unset, .unset, .unset, .unset, .unset, .unset, .unset] [(.int p1)])
  refine hp (fun tq kq => XS.iconst X0.here hx rfl (hb hby at_1) kq) ?_
  show G s₁ (mkF m 2 #[.val (.int p0), .val (.int p1), .val (.int p2), .unset, .unset, .unset, .unset, .unset, .unset, .unset, .unset, .unset] [(.int (3 : Int32)), (.int p1)])
  refine hp (fun tq kq => XS.iand X0.here hx rfl (hb hby at_2) rfl kq) ?_
  show G s₁ (mkF m 3 #[.val (.int p0), .val (.int p1), .val (.int p2), .unset, .unset, .unset, .unset, .unset, .unset, .unset, .unset, .unset] [(.int (p1 &&& (3 : Int32)))])
  refine hp (fun tq kq => XS.istoreN X0.here hx rfl (hb hby at_3) rfl (l' := #[.val (.int p0), .val (.int p1), .val (.int p2), .val (.int (p1 &&& (3 : Int32))), .unset, .unset, .unset, .unset, .unset, .unset, .unset, .unset]) rfl kq) ?_
  show G s₁ (mkF m 4 #[.val (.int p0), .val (.int p1), .val (.int p2), .val (.int (p1 &&& (3 : Int32))), .unset, .unset, .unset, .unset, .unset, .unset, .unset, .unset] [])
  refine (?_ : ∀ (z1 : Int32), z1 = (p1 &&& (3 : Int32)) → G s₁ (mkF m 4 #[.val (.int p0), .val (.int p1), .val (.int p2), .val (.int z1), .unset, .unset, .unset, .unset, .unset, .unset, .unset, .unset] [])) _ rfl
  intro z1 hz1
  refine hp (fun tq kq => XS.iloadN X0.here hx rfl (hb hby at_4) rfl kq) ?_
  show G s₁ (mkF m 5 #[.val (.int p0), .val (.int p1), .val (.int p2), .val (.int z1), .unset, .unset, .unset, .unset, .unset, .unset, .unset, .unset] [(.int p0)])
  refine hp (fun tq kq => XS.iconst X0.here hx rfl (hb hby at_5) kq) ?_
  show G s₁ (mkF m 6 #[.val (.int p0), .val (.int p1), .val (.int p2), .val (.int z1), .unset, .unset, .unset, .unset, .unset, .unset, .unset, .unset] [(.int (3 : Int32)), (.int p0)])
  refine hp (fun tq kq => XS.iand X0.here hx rfl (hb hby at_6) rfl kq) ?_
  show G s₁ (mkF m 7 #[.val (.int p0), .val (.int p1), .val (.int p2), .val (.int z1), .unset, .unset, .unset, .unset, .unset, .unset, .unset, .unset] [(.int (p0 &&& (3 : Int32)))])
  refine hp (fun tq kq => XS.istore X0.here hx rfl (hb hby at_7) rfl (l' := #[.val (.int p0), .val (.int p1), .val (.int p2), .val (.int z1), .val (.int (p0 &&& (3 : Int32))), .unset, .unset, .unset, .unset, .unset, .unset, .unset]) rfl kq) ?_
  show G s₁ (mkF m 9 #[.val (.int p0), .val (.int p1), .val (.int p2), .val (.int z1), .val (.int (p0 &&& (3 : Int32))), .unset, .unset, .unset, .unset, .unset, .unset, .unset] [])
  refine (?_ : ∀ (z2 : Int32), z2 = (p0 &&& (3 : Int32)) → G s₁ (mkF m 9 #[.val (.int p0), .val (.int p1), .val (.int p2), .val (.int z1), .val (.int z2), .unset, .unset, .unset, .unset, .unset, .unset, .unset] [])) _ rfl
  intro z2 hz2
  refine hp (fun tq kq => XS.iloadN X0.here hx rfl (hb hby at_9) rfl kq) ?_
  show G s₁ (mkF m 10 #[.val (.int p0), .val (.int p1), .val (.int p2), .val (.int z1), .val (.int z2), .unset, .unset, .unset, .unset, .unset, .unset, .unset] [(.int p0)])
  refine hp (fun tq kq => XS.iconst X0.here hx rfl (hb hby at_10) kq) ?_
  show G s₁ (mkF m 11 #[.val (.int p0), .val (.int p1), .val (.int p2), .val (.int z1), .val (.int z2), .unset, .unset, .unset, .unset, .unset, .unset, .unset] [(.int (2 : Int32)), (.int p0)])
  refine hp (fun tq kq => XS.iushr X0.here hx rfl (hb hby at_11) rfl kq) ?_
  show G s₁ (mkF m 12 #[.val (.int p0), .val (.int p1), .val (.int p2), .val (.int z1), .val (.int z2), .unset, .unset, .unset, .unset, .unset, .unset, .unset] [(.int ((p0.toUInt32 >>> ((2 : Int32) &&& 31).toUInt32).toInt32))])
  refine hp (fun tq kq => XS.iconst X0.here hx rfl (hb hby at_12) kq) ?_
  show G s₁ (mkF m 13 #[.val (.int p0), .val (.int p1), .val (.int p2), .val (.int z1), .val (.int z2), .unset, .unset, .unset, .unset, .unset, .unset, .unset] [(.int (3 : Int32)), (.int ((p0.toUInt32 >>> ((2 : Int32) &&& 31).toUInt32).toInt32))])
  refine hp (fun tq kq => XS.iand X0.here hx rfl (hb hby at_13) rfl kq) ?_
  show G s₁ (mkF m 14 #[.val (.int p0), .val (.int p1), .val (.int p2), .val (.int z1), .val (.int z2), .unset, .unset, .unset, .unset, .unset, .unset, .unset] [(.int (((p0.toUInt32 >>> ((2 : Int32) &&& 31).toUInt32).toInt32) &&& (3 : Int32)))])
  refine hp (fun tq kq => XS.istore X0.here hx rfl (hb hby at_14) rfl (l' := #[.val (.int p0), .val (.int p1), .val (.int p2), .val (.int z1), .val (.int z2), .val (.int (((p0.toUInt32 >>> ((2 : Int32) &&& 31).toUInt32).toInt32) &&& (3 : Int32))), .unset, .unset, .unset, .unset, .unset, .unset]) rfl kq) ?_
  show G s₁ (mkF m 16 #[.val (.int p0), .val (.int p1), .val (.int p2), .val (.int z1), .val (.int z2), .val (.int (((p0.toUInt32 >>> ((2 : Int32) &&& 31).toUInt32).toInt32) &&& (3 : Int32))), .unset, .unset, .unset, .unset, .unset, .unset] [])
  refine (?_ : ∀ (z3 : Int32), z3 = (((p0.toUInt32 >>> ((2 : Int32) &&& 31).toUInt32).toInt32) &&& (3 : Int32)) → G s₁ (mkF m 16 #[.val (.int p0), .val (.int p1), .val (.int p2), .val (.int z1), .val (.int z2), .val (.int z3), .unset, .unset, .unset, .unset, .unset, .unset] [])) _ rfl
  intro z3 hz3
  refine hp (fun tq kq => XS.iloadN X0.here hx rfl (hb hby at_16) rfl kq) ?_
  show G s₁ (mkF m 17 #[.val (.int p0), .val (.int p1), .val (.int p2), .val (.int z1), .val (.int z2), .val (.int z3), .unset, .unset, .unset, .unset, .unset, .unset] [(.int p0)])
  refine hp (fun tq kq => XS.iconst X0.here hx rfl (hb hby at_17) kq) ?_
  show G s₁ (mkF m 18 #[.val (.int p0), .val (.int p1), .val (.int p2), .val (.int z1), .val (.int z2), .val (.int z3), .unset, .unset, .unset, .unset, .unset, .unset] [(.int (4 : Int32)), (.int p0)])
  refine hp (fun tq kq => XS.iushr X0.here hx rfl (hb hby at_18) rfl kq) ?_
  show G s₁ (mkF m 19 #[.val (.int p0), .val (.int p1), .val (.int p2), .val (.int z1), .val (.int z2), .val (.int z3), .unset, .unset, .unset, .unset, .unset, .unset] [(.int ((p0.toUInt32 >>> ((4 : Int32) &&& 31).toUInt32).toInt32))])
  refine hp (fun tq kq => XS.iconst X0.here hx rfl (hb hby at_19) kq) ?_
  show G s₁ (mkF m 20 #[.val (.int p0), .val (.int p1), .val (.int p2), .val (.int z1), .val (.int z2), .val (.int z3), .unset, .unset, .unset, .unset, .unset, .unset] [(.int (3 : Int32)), (.int ((p0.toUInt32 >>> ((4 : Int32) &&& 31).toUInt32).toInt32))])
  refine hp (fun tq kq => XS.iand X0.here hx rfl (hb hby at_20) rfl kq) ?_
  show G s₁ (mkF m 21 #[.val (.int p0), .val (.int p1), .val (.int p2), .val (.int z1), .val (.int z2), .val (.int z3), .unset, .unset, .unset, .unset, .unset, .unset] [(.int (((p0.toUInt32 >>> ((4 : Int32) &&& 31).toUInt32).toInt32) &&& (3 : Int32)))])
  refine hp (fun tq kq => XS.istore X0.here hx rfl (hb hby at_21) rfl (l' := #[.val (.int p0), .val (.int p1), .val (.int p2), .val (.int z1), .val (.int z2), .val (.int z3), .val (.int (((p0.toUInt32 >>> ((4 : Int32) &&& 31).toUInt32).toInt32) &&& (3 : Int32))), .unset, .unset, .unset, .unset, .unset]) rfl kq) ?_
  show G s₁ (mkF m 23 #[.val (.int p0), .val (.int p1), .val (.int p2), .val (.int z1), .val (.int z2), .val (.int z3), .val (.int (((p0.toUInt32 >>> ((4 : Int32) &&& 31).toUInt32).toInt32) &&& (3 : Int32))), .unset, .unset, .unset, .unset, .unset] [])
  refine (?_ : ∀ (z4 : Int32), z4 = (((p0.toUInt32 >>> ((4 : Int32) &&& 31).toUInt32).toInt32) &&& (3 : Int32)) → G s₁ (mkF m 23 #[.val (.int p0), .val (.int p1), .val (.int p2), .val (.int z1), .val (.int z2), .val (.int z3), .val (.int z4), .unset, .unset, .unset, .unset, .unset] [])) _ rfl
  intro z4 hz4
  refine hp (fun tq kq => XS.iloadN X0.here hx rfl (hb hby at_23) rfl kq) ?_
  show G s₁ (mkF m 24 #[.val (.int p0), .val (.int p1), .val (.int p2), .val (.int z1), .val (.int z2), .val (.int z3), .val (.int z4), .unset, .unset, .unset, .unset, .unset] [(.int p0)])
  refine hp (fun tq kq => XS.bipush X0.here hx rfl (hb hby at_24) kq) ?_
  show G s₁ (mkF m 26 #[.val (.int p0), .val (.int p1), .val (.int p2), .val (.int z1), .val (.int z2), .val (.int z3), .val (.int z4), .unset, .unset, .unset, .unset, .unset] [(.int (6 : Int32)), (.int p0)])
  refine hp (fun tq kq => XS.iushr X0.here hx rfl (hb hby at_26) rfl kq) ?_
  show G s₁ (mkF m 27 #[.val (.int p0), .val (.int p1), .val (.int p2), .val (.int z1), .val (.int z2), .val (.int z3), .val (.int z4), .unset, .unset, .unset, .unset, .unset] [(.int ((p0.toUInt32 >>> ((6 : Int32) &&& 31).toUInt32).toInt32))])
  refine hp (fun tq kq => XS.iconst X0.here hx rfl (hb hby at_27) kq) ?_
  show G s₁ (mkF m 28 #[.val (.int p0), .val (.int p1), .val (.int p2), .val (.int z1), .val (.int z2), .val (.int z3), .val (.int z4), .unset, .unset, .unset, .unset, .unset] [(.int (3 : Int32)), (.int ((p0.toUInt32 >>> ((6 : Int32) &&& 31).toUInt32).toInt32))])
  refine hp (fun tq kq => XS.iand X0.here hx rfl (hb hby at_28) rfl kq) ?_
  show G s₁ (mkF m 29 #[.val (.int p0), .val (.int p1), .val (.int p2), .val (.int z1), .val (.int z2), .val (.int z3), .val (.int z4), .unset, .unset, .unset, .unset, .unset] [(.int (((p0.toUInt32 >>> ((6 : Int32) &&& 31).toUInt32).toInt32) &&& (3 : Int32)))])
  refine hp (fun tq kq => XS.istore X0.here hx rfl (hb hby at_29) rfl (l' := #[.val (.int p0), .val (.int p1), .val (.int p2), .val (.int z1), .val (.int z2), .val (.int z3), .val (.int z4), .val (.int (((p0.toUInt32 >>> ((6 : Int32) &&& 31).toUInt32).toInt32) &&& (3 : Int32))), .unset, .unset, .unset, .unset]) rfl kq) ?_
  show G s₁ (mkF m 31 #[.val (.int p0), .val (.int p1), .val (.int p2), .val (.int z1), .val (.int z2), .val (.int z3), .val (.int z4), .val (.int (((p0.toUInt32 >>> ((6 : Int32) &&& 31).toUInt32).toInt32) &&& (3 : Int32))), .unset, .unset, .unset, .unset] [])
  refine (?_ : ∀ (z5 : Int32), z5 = (((p0.toUInt32 >>> ((6 : Int32) &&& 31).toUInt32).toInt32) &&& (3 : Int32)) → G s₁ (mkF m 31 #[.val (.int p0), .val (.int p1), .val (.int p2), .val (.int z1), .val (.int z2), .val (.int z3), .val (.int z4), .val (.int z5), .unset, .unset, .unset, .unset] [])) _ rfl
  intro z5 hz5
  obtain ⟨s0, hs, rfl⟩ := own_m3 hz1
  obtain ⟨xa, hxa, rfl⟩ := own_m3 hz2
  obtain ⟨xb, hxb, rfl⟩ := own_m3 hz3
  obtain ⟨xc, hxc, rfl⟩ := own_m3 hz4
  obtain ⟨xd, hxd, rfl⟩ := own_m3 hz5
  obtain ⟨M1, M2, M3, M4, hm1, hm2, hm3, hm4, hs1, hs2, hs3, hs4, hfind⟩ := own_steps hs hxa hxb hxc hxd
  have hs0 := own_small0
  show G s₁ (mkF m 31 #[.val (.int p0), .val (.int p1), .val (.int p2), .val (.int (Int32.ofNat s0)), .val (.int (Int32.ofNat xa)), .val (.int (Int32.ofNat xb)), .val (.int (Int32.ofNat xc)), .val (.int (Int32.ofNat xd)), .unset, .unset, .unset, .unset] [])
  obtain ⟨T6, h6, X6, e6, E6, A6, D6, -, st6⟩ := newO X0 hx hZ hown (hw _ (List.mem_of_getElem? (i := 0) rfl)) (hw _ (List.mem_of_getElem? (i := 1) rfl)) (hw _ (List.mem_of_getElem? (i := 2) rfl)) e0 (g := (mkF m 31 #[.val (.int p0), .val (.int p1), .val (.int p2), .val (.int (Int32.ofNat s0)), .val (.int (Int32.ofNat xa)), .val (.int (Int32.ofNat xb)), .val (.int (Int32.ofNat xc)), .val (.int (Int32.ofNat xd)), .unset, .unset, .unset, .unset] [])) rfl (hb hby at_31) (by decide) (by decide)
  obtain ⟨b6, g6⟩ : ∃ z, z = h0.size := ⟨_, rfl⟩
  rw [← g6] at A6 D6 st6
  have sz_b6 : h0.size ≤ b6 := Nat.le_trans K0.1 (Nat.le_of_eq g6.symm)
  have g_b6 : n0 ≤ b6 := Nat.le_trans Z0 sz_b6
  have K6 := K0.ext E6
  have F6_root_b6 : Fld Z h6 b6 "com/example/slabwarden/slabwarden/chunk/FreeRuns" "root" "I" (.int (0 : Int32)) := D6 (Or.inl (hw _ (List.mem_of_getElem? (i := 10) rfl))) (ty := .int) (by decide)
  have F6_lengthOfRunFirstAt_b6 : Fld Z h6 b6 "com/example/slabwarden/slabwarden/chunk/FreeRuns" "lengthOfRunFirstAt" "[I" .null := D6 (Or.inr (hw _ (List.mem_of_getElem? (i := 13) rfl))) (ty := (.array .int)) (by decide)
  have F6_firstPlusOneOfRunEndingAt_b6 : Fld Z h6 b6 "com/example/slabwarden/slabwarden/chunk/FreeRuns" "firstPlusOneOfRunEndingAt" "[I" .null := D6 (Or.inr (hw _ (List.mem_of_getElem? (i := 15) rfl))) (ty := (.array .int)) (by decide)
  have F6_left_b6 : Fld Z h6 b6 "com/example/slabwarden/slabwarden/chunk/FreeRuns" "left" "[I" .null := D6 (Or.inr (hw _ (List.mem_of_getElem? (i := 17) rfl))) (ty := (.array .int)) (by decide)
  have F6_right_b6 : Fld Z h6 b6 "com/example/slabwarden/slabwarden/chunk/FreeRuns" "right" "[I" .null := D6 (Or.inr (hw _ (List.mem_of_getElem? (i := 19) rfl))) (ty := (.array .int)) (by decide)
  refine hp st6 ?_
  show G T6 (mkF m 34 #[.val (.int p0), .val (.int p1), .val (.int p2), .val (.int (Int32.ofNat s0)), .val (.int (Int32.ofNat xa)), .val (.int (Int32.ofNat xb)), .val (.int (Int32.ofNat xc)), .val (.int (Int32.ofNat xd)), .unset, .unset, .unset, .unset] [(.ref b6)])
  refine hp (fun tq kq => XS.dup X6.here hx rfl (hb hby at_34) rfl rfl kq) ?_
  show G T6 (mkF m 35 #[.val (.int p0), .val (.int p1), .val (.int p2), .val (.int (Int32.ofNat s0)), .val (.int (Int32.ofNat xa)), .val (.int (Int32.ofNat xb)), .val (.int (Int32.ofNat xc)), .val (.int (Int32.ofNat xd)), .unset, .unset, .unset, .unset] [(.ref b6), (.ref b6)])
  refine hp (fun tq kq => XS.bipush X6.here hx rfl (hb hby at_35) kq) ?_
  show G T6 (mkF m 37 #[.val (.int p0), .val (.int p1), .val (.int p2), .val (.int (Int32.ofNat s0)), .val (.int (Int32.ofNat xa)), .val (.int (Int32.ofNat xb)), .val (.int (Int32.ofNat xc)), .val (.int (Int32.ofNat xd)), .unset, .unset, .unset, .unset] [(.int (20 : Int32)), (.ref b6), (.ref b6)])
  obtain ⟨v7, T7, L7, X7, hQ7, st7⟩ := own_callI X6 hx hZ (y := (⟨"com/example/slabwarden/slabwarden/chunk/FreeRuns", "<init>", "(I)V"⟩ : MethodName)) (rm := ({ frames := 1, cells := 4, slots := 80, locals := 12 } : Room)) 1 rfl hown (hw _ (List.mem_of_getElem? (i := 3) rfl)) (hw _ (List.mem_of_getElem? (i := 4) rfl)) (hw _ (List.mem_of_getElem? (i := 2) rfl)) (hw _ (List.mem_of_getElem? (i := 5) rfl)) (by decide) (rm1 l Z a0 hw [] b6 (20 : Int32) h6 n0 (Nat.le_trans Z0 K6.1) rfl A6 F6_root_b6 F6_lengthOfRunFirstAt_b6 F6_firstPlusOneOfRunEndingAt_b6 F6_left_b6 F6_right_b6 g_b6) e6 (by decide) (by decide) (g := (mkF m 37 #[.val (.int p0), .val (.int p1), .val (.int p2), .val (.int (Int32.ofNat s0)), .val (.int (Int32.ofNat xa)), .val (.int (Int32.ofNat xb)), .val (.int (Int32.ofNat xc)), .val (.int (Int32.ofNat xd)), .unset, .unset, .unset, .unset] [(.int (20 : Int32)), (.ref b6), (.ref b6)])) rfl (by rw [hml]; rfl) b6 [(.int (20 : Int32))] [(.ref b6)] own_pd5 rfl rfl (by show 2 * 0 + _ ≤ _; exact Nat.le_of_eq rfl) (hb hby at_37) rfl (by decide) (by decide)
  obtain ⟨la, ea, lf, rt, rfl, N7, Kc7, hT7, n_o_la, n_o_ea, n_o_lf, n_o_rt, n_la_ea, n_la_lf, n_la_rt, n_ea_lf, n_ea_rt, n_lf_rt, sla, sea, slf, srt⟩ := hQ7
  have N7b := Fr.app N0 N7
  have sz_la : h0.size ≤ la := Nat.le_trans K6.1 sla
  have g_la : n0 ≤ la := Nat.le_trans Z0 sz_la
  have sz_ea : h0.size ≤ ea := Nat.le_trans K6.1 sea
  have g_ea : n0 ≤ ea := Nat.le_trans Z0 sz_ea
  have sz_lf : h0.size ≤ lf := Nat.le_trans K6.1 slf
  have g_lf : n0 ≤ lf := Nat.le_trans Z0 sz_lf
  have sz_rt : h0.size ≤ rt := Nat.le_trans K6.1 srt
  have g_rt : n0 ≤ rt := Nat.le_trans Z0 sz_rt
  have hD : own_D n0 b6 la ea lf rt := ⟨g_b6, g_la, g_ea, g_lf, g_rt, n_o_la, n_o_ea, n_o_lf, n_o_rt, n_la_ea, n_la_lf, n_la_rt, n_ea_lf, n_ea_rt, n_lf_rt⟩
  have K7 := K6.trans Kc7 (allS (Or.inr sz_b6) all0)
  obtain ⟨Et8, Frt8, Flt8, Fet8, Fat8, Fbt8, Vlt8, ⟨fet8, Vet8⟩, Vat8, Vbt8, hlt8, hat8, hbt8⟩ := hT7
  refine hp st7 ?_
  show G T7 (mkF m 40 #[.val (.int p0), .val (.int p1), .val (.int p2), .val (.int (Int32.ofNat s0)), .val (.int (Int32.ofNat xa)), .val (.int (Int32.ofNat xb)), .val (.int (Int32.ofNat xc)), .val (.int (Int32.ofNat xd)), .unset, .unset, .unset, .unset] [(.ref b6)])
  refine hp (fun tq kq => XS.astore X7.here hx rfl (hb hby at_40) rfl rfl (l' := #[.val (.int p0), .val (.int p1), .val (.int p2), .val (.int (Int32.ofNat s0)), .val (.int (Int32.ofNat xa)), .val (.int (Int32.ofNat xb)), .val (.int (Int32.ofNat xc)), .val (.int (Int32.ofNat xd)), .val (.ref b6), .unset, .unset, .unset]) rfl kq) ?_
  show G T7 (mkF m 42 #[.val (.int p0), .val (.int p1), .val (.int p2), .val (.int (Int32.ofNat s0)), .val (.int (Int32.ofNat xa)), .val (.int (Int32.ofNat xb)), .val (.int (Int32.ofNat xc)), .val (.int (Int32.ofNat xd)), .val (.ref b6), .unset, .unset, .unset] [])
  have j102 : ∀ (T9w : State) (locs9w : List Loc) (h9w : Heap), Stand p l e room_1 s m #[(.int p0), (.int p1), (.int p2)] below meth c T9w locs9w 5 85 → T9w.heap = h9w → Keep h0 h9w [] → Fr n0 locs9w → own_T Z h9w b6 la ea lf rt M4.1 M4.2 → G T9w (mkF m 102 #[.val (.int p0), .val (.int p1), .val (.int p2), .val (.int (Int32.ofNat s0)), .val (.int (Int32.ofNat xa)), .val (.int (Int32.ofNat xb)), .val (.int (Int32.ofNat xc)), .val (.int (Int32.ofNat xd)), .val (.ref b6), .unset, .unset, .unset] []) := by
    intro T9w locs9w h9w X9w e9w K9w N9w hT9
    obtain ⟨Et9, Frt9, Flt9, Fet9, Fat9, Fbt9, Vlt9, ⟨fet9, Vet9⟩, Vat9, Vbt9, hlt9, hat9, hbt9⟩ := hT9
    show G T9w (mkF m 102 #[.val (.int p0), .val (.int p1), .val (.int p2), .val (.int (Int32.ofNat s0)), .val (.int (Int32.ofNat xa)), .val (.int (Int32.ofNat xb)), .val (.int (Int32.ofNat xc)), .val (.int (Int32.ofNat xd)), .val (.ref b6), .unset, .unset, .unset] [])
    refine hp (fun tq kq => XS.aload X9w.here hx rfl (hb hby at_102) rfl rfl kq) ?_
    show G T9w (mkF m 104 #[.val (.int p0), .val (.int p1), .val (.int p2), .val (.int (Int32.ofNat s0)), .val (.int (Int32.ofNat xa)), .val (.int (Int32.ofNat xb)), .val (.int (Int32.ofNat xc)), .val (.int (Int32.ofNat xd)), .val (.ref b6), .unset, .unset, .unset] [(.ref b6)])
    refine hp (fun tq kq => XS.iloadN X9w.here hx rfl (hb hby at_104) rfl kq) ?_
    show G T9w (mkF m 105 #[.val (.int p0), .val (.int p1), .val (.int p2), .val (.int (Int32.ofNat s0)), .val (.int (Int32.ofNat xa)), .val (.int (Int32.ofNat xb)), .val (.int (Int32.ofNat xc)), .val (.int (Int32.ofNat xd)), .val (.ref b6), .unset, .unset, .unset] [(.int p2), (.ref b6)])
    obtain ⟨v10, T10, L10, X10, hQ10, st10⟩ := own_callV X9w hx hZ (y := (⟨"com/example/slabwarden/slabwarden/chunk/FreeRuns", "shortestAtLeast", "(I)I"⟩ : MethodName)) (rm := ({ frames := 2, cells := 0, slots := 0, locals := 26 } : Room)) 0 hown (hw _ (List.mem_of_getElem? (i := 20) rfl)) (hw _ (List.mem_of_getElem? (i := 21) rfl)) (hw _ (List.mem_of_getElem? (i := 23) rfl)) (hw _ (List.mem_of_getElem? (i := 22) rfl)) (hw _ (List.mem_of_getElem? (i := 2) rfl)) (hw _ (List.mem_of_getElem? (i := 24) rfl)) (by decide) (rm3 l Z a0 hw [] b6 p2 la ea lf rt M4.1 M4.2 (own_want s0 xa xb xc xd p2.toInt) h9w n0 hs4 ⟨Et9, Frt9, Flt9, Fet9, Fat9, Fbt9, Vlt9, ⟨_, Vet9⟩, Vat9, Vbt9, hlt9, hat9, hbt9⟩ (hfind _)) e9w Et9 (by decide) (by decide) (g := (mkF m 105 #[.val (.int p0), .val (.int p1), .val (.int p2), .val (.int (Int32.ofNat s0)), .val (.int (Int32.ofNat xa)), .val (.int (Int32.ofNat xb)), .val (.int (Int32.ofNat xc)), .val (.int (Int32.ofNat xd)), .val (.ref b6), .unset, .unset, .unset] [(.int p2), (.ref b6)])) rfl (by rw [hml]; rfl) [(.int p2)] [] own_pd3 rfl rfl (by show 2 * 0 + _ ≤ _; exact Nat.le_of_eq rfl) (hb hby at_105) rfl (by decide) (by decide)
    obtain ⟨rfl, N10, e10⟩ := hQ10
    have N10b := Fr.app N9w N10
    refine hp st10 ?_
    show G T10 (mkF m 108 #[.val (.int p0), .val (.int p1), .val (.int p2), .val (.int (Int32.ofNat s0)), .val (.int (Int32.ofNat xa)), .val (.int (Int32.ofNat xb)), .val (.int (Int32.ofNat xc)), .val (.int (Int32.ofNat xd)), .val (.ref b6), .unset, .unset, .unset] [(.int (own_i (own_want s0 xa xb xc xd p2.toInt)))])
    refine hp (fun tq kq => XS.istore X10.here hx rfl (hb hby at_108) rfl (l' := #[.val (.int p0), .val (.int p1), .val (.int p2), .val (.int (Int32.ofNat s0)), .val (.int (Int32.ofNat xa)), .val (.int (Int32.ofNat xb)), .val (.int (Int32.ofNat xc)), .val (.int (Int32.ofNat xd)), .val (.ref b6), .val (.int (own_i (own_want s0 xa xb xc xd p2.toInt))), .unset, .unset]) rfl kq) ?_
    show G T10 (mkF m 110 #[.val (.int p0), .val (.int p1), .val (.int p2), .val (.int (Int32.ofNat s0)), .val (.int (Int32.ofNat xa)), .val (.int (Int32.ofNat xb)), .val (.int (Int32.ofNat xc)), .val (.int (Int32.ofNat xd)), .val (.ref b6), .val (.int (own_i (own_want s0 xa xb xc xd p2.toInt))), .unset, .unset] [])
    refine (?_ : ∀ (z11 : Int32), z11 = (own_i (own_want s0 xa xb xc xd p2.toInt)) → G T10 (mkF m 110 #[.val (.int p0), .val (.int p1), .val (.int p2), .val (.int (Int32.ofNat s0)), .val (.int (Int32.ofNat xa)), .val (.int (Int32.ofNat xb)), .val (.int (Int32.ofNat xc)), .val (.int (Int32.ofNat xd)), .val (.ref b6), .val (.int z11), .unset, .unset] [])) _ rfl
    intro z11 hz11
    refine hp (fun tq kq => XS.iconst X10.here hx rfl (hb hby at_110) kq) ?_
    show G T10 (mkF m 111 #[.val (.int p0), .val (.int p1), .val (.int p2), .val (.int (Int32.ofNat s0)), .val (.int (Int32.ofNat xa)), .val (.int (Int32.ofNat xb)), .val (.int (Int32.ofNat xc)), .val (.int (Int32.ofNat xd)), .val (.ref b6), .val (.int z11), .unset, .unset] [(.int (0 : Int32))])
    refine hp (fun tq kq => XS.iload X10.here hx rfl (hb hby at_111) rfl kq) ?_
    show G T10 (mkF m 113 #[.val (.int p0), .val (.int p1), .val (.int p2), .val (.int (Int32.ofNat s0)), .val (.int (Int32.ofNat xa)), .val (.int (Int32.ofNat xb)), .val (.int (Int32.ofNat xc)), .val (.int (Int32.ofNat xd)), .val (.ref b6), .val (.int z11), .unset, .unset] [(.int (Int32.ofNat xa)), (.int (0 : Int32))])
    refine hp (fun tq kq => XS.iloadN X10.here hx rfl (hb hby at_113) rfl kq) ?_
    show G T10 (mkF m 114 #[.val (.int p0), .val (.int p1), .val (.int p2), .val (.int (Int32.ofNat s0)), .val (.int (Int32.ofNat xa)), .val (.int (Int32.ofNat xb)), .val (.int (Int32.ofNat xc)), .val (.int (Int32.ofNat xd)), .val (.ref b6), .val (.int z11), .unset, .unset] [(.int p2), (.int (Int32.ofNat xa)), (.int (0 : Int32))])
    obtain ⟨v12, T12, L12, X12, hQ12, st12⟩ := own_callS X10 hx hZ (y := (⟨"com/example/slabwarden/slabwarden/chunk/FreeRunsShortestAtLeastPinLaw", "pick", "(III)I"⟩ : MethodName)) (rm := ({ frames := 0, cells := 0, slots := 0, locals := 0 } : Room)) 0 hown (hw _ (List.mem_of_getElem? (i := 28) rfl)) (hw _ (List.mem_of_getElem? (i := 29) rfl)) (hw _ (List.mem_of_getElem? (i := 30) rfl)) (hw _ (List.mem_of_getElem? (i := 31) rfl)) (by decide) (rm5 l Z a0 hw [] (0 : Int32) (Int32.ofNat xa) p2 h9w n0) e10 (by decide) (by decide) (g := (mkF m 114 #[.val (.int p0), .val (.int p1), .val (.int p2), .val (.int (Int32.ofNat s0)), .val (.int (Int32.ofNat xa)), .val (.int (Int32.ofNat xb)), .val (.int (Int32.ofNat xc)), .val (.int (Int32.ofNat xd)), .val (.ref b6), .val (.int z11), .unset, .unset] [(.int p2), (.int (Int32.ofNat xa)), (.int (0 : Int32))])) rfl (by rw [hml]; rfl) [(.int (0 : Int32)), (.int (Int32.ofNat xa)), (.int p2)] [] own_pd6 rfl rfl (by show 2 * 0 + _ ≤ _; exact Nat.le_of_eq rfl) (hb hby at_114) rfl (by decide) (by decide)
    obtain ⟨rfl, N12, e12⟩ := hQ12
    have F12 := Fr.app N10b N12
    refine hp st12 ?_
    show G T12 (mkF m 117 #[.val (.int p0), .val (.int p1), .val (.int p2), .val (.int (Int32.ofNat s0)), .val (.int (Int32.ofNat xa)), .val (.int (Int32.ofNat xb)), .val (.int (Int32.ofNat xc)), .val (.int (Int32.ofNat xd)), .val (.ref b6), .val (.int z11), .unset, .unset] [(.int (own_pick (0 : Int32) (Int32.ofNat xa) p2))])
    refine hp (fun tq kq => XS.iload X12.here hx rfl (hb hby at_117) rfl kq) ?_
    show G T12 (mkF m 119 #[.val (.int p0), .val (.int p1), .val (.int p2), .val (.int (Int32.ofNat s0)), .val (.int (Int32.ofNat xa)), .val (.int (Int32.ofNat xb)), .val (.int (Int32.ofNat xc)), .val (.int (Int32.ofNat xd)), .val (.ref b6), .val (.int z11), .unset, .unset] [(.int (Int32.ofNat xb)), (.int (own_pick (0 : Int32) (Int32.ofNat xa) p2))])
    refine hp (fun tq kq => XS.iloadN X12.here hx rfl (hb hby at_119) rfl kq) ?_
    show G T12 (mkF m 120 #[.val (.int p0), .val (.int p1), .val (.int p2), .val (.int (Int32.ofNat s0)), .val (.int (Int32.ofNat xa)), .val (.int (Int32.ofNat xb)), .val (.int (Int32.ofNat xc)), .val (.int (Int32.ofNat xd)), .val (.ref b6), .val (.int z11), .unset, .unset] [(.int p2), (.int (Int32.ofNat xb)), (.int (own_pick (0 : Int32) (Int32.ofNat xa) p2))])
    obtain ⟨v13, T13, L13, X13, hQ13, st13⟩ := own_callS X12 hx hZ (y := (⟨"com/example/slabwarden/slabwarden/chunk/FreeRunsShortestAtLeastPinLaw", "pick", "(III)I"⟩ : MethodName)) (rm := ({ frames := 0, cells := 0, slots := 0, locals := 0 } : Room)) 0 hown (hw _ (List.mem_of_getElem? (i := 28) rfl)) (hw _ (List.mem_of_getElem? (i := 29) rfl)) (hw _ (List.mem_of_getElem? (i := 30) rfl)) (hw _ (List.mem_of_getElem? (i := 31) rfl)) (by decide) (rm5 l Z a0 hw [] (own_pick (0 : Int32) (Int32.ofNat xa) p2) (Int32.ofNat xb) p2 h9w n0) e12 (by decide) (by decide) (g := (mkF m 120 #[.val (.int p0), .val (.int p1), .val (.int p2), .val (.int (Int32.ofNat s0)), .val (.int (Int32.ofNat xa)), .val (.int (Int32.ofNat xb)), .val (.int (Int32.ofNat xc)), .val (.int (Int32.ofNat xd)), .val (.ref b6), .val (.int z11), .unset, .unset] [(.int p2), (.int (Int32.ofNat xb)), (.int (own_pick (0 : Int32) (Int32.ofNat xa) p2))])) rfl (by rw [hml]; rfl) [(.int (own_pick (0 : Int32) (Int32.ofNat xa) p2)), (.int (Int32.ofNat xb)), (.int p2)] [] own_pd6 rfl rfl (by show 2 * 0 + _ ≤ _; exact Nat.le_of_eq rfl) (hb hby at_120) rfl (by decide) (by decide)
    obtain ⟨rfl, N13, e13⟩ := hQ13
    have F13 := Fr.app F12 N13
    refine hp st13 ?_
    show G T13 (mkF m 123 #[.val (.int p0), .val (.int p1), .val (.int p2), .val (.int (Int32.ofNat s0)), .val (.int (Int32.ofNat xa)), .val (.int (Int32.ofNat xb)), .val (.int (Int32.ofNat xc)), .val (.int (Int32.ofNat xd)), .val (.ref b6), .val (.int z11), .unset, .unset] [(.int (own_pick (own_pick (0 : Int32) (Int32.ofNat xa) p2) (Int32.ofNat xb) p2))])
    refine hp (fun tq kq => XS.iload X13.here hx rfl (hb hby at_123) rfl kq) ?_
    show G T13 (mkF m 125 #[.val (.int p0), .val (.int p1), .val (.int p2), .val (.int (Int32.ofNat s0)), .val (.int (Int32.ofNat xa)), .val (.int (Int32.ofNat xb)), .val (.int (Int32.ofNat xc)), .val (.int (Int32.ofNat xd)), .val (.ref b6), .val (.int z11), .unset, .unset] [(.int (Int32.ofNat xc)), (.int (own_pick (own_pick (0 : Int32) (Int32.ofNat xa) p2) (Int32.ofNat xb) p2))])
    refine hp (fun tq kq => XS.iloadN X13.here hx rfl (hb hby at_125) rfl kq) ?_
    show G T13 (mkF m 126 #[.val (.int p0), .val (.int p1), .val (.int p2), .val (.int (Int32.ofNat s0)), .val (.int (Int32.ofNat xa)), .val (.int (Int32.ofNat xb)), .val (.int (Int32.ofNat xc)), .val (.int (Int32.ofNat xd)), .val (.ref b6), .val (.int z11), .unset, .unset] [(.int p2), (.int (Int32.ofNat xc)), (.int (own_pick (own_pick (0 : Int32) (Int32.ofNat xa) p2) (Int32.ofNat xb) p2))])
    obtain ⟨v14, T14, L14, X14, hQ14, st14⟩ := own_callS X13 hx hZ (y := (⟨"com/example/slabwarden/slabwarden/chunk/FreeRunsShortestAtLeastPinLaw", "pick", "(III)I"⟩ : MethodName)) (rm := ({ frames := 0, cells := 0, slots := 0, locals := 0 } : Room)) 0 hown (hw _ (List.mem_of_getElem? (i := 28) rfl)) (hw _ (List.mem_of_getElem? (i := 29) rfl)) (hw _ (List.mem_of_getElem? (i := 30) rfl)) (hw _ (List.mem_of_getElem? (i := 31) rfl)) (by decide) (rm5 l Z a0 hw [] (own_pick (own_pick (0 : Int32) (Int32.ofNat xa) p2) (Int32.ofNat xb) p2) (Int32.ofNat xc) p2 h9w n0) e13 (by decide) (by decide) (g := (mkF m 126 #[.val (.int p0), .val (.int p1), .val (.int p2), .val (.int (Int32.ofNat s0)), .val (.int (Int32.ofNat xa)), .val (.int (Int32.ofNat xb)), .val (.int (Int32.ofNat xc)), .val (.int (Int32.ofNat xd)), .val (.ref b6), .val (.int z11), .unset, .unset] [(.int p2), (.int (Int32.ofNat xc)), (.int (own_pick (own_pick (0 : Int32) (Int32.ofNat xa) p2) (Int32.ofNat xb) p2))])) rfl (by rw [hml]; rfl) [(.int (own_pick (own_pick (0 : Int32) (Int32.ofNat xa) p2) (Int32.ofNat xb) p2)), (.int (Int32.ofNat xc)), (.int p2)] [] own_pd6 rfl rfl (by show 2 * 0 + _ ≤ _; exact Nat.le_of_eq rfl) (hb hby at_126) rfl (by decide) (by decide)
    obtain ⟨rfl, N14, e14⟩ := hQ14
    have F14 := Fr.app F13 N14
    refine hp st14 ?_
    show G T14 (mkF m 129 #[.val (.int p0), .val (.int p1), .val (.int p2), .val (.int (Int32.ofNat s0)), .val (.int (Int32.ofNat xa)), .val (.int (Int32.ofNat xb)), .val (.int (Int32.ofNat xc)), .val (.int (Int32.ofNat xd)), .val (.ref b6), .val (.int z11), .unset, .unset] [(.int (own_pick (own_pick (own_pick (0 : Int32) (Int32.ofNat xa) p2) (Int32.ofNat xb) p2) (Int32.ofNat xc) p2))])
    refine hp (fun tq kq => XS.iload X14.here hx rfl (hb hby at_129) rfl kq) ?_
    show G T14 (mkF m 131 #[.val (.int p0), .val (.int p1), .val (.int p2), .val (.int (Int32.ofNat s0)), .val (.int (Int32.ofNat xa)), .val (.int (Int32.ofNat xb)), .val (.int (Int32.ofNat xc)), .val (.int (Int32.ofNat xd)), .val (.ref b6), .val (.int z11), .unset, .unset] [(.int (Int32.ofNat xd)), (.int (own_pick (own_pick (own_pick (0 : Int32) (Int32.ofNat xa) p2) (Int32.ofNat xb) p2) (Int32.ofNat xc) p2))])
    refine hp (fun tq kq => XS.iloadN X14.here hx rfl (hb hby at_131) rfl kq) ?_
    show G T14 (mkF m 132 #[.val (.int p0), .val (.int p1), .val (.int p2), .val (.int (Int32.ofNat s0)), .val (.int (Int32.ofNat xa)), .val (.int (Int32.ofNat xb)), .val (.int (Int32.ofNat xc)), .val (.int (Int32.ofNat xd)), .val (.ref b6), .val (.int z11), .unset, .unset] [(.int p2), (.int (Int32.ofNat xd)), (.int (own_pick (own_pick (own_pick (0 : Int32) (Int32.ofNat xa) p2) (Int32.ofNat xb) p2) (Int32.ofNat xc) p2))])
    obtain ⟨v15, T15, L15, X15, hQ15, st15⟩ := own_callS X14 hx hZ (y := (⟨"com/example/slabwarden/slabwarden/chunk/FreeRunsShortestAtLeastPinLaw", "pick", "(III)I"⟩ : MethodName)) (rm := ({ frames := 0, cells := 0, slots := 0, locals := 0 } : Room)) 0 hown (hw _ (List.mem_of_getElem? (i := 28) rfl)) (hw _ (List.mem_of_getElem? (i := 29) rfl)) (hw _ (List.mem_of_getElem? (i := 30) rfl)) (hw _ (List.mem_of_getElem? (i := 31) rfl)) (by decide) (rm5 l Z a0 hw [] (own_pick (own_pick (own_pick (0 : Int32) (Int32.ofNat xa) p2) (Int32.ofNat xb) p2) (Int32.ofNat xc) p2) (Int32.ofNat xd) p2 h9w n0) e14 (by decide) (by decide) (g := (mkF m 132 #[.val (.int p0), .val (.int p1), .val (.int p2), .val (.int (Int32.ofNat s0)), .val (.int (Int32.ofNat xa)), .val (.int (Int32.ofNat xb)), .val (.int (Int32.ofNat xc)), .val (.int (Int32.ofNat xd)), .val (.ref b6), .val (.int z11), .unset, .unset] [(.int p2), (.int (Int32.ofNat xd)), (.int (own_pick (own_pick (own_pick (0 : Int32) (Int32.ofNat xa) p2) (Int32.ofNat xb) p2) (Int32.ofNat xc) p2))])) rfl (by rw [hml]; rfl) [(.int (own_pick (own_pick (own_pick (0 : Int32) (Int32.ofNat xa) p2) (Int32.ofNat xb) p2) (Int32.ofNat xc) p2)), (.int (Int32.ofNat xd)), (.int p2)] [] own_pd6 rfl rfl (by show 2 * 0 + _ ≤ _; exact Nat.le_of_eq rfl) (hb hby at_132) rfl (by decide) (by decide)
    obtain ⟨rfl, N15, e15⟩ := hQ15
    have F15 := Fr.app F14 N15
    refine hp st15 ?_
    show G T15 (mkF m 135 #[.val (.int p0), .val (.int p1), .val (.int p2), .val (.int (Int32.ofNat s0)), .val (.int (Int32.ofNat xa)), .val (.int (Int32.ofNat xb)), .val (.int (Int32.ofNat xc)), .val (.int (Int32.ofNat xd)), .val (.ref b6), .val (.int z11), .unset, .unset] [(.int (own_pick (own_pick (own_pick (own_pick (0 : Int32) (Int32.ofNat xa) p2) (Int32.ofNat xb) p2) (Int32.ofNat xc) p2) (Int32.ofNat xd) p2))])
    refine hp (fun tq kq => XS.istore X15.here hx rfl (hb hby at_135) rfl (l' := #[.val (.int p0), .val (.int p1), .val (.int p2), .val (.int (Int32.ofNat s0)), .val (.int (Int32.ofNat xa)), .val (.int (Int32.ofNat xb)), .val (.int (Int32.ofNat xc)), .val (.int (Int32.ofNat xd)), .val (.ref b6), .val (.int z11), .val (.int (own_pick (own_pick (own_pick (own_pick (0 : Int32) (Int32.ofNat xa) p2) (Int32.ofNat xb) p2) (Int32.ofNat xc) p2) (Int32.ofNat xd) p2)), .unset]) rfl kq) ?_
    show G T15 (mkF m 137 #[.val (.int p0), .val (.int p1), .val (.int p2), .val (.int (Int32.ofNat s0)), .val (.int (Int32.ofNat xa)), .val (.int (Int32.ofNat xb)), .val (.int (Int32.ofNat xc)), .val (.int (Int32.ofNat xd)), .val (.ref b6), .val (.int z11), .val (.int (own_pick (own_pick (own_pick (own_pick (0 : Int32) (Int32.ofNat xa) p2) (Int32.ofNat xb) p2) (Int32.ofNat xc) p2) (Int32.ofNat xd) p2)), .unset] [])
    refine (?_ : ∀ (z16 : Int32), z16 = (own_pick (own_pick (own_pick (own_pick (0 : Int32) (Int32.ofNat xa) p2) (Int32.ofNat xb) p2) (Int32.ofNat xc) p2) (Int32.ofNat xd) p2) → G T15 (mkF m 137 #[.val (.int p0), .val (.int p1), .val (.int p2), .val (.int (Int32.ofNat s0)), .val (.int (Int32.ofNat xa)), .val (.int (Int32.ofNat xb)), .val (.int (Int32.ofNat xc)), .val (.int (Int32.ofNat xd)), .val (.ref b6), .val (.int z11), .val (.int z16), .unset] [])) _ rfl
    intro z16 hz16
    refine hp (fun tq kq => XS.iload X15.here hx rfl (hb hby at_137) rfl kq) ?_
    show G T15 (mkF m 139 #[.val (.int p0), .val (.int p1), .val (.int p2), .val (.int (Int32.ofNat s0)), .val (.int (Int32.ofNat xa)), .val (.int (Int32.ofNat xb)), .val (.int (Int32.ofNat xc)), .val (.int (Int32.ofNat xd)), .val (.ref b6), .val (.int z11), .val (.int z16), .unset] [(.int z16)])
    have j17 : ∀ (z18 : Int32), z18 = (if z16 = (0 : Int32) then (-1 : Int32) else (if (Int32.ofNat xa) = z16 then (Int32.ofNat s0) else (if (Int32.ofNat xb) = z16 then ((Int32.ofNat s0) + (4 : Int32)) else (if (Int32.ofNat xc) = z16 then ((Int32.ofNat s0) + (8 : Int32)) else ((Int32.ofNat s0) + (12 : Int32)))))) → G T15 (mkF m 198 #[.val (.int p0), .val (.int p1), .val (.int p2), .val (.int (Int32.ofNat s0)), .val (.int (Int32.ofNat xa)), .val (.int (Int32.ofNat xb)), .val (.int (Int32.ofNat xc)), .val (.int (Int32.ofNat xd)), .val (.ref b6), .val (.int z11), .val (.int z16), .val (.int z18)] []) := by
      intro z18 hz18
      refine hp (fun tq kq => XS.iload X15.here hx rfl (hb hby at_198) rfl kq) ?_
      show G T15 (mkF m 200 #[.val (.int p0), .val (.int p1), .val (.int p2), .val (.int (Int32.ofNat s0)), .val (.int (Int32.ofNat xa)), .val (.int (Int32.ofNat xb)), .val (.int (Int32.ofNat xc)), .val (.int (Int32.ofNat xd)), .val (.ref b6), .val (.int z11), .val (.int z16), .val (.int z18)] [(.int z11)])
      refine hp (fun tq kq => XS.iload X15.here hx rfl (hb hby at_200) rfl kq) ?_
      show G T15 (mkF m 202 #[.val (.int p0), .val (.int p1), .val (.int p2), .val (.int (Int32.ofNat s0)), .val (.int (Int32.ofNat xa)), .val (.int (Int32.ofNat xb)), .val (.int (Int32.ofNat xc)), .val (.int (Int32.ofNat xd)), .val (.ref b6), .val (.int z11), .val (.int z16), .val (.int z18)] [(.int z18), (.int z11)])
      refine hp (fun tq kq => XS.icmpNo X15.here hx rfl (hb hby at_202) rfl (teq (own_final hs hxa hxb hxc hxd hz11 hz16 hz18)).2 kq) ?_
      show G T15 (mkF m 205 #[.val (.int p0), .val (.int p1), .val (.int p2), .val (.int (Int32.ofNat s0)), .val (.int (Int32.ofNat xa)), .val (.int (Int32.ofNat xb)), .val (.int (Int32.ofNat xc)), .val (.int (Int32.ofNat xd)), .val (.ref b6), .val (.int z11), .val (.int z16), .val (.int z18)] [])
      refine hp (fun tq kq => XS.iconst X15.here hx rfl (hb hby at_205) kq) ?_
      show G T15 (mkF m 206 #[.val (.int p0), .val (.int p1), .val (.int p2), .val (.int (Int32.ofNat s0)), .val (.int (Int32.ofNat xa)), .val (.int (Int32.ofNat xb)), .val (.int (Int32.ofNat xc)), .val (.int (Int32.ofNat xd)), .val (.ref b6), .val (.int z11), .val (.int z16), .val (.int z18)] [(.int (1 : Int32))])
      refine hp (fun tq kq => XS.goto X15.here hx rfl (pc0 := 206) (pc' := 210) rfl (hb hby at_206) (by decide) (by decide) kq) ?_
      show G T15 (mkF m 210 #[.val (.int p0), .val (.int p1), .val (.int p2), .val (.int (Int32.ofNat s0)), .val (.int (Int32.ofNat xa)), .val (.int (Int32.ofNat xb)), .val (.int (Int32.ofNat xc)), .val (.int (Int32.ofNat xd)), .val (.ref b6), .val (.int z11), .val (.int z16), .val (.int z18)] [(.int (1 : Int32))])
      exact hR X15 (fun fs hl => retN X15 hx (t := .boolean) hret (by simp) (hb hby at_210) hl) (fun q => by rw [hret] at q; cases q) ⟨rfl, F15⟩ (by decide) (by decide)
    by_cases hb19 : z16 = (0 : Int32)
    · refine hp (fun tq kq => XS.ifNo X15.here hx rfl (hb hby at_139) rfl ((if0 _ _).trans (teq hb19).2) kq) ?_
      show G T15 (mkF m 142 #[.val (.int p0), .val (.int p1), .val (.int p2), .val (.int (Int32.ofNat s0)), .val (.int (Int32.ofNat xa)), .val (.int (Int32.ofNat xb)), .val (.int (Int32.ofNat xc)), .val (.int (Int32.ofNat xd)), .val (.ref b6), .val (.int z11), .val (.int z16), .unset] [])
      refine hp (fun tq kq => XS.iconst X15.here hx rfl (hb hby at_142) kq) ?_
      show G T15 (mkF m 143 #[.val (.int p0), .val (.int p1), .val (.int p2), .val (.int (Int32.ofNat s0)), .val (.int (Int32.ofNat xa)), .val (.int (Int32.ofNat xb)), .val (.int (Int32.ofNat xc)), .val (.int (Int32.ofNat xd)), .val (.ref b6), .val (.int z11), .val (.int z16), .unset] [(.int (-1 : Int32))])
      refine hp (fun tq kq => XS.istore X15.here hx rfl (hb hby at_143) rfl (l' := #[.val (.int p0), .val (.int p1), .val (.int p2), .val (.int (Int32.ofNat s0)), .val (.int (Int32.ofNat xa)), .val (.int (Int32.ofNat xb)), .val (.int (Int32.ofNat xc)), .val (.int (Int32.ofNat xd)), .val (.ref b6), .val (.int z11), .val (.int z16), .val (.int (-1 : Int32))]) rfl kq) ?_
      show G T15 (mkF m 145 #[.val (.int p0), .val (.int p1), .val (.int p2), .val (.int (Int32.ofNat s0)), .val (.int (Int32.ofNat xa)), .val (.int (Int32.ofNat xb)), .val (.int (Int32.ofNat xc)), .val (.int (Int32.ofNat xd)), .val (.ref b6), .val (.int z11), .val (.int z16), .val (.int (-1 : Int32))] [])
      refine hp (fun tq kq => XS.goto X15.here hx rfl (pc0 := 145) (pc' := 198) rfl (hb hby at_145) (by decide) (by decide) kq) ?_
      show G T15 (mkF m 198 #[.val (.int p0), .val (.int p1), .val (.int p2), .val (.int (Int32.ofNat s0)), .val (.int (Int32.ofNat xa)), .val (.int (Int32.ofNat xb)), .val (.int (Int32.ofNat xc)), .val (.int (Int32.ofNat xd)), .val (.ref b6), .val (.int z11), .val (.int z16), .val (.int (-1 : Int32))] [])
      exact j17 _ ((if_pos hb19)).symm
    · refine hp (fun tq kq => XS.ifYes X15.here hx rfl (pc0 := 139) (pc' := 148) rfl (hb hby at_139) rfl ((if0 _ _).trans (feq hb19).2) (by decide) (by decide) kq) ?_
      show G T15 (mkF m 148 #[.val (.int p0), .val (.int p1), .val (.int p2), .val (.int (Int32.ofNat s0)), .val (.int (Int32.ofNat xa)), .val (.int (Int32.ofNat xb)), .val (.int (Int32.ofNat xc)), .val (.int (Int32.ofNat xd)), .val (.ref b6), .val (.int z11), .val (.int z16), .unset] [])
      refine hp (fun tq kq => XS.iload X15.here hx rfl (hb hby at_148) rfl kq) ?_
      show G T15 (mkF m 150 #[.val (.int p0), .val (.int p1), .val (.int p2), .val (.int (Int32.ofNat s0)), .val (.int (Int32.ofNat xa)), .val (.int (Int32.ofNat xb)), .val (.int (Int32.ofNat xc)), .val (.int (Int32.ofNat xd)), .val (.ref b6), .val (.int z11), .val (.int z16), .unset] [(.int (Int32.ofNat xa))])
      refine hp (fun tq kq => XS.iload X15.here hx rfl (hb hby at_150) rfl kq) ?_
      show G T15 (mkF m 152 #[.val (.int p0), .val (.int p1), .val (.int p2), .val (.int (Int32.ofNat s0)), .val (.int (Int32.ofNat xa)), .val (.int (Int32.ofNat xb)), .val (.int (Int32.ofNat xc)), .val (.int (Int32.ofNat xd)), .val (.ref b6), .val (.int z11), .val (.int z16), .unset] [(.int z16), (.int (Int32.ofNat xa))])
      by_cases hb20 : (Int32.ofNat xa) = z16
      · refine hp (fun tq kq => XS.icmpNo X15.here hx rfl (hb hby at_152) rfl (teq hb20).2 kq) ?_
        show G T15 (mkF m 155 #[.val (.int p0), .val (.int p1), .val (.int p2), .val (.int (Int32.ofNat s0)), .val (.int (Int32.ofNat xa)), .val (.int (Int32.ofNat xb)), .val (.int (Int32.ofNat xc)), .val (.int (Int32.ofNat xd)), .val (.ref b6), .val (.int z11), .val (.int z16), .unset] [])
        refine hp (fun tq kq => XS.iloadN X15.here hx rfl (hb hby at_155) rfl kq) ?_
        show G T15 (mkF m 156 #[.val (.int p0), .val (.int p1), .val (.int p2), .val (.int (Int32.ofNat s0)), .val (.int (Int32.ofNat xa)), .val (.int (Int32.ofNat xb)), .val (.int (Int32.ofNat xc)), .val (.int (Int32.ofNat xd)), .val (.ref b6), .val (.int z11), .val (.int z16), .unset] [(.int (Int32.ofNat s0))])
        refine hp (fun tq kq => XS.istore X15.here hx rfl (hb hby at_156) rfl (l' := #[.val (.int p0), .val (.int p1), .val (.int p2), .val (.int (Int32.ofNat s0)), .val (.int (Int32.ofNat xa)), .val (.int (Int32.ofNat xb)), .val (.int (Int32.ofNat xc)), .val (.int (Int32.ofNat xd)), .val (.ref b6), .val (.int z11), .val (.int z16), .val (.int (Int32.ofNat s0))]) rfl kq) ?_
        show G T15 (mkF m 158 #[.val (.int p0), .val (.int p1), .val (.int p2), .val (.int (Int32.ofNat s0)), .val (.int (Int32.ofNat xa)), .val (.int (Int32.ofNat xb)), .val (.int (Int32.ofNat xc)), .val (.int (Int32.ofNat xd)), .val (.ref b6), .val (.int z11), .val (.int z16), .val (.int (Int32.ofNat s0))] [])
        refine hp (fun tq kq => XS.goto X15.here hx rfl (pc0 := 158) (pc' := 198) rfl (hb hby at_158) (by decide) (by decide) kq) ?_
        show G T15 (mkF m 198 #[.val (.int p0), .val (.int p1), .val (.int p2), .val (.int (Int32.ofNat s0)), .val (.int (Int32.ofNat xa)), .val (.int (Int32.ofNat xb)), .val (.int (Int32.ofNat xc)), .val (.int (Int32.ofNat xd)), .val (.ref b6), .val (.int z11), .val (.int z16), .val (.int (Int32.ofNat s0))] [])
        exact j17 _ ((if_neg hb19).trans (if_pos hb20)).symm
      · refine hp (fun tq kq => XS.icmpYes X15.here hx rfl (pc0 := 152) (pc' := 161) rfl (hb hby at_152) rfl (feq hb20).2 (by decide) (by decide) kq) ?_
        show G T15 (mkF m 161 #[.val (.int p0), .val (.int p1), .val (.int p2), .val (.int (Int32.ofNat s0)), .val (.int (Int32.ofNat xa)), .val (.int (Int32.ofNat xb)), .val (.int (Int32.ofNat xc)), .val (.int (Int32.ofNat xd)), .val (.ref b6), .val (.int z11), .val (.int z16), .unset] [])
        refine hp (fun tq kq => XS.iload X15.here hx rfl (hb hby at_161) rfl kq) ?_
        show G T15 (mkF m 163 #[.val (.int p0), .val (.int p1), .val (.int p2), .val (.int (Int32.ofNat s0)), .val (.int (Int32.ofNat xa)), .val (.int (Int32.ofNat xb)), .val (.int (Int32.ofNat xc)), .val (.int (Int32.ofNat xd)), .val (.ref b6), .val (.int z11), .val (.int z16), .unset] [(.int (Int32.ofNat xb))])
        refine hp (fun tq kq => XS.iload X15.here hx rfl (hb hby at_163) rfl kq) ?_
        show G T15 (mkF m 165 #[.val (.int p0), .val (.int p1), .val (.int p2), .val (.int (Int32.ofNat s0)), .val (.int (Int32.ofNat xa)), .val (.int (Int32.ofNat xb)), .val (.int (Int32.ofNat xc)), .val (.int (Int32.ofNat xd)), .val (.ref b6), .val (.int z11), .val (.int z16), .unset] [(.int z16), (.int (Int32.ofNat xb))])
        by_cases hb21 : (Int32.ofNat xb) = z16
        · refine hp (fun tq kq => XS.icmpNo X15.here hx rfl (hb hby at_165) rfl (teq hb21).2 kq) ?_
          show G T15 (mkF m 168 #[.val (.int p0), .val (.int p1), .val (.int p2), .val (.int (Int32.ofNat s0)), .val (.int (Int32.ofNat xa)), .val (.int (Int32.ofNat xb)), .val (.int (Int32.ofNat xc)), .val (.int (Int32.ofNat xd)), .val (.ref b6), .val (.int z11), .val (.int z16), .unset] [])
          refine hp (fun tq kq => XS.iloadN X15.here hx rfl (hb hby at_168) rfl kq) ?_
          show G T15 (mkF m 169 #[.val (.int p0), .val (.int p1), .val (.int p2), .val (.int (Int32.ofNat s0)), .val (.int (Int32.ofNat xa)), .val (.int (Int32.ofNat xb)), .val (.int (Int32.ofNat xc)), .val (.int (Int32.ofNat xd)), .val (.ref b6), .val (.int z11), .val (.int z16), .unset] [(.int (Int32.ofNat s0))])
          refine hp (fun tq kq => XS.iconst X15.here hx rfl (hb hby at_169) kq) ?_
          show G T15 (mkF m 170 #[.val (.int p0), .val (.int p1), .val (.int p2), .val (.int (Int32.ofNat s0)), .val (.int (Int32.ofNat xa)), .val (.int (Int32.ofNat xb)), .val (.int (Int32.ofNat xc)), .val (.int (Int32.ofNat xd)), .val (.ref b6), .val (.int z11), .val (.int z16), .unset] [(.int (4 : Int32)), (.int (Int32.ofNat s0))])
          refine hp (fun tq kq => XS.iadd X15.here hx rfl (hb hby at_170) rfl kq) ?_
          show G T15 (mkF m 171 #[.val (.int p0), .val (.int p1), .val (.int p2), .val (.int (Int32.ofNat s0)), .val (.int (Int32.ofNat xa)), .val (.int (Int32.ofNat xb)), .val (.int (Int32.ofNat xc)), .val (.int (Int32.ofNat xd)), .val (.ref b6), .val (.int z11), .val (.int z16), .unset] [(.int ((Int32.ofNat s0) + (4 : Int32)))])
          refine hp (fun tq kq => XS.istore X15.here hx rfl (hb hby at_171) rfl (l' := #[.val (.int p0), .val (.int p1), .val (.int p2), .val (.int (Int32.ofNat s0)), .val (.int (Int32.ofNat xa)), .val (.int (Int32.ofNat xb)), .val (.int (Int32.ofNat xc)), .val (.int (Int32.ofNat xd)), .val (.ref b6), .val (.int z11), .val (.int z16), .val (.int ((Int32.ofNat s0) + (4 : Int32)))]) rfl kq) ?_
          show G T15 (mkF m 173 #[.val (.int p0), .val (.int p1), .val (.int p2), .val (.int (Int32.ofNat s0)), .val (.int (Int32.ofNat xa)), .val (.int (Int32.ofNat xb)), .val (.int (Int32.ofNat xc)), .val (.int (Int32.ofNat xd)), .val (.ref b6), .val (.int z11), .val (.int z16), .val (.int ((Int32.ofNat s0) + (4 : Int32)))] [])
          refine hp (fun tq kq => XS.goto X15.here hx rfl (pc0 := 173) (pc' := 198) rfl (hb hby at_173) (by decide) (by decide) kq) ?_
          show G T15 (mkF m 198 #[.val (.int p0), .val (.int p1), .val (.int p2), .val (.int (Int32.ofNat s0)), .val (.int (Int32.ofNat xa)), .val (.int (Int32.ofNat xb)), .val (.int (Int32.ofNat xc)), .val (.int (Int32.ofNat xd)), .val (.ref b6), .val (.int z11), .val (.int z16), .val (.int ((Int32.ofNat s0) + (4 : Int32)))] [])
          exact j17 _ ((if_neg hb19).trans ((if_neg hb20).trans (if_pos hb21))).symm
        · refine hp (fun tq kq => XS.icmpYes X15.here hx rfl (pc0 := 165) (pc' := 176) rfl (hb hby at_165) rfl (feq hb21).2 (by decide) (by decide) kq) ?_
          show G T15 (mkF m 176 #[.val (.int p0), .val (.int p1), .val (.int p2), .val (.int (Int32.ofNat s0)), .val (.int (Int32.ofNat xa)), .val (.int (Int32.ofNat xb)), .val (.int (Int32.ofNat xc)), .val (.int (Int32.ofNat xd)), .val (.ref b6), .val (.int z11), .val (.int z16), .unset] [])
          refine hp (fun tq kq => XS.iload X15.here hx rfl (hb hby at_176) rfl kq) ?_
          show G T15 (mkF m 178 #[.val (.int p0), .val (.int p1), .val (.int p2), .val (.int (Int32.ofNat s0)), .val (.int (Int32.ofNat xa)), .val (.int (Int32.ofNat xb)), .val (.int (Int32.ofNat xc)), .val (.int (Int32.ofNat xd)), .val (.ref b6), .val (.int z11), .val (.int z16), .unset] [(.int (Int32.ofNat xc))])
          refine hp (fun tq kq => XS.iload X15.here hx rfl (hb hby at_178) rfl kq) ?_
          show G T15 (mkF m 180 #[.val (.int p0), .val (.int p1), .val (.int p2), .val (.int (Int32.ofNat s0)), .val (.int (Int32.ofNat xa)), .val (.int (Int32.ofNat xb)), .val (.int (Int32.ofNat xc)), .val (.int (Int32.ofNat xd)), .val (.ref b6), .val (.int z11), .val (.int z16), .unset] [(.int z16), (.int (Int32.ofNat xc))])
          by_cases hb22 : (Int32.ofNat xc) = z16
          · refine hp (fun tq kq => XS.icmpNo X15.here hx rfl (hb hby at_180) rfl (teq hb22).2 kq) ?_
            show G T15 (mkF m 183 #[.val (.int p0), .val (.int p1), .val (.int p2), .val (.int (Int32.ofNat s0)), .val (.int (Int32.ofNat xa)), .val (.int (Int32.ofNat xb)), .val (.int (Int32.ofNat xc)), .val (.int (Int32.ofNat xd)), .val (.ref b6), .val (.int z11), .val (.int z16), .unset] [])
            refine hp (fun tq kq => XS.iloadN X15.here hx rfl (hb hby at_183) rfl kq) ?_
            show G T15 (mkF m 184 #[.val (.int p0), .val (.int p1), .val (.int p2), .val (.int (Int32.ofNat s0)), .val (.int (Int32.ofNat xa)), .val (.int (Int32.ofNat xb)), .val (.int (Int32.ofNat xc)), .val (.int (Int32.ofNat xd)), .val (.ref b6), .val (.int z11), .val (.int z16), .unset] [(.int (Int32.ofNat s0))])
            refine hp (fun tq kq => XS.bipush X15.here hx rfl (hb hby at_184) kq) ?_
            show G T15 (mkF m 186 #[.val (.int p0), .val (.int p1), .val (.int p2), .val (.int (Int32.ofNat s0)), .val (.int (Int32.ofNat xa)), .val (.int (Int32.ofNat xb)), .val (.int (Int32.ofNat xc)), .val (.int (Int32.ofNat xd)), .val (.ref b6), .val (.int z11), .val (.int z16), .unset] [(.int (8 : Int32)), (.int (Int32.ofNat s0))])
            refine hp (fun tq kq => XS.iadd X15.here hx rfl (hb hby at_186) rfl kq) ?_
            show G T15 (mkF m 187 #[.val (.int p0), .val (.int p1), .val (.int p2), .val (.int (Int32.ofNat s0)), .val (.int (Int32.ofNat xa)), .val (.int (Int32.ofNat xb)), .val (.int (Int32.ofNat xc)), .val (.int (Int32.ofNat xd)), .val (.ref b6), .val (.int z11), .val (.int z16), .unset] [(.int ((Int32.ofNat s0) + (8 : Int32)))])
            refine hp (fun tq kq => XS.istore X15.here hx rfl (hb hby at_187) rfl (l' := #[.val (.int p0), .val (.int p1), .val (.int p2), .val (.int (Int32.ofNat s0)), .val (.int (Int32.ofNat xa)), .val (.int (Int32.ofNat xb)), .val (.int (Int32.ofNat xc)), .val (.int (Int32.ofNat xd)), .val (.ref b6), .val (.int z11), .val (.int z16), .val (.int ((Int32.ofNat s0) + (8 : Int32)))]) rfl kq) ?_
            show G T15 (mkF m 189 #[.val (.int p0), .val (.int p1), .val (.int p2), .val (.int (Int32.ofNat s0)), .val (.int (Int32.ofNat xa)), .val (.int (Int32.ofNat xb)), .val (.int (Int32.ofNat xc)), .val (.int (Int32.ofNat xd)), .val (.ref b6), .val (.int z11), .val (.int z16), .val (.int ((Int32.ofNat s0) + (8 : Int32)))] [])
            refine hp (fun tq kq => XS.goto X15.here hx rfl (pc0 := 189) (pc' := 198) rfl (hb hby at_189) (by decide) (by decide) kq) ?_
            show G T15 (mkF m 198 #[.val (.int p0), .val (.int p1), .val (.int p2), .val (.int (Int32.ofNat s0)), .val (.int (Int32.ofNat xa)), .val (.int (Int32.ofNat xb)), .val (.int (Int32.ofNat xc)), .val (.int (Int32.ofNat xd)), .val (.ref b6), .val (.int z11), .val (.int z16), .val (.int ((Int32.ofNat s0) + (8 : Int32)))] [])
            exact j17 _ ((if_neg hb19).trans ((if_neg hb20).trans ((if_neg hb21).trans (if_pos hb22)))).symm
          · refine hp (fun tq kq => XS.icmpYes X15.here hx rfl (pc0 := 180) (pc' := 192) rfl (hb hby at_180) rfl (feq hb22).2 (by decide) (by decide) kq) ?_
            show G T15 (mkF m 192 #[.val (.int p0), .val (.int p1), .val (.int p2), .val (.int (Int32.ofNat s0)), .val (.int (Int32.ofNat xa)), .val (.int (Int32.ofNat xb)), .val (.int (Int32.ofNat xc)), .val (.int (Int32.ofNat xd)), .val (.ref b6), .val (.int z11), .val (.int z16), .unset] [])
            refine hp (fun tq kq => XS.iloadN X15.here hx rfl (hb hby at_192) rfl kq) ?_
            show G T15 (mkF m 193 #[.val (.int p0), .val (.int p1), .val (.int p2), .val (.int (Int32.ofNat s0)), .val (.int (Int32.ofNat xa)), .val (.int (Int32.ofNat xb)), .val (.int (Int32.ofNat xc)), .val (.int (Int32.ofNat xd)), .val (.ref b6), .val (.int z11), .val (.int z16), .unset] [(.int (Int32.ofNat s0))])
            refine hp (fun tq kq => XS.bipush X15.here hx rfl (hb hby at_193) kq) ?_
            show G T15 (mkF m 195 #[.val (.int p0), .val (.int p1), .val (.int p2), .val (.int (Int32.ofNat s0)), .val (.int (Int32.ofNat xa)), .val (.int (Int32.ofNat xb)), .val (.int (Int32.ofNat xc)), .val (.int (Int32.ofNat xd)), .val (.ref b6), .val (.int z11), .val (.int z16), .unset] [(.int (12 : Int32)), (.int (Int32.ofNat s0))])
            refine hp (fun tq kq => XS.iadd X15.here hx rfl (hb hby at_195) rfl kq) ?_
            show G T15 (mkF m 196 #[.val (.int p0), .val (.int p1), .val (.int p2), .val (.int (Int32.ofNat s0)), .val (.int (Int32.ofNat xa)), .val (.int (Int32.ofNat xb)), .val (.int (Int32.ofNat xc)), .val (.int (Int32.ofNat xd)), .val (.ref b6), .val (.int z11), .val (.int z16), .unset] [(.int ((Int32.ofNat s0) + (12 : Int32)))])
            refine hp (fun tq kq => XS.istore X15.here hx rfl (hb hby at_196) rfl (l' := #[.val (.int p0), .val (.int p1), .val (.int p2), .val (.int (Int32.ofNat s0)), .val (.int (Int32.ofNat xa)), .val (.int (Int32.ofNat xb)), .val (.int (Int32.ofNat xc)), .val (.int (Int32.ofNat xd)), .val (.ref b6), .val (.int z11), .val (.int z16), .val (.int ((Int32.ofNat s0) + (12 : Int32)))]) rfl kq) ?_
            show G T15 (mkF m 198 #[.val (.int p0), .val (.int p1), .val (.int p2), .val (.int (Int32.ofNat s0)), .val (.int (Int32.ofNat xa)), .val (.int (Int32.ofNat xb)), .val (.int (Int32.ofNat xc)), .val (.int (Int32.ofNat xd)), .val (.ref b6), .val (.int z11), .val (.int z16), .val (.int ((Int32.ofNat s0) + (12 : Int32)))] [])
            exact j17 _ ((if_neg hb19).trans ((if_neg hb20).trans ((if_neg hb21).trans (if_neg hb22)))).symm
  have j86 : ∀ (T9w : State) (locs9w : List Loc) (h9w : Heap), Stand p l e room_1 s m #[(.int p0), (.int p1), (.int p2)] below meth c T9w locs9w 5 85 → T9w.heap = h9w → Keep h0 h9w [] → Fr n0 locs9w → own_T Z h9w b6 la ea lf rt M3.1 M3.2 → G T9w (mkF m 86 #[.val (.int p0), .val (.int p1), .val (.int p2), .val (.int (Int32.ofNat s0)), .val (.int (Int32.ofNat xa)), .val (.int (Int32.ofNat xb)), .val (.int (Int32.ofNat xc)), .val (.int (Int32.ofNat xd)), .val (.ref b6), .unset, .unset, .unset] []) := by
    intro T9w locs9w h9w X9w e9w K9w N9w hT9
    obtain ⟨Et23, Frt23, Flt23, Fet23, Fat23, Fbt23, Vlt23, ⟨fet23, Vet23⟩, Vat23, Vbt23, hlt23, hat23, hbt23⟩ := hT9
    show G T9w (mkF m 86 #[.val (.int p0), .val (.int p1), .val (.int p2), .val (.int (Int32.ofNat s0)), .val (.int (Int32.ofNat xa)), .val (.int (Int32.ofNat xb)), .val (.int (Int32.ofNat xc)), .val (.int (Int32.ofNat xd)), .val (.ref b6), .unset, .unset, .unset] [])
    refine hp (fun tq kq => XS.iload X9w.here hx rfl (hb hby at_86) rfl kq) ?_
    show G T9w (mkF m 88 #[.val (.int p0), .val (.int p1), .val (.int p2), .val (.int (Int32.ofNat s0)), .val (.int (Int32.ofNat xa)), .val (.int (Int32.ofNat xb)), .val (.int (Int32.ofNat xc)), .val (.int (Int32.ofNat xd)), .val (.ref b6), .unset, .unset, .unset] [(.int (Int32.ofNat xd))])
    by_cases hb24 : (0 : Int32) < (Int32.ofNat xd)
    · refine hp (fun tq kq => XS.ifNo X9w.here hx rfl (hb hby at_88) rfl ((if0 _ _).trans (tlt hb24).2.2.2) kq) ?_
      show G T9w (mkF m 91 #[.val (.int p0), .val (.int p1), .val (.int p2), .val (.int (Int32.ofNat s0)), .val (.int (Int32.ofNat xa)), .val (.int (Int32.ofNat xb)), .val (.int (Int32.ofNat xc)), .val (.int (Int32.ofNat xd)), .val (.ref b6), .unset, .unset, .unset] [])
      refine hp (fun tq kq => XS.aload X9w.here hx rfl (hb hby at_91) rfl rfl kq) ?_
      show G T9w (mkF m 93 #[.val (.int p0), .val (.int p1), .val (.int p2), .val (.int (Int32.ofNat s0)), .val (.int (Int32.ofNat xa)), .val (.int (Int32.ofNat xb)), .val (.int (Int32.ofNat xc)), .val (.int (Int32.ofNat xd)), .val (.ref b6), .unset, .unset, .unset] [(.ref b6)])
      refine hp (fun tq kq => XS.iloadN X9w.here hx rfl (hb hby at_93) rfl kq) ?_
      show G T9w (mkF m 94 #[.val (.int p0), .val (.int p1), .val (.int p2), .val (.int (Int32.ofNat s0)), .val (.int (Int32.ofNat xa)), .val (.int (Int32.ofNat xb)), .val (.int (Int32.ofNat xc)), .val (.int (Int32.ofNat xd)), .val (.ref b6), .unset, .unset, .unset] [(.int (Int32.ofNat s0)), (.ref b6)])
      refine hp (fun tq kq => XS.bipush X9w.here hx rfl (hb hby at_94) kq) ?_
      show G T9w (mkF m 96 #[.val (.int p0), .val (.int p1), .val (.int p2), .val (.int (Int32.ofNat s0)), .val (.int (Int32.ofNat xa)), .val (.int (Int32.ofNat xb)), .val (.int (Int32.ofNat xc)), .val (.int (Int32.ofNat xd)), .val (.ref b6), .unset, .unset, .unset] [(.int (12 : Int32)), (.int (Int32.ofNat s0)), (.ref b6)])
      refine hp (fun tq kq => XS.iadd X9w.here hx rfl (hb hby at_96) rfl kq) ?_
      show G T9w (mkF m 97 #[.val (.int p0), .val (.int p1), .val (.int p2), .val (.int (Int32.ofNat s0)), .val (.int (Int32.ofNat xa)), .val (.int (Int32.ofNat xb)), .val (.int (Int32.ofNat xc)), .val (.int (Int32.ofNat xd)), .val (.ref b6), .unset, .unset, .unset] [(.int ((Int32.ofNat s0) + (12 : Int32))), (.ref b6)])
      refine hp (fun tq kq => XS.iload X9w.here hx rfl (hb hby at_97) rfl kq) ?_
      show G T9w (mkF m 99 #[.val (.int p0), .val (.int p1), .val (.int p2), .val (.int (Int32.ofNat s0)), .val (.int (Int32.ofNat xa)), .val (.int (Int32.ofNat xb)), .val (.int (Int32.ofNat xc)), .val (.int (Int32.ofNat xd)), .val (.ref b6), .unset, .unset, .unset] [(.int (Int32.ofNat xd)), (.int ((Int32.ofNat s0) + (12 : Int32))), (.ref b6)])
      obtain ⟨v25, T25, L25, X25, hQ25, st25⟩ := own_callV X9w hx hZ (y := (⟨"com/example/slabwarden/slabwarden/chunk/FreeRuns", "add", "(II)V"⟩ : MethodName)) (rm := ({ frames := 4, cells := 0, slots := 0, locals := 65 } : Room)) 0 hown (hw _ (List.mem_of_getElem? (i := 32) rfl)) (hw _ (List.mem_of_getElem? (i := 33) rfl)) (hw _ (List.mem_of_getElem? (i := 35) rfl)) (hw _ (List.mem_of_getElem? (i := 34) rfl)) (hw _ (List.mem_of_getElem? (i := 2) rfl)) (hw _ (List.mem_of_getElem? (i := 36) rfl)) (by decide) (rm6 l Z a0 hw [] b6 ((Int32.ofNat s0) + (12 : Int32)) (Int32.ofNat xd) la ea lf rt M3.1 M3.2 (s0 + 12) xd M4.1 M4.2 h9w n0 (own_place3 hs) rfl (own_plt3 hs) (own_len1 hxd hb24) hs3 ⟨Et23, Frt23, Flt23, Fet23, Fat23, Fbt23, Vlt23, ⟨_, Vet23⟩, Vat23, Vbt23, hlt23, hat23, hbt23⟩ hD (own_optadd (own_pos hxd hb24) hm4)) e9w Et23 (by decide) (by decide) (g := (mkF m 99 #[.val (.int p0), .val (.int p1), .val (.int p2), .val (.int (Int32.ofNat s0)), .val (.int (Int32.ofNat xa)), .val (.int (Int32.ofNat xb)), .val (.int (Int32.ofNat xc)), .val (.int (Int32.ofNat xd)), .val (.ref b6), .unset, .unset, .unset] [(.int (Int32.ofNat xd)), (.int ((Int32.ofNat s0) + (12 : Int32))), (.ref b6)])) rfl (by rw [hml]; rfl) [(.int ((Int32.ofNat s0) + (12 : Int32))), (.int (Int32.ofNat xd))] [] own_pd7 rfl rfl (by show 2 * 0 + _ ≤ _; exact Nat.le_of_eq rfl) (hb hby at_99) rfl (by decide) (by decide)
      obtain ⟨rfl, N25, Kc25, hT25⟩ := hQ25
      have N25b := Fr.app N9w N25
      have K25 := K9w.trans Kc25 (allS (Or.inr sz_b6) (allS (Or.inr sz_la) (allS (Or.inr sz_ea) (allS (Or.inr sz_lf) (allS (Or.inr sz_rt) all0)))))
      obtain ⟨Et26, Frt26, Flt26, Fet26, Fat26, Fbt26, Vlt26, ⟨fet26, Vet26⟩, Vat26, Vbt26, hlt26, hat26, hbt26⟩ := hT25
      refine hp st25 ?_
      show G T25 (mkF m 102 #[.val (.int p0), .val (.int p1), .val (.int p2), .val (.int (Int32.ofNat s0)), .val (.int (Int32.ofNat xa)), .val (.int (Int32.ofNat xb)), .val (.int (Int32.ofNat xc)), .val (.int (Int32.ofNat xd)), .val (.ref b6), .unset, .unset, .unset] [])
      exact j102 T25 _ _ X25 rfl K25 N25b ⟨Et26, Frt26, Flt26, Fet26, Fat26, Fbt26, Vlt26, ⟨_, Vet26⟩, Vat26, Vbt26, hlt26, hat26, hbt26⟩
    · refine hp (fun tq kq => XS.ifYes X9w.here hx rfl (pc0 := 88) (pc' := 102) rfl (hb hby at_88) rfl ((if0 _ _).trans (flt hb24).2.2.2) (by decide) (by decide) kq) ?_
      show G T9w (mkF m 102 #[.val (.int p0), .val (.int p1), .val (.int p2), .val (.int (Int32.ofNat s0)), .val (.int (Int32.ofNat xa)), .val (.int (Int32.ofNat xb)), .val (.int (Int32.ofNat xc)), .val (.int (Int32.ofNat xd)), .val (.ref b6), .unset, .unset, .unset] [])
      exact j102 T9w _ _ X9w e9w K9w N9w ((own_optno (own_npos hxd hb24) hm4) ▸ (show own_T Z h9w b6 la ea lf rt M3.1 M3.2 from ⟨Et23, Frt23, Flt23, Fet23, Fat23, Fbt23, Vlt23, ⟨_, Vet23⟩, Vat23, Vbt23, hlt23, hat23, hbt23⟩))
  have j70 : ∀ (T9w : State) (locs9w : List Loc) (h9w : Heap), Stand p l e room_1 s m #[(.int p0), (.int p1), (.int p2)] below meth c T9w locs9w 5 85 → T9w.heap = h9w → Keep h0 h9w [] → Fr n0 locs9w → own_T Z h9w b6 la ea lf rt M2.1 M2.2 → G T9w (mkF m 70 #[.val (.int p0), .val (.int p1), .val (.int p2), .val (.int (Int32.ofNat s0)), .val (.int (Int32.ofNat xa)), .val (.int (Int32.ofNat xb)), .val (.int (Int32.ofNat xc)), .val (.int (Int32.ofNat xd)), .val (.ref b6), .unset, .unset, .unset] []) := by
    intro T9w locs9w h9w X9w e9w K9w N9w hT9
    obtain ⟨Et27, Frt27, Flt27, Fet27, Fat27, Fbt27, Vlt27, ⟨fet27, Vet27⟩, Vat27, Vbt27, hlt27, hat27, hbt27⟩ := hT9
    show G T9w (mkF m 70 #[.val (.int p0), .val (.int p1), .val (.int p2), .val (.int (Int32.ofNat s0)), .val (.int (Int32.ofNat xa)), .val (.int (Int32.ofNat xb)), .val (.int (Int32.ofNat xc)), .val (.int (Int32.ofNat xd)), .val (.ref b6), .unset, .unset, .unset] [])
    refine hp (fun tq kq => XS.iload X9w.here hx rfl (hb hby at_70) rfl kq) ?_
    show G T9w (mkF m 72 #[.val (.int p0), .val (.int p1), .val (.int p2), .val (.int (Int32.ofNat s0)), .val (.int (Int32.ofNat xa)), .val (.int (Int32.ofNat xb)), .val (.int (Int32.ofNat xc)), .val (.int (Int32.ofNat xd)), .val (.ref b6), .unset, .unset, .unset] [(.int (Int32.ofNat xc))])
    by_cases hb28 : (0 : Int32) < (Int32.ofNat xc)
    · refine hp (fun tq kq => XS.ifNo X9w.here hx rfl (hb hby at_72) rfl ((if0 _ _).trans (tlt hb28).2.2.2) kq) ?_
      show G T9w (mkF m 75 #[.val (.int p0), .val (.int p1), .val (.int p2), .val (.int (Int32.ofNat s0)), .val (.int (Int32.ofNat xa)), .val (.int (Int32.ofNat xb)), .val (.int (Int32.ofNat xc)), .val (.int (Int32.ofNat xd)), .val (.ref b6), .unset, .unset, .unset] [])
      refine hp (fun tq kq => XS.aload X9w.here hx rfl (hb hby at_75) rfl rfl kq) ?_
      show G T9w (mkF m 77 #[.val (.int p0), .val (.int p1), .val (.int p2), .val (.int (Int32.ofNat s0)), .val (.int (Int32.ofNat xa)), .val (.int (Int32.ofNat xb)), .val (.int (Int32.ofNat xc)), .val (.int (Int32.ofNat xd)), .val (.ref b6), .unset, .unset, .unset] [(.ref b6)])
      refine hp (fun tq kq => XS.iloadN X9w.here hx rfl (hb hby at_77) rfl kq) ?_
      show G T9w (mkF m 78 #[.val (.int p0), .val (.int p1), .val (.int p2), .val (.int (Int32.ofNat s0)), .val (.int (Int32.ofNat xa)), .val (.int (Int32.ofNat xb)), .val (.int (Int32.ofNat xc)), .val (.int (Int32.ofNat xd)), .val (.ref b6), .unset, .unset, .unset] [(.int (Int32.ofNat s0)), (.ref b6)])
      refine hp (fun tq kq => XS.bipush X9w.here hx rfl (hb hby at_78) kq) ?_
      show G T9w (mkF m 80 #[.val (.int p0), .val (.int p1), .val (.int p2), .val (.int (Int32.ofNat s0)), .val (.int (Int32.ofNat xa)), .val (.int (Int32.ofNat xb)), .val (.int (Int32.ofNat xc)), .val (.int (Int32.ofNat xd)), .val (.ref b6), .unset, .unset, .unset] [(.int (8 : Int32)), (.int (Int32.ofNat s0)), (.ref b6)])
      refine hp (fun tq kq => XS.iadd X9w.here hx rfl (hb hby at_80) rfl kq) ?_
      show G T9w (mkF m 81 #[.val (.int p0), .val (.int p1), .val (.int p2), .val (.int (Int32.ofNat s0)), .val (.int (Int32.ofNat xa)), .val (.int (Int32.ofNat xb)), .val (.int (Int32.ofNat xc)), .val (.int (Int32.ofNat xd)), .val (.ref b6), .unset, .unset, .unset] [(.int ((Int32.ofNat s0) + (8 : Int32))), (.ref b6)])
      refine hp (fun tq kq => XS.iload X9w.here hx rfl (hb hby at_81) rfl kq) ?_
      show G T9w (mkF m 83 #[.val (.int p0), .val (.int p1), .val (.int p2), .val (.int (Int32.ofNat s0)), .val (.int (Int32.ofNat xa)), .val (.int (Int32.ofNat xb)), .val (.int (Int32.ofNat xc)), .val (.int (Int32.ofNat xd)), .val (.ref b6), .unset, .unset, .unset] [(.int (Int32.ofNat xc)), (.int ((Int32.ofNat s0) + (8 : Int32))), (.ref b6)])
      obtain ⟨v29, T29, L29, X29, hQ29, st29⟩ := own_callV X9w hx hZ (y := (⟨"com/example/slabwarden/slabwarden/chunk/FreeRuns", "add", "(II)V"⟩ : MethodName)) (rm := ({ frames := 4, cells := 0, slots := 0, locals := 65 } : Room)) 0 hown (hw _ (List.mem_of_getElem? (i := 32) rfl)) (hw _ (List.mem_of_getElem? (i := 33) rfl)) (hw _ (List.mem_of_getElem? (i := 35) rfl)) (hw _ (List.mem_of_getElem? (i := 34) rfl)) (hw _ (List.mem_of_getElem? (i := 2) rfl)) (hw _ (List.mem_of_getElem? (i := 36) rfl)) (by decide) (rm6 l Z a0 hw [] b6 ((Int32.ofNat s0) + (8 : Int32)) (Int32.ofNat xc) la ea lf rt M2.1 M2.2 (s0 + 8) xc M3.1 M3.2 h9w n0 (own_place2 hs) rfl (own_plt2 hs) (own_len1 hxc hb28) hs2 ⟨Et27, Frt27, Flt27, Fet27, Fat27, Fbt27, Vlt27, ⟨_, Vet27⟩, Vat27, Vbt27, hlt27, hat27, hbt27⟩ hD (own_optadd (own_pos hxc hb28) hm3)) e9w Et27 (by decide) (by decide) (g := (mkF m 83 #[.val (.int p0), .val (.int p1), .val (.int p2), .val (.int (Int32.ofNat s0)), .val (.int (Int32.ofNat xa)), .val (.int (Int32.ofNat xb)), .val (.int (Int32.ofNat xc)), .val (.int (Int32.ofNat xd)), .val (.ref b6), .unset, .unset, .unset] [(.int (Int32.ofNat xc)), (.int ((Int32.ofNat s0) + (8 : Int32))), (.ref b6)])) rfl (by rw [hml]; rfl) [(.int ((Int32.ofNat s0) + (8 : Int32))), (.int (Int32.ofNat xc))] [] own_pd7 rfl rfl (by show 2 * 0 + _ ≤ _; exact Nat.le_of_eq rfl) (hb hby at_83) rfl (by decide) (by decide)
      obtain ⟨rfl, N29, Kc29, hT29⟩ := hQ29
      have N29b := Fr.app N9w N29
      have K29 := K9w.trans Kc29 (allS (Or.inr sz_b6) (allS (Or.inr sz_la) (allS (Or.inr sz_ea) (allS (Or.inr sz_lf) (allS (Or.inr sz_rt) all0)))))
      obtain ⟨Et30, Frt30, Flt30, Fet30, Fat30, Fbt30, Vlt30, ⟨fet30, Vet30⟩, Vat30, Vbt30, hlt30, hat30, hbt30⟩ := hT29
      refine hp st29 ?_
      show G T29 (mkF m 86 #[.val (.int p0), .val (.int p1), .val (.int p2), .val (.int (Int32.ofNat s0)), .val (.int (Int32.ofNat xa)), .val (.int (Int32.ofNat xb)), .val (.int (Int32.ofNat xc)), .val (.int (Int32.ofNat xd)), .val (.ref b6), .unset, .unset, .unset] [])
      exact j86 T29 _ _ X29 rfl K29 N29b ⟨Et30, Frt30, Flt30, Fet30, Fat30, Fbt30, Vlt30, ⟨_, Vet30⟩, Vat30, Vbt30, hlt30, hat30, hbt30⟩
    · refine hp (fun tq kq => XS.ifYes X9w.here hx rfl (pc0 := 72) (pc' := 86) rfl (hb hby at_72) rfl ((if0 _ _).trans (flt hb28).2.2.2) (by decide) (by decide) kq) ?_
      show G T9w (mkF m 86 #[.val (.int p0), .val (.int p1), .val (.int p2), .val (.int (Int32.ofNat s0)), .val (.int (Int32.ofNat xa)), .val (.int (Int32.ofNat xb)), .val (.int (Int32.ofNat xc)), .val (.int (Int32.ofNat xd)), .val (.ref b6), .unset, .unset, .unset] [])
      exact j86 T9w _ _ X9w e9w K9w N9w ((own_optno (own_npos hxc hb28) hm3) ▸ (show own_T Z h9w b6 la ea lf rt M2.1 M2.2 from ⟨Et27, Frt27, Flt27, Fet27, Fat27, Fbt27, Vlt27, ⟨_, Vet27⟩, Vat27, Vbt27, hlt27, hat27, hbt27⟩))
  have j55 : ∀ (T9w : State) (locs9w : List Loc) (h9w : Heap), Stand p l e room_1 s m #[(.int p0), (.int p1), (.int p2)] below meth c T9w locs9w 5 85 → T9w.heap = h9w → Keep h0 h9w [] → Fr n0 locs9w → own_T Z h9w b6 la ea lf rt M1.1 M1.2 → G T9w (mkF m 55 #[.val (.int p0), .val (.int p1), .val (.int p2), .val (.int (Int32.ofNat s0)), .val (.int (Int32.ofNat xa)), .val (.int (Int32.ofNat xb)), .val (.int (Int32.ofNat xc)), .val (.int (Int32.ofNat xd)), .val (.ref b6), .unset, .unset, .unset] []) := by
    intro T9w locs9w h9w X9w e9w K9w N9w hT9
    obtain ⟨Et31, Frt31, Flt31, Fet31, Fat31, Fbt31, Vlt31, ⟨fet31, Vet31⟩, Vat31, Vbt31, hlt31, hat31, hbt31⟩ := hT9
    show G T9w (mkF m 55 #[.val (.int p0), .val (.int p1), .val (.int p2), .val (.int (Int32.ofNat s0)), .val (.int (Int32.ofNat xa)), .val (.int (Int32.ofNat xb)), .val (.int (Int32.ofNat xc)), .val (.int (Int32.ofNat xd)), .val (.ref b6), .unset, .unset, .unset] [])
    refine hp (fun tq kq => XS.iload X9w.here hx rfl (hb hby at_55) rfl kq) ?_
    show G T9w (mkF m 57 #[.val (.int p0), .val (.int p1), .val (.int p2), .val (.int (Int32.ofNat s0)), .val (.int (Int32.ofNat xa)), .val (.int (Int32.ofNat xb)), .val (.int (Int32.ofNat xc)), .val (.int (Int32.ofNat xd)), .val (.ref b6), .unset, .unset, .unset] [(.int (Int32.ofNat xb))])
    by_cases hb32 : (0 : Int32) < (Int32.ofNat xb)
    · refine hp (fun tq kq => XS.ifNo X9w.here hx rfl (hb hby at_57) rfl ((if0 _ _).trans (tlt hb32).2.2.2) kq) ?_
      show G T9w (mkF m 60 #[.val (.int p0), .val (.int p1), .val (.int p2), .val (.int (Int32.ofNat s0)), .val (.int (Int32.ofNat xa)), .val (.int (Int32.ofNat xb)), .val (.int (Int32.ofNat xc)), .val (.int (Int32.ofNat xd)), .val (.ref b6), .unset, .unset, .unset] [])
      refine hp (fun tq kq => XS.aload X9w.here hx rfl (hb hby at_60) rfl rfl kq) ?_
      show G T9w (mkF m 62 #[.val (.int p0), .val (.int p1), .val (.int p2), .val (.int (Int32.ofNat s0)), .val (.int (Int32.ofNat xa)), .val (.int (Int32.ofNat xb)), .val (.int (Int32.ofNat xc)), .val (.int (Int32.ofNat xd)), .val (.ref b6), .unset, .unset, .unset] [(.ref b6)])
      refine hp (fun tq kq => XS.iloadN X9w.here hx rfl (hb hby at_62) rfl kq) ?_
      show G T9w (mkF m 63 #[.val (.int p0), .val (.int p1), .val (.int p2), .val (.int (Int32.ofNat s0)), .val (.int (Int32.ofNat xa)), .val (.int (Int32.ofNat xb)), .val (.int (Int32.ofNat xc)), .val (.int (Int32.ofNat xd)), .val (.ref b6), .unset, .unset, .unset] [(.int (Int32.ofNat s0)), (.ref b6)])
      refine hp (fun tq kq => XS.iconst X9w.here hx rfl (hb hby at_63) kq) ?_
      show G T9w (mkF m 64 #[.val (.int p0), .val (.int p1), .val (.int p2), .val (.int (Int32.ofNat s0)), .val (.int (Int32.ofNat xa)), .val (.int (Int32.ofNat xb)), .val (.int (Int32.ofNat xc)), .val (.int (Int32.ofNat xd)), .val (.ref b6), .unset, .unset, .unset] [(.int (4 : Int32)), (.int (Int32.ofNat s0)), (.ref b6)])
      refine hp (fun tq kq => XS.iadd X9w.here hx rfl (hb hby at_64) rfl kq) ?_
      show G T9w (mkF m 65 #[.val (.int p0), .val (.int p1), .val (.int p2), .val (.int (Int32.ofNat s0)), .val (.int (Int32.ofNat xa)), .val (.int (Int32.ofNat xb)), .val (.int (Int32.ofNat xc)), .val (.int (Int32.ofNat xd)), .val (.ref b6), .unset, .unset, .unset] [(.int ((Int32.ofNat s0) + (4 : Int32))), (.ref b6)])
      refine hp (fun tq kq => XS.iload X9w.here hx rfl (hb hby at_65) rfl kq) ?_
      show G T9w (mkF m 67 #[.val (.int p0), .val (.int p1), .val (.int p2), .val (.int (Int32.ofNat s0)), .val (.int (Int32.ofNat xa)), .val (.int (Int32.ofNat xb)), .val (.int (Int32.ofNat xc)), .val (.int (Int32.ofNat xd)), .val (.ref b6), .unset, .unset, .unset] [(.int (Int32.ofNat xb)), (.int ((Int32.ofNat s0) + (4 : Int32))), (.ref b6)])
      obtain ⟨v33, T33, L33, X33, hQ33, st33⟩ := own_callV X9w hx hZ (y := (⟨"com/example/slabwarden/slabwarden/chunk/FreeRuns", "add", "(II)V"⟩ : MethodName)) (rm := ({ frames := 4, cells := 0, slots := 0, locals := 65 } : Room)) 0 hown (hw _ (List.mem_of_getElem? (i := 32) rfl)) (hw _ (List.mem_of_getElem? (i := 33) rfl)) (hw _ (List.mem_of_getElem? (i := 35) rfl)) (hw _ (List.mem_of_getElem? (i := 34) rfl)) (hw _ (List.mem_of_getElem? (i := 2) rfl)) (hw _ (List.mem_of_getElem? (i := 36) rfl)) (by decide) (rm6 l Z a0 hw [] b6 ((Int32.ofNat s0) + (4 : Int32)) (Int32.ofNat xb) la ea lf rt M1.1 M1.2 (s0 + 4) xb M2.1 M2.2 h9w n0 (own_place1 hs) rfl (own_plt1 hs) (own_len1 hxb hb32) hs1 ⟨Et31, Frt31, Flt31, Fet31, Fat31, Fbt31, Vlt31, ⟨_, Vet31⟩, Vat31, Vbt31, hlt31, hat31, hbt31⟩ hD (own_optadd (own_pos hxb hb32) hm2)) e9w Et31 (by decide) (by decide) (g := (mkF m 67 #[.val (.int p0), .val (.int p1), .val (.int p2), .val (.int (Int32.ofNat s0)), .val (.int (Int32.ofNat xa)), .val (.int (Int32.ofNat xb)), .val (.int (Int32.ofNat xc)), .val (.int (Int32.ofNat xd)), .val (.ref b6), .unset, .unset, .unset] [(.int (Int32.ofNat xb)), (.int ((Int32.ofNat s0) + (4 : Int32))), (.ref b6)])) rfl (by rw [hml]; rfl) [(.int ((Int32.ofNat s0) + (4 : Int32))), (.int (Int32.ofNat xb))] [] own_pd7 rfl rfl (by show 2 * 0 + _ ≤ _; exact Nat.le_of_eq rfl) (hb hby at_67) rfl (by decide) (by decide)
      obtain ⟨rfl, N33, Kc33, hT33⟩ := hQ33
      have N33b := Fr.app N9w N33
      have K33 := K9w.trans Kc33 (allS (Or.inr sz_b6) (allS (Or.inr sz_la) (allS (Or.inr sz_ea) (allS (Or.inr sz_lf) (allS (Or.inr sz_rt) all0)))))
      obtain ⟨Et34, Frt34, Flt34, Fet34, Fat34, Fbt34, Vlt34, ⟨fet34, Vet34⟩, Vat34, Vbt34, hlt34, hat34, hbt34⟩ := hT33
      refine hp st33 ?_
      show G T33 (mkF m 70 #[.val (.int p0), .val (.int p1), .val (.int p2), .val (.int (Int32.ofNat s0)), .val (.int (Int32.ofNat xa)), .val (.int (Int32.ofNat xb)), .val (.int (Int32.ofNat xc)), .val (.int (Int32.ofNat xd)), .val (.ref b6), .unset, .unset, .unset] [])
      exact j70 T33 _ _ X33 rfl K33 N33b ⟨Et34, Frt34, Flt34, Fet34, Fat34, Fbt34, Vlt34, ⟨_, Vet34⟩, Vat34, Vbt34, hlt34, hat34, hbt34⟩
    · refine hp (fun tq kq => XS.ifYes X9w.here hx rfl (pc0 := 57) (pc' := 70) rfl (hb hby at_57) rfl ((if0 _ _).trans (flt hb32).2.2.2) (by decide) (by decide) kq) ?_
      show G T9w (mkF m 70 #[.val (.int p0), .val (.int p1), .val (.int p2), .val (.int (Int32.ofNat s0)), .val (.int (Int32.ofNat xa)), .val (.int (Int32.ofNat xb)), .val (.int (Int32.ofNat xc)), .val (.int (Int32.ofNat xd)), .val (.ref b6), .unset, .unset, .unset] [])
      exact j70 T9w _ _ X9w e9w K9w N9w ((own_optno (own_npos hxb hb32) hm2) ▸ (show own_T Z h9w b6 la ea lf rt M1.1 M1.2 from ⟨Et31, Frt31, Flt31, Fet31, Fat31, Fbt31, Vlt31, ⟨_, Vet31⟩, Vat31, Vbt31, hlt31, hat31, hbt31⟩))
  refine hp (fun tq kq => XS.iload X7.here hx rfl (hb hby at_42) rfl kq) ?_
  show G T7 (mkF m 44 #[.val (.int p0), .val (.int p1), .val (.int p2), .val (.int (Int32.ofNat s0)), .val (.int (Int32.ofNat xa)), .val (.int (Int32.ofNat xb)), .val (.int (Int32.ofNat xc)), .val (.int (Int32.ofNat xd)), .val (.ref b6), .unset, .unset, .unset] [(.int (Int32.ofNat xa))])
  by_cases hb35 : (0 : Int32) < (Int32.ofNat xa)
  · refine hp (fun tq kq => XS.ifNo X7.here hx rfl (hb hby at_44) rfl ((if0 _ _).trans (tlt hb35).2.2.2) kq) ?_
    show G T7 (mkF m 47 #[.val (.int p0), .val (.int p1), .val (.int p2), .val (.int (Int32.ofNat s0)), .val (.int (Int32.ofNat xa)), .val (.int (Int32.ofNat xb)), .val (.int (Int32.ofNat xc)), .val (.int (Int32.ofNat xd)), .val (.ref b6), .unset, .unset, .unset] [])
    refine hp (fun tq kq => XS.aload X7.here hx rfl (hb hby at_47) rfl rfl kq) ?_
    show G T7 (mkF m 49 #[.val (.int p0), .val (.int p1), .val (.int p2), .val (.int (Int32.ofNat s0)), .val (.int (Int32.ofNat xa)), .val (.int (Int32.ofNat xb)), .val (.int (Int32.ofNat xc)), .val (.int (Int32.ofNat xd)), .val (.ref b6), .unset, .unset, .unset] [(.ref b6)])
    refine hp (fun tq kq => XS.iloadN X7.here hx rfl (hb hby at_49) rfl kq) ?_
    show G T7 (mkF m 50 #[.val (.int p0), .val (.int p1), .val (.int p2), .val (.int (Int32.ofNat s0)), .val (.int (Int32.ofNat xa)), .val (.int (Int32.ofNat xb)), .val (.int (Int32.ofNat xc)), .val (.int (Int32.ofNat xd)), .val (.ref b6), .unset, .unset, .unset] [(.int (Int32.ofNat s0)), (.ref b6)])
    refine hp (fun tq kq => XS.iload X7.here hx rfl (hb hby at_50) rfl kq) ?_
    show G T7 (mkF m 52 #[.val (.int p0), .val (.int p1), .val (.int p2), .val (.int (Int32.ofNat s0)), .val (.int (Int32.ofNat xa)), .val (.int (Int32.ofNat xb)), .val (.int (Int32.ofNat xc)), .val (.int (Int32.ofNat xd)), .val (.ref b6), .unset, .unset, .unset] [(.int (Int32.ofNat xa)), (.int (Int32.ofNat s0)), (.ref b6)])
    obtain ⟨v36, T36, L36, X36, hQ36, st36⟩ := own_callV X7 hx hZ (y := (⟨"com/example/slabwarden/slabwarden/chunk/FreeRuns", "add", "(II)V"⟩ : MethodName)) (rm := ({ frames := 4, cells := 0, slots := 0, locals := 65 } : Room)) 0 hown (hw _ (List.mem_of_getElem? (i := 32) rfl)) (hw _ (List.mem_of_getElem? (i := 33) rfl)) (hw _ (List.mem_of_getElem? (i := 35) rfl)) (hw _ (List.mem_of_getElem? (i := 34) rfl)) (hw _ (List.mem_of_getElem? (i := 2) rfl)) (hw _ (List.mem_of_getElem? (i := 36) rfl)) (by decide) (rm6 l Z a0 hw [] b6 (Int32.ofNat s0) (Int32.ofNat xa) la ea lf rt own_M0.1 own_M0.2 s0 xa M1.1 M1.2 T7.heap n0 (own_place0 hs) rfl (own_plt0 hs) (own_len1 hxa hb35) hs0 ⟨Et8, Frt8, Flt8, Fet8, Fat8, Fbt8, Vlt8, ⟨_, Vet8⟩, Vat8, Vbt8, hlt8, hat8, hbt8⟩ hD (own_optadd (own_pos hxa hb35) hm1)) rfl Et8 (by decide) (by decide) (g := (mkF m 52 #[.val (.int p0), .val (.int p1), .val (.int p2), .val (.int (Int32.ofNat s0)), .val (.int (Int32.ofNat xa)), .val (.int (Int32.ofNat xb)), .val (.int (Int32.ofNat xc)), .val (.int (Int32.ofNat xd)), .val (.ref b6), .unset, .unset, .unset] [(.int (Int32.ofNat xa)), (.int (Int32.ofNat s0)), (.ref b6)])) rfl (by rw [hml]; rfl) [(.int (Int32.ofNat s0)), (.int (Int32.ofNat xa))] [] own_pd7 rfl rfl (by show 2 * 0 + _ ≤ _; exact Nat.le_of_eq rfl) (hb hby at_52) rfl (by decide) (by decide)
    obtain ⟨rfl, N36, Kc36, hT36⟩ := hQ36
    have N36b := Fr.app N7b N36
    have K36 := K7.trans Kc36 (allS (Or.inr sz_b6) (allS (Or.inr sz_la) (allS (Or.inr sz_ea) (allS (Or.inr sz_lf) (allS (Or.inr sz_rt) all0)))))
    obtain ⟨Et37, Frt37, Flt37, Fet37, Fat37, Fbt37, Vlt37, ⟨fet37, Vet37⟩, Vat37, Vbt37, hlt37, hat37, hbt37⟩ := hT36
    refine hp st36 ?_
    show G T36 (mkF m 55 #[.val (.int p0), .val (.int p1), .val (.int p2), .val (.int (Int32.ofNat s0)), .val (.int (Int32.ofNat xa)), .val (.int (Int32.ofNat xb)), .val (.int (Int32.ofNat xc)), .val (.int (Int32.ofNat xd)), .val (.ref b6), .unset, .unset, .unset] [])
    exact j55 T36 _ _ X36 rfl K36 N36b ⟨Et37, Frt37, Flt37, Fet37, Fat37, Fbt37, Vlt37, ⟨_, Vet37⟩, Vat37, Vbt37, hlt37, hat37, hbt37⟩
  · refine hp (fun tq kq => XS.ifYes X7.here hx rfl (pc0 := 44) (pc' := 55) rfl (hb hby at_44) rfl ((if0 _ _).trans (flt hb35).2.2.2) (by decide) (by decide) kq) ?_
    show G T7 (mkF m 55 #[.val (.int p0), .val (.int p1), .val (.int p2), .val (.int (Int32.ofNat s0)), .val (.int (Int32.ofNat xa)), .val (.int (Int32.ofNat xb)), .val (.int (Int32.ofNat xc)), .val (.int (Int32.ofNat xd)), .val (.ref b6), .unset, .unset, .unset] [])
    exact j55 T7 _ _ X7 rfl K7 N7b ((own_optno (own_npos hxa hb35) hm1) ▸ (show own_T Z T7.heap b6 la ea lf rt own_M0.1 own_M0.2 from ⟨Et8, Frt8, Flt8, Fet8, Fat8, Fbt8, Vlt8, ⟨_, Vet8⟩, Vat8, Vbt8, hlt8, hat8, hbt8⟩))
set_option maxRecDepth 65536 in
set_option maxHeartbeats 40000000 in
theorem comes_1 {Post : Tables → Env → Array Value → State → Outcome → State → Prop} (hpost : ∀ tb e args s v u, (limb_1_1.after args s (.returned v) u = true ∧ limb_1_2.after args s (.returned v) u = true ∧ True) → FrameEnd s (.returned v) u (Jvm.fieldLocs frame_1_writes args s ++ Jvm.arrayLocs frame_1_arrays args s ++ Jvm.staticLocs frame_1_statics s) 24 256 → Post tb e args s (.returned v) u) :
    ArmFor flags0 classFile x code maxLocals ret World_1 tables_1 room_1 Calls_1 rest_1 Pre_1 Post := by
  intro l hfl _ _ p e ha hc hk s m args below hf hA hF happ hP
  obtain ⟨hcalls, hrest, hpre⟩ := hP
  obtain ⟨-, -, -, hnamed, -, -, -, hat⟩ := (Spec.applies_iff hf).mp happ
  obtain ⟨hg, hn⟩ := and_e (Cond.before_iff.mp (show (Jvm.Cond.and given_1 narrow_1).before args s = true from hpre))
  obtain ⟨hcnt, hgs⟩ := and_e hg
  obtain ⟨ha0, hgs⟩ := and_e hgs
  obtain ⟨ha1, hgs⟩ := and_e hgs
  have ha2 := hgs
  obtain ⟨w0, w1, w2, rfl⟩ : ∃ w0 w1 w2 : Value, args = #[w0, w1, w2] := by
    have hs : args.size = 3 := by simpa [Cond.value, given_1] using hcnt
    obtain ⟨L⟩ := args
    match L, hs with
    | [w0, w1, w2], _ => exact ⟨w0, w1, w2, rfl⟩
  have hw := fun d (hd : d ∈ tables_1) => atoms_spec (ws := Jvm.Cond.code x code maxLocals ret :: tables_1) hat d (List.mem_cons_of_mem _ hd)
  obtain ⟨i0, ei0⟩ := is_v ha0
  obtain rfl : w0 = (.int i0) := Option.some.inj ei0
  obtain ⟨i1, ei1⟩ := is_v ha1
  obtain rfl : w1 = (.int i1) := Option.some.inj ei1
  obtain ⟨i2, ei2⟩ := is_v ha2
  obtain rfl : w2 = (.int i2) := Option.some.inj ei2
  obtain ⟨n, o, h1, h2, h3, _, L, rfl, ⟨rfl, N⟩, hq⟩ := rm0 l s _ hw tables_1 i0 i1 i2 s.heap s.heap.size (Nat.le_refl _) p e ha hc hk s m _ below hf ((Spec.applies_iff_loose hf).mp happ).1 ⟨rfl, State.Warmed39.refl s, rfl⟩ trivial
  exact ⟨n, _, h1, h2, h3, hpost _ _ _ _ _ _ ⟨Cond.after_iff.mpr rfl, Cond.after_iff.mpr (eq_i res_at (Term.int_eval (1)) rfl), trivial⟩ ⟨hq.1, hq.2.1, (hq.2.2.sift fun y hy => Or.inr (N y hy)).mono (by decide) (by decide)⟩⟩
theorem main_1_1 : Claimed_1_1 := comes_1 fun _ _ _ _ _ _ h hF => ⟨h.1, hF⟩
theorem main_1_2 : Claimed_1_2 := comes_1 fun _ _ _ _ _ _ h hF => ⟨h.2.1, hF⟩
end Jvm.Pilot.@@N@@
namespace Jvm.Pilot.@@N@@
open Jvm Jvm.ClassFile Sem Op Lib Jvm.Free Jvm.Stand Jvm.Pilot.@@N@@.Jvm.D
/-! MADE BY PROGRAM (witnessworld.py) out of the Statement's table words and the real class files: 9 classes; the members and pool entries that the words name. The judged class is class 1, her method 2. -/
namespace start1
open Jvm.ClassFile
def u (s : String) : CpInfo := .utf8 (stringToUtf16 s)
/-- a pool by its gaps: so many unusable entries, then the entry; so many at the end -/
def gap : Nat → List CpInfo → List CpInfo
  | 0, r => r
  | n + 1, r => .unusable :: gap n r
def poolList (es : List (Nat × CpInfo)) (last : Nat) : List CpInfo := es.foldr (fun e r => gap e.1 (e.2 :: r)) (gap last [])
def pool (es : List (Nat × CpInfo)) (last : Nat) : Array CpInfo := ⟨poolList es last⟩
def fileOf (pool : Array CpInfo) (this : Nat) (attrs : Array Attribute := #[]) (ms : Array MethodInfo := #[]) (fl : Nat := 33) (sup : Nat := 0) (ifs : Array Nat := #[]) (fds : Array FieldInfo := #[]) : ClassFile where
  minorVersion := 0
  majorVersion := 65
  constantPool := pool
  accessFlags := fl
  thisClass := this
  superClass := sup
  interfaces := ifs
  fields := fds
  methods := ms
  attributes := attrs
def plain (name : String) (sup : Option ClassId) : Class where
  name := name
  kind := .ordinary
  loader := none
  accessFlags := 33
  super := sup
  interfaces := #[]
  cf := none
  fields := #[]
  methods := #[]
  instanceTypes := #[]
  staticTypes := #[]
  resolved := #[]
  callSites := []
  init := .initialized
  statics := none
  mirror := none

def pool0 : Array CpInfo := pool [(5, u "<init>"), (0, u "()V"), (1, .class_ 10), (1, u "java/lang/Object")] 113

def k0c0 : Code := { maxStack := 0, maxLocals := 1, code := object_method_1_code, exceptionTable := #[], attributes := #[] }
def k0m0 : Method := { name := "<init>", desc := "()V", sig := { parameters := [], returnType := none }, accessFlags := 1, code := some k0c0 }
/-- java/lang/Object -/
def k0 : Class := { plain "java/lang/Object" none with
  accessFlags := 33
  interfaces := #[]
  cf := some (fileOf pool0 8 #[] #[{ accessFlags := 1, nameIndex := 5, descriptorIndex := 6, attributes := #[] }] 33 0 #[] #[])
  fields := #[]
  methods := #[k0m0]
  instanceTypes := #[]
  staticTypes := #[]
  resolved := Array.replicate 124 none
  statics := none }

def pool1 : Array CpInfo := pool [(2, .class_ 4), (1, u "java/lang/Object"), (0, u "<init>"), (0, u "()V"), (0, .class_ 8), (0, u "com/example/slabwarden/slabwarden/chunk/FreeRuns"), (0, .methodref 7 10), (0, .nameAndType 5 11), (0, u "(I)V"), (0, .methodref 7 13), (0, .nameAndType 14 15), (0, u "add"), (0, u "(II)V"), (0, .methodref 7 17), (0, .nameAndType 18 19), (0, u "shortestAtLeast"), (0, u "(I)I"), (0, .methodref 21 22), (0, .class_ 23), (0, .nameAndType 24 25), (0, u "com/example/slabwarden/slabwarden/chunk/FreeRunsShortestAtLeastPinLaw"), (0, u "pick"), (0, u "(III)I"), (3, u "law"), (0, u "(III)Z")] 2

def k1m0 : Method := { name := "<init>", desc := "()V", sig := { parameters := [], returnType := none }, accessFlags := 1, code := none }
def k1c1 : Code := { maxStack := 2, maxLocals := 3, code := method_2_code, exceptionTable := #[], attributes := #[] }
def k1m1 : Method := { name := "pick", desc := "(III)I", sig := { parameters := [.int, .int, .int], returnType := some .int }, accessFlags := 10, code := some k1c1 }
def k1c2 : Code := { maxStack := 3, maxLocals := 12, code := code, exceptionTable := #[], attributes := #[] }
def k1m2 : Method := { name := "law", desc := "(III)Z", sig := { parameters := [.int, .int, .int], returnType := some .boolean }, accessFlags := 9, code := some k1c2 }
/-- com/example/slabwarden/slabwarden/chunk/FreeRunsShortestAtLeastPinLaw -/
def k1 : Class := { plain "com/example/slabwarden/slabwarden/chunk/FreeRunsShortestAtLeastPinLaw" (some 0) with
  accessFlags := 49
  interfaces := #[]
  cf := some (fileOf pool1 21 #[] #[{ accessFlags := 1, nameIndex := 5, descriptorIndex := 6, attributes := #[] }, { accessFlags := 10, nameIndex := 24, descriptorIndex := 25, attributes := #[] }, { accessFlags := 9, nameIndex := 29, descriptorIndex := 30, attributes := #[] }] 49 2 #[] #[])
  fields := #[]
  methods := #[k1m0, k1m1, k1m2]
  instanceTypes := #[]
  staticTypes := #[]
  resolved := Array.replicate 33 none
  statics := none }

def pool2 : Array CpInfo := pool [(1, .methodref 2 3), (0, .class_ 4), (0, .nameAndType 5 6), (0, u "java/lang/Object"), (0, u "<init>"), (0, u "()V"), (0, .class_ 8), (0, u "com/example/slabwarden/slabwarden/chunk/FreeRuns"), (0, .fieldref 7 10), (0, .nameAndType 11 12), (0, u "root"), (0, u "I"), (0, .fieldref 7 14), (0, .nameAndType 15 16), (0, u "lengthOfRunFirstAt"), (0, u "[I"), (0, .fieldref 7 18), (0, .nameAndType 19 16), (0, u "firstPlusOneOfRunEndingAt"), (0, .fieldref 7 21), (0, .nameAndType 22 16), (0, u "left"), (0, .fieldref 7 24), (0, .nameAndType 25 16), (0, u "right"), (0, .methodref 7 27), (0, .nameAndType 28 29), (0, u "key"), (0, u "(II)J"), (0, .methodref 7 31), (0, .nameAndType 28 32), (0, u "(I)J"), (0, .methodref 7 34), (0, .nameAndType 35 36), (0, u "insert"), (0, u "(I)V"), (3, .methodref 7 41), (0, .nameAndType 42 43), (0, u "priority"), (0, u "(I)I"), (0, .methodref 7 45), (0, .nameAndType 46 47), (0, u "split"), (0, u "(IJI)V"), (0, .methodref 7 49), (0, .nameAndType 50 51), (0, u "hang"), (0, u "(IZI)V"), (4, .integer 2654435769), (0, .integer 2246822507), (0, u "NONE"), (6, u "shortestAtLeast"), (1, u "add"), (0, u "(II)V")] 3

def k2c0 : Code := { maxStack := 2, maxLocals := 2, code := prog_20_method_1_code, exceptionTable := #[], attributes := #[] }
def k2m0 : Method := { name := "<init>", desc := "(I)V", sig := { parameters := [.int], returnType := none }, accessFlags := 0, code := some k2c0 }
def k2c1 : Code := { maxStack := 4, maxLocals := 6, code := prog_20_method_4_code, exceptionTable := #[], attributes := #[] }
def k2m1 : Method := { name := "shortestAtLeast", desc := "(I)I", sig := { parameters := [.int], returnType := some .int }, accessFlags := 0, code := some k2c1 }
def k2c2 : Code := { maxStack := 4, maxLocals := 3, code := prog_20_method_5_code, exceptionTable := #[], attributes := #[] }
def k2m2 : Method := { name := "add", desc := "(II)V", sig := { parameters := [.int, .int], returnType := none }, accessFlags := 0, code := some k2c2 }
def k2c3 : Code := { maxStack := 5, maxLocals := 8, code := prog_20_method_7_code, exceptionTable := #[], attributes := #[] }
def k2m3 : Method := { name := "insert", desc := "(I)V", sig := { parameters := [.int], returnType := none }, accessFlags := 2, code := some k2c3 }
def k2c4 : Code := { maxStack := 4, maxLocals := 9, code := prog_20_method_9_code, exceptionTable := #[], attributes := #[] }
def k2m4 : Method := { name := "split", desc := "(IJI)V", sig := { parameters := [.int, .long, .int], returnType := none }, accessFlags := 2, code := some k2c4 }
def k2c5 : Code := { maxStack := 3, maxLocals := 4, code := prog_20_method_11_code, exceptionTable := #[], attributes := #[] }
def k2m5 : Method := { name := "hang", desc := "(IZI)V", sig := { parameters := [.int, .boolean, .int], returnType := none }, accessFlags := 2, code := some k2c5 }
def k2c6 : Code := { maxStack := 2, maxLocals := 2, code := prog_20_method_12_code, exceptionTable := #[], attributes := #[] }
def k2m6 : Method := { name := "key", desc := "(I)J", sig := { parameters := [.int], returnType := some .long }, accessFlags := 2, code := some k2c6 }
def k2c7 : Code := { maxStack := 4, maxLocals := 2, code := prog_20_method_13_code, exceptionTable := #[], attributes := #[] }
def k2m7 : Method := { name := "key", desc := "(II)J", sig := { parameters := [.int, .int], returnType := some .long }, accessFlags := 10, code := some k2c7 }
def k2c8 : Code := { maxStack := 3, maxLocals := 2, code := prog_20_method_14_code, exceptionTable := #[], attributes := #[] }
def k2m8 : Method := { name := "priority", desc := "(I)I", sig := { parameters := [.int], returnType := some .int }, accessFlags := 10, code := some k2c8 }
/-- com/example/slabwarden/slabwarden/chunk/FreeRuns -/
def k2 : Class := { plain "com/example/slabwarden/slabwarden/chunk/FreeRuns" (some 0) with
  accessFlags := 48
  interfaces := #[]
  cf := some (fileOf pool2 7 #[] #[{ accessFlags := 0, nameIndex := 5, descriptorIndex := 36, attributes := #[] }, { accessFlags := 0, nameIndex := 65, descriptorIndex := 43, attributes := #[] }, { accessFlags := 0, nameIndex := 67, descriptorIndex := 68, attributes := #[] }, { accessFlags := 2, nameIndex := 35, descriptorIndex := 36, attributes := #[] }, { accessFlags := 2, nameIndex := 46, descriptorIndex := 47, attributes := #[] }, { accessFlags := 2, nameIndex := 50, descriptorIndex := 51, attributes := #[] }, { accessFlags := 2, nameIndex := 28, descriptorIndex := 32, attributes := #[] }, { accessFlags := 10, nameIndex := 28, descriptorIndex := 29, attributes := #[] }, { accessFlags := 10, nameIndex := 42, descriptorIndex := 43, attributes := #[] }] 48 2 #[] #[{ accessFlags := 24, nameIndex := 58, descriptorIndex := 12, attributes := #[] }, { accessFlags := 18, nameIndex := 15, descriptorIndex := 16, attributes := #[] }, { accessFlags := 18, nameIndex := 19, descriptorIndex := 16, attributes := #[] }, { accessFlags := 18, nameIndex := 22, descriptorIndex := 16, attributes := #[] }, { accessFlags := 18, nameIndex := 25, descriptorIndex := 16, attributes := #[] }, { accessFlags := 2, nameIndex := 11, descriptorIndex := 12, attributes := #[] }])
  fields := #[{ name := "NONE", type := .int, accessFlags := 24, slot := 0, constantValue := 0 }, { name := "lengthOfRunFirstAt", type := (.array .int), accessFlags := 18, slot := 0, constantValue := 0 }, { name := "firstPlusOneOfRunEndingAt", type := (.array .int), accessFlags := 18, slot := 1, constantValue := 0 }, { name := "left", type := (.array .int), accessFlags := 18, slot := 2, constantValue := 0 }, { name := "right", type := (.array .int), accessFlags := 18, slot := 3, constantValue := 0 }, { name := "root", type := .int, accessFlags := 2, slot := 4, constantValue := 0 }]
  methods := #[k2m0, k2m1, k2m2, k2m3, k2m4, k2m5, k2m6, k2m7, k2m8]
  instanceTypes := #[(.array .int), (.array .int), (.array .int), (.array .int), .int]
  staticTypes := #[.int]
  resolved := Array.replicate 72 none
  statics := none }

def pool3 : Array CpInfo := pool [(1, u "java/lang/Cloneable"), (0, .class_ 1), (0, u "java/lang/Object"), (0, .class_ 3)] 3

/-- java/lang/Cloneable -/
def k3 : Class := { plain "java/lang/Cloneable" (some 0) with
  accessFlags := 1537
  interfaces := #[]
  cf := some (fileOf pool3 2 #[] #[] 1537 4 #[] #[])
  fields := #[]
  methods := #[]
  instanceTypes := #[]
  staticTypes := #[]
  resolved := Array.replicate 8 none
  statics := none }

def pool4 : Array CpInfo := pool [(1, u "java/io/Serializable"), (0, .class_ 1), (0, u "java/lang/Object"), (0, .class_ 3)] 3

/-- java/io/Serializable -/
def k4 : Class := { plain "java/io/Serializable" (some 0) with
  accessFlags := 1537
  interfaces := #[]
  cf := some (fileOf pool4 2 #[] #[] 1537 4 #[] #[])
  fields := #[]
  methods := #[]
  instanceTypes := #[]
  staticTypes := #[]
  resolved := Array.replicate 8 none
  statics := none }

/-- the primitive byte -/
def k5 : Class := { plain "byte" none with kind := .primitive 'B', accessFlags := 0x411 }
/-- [B -/
def k6 : Class := { plain "[B" (some 0) with kind := .array 5 .byte, interfaces := #[3, 4], accessFlags := 1041 }

/-- the primitive int -/
def k7 : Class := { plain "int" none with kind := .primitive 'I', accessFlags := 0x411 }
/-- [I -/
def k8 : Class := { plain "[I" (some 0) with kind := .array 7 .int, interfaces := #[3, 4], accessFlags := 1041 }

def heap : Heap := #[]
def classes : Array Class := #[k0, k1, k2, k3, k4, k5, k6, k7, k8]
def interned : List (Array UInt16 × Addr) := []
def slotsUsed : Nat := 0
def theMethod : MethodId := ⟨1, 2⟩
def args0 : Array Value := #[.int 27, .int 5, .int 2]
def aboutOver (below : List Frame) : State where
  vm := { classes := classes, interned := interned.toArray }
  heap := heap
  slotsUsed := slotsUsed
  threads := #[{ frames := .invoking theMethod args0 :: below }]
def below0 : List Frame := [.native { method := ⟨0, 0⟩, args := #[] }]
def about1 : State := aboutOver below0
def p0 : Program := .bare "" "" ""
def e0 : Env := launch0.env 0 0 0
theorem w_frames : about1.frames = Frame.invoking theMethod args0 :: below0 := rfl
set_option maxRecDepth 65536 in
theorem w_args : argsFit about1.vm theMethod args0 = true := by decide +kernel
set_option maxRecDepth 65536 in
theorem w_heap : heapFits about1 = true := by decide +kernel
set_option maxRecDepth 65536 in
theorem w_runnable : about1.curStatus? = some .runnable := by decide +kernel
set_option maxRecDepth 65536 in
theorem w_alone : about1.alone = true := by decide +kernel
set_option maxRecDepth 65536 in
theorem w_named : about1.methodNamed? x = some theMethod := by decide +kernel
set_option maxRecDepth 65536 in
theorem w_hears : about1.hears theMethod below0 = true := by decide +kernel
set_option maxRecDepth 65536 in
theorem w_ripe : about1.ripe theMethod args0 below0 = true := by decide +kernel
theorem w_running : about1.status = .running := rfl
set_option maxRecDepth 65536 in
theorem w_room : about1.hasRoom e0.platform room_1 = true :=
  launch0.hasRoom_least _ room_1 (by decide +kernel) (by decide +kernel) (by decide +kernel) (by decide +kernel) (by decide +kernel) (by decide +kernel)
theorem allAtoms_all (ts : List Jvm.Cond) (a : Array Jvm.Value) (st : Jvm.State) : (allAtoms ts).before a st = ts.all (fun c => c.before a st) := by
  induction ts with
  | nil => rfl
  | cons c t ih =>
    show (Jvm.Cond.and c (allAtoms t)).before a st = _
    rw [Jvm.Cond.before_and, ih, List.all_cons]
def words1 : List Jvm.Cond := Jvm.Cond.code x code maxLocals ret :: tables_1
/-- a 'code' word, met by the world's own term for the bytes: nothing is compared byte by byte -/
theorem code_word {y : MethodName} {bytes : ByteArray} {mx : Nat} {rt : Option FieldType} {a : Array Value} {s : State} {m : MethodId} {meth : Method} {c : Code} (h1 : s.methodNamed? y = some m) (h2 : s.vm.method? m = some meth) (h3 : meth.code = some c) (h4 : c.code = bytes)
    (h5 : (c.maxLocals == mx && c.exceptionTable.isEmpty && decide (c.maxStack ≤ mostOperands) && decide (meth.sig.returnType = rt) && !meth.locks && decide (parseMethodDescriptor y.desc = some meth.sig)) = true) : (Jvm.Cond.code y bytes mx rt).before a s = true := by
  simp only [Bool.and_eq_true, beq_iff_eq, Bool.not_eq_true', decide_eq_true_eq] at h5
  obtain ⟨⟨⟨⟨⟨g1, g2⟩, g3⟩, g4⟩, g5⟩, g6⟩ := h5
  simp [Cond.before, Cond.holds, Cond.value, h1, h2, h3, h4, g1, g2, g3, g4, g5, g6]
def isCode : Jvm.Cond → Bool
  | .code _ _ _ _ => true
  | _ => false
theorem all_split {L : List Jvm.Cond} {P : Jvm.Cond → Bool} (h1 : L.all (fun c => isCode c || P c) = true) (h2 : ∀ c ∈ L.filter isCode, P c = true) : L.all P = true := by
  refine List.all_eq_true.mpr fun c hc => ?_
  have h := List.all_eq_true.mp h1 c hc
  rcases Bool.eq_false_or_eq_true (isCode c) with hi | hi
  · exact h2 c (List.mem_filter.mpr ⟨hc, hi⟩)
  · simpa [hi] using h
set_option maxRecDepth 65536 in
theorem w_c0 : (Jvm.Cond.code x code maxLocals ret).before args0 about1 = true := code_word (m := ⟨1, 2⟩) (meth := k1m2) (c := k1c2) (by decide +kernel) rfl rfl rfl (by decide +kernel)
set_option maxRecDepth 65536 in
theorem w_c1 : (Jvm.Cond.code ({ cls := "com/example/slabwarden/slabwarden/chunk/FreeRuns", name := "<init>", desc := "(I)V" } : Jvm.MethodName) prog_20_method_1_code (2 : Nat) (Option.none : Option Jvm.ClassFile.FieldType)).before args0 about1 = true := code_word (m := ⟨2, 0⟩) (meth := k2m0) (c := k2c0) (by decide +kernel) rfl rfl rfl (by decide +kernel)
set_option maxRecDepth 65536 in
theorem w_c2 : (Jvm.Cond.code ({ cls := "java/lang/Object", name := "<init>", desc := "()V" } : Jvm.MethodName) object_method_1_code (1 : Nat) (Option.none : Option Jvm.ClassFile.FieldType)).before args0 about1 = true := code_word (m := ⟨0, 0⟩) (meth := k0m0) (c := k0c0) (by decide +kernel) rfl rfl rfl (by decide +kernel)
set_option maxRecDepth 65536 in
theorem w_c3 : (Jvm.Cond.code ({ cls := "com/example/slabwarden/slabwarden/chunk/FreeRuns", name := "shortestAtLeast", desc := "(I)I" } : Jvm.MethodName) prog_20_method_4_code (6 : Nat) (Option.some Jvm.ClassFile.FieldType.int)).before args0 about1 = true := code_word (m := ⟨2, 1⟩) (meth := k2m1) (c := k2c1) (by decide +kernel) rfl rfl rfl (by decide +kernel)
set_option maxRecDepth 65536 in
theorem w_c4 : (Jvm.Cond.code ({ cls := "com/example/slabwarden/slabwarden/chunk/FreeRuns", name := "key", desc := "(II)J" } : Jvm.MethodName) prog_20_method_13_code (2 : Nat) (Option.some Jvm.ClassFile.FieldType.long)).before args0 about1 = true := code_word (m := ⟨2, 7⟩) (meth := k2m7) (c := k2c7) (by decide +kernel) rfl rfl rfl (by decide +kernel)
set_option maxRecDepth 65536 in
theorem w_c5 : (Jvm.Cond.code ({ cls := "com/example/slabwarden/slabwarden/chunk/FreeRunsShortestAtLeastPinLaw", name := "pick", desc := "(III)I" } : Jvm.MethodName) method_2_code (3 : Nat) (Option.some Jvm.ClassFile.FieldType.int)).before args0 about1 = true := code_word (m := ⟨1, 1⟩) (meth := k1m1) (c := k1c1) (by decide +kernel) rfl rfl rfl (by decide +kernel)
set_option maxRecDepth 65536 in
theorem w_c6 : (Jvm.Cond.code ({ cls := "com/example/slabwarden/slabwarden/chunk/FreeRuns", name := "add", desc := "(II)V" } : Jvm.MethodName) prog_20_method_5_code (3 : Nat) (Option.none : Option Jvm.ClassFile.FieldType)).before args0 about1 = true := code_word (m := ⟨2, 2⟩) (meth := k2m2) (c := k2c2) (by decide +kernel) rfl rfl rfl (by decide +kernel)
set_option maxRecDepth 65536 in
theorem w_c7 : (Jvm.Cond.code ({ cls := "com/example/slabwarden/slabwarden/chunk/FreeRuns", name := "insert", desc := "(I)V" } : Jvm.MethodName) prog_20_method_7_code (8 : Nat) (Option.none : Option Jvm.ClassFile.FieldType)).before args0 about1 = true := code_word (m := ⟨2, 3⟩) (meth := k2m3) (c := k2c3) (by decide +kernel) rfl rfl rfl (by decide +kernel)
set_option maxRecDepth 65536 in
theorem w_c8 : (Jvm.Cond.code ({ cls := "com/example/slabwarden/slabwarden/chunk/FreeRuns", name := "key", desc := "(I)J" } : Jvm.MethodName) prog_20_method_12_code (2 : Nat) (Option.some Jvm.ClassFile.FieldType.long)).before args0 about1 = true := code_word (m := ⟨2, 6⟩) (meth := k2m6) (c := k2c6) (by decide +kernel) rfl rfl rfl (by decide +kernel)
set_option maxRecDepth 65536 in
theorem w_c9 : (Jvm.Cond.code ({ cls := "com/example/slabwarden/slabwarden/chunk/FreeRuns", name := "priority", desc := "(I)I" } : Jvm.MethodName) prog_20_method_14_code (2 : Nat) (Option.some Jvm.ClassFile.FieldType.int)).before args0 about1 = true := code_word (m := ⟨2, 8⟩) (meth := k2m8) (c := k2c8) (by decide +kernel) rfl rfl rfl (by decide +kernel)
set_option maxRecDepth 65536 in
theorem w_c10 : (Jvm.Cond.code ({ cls := "com/example/slabwarden/slabwarden/chunk/FreeRuns", name := "split", desc := "(IJI)V" } : Jvm.MethodName) prog_20_method_9_code (9 : Nat) (Option.none : Option Jvm.ClassFile.FieldType)).before args0 about1 = true := code_word (m := ⟨2, 4⟩) (meth := k2m4) (c := k2c4) (by decide +kernel) rfl rfl rfl (by decide +kernel)
set_option maxRecDepth 65536 in
theorem w_c11 : (Jvm.Cond.code ({ cls := "com/example/slabwarden/slabwarden/chunk/FreeRuns", name := "hang", desc := "(IZI)V" } : Jvm.MethodName) prog_20_method_11_code (4 : Nat) (Option.none : Option Jvm.ClassFile.FieldType)).before args0 about1 = true := code_word (m := ⟨2, 5⟩) (meth := k2m5) (c := k2c5) (by decide +kernel) rfl rfl rfl (by decide +kernel)
def codes1 : List Jvm.Cond := [Jvm.Cond.code x code maxLocals ret, Jvm.Cond.code ({ cls := "com/example/slabwarden/slabwarden/chunk/FreeRuns", name := "<init>", desc := "(I)V" } : Jvm.MethodName) prog_20_method_1_code (2 : Nat) (Option.none : Option Jvm.ClassFile.FieldType), Jvm.Cond.code ({ cls := "java/lang/Object", name := "<init>", desc := "()V" } : Jvm.MethodName) object_method_1_code (1 : Nat) (Option.none : Option Jvm.ClassFile.FieldType), Jvm.Cond.code ({ cls := "com/example/slabwarden/slabwarden/chunk/FreeRuns", name := "shortestAtLeast", desc := "(I)I" } : Jvm.MethodName) prog_20_method_4_code (6 : Nat) (Option.some Jvm.ClassFile.FieldType.int), Jvm.Cond.code ({ cls := "com/example/slabwarden/slabwarden/chunk/FreeRuns", name := "key", desc := "(II)J" } : Jvm.MethodName) prog_20_method_13_code (2 : Nat) (Option.some Jvm.ClassFile.FieldType.long), Jvm.Cond.code ({ cls := "com/example/slabwarden/slabwarden/chunk/FreeRunsShortestAtLeastPinLaw", name := "pick", desc := "(III)I" } : Jvm.MethodName) method_2_code (3 : Nat) (Option.some Jvm.ClassFile.FieldType.int), Jvm.Cond.code ({ cls := "com/example/slabwarden/slabwarden/chunk/FreeRuns", name := "add", desc := "(II)V" } : Jvm.MethodName) prog_20_method_5_code (3 : Nat) (Option.none : Option Jvm.ClassFile.FieldType), Jvm.Cond.code ({ cls := "com/example/slabwarden/slabwarden/chunk/FreeRuns", name := "insert", desc := "(I)V" } : Jvm.MethodName) prog_20_method_7_code (8 : Nat) (Option.none : Option Jvm.ClassFile.FieldType), Jvm.Cond.code ({ cls := "com/example/slabwarden/slabwarden/chunk/FreeRuns", name := "key", desc := "(I)J" } : Jvm.MethodName) prog_20_method_12_code (2 : Nat) (Option.some Jvm.ClassFile.FieldType.long), Jvm.Cond.code ({ cls := "com/example/slabwarden/slabwarden/chunk/FreeRuns", name := "priority", desc := "(I)I" } : Jvm.MethodName) prog_20_method_14_code (2 : Nat) (Option.some Jvm.ClassFile.FieldType.int), Jvm.Cond.code ({ cls := "com/example/slabwarden/slabwarden/chunk/FreeRuns", name := "split", desc := "(IJI)V" } : Jvm.MethodName) prog_20_method_9_code (9 : Nat) (Option.none : Option Jvm.ClassFile.FieldType), Jvm.Cond.code ({ cls := "com/example/slabwarden/slabwarden/chunk/FreeRuns", name := "hang", desc := "(IZI)V" } : Jvm.MethodName) prog_20_method_11_code (4 : Nat) (Option.none : Option Jvm.ClassFile.FieldType)]
set_option maxRecDepth 65536 in
theorem codes_eq : words1.filter isCode = codes1 := rfl
theorem w_codes : ∀ c ∈ words1.filter isCode, c.before args0 about1 = true := by
  rw [codes_eq]
  intro c hc
  simp only [codes1, List.mem_cons, List.not_mem_nil, or_false] at hc
  rcases hc with rfl | rfl | rfl | rfl | rfl | rfl | rfl | rfl | rfl | rfl | rfl | rfl
  · exact w_c0
  · exact w_c1
  · exact w_c2
  · exact w_c3
  · exact w_c4
  · exact w_c5
  · exact w_c6
  · exact w_c7
  · exact w_c8
  · exact w_c9
  · exact w_c10
  · exact w_c11
set_option maxRecDepth 65536 in
theorem w_t1 : (words1.take 24).all (fun c => isCode c || c.before args0 about1) = true := by decide +kernel
set_option maxRecDepth 65536 in
theorem w_t2 : ((words1.drop 24).take 24).all (fun c => isCode c || c.before args0 about1) = true := by decide +kernel
set_option maxRecDepth 65536 in
theorem w_t3 : ((words1.drop 24).drop 24).all (fun c => isCode c || c.before args0 about1) = true := by decide +kernel
theorem w_tables : (allAtoms (Jvm.Cond.code x code maxLocals ret :: tables_1)).before args0 about1 = true := by
  rw [allAtoms_all]
  show words1.all (fun c => c.before args0 about1) = true
  refine all_split ?_ w_codes
  rw [← List.take_append_drop 24 words1, List.all_append, w_t1, ← List.take_append_drop 24 (words1.drop 24), List.all_append, w_t2, w_t3]
  rfl
set_option maxRecDepth 65536 in
theorem w_case : (Jvm.Cond.and given_1 narrow_1).before args0 about1 = true := by decide +kernel
theorem w_applies : (headSpec (Jvm.Cond.code x code maxLocals ret :: tables_1) room_1).applies x e0.platform about1 = true :=
  (Spec.applies_iff w_frames).mpr ⟨w_running, w_runnable, w_alone, w_named, w_hears, w_ripe, w_room, w_tables⟩
theorem atStart : AtStart classFile x code maxLocals ret World_1 tables_1 room_1 Calls_1 rest_1 Pre_1 launch0 p0 e0 about1 theMethod args0 below0 :=
  ⟨lists_1, trivial, launch0.admits_env _ _ _, launch0.least_env, fairChoices_fair.cas, fairChoices_fair.clock, w_frames, w_args, w_heap, w_applies, trivial, trivial, w_case⟩
end start1
theorem witness_1 : WitnessClaimed_1 := ⟨start1.p0, start1.e0, start1.about1, start1.theMethod, start1.args0, start1.below0, start1.atStart⟩
end Jvm.Pilot.@@N@@
