import JvmDerived
import JvmDerived.Pilot.@@N@@Statement
import JvmDerived.Pilot.@@N@@Code
set_option linter.unusedVariables false
set_option linter.unusedSimpArgs false
namespace Jvm.RoadKit
open Sem ClassFile Op Lib Jvm.Stand Jvm.Free Jvm.LawKit
section New
variable {p : Program} {l : Launch} {e : Env} {R : Room} {s : State} {m : MethodId} {args : Array Value} {below : List Frame} {meth : Method} {c : Code} {T : State} {locs : List Loc} {cells slots : Nat}
theorem retI (X : Stand p l e R s m args below meth c T locs cells slots) (hx : p.tables.exec = Jvm.exec) {pc : Nat} {Ls : Array Slot} {z : Int32} {rest : List Value} (hret : meth.sig.returnType = some .int) (hd : decode c.code pc = .ok (.ireturn, 1)) {fs : List Frame}
    (hl : ∀ (f : JFrame) (acts : List Action), f.method = m → f.locked = none → f.entered = [] → (doReturn e (T.setTop f) acts (some (.int z))).1 = T.setFrames fs) : Steps p.tables e below (T.setTop (mkF m pc Ls (.int z :: rest))) (T.setFrames fs) := by
  have hm' : T.vm.method? m = some meth := X.method'
  have hn : narrow .int (.int z) = .int z := rfl
  show Steps p.tables e below (T.setTop { method := m, pc := pc, locals := Ls, stack := _ :: rest, locked := none }) _
  jvm_step X.here [X.here.top, hx, hd, hm', hret, hn]
  first | (intro acts; rw [hl _ acts rfl rfl rfl]) | rw [hl _ _ rfl rfl rfl]
  exact Steps.refl _
end New
end Jvm.RoadKit
namespace Jvm.Pilot.@@N@@
open Jvm Jvm.ClassFile Sem Op Lib Jvm.Free Jvm.Stand Jvm.LawKit Jvm.RoadKit Bundle Jvm.Pilot.@@N@@.Jvm.D
/-! 1. own frame of the walks: a goal 'G T f' says: from the state T with the top frame f the body comes to its end as its contract says. G is kept opaque in a walk: own_Pre steps it back, own_Ret ends it. -/
abbrev own_Pre (p : Program) (e : Env) (below : List Frame) (G : State → JFrame → Prop) : Prop :=
  ∀ {T T2 : State} {f f2 : JFrame}, (∀ t, Steps p.tables e below (T2.setTop f2) t → Steps p.tables e below (T.setTop f) t) → G T2 f2 → G T f
abbrev own_Lv (p : Program) (e : Env) (below : List Frame) (m : MethodId) (T : State) (f : JFrame) (v : Option Value) : Prop :=
  ∀ fs, (∀ (f : JFrame) (acts : List Action), f.method = m → f.locked = none → f.entered = [] → (doReturn e (T.setTop f) acts v).1 = T.setFrames fs) → Steps p.tables e below (T.setTop f) (T.setFrames fs)
abbrev own_Ret (p : Program) (l : Launch) (e : Env) (R : Room) (s : State) (m : MethodId) (as' : Array Value) (below : List Frame) (meth : Method) (c : Code) (Q : Option Value → Heap → List Loc → Prop) (C S : Nat) (G : State → JFrame → Prop) : Prop :=
  ∀ {T : State} {locs : List Loc} {cells slots : Nat} {f : JFrame} {v : Option Value}, Stand p l e R s m as' below meth c T locs cells slots → own_Lv p e below m T f v → (meth.sig.returnType = none → v = none) → Q v T.heap locs → cells ≤ C → slots ≤ S → G T f
theorem own_contract {l : Launch} {Z : State} {y : MethodName} {bytes : ByteArray} {maxL : Nat} {ret : Option FieldType} {ws : List Jvm.Cond} {rm : Room} {as' : Array Value} {h0 : Heap} {Q : Option Value → Heap → List Loc → Prop} {Ls : Array Slot}
    (hpl : plainFor y = true) (hef : ∀ m, entryFrame m as' maxL = mkF m 0 Ls [])
    (H : ∀ (p : Program) (e : Env) (s : State) (m : MethodId) (below : List Frame) (meth : Method) (c : Code) (s₁ : State) (G : State → JFrame → Prop),
      p.tables.exec = Jvm.exec → c.code = bytes → c.maxLocals = maxL → s.vm.findClass y.cls = some m.cls → meth.name = y.name → meth.sig.returnType = ret → Z.Warmed39 s.vm →
      Stand p l e rm s m as' below meth c s₁ [] 0 0 → s₁.heap = h0 → own_Pre p e below G → own_Ret p l e rm s m as' below meth c Q rm.cells rm.slots G → G s₁ (mkF m 0 Ls [])) :
    MetFree l y (head1 (Jvm.Cond.code y bytes maxL ret :: ws) rm) (fun a U => a = as' ∧ Z.Warmed39 U.vm ∧ U.heap = h0) (fun _ _ _ _ _ => True) (fun _ U o U' => ∃ v L, o = .returned v ∧ Q v U'.heap L ∧ FrameEnd U o U' L rm.cells rm.slots) := by
  refine MetFree.of_bodySF hpl hisR ?_
  intro p e s m args below meth c s₁ Bd hml0 hP hK
  obtain ⟨rfl, hZ, hh⟩ := hP
  have X0 : Stand p l e rm s m args below meth c s₁ [] 0 0 := Stand.of_body Bd
  have e0 : s₁.heap = h0 := by rw [← hh, Bd.state]; rfl
  obtain ⟨T', locs, cells, slots, v, X, hst, hv, hQ, hc, hs⟩ := H p e s m below meth c s₁
    (fun T f => ∃ (T' : State) (locs : List Loc) (cells slots : Nat) (v : Option Value), Stand p l e rm s m args below meth c T' locs cells slots ∧
      (∀ fs, (∀ (f : JFrame) (acts : List Action), f.method = m → f.locked = none → f.entered = [] → (doReturn e (T'.setTop f) acts v).1 = T'.setFrames fs) → Steps p.tables e below (T.setTop f) (T'.setFrames fs)) ∧
      (meth.sig.returnType = none → v = none) ∧ Q v T'.heap locs ∧ cells ≤ rm.cells ∧ slots ≤ rm.slots)
    Bd.exec Bd.bytes hml0 (findClass_of_methodNamed Bd.named) (name_of_methodNamed Bd.named Bd.method).1 Bd.returns hZ X0 e0
    (fun {T T2 f f2} hs hG => by
      obtain ⟨T', locs, cells, slots, v, X, hst, r⟩ := hG
      exact ⟨T', locs, cells, slots, v, X, fun fs hl => hs _ (hst fs hl), r⟩)
    (fun {T locs cells slots f v} X hl hv hQ hc hs => ⟨T, locs, cells, slots, v, X, hl, hv, hQ, hc, hs⟩)
  obtain ⟨fs, hr, hrun, hended, hW, hsame⟩ := X.leave hv Bd.notSynchronized
  exact ⟨_, _, castTop (hef m) (hst fs hr), hrun, hended, _, _, rfl, hQ, ⟨_, rfl⟩, hW, hsame.mono hc hs⟩
/-- what a body without a write says: its value, nothing old written, the heap as it was -/
abbrev own_Q (r : Option Value) (h0 : Heap) (n0 : Nat) (v : Option Value) (h : Heap) (L : List Loc) : Prop := v = r ∧ Fr n0 L ∧ h = h0
section Calls
variable {p : Program} {l : Launch} {e : Env} {R : Room} {s : State} {m : MethodId} {args : Array Value} {below : List Frame} {meth : Method} {c : Code} {T : State} {locs : List Loc} {cells slots : Nat} {Z : State} {a0 : Array Value} {h : Heap}
theorem own_callS (X : Stand p l e R s m args below meth c T locs cells slots) (hx : p.tables.exec = Jvm.exec) (hZ : Z.Warmed39 s.vm) {own : String} {index : Nat} {y : MethodName} {bytes : ByteArray} {maxL : Nat} {ret : Option FieldType} {rm : Room} {as' : Array Value} {Q : Option Value → Heap → List Loc → Prop}
    (W : Nat) (hown : s.vm.findClass own = some m.cls) (w1 : (Cond.methodLink own index y).before a0 Z = true) (w2 : (Cond.static y).before a0 Z = true) (w3 : (Cond.initialized y.cls).before a0 Z = true) (w4 : (Cond.code y bytes maxL ret).before a0 Z = true)
    (hy : y.cls ≠ "java/lang/invoke/MethodHandle" ∧ y.cls ≠ "java/lang/invoke/VarHandle")
    (hM : MetFree l y (head1 [Cond.code y bytes maxL ret] rm) (fun a U => a = as' ∧ Z.Warmed39 U.vm ∧ U.heap = h) (fun _ _ _ _ _ => True) (fun _ U o U' => ∃ v L, o = .returned v ∧ Q v U'.heap L ∧ FrameEnd U o U' L rm.cells rm.slots))
    (eT : T.heap = h) (hf : rm.frames + 1 ≤ R.frames) (hl : W + (maxL + 11) + rm.locals ≤ R.locals) {g : JFrame} (hg : g.method = m) (hsize : g.locals.size = c.maxLocals) (argsL rest : List Value) {ps : List FieldType} {r : Option FieldType}
    (hd : parseMethodDescriptor y.desc = some ⟨ps, r⟩) (hlen : argsL.length = ps.length) (hstack : g.stack = argsL.reverse ++ rest) (hW : 2 * g.monitorRoom + (rest.map fun v => v.category).sum ≤ W) (hdg : decode c.code g.pc = .ok (.invokestatic index, 3))
    (has : argsL.toArray = as') (hc : cells + rm.cells ≤ R.cells) (hs : slots + rm.slots ≤ R.slots) :
    ∃ (v : Option Value) (T' : State) (L : List Loc), Stand p l e R s m args below meth c T' (locs ++ L) (cells + rm.cells) (slots + rm.slots) ∧ Q v T'.heap L ∧
      ∀ t, Steps p.tables e below (T'.setTop { g with pc := g.pc + 3, stack := v.toList ++ rest }) t → Steps p.tables e below (T.setTop g) t := by
  obtain ⟨v, _, ⟨T', L', k', n'⟩, -, X', ⟨Lc, hQ, l', y', z'⟩, st⟩ := Jvm.LawKit.callS X hx (y := y) hown (mvT hZ w1) (mvT hZ w2) (mvT hZ w3) (mvT hZ w4) hy (backOf (W := W) hM hZ w4 w3 hf hl) hg hsize (argsL := argsL) (rest := rest) (lenOf hd hlen) hstack hW hdg (fun _ _ => ⟨has, eT, hc, hs⟩)
  dsimp only [Pt.U, Pt.locs, Pt.cells, Pt.slots] at X' l' y' z' st hQ
  subst l' y' z'
  exact ⟨v, T', Lc, X', hQ, st⟩
theorem own_callI (X : Stand p l e R s m args below meth c T locs cells slots) (hx : p.tables.exec = Jvm.exec) (hZ : Z.Warmed39 s.vm) {own : String} {index : Nat} {y : MethodName} {bytes : ByteArray} {maxL : Nat} {rm : Room} {as' : Array Value} {Q : Option Value → Heap → List Loc → Prop}
    (W : Nat) (hy1 : y.name = "<init>") (hown : s.vm.findClass own = some m.cls) (w1 : (Cond.methodLink own index y).before a0 Z = true) (w2 : (Cond.instanceMethod y).before a0 Z = true) (w3 : (Cond.initialized y.cls).before a0 Z = true) (w4 : (Cond.code y bytes maxL none).before a0 Z = true)
    (hy : y.cls ≠ "java/lang/invoke/MethodHandle" ∧ y.cls ≠ "java/lang/invoke/VarHandle")
    (hM : MetFree l y (head1 [Cond.code y bytes maxL none] rm) (fun a U => a = as' ∧ Z.Warmed39 U.vm ∧ U.heap = h) (fun _ _ _ _ _ => True) (fun _ U o U' => ∃ v L, o = .returned v ∧ Q v U'.heap L ∧ FrameEnd U o U' L rm.cells rm.slots))
    (eT : T.heap = h) (hf : rm.frames + 1 ≤ R.frames) (hl : W + (maxL + 11) + rm.locals ≤ R.locals) {g : JFrame} (hg : g.method = m) (hsize : g.locals.size = c.maxLocals) (a : Addr) (argsL rest : List Value) {ps : List FieldType} {r : Option FieldType}
    (hd : parseMethodDescriptor y.desc = some ⟨ps, r⟩) (hlen : argsL.length = ps.length) (hstack : g.stack = argsL.reverse ++ .ref a :: rest) (hW : 2 * g.monitorRoom + (rest.map fun v => v.category).sum ≤ W) (hdg : decode c.code g.pc = .ok (.invokespecial index, 3))
    (has : (.ref a :: argsL).toArray = as') (hc : cells + rm.cells ≤ R.cells) (hs : slots + rm.slots ≤ R.slots) :
    ∃ (v : Option Value) (T' : State) (L : List Loc), Stand p l e R s m args below meth c T' (locs ++ L) (cells + rm.cells) (slots + rm.slots) ∧ Q v T'.heap L ∧
      ∀ t, Steps p.tables e below (T'.setTop { g with pc := g.pc + 3, stack := v.toList ++ rest }) t → Steps p.tables e below (T.setTop g) t := by
  obtain ⟨v, _, ⟨T', L', k', n'⟩, -, X', ⟨Lc, hQ, l', y', z'⟩, st⟩ := X.specialBack hx (y := y) hy1 hown (mvT hZ w1) (mvT hZ w2) (mvT hZ w4) hy (backOf (W := W) hM hZ w4 w3 hf hl) hg hsize (Steps.refl _) (a := a) (argsL := argsL) (rest := rest) (lenOf hd hlen) hstack hW hdg (fun _ _ => ⟨has, eT, hc, hs⟩)
  dsimp only [Pt.U, Pt.locs, Pt.cells, Pt.slots] at X' l' y' z' st hQ
  subst l' y' z'
  exact ⟨v, T', Lc, X', hQ, fun t k => st.trans k⟩
theorem own_callV (X : Stand p l e R s m args below meth c T locs cells slots) (hx : p.tables.exec = Jvm.exec) (hZ : Z.Warmed39 s.vm) {own C : String} {index : Nat} {y : MethodName} {bytes : ByteArray} {maxL : Nat} {ret : Option FieldType} {rm : Room} {as' : Array Value} {Q : Option Value → Heap → List Loc → Prop}
    (W : Nat) (hown : s.vm.findClass own = some m.cls) (w1 : (Cond.methodLink own index y).before a0 Z = true) (w2 : (Cond.declares y).before a0 Z = true) (w3 : (Cond.selects C y y).before a0 Z = true) (w4 : (Cond.instanceMethod y).before a0 Z = true) (w5 : (Cond.initialized y.cls).before a0 Z = true) (w6 : (Cond.code y bytes maxL ret).before a0 Z = true)
    (hy : y.cls ≠ "java/lang/invoke/MethodHandle" ∧ y.cls ≠ "java/lang/invoke/VarHandle")
    (hM : MetFree l y (head1 [Cond.code y bytes maxL ret] rm) (fun a U => a = as' ∧ Z.Warmed39 U.vm ∧ U.heap = h) (fun _ _ _ _ _ => True) (fun _ U o U' => ∃ v L, o = .returned v ∧ Q v U'.heap L ∧ FrameEnd U o U' L rm.cells rm.slots))
    (eT : T.heap = h) {b : Addr} (E : Exa Z h b C) (hf : rm.frames + 1 ≤ R.frames) (hl : W + (maxL + 11) + rm.locals ≤ R.locals) {g : JFrame} (hg : g.method = m) (hsize : g.locals.size = c.maxLocals) (argsL rest : List Value) {ps : List FieldType} {r : Option FieldType}
    (hd : parseMethodDescriptor y.desc = some ⟨ps, r⟩) (hlen : argsL.length = ps.length) (hstack : g.stack = argsL.reverse ++ .ref b :: rest) (hW : 2 * g.monitorRoom + (rest.map fun v => v.category).sum ≤ W) (hdg : decode c.code g.pc = .ok (.invokevirtual index, 3))
    (has : (.ref b :: argsL).toArray = as') (hc : cells + rm.cells ≤ R.cells) (hs : slots + rm.slots ≤ R.slots) :
    ∃ (v : Option Value) (T' : State) (L : List Loc), Stand p l e R s m args below meth c T' (locs ++ L) (cells + rm.cells) (slots + rm.slots) ∧ Q v T'.heap L ∧
      ∀ t, Steps p.tables e below (T'.setTop { g with pc := g.pc + 3, stack := v.toList ++ rest }) t → Steps p.tables e below (T.setTop g) t := by
  obtain ⟨cq, kq, qa, qb, qc⟩ := isOf hZ eT E
  obtain ⟨v, _, ⟨T', L', k', n'⟩, -, X', ⟨Lc, hQ, l', y', z'⟩, st⟩ := X.virtualBack hx (y := y) (z := y) hown (mvT hZ w1) (mvT hZ w2) (notFace_of_selects (args := #[]) (mvT hZ w3)) (mvT hZ w3) (mvT hZ w4) hy (backOf (W := W) hM hZ w6 w5 hf hl) qa qc hg hsize (Steps.refl _) (argsL := argsL) (rest := rest) (lenOf hd hlen) hstack hW hdg (fun _ _ => ⟨has, eT, hc, hs⟩)
  dsimp only [Pt.U, Pt.locs, Pt.cells, Pt.slots] at X' l' y' z' st hQ
  subst l' y' z'
  exact ⟨v, T', Lc, X', hQ, fun t k => st.trans k⟩
end Calls
theorem own_lrem {tb : Tables} [Ours tb] {e : Env} {below : List Frame} {T target : State} {m : MethodId} {c : Code} {g : JFrame} (h : At T m c below) (hx : tb.exec = Jvm.exec) (hg : g.method = m) {x y : Int64} {rest : List Value} (hd : decode c.code g.pc = .ok (.lrem, 1)) (hs : g.stack = .long y :: .long x :: rest) (hy : y ≠ 0)
    (hr : Steps tb e below (T.setTop { g with pc := g.pc + 1, stack := .long (x % y) :: rest }) target) : Steps tb e below (T.setTop g) target := XS.lrem h hx hg hd hs hy (by rw [lrem_mod]; exact hr)
/-! 2. own facts of arrays: n places, place i holds f i -/
def own_up {α : Type} (f : Nat → α) (j : Nat) (v : α) : Nat → α := fun i => if i = j then v else f i
theorem own_up_at {α : Type} (f : Nat → α) (j : Nat) (v : α) (i : Nat) : own_up f j v i = if i = j then v else f i := rfl
def own_AI (Z : State) (h : Heap) (a : Addr) (ty : FieldType) (n : Nat) (f : Nat → Int32) : Prop :=
  ∃ c : Cell, Arr Z h a c ty ∧ c.slots.size = n ∧ n < 2147483648 ∧ ∀ i, i < n → c.slots[i]? = some (.int (f i))
def own_AJ (Z : State) (h : Heap) (a : Addr) (n : Nat) (f : Nat → Int64) : Prop :=
  ∃ c : Cell, Arr Z h a c .long ∧ c.slots.size = n ∧ n < 2147483648 ∧ ∀ i, i < n → c.slots[i]? = some (.long (f i))
section Arrays
variable {Z : State} {h h' : Heap} {a b : Addr} {ty : FieldType} {n : Nat} {f g : Nat → Int32} {fj gj : Nat → Int64}
theorem own_AI.lt (V : own_AI Z h a ty n f) : a < h.size := by obtain ⟨c, A, -⟩ := V; exact A.lt
theorem own_AI.ext (V : own_AI Z h a ty n f) (E : Ext h h') : own_AI Z h' a ty n f := by obtain ⟨c, A, r⟩ := V; exact ⟨c, A.ext E, r⟩
theorem own_AI.other {sl : Nat} {v : Value} (V : own_AI Z h b ty n f) (W : Wr h h' a sl v) (q : b ≠ a) : own_AI Z h' b ty n f := by obtain ⟨c, A, r⟩ := V; exact ⟨c, A.other W q, r⟩
theorem own_AI.keep {ws : List Addr} (V : own_AI Z h a ty n f) (K : Keep h h' ws) (q : a ∉ ws) : own_AI Z h' a ty n f := by obtain ⟨c, A, r⟩ := V; exact ⟨c, ⟨K.2.1 a c A.1 q, A.2⟩, r⟩
theorem own_AI.cong (V : own_AI Z h a ty n f) (q : ∀ i, i < n → f i = g i) : own_AI Z h a ty n g := by obtain ⟨c, A, S, B, H⟩ := V; exact ⟨c, A, S, B, fun i hi => by rw [← q i hi]; exact H i hi⟩
theorem own_AI.new {k : ClassId} {z : Int32} (A : Arr Z h a (newA k ty z) ty) (q : ¬ z < 0) (d : defaultValue ty = .int 0) (n : Nat) (hn : z.toNatClampNeg = n) : own_AI Z h a ty n (fun _ => 0) := by
  subst hn
  exact ⟨_, A, sz_new _ _ _, (back32 q).2, fun i hi => by simp [newA, hi, d]⟩
theorem own_slot (c : Cell) (i k : Nat) (v : Value) (hk : k < c.slots.size) : (c.setSlot i v).slots[k]? = if k = i then some v else c.slots[k]? := by
  by_cases q : k = i
  · subst q; simp [Cell.setSlot, hk]
  · simp [Cell.setSlot, q, Array.getElem?_setIfInBounds, Ne.symm q]
theorem own_AI.set {x : Int32} {i : Nat} (V : own_AI Z h a ty n f) (W : Wr h h' a i (.int x)) : own_AI Z h' a ty n (own_up f i x) := by
  obtain ⟨c, A, S, B, H⟩ := V
  refine ⟨_, A.same W, (sz_set _ _ _).trans S, B, fun k hk => ?_⟩
  rw [own_slot c i k _ (by omega), own_up_at]
  by_cases q : k = i
  · rw [if_pos q, if_pos q]
  · rw [if_neg q, if_neg q]; exact H k hk
theorem own_AI.at (V : own_AI Z h a ty n f) {j : Int32} (i : Nat) (hi : j.toNatClampNeg = i) (h0 : ¬ j < 0) (hn : i < n) :
    ∃ c : Cell, Arr Z h a c ty ∧ ¬ (j < 0 ∨ c.slots.size ≤ j.toNatClampNeg) ∧ c.slots[j.toNatClampNeg]? = some (.int (f i)) := by
  obtain ⟨c, A, S, B, H⟩ := V
  subst hi
  exact ⟨c, A, fun q => q.elim h0 (fun q => by omega), H _ hn⟩
theorem own_AJ.lt (V : own_AJ Z h a n fj) : a < h.size := by obtain ⟨c, A, -⟩ := V; exact A.lt
theorem own_AJ.ext (V : own_AJ Z h a n fj) (E : Ext h h') : own_AJ Z h' a n fj := by obtain ⟨c, A, r⟩ := V; exact ⟨c, A.ext E, r⟩
theorem own_AJ.other {sl : Nat} {v : Value} (V : own_AJ Z h b n fj) (W : Wr h h' a sl v) (q : b ≠ a) : own_AJ Z h' b n fj := by obtain ⟨c, A, r⟩ := V; exact ⟨c, A.other W q, r⟩
theorem own_AJ.keep {ws : List Addr} (V : own_AJ Z h a n fj) (K : Keep h h' ws) (q : a ∉ ws) : own_AJ Z h' a n fj := by obtain ⟨c, A, r⟩ := V; exact ⟨c, ⟨K.2.1 a c A.1 q, A.2⟩, r⟩
theorem own_AJ.cong (V : own_AJ Z h a n fj) (q : ∀ i, i < n → fj i = gj i) : own_AJ Z h a n gj := by obtain ⟨c, A, S, B, H⟩ := V; exact ⟨c, A, S, B, fun i hi => by rw [← q i hi]; exact H i hi⟩
theorem own_AJ.new {k : ClassId} {z : Int32} (A : Arr Z h a (newA k .long z) .long) (q : ¬ z < 0) (n : Nat) (hn : z.toNatClampNeg = n) : own_AJ Z h a n (fun _ => 0) := by
  subst hn
  exact ⟨_, A, sz_new _ _ _, (back32 q).2, fun i hi => by simp [newA, hi]; rfl⟩
theorem own_AJ.set {x : Int64} {i : Nat} (V : own_AJ Z h a n fj) (W : Wr h h' a i (.long x)) : own_AJ Z h' a n (own_up fj i x) := by
  obtain ⟨c, A, S, B, H⟩ := V
  refine ⟨_, A.same W, (sz_set _ _ _).trans S, B, fun k hk => ?_⟩
  rw [own_slot c i k _ (by omega), own_up_at]
  by_cases q : k = i
  · rw [if_pos q, if_pos q]
  · rw [if_neg q, if_neg q]; exact H k hk
theorem own_AJ.at (V : own_AJ Z h a n fj) {j : Int32} (i : Nat) (hi : j.toNatClampNeg = i) (h0 : ¬ j < 0) (hn : i < n) :
    ∃ c : Cell, Arr Z h a c .long ∧ ¬ (j < 0 ∨ c.slots.size ≤ j.toNatClampNeg) ∧ c.slots[j.toNatClampNeg]? = some (.long (fj i)) := by
  obtain ⟨c, A, S, B, H⟩ := V
  subst hi
  exact ⟨c, A, fun q => q.elim h0 (fun q => by omega), H _ hn⟩
end Arrays
section ArraySteps
variable {p : Program} {l : Launch} {e : Env} {R : Room} {s : State} {m : MethodId} {args : Array Value} {below : List Frame} {meth : Method} {c : Code} {T : State} {locs : List Loc} {cells slots : Nat} {Z : State} {a0 : Array Value} {h : Heap} {a : Addr} {n : Nat} {f : Nat → Int32} {fj : Nat → Int64} {j x : Int32} {xj : Int64} {g : JFrame} {rest : List Value}
theorem own_stI (X : Stand p l e R s m args below meth c T locs cells slots) (hx : p.tables.exec = Jvm.exec) (hZ : Z.Warmed39 s.vm) (eT : T.heap = h) (V : own_AI Z h a .int n f) (i : Nat) (hi : j.toNatClampNeg = i) (h0 : ¬ j < 0) (hn : i < n) (hg : g.method = m) (hs : g.stack = .int x :: .int j :: .ref a :: rest) (hd : decode c.code g.pc = .ok (.iastore, 1)) :
    ∃ T' h', Stand p l e R s m args below meth c T' (locs ++ [⟨a, i⟩]) cells slots ∧ T'.heap = h' ∧ Wr h h' a i (.int x) ∧ own_AI Z h' a .int n (own_up f i x) ∧ ∀ t, Steps p.tables e below (T'.setTop { g with pc := g.pc + 1, stack := rest }) t → Steps p.tables e below (T.setTop g) t := by
  obtain ⟨cl, A, hj, -⟩ := V.at i hi h0 hn
  obtain ⟨T', h', X', e', W, st⟩ := stI X hx hZ eT A hj hg hs hd
  subst hi
  exact ⟨T', h', X', e', W, V.set W, st⟩
theorem own_stB (X : Stand p l e R s m args below meth c T locs cells slots) (hx : p.tables.exec = Jvm.exec) (hZ : Z.Warmed39 s.vm) (eT : T.heap = h) (V : own_AI Z h a .byte n f) (i : Nat) (hi : j.toNatClampNeg = i) (h0 : ¬ j < 0) (hn : i < n) (hg : g.method = m) (hs : g.stack = .int x :: .int j :: .ref a :: rest) (hd : decode c.code g.pc = .ok (.bastore, 1)) :
    ∃ T' h', Stand p l e R s m args below meth c T' (locs ++ [⟨a, i⟩]) cells slots ∧ T'.heap = h' ∧ Wr h h' a i (.int (nar .byte x)) ∧ own_AI Z h' a .byte n (own_up f i x.toInt8.toInt32) ∧ ∀ t, Steps p.tables e below (T'.setTop { g with pc := g.pc + 1, stack := rest }) t → Steps p.tables e below (T.setTop g) t := by
  obtain ⟨cl, A, hj, -⟩ := V.at i hi h0 hn
  obtain ⟨T', h', X', e', W, st⟩ := stB X hx hZ eT A hj hg hs hd
  subst hi
  exact ⟨T', h', X', e', W, V.set W, st⟩
theorem own_stC (X : Stand p l e R s m args below meth c T locs cells slots) (hx : p.tables.exec = Jvm.exec) (hZ : Z.Warmed39 s.vm) (eT : T.heap = h) (V : own_AI Z h a .char n f) (i : Nat) (hi : j.toNatClampNeg = i) (h0 : ¬ j < 0) (hn : i < n) (hg : g.method = m) (hs : g.stack = .int x :: .int j :: .ref a :: rest) (hd : decode c.code g.pc = .ok (.castore, 1)) :
    ∃ T' h', Stand p l e R s m args below meth c T' (locs ++ [⟨a, i⟩]) cells slots ∧ T'.heap = h' ∧ Wr h h' a i (.int (nar .char x)) ∧ own_AI Z h' a .char n (own_up f i x.toUInt32.toUInt16.toUInt32.toInt32) ∧ ∀ t, Steps p.tables e below (T'.setTop { g with pc := g.pc + 1, stack := rest }) t → Steps p.tables e below (T.setTop g) t := by
  obtain ⟨cl, A, hj, -⟩ := V.at i hi h0 hn
  obtain ⟨T', h', X', e', W, st⟩ := stC X hx hZ eT A hj hg hs hd
  subst hi
  exact ⟨T', h', X', e', W, V.set W, st⟩
theorem own_stJ (X : Stand p l e R s m args below meth c T locs cells slots) (hx : p.tables.exec = Jvm.exec) (hZ : Z.Warmed39 s.vm) (eT : T.heap = h) (V : own_AJ Z h a n fj) (i : Nat) (hi : j.toNatClampNeg = i) (h0 : ¬ j < 0) (hn : i < n) (hg : g.method = m) (hs : g.stack = .long xj :: .int j :: .ref a :: rest) (hd : decode c.code g.pc = .ok (.lastore, 1)) :
    ∃ T' h', Stand p l e R s m args below meth c T' (locs ++ [⟨a, i⟩]) cells slots ∧ T'.heap = h' ∧ Wr h h' a i (.long xj) ∧ own_AJ Z h' a n (own_up fj i xj) ∧ ∀ t, Steps p.tables e below (T'.setTop { g with pc := g.pc + 1, stack := rest }) t → Steps p.tables e below (T.setTop g) t := by
  obtain ⟨cl, A, hj, -⟩ := V.at i hi h0 hn
  obtain ⟨T', h', X', e', W, st⟩ := stJ X hx hZ eT A hj hg hs hd
  subst hi
  exact ⟨T', h', X', e', W, V.set W, st⟩
theorem own_ldI (X : Stand p l e R s m args below meth c T locs cells slots) (hx : p.tables.exec = Jvm.exec) (hZ : Z.Warmed39 s.vm) (eT : T.heap = h) (V : own_AI Z h a .int n f) (i : Nat) (hi : j.toNatClampNeg = i) (h0 : ¬ j < 0) (hn : i < n) (hg : g.method = m) (hs : g.stack = .int j :: .ref a :: rest) (hd : decode c.code g.pc = .ok (.iaload, 1)) :
    ∀ t, Steps p.tables e below (T.setTop { g with pc := g.pc + 1, stack := .int (f i) :: rest }) t → Steps p.tables e below (T.setTop g) t := by
  obtain ⟨cl, A, hj, hv⟩ := V.at i hi h0 hn
  exact fun t k => X.iaload hx (by rw [eT]; exact A.1) (State.isArrayOf_alike hZ.alike A.2.1) A.2.2 hj hv hg hs hd t k
theorem own_ldB (X : Stand p l e R s m args below meth c T locs cells slots) (hx : p.tables.exec = Jvm.exec) (hZ : Z.Warmed39 s.vm) (eT : T.heap = h) (V : own_AI Z h a .byte n f) (i : Nat) (hi : j.toNatClampNeg = i) (h0 : ¬ j < 0) (hn : i < n) (hg : g.method = m) (hs : g.stack = .int j :: .ref a :: rest) (hd : decode c.code g.pc = .ok (.baload, 1)) :
    ∀ t, Steps p.tables e below (T.setTop { g with pc := g.pc + 1, stack := .int (f i) :: rest }) t → Steps p.tables e below (T.setTop g) t := by
  obtain ⟨cl, A, hj, hv⟩ := V.at i hi h0 hn
  exact fun t k => X.baloadBytes hx (by rw [eT]; exact A.1) (State.isArrayOf_alike hZ.alike A.2.1) A.2.2 hj hv hg hs hd t k
theorem own_ldC (X : Stand p l e R s m args below meth c T locs cells slots) (hx : p.tables.exec = Jvm.exec) (hZ : Z.Warmed39 s.vm) (eT : T.heap = h) (V : own_AI Z h a .char n f) (i : Nat) (hi : j.toNatClampNeg = i) (h0 : ¬ j < 0) (hn : i < n) (hg : g.method = m) (hs : g.stack = .int j :: .ref a :: rest) (hd : decode c.code g.pc = .ok (.caload, 1)) :
    ∀ t, Steps p.tables e below (T.setTop { g with pc := g.pc + 1, stack := .int (f i) :: rest }) t → Steps p.tables e below (T.setTop g) t := by
  obtain ⟨cl, A, hj, hv⟩ := V.at i hi h0 hn
  exact fun t k => X.caload hx (by rw [eT]; exact A.1) (State.isArrayOf_alike hZ.alike A.2.1) A.2.2 hj hv hg hs hd t k
theorem own_ldJ (X : Stand p l e R s m args below meth c T locs cells slots) (hx : p.tables.exec = Jvm.exec) (hZ : Z.Warmed39 s.vm) (eT : T.heap = h) (V : own_AJ Z h a n fj) (i : Nat) (hi : j.toNatClampNeg = i) (h0 : ¬ j < 0) (hn : i < n) (hg : g.method = m) (hs : g.stack = .int j :: .ref a :: rest) (hd : decode c.code g.pc = .ok (.laload, 1)) :
    ∀ t, Steps p.tables e below (T.setTop { g with pc := g.pc + 1, stack := .long (fj i) :: rest }) t → Steps p.tables e below (T.setTop g) t := by
  obtain ⟨cl, A, hj, hv⟩ := V.at i hi h0 hn
  exact fun t k => X.laload hx (by rw [eT]; exact A.1) (State.isArrayOf_alike hZ.alike A.2.1) A.2.2 hj hv hg hs hd t k
theorem own_lenI {ty : FieldType} (X : Stand p l e R s m args below meth c T locs cells slots) (hx : p.tables.exec = Jvm.exec) (hZ : Z.Warmed39 s.vm) (eT : T.heap = h) (V : own_AI Z h a ty n f) (N : Int32) (hN : n.toInt32 = N) (hg : g.method = m) (hs : g.stack = .ref a :: rest) (hd : decode c.code g.pc = .ok (.arraylength, 1)) :
    ∀ t, Steps p.tables e below (T.setTop { g with pc := g.pc + 1, stack := .int N :: rest }) t → Steps p.tables e below (T.setTop g) t := by
  obtain ⟨cl, A, S, -⟩ := V
  subst hN S
  exact fun t k => X.arraylength hx (by rw [eT]; exact A.1) (State.isArrayOf_alike hZ.alike A.2.1) hg hs hd t k
theorem own_lenJ (X : Stand p l e R s m args below meth c T locs cells slots) (hx : p.tables.exec = Jvm.exec) (hZ : Z.Warmed39 s.vm) (eT : T.heap = h) (V : own_AJ Z h a n fj) (N : Int32) (hN : n.toInt32 = N) (hg : g.method = m) (hs : g.stack = .ref a :: rest) (hd : decode c.code g.pc = .ok (.arraylength, 1)) :
    ∀ t, Steps p.tables e below (T.setTop { g with pc := g.pc + 1, stack := .int N :: rest }) t → Steps p.tables e below (T.setTop g) t := by
  obtain ⟨cl, A, S, -⟩ := V
  subst hN S
  exact fun t k => X.arraylength hx (by rw [eT]; exact A.1) (State.isArrayOf_alike hZ.alike A.2.1) hg hs hd t k
/-- areturn -/
theorem own_retA (X : Stand p l e R s m args below meth c T locs cells slots) (hx : p.tables.exec = Jvm.exec) {pc : Nat} {Ls : Array Slot} {t : FieldType} (hret : meth.sig.returnType = some t) (ht : t.isReference = true) (hd : decode c.code pc = .ok (.areturn, 1)) {fs : List Frame}
    (hl : ∀ (f : JFrame) (acts : List Action), f.method = m → f.locked = none → f.entered = [] → (doReturn e (T.setTop f) acts (some (.ref a))).1 = T.setFrames fs) : Steps p.tables e below (T.setTop (mkF m pc Ls (.ref a :: rest))) (T.setFrames fs) :=
  retOut X hx hret (by cases t <;> first | rfl | (cases ht; done)) (Or.inr (Or.inr (Or.inr (Or.inr ⟨rfl, ht, rfl⟩)))) hd hl
end ArraySteps
theorem own_pd0 : parseMethodDescriptor "([BIJ)V" = some ⟨[(.array .byte), .int, .long], none⟩ := by decide +kernel
theorem own_pd1 : parseMethodDescriptor "([BJI)J" = some ⟨[(.array .byte), .long, .int], some .long⟩ := by decide +kernel
theorem own_ix {x : Int32} {s0 : Nat} (hs : x.toInt = (s0 : Int) ∧ s0 ≤ 16) (k : Nat) (hk : k ≤ 7) : (x + Int32.ofNat k).toNatClampNeg = s0 + k ∧ ¬ (x + Int32.ofNat k) < 0 ∧ s0 + k < 24 := by
  have h1 := c_iadd x (Int32.ofNat k)
  have h2 : (Int32.ofNat k).toInt = (k : Int) := Int32.toInt_ofNat_of_lt (by omega)
  have h3 := rng32 (x + Int32.ofNat k)
  have h0 : (0 : Int32).toInt = 0 := by decide
  rw [Int32.lt_iff_toInt_lt, h0, Int32.toNatClampNeg]
  omega
theorem own_ix0 {x : Int32} {s0 : Nat} (hs : x.toInt = (s0 : Int) ∧ s0 ≤ 16) : x.toNatClampNeg = s0 ∧ ¬ x < 0 ∧ s0 < 24 := by
  have h0 : (0 : Int32).toInt = 0 := by decide
  rw [Int32.lt_iff_toInt_lt, h0, Int32.toNatClampNeg]
  omega
def own_put (f : Nat → Int32) (s0 : Nat) (p2 : Int64) : Nat → Int32 := (own_up (own_up (own_up (own_up (own_up (own_up (own_up (own_up f s0 p2.toInt32.toInt8.toInt32.toInt8.toInt32) (s0 + 1) ((p2.toUInt64 >>> ((8 : Int32) &&& 0x3f).toInt64.toUInt64).toInt64).toInt32.toInt8.toInt32.toInt8.toInt32) (s0 + 2) ((p2.toUInt64 >>> ((16 : Int32) &&& 0x3f).toInt64.toUInt64).toInt64).toInt32.toInt8.toInt32.toInt8.toInt32) (s0 + 3) ((p2.toUInt64 >>> ((24 : Int32) &&& 0x3f).toInt64.toUInt64).toInt64).toInt32.toInt8.toInt32.toInt8.toInt32) (s0 + 4) ((p2.toUInt64 >>> ((32 : Int32) &&& 0x3f).toInt64.toUInt64).toInt64).toInt32.toInt8.toInt32.toInt8.toInt32) (s0 + 5) ((p2.toUInt64 >>> ((40 : Int32) &&& 0x3f).toInt64.toUInt64).toInt64).toInt32.toInt8.toInt32.toInt8.toInt32) (s0 + 6) ((p2.toUInt64 >>> ((48 : Int32) &&& 0x3f).toInt64.toUInt64).toInt64).toInt32.toInt8.toInt32.toInt8.toInt32) (s0 + 7) ((p2.toUInt64 >>> ((56 : Int32) &&& 0x3f).toInt64.toUInt64).toInt64).toInt32.toInt8.toInt32.toInt8.toInt32)
abbrev own_Q2 (Z : State) (p0 : Addr) (s0 : Nat) (p2 : Int64) (f : Nat → Int32) (h0 : Heap) (n0 : Nat) (v : Option Value) (h : Heap) (L : List Loc) : Prop := v = none ∧ Fr n0 L ∧ Keep h0 h [p0] ∧ own_AI Z h p0 .byte 24 (own_put f s0 p2)
theorem d1_0 : decode method_2_code 0 = .ok (.aload_n 0, 1) := by decide +kernel
theorem d1_1 : decode method_2_code 1 = .ok (.iload_n 1, 1) := by decide +kernel
theorem d1_2 : decode method_2_code 2 = .ok (.lload_n 2, 1) := by decide +kernel
theorem d1_3 : decode method_2_code 3 = .ok (.l2i, 1) := by decide +kernel
theorem d1_4 : decode method_2_code 4 = .ok (.i2b, 1) := by decide +kernel
theorem d1_5 : decode method_2_code 5 = .ok (.bastore, 1) := by decide +kernel
theorem d1_6 : decode method_2_code 6 = .ok (.aload_n 0, 1) := by decide +kernel
theorem d1_7 : decode method_2_code 7 = .ok (.iload_n 1, 1) := by decide +kernel
theorem d1_8 : decode method_2_code 8 = .ok (.iconst 1, 1) := by decide +kernel
theorem d1_9 : decode method_2_code 9 = .ok (.iadd, 1) := by decide +kernel
theorem d1_10 : decode method_2_code 10 = .ok (.lload_n 2, 1) := by decide +kernel
theorem d1_11 : decode method_2_code 11 = .ok (.bipush 8, 2) := by decide +kernel
theorem d1_13 : decode method_2_code 13 = .ok (.lushr, 1) := by decide +kernel
theorem d1_14 : decode method_2_code 14 = .ok (.l2i, 1) := by decide +kernel
theorem d1_15 : decode method_2_code 15 = .ok (.i2b, 1) := by decide +kernel
theorem d1_16 : decode method_2_code 16 = .ok (.bastore, 1) := by decide +kernel
theorem d1_17 : decode method_2_code 17 = .ok (.aload_n 0, 1) := by decide +kernel
theorem d1_18 : decode method_2_code 18 = .ok (.iload_n 1, 1) := by decide +kernel
theorem d1_19 : decode method_2_code 19 = .ok (.iconst 2, 1) := by decide +kernel
theorem d1_20 : decode method_2_code 20 = .ok (.iadd, 1) := by decide +kernel
theorem d1_21 : decode method_2_code 21 = .ok (.lload_n 2, 1) := by decide +kernel
theorem d1_22 : decode method_2_code 22 = .ok (.bipush 16, 2) := by decide +kernel
theorem d1_24 : decode method_2_code 24 = .ok (.lushr, 1) := by decide +kernel
theorem d1_25 : decode method_2_code 25 = .ok (.l2i, 1) := by decide +kernel
theorem d1_26 : decode method_2_code 26 = .ok (.i2b, 1) := by decide +kernel
theorem d1_27 : decode method_2_code 27 = .ok (.bastore, 1) := by decide +kernel
theorem d1_28 : decode method_2_code 28 = .ok (.aload_n 0, 1) := by decide +kernel
theorem d1_29 : decode method_2_code 29 = .ok (.iload_n 1, 1) := by decide +kernel
theorem d1_30 : decode method_2_code 30 = .ok (.iconst 3, 1) := by decide +kernel
theorem d1_31 : decode method_2_code 31 = .ok (.iadd, 1) := by decide +kernel
theorem d1_32 : decode method_2_code 32 = .ok (.lload_n 2, 1) := by decide +kernel
theorem d1_33 : decode method_2_code 33 = .ok (.bipush 24, 2) := by decide +kernel
theorem d1_35 : decode method_2_code 35 = .ok (.lushr, 1) := by decide +kernel
theorem d1_36 : decode method_2_code 36 = .ok (.l2i, 1) := by decide +kernel
theorem d1_37 : decode method_2_code 37 = .ok (.i2b, 1) := by decide +kernel
theorem d1_38 : decode method_2_code 38 = .ok (.bastore, 1) := by decide +kernel
theorem d1_39 : decode method_2_code 39 = .ok (.aload_n 0, 1) := by decide +kernel
theorem d1_40 : decode method_2_code 40 = .ok (.iload_n 1, 1) := by decide +kernel
theorem d1_41 : decode method_2_code 41 = .ok (.iconst 4, 1) := by decide +kernel
theorem d1_42 : decode method_2_code 42 = .ok (.iadd, 1) := by decide +kernel
theorem d1_43 : decode method_2_code 43 = .ok (.lload_n 2, 1) := by decide +kernel
theorem d1_44 : decode method_2_code 44 = .ok (.bipush 32, 2) := by decide +kernel
theorem d1_46 : decode method_2_code 46 = .ok (.lushr, 1) := by decide +kernel
theorem d1_47 : decode method_2_code 47 = .ok (.l2i, 1) := by decide +kernel
theorem d1_48 : decode method_2_code 48 = .ok (.i2b, 1) := by decide +kernel
theorem d1_49 : decode method_2_code 49 = .ok (.bastore, 1) := by decide +kernel
theorem d1_50 : decode method_2_code 50 = .ok (.aload_n 0, 1) := by decide +kernel
theorem d1_51 : decode method_2_code 51 = .ok (.iload_n 1, 1) := by decide +kernel
theorem d1_52 : decode method_2_code 52 = .ok (.iconst 5, 1) := by decide +kernel
theorem d1_53 : decode method_2_code 53 = .ok (.iadd, 1) := by decide +kernel
theorem d1_54 : decode method_2_code 54 = .ok (.lload_n 2, 1) := by decide +kernel
theorem d1_55 : decode method_2_code 55 = .ok (.bipush 40, 2) := by decide +kernel
theorem d1_57 : decode method_2_code 57 = .ok (.lushr, 1) := by decide +kernel
theorem d1_58 : decode method_2_code 58 = .ok (.l2i, 1) := by decide +kernel
theorem d1_59 : decode method_2_code 59 = .ok (.i2b, 1) := by decide +kernel
theorem d1_60 : decode method_2_code 60 = .ok (.bastore, 1) := by decide +kernel
theorem d1_61 : decode method_2_code 61 = .ok (.aload_n 0, 1) := by decide +kernel
theorem d1_62 : decode method_2_code 62 = .ok (.iload_n 1, 1) := by decide +kernel
theorem d1_63 : decode method_2_code 63 = .ok (.bipush 6, 2) := by decide +kernel
theorem d1_65 : decode method_2_code 65 = .ok (.iadd, 1) := by decide +kernel
theorem d1_66 : decode method_2_code 66 = .ok (.lload_n 2, 1) := by decide +kernel
theorem d1_67 : decode method_2_code 67 = .ok (.bipush 48, 2) := by decide +kernel
theorem d1_69 : decode method_2_code 69 = .ok (.lushr, 1) := by decide +kernel
theorem d1_70 : decode method_2_code 70 = .ok (.l2i, 1) := by decide +kernel
theorem d1_71 : decode method_2_code 71 = .ok (.i2b, 1) := by decide +kernel
theorem d1_72 : decode method_2_code 72 = .ok (.bastore, 1) := by decide +kernel
theorem d1_73 : decode method_2_code 73 = .ok (.aload_n 0, 1) := by decide +kernel
theorem d1_74 : decode method_2_code 74 = .ok (.iload_n 1, 1) := by decide +kernel
theorem d1_75 : decode method_2_code 75 = .ok (.bipush 7, 2) := by decide +kernel
theorem d1_77 : decode method_2_code 77 = .ok (.iadd, 1) := by decide +kernel
theorem d1_78 : decode method_2_code 78 = .ok (.lload_n 2, 1) := by decide +kernel
theorem d1_79 : decode method_2_code 79 = .ok (.bipush 56, 2) := by decide +kernel
theorem d1_81 : decode method_2_code 81 = .ok (.lushr, 1) := by decide +kernel
theorem d1_82 : decode method_2_code 82 = .ok (.l2i, 1) := by decide +kernel
theorem d1_83 : decode method_2_code 83 = .ok (.i2b, 1) := by decide +kernel
theorem d1_84 : decode method_2_code 84 = .ok (.bastore, 1) := by decide +kernel
theorem d1_85 : decode method_2_code 85 = .ok (.return_, 1) := by decide +kernel
theorem own_ef1 (m : MethodId) (p0 : Addr) (p1 : Int32) (p2 : Int64) : entryFrame m #[(.ref p0), (.int p1), (.long p2)] 4 = mkF m 0 #[.val (.ref p0), .val (.int p1), .val (.long p2), .second] [] := by first | (simp [entryFrame, mkF, argsToLocals, Value.category]; done) | rfl
theorem own_pn1 : plainName "com/example/lakebed/lakebed/core/parquet/LittleEndianReadBitsPinLaw" = true := by first | (simp [plainName, overriddenIn]; done) | decide +kernel
set_option maxRecDepth 65536 in
set_option maxHeartbeats 40000000 in
theorem rm1 (l : Launch) (Z : State) (a0 : Array Value) (hw : ∀ d ∈ tables_1, d.before a0 Z = true) (ws : List Jvm.Cond) (p0 : Addr) (p1 : Int32) (p2 : Int64) (s0 : Nat) (f : Nat → Int32) (h0 : Heap) (n0 : Nat) (hs : p1.toInt = (s0 : Int) ∧ s0 ≤ 16) (V_p0 : own_AI Z h0 p0 .byte 24 f) (g_p0 : n0 ≤ p0) :
    MetFree l (⟨"com/example/lakebed/lakebed/core/parquet/LittleEndianReadBitsPinLaw", "put", "([BIJ)V"⟩ : MethodName) (head1 (Jvm.Cond.code (⟨"com/example/lakebed/lakebed/core/parquet/LittleEndianReadBitsPinLaw", "put", "([BIJ)V"⟩ : MethodName) method_2_code 4 none :: ws) ({ frames := 0, cells := 0, slots := 0, locals := 0 } : Room)) (fun a U => a = #[(.ref p0), (.int p1), (.long p2)] ∧ Z.Warmed39 U.vm ∧ U.heap = h0) (fun _ _ _ _ _ => True) (fun _ U o U' => ∃ v L, o = .returned v ∧ own_Q2 Z p0 s0 p2 f h0 n0 v U'.heap L ∧ FrameEnd U o U' L ({ frames := 0, cells := 0, slots := 0, locals := 0 } : Room).cells ({ frames := 0, cells := 0, slots := 0, locals := 0 } : Room).slots) := by
  refine own_contract (plainFor_of_name own_pn1) (fun m => own_ef1 m p0 p1 p2) ?_
  intro p e s m below meth c s₁ G hx hby hml0 hown0 hnm hret hZ X0 e0 hp hR
  have hml : c.maxLocals = 4 := hml0
  have hown : s.vm.findClass "com/example/lakebed/lakebed/core/parquet/LittleEndianReadBitsPinLaw" = some m.cls := hown0
  have N0 := Fr.nil n0
  show G s₁ (mkF m 0 #[.val (.ref p0), .val (.int p1), .val (.long p2), .second] [])
  have K0 : Keep h0 h0 [p0] := Keep.refl _ _
  refine hp (fun tq kq => XS.aloadN X0.here hx rfl (hb hby d1_0) rfl rfl kq) ?_
  show G s₁ (mkF m 1 #[.val (.ref p0), .val (.int p1), .val (.long p2), .second] [(.ref p0)])
  refine hp (fun tq kq => XS.iloadN X0.here hx rfl (hb hby d1_1) rfl kq) ?_
  show G s₁ (mkF m 2 #[.val (.ref p0), .val (.int p1), .val (.long p2), .second] [(.int p1), (.ref p0)])
  refine hp (fun tq kq => XS.lloadN X0.here hx rfl (hb hby d1_2) rfl kq) ?_
  show G s₁ (mkF m 3 #[.val (.ref p0), .val (.int p1), .val (.long p2), .second] [(.long p2), (.int p1), (.ref p0)])
  refine hp (fun tq kq => XS.l2i X0.here hx rfl (hb hby d1_3) rfl kq) ?_
  show G s₁ (mkF m 4 #[.val (.ref p0), .val (.int p1), .val (.long p2), .second] [(.int p2.toInt32), (.int p1), (.ref p0)])
  refine hp (fun tq kq => XS.i2b X0.here hx rfl (hb hby d1_4) rfl kq) ?_
  show G s₁ (mkF m 5 #[.val (.ref p0), .val (.int p1), .val (.long p2), .second] [(.int p2.toInt32.toInt8.toInt32), (.int p1), (.ref p0)])
  obtain ⟨T1, h1, X1, e1, W1, V1_p0, st1⟩ := own_stB X0 hx hZ e0 V_p0 (j := p1) s0 (own_ix0 hs).1 (own_ix0 hs).2.1 (own_ix0 hs).2.2 (g := (mkF m 5 #[.val (.ref p0), .val (.int p1), .val (.long p2), .second] [(.int p2.toInt32.toInt8.toInt32), (.int p1), (.ref p0)])) rfl rfl (hb hby d1_5)
  have K1 := K0.wr W1 (Or.inl (by simp))
  have N1 := Fr.snoc X1 N0 g_p0
  refine hp st1 ?_
  show G T1 (mkF m 6 #[.val (.ref p0), .val (.int p1), .val (.long p2), .second] [])
  refine hp (fun tq kq => XS.aloadN X1.here hx rfl (hb hby d1_6) rfl rfl kq) ?_
  show G T1 (mkF m 7 #[.val (.ref p0), .val (.int p1), .val (.long p2), .second] [(.ref p0)])
  refine hp (fun tq kq => XS.iloadN X1.here hx rfl (hb hby d1_7) rfl kq) ?_
  show G T1 (mkF m 8 #[.val (.ref p0), .val (.int p1), .val (.long p2), .second] [(.int p1), (.ref p0)])
  refine hp (fun tq kq => XS.iconst X1.here hx rfl (hb hby d1_8) kq) ?_
  show G T1 (mkF m 9 #[.val (.ref p0), .val (.int p1), .val (.long p2), .second] [(.int (1 : Int32)), (.int p1), (.ref p0)])
  refine hp (fun tq kq => XS.iadd X1.here hx rfl (hb hby d1_9) rfl kq) ?_
  show G T1 (mkF m 10 #[.val (.ref p0), .val (.int p1), .val (.long p2), .second] [(.int (p1 + (1 : Int32))), (.ref p0)])
  refine hp (fun tq kq => XS.lloadN X1.here hx rfl (hb hby d1_10) rfl kq) ?_
  show G T1 (mkF m 11 #[.val (.ref p0), .val (.int p1), .val (.long p2), .second] [(.long p2), (.int (p1 + (1 : Int32))), (.ref p0)])
  refine hp (fun tq kq => XS.bipush X1.here hx rfl (hb hby d1_11) kq) ?_
  show G T1 (mkF m 13 #[.val (.ref p0), .val (.int p1), .val (.long p2), .second] [(.int (8 : Int32)), (.long p2), (.int (p1 + (1 : Int32))), (.ref p0)])
  refine hp (fun tq kq => XS.lushr X1.here hx rfl (hb hby d1_13) rfl kq) ?_
  show G T1 (mkF m 14 #[.val (.ref p0), .val (.int p1), .val (.long p2), .second] [(.long ((p2.toUInt64 >>> ((8 : Int32) &&& 0x3f).toInt64.toUInt64).toInt64)), (.int (p1 + (1 : Int32))), (.ref p0)])
  refine hp (fun tq kq => XS.l2i X1.here hx rfl (hb hby d1_14) rfl kq) ?_
  show G T1 (mkF m 15 #[.val (.ref p0), .val (.int p1), .val (.long p2), .second] [(.int ((p2.toUInt64 >>> ((8 : Int32) &&& 0x3f).toInt64.toUInt64).toInt64).toInt32), (.int (p1 + (1 : Int32))), (.ref p0)])
  refine hp (fun tq kq => XS.i2b X1.here hx rfl (hb hby d1_15) rfl kq) ?_
  show G T1 (mkF m 16 #[.val (.ref p0), .val (.int p1), .val (.long p2), .second] [(.int ((p2.toUInt64 >>> ((8 : Int32) &&& 0x3f).toInt64.toUInt64).toInt64).toInt32.toInt8.toInt32), (.int (p1 + (1 : Int32))), (.ref p0)])
  obtain ⟨T2, h2, X2, e2, W2, V2_p0, st2⟩ := own_stB X1 hx hZ e1 V1_p0 (j := (p1 + (1 : Int32))) (s0 + 1) (own_ix hs 1 (by decide)).1 (own_ix hs 1 (by decide)).2.1 (own_ix hs 1 (by decide)).2.2 (g := (mkF m 16 #[.val (.ref p0), .val (.int p1), .val (.long p2), .second] [(.int ((p2.toUInt64 >>> ((8 : Int32) &&& 0x3f).toInt64.toUInt64).toInt64).toInt32.toInt8.toInt32), (.int (p1 + (1 : Int32))), (.ref p0)])) rfl rfl (hb hby d1_16)
  have K2 := K1.wr W2 (Or.inl (by simp))
  have N2 := Fr.snoc X2 N1 g_p0
  refine hp st2 ?_
  show G T2 (mkF m 17 #[.val (.ref p0), .val (.int p1), .val (.long p2), .second] [])
  refine hp (fun tq kq => XS.aloadN X2.here hx rfl (hb hby d1_17) rfl rfl kq) ?_
  show G T2 (mkF m 18 #[.val (.ref p0), .val (.int p1), .val (.long p2), .second] [(.ref p0)])
  refine hp (fun tq kq => XS.iloadN X2.here hx rfl (hb hby d1_18) rfl kq) ?_
  show G T2 (mkF m 19 #[.val (.ref p0), .val (.int p1), .val (.long p2), .second] [(.int p1), (.ref p0)])
  refine hp (fun tq kq => XS.iconst X2.here hx rfl (hb hby d1_19) kq) ?_
  show G T2 (mkF m 20 #[.val (.ref p0), .val (.int p1), .val (.long p2), .second] [(.int (2 : Int32)), (.int p1), (.ref p0)])
  refine hp (fun tq kq => XS.iadd X2.here hx rfl (hb hby d1_20) rfl kq) ?_
  show G T2 (mkF m 21 #[.val (.ref p0), .val (.int p1), .val (.long p2), .second] [(.int (p1 + (2 : Int32))), (.ref p0)])
  refine hp (fun tq kq => XS.lloadN X2.here hx rfl (hb hby d1_21) rfl kq) ?_
  show G T2 (mkF m 22 #[.val (.ref p0), .val (.int p1), .val (.long p2), .second] [(.long p2), (.int (p1 + (2 : Int32))), (.ref p0)])
  refine hp (fun tq kq => XS.bipush X2.here hx rfl (hb hby d1_22) kq) ?_
  show G T2 (mkF m 24 #[.val (.ref p0), .val (.int p1), .val (.long p2), .second] [(.int (16 : Int32)), (.long p2), (.int (p1 + (2 : Int32))), (.ref p0)])
  refine hp (fun tq kq => XS.lushr X2.here hx rfl (hb hby d1_24) rfl kq) ?_
  show G T2 (mkF m 25 #[.val (.ref p0), .val (.int p1), .val (.long p2), .second] [(.long ((p2.toUInt64 >>> ((16 : Int32) &&& 0x3f).toInt64.toUInt64).toInt64)), (.int (p1 + (2 : Int32))), (.ref p0)])
  refine hp (fun tq kq => XS.l2i X2.here hx rfl (hb hby d1_25) rfl kq) ?_
  show G T2 (mkF m 26 #[.val (.ref p0), .val (.int p1), .val (.long p2), .second] [(.int ((p2.toUInt64 >>> ((16 : Int32) &&& 0x3f).toInt64.toUInt64).toInt64).toInt32), (.int (p1 + (2 : Int32))), (.ref p0)])
  refine hp (fun tq kq => XS.i2b X2.here hx rfl (hb hby d1_26) rfl kq) ?_
  show G T2 (mkF m 27 #[.val (.ref p0), .val (.int p1), .val (.long p2), .second] [(.int ((p2.toUInt64 >>> ((16 : Int32) &&& 0x3f).toInt64.toUInt64).toInt64).toInt32.toInt8.toInt32), (.int (p1 + (2 : Int32))), (.ref p0)])
  obtain ⟨T3, h3, X3, e3, W3, V3_p0, st3⟩ := own_stB X2 hx hZ e2 V2_p0 (j := (p1 + (2 : Int32))) (s0 + 2) (own_ix hs 2 (by decide)).1 (own_ix hs 2 (by decide)).2.1 (own_ix hs 2 (by decide)).2.2 (g := (mkF m 27 #[.val (.ref p0), .val (.int p1), .val (.long p2), .second] [(.int ((p2.toUInt64 >>> ((16 : Int32) &&& 0x3f).toInt64.toUInt64).toInt64).toInt32.toInt8.toInt32), (.int (p1 + (2 : Int32))), (.ref p0)])) rfl rfl (hb hby d1_27)
  have K3 := K2.wr W3 (Or.inl (by simp))
  have N3 := Fr.snoc X3 N2 g_p0
  refine hp st3 ?_
  show G T3 (mkF m 28 #[.val (.ref p0), .val (.int p1), .val (.long p2), .second] [])
  refine hp (fun tq kq => XS.aloadN X3.here hx rfl (hb hby d1_28) rfl rfl kq) ?_
  show G T3 (mkF m 29 #[.val (.ref p0), .val (.int p1), .val (.long p2), .second] [(.ref p0)])
  refine hp (fun tq kq => XS.iloadN X3.here hx rfl (hb hby d1_29) rfl kq) ?_
  show G T3 (mkF m 30 #[.val (.ref p0), .val (.int p1), .val (.long p2), .second] [(.int p1), (.ref p0)])
  refine hp (fun tq kq => XS.iconst X3.here hx rfl (hb hby d1_30) kq) ?_
  show G T3 (mkF m 31 #[.val (.ref p0), .val (.int p1), .val (.long p2), .second] [(.int (3 : Int32)), (.int p1), (.ref p0)])
  refine hp (fun tq kq => XS.iadd X3.here hx rfl (hb hby d1_31) rfl kq) ?_
  show G T3 (mkF m 32 #[.val (.ref p0), .val (.int p1), .val (.long p2), .second] [(.int (p1 + (3 : Int32))), (.ref p0)])
  refine hp (fun tq kq => XS.lloadN X3.here hx rfl (hb hby d1_32) rfl kq) ?_
  show G T3 (mkF m 33 #[.val (.ref p0), .val (.int p1), .val (.long p2), .second] [(.long p2), (.int (p1 + (3 : Int32))), (.ref p0)])
  refine hp (fun tq kq => XS.bipush X3.here hx rfl (hb hby d1_33) kq) ?_
  show G T3 (mkF m 35 #[.val (.ref p0), .val (.int p1), .val (.long p2), .second] [(.int (24 : Int32)), (.long p2), (.int (p1 + (3 : Int32))), (.ref p0)])
  refine hp (fun tq kq => XS.lushr X3.here hx rfl (hb hby d1_35) rfl kq) ?_
  show G T3 (mkF m 36 #[.val (.ref p0), .val (.int p1), .val (.long p2), .second] [(.long ((p2.toUInt64 >>> ((24 : Int32) &&& 0x3f).toInt64.toUInt64).toInt64)), (.int (p1 + (3 : Int32))), (.ref p0)])
  refine hp (fun tq kq => XS.l2i X3.here hx rfl (hb hby d1_36) rfl kq) ?_
  show G T3 (mkF m 37 #[.val (.ref p0), .val (.int p1), .val (.long p2), .second] [(.int ((p2.toUInt64 >>> ((24 : Int32) &&& 0x3f).toInt64.toUInt64).toInt64).toInt32), (.int (p1 + (3 : Int32))), (.ref p0)])
  refine hp (fun tq kq => XS.i2b X3.here hx rfl (hb hby d1_37) rfl kq) ?_
  show G T3 (mkF m 38 #[.val (.ref p0), .val (.int p1), .val (.long p2), .second] [(.int ((p2.toUInt64 >>> ((24 : Int32) &&& 0x3f).toInt64.toUInt64).toInt64).toInt32.toInt8.toInt32), (.int (p1 + (3 : Int32))), (.ref p0)])
  obtain ⟨T4, h4, X4, e4, W4, V4_p0, st4⟩ := own_stB X3 hx hZ e3 V3_p0 (j := (p1 + (3 : Int32))) (s0 + 3) (own_ix hs 3 (by decide)).1 (own_ix hs 3 (by decide)).2.1 (own_ix hs 3 (by decide)).2.2 (g := (mkF m 38 #[.val (.ref p0), .val (.int p1), .val (.long p2), .second] [(.int ((p2.toUInt64 >>> ((24 : Int32) &&& 0x3f).toInt64.toUInt64).toInt64).toInt32.toInt8.toInt32), (.int (p1 + (3 : Int32))), (.ref p0)])) rfl rfl (hb hby d1_38)
  have K4 := K3.wr W4 (Or.inl (by simp))
  have N4 := Fr.snoc X4 N3 g_p0
  refine hp st4 ?_
  show G T4 (mkF m 39 #[.val (.ref p0), .val (.int p1), .val (.long p2), .second] [])
  refine hp (fun tq kq => XS.aloadN X4.here hx rfl (hb hby d1_39) rfl rfl kq) ?_
  show G T4 (mkF m 40 #[.val (.ref p0), .val (.int p1), .val (.long p2), .second] [(.ref p0)])
  refine hp (fun tq kq => XS.iloadN X4.here hx rfl (hb hby d1_40) rfl kq) ?_
  show G T4 (mkF m 41 #[.val (.ref p0), .val (.int p1), .val (.long p2), .second] [(.int p1), (.ref p0)])
  refine hp (fun tq kq => XS.iconst X4.here hx rfl (hb hby d1_41) kq) ?_
  show G T4 (mkF m 42 #[.val (.ref p0), .val (.int p1), .val (.long p2), .second] [(.int (4 : Int32)), (.int p1), (.ref p0)])
  refine hp (fun tq kq => XS.iadd X4.here hx rfl (hb hby d1_42) rfl kq) ?_
  show G T4 (mkF m 43 #[.val (.ref p0), .val (.int p1), .val (.long p2), .second] [(.int (p1 + (4 : Int32))), (.ref p0)])
  refine hp (fun tq kq => XS.lloadN X4.here hx rfl (hb hby d1_43) rfl kq) ?_
  show G T4 (mkF m 44 #[.val (.ref p0), .val (.int p1), .val (.long p2), .second] [(.long p2), (.int (p1 + (4 : Int32))), (.ref p0)])
  refine hp (fun tq kq => XS.bipush X4.here hx rfl (hb hby d1_44) kq) ?_
  show G T4 (mkF m 46 #[.val (.ref p0), .val (.int p1), .val (.long p2), .second] [(.int (32 : Int32)), (.long p2), (.int (p1 + (4 : Int32))), (.ref p0)])
  refine hp (fun tq kq => XS.lushr X4.here hx rfl (hb hby d1_46) rfl kq) ?_
  show G T4 (mkF m 47 #[.val (.ref p0), .val (.int p1), .val (.long p2), .second] [(.long ((p2.toUInt64 >>> ((32 : Int32) &&& 0x3f).toInt64.toUInt64).toInt64)), (.int (p1 + (4 : Int32))), (.ref p0)])
  refine hp (fun tq kq => XS.l2i X4.here hx rfl (hb hby d1_47) rfl kq) ?_
  show G T4 (mkF m 48 #[.val (.ref p0), .val (.int p1), .val (.long p2), .second] [(.int ((p2.toUInt64 >>> ((32 : Int32) &&& 0x3f).toInt64.toUInt64).toInt64).toInt32), (.int (p1 + (4 : Int32))), (.ref p0)])
  refine hp (fun tq kq => XS.i2b X4.here hx rfl (hb hby d1_48) rfl kq) ?_
  show G T4 (mkF m 49 #[.val (.ref p0), .val (.int p1), .val (.long p2), .second] [(.int ((p2.toUInt64 >>> ((32 : Int32) &&& 0x3f).toInt64.toUInt64).toInt64).toInt32.toInt8.toInt32), (.int (p1 + (4 : Int32))), (.ref p0)])
  obtain ⟨T5, h5, X5, e5, W5, V5_p0, st5⟩ := own_stB X4 hx hZ e4 V4_p0 (j := (p1 + (4 : Int32))) (s0 + 4) (own_ix hs 4 (by decide)).1 (own_ix hs 4 (by decide)).2.1 (own_ix hs 4 (by decide)).2.2 (g := (mkF m 49 #[.val (.ref p0), .val (.int p1), .val (.long p2), .second] [(.int ((p2.toUInt64 >>> ((32 : Int32) &&& 0x3f).toInt64.toUInt64).toInt64).toInt32.toInt8.toInt32), (.int (p1 + (4 : Int32))), (.ref p0)])) rfl rfl (hb hby d1_49)
  have K5 := K4.wr W5 (Or.inl (by simp))
  have N5 := Fr.snoc X5 N4 g_p0
  refine hp st5 ?_
  show G T5 (mkF m 50 #[.val (.ref p0), .val (.int p1), .val (.long p2), .second] [])
  refine hp (fun tq kq => XS.aloadN X5.here hx rfl (hb hby d1_50) rfl rfl kq) ?_
  show G T5 (mkF m 51 #[.val (.ref p0), .val (.int p1), .val (.long p2), .second] [(.ref p0)])
  refine hp (fun tq kq => XS.iloadN X5.here hx rfl (hb hby d1_51) rfl kq) ?_
  show G T5 (mkF m 52 #[.val (.ref p0), .val (.int p1), .val (.long p2), .second] [(.int p1), (.ref p0)])
  refine hp (fun tq kq => XS.iconst X5.here hx rfl (hb hby d1_52) kq) ?_
  show G T5 (mkF m 53 #[.val (.ref p0), .val (.int p1), .val (.long p2), .second] [(.int (5 : Int32)), (.int p1), (.ref p0)])
  refine hp (fun tq kq => XS.iadd X5.here hx rfl (hb hby d1_53) rfl kq) ?_
  show G T5 (mkF m 54 #[.val (.ref p0), .val (.int p1), .val (.long p2), .second] [(.int (p1 + (5 : Int32))), (.ref p0)])
  refine hp (fun tq kq => XS.lloadN X5.here hx rfl (hb hby d1_54) rfl kq) ?_
  show G T5 (mkF m 55 #[.val (.ref p0), .val (.int p1), .val (.long p2), .second] [(.long p2), (.int (p1 + (5 : Int32))), (.ref p0)])
  refine hp (fun tq kq => XS.bipush X5.here hx rfl (hb hby d1_55) kq) ?_
  show G T5 (mkF m 57 #[.val (.ref p0), .val (.int p1), .val (.long p2), .second] [(.int (40 : Int32)), (.long p2), (.int (p1 + (5 : Int32))), (.ref p0)])
  refine hp (fun tq kq => XS.lushr X5.here hx rfl (hb hby d1_57) rfl kq) ?_
  show G T5 (mkF m 58 #[.val (.ref p0), .val (.int p1), .val (.long p2), .second] [(.long ((p2.toUInt64 >>> ((40 : Int32) &&& 0x3f).toInt64.toUInt64).toInt64)), (.int (p1 + (5 : Int32))), (.ref p0)])
  refine hp (fun tq kq => XS.l2i X5.here hx rfl (hb hby d1_58) rfl kq) ?_
  show G T5 (mkF m 59 #[.val (.ref p0), .val (.int p1), .val (.long p2), .second] [(.int ((p2.toUInt64 >>> ((40 : Int32) &&& 0x3f).toInt64.toUInt64).toInt64).toInt32), (.int (p1 + (5 : Int32))), (.ref p0)])
  refine hp (fun tq kq => XS.i2b X5.here hx rfl (hb hby d1_59) rfl kq) ?_
  show G T5 (mkF m 60 #[.val (.ref p0), .val (.int p1), .val (.long p2), .second] [(.int ((p2.toUInt64 >>> ((40 : Int32) &&& 0x3f).toInt64.toUInt64).toInt64).toInt32.toInt8.toInt32), (.int (p1 + (5 : Int32))), (.ref p0)])
  obtain ⟨T6, h6, X6, e6, W6, V6_p0, st6⟩ := own_stB X5 hx hZ e5 V5_p0 (j := (p1 + (5 : Int32))) (s0 + 5) (own_ix hs 5 (by decide)).1 (own_ix hs 5 (by decide)).2.1 (own_ix hs 5 (by decide)).2.2 (g := (mkF m 60 #[.val (.ref p0), .val (.int p1), .val (.long p2), .second] [(.int ((p2.toUInt64 >>> ((40 : Int32) &&& 0x3f).toInt64.toUInt64).toInt64).toInt32.toInt8.toInt32), (.int (p1 + (5 : Int32))), (.ref p0)])) rfl rfl (hb hby d1_60)
  have K6 := K5.wr W6 (Or.inl (by simp))
  have N6 := Fr.snoc X6 N5 g_p0
  refine hp st6 ?_
  show G T6 (mkF m 61 #[.val (.ref p0), .val (.int p1), .val (.long p2), .second] [])
  refine hp (fun tq kq => XS.aloadN X6.here hx rfl (hb hby d1_61) rfl rfl kq) ?_
  show G T6 (mkF m 62 #[.val (.ref p0), .val (.int p1), .val (.long p2), .second] [(.ref p0)])
  refine hp (fun tq kq => XS.iloadN X6.here hx rfl (hb hby d1_62) rfl kq) ?_
  show G T6 (mkF m 63 #[.val (.ref p0), .val (.int p1), .val (.long p2), .second] [(.int p1), (.ref p0)])
  refine hp (fun tq kq => XS.bipush X6.here hx rfl (hb hby d1_63) kq) ?_
  show G T6 (mkF m 65 #[.val (.ref p0), .val (.int p1), .val (.long p2), .second] [(.int (6 : Int32)), (.int p1), (.ref p0)])
  refine hp (fun tq kq => XS.iadd X6.here hx rfl (hb hby d1_65) rfl kq) ?_
  show G T6 (mkF m 66 #[.val (.ref p0), .val (.int p1), .val (.long p2), .second] [(.int (p1 + (6 : Int32))), (.ref p0)])
  refine hp (fun tq kq => XS.lloadN X6.here hx rfl (hb hby d1_66) rfl kq) ?_
  show G T6 (mkF m 67 #[.val (.ref p0), .val (.int p1), .val (.long p2), .second] [(.long p2), (.int (p1 + (6 : Int32))), (.ref p0)])
  refine hp (fun tq kq => XS.bipush X6.here hx rfl (hb hby d1_67) kq) ?_
  show G T6 (mkF m 69 #[.val (.ref p0), .val (.int p1), .val (.long p2), .second] [(.int (48 : Int32)), (.long p2), (.int (p1 + (6 : Int32))), (.ref p0)])
  refine hp (fun tq kq => XS.lushr X6.here hx rfl (hb hby d1_69) rfl kq) ?_
  show G T6 (mkF m 70 #[.val (.ref p0), .val (.int p1), .val (.long p2), .second] [(.long ((p2.toUInt64 >>> ((48 : Int32) &&& 0x3f).toInt64.toUInt64).toInt64)), (.int (p1 + (6 : Int32))), (.ref p0)])
  refine hp (fun tq kq => XS.l2i X6.here hx rfl (hb hby d1_70) rfl kq) ?_
  show G T6 (mkF m 71 #[.val (.ref p0), .val (.int p1), .val (.long p2), .second] [(.int ((p2.toUInt64 >>> ((48 : Int32) &&& 0x3f).toInt64.toUInt64).toInt64).toInt32), (.int (p1 + (6 : Int32))), (.ref p0)])
  refine hp (fun tq kq => XS.i2b X6.here hx rfl (hb hby d1_71) rfl kq) ?_
  show G T6 (mkF m 72 #[.val (.ref p0), .val (.int p1), .val (.long p2), .second] [(.int ((p2.toUInt64 >>> ((48 : Int32) &&& 0x3f).toInt64.toUInt64).toInt64).toInt32.toInt8.toInt32), (.int (p1 + (6 : Int32))), (.ref p0)])
  obtain ⟨T7, h7, X7, e7, W7, V7_p0, st7⟩ := own_stB X6 hx hZ e6 V6_p0 (j := (p1 + (6 : Int32))) (s0 + 6) (own_ix hs 6 (by decide)).1 (own_ix hs 6 (by decide)).2.1 (own_ix hs 6 (by decide)).2.2 (g := (mkF m 72 #[.val (.ref p0), .val (.int p1), .val (.long p2), .second] [(.int ((p2.toUInt64 >>> ((48 : Int32) &&& 0x3f).toInt64.toUInt64).toInt64).toInt32.toInt8.toInt32), (.int (p1 + (6 : Int32))), (.ref p0)])) rfl rfl (hb hby d1_72)
  have K7 := K6.wr W7 (Or.inl (by simp))
  have N7 := Fr.snoc X7 N6 g_p0
  refine hp st7 ?_
  show G T7 (mkF m 73 #[.val (.ref p0), .val (.int p1), .val (.long p2), .second] [])
  refine hp (fun tq kq => XS.aloadN X7.here hx rfl (hb hby d1_73) rfl rfl kq) ?_
  show G T7 (mkF m 74 #[.val (.ref p0), .val (.int p1), .val (.long p2), .second] [(.ref p0)])
  refine hp (fun tq kq => XS.iloadN X7.here hx rfl (hb hby d1_74) rfl kq) ?_
  show G T7 (mkF m 75 #[.val (.ref p0), .val (.int p1), .val (.long p2), .second] [(.int p1), (.ref p0)])
  refine hp (fun tq kq => XS.bipush X7.here hx rfl (hb hby d1_75) kq) ?_
  show G T7 (mkF m 77 #[.val (.ref p0), .val (.int p1), .val (.long p2), .second] [(.int (7 : Int32)), (.int p1), (.ref p0)])
  refine hp (fun tq kq => XS.iadd X7.here hx rfl (hb hby d1_77) rfl kq) ?_
  show G T7 (mkF m 78 #[.val (.ref p0), .val (.int p1), .val (.long p2), .second] [(.int (p1 + (7 : Int32))), (.ref p0)])
  refine hp (fun tq kq => XS.lloadN X7.here hx rfl (hb hby d1_78) rfl kq) ?_
  show G T7 (mkF m 79 #[.val (.ref p0), .val (.int p1), .val (.long p2), .second] [(.long p2), (.int (p1 + (7 : Int32))), (.ref p0)])
  refine hp (fun tq kq => XS.bipush X7.here hx rfl (hb hby d1_79) kq) ?_
  show G T7 (mkF m 81 #[.val (.ref p0), .val (.int p1), .val (.long p2), .second] [(.int (56 : Int32)), (.long p2), (.int (p1 + (7 : Int32))), (.ref p0)])
  refine hp (fun tq kq => XS.lushr X7.here hx rfl (hb hby d1_81) rfl kq) ?_
  show G T7 (mkF m 82 #[.val (.ref p0), .val (.int p1), .val (.long p2), .second] [(.long ((p2.toUInt64 >>> ((56 : Int32) &&& 0x3f).toInt64.toUInt64).toInt64)), (.int (p1 + (7 : Int32))), (.ref p0)])
  refine hp (fun tq kq => XS.l2i X7.here hx rfl (hb hby d1_82) rfl kq) ?_
  show G T7 (mkF m 83 #[.val (.ref p0), .val (.int p1), .val (.long p2), .second] [(.int ((p2.toUInt64 >>> ((56 : Int32) &&& 0x3f).toInt64.toUInt64).toInt64).toInt32), (.int (p1 + (7 : Int32))), (.ref p0)])
  refine hp (fun tq kq => XS.i2b X7.here hx rfl (hb hby d1_83) rfl kq) ?_
  show G T7 (mkF m 84 #[.val (.ref p0), .val (.int p1), .val (.long p2), .second] [(.int ((p2.toUInt64 >>> ((56 : Int32) &&& 0x3f).toInt64.toUInt64).toInt64).toInt32.toInt8.toInt32), (.int (p1 + (7 : Int32))), (.ref p0)])
  obtain ⟨T8, h8, X8, e8, W8, V8_p0, st8⟩ := own_stB X7 hx hZ e7 V7_p0 (j := (p1 + (7 : Int32))) (s0 + 7) (own_ix hs 7 (by decide)).1 (own_ix hs 7 (by decide)).2.1 (own_ix hs 7 (by decide)).2.2 (g := (mkF m 84 #[.val (.ref p0), .val (.int p1), .val (.long p2), .second] [(.int ((p2.toUInt64 >>> ((56 : Int32) &&& 0x3f).toInt64.toUInt64).toInt64).toInt32.toInt8.toInt32), (.int (p1 + (7 : Int32))), (.ref p0)])) rfl rfl (hb hby d1_84)
  have K8 := K7.wr W8 (Or.inl (by simp))
  have N8 := Fr.snoc X8 N7 g_p0
  refine hp st8 ?_
  show G T8 (mkF m 85 #[.val (.ref p0), .val (.int p1), .val (.long p2), .second] [])
  exact hR X8 (fun fs hl => X8.returnOut hx hret (hb hby d1_85) hl) (fun _ => rfl) (by rw [e8]; exact ⟨rfl, N8, K8, V8_p0⟩) (by decide) (by decide)
/-- the bit q of the array's bytes, the low byte first -/
def own_B (f : Nat → Int32) (q : Nat) : Bool := (f (q / 8)).toBitVec.getLsbD (q % 8)
theorem own_shl_bv (x : Int64) (q : Int32) (k : Nat) (hk : q.toBitVec.toNat % 64 = k) : (x <<< (q &&& 0x3f).toInt64).toBitVec = x.toBitVec <<< k := by
  obtain ⟨h1, h2⟩ := sm64 q k hk
  show x.toBitVec <<< ((q &&& 0x3f).toInt64.toBitVec.smod 64) = _
  rw [h1, BitVec.shiftLeft_eq', smod64 k h2]
theorem own_ushr_bv (x : Int64) (q : Int32) (k : Nat) (hk : q.toBitVec.toNat % 64 = k) : ((x.toUInt64 >>> (q &&& 0x3f).toInt64.toUInt64).toInt64).toBitVec = x.toBitVec >>> k := by
  obtain ⟨h1, h2⟩ := sm64 q k hk
  show (x.toUInt64 >>> (q &&& 0x3f).toInt64.toUInt64).toBitVec = _
  rw [UInt64.toBitVec_shiftRight]
  show x.toBitVec >>> (((q &&& 0x3f).toInt64.toBitVec) % 64) = _
  rw [h1, BitVec.ushiftRight_eq']
  congr 1
  rw [BitVec.toNat_umod, BitVec.toNat_ofNat]
  show k % 2 ^ 64 % 64 = k
  omega
theorem own_mask_bit (w k : Nat) (hw : w < 64) : ((1#64 <<< w) - 1#64).getLsbD k = decide (k < w) := by
  have h : ((1#64 <<< w) - 1#64).toNat = 2 ^ w - 1 := by
    have h2 : 2 ^ w < 2 ^ 64 := Nat.pow_lt_pow_right (by decide) hw
    have h3 : 0 < 2 ^ w := Nat.two_pow_pos w
    rw [BitVec.toNat_sub_of_le]
    · rw [BitVec.toNat_shiftLeft, Nat.shiftLeft_eq]
      show 1 * 2 ^ w % 2 ^ 64 - 1 = _
      rw [Nat.one_mul, Nat.mod_eq_of_lt h2]
    · rw [BitVec.le_def, BitVec.toNat_shiftLeft, Nat.shiftLeft_eq]
      show 1 ≤ 1 * 2 ^ w % 2 ^ 64
      rw [Nat.one_mul, Nat.mod_eq_of_lt h2]; exact h3
  rw [BitVec.getLsbD, h, Nat.testBit_two_pow_sub_one]
theorem own_nat64 {q : Int32} {k : Nat} (h : q.toInt = (k : Int)) (hk : k < 64) : q.toBitVec.toNat % 64 = k := by
  have h1 : q.toBitVec.toInt = (k : Int) := h
  rw [BitVec.toInt_eq_toNat_cond] at h1
  have := q.toBitVec.isLt
  split at h1 <;> omega
theorem own_nat32 {q : Int32} {k : Nat} (h : q.toInt = (k : Int)) (hk : k < 32) : q.toBitVec.toNat % 32 = k := by
  have h1 : q.toBitVec.toInt = (k : Int) := h
  rw [BitVec.toInt_eq_toNat_cond] at h1
  have := q.toBitVec.isLt
  split at h1 <;> omega
theorem own_b255 (i : Nat) (hi : i < 32) : (255#32).getLsbD i = decide (i < 8) := by
  have h : (255#32).getLsbD i = Nat.testBit (2 ^ 8 - 1) i := rfl
  rw [h, Nat.testBit_two_pow_sub_one]
/-- the bits of a byte, widened -/
theorem own_byte64 (x : Int32) (k : Nat) (hk : k < 64) : (x &&& (255 : Int32)).toInt64.toBitVec.getLsbD k = (decide (k < 8) && x.toBitVec.getLsbD k) := by
  show ((x.toBitVec &&& 255#32).signExtend 64).getLsbD k = _
  rw [BitVec.getLsbD_signExtend]
  have m : (x.toBitVec &&& 255#32).msb = false := by
    rw [BitVec.msb_and]
    have : (255#32).msb = false := by decide
    rw [this, Bool.and_false]
  by_cases h : k < 32
  · rw [if_pos h, BitVec.getLsbD_and, own_b255 k h]
    simp [hk, Bool.and_comm]
  · rw [if_neg h, m]
    have : ¬ k < 8 := by omega
    simp [this]
def own_spec (f : Nat → Int32) (bit wd : Nat) (r : Int64) : Prop := ∀ k, k < 64 → r.toBitVec.getLsbD k = (decide (k < wd) && own_B f (bit + k))
def own_inv (f : Nat → Int32) (bit wd t d : Nat) (val : Int64) (iv : Int32) : Prop := t + d = (bit + wd - 1) / 8 - bit / 8 ∧ iv.toInt = ((bit / 8 + t + 1 : Nat) : Int) ∧ ∀ k, k < 64 → val.toBitVec.getLsbD k = (decide (k + bit % 8 < 8 * (t + 1)) && own_B f (bit + k))
section Read
variable {f : Nat → Int32} {bit wd t d : Nat} {p1 val z5 : Int64} {p2 z1 z2 z3 z6 iv : Int32}
theorem own_first (hz : z1 = (p1 / (8 : Int64)).toInt32) (hb : p1.toInt = (bit : Int) ∧ bit ≤ 127) : z1.toInt = ((bit / 8 : Nat) : Int) := by
  have a := (c_ldiv p1 8 8 (by decide) (by decide)).1 (by omega)
  have b := c_l2i (p1 / 8)
  have r := rng32 z1
  rw [← hz, a, hb.1] at b
  generalize z1.toInt = y at *
  omega
theorem own_idx {z : Int32} {k : Nat} (h : z.toInt = (k : Int)) (hk : k < 24) : z.toNatClampNeg = k ∧ ¬ z < 0 ∧ k < 24 := by
  have h0 : (0 : Int32).toInt = 0 := by decide
  rw [Int32.lt_iff_toInt_lt, h0, Int32.toNatClampNeg]
  omega
theorem own_wpos (hwd : p2.toInt = (wd : Int) ∧ wd ≤ 64) (h : ¬ p2 = (0 : Int32)) : 1 ≤ wd := by
  have h0 : (0 : Int32).toInt = 0 := by decide
  have : ¬ p2.toInt = 0 := fun q => h (Int32.toInt_inj.mp (by rw [q, h0]))
  omega
theorem own_last (hz : z2 = (((p1 + p2.toInt64) - (1 : Int64)) / (8 : Int64)).toInt32) (hb : p1.toInt = (bit : Int) ∧ bit ≤ 127) (hwd : p2.toInt = (wd : Int) ∧ wd ≤ 64) (hw1 : 1 ≤ wd) : z2.toInt = (((bit + wd - 1) / 8 : Nat) : Int) := by
  have i := c_i2l p2
  have a1 := c_ladd p1 p2.toInt64
  have r1 := rng64 (p1 + p2.toInt64)
  rw [i, hb.1, hwd.1] at a1
  have q1 : (p1 + p2.toInt64).toInt = bit + wd := by
    generalize (p1 + p2.toInt64).toInt = y at *
    omega
  have a2 := c_lsub (p1 + p2.toInt64) 1
  have e : (1 : Int64).toInt = 1 := by decide
  have r2 := rng64 ((p1 + p2.toInt64) - 1)
  rw [q1, e] at a2
  have q2 : ((p1 + p2.toInt64) - 1).toInt = bit + wd - 1 := by
    generalize ((p1 + p2.toInt64) - 1).toInt = y at *
    omega
  have a := (c_ldiv ((p1 + p2.toInt64) - 1) 8 8 (by decide) (by decide)).1 (by rw [q2]; omega)
  have b := c_l2i (((p1 + p2.toInt64) - 1) / 8)
  have r := rng32 z2
  rw [← hz, a, q2] at b
  generalize z2.toInt = y at *
  omega
theorem own_shift (hz : z3 = (p1 % (8 : Int64)).toInt32) (hb : p1.toInt = (bit : Int) ∧ bit ≤ 127) : z3.toInt = ((bit % 8 : Nat) : Int) := by
  have a := (c_lrem p1 8 8 (by decide)).1 (by omega)
  rw [lrem_mod] at a
  have b := c_l2i (p1 % 8)
  have r := rng32 z3
  rw [← hz, a, hb.1] at b
  generalize z3.toInt = y at *
  omega
theorem own_leave (h2 : z2.toInt = (((bit + wd - 1) / 8 : Nat) : Int)) (hw1 : 1 ≤ wd) (hI : own_inv f bit wd t 0 val iv) : z2 < iv := by
  obtain ⟨a, b, -⟩ := hI
  rw [Int32.lt_iff_toInt_lt, h2, b]; omega
theorem own_stay (h2 : z2.toInt = (((bit + wd - 1) / 8 : Nat) : Int)) (hI : own_inv f bit wd t (d + 1) val iv) : ¬ z2 < iv := by
  obtain ⟨a, b, -⟩ := hI
  rw [Int32.lt_iff_toInt_lt, h2, b]; omega
theorem own_nextix (hb : bit ≤ 127) (hw : wd ≤ 64) (hI : own_inv f bit wd t (d + 1) val iv) : iv.toNatClampNeg = bit / 8 + t + 1 ∧ ¬ iv < 0 ∧ bit / 8 + t + 1 < 24 := by
  obtain ⟨a, b, -⟩ := hI
  exact own_idx b (by omega)
theorem own_begin (h1 : z1.toInt = ((bit / 8 : Nat) : Int)) (h3 : z3.toInt = ((bit % 8 : Nat) : Int)) (hb : bit ≤ 127) (hz5 : z5 = ((((f (bit / 8)) &&& (255 : Int32)).toUInt32 >>> (z3 &&& 31).toUInt32).toInt32).toInt64) (hz6 : z6 = z1 + (1 : Int32)) :
    own_inv f bit wd 0 ((bit + wd - 1) / 8 - bit / 8) z5 z6 := by
  refine ⟨by omega, ?_, fun k hk => ?_⟩
  · have a := c_iadd z1 1
    have e : (1 : Int32).toInt = 1 := by decide
    have r := rng32 z6
    rw [← hz6, h1, e] at a
    generalize z6.toInt = y at *
    omega
  · have n := own_nat32 h3 (by omega)
    have s : (((f (bit / 8)) &&& (255 : Int32)).toUInt32 >>> (z3 &&& 31).toUInt32).toInt32.toBitVec = ((f (bit / 8)).toBitVec &&& 255#32) >>> (bit % 8) := by
      show (((f (bit / 8)) &&& (255 : Int32)).toUInt32 >>> (z3 &&& 31).toUInt32).toBitVec = _
      rw [UInt32.toBitVec_shiftRight]
      show ((f (bit / 8)).toBitVec &&& 255#32) >>> ((z3.toBitVec &&& 31#32) % 32#32) = _
      rw [BitVec.ushiftRight_eq']
      congr 1
      rw [BitVec.toNat_umod, BitVec.toNat_and]
      show (z3.toBitVec.toNat &&& 31) % 32 = _
      rw [Nat.and_two_pow_sub_one_eq_mod _ 5]
      omega
    rw [hz5]
    show ((((f (bit / 8)) &&& (255 : Int32)).toUInt32 >>> (z3 &&& 31).toUInt32).toInt32.toBitVec.signExtend 64).getLsbD k = _
    rw [s, BitVec.getLsbD_signExtend]
    have m : (((f (bit / 8)).toBitVec &&& 255#32) >>> (bit % 8)).msb = false := by
      rw [BitVec.msb_ushiftRight, BitVec.msb_and]
      have : (255#32).msb = false := by decide
      rw [this]; simp
    rw [m]
    by_cases h : k < 32
    · rw [if_pos h, BitVec.getLsbD_ushiftRight, BitVec.getLsbD_and]
      by_cases h8 : k + bit % 8 < 8
      · rw [own_b255 _ (by omega)]
        have e1 : (bit + k) / 8 = bit / 8 := by omega
        have e2 : (bit + k) % 8 = bit % 8 + k := by omega
        have e3 : bit % 8 + k < 8 := by omega
        simp [own_B, e1, e2, e3, hk, h8]
      · have e3 : ¬ bit % 8 + k < 8 := by omega
        by_cases h32 : bit % 8 + k < 32
        · rw [own_b255 _ h32]; simp [e3, h8]
        · rw [BitVec.getLsbD_of_ge _ _ (show 32 ≤ bit % 8 + k by omega)]; simp [h8]
    · rw [if_neg h]
      have h8 : ¬ k + bit % 8 < 8 := by omega
      simp [h8]
theorem own_turn (h1 : z1.toInt = ((bit / 8 : Nat) : Int)) (h3 : z3.toInt = ((bit % 8 : Nat) : Int)) (hb : bit ≤ 127) (hw : wd ≤ 64) (hI : own_inv f bit wd t (d + 1) val iv) :
    own_inv f bit wd (t + 1) d (val ||| (((f (bit / 8 + t + 1)) &&& (255 : Int32)).toInt64 <<< ((((8 : Int32) * (iv - z1)) - z3) &&& 0x3f).toInt64)) (iv + (1 : Int32)) := by
  obtain ⟨a, b, c⟩ := hI
  have e8 : (8 : Int32).toInt = 8 := by decide
  have q1 : (iv - z1).toInt = ((t + 1 : Nat) : Int) := by
    have x := c_isub iv z1
    have r := rng32 (iv - z1)
    rw [b, h1] at x
    generalize (iv - z1).toInt = y at *
    omega
  have q2 : ((8 : Int32) * (iv - z1)).toInt = ((8 * (t + 1) : Nat) : Int) := by
    have x := c_imul 8 (iv - z1)
    have r := rng32 (8 * (iv - z1))
    rw [e8, q1] at x
    generalize (8 * (iv - z1)).toInt = y at *
    omega
  have q3 : (((8 : Int32) * (iv - z1)) - z3).toInt = ((8 * (t + 1) - bit % 8 : Nat) : Int) := by
    have x := c_isub (8 * (iv - z1)) z3
    have r := rng32 (8 * (iv - z1) - z3)
    rw [q2, h3] at x
    generalize (8 * (iv - z1) - z3).toInt = y at *
    omega
  have n := own_nat64 q3 (by omega)
  refine ⟨by omega, ?_, fun k hk => ?_⟩
  · have x := c_iadd iv 1
    have e : (1 : Int32).toInt = 1 := by decide
    have r := rng32 (iv + 1)
    rw [b, e] at x
    generalize (iv + 1).toInt = y at *
    omega
  · rw [Int64.toBitVec_or, own_shl_bv _ _ _ n, BitVec.getLsbD_or, c k hk, BitVec.getLsbD_shiftLeft]
    by_cases h : k < 8 * (t + 1) - bit % 8
    · have g1 : k + bit % 8 < 8 * (t + 1) := by omega
      have g2 : k + bit % 8 < 8 * (t + 1 + 1) := by omega
      simp [h, g1, g2]
    · rw [own_byte64 _ _ (by omega)]
      have g1 : ¬ k + bit % 8 < 8 * (t + 1) := by omega
      by_cases g2 : k + bit % 8 < 8 * (t + 1 + 1)
      · have g3 : k - (8 * (t + 1) - bit % 8) < 8 := by omega
        have e1 : (bit + k) / 8 = bit / 8 + t + 1 := by omega
        have e2 : (bit + k) % 8 = k - (8 * (t + 1) - bit % 8) := by omega
        simp only [own_B, e1, e2]
        simp [h, g1, g2, g3, hk]
      · have g3 : ¬ k - (8 * (t + 1) - bit % 8) < 8 := by omega
        simp [h, g1, g2, g3]
theorem own_done64 (hwd : p2.toInt = (wd : Int) ∧ wd ≤ 64) (hI : own_inv f bit wd t 0 val iv) (h : p2 = (64 : Int32)) : own_spec f bit wd val := by
  intro k hk
  obtain ⟨a, b, c⟩ := hI
  have e : (64 : Int32).toInt = 64 := by decide
  have w : wd = 64 := by have := hwd.1; rw [h, e] at this; omega
  subst w
  rw [c k hk]
  have g1 : k + bit % 8 < 8 * (t + 1) := by omega
  simp [g1, hk]
theorem own_done (hwd : p2.toInt = (wd : Int) ∧ wd ≤ 64) (hI : own_inv f bit wd t 0 val iv) (h : ¬ p2 = (64 : Int32)) (hw1 : 1 ≤ wd) : own_spec f bit wd (val &&& (((1 : Int64) <<< (p2 &&& 0x3f).toInt64) - (1 : Int64))) := by
  intro k hk
  obtain ⟨a, b, c⟩ := hI
  have e : (64 : Int32).toInt = 64 := by decide
  have w : wd < 64 := by
    have : ¬ p2.toInt = 64 := fun q => h (Int32.toInt_inj.mp (by rw [q, e]))
    omega
  rw [Int64.toBitVec_and, Int64.toBitVec_sub, own_shl_bv _ _ _ (own_nat64 hwd.1 w), BitVec.getLsbD_and]
  show (_ && ((1#64 <<< wd) - 1#64).getLsbD k) = _
  rw [own_mask_bit wd k w, c k hk]
  by_cases g : k < wd
  · have g1 : k + bit % 8 < 8 * (t + 1) := by omega
    simp [g, g1]
  · simp [g]
theorem own_zero (hwd : p2.toInt = (wd : Int) ∧ wd ≤ 64) (h : p2 = (0 : Int32)) : own_spec f bit wd (0 : Int64) := by
  intro k hk
  have e : (0 : Int32).toInt = 0 := by decide
  have w : wd = 0 := by have := hwd.1; rw [h, e] at this; omega
  subst w
  show (0#64).getLsbD k = _
  simp
end Read

abbrev own_Q3 (f : Nat → Int32) (bit wd : Nat) (h0 : Heap) (n0 : Nat) (v : Option Value) (h : Heap) (L : List Loc) : Prop := ∃ r : Int64, v = some (.long r) ∧ own_spec f bit wd r ∧ Fr n0 L ∧ h = h0
theorem d2_0 : decode prog_51_method_4_code 0 = .ok (.iload_n 3, 1) := by decide +kernel
theorem d2_1 : decode prog_51_method_4_code 1 = .ok (.ifCond .ne 5, 3) := by decide +kernel
theorem d2_4 : decode prog_51_method_4_code 4 = .ok (.lconst 0, 1) := by decide +kernel
theorem d2_5 : decode prog_51_method_4_code 5 = .ok (.lreturn, 1) := by decide +kernel
theorem d2_6 : decode prog_51_method_4_code 6 = .ok (.lload_n 1, 1) := by decide +kernel
theorem d2_7 : decode prog_51_method_4_code 7 = .ok (.ldc2_w 19, 3) := by decide +kernel
theorem d2_10 : decode prog_51_method_4_code 10 = .ok (.ldiv, 1) := by decide +kernel
theorem d2_11 : decode prog_51_method_4_code 11 = .ok (.l2i, 1) := by decide +kernel
theorem d2_12 : decode prog_51_method_4_code 12 = .ok (.istore 4, 2) := by decide +kernel
theorem d2_14 : decode prog_51_method_4_code 14 = .ok (.lload_n 1, 1) := by decide +kernel
theorem d2_15 : decode prog_51_method_4_code 15 = .ok (.iload_n 3, 1) := by decide +kernel
theorem d2_16 : decode prog_51_method_4_code 16 = .ok (.i2l, 1) := by decide +kernel
theorem d2_17 : decode prog_51_method_4_code 17 = .ok (.ladd, 1) := by decide +kernel
theorem d2_18 : decode prog_51_method_4_code 18 = .ok (.lconst 1, 1) := by decide +kernel
theorem d2_19 : decode prog_51_method_4_code 19 = .ok (.lsub, 1) := by decide +kernel
theorem d2_20 : decode prog_51_method_4_code 20 = .ok (.ldc2_w 19, 3) := by decide +kernel
theorem d2_23 : decode prog_51_method_4_code 23 = .ok (.ldiv, 1) := by decide +kernel
theorem d2_24 : decode prog_51_method_4_code 24 = .ok (.l2i, 1) := by decide +kernel
theorem d2_25 : decode prog_51_method_4_code 25 = .ok (.istore 5, 2) := by decide +kernel
theorem d2_27 : decode prog_51_method_4_code 27 = .ok (.lload_n 1, 1) := by decide +kernel
theorem d2_28 : decode prog_51_method_4_code 28 = .ok (.ldc2_w 19, 3) := by decide +kernel
theorem d2_31 : decode prog_51_method_4_code 31 = .ok (.lrem, 1) := by decide +kernel
theorem d2_32 : decode prog_51_method_4_code 32 = .ok (.l2i, 1) := by decide +kernel
theorem d2_33 : decode prog_51_method_4_code 33 = .ok (.istore 6, 2) := by decide +kernel
theorem d2_35 : decode prog_51_method_4_code 35 = .ok (.aload_n 0, 1) := by decide +kernel
theorem d2_36 : decode prog_51_method_4_code 36 = .ok (.iload 4, 2) := by decide +kernel
theorem d2_38 : decode prog_51_method_4_code 38 = .ok (.baload, 1) := by decide +kernel
theorem d2_39 : decode prog_51_method_4_code 39 = .ok (.sipush 255, 3) := by decide +kernel
theorem d2_42 : decode prog_51_method_4_code 42 = .ok (.iand, 1) := by decide +kernel
theorem d2_43 : decode prog_51_method_4_code 43 = .ok (.iload 6, 2) := by decide +kernel
theorem d2_45 : decode prog_51_method_4_code 45 = .ok (.iushr, 1) := by decide +kernel
theorem d2_46 : decode prog_51_method_4_code 46 = .ok (.i2l, 1) := by decide +kernel
theorem d2_47 : decode prog_51_method_4_code 47 = .ok (.lstore 7, 2) := by decide +kernel
theorem d2_49 : decode prog_51_method_4_code 49 = .ok (.iload 4, 2) := by decide +kernel
theorem d2_51 : decode prog_51_method_4_code 51 = .ok (.iconst 1, 1) := by decide +kernel
theorem d2_52 : decode prog_51_method_4_code 52 = .ok (.iadd, 1) := by decide +kernel
theorem d2_53 : decode prog_51_method_4_code 53 = .ok (.istore 9, 2) := by decide +kernel
theorem d2_55 : decode prog_51_method_4_code 55 = .ok (.iload 9, 2) := by decide +kernel
theorem d2_57 : decode prog_51_method_4_code 57 = .ok (.iload 5, 2) := by decide +kernel
theorem d2_59 : decode prog_51_method_4_code 59 = .ok (.if_icmp .gt 35, 3) := by decide +kernel
theorem d2_62 : decode prog_51_method_4_code 62 = .ok (.lload 7, 2) := by decide +kernel
theorem d2_64 : decode prog_51_method_4_code 64 = .ok (.aload_n 0, 1) := by decide +kernel
theorem d2_65 : decode prog_51_method_4_code 65 = .ok (.iload 9, 2) := by decide +kernel
theorem d2_67 : decode prog_51_method_4_code 67 = .ok (.baload, 1) := by decide +kernel
theorem d2_68 : decode prog_51_method_4_code 68 = .ok (.sipush 255, 3) := by decide +kernel
theorem d2_71 : decode prog_51_method_4_code 71 = .ok (.iand, 1) := by decide +kernel
theorem d2_72 : decode prog_51_method_4_code 72 = .ok (.i2l, 1) := by decide +kernel
theorem d2_73 : decode prog_51_method_4_code 73 = .ok (.bipush 8, 2) := by decide +kernel
theorem d2_75 : decode prog_51_method_4_code 75 = .ok (.iload 9, 2) := by decide +kernel
theorem d2_77 : decode prog_51_method_4_code 77 = .ok (.iload 4, 2) := by decide +kernel
theorem d2_79 : decode prog_51_method_4_code 79 = .ok (.isub, 1) := by decide +kernel
theorem d2_80 : decode prog_51_method_4_code 80 = .ok (.imul, 1) := by decide +kernel
theorem d2_81 : decode prog_51_method_4_code 81 = .ok (.iload 6, 2) := by decide +kernel
theorem d2_83 : decode prog_51_method_4_code 83 = .ok (.isub, 1) := by decide +kernel
theorem d2_84 : decode prog_51_method_4_code 84 = .ok (.lshl, 1) := by decide +kernel
theorem d2_85 : decode prog_51_method_4_code 85 = .ok (.lor, 1) := by decide +kernel
theorem d2_86 : decode prog_51_method_4_code 86 = .ok (.lstore 7, 2) := by decide +kernel
theorem d2_88 : decode prog_51_method_4_code 88 = .ok (.iinc 9 1, 3) := by decide +kernel
theorem d2_91 : decode prog_51_method_4_code 91 = .ok (.goto (-36), 3) := by decide +kernel
theorem d2_94 : decode prog_51_method_4_code 94 = .ok (.iload_n 3, 1) := by decide +kernel
theorem d2_95 : decode prog_51_method_4_code 95 = .ok (.bipush 64, 2) := by decide +kernel
theorem d2_97 : decode prog_51_method_4_code 97 = .ok (.if_icmp .ne 8, 3) := by decide +kernel
theorem d2_100 : decode prog_51_method_4_code 100 = .ok (.lload 7, 2) := by decide +kernel
theorem d2_102 : decode prog_51_method_4_code 102 = .ok (.goto 11, 3) := by decide +kernel
theorem d2_105 : decode prog_51_method_4_code 105 = .ok (.lload 7, 2) := by decide +kernel
theorem d2_107 : decode prog_51_method_4_code 107 = .ok (.lconst 1, 1) := by decide +kernel
theorem d2_108 : decode prog_51_method_4_code 108 = .ok (.iload_n 3, 1) := by decide +kernel
theorem d2_109 : decode prog_51_method_4_code 109 = .ok (.lshl, 1) := by decide +kernel
theorem d2_110 : decode prog_51_method_4_code 110 = .ok (.lconst 1, 1) := by decide +kernel
theorem d2_111 : decode prog_51_method_4_code 111 = .ok (.lsub, 1) := by decide +kernel
theorem d2_112 : decode prog_51_method_4_code 112 = .ok (.land, 1) := by decide +kernel
theorem d2_113 : decode prog_51_method_4_code 113 = .ok (.lreturn, 1) := by decide +kernel
theorem own_ef2 (m : MethodId) (p0 : Addr) (p1 : Int64) (p2 : Int32) : entryFrame m #[(.ref p0), (.long p1), (.int p2)] 10 = mkF m 0 #[.val (.ref p0), .val (.long p1), .second, .val (.int p2), .unset, .unset, .unset, .unset, .unset, .unset] [] := by first | (simp [entryFrame, mkF, argsToLocals, Value.category]; done) | rfl
theorem own_pn2 : plainName "com/example/lakebed/lakebed/core/parquet/LittleEndian" = true := by first | (simp [plainName, overriddenIn]; done) | decide +kernel
set_option maxRecDepth 65536 in
set_option maxHeartbeats 40000000 in
theorem rm2 (l : Launch) (Z : State) (a0 : Array Value) (hw : ∀ d ∈ tables_1, d.before a0 Z = true) (ws : List Jvm.Cond) (p0 : Addr) (p1 : Int64) (p2 : Int32) (f : Nat → Int32) (bit wd : Nat) (h0 : Heap) (n0 : Nat) (V_p0 : own_AI Z h0 p0 .byte 24 f) (hbit : p1.toInt = (bit : Int) ∧ bit ≤ 127) (hwd : p2.toInt = (wd : Int) ∧ wd ≤ 64) :
    MetFree l (⟨"com/example/lakebed/lakebed/core/parquet/LittleEndian", "readBits", "([BJI)J"⟩ : MethodName) (head1 (Jvm.Cond.code (⟨"com/example/lakebed/lakebed/core/parquet/LittleEndian", "readBits", "([BJI)J"⟩ : MethodName) prog_51_method_4_code 10 (some .long) :: ws) ({ frames := 0, cells := 0, slots := 0, locals := 0 } : Room)) (fun a U => a = #[(.ref p0), (.long p1), (.int p2)] ∧ Z.Warmed39 U.vm ∧ U.heap = h0) (fun _ _ _ _ _ => True) (fun _ U o U' => ∃ v L, o = .returned v ∧ own_Q3 f bit wd h0 n0 v U'.heap L ∧ FrameEnd U o U' L ({ frames := 0, cells := 0, slots := 0, locals := 0 } : Room).cells ({ frames := 0, cells := 0, slots := 0, locals := 0 } : Room).slots) := by
  refine own_contract (plainFor_of_name own_pn2) (fun m => own_ef2 m p0 p1 p2) ?_
  intro p e s m below meth c s₁ G hx hby hml0 hown0 hnm hret hZ X0 e0 hp hR
  have hml : c.maxLocals = 10 := hml0
  have hown : s.vm.findClass "com/example/lakebed/lakebed/core/parquet/LittleEndian" = some m.cls := hown0
  have N0 := Fr.nil n0
  show G s₁ (mkF m 0 #[.val (.ref p0), .val (.long p1), .second, .val (.int p2), .unset, .unset, .unset, .unset, .unset, .unset] [])
  have K0 : Keep h0 h0 [] := Keep.refl _ _
  refine hp (fun tq kq => XS.iloadN X0.here hx rfl (hb hby d2_0) rfl kq) ?_
  show G s₁ (mkF m 1 #[.val (.ref p0), .val (.long p1), .second, .val (.int p2), .unset, .unset, .unset, .unset, .unset, .unset] [(.int p2)])
  by_cases hb1 : p2 = (0 : Int32)
  · refine hp (fun tq kq => XS.ifNo X0.here hx rfl (hb hby d2_1) rfl ((if0 _ _).trans (teq hb1).2) kq) ?_
    show G s₁ (mkF m 4 #[.val (.ref p0), .val (.long p1), .second, .val (.int p2), .unset, .unset, .unset, .unset, .unset, .unset] [])
    refine hp (fun tq kq => XS.lconst X0.here hx rfl (hb hby d2_4) kq) ?_
    show G s₁ (mkF m 5 #[.val (.ref p0), .val (.long p1), .second, .val (.int p2), .unset, .unset, .unset, .unset, .unset, .unset] [(.long (0 : Int64))])
    exact hR X0 (fun fs hl => X0.lreturnOut hx hret (hb hby d2_5) hl) (fun q => by rw [hret] at q; cases q) (by rw [e0]; exact ⟨_, rfl, own_zero hwd hb1, N0, rfl⟩) (by decide) (by decide)
  · refine hp (fun tq kq => XS.ifYes X0.here hx rfl (pc0 := 1) (pc' := 6) rfl (hb hby d2_1) rfl ((if0 _ _).trans (feq hb1).2) (by decide) (by decide) kq) ?_
    show G s₁ (mkF m 6 #[.val (.ref p0), .val (.long p1), .second, .val (.int p2), .unset, .unset, .unset, .unset, .unset, .unset] [])
    refine hp (fun tq kq => XS.lloadN X0.here hx rfl (hb hby d2_6) rfl kq) ?_
    show G s₁ (mkF m 7 #[.val (.ref p0), .val (.long p1), .second, .val (.int p2), .unset, .unset, .unset, .unset, .unset, .unset] [(.long p1)])
    refine hp (fun tq kq => X0.ldc2Long hx hown (mvT hZ (hw _ (List.mem_of_getElem? (i := 10) rfl))) (g := (mkF m 7 #[.val (.ref p0), .val (.long p1), .second, .val (.int p2), .unset, .unset, .unset, .unset, .unset, .unset] [(.long p1)])) rfl (hb hby d2_7) _ kq) ?_
    show G s₁ (mkF m 10 #[.val (.ref p0), .val (.long p1), .second, .val (.int p2), .unset, .unset, .unset, .unset, .unset, .unset] [(.long (8 : Int64)), (.long p1)])
    refine hp (fun tq kq => XS.ldiv X0.here hx rfl (hb hby d2_10) rfl (by decide) kq) ?_
    show G s₁ (mkF m 11 #[.val (.ref p0), .val (.long p1), .second, .val (.int p2), .unset, .unset, .unset, .unset, .unset, .unset] [(.long (p1 / (8 : Int64)))])
    refine hp (fun tq kq => XS.l2i X0.here hx rfl (hb hby d2_11) rfl kq) ?_
    show G s₁ (mkF m 12 #[.val (.ref p0), .val (.long p1), .second, .val (.int p2), .unset, .unset, .unset, .unset, .unset, .unset] [(.int (p1 / (8 : Int64)).toInt32)])
    refine hp (fun tq kq => XS.istore X0.here hx rfl (hb hby d2_12) rfl (l' := #[.val (.ref p0), .val (.long p1), .second, .val (.int p2), .val (.int (p1 / (8 : Int64)).toInt32), .unset, .unset, .unset, .unset, .unset]) rfl kq) ?_
    show G s₁ (mkF m 14 #[.val (.ref p0), .val (.long p1), .second, .val (.int p2), .val (.int (p1 / (8 : Int64)).toInt32), .unset, .unset, .unset, .unset, .unset] [])
    refine (?_ : ∀ (z2 : Int32), z2 = (p1 / (8 : Int64)).toInt32 → G s₁ (mkF m 14 #[.val (.ref p0), .val (.long p1), .second, .val (.int p2), .val (.int z2), .unset, .unset, .unset, .unset, .unset] [])) _ rfl
    intro z2 hz2
    refine hp (fun tq kq => XS.lloadN X0.here hx rfl (hb hby d2_14) rfl kq) ?_
    show G s₁ (mkF m 15 #[.val (.ref p0), .val (.long p1), .second, .val (.int p2), .val (.int z2), .unset, .unset, .unset, .unset, .unset] [(.long p1)])
    refine hp (fun tq kq => XS.iloadN X0.here hx rfl (hb hby d2_15) rfl kq) ?_
    show G s₁ (mkF m 16 #[.val (.ref p0), .val (.long p1), .second, .val (.int p2), .val (.int z2), .unset, .unset, .unset, .unset, .unset] [(.int p2), (.long p1)])
    refine hp (fun tq kq => XS.i2l X0.here hx rfl (hb hby d2_16) rfl kq) ?_
    show G s₁ (mkF m 17 #[.val (.ref p0), .val (.long p1), .second, .val (.int p2), .val (.int z2), .unset, .unset, .unset, .unset, .unset] [(.long p2.toInt64), (.long p1)])
    refine hp (fun tq kq => XS.ladd X0.here hx rfl (hb hby d2_17) rfl kq) ?_
    show G s₁ (mkF m 18 #[.val (.ref p0), .val (.long p1), .second, .val (.int p2), .val (.int z2), .unset, .unset, .unset, .unset, .unset] [(.long (p1 + p2.toInt64))])
    refine hp (fun tq kq => XS.lconst X0.here hx rfl (hb hby d2_18) kq) ?_
    show G s₁ (mkF m 19 #[.val (.ref p0), .val (.long p1), .second, .val (.int p2), .val (.int z2), .unset, .unset, .unset, .unset, .unset] [(.long (1 : Int64)), (.long (p1 + p2.toInt64))])
    refine hp (fun tq kq => XS.lsub X0.here hx rfl (hb hby d2_19) rfl kq) ?_
    show G s₁ (mkF m 20 #[.val (.ref p0), .val (.long p1), .second, .val (.int p2), .val (.int z2), .unset, .unset, .unset, .unset, .unset] [(.long ((p1 + p2.toInt64) - (1 : Int64)))])
    refine hp (fun tq kq => X0.ldc2Long hx hown (mvT hZ (hw _ (List.mem_of_getElem? (i := 10) rfl))) (g := (mkF m 20 #[.val (.ref p0), .val (.long p1), .second, .val (.int p2), .val (.int z2), .unset, .unset, .unset, .unset, .unset] [(.long ((p1 + p2.toInt64) - (1 : Int64)))])) rfl (hb hby d2_20) _ kq) ?_
    show G s₁ (mkF m 23 #[.val (.ref p0), .val (.long p1), .second, .val (.int p2), .val (.int z2), .unset, .unset, .unset, .unset, .unset] [(.long (8 : Int64)), (.long ((p1 + p2.toInt64) - (1 : Int64)))])
    refine hp (fun tq kq => XS.ldiv X0.here hx rfl (hb hby d2_23) rfl (by decide) kq) ?_
    show G s₁ (mkF m 24 #[.val (.ref p0), .val (.long p1), .second, .val (.int p2), .val (.int z2), .unset, .unset, .unset, .unset, .unset] [(.long (((p1 + p2.toInt64) - (1 : Int64)) / (8 : Int64)))])
    refine hp (fun tq kq => XS.l2i X0.here hx rfl (hb hby d2_24) rfl kq) ?_
    show G s₁ (mkF m 25 #[.val (.ref p0), .val (.long p1), .second, .val (.int p2), .val (.int z2), .unset, .unset, .unset, .unset, .unset] [(.int (((p1 + p2.toInt64) - (1 : Int64)) / (8 : Int64)).toInt32)])
    refine hp (fun tq kq => XS.istore X0.here hx rfl (hb hby d2_25) rfl (l' := #[.val (.ref p0), .val (.long p1), .second, .val (.int p2), .val (.int z2), .val (.int (((p1 + p2.toInt64) - (1 : Int64)) / (8 : Int64)).toInt32), .unset, .unset, .unset, .unset]) rfl kq) ?_
    show G s₁ (mkF m 27 #[.val (.ref p0), .val (.long p1), .second, .val (.int p2), .val (.int z2), .val (.int (((p1 + p2.toInt64) - (1 : Int64)) / (8 : Int64)).toInt32), .unset, .unset, .unset, .unset] [])
    refine (?_ : ∀ (z3 : Int32), z3 = (((p1 + p2.toInt64) - (1 : Int64)) / (8 : Int64)).toInt32 → G s₁ (mkF m 27 #[.val (.ref p0), .val (.long p1), .second, .val (.int p2), .val (.int z2), .val (.int z3), .unset, .unset, .unset, .unset] [])) _ rfl
    intro z3 hz3
    refine hp (fun tq kq => XS.lloadN X0.here hx rfl (hb hby d2_27) rfl kq) ?_
    show G s₁ (mkF m 28 #[.val (.ref p0), .val (.long p1), .second, .val (.int p2), .val (.int z2), .val (.int z3), .unset, .unset, .unset, .unset] [(.long p1)])
    refine hp (fun tq kq => X0.ldc2Long hx hown (mvT hZ (hw _ (List.mem_of_getElem? (i := 10) rfl))) (g := (mkF m 28 #[.val (.ref p0), .val (.long p1), .second, .val (.int p2), .val (.int z2), .val (.int z3), .unset, .unset, .unset, .unset] [(.long p1)])) rfl (hb hby d2_28) _ kq) ?_
    show G s₁ (mkF m 31 #[.val (.ref p0), .val (.long p1), .second, .val (.int p2), .val (.int z2), .val (.int z3), .unset, .unset, .unset, .unset] [(.long (8 : Int64)), (.long p1)])
    refine hp (fun tq kq => own_lrem X0.here hx rfl (hb hby d2_31) rfl (by decide) kq) ?_
    show G s₁ (mkF m 32 #[.val (.ref p0), .val (.long p1), .second, .val (.int p2), .val (.int z2), .val (.int z3), .unset, .unset, .unset, .unset] [(.long (p1 % (8 : Int64)))])
    refine hp (fun tq kq => XS.l2i X0.here hx rfl (hb hby d2_32) rfl kq) ?_
    show G s₁ (mkF m 33 #[.val (.ref p0), .val (.long p1), .second, .val (.int p2), .val (.int z2), .val (.int z3), .unset, .unset, .unset, .unset] [(.int (p1 % (8 : Int64)).toInt32)])
    refine hp (fun tq kq => XS.istore X0.here hx rfl (hb hby d2_33) rfl (l' := #[.val (.ref p0), .val (.long p1), .second, .val (.int p2), .val (.int z2), .val (.int z3), .val (.int (p1 % (8 : Int64)).toInt32), .unset, .unset, .unset]) rfl kq) ?_
    show G s₁ (mkF m 35 #[.val (.ref p0), .val (.long p1), .second, .val (.int p2), .val (.int z2), .val (.int z3), .val (.int (p1 % (8 : Int64)).toInt32), .unset, .unset, .unset] [])
    refine (?_ : ∀ (z4 : Int32), z4 = (p1 % (8 : Int64)).toInt32 → G s₁ (mkF m 35 #[.val (.ref p0), .val (.long p1), .second, .val (.int p2), .val (.int z2), .val (.int z3), .val (.int z4), .unset, .unset, .unset] [])) _ rfl
    intro z4 hz4
    refine hp (fun tq kq => XS.aloadN X0.here hx rfl (hb hby d2_35) rfl rfl kq) ?_
    show G s₁ (mkF m 36 #[.val (.ref p0), .val (.long p1), .second, .val (.int p2), .val (.int z2), .val (.int z3), .val (.int z4), .unset, .unset, .unset] [(.ref p0)])
    refine hp (fun tq kq => XS.iload X0.here hx rfl (hb hby d2_36) rfl kq) ?_
    show G s₁ (mkF m 38 #[.val (.ref p0), .val (.long p1), .second, .val (.int p2), .val (.int z2), .val (.int z3), .val (.int z4), .unset, .unset, .unset] [(.int z2), (.ref p0)])
    have h1 := own_first hz2 hbit
    have h2 := own_last hz3 hbit hwd (own_wpos hwd hb1)
    have h3 := own_shift hz4 hbit
    refine hp (own_ldB X0 hx hZ e0 V_p0 (j := z2) (bit / 8) (own_idx h1 (by omega)).1 (own_idx h1 (by omega)).2.1 (own_idx h1 (by omega)).2.2 (g := (mkF m 38 #[.val (.ref p0), .val (.long p1), .second, .val (.int p2), .val (.int z2), .val (.int z3), .val (.int z4), .unset, .unset, .unset] [(.int z2), (.ref p0)])) rfl rfl (hb hby d2_38)) ?_
    show G s₁ (mkF m 39 #[.val (.ref p0), .val (.long p1), .second, .val (.int p2), .val (.int z2), .val (.int z3), .val (.int z4), .unset, .unset, .unset] [(.int (f (bit / 8)))])
    refine hp (fun tq kq => XS.sipush X0.here hx rfl (hb hby d2_39) kq) ?_
    show G s₁ (mkF m 42 #[.val (.ref p0), .val (.long p1), .second, .val (.int p2), .val (.int z2), .val (.int z3), .val (.int z4), .unset, .unset, .unset] [(.int (255 : Int32)), (.int (f (bit / 8)))])
    refine hp (fun tq kq => XS.iand X0.here hx rfl (hb hby d2_42) rfl kq) ?_
    show G s₁ (mkF m 43 #[.val (.ref p0), .val (.long p1), .second, .val (.int p2), .val (.int z2), .val (.int z3), .val (.int z4), .unset, .unset, .unset] [(.int ((f (bit / 8)) &&& (255 : Int32)))])
    refine hp (fun tq kq => XS.iload X0.here hx rfl (hb hby d2_43) rfl kq) ?_
    show G s₁ (mkF m 45 #[.val (.ref p0), .val (.long p1), .second, .val (.int p2), .val (.int z2), .val (.int z3), .val (.int z4), .unset, .unset, .unset] [(.int z4), (.int ((f (bit / 8)) &&& (255 : Int32)))])
    refine hp (fun tq kq => XS.iushr X0.here hx rfl (hb hby d2_45) rfl kq) ?_
    show G s₁ (mkF m 46 #[.val (.ref p0), .val (.long p1), .second, .val (.int p2), .val (.int z2), .val (.int z3), .val (.int z4), .unset, .unset, .unset] [(.int ((((f (bit / 8)) &&& (255 : Int32)).toUInt32 >>> (z4 &&& 31).toUInt32).toInt32))])
    refine hp (fun tq kq => XS.i2l X0.here hx rfl (hb hby d2_46) rfl kq) ?_
    show G s₁ (mkF m 47 #[.val (.ref p0), .val (.long p1), .second, .val (.int p2), .val (.int z2), .val (.int z3), .val (.int z4), .unset, .unset, .unset] [(.long ((((f (bit / 8)) &&& (255 : Int32)).toUInt32 >>> (z4 &&& 31).toUInt32).toInt32).toInt64)])
    refine hp (fun tq kq => XS.lstore X0.here hx rfl (hb hby d2_47) rfl (l' := #[.val (.ref p0), .val (.long p1), .second, .val (.int p2), .val (.int z2), .val (.int z3), .val (.int z4), .val (.long ((((f (bit / 8)) &&& (255 : Int32)).toUInt32 >>> (z4 &&& 31).toUInt32).toInt32).toInt64), .second, .unset]) rfl kq) ?_
    show G s₁ (mkF m 49 #[.val (.ref p0), .val (.long p1), .second, .val (.int p2), .val (.int z2), .val (.int z3), .val (.int z4), .val (.long ((((f (bit / 8)) &&& (255 : Int32)).toUInt32 >>> (z4 &&& 31).toUInt32).toInt32).toInt64), .second, .unset] [])
    refine (?_ : ∀ (z5 : Int64), z5 = ((((f (bit / 8)) &&& (255 : Int32)).toUInt32 >>> (z4 &&& 31).toUInt32).toInt32).toInt64 → G s₁ (mkF m 49 #[.val (.ref p0), .val (.long p1), .second, .val (.int p2), .val (.int z2), .val (.int z3), .val (.int z4), .val (.long z5), .second, .unset] [])) _ rfl
    intro z5 hz5
    refine hp (fun tq kq => XS.iload X0.here hx rfl (hb hby d2_49) rfl kq) ?_
    show G s₁ (mkF m 51 #[.val (.ref p0), .val (.long p1), .second, .val (.int p2), .val (.int z2), .val (.int z3), .val (.int z4), .val (.long z5), .second, .unset] [(.int z2)])
    refine hp (fun tq kq => XS.iconst X0.here hx rfl (hb hby d2_51) kq) ?_
    show G s₁ (mkF m 52 #[.val (.ref p0), .val (.long p1), .second, .val (.int p2), .val (.int z2), .val (.int z3), .val (.int z4), .val (.long z5), .second, .unset] [(.int (1 : Int32)), (.int z2)])
    refine hp (fun tq kq => XS.iadd X0.here hx rfl (hb hby d2_52) rfl kq) ?_
    show G s₁ (mkF m 53 #[.val (.ref p0), .val (.long p1), .second, .val (.int p2), .val (.int z2), .val (.int z3), .val (.int z4), .val (.long z5), .second, .unset] [(.int (z2 + (1 : Int32)))])
    refine hp (fun tq kq => XS.istore X0.here hx rfl (hb hby d2_53) rfl (l' := #[.val (.ref p0), .val (.long p1), .second, .val (.int p2), .val (.int z2), .val (.int z3), .val (.int z4), .val (.long z5), .second, .val (.int (z2 + (1 : Int32)))]) rfl kq) ?_
    show G s₁ (mkF m 55 #[.val (.ref p0), .val (.long p1), .second, .val (.int p2), .val (.int z2), .val (.int z3), .val (.int z4), .val (.long z5), .second, .val (.int (z2 + (1 : Int32)))] [])
    refine (?_ : ∀ (z6 : Int32), z6 = (z2 + (1 : Int32)) → G s₁ (mkF m 55 #[.val (.ref p0), .val (.long p1), .second, .val (.int p2), .val (.int z2), .val (.int z3), .val (.int z4), .val (.long z5), .second, .val (.int z6)] [])) _ rfl
    intro z6 hz6
    have loop : ∀ (d t : Nat) (val : Int64) (iv : Int32), own_inv f bit wd t d val iv → G s₁ (mkF m 55 #[.val (.ref p0), .val (.long p1), .second, .val (.int p2), .val (.int z2), .val (.int z3), .val (.int z4), .val (.long val), .second, .val (.int iv)] []) := by
      intro d
      induction d with
      | zero =>
        intro t val iv hI
        show G s₁ (mkF m 55 #[.val (.ref p0), .val (.long p1), .second, .val (.int p2), .val (.int z2), .val (.int z3), .val (.int z4), .val (.long val), .second, .val (.int iv)] [])
        refine hp (fun tq kq => XS.iload X0.here hx rfl (hb hby d2_55) rfl kq) ?_
        show G s₁ (mkF m 57 #[.val (.ref p0), .val (.long p1), .second, .val (.int p2), .val (.int z2), .val (.int z3), .val (.int z4), .val (.long val), .second, .val (.int iv)] [(.int iv)])
        refine hp (fun tq kq => XS.iload X0.here hx rfl (hb hby d2_57) rfl kq) ?_
        show G s₁ (mkF m 59 #[.val (.ref p0), .val (.long p1), .second, .val (.int p2), .val (.int z2), .val (.int z3), .val (.int z4), .val (.long val), .second, .val (.int iv)] [(.int z3), (.int iv)])
        refine hp (fun tq kq => XS.icmpYes X0.here hx rfl (pc0 := 59) (pc' := 94) rfl (hb hby d2_59) rfl (tlt (own_leave h2 (own_wpos hwd hb1) hI)).2.2.1 (by decide) (by decide) kq) ?_
        show G s₁ (mkF m 94 #[.val (.ref p0), .val (.long p1), .second, .val (.int p2), .val (.int z2), .val (.int z3), .val (.int z4), .val (.long val), .second, .val (.int iv)] [])
        refine hp (fun tq kq => XS.iloadN X0.here hx rfl (hb hby d2_94) rfl kq) ?_
        show G s₁ (mkF m 95 #[.val (.ref p0), .val (.long p1), .second, .val (.int p2), .val (.int z2), .val (.int z3), .val (.int z4), .val (.long val), .second, .val (.int iv)] [(.int p2)])
        refine hp (fun tq kq => XS.bipush X0.here hx rfl (hb hby d2_95) kq) ?_
        show G s₁ (mkF m 97 #[.val (.ref p0), .val (.long p1), .second, .val (.int p2), .val (.int z2), .val (.int z3), .val (.int z4), .val (.long val), .second, .val (.int iv)] [(.int (64 : Int32)), (.int p2)])
        by_cases hb7 : p2 = (64 : Int32)
        · refine hp (fun tq kq => XS.icmpNo X0.here hx rfl (hb hby d2_97) rfl (teq hb7).2 kq) ?_
          show G s₁ (mkF m 100 #[.val (.ref p0), .val (.long p1), .second, .val (.int p2), .val (.int z2), .val (.int z3), .val (.int z4), .val (.long val), .second, .val (.int iv)] [])
          refine hp (fun tq kq => XS.lload X0.here hx rfl (hb hby d2_100) rfl kq) ?_
          show G s₁ (mkF m 102 #[.val (.ref p0), .val (.long p1), .second, .val (.int p2), .val (.int z2), .val (.int z3), .val (.int z4), .val (.long val), .second, .val (.int iv)] [(.long val)])
          refine hp (fun tq kq => XS.goto X0.here hx rfl (pc0 := 102) (pc' := 113) rfl (hb hby d2_102) (by decide) (by decide) kq) ?_
          show G s₁ (mkF m 113 #[.val (.ref p0), .val (.long p1), .second, .val (.int p2), .val (.int z2), .val (.int z3), .val (.int z4), .val (.long val), .second, .val (.int iv)] [(.long val)])
          exact hR X0 (fun fs hl => X0.lreturnOut hx hret (hb hby d2_113) hl) (fun q => by rw [hret] at q; cases q) (by rw [e0]; exact ⟨_, rfl, own_done64 hwd hI hb7, N0, rfl⟩) (by decide) (by decide)
        · refine hp (fun tq kq => XS.icmpYes X0.here hx rfl (pc0 := 97) (pc' := 105) rfl (hb hby d2_97) rfl (feq hb7).2 (by decide) (by decide) kq) ?_
          show G s₁ (mkF m 105 #[.val (.ref p0), .val (.long p1), .second, .val (.int p2), .val (.int z2), .val (.int z3), .val (.int z4), .val (.long val), .second, .val (.int iv)] [])
          refine hp (fun tq kq => XS.lload X0.here hx rfl (hb hby d2_105) rfl kq) ?_
          show G s₁ (mkF m 107 #[.val (.ref p0), .val (.long p1), .second, .val (.int p2), .val (.int z2), .val (.int z3), .val (.int z4), .val (.long val), .second, .val (.int iv)] [(.long val)])
          refine hp (fun tq kq => XS.lconst X0.here hx rfl (hb hby d2_107) kq) ?_
          show G s₁ (mkF m 108 #[.val (.ref p0), .val (.long p1), .second, .val (.int p2), .val (.int z2), .val (.int z3), .val (.int z4), .val (.long val), .second, .val (.int iv)] [(.long (1 : Int64)), (.long val)])
          refine hp (fun tq kq => XS.iloadN X0.here hx rfl (hb hby d2_108) rfl kq) ?_
          show G s₁ (mkF m 109 #[.val (.ref p0), .val (.long p1), .second, .val (.int p2), .val (.int z2), .val (.int z3), .val (.int z4), .val (.long val), .second, .val (.int iv)] [(.int p2), (.long (1 : Int64)), (.long val)])
          refine hp (fun tq kq => XS.lshl X0.here hx rfl (hb hby d2_109) rfl kq) ?_
          show G s₁ (mkF m 110 #[.val (.ref p0), .val (.long p1), .second, .val (.int p2), .val (.int z2), .val (.int z3), .val (.int z4), .val (.long val), .second, .val (.int iv)] [(.long ((1 : Int64) <<< (p2 &&& 0x3f).toInt64)), (.long val)])
          refine hp (fun tq kq => XS.lconst X0.here hx rfl (hb hby d2_110) kq) ?_
          show G s₁ (mkF m 111 #[.val (.ref p0), .val (.long p1), .second, .val (.int p2), .val (.int z2), .val (.int z3), .val (.int z4), .val (.long val), .second, .val (.int iv)] [(.long (1 : Int64)), (.long ((1 : Int64) <<< (p2 &&& 0x3f).toInt64)), (.long val)])
          refine hp (fun tq kq => XS.lsub X0.here hx rfl (hb hby d2_111) rfl kq) ?_
          show G s₁ (mkF m 112 #[.val (.ref p0), .val (.long p1), .second, .val (.int p2), .val (.int z2), .val (.int z3), .val (.int z4), .val (.long val), .second, .val (.int iv)] [(.long (((1 : Int64) <<< (p2 &&& 0x3f).toInt64) - (1 : Int64))), (.long val)])
          refine hp (fun tq kq => XS.land X0.here hx rfl (hb hby d2_112) rfl kq) ?_
          show G s₁ (mkF m 113 #[.val (.ref p0), .val (.long p1), .second, .val (.int p2), .val (.int z2), .val (.int z3), .val (.int z4), .val (.long val), .second, .val (.int iv)] [(.long (val &&& (((1 : Int64) <<< (p2 &&& 0x3f).toInt64) - (1 : Int64))))])
          exact hR X0 (fun fs hl => X0.lreturnOut hx hret (hb hby d2_113) hl) (fun q => by rw [hret] at q; cases q) (by rw [e0]; exact ⟨_, rfl, own_done hwd hI hb7 (own_wpos hwd hb1), N0, rfl⟩) (by decide) (by decide)
      | succ d ih =>
        intro t val iv hI
        show G s₁ (mkF m 55 #[.val (.ref p0), .val (.long p1), .second, .val (.int p2), .val (.int z2), .val (.int z3), .val (.int z4), .val (.long val), .second, .val (.int iv)] [])
        refine hp (fun tq kq => XS.iload X0.here hx rfl (hb hby d2_55) rfl kq) ?_
        show G s₁ (mkF m 57 #[.val (.ref p0), .val (.long p1), .second, .val (.int p2), .val (.int z2), .val (.int z3), .val (.int z4), .val (.long val), .second, .val (.int iv)] [(.int iv)])
        refine hp (fun tq kq => XS.iload X0.here hx rfl (hb hby d2_57) rfl kq) ?_
        show G s₁ (mkF m 59 #[.val (.ref p0), .val (.long p1), .second, .val (.int p2), .val (.int z2), .val (.int z3), .val (.int z4), .val (.long val), .second, .val (.int iv)] [(.int z3), (.int iv)])
        refine hp (fun tq kq => XS.icmpNo X0.here hx rfl (hb hby d2_59) rfl (flt (own_stay h2 hI)).2.2.1 kq) ?_
        show G s₁ (mkF m 62 #[.val (.ref p0), .val (.long p1), .second, .val (.int p2), .val (.int z2), .val (.int z3), .val (.int z4), .val (.long val), .second, .val (.int iv)] [])
        refine hp (fun tq kq => XS.lload X0.here hx rfl (hb hby d2_62) rfl kq) ?_
        show G s₁ (mkF m 64 #[.val (.ref p0), .val (.long p1), .second, .val (.int p2), .val (.int z2), .val (.int z3), .val (.int z4), .val (.long val), .second, .val (.int iv)] [(.long val)])
        refine hp (fun tq kq => XS.aloadN X0.here hx rfl (hb hby d2_64) rfl rfl kq) ?_
        show G s₁ (mkF m 65 #[.val (.ref p0), .val (.long p1), .second, .val (.int p2), .val (.int z2), .val (.int z3), .val (.int z4), .val (.long val), .second, .val (.int iv)] [(.ref p0), (.long val)])
        refine hp (fun tq kq => XS.iload X0.here hx rfl (hb hby d2_65) rfl kq) ?_
        show G s₁ (mkF m 67 #[.val (.ref p0), .val (.long p1), .second, .val (.int p2), .val (.int z2), .val (.int z3), .val (.int z4), .val (.long val), .second, .val (.int iv)] [(.int iv), (.ref p0), (.long val)])
        refine hp (own_ldB X0 hx hZ e0 V_p0 (j := iv) (bit / 8 + t + 1) (own_nextix hbit.2 hwd.2 hI).1 (own_nextix hbit.2 hwd.2 hI).2.1 (own_nextix hbit.2 hwd.2 hI).2.2 (g := (mkF m 67 #[.val (.ref p0), .val (.long p1), .second, .val (.int p2), .val (.int z2), .val (.int z3), .val (.int z4), .val (.long val), .second, .val (.int iv)] [(.int iv), (.ref p0), (.long val)])) rfl rfl (hb hby d2_67)) ?_
        show G s₁ (mkF m 68 #[.val (.ref p0), .val (.long p1), .second, .val (.int p2), .val (.int z2), .val (.int z3), .val (.int z4), .val (.long val), .second, .val (.int iv)] [(.int (f (bit / 8 + t + 1))), (.long val)])
        refine hp (fun tq kq => XS.sipush X0.here hx rfl (hb hby d2_68) kq) ?_
        show G s₁ (mkF m 71 #[.val (.ref p0), .val (.long p1), .second, .val (.int p2), .val (.int z2), .val (.int z3), .val (.int z4), .val (.long val), .second, .val (.int iv)] [(.int (255 : Int32)), (.int (f (bit / 8 + t + 1))), (.long val)])
        refine hp (fun tq kq => XS.iand X0.here hx rfl (hb hby d2_71) rfl kq) ?_
        show G s₁ (mkF m 72 #[.val (.ref p0), .val (.long p1), .second, .val (.int p2), .val (.int z2), .val (.int z3), .val (.int z4), .val (.long val), .second, .val (.int iv)] [(.int ((f (bit / 8 + t + 1)) &&& (255 : Int32))), (.long val)])
        refine hp (fun tq kq => XS.i2l X0.here hx rfl (hb hby d2_72) rfl kq) ?_
        show G s₁ (mkF m 73 #[.val (.ref p0), .val (.long p1), .second, .val (.int p2), .val (.int z2), .val (.int z3), .val (.int z4), .val (.long val), .second, .val (.int iv)] [(.long ((f (bit / 8 + t + 1)) &&& (255 : Int32)).toInt64), (.long val)])
        refine hp (fun tq kq => XS.bipush X0.here hx rfl (hb hby d2_73) kq) ?_
        show G s₁ (mkF m 75 #[.val (.ref p0), .val (.long p1), .second, .val (.int p2), .val (.int z2), .val (.int z3), .val (.int z4), .val (.long val), .second, .val (.int iv)] [(.int (8 : Int32)), (.long ((f (bit / 8 + t + 1)) &&& (255 : Int32)).toInt64), (.long val)])
        refine hp (fun tq kq => XS.iload X0.here hx rfl (hb hby d2_75) rfl kq) ?_
        show G s₁ (mkF m 77 #[.val (.ref p0), .val (.long p1), .second, .val (.int p2), .val (.int z2), .val (.int z3), .val (.int z4), .val (.long val), .second, .val (.int iv)] [(.int iv), (.int (8 : Int32)), (.long ((f (bit / 8 + t + 1)) &&& (255 : Int32)).toInt64), (.long val)])
        refine hp (fun tq kq => XS.iload X0.here hx rfl (hb hby d2_77) rfl kq) ?_
        show G s₁ (mkF m 79 #[.val (.ref p0), .val (.long p1), .second, .val (.int p2), .val (.int z2), .val (.int z3), .val (.int z4), .val (.long val), .second, .val (.int iv)] [(.int z2), (.int iv), (.int (8 : Int32)), (.long ((f (bit / 8 + t + 1)) &&& (255 : Int32)).toInt64), (.long val)])
        refine hp (fun tq kq => XS.isub X0.here hx rfl (hb hby d2_79) rfl kq) ?_
        show G s₁ (mkF m 80 #[.val (.ref p0), .val (.long p1), .second, .val (.int p2), .val (.int z2), .val (.int z3), .val (.int z4), .val (.long val), .second, .val (.int iv)] [(.int (iv - z2)), (.int (8 : Int32)), (.long ((f (bit / 8 + t + 1)) &&& (255 : Int32)).toInt64), (.long val)])
        refine hp (fun tq kq => XS.imul X0.here hx rfl (hb hby d2_80) rfl kq) ?_
        show G s₁ (mkF m 81 #[.val (.ref p0), .val (.long p1), .second, .val (.int p2), .val (.int z2), .val (.int z3), .val (.int z4), .val (.long val), .second, .val (.int iv)] [(.int ((8 : Int32) * (iv - z2))), (.long ((f (bit / 8 + t + 1)) &&& (255 : Int32)).toInt64), (.long val)])
        refine hp (fun tq kq => XS.iload X0.here hx rfl (hb hby d2_81) rfl kq) ?_
        show G s₁ (mkF m 83 #[.val (.ref p0), .val (.long p1), .second, .val (.int p2), .val (.int z2), .val (.int z3), .val (.int z4), .val (.long val), .second, .val (.int iv)] [(.int z4), (.int ((8 : Int32) * (iv - z2))), (.long ((f (bit / 8 + t + 1)) &&& (255 : Int32)).toInt64), (.long val)])
        refine hp (fun tq kq => XS.isub X0.here hx rfl (hb hby d2_83) rfl kq) ?_
        show G s₁ (mkF m 84 #[.val (.ref p0), .val (.long p1), .second, .val (.int p2), .val (.int z2), .val (.int z3), .val (.int z4), .val (.long val), .second, .val (.int iv)] [(.int (((8 : Int32) * (iv - z2)) - z4)), (.long ((f (bit / 8 + t + 1)) &&& (255 : Int32)).toInt64), (.long val)])
        refine hp (fun tq kq => XS.lshl X0.here hx rfl (hb hby d2_84) rfl kq) ?_
        show G s₁ (mkF m 85 #[.val (.ref p0), .val (.long p1), .second, .val (.int p2), .val (.int z2), .val (.int z3), .val (.int z4), .val (.long val), .second, .val (.int iv)] [(.long (((f (bit / 8 + t + 1)) &&& (255 : Int32)).toInt64 <<< ((((8 : Int32) * (iv - z2)) - z4) &&& 0x3f).toInt64)), (.long val)])
        refine hp (fun tq kq => XS.lor X0.here hx rfl (hb hby d2_85) rfl kq) ?_
        show G s₁ (mkF m 86 #[.val (.ref p0), .val (.long p1), .second, .val (.int p2), .val (.int z2), .val (.int z3), .val (.int z4), .val (.long val), .second, .val (.int iv)] [(.long (val ||| (((f (bit / 8 + t + 1)) &&& (255 : Int32)).toInt64 <<< ((((8 : Int32) * (iv - z2)) - z4) &&& 0x3f).toInt64)))])
        refine hp (fun tq kq => XS.lstore X0.here hx rfl (hb hby d2_86) rfl (l' := #[.val (.ref p0), .val (.long p1), .second, .val (.int p2), .val (.int z2), .val (.int z3), .val (.int z4), .val (.long (val ||| (((f (bit / 8 + t + 1)) &&& (255 : Int32)).toInt64 <<< ((((8 : Int32) * (iv - z2)) - z4) &&& 0x3f).toInt64))), .second, .val (.int iv)]) rfl kq) ?_
        show G s₁ (mkF m 88 #[.val (.ref p0), .val (.long p1), .second, .val (.int p2), .val (.int z2), .val (.int z3), .val (.int z4), .val (.long (val ||| (((f (bit / 8 + t + 1)) &&& (255 : Int32)).toInt64 <<< ((((8 : Int32) * (iv - z2)) - z4) &&& 0x3f).toInt64))), .second, .val (.int iv)] [])
        refine hp (fun tq kq => XS.iinc X0.here hx rfl (hb hby d2_88) rfl (l' := #[.val (.ref p0), .val (.long p1), .second, .val (.int p2), .val (.int z2), .val (.int z3), .val (.int z4), .val (.long (val ||| (((f (bit / 8 + t + 1)) &&& (255 : Int32)).toInt64 <<< ((((8 : Int32) * (iv - z2)) - z4) &&& 0x3f).toInt64))), .second, .val (.int (iv + (1 : Int32)))]) rfl kq) ?_
        show G s₁ (mkF m 91 #[.val (.ref p0), .val (.long p1), .second, .val (.int p2), .val (.int z2), .val (.int z3), .val (.int z4), .val (.long (val ||| (((f (bit / 8 + t + 1)) &&& (255 : Int32)).toInt64 <<< ((((8 : Int32) * (iv - z2)) - z4) &&& 0x3f).toInt64))), .second, .val (.int (iv + (1 : Int32)))] [])
        refine hp (fun tq kq => XS.goto X0.here hx rfl (pc0 := 91) (pc' := 55) rfl (hb hby d2_91) (by decide) (by decide) kq) ?_
        show G s₁ (mkF m 55 #[.val (.ref p0), .val (.long p1), .second, .val (.int p2), .val (.int z2), .val (.int z3), .val (.int z4), .val (.long (val ||| (((f (bit / 8 + t + 1)) &&& (255 : Int32)).toInt64 <<< ((((8 : Int32) * (iv - z2)) - z4) &&& 0x3f).toInt64))), .second, .val (.int (iv + (1 : Int32)))] [])
        exact ih (t + 1) _ _ (own_turn h1 h3 hbit.2 hwd.2 hI)
    exact loop ((bit + wd - 1) / 8 - bit / 8) 0 _ _ (own_begin h1 h3 hbit.2 hz5 hz6)
theorem own_bit {p3 z5 : Int32} (hz : z5 = (p3 &&& (127 : Int32))) : ∃ bit : Nat, (z5.toInt = (bit : Int) ∧ bit ≤ 127) ∧ (z5.toInt64.toInt = (bit : Int) ∧ bit ≤ 127) := by
  have h := c_mask p3 127 7 (by decide) (by decide)
  have i := c_i2l z5
  rw [← hz] at h
  exact ⟨z5.toInt.toNat, by omega, by omega⟩
theorem own_width {p4 z6 : Int32} (hz : z6 = ((p4 &&& (2147483647 : Int32)) % (65 : Int32))) : ∃ wd : Nat, z6.toInt = (wd : Int) ∧ wd ≤ 64 := by
  have h := c_mask p4 2147483647 31 (by decide) (by decide)
  have h2 := (c_irem (p4 &&& 2147483647) 65 65 (by decide)).1 (by omega)
  rw [← hz] at h2
  exact ⟨z6.toInt.toNat, by omega, by omega⟩
theorem own_put_out (f : Nat → Int32) (s0 : Nat) (v : Int64) (k : Nat) (h : k < s0 ∨ s0 + 8 ≤ k) : own_put f s0 v k = f k := by
  have g : ∀ i, i ≤ 7 → ¬ k = s0 + i := fun i hi => by omega
  have g0 : ¬ k = s0 := by omega
  simp only [own_put, own_up, g0, g 1 (by decide), g 2 (by decide), g 3 (by decide), g 4 (by decide), g 5 (by decide), g 6 (by decide), g 7 (by decide), if_false]
theorem own_cut (x : Int64) (i : Nat) (hi : i < 8) : (x.toInt32.toInt8.toInt32.toInt8.toInt32).toBitVec.getLsbD i = x.toBitVec.getLsbD i := by
  show ((((((x.toBitVec.signExtend 32).signExtend 8).signExtend 32).signExtend 8).signExtend 32).getLsbD i) = _
  simp only [BitVec.getLsbD_signExtend]
  have h1 : i < 32 := by omega
  have h2 : i < 64 := by omega
  simp [hi, h1, h2]
theorem own_put_in (f : Nat → Int32) (s0 : Nat) (v : Int64) (j i : Nat) (h : j < 8) (hi : i < 8) : (own_put f s0 v (s0 + j)).toBitVec.getLsbD i = v.toBitVec.getLsbD (8 * j + i) := by
  have g : ∀ i, i ≤ 7 → (s0 + j = s0 + i ↔ j = i) := fun i hi => by omega
  have g0 : s0 + j = s0 ↔ j = 0 := by omega
  simp only [own_put, own_up, g0, g 1 (by decide), g 2 (by decide), g 3 (by decide), g 4 (by decide), g 5 (by decide), g 6 (by decide), g 7 (by decide)]
  rcases (by omega : j = 0 ∨ j = 1 ∨ j = 2 ∨ j = 3 ∨ j = 4 ∨ j = 5 ∨ j = 6 ∨ j = 7) with e | e | e | e | e | e | e | e <;> subst e
  · rw [if_neg (by decide), if_neg (by decide), if_neg (by decide), if_neg (by decide), if_neg (by decide), if_neg (by decide), if_neg (by decide), if_pos rfl, own_cut _ _ hi]; congr 1; omega
  · rw [if_neg (by decide), if_neg (by decide), if_neg (by decide), if_neg (by decide), if_neg (by decide), if_neg (by decide), if_pos rfl, own_cut _ _ hi, own_ushr_bv v 8 8 (by decide), BitVec.getLsbD_ushiftRight]
  · rw [if_neg (by decide), if_neg (by decide), if_neg (by decide), if_neg (by decide), if_neg (by decide), if_pos rfl, own_cut _ _ hi, own_ushr_bv v 16 16 (by decide), BitVec.getLsbD_ushiftRight]
  · rw [if_neg (by decide), if_neg (by decide), if_neg (by decide), if_neg (by decide), if_pos rfl, own_cut _ _ hi, own_ushr_bv v 24 24 (by decide), BitVec.getLsbD_ushiftRight]
  · rw [if_neg (by decide), if_neg (by decide), if_neg (by decide), if_pos rfl, own_cut _ _ hi, own_ushr_bv v 32 32 (by decide), BitVec.getLsbD_ushiftRight]
  · rw [if_neg (by decide), if_neg (by decide), if_pos rfl, own_cut _ _ hi, own_ushr_bv v 40 40 (by decide), BitVec.getLsbD_ushiftRight]
  · rw [if_neg (by decide), if_pos rfl, own_cut _ _ hi, own_ushr_bv v 48 48 (by decide), BitVec.getLsbD_ushiftRight]
  · rw [if_pos rfl, own_cut _ _ hi, own_ushr_bv v 56 56 (by decide), BitVec.getLsbD_ushiftRight]
theorem own_bytes (f : Nat → Int32) (a b c : Int64) (q : Nat) (hq : q < 192) : own_B (own_put (own_put (own_put f 0 a) 8 b) 16 c) q = (if q < 64 then a.toBitVec.getLsbD q else if q < 128 then b.toBitVec.getLsbD (q - 64) else c.toBitVec.getLsbD (q - 128)) := by
  unfold own_B
  by_cases h1 : q < 64
  · rw [if_pos h1, own_put_out _ _ _ _ (by omega), own_put_out _ _ _ _ (by omega)]
    have := own_put_in f 0 a (q / 8) (q % 8) (by omega) (by omega)
    rw [Nat.zero_add] at this
    rw [this]; congr 1; omega
  · by_cases h2 : q < 128
    · rw [if_neg h1, if_pos h2, own_put_out _ _ _ _ (by omega)]
      have := own_put_in (own_put f 0 a) 8 b (q / 8 - 8) (q % 8) (by omega) (by omega)
      rw [show 8 + (q / 8 - 8) = q / 8 by omega] at this
      rw [this, show 8 * (q / 8 - 8) + q % 8 = q - 64 by omega]
    · rw [if_neg h1, if_neg h2]
      have := own_put_in (own_put (own_put f 0 a) 8 b) 16 c (q / 8 - 16) (q % 8) (by omega) (by omega)
      rw [show 16 + (q / 8 - 16) = q / 8 by omega] at this
      rw [this, show 8 * (q / 8 - 16) + q % 8 = q - 128 by omega]
theorem own_two (lo hi : Int64) (z10 : Int32) (s : Nat) (hs : z10.toInt = (s : Int) ∧ s ≤ 63) (k : Nat) (hk : k < 64) : (if z10 = (0 : Int32) then lo else (((lo.toUInt64 >>> (z10 &&& 0x3f).toInt64.toUInt64).toInt64) ||| (hi <<< (((64 : Int32) - z10) &&& 0x3f).toInt64))).toBitVec.getLsbD k = (if s + k < 64 then lo.toBitVec.getLsbD (s + k) else hi.toBitVec.getLsbD (s + k - 64)) := by
  have e0 : (0 : Int32).toInt = 0 := by decide
  by_cases h : z10 = 0
  · have : s = 0 := by have := hs.1; rw [h, e0] at this; omega
    subst this
    rw [if_pos h, Nat.zero_add, if_pos hk]
  · have s0 : s ≠ 0 := fun q => h (Int32.toInt_inj.mp (by rw [hs.1, e0, q]; rfl))
    rw [if_neg h, Int64.toBitVec_or, own_ushr_bv _ _ _ (own_nat64 hs.1 (by omega))]
    have q : ((64 : Int32) - z10).toInt = ((64 - s : Nat) : Int) := by
      have x := c_isub 64 z10
      have e : (64 : Int32).toInt = 64 := by decide
      have r := rng32 (64 - z10)
      rw [e, hs.1] at x
      generalize (64 - z10).toInt = y at *
      omega
    rw [own_shl_bv _ _ _ (own_nat64 q (by omega)), BitVec.getLsbD_or, BitVec.getLsbD_ushiftRight, BitVec.getLsbD_shiftLeft]
    by_cases g : s + k < 64
    · have g2 : k < 64 - s := by omega
      rw [if_pos g]; simp [g2]
    · have g2 : ¬ k < 64 - s := by omega
      rw [if_neg g, BitVec.getLsbD_of_ge _ _ (show 64 ≤ s + k by omega)]
      have e : k - (64 - s) = s + k - 64 := by omega
      simp [g2, e, hk]
theorem own_law {p0 p1 p2 rv z8 z9 z12 z14 : Int64} {p3 p4 z5 z6 z10 : Int32} {bit wd : Nat} {f : Nat → Int32} (hb : z5.toInt = (bit : Int) ∧ bit ≤ 127) (hwd : z6.toInt = (wd : Int) ∧ wd ≤ 64)
    (hr : own_spec (own_put (own_put (own_put f 0 p0) 8 p1) 16 p2) bit wd rv) (_ : z5 = (p3 &&& (127 : Int32))) (_ : z6 = ((p4 &&& (2147483647 : Int32)) % (65 : Int32)))
    (h8 : z8 = (if z5 < (64 : Int32) then p0 else p1)) (h9 : z9 = (if z5 < (64 : Int32) then p1 else p2)) (h10 : z10 = (if z5 < (64 : Int32) then z5 else (z5 - (64 : Int32))))
    (h12 : z12 = (if z10 = (0 : Int32) then z8 else (((z8.toUInt64 >>> (z10 &&& 0x3f).toInt64.toUInt64).toInt64) ||| (z9 <<< (((64 : Int32) - z10) &&& 0x3f).toInt64))))
    (h14 : z14 = (if z6 = (64 : Int32) then z12 else (z12 &&& (((1 : Int64) <<< (z6 &&& 0x3f).toInt64) - (1 : Int64))))) : rv = z14 := by
  have e64 : (64 : Int32).toInt = 64 := by decide
  have hv : ∀ k, k < 64 → z12.toBitVec.getLsbD k = own_B (own_put (own_put (own_put f 0 p0) 8 p1) 16 p2) (bit + k) := by
    intro k hk
    rw [own_bytes _ _ _ _ _ (by omega), h12]
    by_cases c : z5 < 64
    · rw [if_pos c] at h8 h9 h10
      rw [Int32.lt_iff_toInt_lt, e64] at c
      rw [own_two z8 z9 z10 bit ⟨by rw [h10]; exact hb.1, by omega⟩ k hk, h8, h9]
      by_cases g : bit + k < 64
      · rw [if_pos g, if_pos g]
      · rw [if_neg g, if_neg g, if_pos (by omega)]
    · rw [if_neg c] at h8 h9 h10
      rw [Int32.lt_iff_toInt_lt, e64] at c
      have q : z10.toInt = ((bit - 64 : Nat) : Int) := by
        have x := c_isub z5 64
        have r := rng32 z10
        rw [← h10, e64, hb.1] at x
        generalize z10.toInt = y at *
        omega
      rw [own_two z8 z9 z10 (bit - 64) ⟨q, by omega⟩ k hk, h8, h9, if_neg (show ¬ bit + k < 64 by omega)]
      by_cases g : bit + k < 128
      · rw [if_pos (by omega), if_pos g, show bit - 64 + k = bit + k - 64 by omega]
      · rw [if_neg (by omega), if_neg g, show bit - 64 + k - 64 = bit + k - 128 by omega]
  apply Int64.toBitVec_inj.mp
  apply BitVec.eq_of_getLsbD_eq
  intro k hk
  rw [hr k hk, h14]
  by_cases w : z6 = 64
  · have : wd = 64 := by have := hwd.1; rw [w, e64] at this; omega
    subst this
    rw [if_pos w, hv k hk]; simp [hk]
  · have w' : wd < 64 := by
      have : ¬ z6.toInt = 64 := fun q => w (Int32.toInt_inj.mp (by rw [q, e64]))
      omega
    rw [if_neg w, Int64.toBitVec_and, Int64.toBitVec_sub, own_shl_bv _ _ _ (own_nat64 hwd.1 w'), BitVec.getLsbD_and]
    show _ = (_ && ((1#64 <<< wd) - 1#64).getLsbD k)
    rw [own_mask_bit wd k w', hv k hk, Bool.and_comm]

theorem own_ef0 (m : MethodId) (p0 : Int64) (p1 : Int64) (p2 : Int64) (p3 : Int32) (p4 : Int32) : entryFrame m #[(.long p0), (.long p1), (.long p2), (.int p3), (.int p4)] maxLocals = mkF m 0 #[.val (.long p0), .second, .val (.long p1), .second, .val (.long p2), .second, .val (.int p3), .val (.int p4), .unset, .unset, .unset, .unset, .unset, .unset, .unset, .unset, .unset, .unset, .unset, .unset, .unset, .unset] [] := by first | (simp [entryFrame, mkF, argsToLocals, Value.category, maxLocals]; done) | rfl
abbrev own_Q0 (n0 : Nat) (v : Option Value) (h : Heap) (L : List Loc) : Prop := v = some (.int 1) ∧ Fr n0 L
theorem own_pn0 : plainName "com/example/lakebed/lakebed/core/parquet/LittleEndianReadBitsPinLaw" = true := by first | (simp [plainName, overriddenIn]; done) | decide +kernel
set_option maxRecDepth 65536 in
set_option maxHeartbeats 40000000 in
theorem rm0 (l : Launch) (Z : State) (a0 : Array Value) (hw : ∀ d ∈ tables_1, d.before a0 Z = true) (ws : List Jvm.Cond) (p0 : Int64) (p1 : Int64) (p2 : Int64) (p3 : Int32) (p4 : Int32) (h0 : Heap) (n0 : Nat) (Z0 : n0 ≤ h0.size) :
    MetFree l x (head1 (Jvm.Cond.code x code maxLocals ret :: ws) room_1) (fun a U => a = #[(.long p0), (.long p1), (.long p2), (.int p3), (.int p4)] ∧ Z.Warmed39 U.vm ∧ U.heap = h0) (fun _ _ _ _ _ => True) (fun _ U o U' => ∃ v L, o = .returned v ∧ own_Q0 n0 v U'.heap L ∧ FrameEnd U o U' L room_1.cells room_1.slots) := by
  refine own_contract (plainFor_of_name own_pn0) (fun m => own_ef0 m p0 p1 p2 p3 p4) ?_
  intro p e s m below meth c s₁ G hx hby hml0 hown0 hnm hret hZ X0 e0 hp hR
  have hml : c.maxLocals = 22 := hml0
  have hown : s.vm.findClass "com/example/lakebed/lakebed/core/parquet/LittleEndianReadBitsPinLaw" = some m.cls := hown0
  have N0 := Fr.nil n0
  show G s₁ (mkF m 0 #[.val (.long p0), .second, .val (.long p1), .second, .val (.long p2), .second, .val (.int p3), .val (.int p4), .unset, .unset, .unset, .unset, .unset, .unset, .unset, .unset, .unset, .unset, .unset, .unset, .unset, .unset] [])
  have K0 : Keep h0 h0 [] := Keep.refl _ _
  refine hp (fun tq kq => XS.bipush X0.here hx rfl (hb hby at_0) kq) ?_
  show G s₁ (mkF m 2 #[.val (.long p0), .second, .val (.long p1), .second, .val (.long p2), .second, .val (.int p3), .val (.int p4), .unset, .unset, .unset, .unset, .unset, .unset, .unset, .unset, .unset, .unset, .unset, .unset, .unset, .unset] [(.int (24 : Int32))])
  obtain ⟨T1, h1, k1, X1, e1, E1, A1, st1⟩ := newP X0 hx hZ (hw _ (List.mem_of_getElem? (i := 0) rfl)) e0 (g := (mkF m 2 #[.val (.long p0), .second, .val (.long p1), .second, .val (.long p2), .second, .val (.int p3), .val (.int p4), .unset, .unset, .unset, .unset, .unset, .unset, .unset, .unset, .unset, .unset, .unset, .unset, .unset, .unset] [(.int (24 : Int32))])) rfl (hb hby at_2) rfl (by decide) (cap := 24) (by decide) (by decide) (by decide) (by decide)
  obtain ⟨b1, g1⟩ : ∃ z, z = h0.size := ⟨_, rfl⟩
  rw [← g1] at A1 st1
  have sz_b1 : h0.size ≤ b1 := Nat.le_trans K0.1 (Nat.le_of_eq g1.symm)
  have g_b1 : n0 ≤ b1 := Nat.le_trans Z0 sz_b1
  have K1 := K0.ext E1
  have V1_b1 : own_AI Z h1 b1 .byte 24 (fun _ => 0) := own_AI.new A1 (by decide) rfl 24 (by decide)
  refine hp st1 ?_
  show G T1 (mkF m 4 #[.val (.long p0), .second, .val (.long p1), .second, .val (.long p2), .second, .val (.int p3), .val (.int p4), .unset, .unset, .unset, .unset, .unset, .unset, .unset, .unset, .unset, .unset, .unset, .unset, .unset, .unset] [(.ref b1)])
  refine hp (fun tq kq => XS.astore X1.here hx rfl (hb hby at_4) rfl rfl (l' := #[.val (.long p0), .second, .val (.long p1), .second, .val (.long p2), .second, .val (.int p3), .val (.int p4), .val (.ref b1), .unset, .unset, .unset, .unset, .unset, .unset, .unset, .unset, .unset, .unset, .unset, .unset, .unset]) rfl kq) ?_
  show G T1 (mkF m 6 #[.val (.long p0), .second, .val (.long p1), .second, .val (.long p2), .second, .val (.int p3), .val (.int p4), .val (.ref b1), .unset, .unset, .unset, .unset, .unset, .unset, .unset, .unset, .unset, .unset, .unset, .unset, .unset] [])
  refine hp (fun tq kq => XS.aload X1.here hx rfl (hb hby at_6) rfl rfl kq) ?_
  show G T1 (mkF m 8 #[.val (.long p0), .second, .val (.long p1), .second, .val (.long p2), .second, .val (.int p3), .val (.int p4), .val (.ref b1), .unset, .unset, .unset, .unset, .unset, .unset, .unset, .unset, .unset, .unset, .unset, .unset, .unset] [(.ref b1)])
  refine hp (fun tq kq => XS.iconst X1.here hx rfl (hb hby at_8) kq) ?_
  show G T1 (mkF m 9 #[.val (.long p0), .second, .val (.long p1), .second, .val (.long p2), .second, .val (.int p3), .val (.int p4), .val (.ref b1), .unset, .unset, .unset, .unset, .unset, .unset, .unset, .unset, .unset, .unset, .unset, .unset, .unset] [(.int (0 : Int32)), (.ref b1)])
  refine hp (fun tq kq => XS.lloadN X1.here hx rfl (hb hby at_9) rfl kq) ?_
  show G T1 (mkF m 10 #[.val (.long p0), .second, .val (.long p1), .second, .val (.long p2), .second, .val (.int p3), .val (.int p4), .val (.ref b1), .unset, .unset, .unset, .unset, .unset, .unset, .unset, .unset, .unset, .unset, .unset, .unset, .unset] [(.long p0), (.int (0 : Int32)), (.ref b1)])
  obtain ⟨v2, T2, L2, X2, hQ2, st2⟩ := own_callS X1 hx hZ (y := (⟨"com/example/lakebed/lakebed/core/parquet/LittleEndianReadBitsPinLaw", "put", "([BIJ)V"⟩ : MethodName)) (rm := ({ frames := 0, cells := 0, slots := 0, locals := 0 } : Room)) 0 hown (hw _ (List.mem_of_getElem? (i := 1) rfl)) (hw _ (List.mem_of_getElem? (i := 2) rfl)) (hw _ (List.mem_of_getElem? (i := 3) rfl)) (hw _ (List.mem_of_getElem? (i := 4) rfl)) (by decide) (rm1 l Z a0 hw [] b1 (0 : Int32) p0 0 (fun _ => (0 : Int32)) h1 n0 (by decide) V1_b1 g_b1) e1 (by decide) (by decide) (g := (mkF m 10 #[.val (.long p0), .second, .val (.long p1), .second, .val (.long p2), .second, .val (.int p3), .val (.int p4), .val (.ref b1), .unset, .unset, .unset, .unset, .unset, .unset, .unset, .unset, .unset, .unset, .unset, .unset, .unset] [(.long p0), (.int (0 : Int32)), (.ref b1)])) rfl (by rw [hml]; rfl) [(.ref b1), (.int (0 : Int32)), (.long p0)] [] own_pd0 rfl rfl (by show 2 * 0 + _ ≤ _; exact Nat.le_of_eq rfl) (hb hby at_10) rfl (by decide) (by decide)
  obtain ⟨rfl, N2, Kc2, V2_b1⟩ := hQ2
  have N2b := Fr.app N0 N2
  have K2 := K1.trans Kc2 (allS (Or.inr sz_b1) all0)
  refine hp st2 ?_
  show G T2 (mkF m 13 #[.val (.long p0), .second, .val (.long p1), .second, .val (.long p2), .second, .val (.int p3), .val (.int p4), .val (.ref b1), .unset, .unset, .unset, .unset, .unset, .unset, .unset, .unset, .unset, .unset, .unset, .unset, .unset] [])
  refine hp (fun tq kq => XS.aload X2.here hx rfl (hb hby at_13) rfl rfl kq) ?_
  show G T2 (mkF m 15 #[.val (.long p0), .second, .val (.long p1), .second, .val (.long p2), .second, .val (.int p3), .val (.int p4), .val (.ref b1), .unset, .unset, .unset, .unset, .unset, .unset, .unset, .unset, .unset, .unset, .unset, .unset, .unset] [(.ref b1)])
  refine hp (fun tq kq => XS.bipush X2.here hx rfl (hb hby at_15) kq) ?_
  show G T2 (mkF m 17 #[.val (.long p0), .second, .val (.long p1), .second, .val (.long p2), .second, .val (.int p3), .val (.int p4), .val (.ref b1), .unset, .unset, .unset, .unset, .unset, .unset, .unset, .unset, .unset, .unset, .unset, .unset, .unset] [(.int (8 : Int32)), (.ref b1)])
  refine hp (fun tq kq => XS.lloadN X2.here hx rfl (hb hby at_17) rfl kq) ?_
  show G T2 (mkF m 18 #[.val (.long p0), .second, .val (.long p1), .second, .val (.long p2), .second, .val (.int p3), .val (.int p4), .val (.ref b1), .unset, .unset, .unset, .unset, .unset, .unset, .unset, .unset, .unset, .unset, .unset, .unset, .unset] [(.long p1), (.int (8 : Int32)), (.ref b1)])
  obtain ⟨v3, T3, L3, X3, hQ3, st3⟩ := own_callS X2 hx hZ (y := (⟨"com/example/lakebed/lakebed/core/parquet/LittleEndianReadBitsPinLaw", "put", "([BIJ)V"⟩ : MethodName)) (rm := ({ frames := 0, cells := 0, slots := 0, locals := 0 } : Room)) 0 hown (hw _ (List.mem_of_getElem? (i := 1) rfl)) (hw _ (List.mem_of_getElem? (i := 2) rfl)) (hw _ (List.mem_of_getElem? (i := 3) rfl)) (hw _ (List.mem_of_getElem? (i := 4) rfl)) (by decide) (rm1 l Z a0 hw [] b1 (8 : Int32) p1 8 (own_put (fun _ => (0 : Int32)) 0 p0) T2.heap n0 (by decide) V2_b1 g_b1) rfl (by decide) (by decide) (g := (mkF m 18 #[.val (.long p0), .second, .val (.long p1), .second, .val (.long p2), .second, .val (.int p3), .val (.int p4), .val (.ref b1), .unset, .unset, .unset, .unset, .unset, .unset, .unset, .unset, .unset, .unset, .unset, .unset, .unset] [(.long p1), (.int (8 : Int32)), (.ref b1)])) rfl (by rw [hml]; rfl) [(.ref b1), (.int (8 : Int32)), (.long p1)] [] own_pd0 rfl rfl (by show 2 * 0 + _ ≤ _; exact Nat.le_of_eq rfl) (hb hby at_18) rfl (by decide) (by decide)
  obtain ⟨rfl, N3, Kc3, V3_b1⟩ := hQ3
  have N3b := Fr.app N2b N3
  have K3 := K2.trans Kc3 (allS (Or.inr sz_b1) all0)
  refine hp st3 ?_
  show G T3 (mkF m 21 #[.val (.long p0), .second, .val (.long p1), .second, .val (.long p2), .second, .val (.int p3), .val (.int p4), .val (.ref b1), .unset, .unset, .unset, .unset, .unset, .unset, .unset, .unset, .unset, .unset, .unset, .unset, .unset] [])
  refine hp (fun tq kq => XS.aload X3.here hx rfl (hb hby at_21) rfl rfl kq) ?_
  show G T3 (mkF m 23 #[.val (.long p0), .second, .val (.long p1), .second, .val (.long p2), .second, .val (.int p3), .val (.int p4), .val (.ref b1), .unset, .unset, .unset, .unset, .unset, .unset, .unset, .unset, .unset, .unset, .unset, .unset, .unset] [(.ref b1)])
  refine hp (fun tq kq => XS.bipush X3.here hx rfl (hb hby at_23) kq) ?_
  show G T3 (mkF m 25 #[.val (.long p0), .second, .val (.long p1), .second, .val (.long p2), .second, .val (.int p3), .val (.int p4), .val (.ref b1), .unset, .unset, .unset, .unset, .unset, .unset, .unset, .unset, .unset, .unset, .unset, .unset, .unset] [(.int (16 : Int32)), (.ref b1)])
  refine hp (fun tq kq => XS.lload X3.here hx rfl (hb hby at_25) rfl kq) ?_
  show G T3 (mkF m 27 #[.val (.long p0), .second, .val (.long p1), .second, .val (.long p2), .second, .val (.int p3), .val (.int p4), .val (.ref b1), .unset, .unset, .unset, .unset, .unset, .unset, .unset, .unset, .unset, .unset, .unset, .unset, .unset] [(.long p2), (.int (16 : Int32)), (.ref b1)])
  obtain ⟨v4, T4, L4, X4, hQ4, st4⟩ := own_callS X3 hx hZ (y := (⟨"com/example/lakebed/lakebed/core/parquet/LittleEndianReadBitsPinLaw", "put", "([BIJ)V"⟩ : MethodName)) (rm := ({ frames := 0, cells := 0, slots := 0, locals := 0 } : Room)) 0 hown (hw _ (List.mem_of_getElem? (i := 1) rfl)) (hw _ (List.mem_of_getElem? (i := 2) rfl)) (hw _ (List.mem_of_getElem? (i := 3) rfl)) (hw _ (List.mem_of_getElem? (i := 4) rfl)) (by decide) (rm1 l Z a0 hw [] b1 (16 : Int32) p2 16 (own_put (own_put (fun _ => (0 : Int32)) 0 p0) 8 p1) T3.heap n0 (by decide) V3_b1 g_b1) rfl (by decide) (by decide) (g := (mkF m 27 #[.val (.long p0), .second, .val (.long p1), .second, .val (.long p2), .second, .val (.int p3), .val (.int p4), .val (.ref b1), .unset, .unset, .unset, .unset, .unset, .unset, .unset, .unset, .unset, .unset, .unset, .unset, .unset] [(.long p2), (.int (16 : Int32)), (.ref b1)])) rfl (by rw [hml]; rfl) [(.ref b1), (.int (16 : Int32)), (.long p2)] [] own_pd0 rfl rfl (by show 2 * 0 + _ ≤ _; exact Nat.le_of_eq rfl) (hb hby at_27) rfl (by decide) (by decide)
  obtain ⟨rfl, N4, Kc4, V4_b1⟩ := hQ4
  have N4b := Fr.app N3b N4
  have K4 := K3.trans Kc4 (allS (Or.inr sz_b1) all0)
  refine hp st4 ?_
  show G T4 (mkF m 30 #[.val (.long p0), .second, .val (.long p1), .second, .val (.long p2), .second, .val (.int p3), .val (.int p4), .val (.ref b1), .unset, .unset, .unset, .unset, .unset, .unset, .unset, .unset, .unset, .unset, .unset, .unset, .unset] [])
  refine hp (fun tq kq => XS.iload X4.here hx rfl (hb hby at_30) rfl kq) ?_
  show G T4 (mkF m 32 #[.val (.long p0), .second, .val (.long p1), .second, .val (.long p2), .second, .val (.int p3), .val (.int p4), .val (.ref b1), .unset, .unset, .unset, .unset, .unset, .unset, .unset, .unset, .unset, .unset, .unset, .unset, .unset] [(.int p3)])
  refine hp (fun tq kq => XS.bipush X4.here hx rfl (hb hby at_32) kq) ?_
  show G T4 (mkF m 34 #[.val (.long p0), .second, .val (.long p1), .second, .val (.long p2), .second, .val (.int p3), .val (.int p4), .val (.ref b1), .unset, .unset, .unset, .unset, .unset, .unset, .unset, .unset, .unset, .unset, .unset, .unset, .unset] [(.int (127 : Int32)), (.int p3)])
  refine hp (fun tq kq => XS.iand X4.here hx rfl (hb hby at_34) rfl kq) ?_
  show G T4 (mkF m 35 #[.val (.long p0), .second, .val (.long p1), .second, .val (.long p2), .second, .val (.int p3), .val (.int p4), .val (.ref b1), .unset, .unset, .unset, .unset, .unset, .unset, .unset, .unset, .unset, .unset, .unset, .unset, .unset] [(.int (p3 &&& (127 : Int32)))])
  refine hp (fun tq kq => XS.istore X4.here hx rfl (hb hby at_35) rfl (l' := #[.val (.long p0), .second, .val (.long p1), .second, .val (.long p2), .second, .val (.int p3), .val (.int p4), .val (.ref b1), .val (.int (p3 &&& (127 : Int32))), .unset, .unset, .unset, .unset, .unset, .unset, .unset, .unset, .unset, .unset, .unset, .unset]) rfl kq) ?_
  show G T4 (mkF m 37 #[.val (.long p0), .second, .val (.long p1), .second, .val (.long p2), .second, .val (.int p3), .val (.int p4), .val (.ref b1), .val (.int (p3 &&& (127 : Int32))), .unset, .unset, .unset, .unset, .unset, .unset, .unset, .unset, .unset, .unset, .unset, .unset] [])
  refine (?_ : ∀ (z5 : Int32), z5 = (p3 &&& (127 : Int32)) → G T4 (mkF m 37 #[.val (.long p0), .second, .val (.long p1), .second, .val (.long p2), .second, .val (.int p3), .val (.int p4), .val (.ref b1), .val (.int z5), .unset, .unset, .unset, .unset, .unset, .unset, .unset, .unset, .unset, .unset, .unset, .unset] [])) _ rfl
  intro z5 hz5
  refine hp (fun tq kq => XS.iload X4.here hx rfl (hb hby at_37) rfl kq) ?_
  show G T4 (mkF m 39 #[.val (.long p0), .second, .val (.long p1), .second, .val (.long p2), .second, .val (.int p3), .val (.int p4), .val (.ref b1), .val (.int z5), .unset, .unset, .unset, .unset, .unset, .unset, .unset, .unset, .unset, .unset, .unset, .unset] [(.int p4)])
  refine hp (fun tq kq => X4.ldcInt hx hown (mvT hZ (hw _ (List.mem_of_getElem? (i := 5) rfl))) (g := (mkF m 39 #[.val (.long p0), .second, .val (.long p1), .second, .val (.long p2), .second, .val (.int p3), .val (.int p4), .val (.ref b1), .val (.int z5), .unset, .unset, .unset, .unset, .unset, .unset, .unset, .unset, .unset, .unset, .unset, .unset] [(.int p4)])) rfl (hb hby at_39) _ kq) ?_
  show G T4 (mkF m 41 #[.val (.long p0), .second, .val (.long p1), .second, .val (.long p2), .second, .val (.int p3), .val (.int p4), .val (.ref b1), .val (.int z5), .unset, .unset, .unset, .unset, .unset, .unset, .unset, .unset, .unset, .unset, .unset, .unset] [(.int (2147483647 : Int32)), (.int p4)])
  refine hp (fun tq kq => XS.iand X4.here hx rfl (hb hby at_41) rfl kq) ?_
  show G T4 (mkF m 42 #[.val (.long p0), .second, .val (.long p1), .second, .val (.long p2), .second, .val (.int p3), .val (.int p4), .val (.ref b1), .val (.int z5), .unset, .unset, .unset, .unset, .unset, .unset, .unset, .unset, .unset, .unset, .unset, .unset] [(.int (p4 &&& (2147483647 : Int32)))])
  refine hp (fun tq kq => XS.bipush X4.here hx rfl (hb hby at_42) kq) ?_
  show G T4 (mkF m 44 #[.val (.long p0), .second, .val (.long p1), .second, .val (.long p2), .second, .val (.int p3), .val (.int p4), .val (.ref b1), .val (.int z5), .unset, .unset, .unset, .unset, .unset, .unset, .unset, .unset, .unset, .unset, .unset, .unset] [(.int (65 : Int32)), (.int (p4 &&& (2147483647 : Int32)))])
  refine hp (fun tq kq => iremM X4 hx rfl (hb hby at_44) rfl (by decide) kq) ?_
  show G T4 (mkF m 45 #[.val (.long p0), .second, .val (.long p1), .second, .val (.long p2), .second, .val (.int p3), .val (.int p4), .val (.ref b1), .val (.int z5), .unset, .unset, .unset, .unset, .unset, .unset, .unset, .unset, .unset, .unset, .unset, .unset] [(.int ((p4 &&& (2147483647 : Int32)) % (65 : Int32)))])
  refine hp (fun tq kq => XS.istore X4.here hx rfl (hb hby at_45) rfl (l' := #[.val (.long p0), .second, .val (.long p1), .second, .val (.long p2), .second, .val (.int p3), .val (.int p4), .val (.ref b1), .val (.int z5), .val (.int ((p4 &&& (2147483647 : Int32)) % (65 : Int32))), .unset, .unset, .unset, .unset, .unset, .unset, .unset, .unset, .unset, .unset, .unset]) rfl kq) ?_
  show G T4 (mkF m 47 #[.val (.long p0), .second, .val (.long p1), .second, .val (.long p2), .second, .val (.int p3), .val (.int p4), .val (.ref b1), .val (.int z5), .val (.int ((p4 &&& (2147483647 : Int32)) % (65 : Int32))), .unset, .unset, .unset, .unset, .unset, .unset, .unset, .unset, .unset, .unset, .unset] [])
  refine (?_ : ∀ (z6 : Int32), z6 = ((p4 &&& (2147483647 : Int32)) % (65 : Int32)) → G T4 (mkF m 47 #[.val (.long p0), .second, .val (.long p1), .second, .val (.long p2), .second, .val (.int p3), .val (.int p4), .val (.ref b1), .val (.int z5), .val (.int z6), .unset, .unset, .unset, .unset, .unset, .unset, .unset, .unset, .unset, .unset, .unset] [])) _ rfl
  intro z6 hz6
  obtain ⟨bit, hbit0, hbit⟩ := own_bit hz5
  obtain ⟨wd, hwd⟩ := own_width hz6
  refine hp (fun tq kq => XS.iload X4.here hx rfl (hb hby at_47) rfl kq) ?_
  show G T4 (mkF m 49 #[.val (.long p0), .second, .val (.long p1), .second, .val (.long p2), .second, .val (.int p3), .val (.int p4), .val (.ref b1), .val (.int z5), .val (.int z6), .unset, .unset, .unset, .unset, .unset, .unset, .unset, .unset, .unset, .unset, .unset] [(.int z5)])
  refine hp (fun tq kq => XS.bipush X4.here hx rfl (hb hby at_49) kq) ?_
  show G T4 (mkF m 51 #[.val (.long p0), .second, .val (.long p1), .second, .val (.long p2), .second, .val (.int p3), .val (.int p4), .val (.ref b1), .val (.int z5), .val (.int z6), .unset, .unset, .unset, .unset, .unset, .unset, .unset, .unset, .unset, .unset, .unset] [(.int (64 : Int32)), (.int z5)])
  have j7 : ∀ (z8 : Int64) (z9 : Int64) (z10 : Int32), z8 = (if z5 < (64 : Int32) then p0 else p1) → z9 = (if z5 < (64 : Int32) then p1 else p2) → z10 = (if z5 < (64 : Int32) then z5 else (z5 - (64 : Int32))) → G T4 (mkF m 81 #[.val (.long p0), .second, .val (.long p1), .second, .val (.long p2), .second, .val (.int p3), .val (.int p4), .val (.ref b1), .val (.int z5), .val (.int z6), .val (.long z8), .second, .val (.long z9), .second, .val (.int z10), .unset, .unset, .unset, .unset, .unset, .unset] []) := by
    intro z8 z9 z10 hz8 hz9 hz10
    refine hp (fun tq kq => XS.iload X4.here hx rfl (hb hby at_81) rfl kq) ?_
    show G T4 (mkF m 83 #[.val (.long p0), .second, .val (.long p1), .second, .val (.long p2), .second, .val (.int p3), .val (.int p4), .val (.ref b1), .val (.int z5), .val (.int z6), .val (.long z8), .second, .val (.long z9), .second, .val (.int z10), .unset, .unset, .unset, .unset, .unset, .unset] [(.int z10)])
    have j11 : ∀ (z12 : Int64), z12 = (if z10 = (0 : Int32) then z8 else (((z8.toUInt64 >>> (z10 &&& 0x3f).toInt64.toUInt64).toInt64) ||| (z9 <<< (((64 : Int32) - z10) &&& 0x3f).toInt64))) → G T4 (mkF m 109 #[.val (.long p0), .second, .val (.long p1), .second, .val (.long p2), .second, .val (.int p3), .val (.int p4), .val (.ref b1), .val (.int z5), .val (.int z6), .val (.long z8), .second, .val (.long z9), .second, .val (.int z10), .val (.long z12), .second, .unset, .unset, .unset, .unset] []) := by
      intro z12 hz12
      refine hp (fun tq kq => XS.iload X4.here hx rfl (hb hby at_109) rfl kq) ?_
      show G T4 (mkF m 111 #[.val (.long p0), .second, .val (.long p1), .second, .val (.long p2), .second, .val (.int p3), .val (.int p4), .val (.ref b1), .val (.int z5), .val (.int z6), .val (.long z8), .second, .val (.long z9), .second, .val (.int z10), .val (.long z12), .second, .unset, .unset, .unset, .unset] [(.int z6)])
      refine hp (fun tq kq => XS.bipush X4.here hx rfl (hb hby at_111) kq) ?_
      show G T4 (mkF m 113 #[.val (.long p0), .second, .val (.long p1), .second, .val (.long p2), .second, .val (.int p3), .val (.int p4), .val (.ref b1), .val (.int z5), .val (.int z6), .val (.long z8), .second, .val (.long z9), .second, .val (.int z10), .val (.long z12), .second, .unset, .unset, .unset, .unset] [(.int (64 : Int32)), (.int z6)])
      have j13 : ∀ (z14 : Int64), z14 = (if z6 = (64 : Int32) then z12 else (z12 &&& (((1 : Int64) <<< (z6 &&& 0x3f).toInt64) - (1 : Int64)))) → G T4 (mkF m 134 #[.val (.long p0), .second, .val (.long p1), .second, .val (.long p2), .second, .val (.int p3), .val (.int p4), .val (.ref b1), .val (.int z5), .val (.int z6), .val (.long z8), .second, .val (.long z9), .second, .val (.int z10), .val (.long z12), .second, .val (.long z14), .second, .unset, .unset] []) := by
        intro z14 hz14
        refine hp (fun tq kq => XS.aload X4.here hx rfl (hb hby at_134) rfl rfl kq) ?_
        show G T4 (mkF m 136 #[.val (.long p0), .second, .val (.long p1), .second, .val (.long p2), .second, .val (.int p3), .val (.int p4), .val (.ref b1), .val (.int z5), .val (.int z6), .val (.long z8), .second, .val (.long z9), .second, .val (.int z10), .val (.long z12), .second, .val (.long z14), .second, .unset, .unset] [(.ref b1)])
        refine hp (fun tq kq => XS.iload X4.here hx rfl (hb hby at_136) rfl kq) ?_
        show G T4 (mkF m 138 #[.val (.long p0), .second, .val (.long p1), .second, .val (.long p2), .second, .val (.int p3), .val (.int p4), .val (.ref b1), .val (.int z5), .val (.int z6), .val (.long z8), .second, .val (.long z9), .second, .val (.int z10), .val (.long z12), .second, .val (.long z14), .second, .unset, .unset] [(.int z5), (.ref b1)])
        refine hp (fun tq kq => XS.i2l X4.here hx rfl (hb hby at_138) rfl kq) ?_
        show G T4 (mkF m 139 #[.val (.long p0), .second, .val (.long p1), .second, .val (.long p2), .second, .val (.int p3), .val (.int p4), .val (.ref b1), .val (.int z5), .val (.int z6), .val (.long z8), .second, .val (.long z9), .second, .val (.int z10), .val (.long z12), .second, .val (.long z14), .second, .unset, .unset] [(.long z5.toInt64), (.ref b1)])
        refine hp (fun tq kq => XS.iload X4.here hx rfl (hb hby at_139) rfl kq) ?_
        show G T4 (mkF m 141 #[.val (.long p0), .second, .val (.long p1), .second, .val (.long p2), .second, .val (.int p3), .val (.int p4), .val (.ref b1), .val (.int z5), .val (.int z6), .val (.long z8), .second, .val (.long z9), .second, .val (.int z10), .val (.long z12), .second, .val (.long z14), .second, .unset, .unset] [(.int z6), (.long z5.toInt64), (.ref b1)])
        obtain ⟨v15, T15, L15, X15, hQ15, st15⟩ := own_callS X4 hx hZ (y := (⟨"com/example/lakebed/lakebed/core/parquet/LittleEndian", "readBits", "([BJI)J"⟩ : MethodName)) (rm := ({ frames := 0, cells := 0, slots := 0, locals := 0 } : Room)) 0 hown (hw _ (List.mem_of_getElem? (i := 6) rfl)) (hw _ (List.mem_of_getElem? (i := 7) rfl)) (hw _ (List.mem_of_getElem? (i := 8) rfl)) (hw _ (List.mem_of_getElem? (i := 9) rfl)) (by decide) (rm2 l Z a0 hw [] b1 z5.toInt64 z6 (own_put (own_put (own_put (fun _ => (0 : Int32)) 0 p0) 8 p1) 16 p2) bit wd T4.heap n0 V4_b1 hbit hwd) rfl (by decide) (by decide) (g := (mkF m 141 #[.val (.long p0), .second, .val (.long p1), .second, .val (.long p2), .second, .val (.int p3), .val (.int p4), .val (.ref b1), .val (.int z5), .val (.int z6), .val (.long z8), .second, .val (.long z9), .second, .val (.int z10), .val (.long z12), .second, .val (.long z14), .second, .unset, .unset] [(.int z6), (.long z5.toInt64), (.ref b1)])) rfl (by rw [hml]; rfl) [(.ref b1), (.long z5.toInt64), (.int z6)] [] own_pd1 rfl rfl (by show 2 * 0 + _ ≤ _; exact Nat.le_of_eq rfl) (hb hby at_141) rfl (by decide) (by decide)
        obtain ⟨rv, rfl, hrv, N15, e15⟩ := hQ15
        have F15 := Fr.app N4b N15
        refine hp st15 ?_
        show G T15 (mkF m 144 #[.val (.long p0), .second, .val (.long p1), .second, .val (.long p2), .second, .val (.int p3), .val (.int p4), .val (.ref b1), .val (.int z5), .val (.int z6), .val (.long z8), .second, .val (.long z9), .second, .val (.int z10), .val (.long z12), .second, .val (.long z14), .second, .unset, .unset] [(.long rv)])
        refine hp (fun tq kq => XS.lstore X15.here hx rfl (hb hby at_144) rfl (l' := #[.val (.long p0), .second, .val (.long p1), .second, .val (.long p2), .second, .val (.int p3), .val (.int p4), .val (.ref b1), .val (.int z5), .val (.int z6), .val (.long z8), .second, .val (.long z9), .second, .val (.int z10), .val (.long z12), .second, .val (.long z14), .second, .val (.long rv), .second]) rfl kq) ?_
        show G T15 (mkF m 146 #[.val (.long p0), .second, .val (.long p1), .second, .val (.long p2), .second, .val (.int p3), .val (.int p4), .val (.ref b1), .val (.int z5), .val (.int z6), .val (.long z8), .second, .val (.long z9), .second, .val (.int z10), .val (.long z12), .second, .val (.long z14), .second, .val (.long rv), .second] [])
        refine hp (fun tq kq => XS.lload X15.here hx rfl (hb hby at_146) rfl kq) ?_
        show G T15 (mkF m 148 #[.val (.long p0), .second, .val (.long p1), .second, .val (.long p2), .second, .val (.int p3), .val (.int p4), .val (.ref b1), .val (.int z5), .val (.int z6), .val (.long z8), .second, .val (.long z9), .second, .val (.int z10), .val (.long z12), .second, .val (.long z14), .second, .val (.long rv), .second] [(.long rv)])
        refine hp (fun tq kq => XS.lload X15.here hx rfl (hb hby at_148) rfl kq) ?_
        show G T15 (mkF m 150 #[.val (.long p0), .second, .val (.long p1), .second, .val (.long p2), .second, .val (.int p3), .val (.int p4), .val (.ref b1), .val (.int z5), .val (.int z6), .val (.long z8), .second, .val (.long z9), .second, .val (.int z10), .val (.long z12), .second, .val (.long z14), .second, .val (.long rv), .second] [(.long z14), (.long rv)])
        refine hp (fun tq kq => XS.lcmp X15.here hx rfl (hb hby at_150) rfl kq) ?_
        show G T15 (mkF m 151 #[.val (.long p0), .second, .val (.long p1), .second, .val (.long p2), .second, .val (.int p3), .val (.int p4), .val (.ref b1), .val (.int z5), .val (.int z6), .val (.long z8), .second, .val (.long z9), .second, .val (.int z10), .val (.long z12), .second, .val (.long z14), .second, .val (.long rv), .second] [(.int (lcmpW rv z14))])
        refine hp (fun tq kq => XS.ifNo X15.here hx rfl (hb hby at_151) rfl ((if0 _ _).trans (teq ((lw_eq _ _).mpr (own_law hbit0 hwd hrv hz5 hz6 hz8 hz9 hz10 hz12 hz14))).2) kq) ?_
        show G T15 (mkF m 154 #[.val (.long p0), .second, .val (.long p1), .second, .val (.long p2), .second, .val (.int p3), .val (.int p4), .val (.ref b1), .val (.int z5), .val (.int z6), .val (.long z8), .second, .val (.long z9), .second, .val (.int z10), .val (.long z12), .second, .val (.long z14), .second, .val (.long rv), .second] [])
        refine hp (fun tq kq => XS.iconst X15.here hx rfl (hb hby at_154) kq) ?_
        show G T15 (mkF m 155 #[.val (.long p0), .second, .val (.long p1), .second, .val (.long p2), .second, .val (.int p3), .val (.int p4), .val (.ref b1), .val (.int z5), .val (.int z6), .val (.long z8), .second, .val (.long z9), .second, .val (.int z10), .val (.long z12), .second, .val (.long z14), .second, .val (.long rv), .second] [(.int (1 : Int32))])
        refine hp (fun tq kq => XS.goto X15.here hx rfl (pc0 := 155) (pc' := 159) rfl (hb hby at_155) (by decide) (by decide) kq) ?_
        show G T15 (mkF m 159 #[.val (.long p0), .second, .val (.long p1), .second, .val (.long p2), .second, .val (.int p3), .val (.int p4), .val (.ref b1), .val (.int z5), .val (.int z6), .val (.long z8), .second, .val (.long z9), .second, .val (.int z10), .val (.long z12), .second, .val (.long z14), .second, .val (.long rv), .second] [(.int (1 : Int32))])
        exact hR X15 (fun fs hl => retN X15 hx (t := .boolean) hret (by simp) (hb hby at_159) hl) (fun q => by rw [hret] at q; cases q) ⟨rfl, F15⟩ (by decide) (by decide)
      by_cases hb16 : z6 = (64 : Int32)
      · refine hp (fun tq kq => XS.icmpNo X4.here hx rfl (hb hby at_113) rfl (teq hb16).2 kq) ?_
        show G T4 (mkF m 116 #[.val (.long p0), .second, .val (.long p1), .second, .val (.long p2), .second, .val (.int p3), .val (.int p4), .val (.ref b1), .val (.int z5), .val (.int z6), .val (.long z8), .second, .val (.long z9), .second, .val (.int z10), .val (.long z12), .second, .unset, .unset, .unset, .unset] [])
        refine hp (fun tq kq => XS.lload X4.here hx rfl (hb hby at_116) rfl kq) ?_
        show G T4 (mkF m 118 #[.val (.long p0), .second, .val (.long p1), .second, .val (.long p2), .second, .val (.int p3), .val (.int p4), .val (.ref b1), .val (.int z5), .val (.int z6), .val (.long z8), .second, .val (.long z9), .second, .val (.int z10), .val (.long z12), .second, .unset, .unset, .unset, .unset] [(.long z12)])
        refine hp (fun tq kq => XS.lstore X4.here hx rfl (hb hby at_118) rfl (l' := #[.val (.long p0), .second, .val (.long p1), .second, .val (.long p2), .second, .val (.int p3), .val (.int p4), .val (.ref b1), .val (.int z5), .val (.int z6), .val (.long z8), .second, .val (.long z9), .second, .val (.int z10), .val (.long z12), .second, .val (.long z12), .second, .unset, .unset]) rfl kq) ?_
        show G T4 (mkF m 120 #[.val (.long p0), .second, .val (.long p1), .second, .val (.long p2), .second, .val (.int p3), .val (.int p4), .val (.ref b1), .val (.int z5), .val (.int z6), .val (.long z8), .second, .val (.long z9), .second, .val (.int z10), .val (.long z12), .second, .val (.long z12), .second, .unset, .unset] [])
        refine hp (fun tq kq => XS.goto X4.here hx rfl (pc0 := 120) (pc' := 134) rfl (hb hby at_120) (by decide) (by decide) kq) ?_
        show G T4 (mkF m 134 #[.val (.long p0), .second, .val (.long p1), .second, .val (.long p2), .second, .val (.int p3), .val (.int p4), .val (.ref b1), .val (.int z5), .val (.int z6), .val (.long z8), .second, .val (.long z9), .second, .val (.int z10), .val (.long z12), .second, .val (.long z12), .second, .unset, .unset] [])
        exact j13 _ ((if_pos hb16)).symm
      · refine hp (fun tq kq => XS.icmpYes X4.here hx rfl (pc0 := 113) (pc' := 123) rfl (hb hby at_113) rfl (feq hb16).2 (by decide) (by decide) kq) ?_
        show G T4 (mkF m 123 #[.val (.long p0), .second, .val (.long p1), .second, .val (.long p2), .second, .val (.int p3), .val (.int p4), .val (.ref b1), .val (.int z5), .val (.int z6), .val (.long z8), .second, .val (.long z9), .second, .val (.int z10), .val (.long z12), .second, .unset, .unset, .unset, .unset] [])
        refine hp (fun tq kq => XS.lload X4.here hx rfl (hb hby at_123) rfl kq) ?_
        show G T4 (mkF m 125 #[.val (.long p0), .second, .val (.long p1), .second, .val (.long p2), .second, .val (.int p3), .val (.int p4), .val (.ref b1), .val (.int z5), .val (.int z6), .val (.long z8), .second, .val (.long z9), .second, .val (.int z10), .val (.long z12), .second, .unset, .unset, .unset, .unset] [(.long z12)])
        refine hp (fun tq kq => XS.lconst X4.here hx rfl (hb hby at_125) kq) ?_
        show G T4 (mkF m 126 #[.val (.long p0), .second, .val (.long p1), .second, .val (.long p2), .second, .val (.int p3), .val (.int p4), .val (.ref b1), .val (.int z5), .val (.int z6), .val (.long z8), .second, .val (.long z9), .second, .val (.int z10), .val (.long z12), .second, .unset, .unset, .unset, .unset] [(.long (1 : Int64)), (.long z12)])
        refine hp (fun tq kq => XS.iload X4.here hx rfl (hb hby at_126) rfl kq) ?_
        show G T4 (mkF m 128 #[.val (.long p0), .second, .val (.long p1), .second, .val (.long p2), .second, .val (.int p3), .val (.int p4), .val (.ref b1), .val (.int z5), .val (.int z6), .val (.long z8), .second, .val (.long z9), .second, .val (.int z10), .val (.long z12), .second, .unset, .unset, .unset, .unset] [(.int z6), (.long (1 : Int64)), (.long z12)])
        refine hp (fun tq kq => XS.lshl X4.here hx rfl (hb hby at_128) rfl kq) ?_
        show G T4 (mkF m 129 #[.val (.long p0), .second, .val (.long p1), .second, .val (.long p2), .second, .val (.int p3), .val (.int p4), .val (.ref b1), .val (.int z5), .val (.int z6), .val (.long z8), .second, .val (.long z9), .second, .val (.int z10), .val (.long z12), .second, .unset, .unset, .unset, .unset] [(.long ((1 : Int64) <<< (z6 &&& 0x3f).toInt64)), (.long z12)])
        refine hp (fun tq kq => XS.lconst X4.here hx rfl (hb hby at_129) kq) ?_
        show G T4 (mkF m 130 #[.val (.long p0), .second, .val (.long p1), .second, .val (.long p2), .second, .val (.int p3), .val (.int p4), .val (.ref b1), .val (.int z5), .val (.int z6), .val (.long z8), .second, .val (.long z9), .second, .val (.int z10), .val (.long z12), .second, .unset, .unset, .unset, .unset] [(.long (1 : Int64)), (.long ((1 : Int64) <<< (z6 &&& 0x3f).toInt64)), (.long z12)])
        refine hp (fun tq kq => XS.lsub X4.here hx rfl (hb hby at_130) rfl kq) ?_
        show G T4 (mkF m 131 #[.val (.long p0), .second, .val (.long p1), .second, .val (.long p2), .second, .val (.int p3), .val (.int p4), .val (.ref b1), .val (.int z5), .val (.int z6), .val (.long z8), .second, .val (.long z9), .second, .val (.int z10), .val (.long z12), .second, .unset, .unset, .unset, .unset] [(.long (((1 : Int64) <<< (z6 &&& 0x3f).toInt64) - (1 : Int64))), (.long z12)])
        refine hp (fun tq kq => XS.land X4.here hx rfl (hb hby at_131) rfl kq) ?_
        show G T4 (mkF m 132 #[.val (.long p0), .second, .val (.long p1), .second, .val (.long p2), .second, .val (.int p3), .val (.int p4), .val (.ref b1), .val (.int z5), .val (.int z6), .val (.long z8), .second, .val (.long z9), .second, .val (.int z10), .val (.long z12), .second, .unset, .unset, .unset, .unset] [(.long (z12 &&& (((1 : Int64) <<< (z6 &&& 0x3f).toInt64) - (1 : Int64))))])
        refine hp (fun tq kq => XS.lstore X4.here hx rfl (hb hby at_132) rfl (l' := #[.val (.long p0), .second, .val (.long p1), .second, .val (.long p2), .second, .val (.int p3), .val (.int p4), .val (.ref b1), .val (.int z5), .val (.int z6), .val (.long z8), .second, .val (.long z9), .second, .val (.int z10), .val (.long z12), .second, .val (.long (z12 &&& (((1 : Int64) <<< (z6 &&& 0x3f).toInt64) - (1 : Int64)))), .second, .unset, .unset]) rfl kq) ?_
        show G T4 (mkF m 134 #[.val (.long p0), .second, .val (.long p1), .second, .val (.long p2), .second, .val (.int p3), .val (.int p4), .val (.ref b1), .val (.int z5), .val (.int z6), .val (.long z8), .second, .val (.long z9), .second, .val (.int z10), .val (.long z12), .second, .val (.long (z12 &&& (((1 : Int64) <<< (z6 &&& 0x3f).toInt64) - (1 : Int64)))), .second, .unset, .unset] [])
        exact j13 _ ((if_neg hb16)).symm
    by_cases hb17 : z10 = (0 : Int32)
    · refine hp (fun tq kq => XS.ifNo X4.here hx rfl (hb hby at_83) rfl ((if0 _ _).trans (teq hb17).2) kq) ?_
      show G T4 (mkF m 86 #[.val (.long p0), .second, .val (.long p1), .second, .val (.long p2), .second, .val (.int p3), .val (.int p4), .val (.ref b1), .val (.int z5), .val (.int z6), .val (.long z8), .second, .val (.long z9), .second, .val (.int z10), .unset, .unset, .unset, .unset, .unset, .unset] [])
      refine hp (fun tq kq => XS.lload X4.here hx rfl (hb hby at_86) rfl kq) ?_
      show G T4 (mkF m 88 #[.val (.long p0), .second, .val (.long p1), .second, .val (.long p2), .second, .val (.int p3), .val (.int p4), .val (.ref b1), .val (.int z5), .val (.int z6), .val (.long z8), .second, .val (.long z9), .second, .val (.int z10), .unset, .unset, .unset, .unset, .unset, .unset] [(.long z8)])
      refine hp (fun tq kq => XS.lstore X4.here hx rfl (hb hby at_88) rfl (l' := #[.val (.long p0), .second, .val (.long p1), .second, .val (.long p2), .second, .val (.int p3), .val (.int p4), .val (.ref b1), .val (.int z5), .val (.int z6), .val (.long z8), .second, .val (.long z9), .second, .val (.int z10), .val (.long z8), .second, .unset, .unset, .unset, .unset]) rfl kq) ?_
      show G T4 (mkF m 90 #[.val (.long p0), .second, .val (.long p1), .second, .val (.long p2), .second, .val (.int p3), .val (.int p4), .val (.ref b1), .val (.int z5), .val (.int z6), .val (.long z8), .second, .val (.long z9), .second, .val (.int z10), .val (.long z8), .second, .unset, .unset, .unset, .unset] [])
      refine hp (fun tq kq => XS.goto X4.here hx rfl (pc0 := 90) (pc' := 109) rfl (hb hby at_90) (by decide) (by decide) kq) ?_
      show G T4 (mkF m 109 #[.val (.long p0), .second, .val (.long p1), .second, .val (.long p2), .second, .val (.int p3), .val (.int p4), .val (.ref b1), .val (.int z5), .val (.int z6), .val (.long z8), .second, .val (.long z9), .second, .val (.int z10), .val (.long z8), .second, .unset, .unset, .unset, .unset] [])
      exact j11 _ ((if_pos hb17)).symm
    · refine hp (fun tq kq => XS.ifYes X4.here hx rfl (pc0 := 83) (pc' := 93) rfl (hb hby at_83) rfl ((if0 _ _).trans (feq hb17).2) (by decide) (by decide) kq) ?_
      show G T4 (mkF m 93 #[.val (.long p0), .second, .val (.long p1), .second, .val (.long p2), .second, .val (.int p3), .val (.int p4), .val (.ref b1), .val (.int z5), .val (.int z6), .val (.long z8), .second, .val (.long z9), .second, .val (.int z10), .unset, .unset, .unset, .unset, .unset, .unset] [])
      refine hp (fun tq kq => XS.lload X4.here hx rfl (hb hby at_93) rfl kq) ?_
      show G T4 (mkF m 95 #[.val (.long p0), .second, .val (.long p1), .second, .val (.long p2), .second, .val (.int p3), .val (.int p4), .val (.ref b1), .val (.int z5), .val (.int z6), .val (.long z8), .second, .val (.long z9), .second, .val (.int z10), .unset, .unset, .unset, .unset, .unset, .unset] [(.long z8)])
      refine hp (fun tq kq => XS.iload X4.here hx rfl (hb hby at_95) rfl kq) ?_
      show G T4 (mkF m 97 #[.val (.long p0), .second, .val (.long p1), .second, .val (.long p2), .second, .val (.int p3), .val (.int p4), .val (.ref b1), .val (.int z5), .val (.int z6), .val (.long z8), .second, .val (.long z9), .second, .val (.int z10), .unset, .unset, .unset, .unset, .unset, .unset] [(.int z10), (.long z8)])
      refine hp (fun tq kq => XS.lushr X4.here hx rfl (hb hby at_97) rfl kq) ?_
      show G T4 (mkF m 98 #[.val (.long p0), .second, .val (.long p1), .second, .val (.long p2), .second, .val (.int p3), .val (.int p4), .val (.ref b1), .val (.int z5), .val (.int z6), .val (.long z8), .second, .val (.long z9), .second, .val (.int z10), .unset, .unset, .unset, .unset, .unset, .unset] [(.long ((z8.toUInt64 >>> (z10 &&& 0x3f).toInt64.toUInt64).toInt64))])
      refine hp (fun tq kq => XS.lload X4.here hx rfl (hb hby at_98) rfl kq) ?_
      show G T4 (mkF m 100 #[.val (.long p0), .second, .val (.long p1), .second, .val (.long p2), .second, .val (.int p3), .val (.int p4), .val (.ref b1), .val (.int z5), .val (.int z6), .val (.long z8), .second, .val (.long z9), .second, .val (.int z10), .unset, .unset, .unset, .unset, .unset, .unset] [(.long z9), (.long ((z8.toUInt64 >>> (z10 &&& 0x3f).toInt64.toUInt64).toInt64))])
      refine hp (fun tq kq => XS.bipush X4.here hx rfl (hb hby at_100) kq) ?_
      show G T4 (mkF m 102 #[.val (.long p0), .second, .val (.long p1), .second, .val (.long p2), .second, .val (.int p3), .val (.int p4), .val (.ref b1), .val (.int z5), .val (.int z6), .val (.long z8), .second, .val (.long z9), .second, .val (.int z10), .unset, .unset, .unset, .unset, .unset, .unset] [(.int (64 : Int32)), (.long z9), (.long ((z8.toUInt64 >>> (z10 &&& 0x3f).toInt64.toUInt64).toInt64))])
      refine hp (fun tq kq => XS.iload X4.here hx rfl (hb hby at_102) rfl kq) ?_
      show G T4 (mkF m 104 #[.val (.long p0), .second, .val (.long p1), .second, .val (.long p2), .second, .val (.int p3), .val (.int p4), .val (.ref b1), .val (.int z5), .val (.int z6), .val (.long z8), .second, .val (.long z9), .second, .val (.int z10), .unset, .unset, .unset, .unset, .unset, .unset] [(.int z10), (.int (64 : Int32)), (.long z9), (.long ((z8.toUInt64 >>> (z10 &&& 0x3f).toInt64.toUInt64).toInt64))])
      refine hp (fun tq kq => XS.isub X4.here hx rfl (hb hby at_104) rfl kq) ?_
      show G T4 (mkF m 105 #[.val (.long p0), .second, .val (.long p1), .second, .val (.long p2), .second, .val (.int p3), .val (.int p4), .val (.ref b1), .val (.int z5), .val (.int z6), .val (.long z8), .second, .val (.long z9), .second, .val (.int z10), .unset, .unset, .unset, .unset, .unset, .unset] [(.int ((64 : Int32) - z10)), (.long z9), (.long ((z8.toUInt64 >>> (z10 &&& 0x3f).toInt64.toUInt64).toInt64))])
      refine hp (fun tq kq => XS.lshl X4.here hx rfl (hb hby at_105) rfl kq) ?_
      show G T4 (mkF m 106 #[.val (.long p0), .second, .val (.long p1), .second, .val (.long p2), .second, .val (.int p3), .val (.int p4), .val (.ref b1), .val (.int z5), .val (.int z6), .val (.long z8), .second, .val (.long z9), .second, .val (.int z10), .unset, .unset, .unset, .unset, .unset, .unset] [(.long (z9 <<< (((64 : Int32) - z10) &&& 0x3f).toInt64)), (.long ((z8.toUInt64 >>> (z10 &&& 0x3f).toInt64.toUInt64).toInt64))])
      refine hp (fun tq kq => XS.lor X4.here hx rfl (hb hby at_106) rfl kq) ?_
      show G T4 (mkF m 107 #[.val (.long p0), .second, .val (.long p1), .second, .val (.long p2), .second, .val (.int p3), .val (.int p4), .val (.ref b1), .val (.int z5), .val (.int z6), .val (.long z8), .second, .val (.long z9), .second, .val (.int z10), .unset, .unset, .unset, .unset, .unset, .unset] [(.long (((z8.toUInt64 >>> (z10 &&& 0x3f).toInt64.toUInt64).toInt64) ||| (z9 <<< (((64 : Int32) - z10) &&& 0x3f).toInt64)))])
      refine hp (fun tq kq => XS.lstore X4.here hx rfl (hb hby at_107) rfl (l' := #[.val (.long p0), .second, .val (.long p1), .second, .val (.long p2), .second, .val (.int p3), .val (.int p4), .val (.ref b1), .val (.int z5), .val (.int z6), .val (.long z8), .second, .val (.long z9), .second, .val (.int z10), .val (.long (((z8.toUInt64 >>> (z10 &&& 0x3f).toInt64.toUInt64).toInt64) ||| (z9 <<< (((64 : Int32) - z10) &&& 0x3f).toInt64))), .second, .unset, .unset, .unset, .unset]) rfl kq) ?_
      show G T4 (mkF m 109 #[.val (.long p0), .second, .val (.long p1), .second, .val (.long p2), .second, .val (.int p3), .val (.int p4), .val (.ref b1), .val (.int z5), .val (.int z6), .val (.long z8), .second, .val (.long z9), .second, .val (.int z10), .val (.long (((z8.toUInt64 >>> (z10 &&& 0x3f).toInt64.toUInt64).toInt64) ||| (z9 <<< (((64 : Int32) - z10) &&& 0x3f).toInt64))), .second, .unset, .unset, .unset, .unset] [])
      exact j11 _ ((if_neg hb17)).symm
  by_cases hb18 : z5 < (64 : Int32)
  · refine hp (fun tq kq => XS.icmpNo X4.here hx rfl (hb hby at_51) rfl (tlt hb18).2.1 kq) ?_
    show G T4 (mkF m 54 #[.val (.long p0), .second, .val (.long p1), .second, .val (.long p2), .second, .val (.int p3), .val (.int p4), .val (.ref b1), .val (.int z5), .val (.int z6), .unset, .unset, .unset, .unset, .unset, .unset, .unset, .unset, .unset, .unset, .unset] [])
    refine hp (fun tq kq => XS.lloadN X4.here hx rfl (hb hby at_54) rfl kq) ?_
    show G T4 (mkF m 55 #[.val (.long p0), .second, .val (.long p1), .second, .val (.long p2), .second, .val (.int p3), .val (.int p4), .val (.ref b1), .val (.int z5), .val (.int z6), .unset, .unset, .unset, .unset, .unset, .unset, .unset, .unset, .unset, .unset, .unset] [(.long p0)])
    refine hp (fun tq kq => XS.lstore X4.here hx rfl (hb hby at_55) rfl (l' := #[.val (.long p0), .second, .val (.long p1), .second, .val (.long p2), .second, .val (.int p3), .val (.int p4), .val (.ref b1), .val (.int z5), .val (.int z6), .val (.long p0), .second, .unset, .unset, .unset, .unset, .unset, .unset, .unset, .unset, .unset]) rfl kq) ?_
    show G T4 (mkF m 57 #[.val (.long p0), .second, .val (.long p1), .second, .val (.long p2), .second, .val (.int p3), .val (.int p4), .val (.ref b1), .val (.int z5), .val (.int z6), .val (.long p0), .second, .unset, .unset, .unset, .unset, .unset, .unset, .unset, .unset, .unset] [])
    refine hp (fun tq kq => XS.lloadN X4.here hx rfl (hb hby at_57) rfl kq) ?_
    show G T4 (mkF m 58 #[.val (.long p0), .second, .val (.long p1), .second, .val (.long p2), .second, .val (.int p3), .val (.int p4), .val (.ref b1), .val (.int z5), .val (.int z6), .val (.long p0), .second, .unset, .unset, .unset, .unset, .unset, .unset, .unset, .unset, .unset] [(.long p1)])
    refine hp (fun tq kq => XS.lstore X4.here hx rfl (hb hby at_58) rfl (l' := #[.val (.long p0), .second, .val (.long p1), .second, .val (.long p2), .second, .val (.int p3), .val (.int p4), .val (.ref b1), .val (.int z5), .val (.int z6), .val (.long p0), .second, .val (.long p1), .second, .unset, .unset, .unset, .unset, .unset, .unset, .unset]) rfl kq) ?_
    show G T4 (mkF m 60 #[.val (.long p0), .second, .val (.long p1), .second, .val (.long p2), .second, .val (.int p3), .val (.int p4), .val (.ref b1), .val (.int z5), .val (.int z6), .val (.long p0), .second, .val (.long p1), .second, .unset, .unset, .unset, .unset, .unset, .unset, .unset] [])
    refine hp (fun tq kq => XS.iload X4.here hx rfl (hb hby at_60) rfl kq) ?_
    show G T4 (mkF m 62 #[.val (.long p0), .second, .val (.long p1), .second, .val (.long p2), .second, .val (.int p3), .val (.int p4), .val (.ref b1), .val (.int z5), .val (.int z6), .val (.long p0), .second, .val (.long p1), .second, .unset, .unset, .unset, .unset, .unset, .unset, .unset] [(.int z5)])
    refine hp (fun tq kq => XS.istore X4.here hx rfl (hb hby at_62) rfl (l' := #[.val (.long p0), .second, .val (.long p1), .second, .val (.long p2), .second, .val (.int p3), .val (.int p4), .val (.ref b1), .val (.int z5), .val (.int z6), .val (.long p0), .second, .val (.long p1), .second, .val (.int z5), .unset, .unset, .unset, .unset, .unset, .unset]) rfl kq) ?_
    show G T4 (mkF m 64 #[.val (.long p0), .second, .val (.long p1), .second, .val (.long p2), .second, .val (.int p3), .val (.int p4), .val (.ref b1), .val (.int z5), .val (.int z6), .val (.long p0), .second, .val (.long p1), .second, .val (.int z5), .unset, .unset, .unset, .unset, .unset, .unset] [])
    refine hp (fun tq kq => XS.goto X4.here hx rfl (pc0 := 64) (pc' := 81) rfl (hb hby at_64) (by decide) (by decide) kq) ?_
    show G T4 (mkF m 81 #[.val (.long p0), .second, .val (.long p1), .second, .val (.long p2), .second, .val (.int p3), .val (.int p4), .val (.ref b1), .val (.int z5), .val (.int z6), .val (.long p0), .second, .val (.long p1), .second, .val (.int z5), .unset, .unset, .unset, .unset, .unset, .unset] [])
    exact j7 _ _ _ ((if_pos hb18)).symm ((if_pos hb18)).symm ((if_pos hb18)).symm
  · refine hp (fun tq kq => XS.icmpYes X4.here hx rfl (pc0 := 51) (pc' := 67) rfl (hb hby at_51) rfl (flt hb18).2.1 (by decide) (by decide) kq) ?_
    show G T4 (mkF m 67 #[.val (.long p0), .second, .val (.long p1), .second, .val (.long p2), .second, .val (.int p3), .val (.int p4), .val (.ref b1), .val (.int z5), .val (.int z6), .unset, .unset, .unset, .unset, .unset, .unset, .unset, .unset, .unset, .unset, .unset] [])
    refine hp (fun tq kq => XS.lloadN X4.here hx rfl (hb hby at_67) rfl kq) ?_
    show G T4 (mkF m 68 #[.val (.long p0), .second, .val (.long p1), .second, .val (.long p2), .second, .val (.int p3), .val (.int p4), .val (.ref b1), .val (.int z5), .val (.int z6), .unset, .unset, .unset, .unset, .unset, .unset, .unset, .unset, .unset, .unset, .unset] [(.long p1)])
    refine hp (fun tq kq => XS.lstore X4.here hx rfl (hb hby at_68) rfl (l' := #[.val (.long p0), .second, .val (.long p1), .second, .val (.long p2), .second, .val (.int p3), .val (.int p4), .val (.ref b1), .val (.int z5), .val (.int z6), .val (.long p1), .second, .unset, .unset, .unset, .unset, .unset, .unset, .unset, .unset, .unset]) rfl kq) ?_
    show G T4 (mkF m 70 #[.val (.long p0), .second, .val (.long p1), .second, .val (.long p2), .second, .val (.int p3), .val (.int p4), .val (.ref b1), .val (.int z5), .val (.int z6), .val (.long p1), .second, .unset, .unset, .unset, .unset, .unset, .unset, .unset, .unset, .unset] [])
    refine hp (fun tq kq => XS.lload X4.here hx rfl (hb hby at_70) rfl kq) ?_
    show G T4 (mkF m 72 #[.val (.long p0), .second, .val (.long p1), .second, .val (.long p2), .second, .val (.int p3), .val (.int p4), .val (.ref b1), .val (.int z5), .val (.int z6), .val (.long p1), .second, .unset, .unset, .unset, .unset, .unset, .unset, .unset, .unset, .unset] [(.long p2)])
    refine hp (fun tq kq => XS.lstore X4.here hx rfl (hb hby at_72) rfl (l' := #[.val (.long p0), .second, .val (.long p1), .second, .val (.long p2), .second, .val (.int p3), .val (.int p4), .val (.ref b1), .val (.int z5), .val (.int z6), .val (.long p1), .second, .val (.long p2), .second, .unset, .unset, .unset, .unset, .unset, .unset, .unset]) rfl kq) ?_
    show G T4 (mkF m 74 #[.val (.long p0), .second, .val (.long p1), .second, .val (.long p2), .second, .val (.int p3), .val (.int p4), .val (.ref b1), .val (.int z5), .val (.int z6), .val (.long p1), .second, .val (.long p2), .second, .unset, .unset, .unset, .unset, .unset, .unset, .unset] [])
    refine hp (fun tq kq => XS.iload X4.here hx rfl (hb hby at_74) rfl kq) ?_
    show G T4 (mkF m 76 #[.val (.long p0), .second, .val (.long p1), .second, .val (.long p2), .second, .val (.int p3), .val (.int p4), .val (.ref b1), .val (.int z5), .val (.int z6), .val (.long p1), .second, .val (.long p2), .second, .unset, .unset, .unset, .unset, .unset, .unset, .unset] [(.int z5)])
    refine hp (fun tq kq => XS.bipush X4.here hx rfl (hb hby at_76) kq) ?_
    show G T4 (mkF m 78 #[.val (.long p0), .second, .val (.long p1), .second, .val (.long p2), .second, .val (.int p3), .val (.int p4), .val (.ref b1), .val (.int z5), .val (.int z6), .val (.long p1), .second, .val (.long p2), .second, .unset, .unset, .unset, .unset, .unset, .unset, .unset] [(.int (64 : Int32)), (.int z5)])
    refine hp (fun tq kq => XS.isub X4.here hx rfl (hb hby at_78) rfl kq) ?_
    show G T4 (mkF m 79 #[.val (.long p0), .second, .val (.long p1), .second, .val (.long p2), .second, .val (.int p3), .val (.int p4), .val (.ref b1), .val (.int z5), .val (.int z6), .val (.long p1), .second, .val (.long p2), .second, .unset, .unset, .unset, .unset, .unset, .unset, .unset] [(.int (z5 - (64 : Int32)))])
    refine hp (fun tq kq => XS.istore X4.here hx rfl (hb hby at_79) rfl (l' := #[.val (.long p0), .second, .val (.long p1), .second, .val (.long p2), .second, .val (.int p3), .val (.int p4), .val (.ref b1), .val (.int z5), .val (.int z6), .val (.long p1), .second, .val (.long p2), .second, .val (.int (z5 - (64 : Int32))), .unset, .unset, .unset, .unset, .unset, .unset]) rfl kq) ?_
    show G T4 (mkF m 81 #[.val (.long p0), .second, .val (.long p1), .second, .val (.long p2), .second, .val (.int p3), .val (.int p4), .val (.ref b1), .val (.int z5), .val (.int z6), .val (.long p1), .second, .val (.long p2), .second, .val (.int (z5 - (64 : Int32))), .unset, .unset, .unset, .unset, .unset, .unset] [])
    exact j7 _ _ _ ((if_neg hb18)).symm ((if_neg hb18)).symm ((if_neg hb18)).symm
set_option maxRecDepth 65536 in
set_option maxHeartbeats 40000000 in
theorem comes_1 {Post : Tables → Env → Array Value → State → Outcome → State → Prop} (hpost : ∀ tb e args s v u, (limb_1_1.after args s (.returned v) u = true ∧ limb_1_2.after args s (.returned v) u = true ∧ True) → FrameEnd s (.returned v) u (Jvm.fieldLocs frame_1_writes args s ++ Jvm.arrayLocs frame_1_arrays args s ++ Jvm.staticLocs frame_1_statics s) 16 128 → Post tb e args s (.returned v) u) :
    ArmFor flags0 classFile x code maxLocals ret World_1 tables_1 room_1 Calls_1 rest_1 Pre_1 Post := by
  intro l hfl _ _ p e ha hc hk s m args below hf hA hF happ hP
  obtain ⟨hcalls, hrest, hpre⟩ := hP
  obtain ⟨-, -, -, hnamed, -, -, -, hat⟩ := (Spec.applies_iff hf).mp happ
  obtain ⟨hg, hn⟩ := and_e (Cond.before_iff.mp (show (Jvm.Cond.and given_1 narrow_1).before args s = true from hpre))
  obtain ⟨hcnt, hgs⟩ := and_e hg
  obtain ⟨ha0, hgs⟩ := and_e hgs
  obtain ⟨ha1, hgs⟩ := and_e hgs
  obtain ⟨ha2, hgs⟩ := and_e hgs
  obtain ⟨ha3, hgs⟩ := and_e hgs
  have ha4 := hgs
  obtain ⟨w0, w1, w2, w3, w4, rfl⟩ : ∃ w0 w1 w2 w3 w4 : Value, args = #[w0, w1, w2, w3, w4] := by
    have hs : args.size = 5 := by simpa [Cond.value, given_1] using hcnt
    obtain ⟨L⟩ := args
    match L, hs with
    | [w0, w1, w2, w3, w4], _ => exact ⟨w0, w1, w2, w3, w4, rfl⟩
  have hw := fun d (hd : d ∈ tables_1) => atoms_spec (ws := Jvm.Cond.code x code maxLocals ret :: tables_1) hat d (List.mem_cons_of_mem _ hd)
  obtain ⟨i0, ei0⟩ := isL_v ha0
  obtain rfl : w0 = (.long i0) := Option.some.inj ei0
  obtain ⟨i1, ei1⟩ := isL_v ha1
  obtain rfl : w1 = (.long i1) := Option.some.inj ei1
  obtain ⟨i2, ei2⟩ := isL_v ha2
  obtain rfl : w2 = (.long i2) := Option.some.inj ei2
  obtain ⟨i3, ei3⟩ := is_v ha3
  obtain rfl : w3 = (.int i3) := Option.some.inj ei3
  obtain ⟨i4, ei4⟩ := is_v ha4
  obtain rfl : w4 = (.int i4) := Option.some.inj ei4
  obtain ⟨n, o, h1, h2, h3, _, L, rfl, ⟨rfl, N⟩, hq⟩ := rm0 l s _ hw tables_1 i0 i1 i2 i3 i4 s.heap s.heap.size (Nat.le_refl _) p e ha hc hk s m _ below hf ((Spec.applies_iff_loose hf).mp happ).1 ⟨rfl, State.Warmed39.refl s, rfl⟩ trivial
  exact ⟨n, _, h1, h2, h3, hpost _ _ _ _ _ _ ⟨Cond.after_iff.mpr rfl, Cond.after_iff.mpr (eq_i res_at (Term.int_eval (1)) rfl), trivial⟩ ⟨hq.1, hq.2.1, (hq.2.2.sift fun y hy => Or.inr (N y hy)).mono (by decide) (by decide)⟩⟩
theorem main_1_1 : Claimed_1_1 := comes_1 fun _ _ _ _ _ _ h hF => ⟨h.1, hF⟩
theorem main_1_2 : Claimed_1_2 := comes_1 fun _ _ _ _ _ _ h hF => ⟨h.2.1, hF⟩
end Jvm.Pilot.@@N@@
namespace Jvm.Pilot.@@N@@
open Jvm Jvm.ClassFile Sem Op Lib Jvm.Free Jvm.Stand Jvm.Pilot.@@N@@.Jvm.D
/-! MADE BY PROGRAM (witnessworld.py) out of the Statement's table words and the real class files: 9 classes; the members and pool entries that the words name. The judged class is class 1, her method 2. -/
namespace start1
open Jvm.ClassFile
def u (s : String) : CpInfo := .utf8 (stringToUtf16 s)
/-- a pool by its gaps: so many unusable entries, then the entry; so many at the end -/
def gap : Nat → List CpInfo → List CpInfo
  | 0, r => r
  | n + 1, r => .unusable :: gap n r
def poolList (es : List (Nat × CpInfo)) (last : Nat) : List CpInfo := es.foldr (fun e r => gap e.1 (e.2 :: r)) (gap last [])
def pool (es : List (Nat × CpInfo)) (last : Nat) : Array CpInfo := ⟨poolList es last⟩
def fileOf (pool : Array CpInfo) (this : Nat) (attrs : Array Attribute := #[]) (ms : Array MethodInfo := #[]) (fl : Nat := 33) (sup : Nat := 0) (ifs : Array Nat := #[]) (fds : Array FieldInfo := #[]) : ClassFile where
  minorVersion := 0
  majorVersion := 65
  constantPool := pool
  accessFlags := fl
  thisClass := this
  superClass := sup
  interfaces := ifs
  fields := fds
  methods := ms
  attributes := attrs
def plain (name : String) (sup : Option ClassId) : Class where
  name := name
  kind := .ordinary
  loader := none
  accessFlags := 33
  super := sup
  interfaces := #[]
  cf := none
  fields := #[]
  methods := #[]
  instanceTypes := #[]
  staticTypes := #[]
  resolved := #[]
  callSites := []
  init := .initialized
  statics := none
  mirror := none

def pool0 : Array CpInfo := pool [(5, u "<init>"), (0, u "()V"), (1, .class_ 10), (1, u "java/lang/Object")] 113

def k0m0 : Method := { name := "<init>", desc := "()V", sig := { parameters := [], returnType := none }, accessFlags := 1, code := none }
/-- java/lang/Object -/
def k0 : Class := { plain "java/lang/Object" none with
  accessFlags := 33
  interfaces := #[]
  cf := some (fileOf pool0 8 #[] #[{ accessFlags := 1, nameIndex := 5, descriptorIndex := 6, attributes := #[] }] 33 0 #[] #[])
  fields := #[]
  methods := #[k0m0]
  instanceTypes := #[]
  staticTypes := #[]
  resolved := Array.replicate 124 none
  statics := none }

def pool1 : Array CpInfo := pool [(2, .class_ 4), (1, u "java/lang/Object"), (0, u "<init>"), (0, u "()V"), (0, .methodref 8 9), (0, .class_ 10), (0, .nameAndType 11 12), (0, u "com/example/lakebed/lakebed/core/parquet/LittleEndianReadBitsPinLaw"), (0, u "put"), (0, u "([BIJ)V"), (0, .integer 2147483647), (0, .methodref 15 16), (0, .class_ 17), (0, .nameAndType 18 19), (0, u "com/example/lakebed/lakebed/core/parquet/LittleEndian"), (0, u "readBits"), (0, u "([BJI)J"), (2, u "law"), (0, u "(JJJII)Z")] 5

def k1m0 : Method := { name := "<init>", desc := "()V", sig := { parameters := [], returnType := none }, accessFlags := 2, code := none }
def k1c1 : Code := { maxStack := 5, maxLocals := 4, code := method_2_code, exceptionTable := #[], attributes := #[] }
def k1m1 : Method := { name := "put", desc := "([BIJ)V", sig := { parameters := [(.array .byte), .int, .long], returnType := none }, accessFlags := 10, code := some k1c1 }
def k1c2 : Code := { maxStack := 6, maxLocals := 22, code := code, exceptionTable := #[], attributes := #[] }
def k1m2 : Method := { name := "law", desc := "(JJJII)Z", sig := { parameters := [.long, .long, .long, .int, .int], returnType := some .boolean }, accessFlags := 9, code := some k1c2 }
/-- com/example/lakebed/lakebed/core/parquet/LittleEndianReadBitsPinLaw -/
def k1 : Class := { plain "com/example/lakebed/lakebed/core/parquet/LittleEndianReadBitsPinLaw" (some 0) with
  accessFlags := 49
  interfaces := #[]
  cf := some (fileOf pool1 8 #[] #[{ accessFlags := 2, nameIndex := 5, descriptorIndex := 6, attributes := #[] }, { accessFlags := 10, nameIndex := 11, descriptorIndex := 12, attributes := #[] }, { accessFlags := 9, nameIndex := 22, descriptorIndex := 23, attributes := #[] }] 49 2 #[] #[])
  fields := #[]
  methods := #[k1m0, k1m1, k1m2]
  instanceTypes := #[]
  staticTypes := #[]
  resolved := Array.replicate 29 none
  statics := none }

def pool2 : Array CpInfo := pool [(2, .class_ 4), (1, u "java/lang/Object"), (0, u "<init>"), (0, u "()V"), (1, .class_ 10), (1, u "com/example/lakebed/lakebed/core/parquet/LittleEndian"), (8, .long 8), (17, u "readBits"), (0, u "([BJI)J")] 11

def k2m0 : Method := { name := "<init>", desc := "()V", sig := { parameters := [], returnType := none }, accessFlags := 2, code := none }
def k2c1 : Code := { maxStack := 7, maxLocals := 10, code := prog_51_method_4_code, exceptionTable := #[], attributes := #[] }
def k2m1 : Method := { name := "readBits", desc := "([BJI)J", sig := { parameters := [(.array .byte), .long, .int], returnType := some .long }, accessFlags := 8, code := some k2c1 }
/-- com/example/lakebed/lakebed/core/parquet/LittleEndian -/
def k2 : Class := { plain "com/example/lakebed/lakebed/core/parquet/LittleEndian" (some 0) with
  accessFlags := 48
  interfaces := #[]
  cf := some (fileOf pool2 8 #[] #[{ accessFlags := 2, nameIndex := 5, descriptorIndex := 6, attributes := #[] }, { accessFlags := 8, nameIndex := 37, descriptorIndex := 38, attributes := #[] }] 48 2 #[] #[])
  fields := #[]
  methods := #[k2m0, k2m1]
  instanceTypes := #[]
  staticTypes := #[]
  resolved := Array.replicate 50 none
  statics := none }

def pool3 : Array CpInfo := pool [(1, u "java/lang/Cloneable"), (0, .class_ 1), (0, u "java/lang/Object"), (0, .class_ 3)] 3

/-- java/lang/Cloneable -/
def k3 : Class := { plain "java/lang/Cloneable" (some 0) with
  accessFlags := 1537
  interfaces := #[]
  cf := some (fileOf pool3 2 #[] #[] 1537 4 #[] #[])
  fields := #[]
  methods := #[]
  instanceTypes := #[]
  staticTypes := #[]
  resolved := Array.replicate 8 none
  statics := none }

def pool4 : Array CpInfo := pool [(1, u "java/io/Serializable"), (0, .class_ 1), (0, u "java/lang/Object"), (0, .class_ 3)] 3

/-- java/io/Serializable -/
def k4 : Class := { plain "java/io/Serializable" (some 0) with
  accessFlags := 1537
  interfaces := #[]
  cf := some (fileOf pool4 2 #[] #[] 1537 4 #[] #[])
  fields := #[]
  methods := #[]
  instanceTypes := #[]
  staticTypes := #[]
  resolved := Array.replicate 8 none
  statics := none }

/-- the primitive byte -/
def k5 : Class := { plain "byte" none with kind := .primitive 'B', accessFlags := 0x411 }
/-- [B -/
def k6 : Class := { plain "[B" (some 0) with kind := .array 5 .byte, interfaces := #[3, 4], accessFlags := 1041 }

/-- the primitive int -/
def k7 : Class := { plain "int" none with kind := .primitive 'I', accessFlags := 0x411 }
/-- [I -/
def k8 : Class := { plain "[I" (some 0) with kind := .array 7 .int, interfaces := #[3, 4], accessFlags := 1041 }

def heap : Heap := #[]
def classes : Array Class := #[k0, k1, k2, k3, k4, k5, k6, k7, k8]
def interned : List (Array UInt16 × Addr) := []
def slotsUsed : Nat := 0
def theMethod : MethodId := ⟨1, 2⟩
def args0 : Array Value := #[.long 77, .long 5, .long 3, .int 5, .int 9]
def aboutOver (below : List Frame) : State where
  vm := { classes := classes, interned := interned.toArray }
  heap := heap
  slotsUsed := slotsUsed
  threads := #[{ frames := .invoking theMethod args0 :: below }]
def below0 : List Frame := [.native { method := ⟨0, 0⟩, args := #[] }]
def about1 : State := aboutOver below0
def p0 : Program := .bare "" "" ""
def e0 : Env := launch0.env 0 0 0
theorem w_frames : about1.frames = Frame.invoking theMethod args0 :: below0 := rfl
set_option maxRecDepth 65536 in
theorem w_args : argsFit about1.vm theMethod args0 = true := by decide +kernel
set_option maxRecDepth 65536 in
theorem w_heap : heapFits about1 = true := by decide +kernel
set_option maxRecDepth 65536 in
theorem w_runnable : about1.curStatus? = some .runnable := by decide +kernel
set_option maxRecDepth 65536 in
theorem w_alone : about1.alone = true := by decide +kernel
set_option maxRecDepth 65536 in
theorem w_named : about1.methodNamed? x = some theMethod := by decide +kernel
set_option maxRecDepth 65536 in
theorem w_hears : about1.hears theMethod below0 = true := by decide +kernel
set_option maxRecDepth 65536 in
theorem w_ripe : about1.ripe theMethod args0 below0 = true := by decide +kernel
theorem w_running : about1.status = .running := rfl
set_option maxRecDepth 65536 in
theorem w_room : about1.hasRoom e0.platform room_1 = true :=
  launch0.hasRoom_least _ room_1 (by decide +kernel) (by decide +kernel) (by decide +kernel) (by decide +kernel) (by decide +kernel) (by decide +kernel)
theorem allAtoms_all (ts : List Jvm.Cond) (a : Array Jvm.Value) (st : Jvm.State) : (allAtoms ts).before a st = ts.all (fun c => c.before a st) := by
  induction ts with
  | nil => rfl
  | cons c t ih =>
    show (Jvm.Cond.and c (allAtoms t)).before a st = _
    rw [Jvm.Cond.before_and, ih, List.all_cons]
def words1 : List Jvm.Cond := Jvm.Cond.code x code maxLocals ret :: tables_1
/-- a 'code' word, met by the world's own term for the bytes: nothing is compared byte by byte -/
theorem code_word {y : MethodName} {bytes : ByteArray} {mx : Nat} {rt : Option FieldType} {a : Array Value} {s : State} {m : MethodId} {meth : Method} {c : Code} (h1 : s.methodNamed? y = some m) (h2 : s.vm.method? m = some meth) (h3 : meth.code = some c) (h4 : c.code = bytes)
    (h5 : (c.maxLocals == mx && c.exceptionTable.isEmpty && decide (c.maxStack ≤ mostOperands) && decide (meth.sig.returnType = rt) && !meth.locks && decide (parseMethodDescriptor y.desc = some meth.sig)) = true) : (Jvm.Cond.code y bytes mx rt).before a s = true := by
  simp only [Bool.and_eq_true, beq_iff_eq, Bool.not_eq_true', decide_eq_true_eq] at h5
  obtain ⟨⟨⟨⟨⟨g1, g2⟩, g3⟩, g4⟩, g5⟩, g6⟩ := h5
  simp [Cond.before, Cond.holds, Cond.value, h1, h2, h3, h4, g1, g2, g3, g4, g5, g6]
def isCode : Jvm.Cond → Bool
  | .code _ _ _ _ => true
  | _ => false
theorem all_split {L : List Jvm.Cond} {P : Jvm.Cond → Bool} (h1 : L.all (fun c => isCode c || P c) = true) (h2 : ∀ c ∈ L.filter isCode, P c = true) : L.all P = true := by
  refine List.all_eq_true.mpr fun c hc => ?_
  have h := List.all_eq_true.mp h1 c hc
  rcases Bool.eq_false_or_eq_true (isCode c) with hi | hi
  · exact h2 c (List.mem_filter.mpr ⟨hc, hi⟩)
  · simpa [hi] using h
set_option maxRecDepth 65536 in
theorem w_c0 : (Jvm.Cond.code x code maxLocals ret).before args0 about1 = true := code_word (m := ⟨1, 2⟩) (meth := k1m2) (c := k1c2) (by decide +kernel) rfl rfl rfl (by decide +kernel)
set_option maxRecDepth 65536 in
theorem w_c1 : (Jvm.Cond.code ({ cls := "com/example/lakebed/lakebed/core/parquet/LittleEndianReadBitsPinLaw", name := "put", desc := "([BIJ)V" } : Jvm.MethodName) method_2_code (4 : Nat) (Option.none : Option Jvm.ClassFile.FieldType)).before args0 about1 = true := code_word (m := ⟨1, 1⟩) (meth := k1m1) (c := k1c1) (by decide +kernel) rfl rfl rfl (by decide +kernel)
set_option maxRecDepth 65536 in
theorem w_c2 : (Jvm.Cond.code ({ cls := "com/example/lakebed/lakebed/core/parquet/LittleEndian", name := "readBits", desc := "([BJI)J" } : Jvm.MethodName) prog_51_method_4_code (10 : Nat) (Option.some Jvm.ClassFile.FieldType.long)).before args0 about1 = true := code_word (m := ⟨2, 1⟩) (meth := k2m1) (c := k2c1) (by decide +kernel) rfl rfl rfl (by decide +kernel)
def codes1 : List Jvm.Cond := [Jvm.Cond.code x code maxLocals ret, Jvm.Cond.code ({ cls := "com/example/lakebed/lakebed/core/parquet/LittleEndianReadBitsPinLaw", name := "put", desc := "([BIJ)V" } : Jvm.MethodName) method_2_code (4 : Nat) (Option.none : Option Jvm.ClassFile.FieldType), Jvm.Cond.code ({ cls := "com/example/lakebed/lakebed/core/parquet/LittleEndian", name := "readBits", desc := "([BJI)J" } : Jvm.MethodName) prog_51_method_4_code (10 : Nat) (Option.some Jvm.ClassFile.FieldType.long)]
set_option maxRecDepth 65536 in
theorem codes_eq : words1.filter isCode = codes1 := rfl
theorem w_codes : ∀ c ∈ words1.filter isCode, c.before args0 about1 = true := by
  rw [codes_eq]
  intro c hc
  simp only [codes1, List.mem_cons, List.not_mem_nil, or_false] at hc
  rcases hc with rfl | rfl | rfl
  · exact w_c0
  · exact w_c1
  · exact w_c2
set_option maxRecDepth 65536 in
theorem w_t1 : words1.all (fun c => isCode c || c.before args0 about1) = true := by decide +kernel
theorem w_tables : (allAtoms (Jvm.Cond.code x code maxLocals ret :: tables_1)).before args0 about1 = true := by
  rw [allAtoms_all]
  show words1.all (fun c => c.before args0 about1) = true
  refine all_split ?_ w_codes
  rw [w_t1]
set_option maxRecDepth 65536 in
theorem w_case : (Jvm.Cond.and given_1 narrow_1).before args0 about1 = true := by decide +kernel
theorem w_applies : (headSpec (Jvm.Cond.code x code maxLocals ret :: tables_1) room_1).applies x e0.platform about1 = true :=
  (Spec.applies_iff w_frames).mpr ⟨w_running, w_runnable, w_alone, w_named, w_hears, w_ripe, w_room, w_tables⟩
theorem atStart : AtStart classFile x code maxLocals ret World_1 tables_1 room_1 Calls_1 rest_1 Pre_1 launch0 p0 e0 about1 theMethod args0 below0 :=
  ⟨lists_1, trivial, launch0.admits_env _ _ _, launch0.least_env, fairChoices_fair.cas, fairChoices_fair.clock, w_frames, w_args, w_heap, w_applies, trivial, trivial, w_case⟩
end start1
theorem witness_1 : WitnessClaimed_1 := ⟨start1.p0, start1.e0, start1.about1, start1.theMethod, start1.args0, start1.below0, start1.atStart⟩
end Jvm.Pilot.@@N@@
