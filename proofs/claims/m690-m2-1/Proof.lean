import JvmDerived
import JvmDerived.Pilot.@@N@@Statement
import JvmDerived.Pilot.@@N@@Code
set_option linter.unusedVariables false
set_option linter.unusedSimpArgs false
namespace Jvm.RoadKit
open Sem ClassFile Op Lib Jvm.Stand Jvm.Free Jvm.LawKit
section New
variable {p : Program} {l : Launch} {e : Env} {R : Room} {s : State} {m : MethodId} {args : Array Value} {below : List Frame} {meth : Method} {c : Code} {T : State} {locs : List Loc} {cells slots : Nat}
theorem retI (X : Stand p l e R s m args below meth c T locs cells slots) (hx : p.tables.exec = Jvm.exec) {pc : Nat} {Ls : Array Slot} {z : Int32} {rest : List Value} (hret : meth.sig.returnType = some .int) (hd : decode c.code pc = .ok (.ireturn, 1)) {fs : List Frame}
    (hl : ∀ (f : JFrame) (acts : List Action), f.method = m → f.locked = none → f.entered = [] → (doReturn e (T.setTop f) acts (some (.int z))).1 = T.setFrames fs) : Steps p.tables e below (T.setTop (mkF m pc Ls (.int z :: rest))) (T.setFrames fs) := by
  have hm' : T.vm.method? m = some meth := X.method'
  have hn : narrow .int (.int z) = .int z := rfl
  show Steps p.tables e below (T.setTop { method := m, pc := pc, locals := Ls, stack := _ :: rest, locked := none }) _
  jvm_step X.here [X.here.top, hx, hd, hm', hret, hn]
  first | (intro acts; rw [hl _ acts rfl rfl rfl]) | rw [hl _ _ rfl rfl rfl]
  exact Steps.refl _
end New
end Jvm.RoadKit
namespace Jvm.Pilot.@@N@@
open Jvm Jvm.ClassFile Sem Op Lib Jvm.Free Jvm.Stand Jvm.LawKit Jvm.RoadKit Bundle Jvm.Pilot.@@N@@.Jvm.D
/-! 1. own frame of the walks: a goal 'G T f' says: from the state T with the top frame f the body comes to its end as its contract says. G is kept opaque in a walk: own_Pre steps it back, own_Ret ends it. -/
abbrev own_Pre (p : Program) (e : Env) (below : List Frame) (G : State → JFrame → Prop) : Prop :=
  ∀ {T T2 : State} {f f2 : JFrame}, (∀ t, Steps p.tables e below (T2.setTop f2) t → Steps p.tables e below (T.setTop f) t) → G T2 f2 → G T f
abbrev own_Lv (p : Program) (e : Env) (below : List Frame) (m : MethodId) (T : State) (f : JFrame) (v : Option Value) : Prop :=
  ∀ fs, (∀ (f : JFrame) (acts : List Action), f.method = m → f.locked = none → f.entered = [] → (doReturn e (T.setTop f) acts v).1 = T.setFrames fs) → Steps p.tables e below (T.setTop f) (T.setFrames fs)
abbrev own_Ret (p : Program) (l : Launch) (e : Env) (R : Room) (s : State) (m : MethodId) (as' : Array Value) (below : List Frame) (meth : Method) (c : Code) (Q : Option Value → Heap → List Loc → Prop) (C S : Nat) (G : State → JFrame → Prop) : Prop :=
  ∀ {T : State} {locs : List Loc} {cells slots : Nat} {f : JFrame} {v : Option Value}, Stand p l e R s m as' below meth c T locs cells slots → own_Lv p e below m T f v → (meth.sig.returnType = none → v = none) → Q v T.heap locs → cells ≤ C → slots ≤ S → G T f
theorem own_contract {l : Launch} {Z : State} {y : MethodName} {bytes : ByteArray} {maxL : Nat} {ret : Option FieldType} {ws : List Jvm.Cond} {rm : Room} {as' : Array Value} {h0 : Heap} {Q : Option Value → Heap → List Loc → Prop} {Ls : Array Slot}
    (hpl : plainFor y = true) (hef : ∀ m, entryFrame m as' maxL = mkF m 0 Ls [])
    (H : ∀ (p : Program) (e : Env) (s : State) (m : MethodId) (below : List Frame) (meth : Method) (c : Code) (s₁ : State) (G : State → JFrame → Prop),
      p.tables.exec = Jvm.exec → c.code = bytes → c.maxLocals = maxL → s.vm.findClass y.cls = some m.cls → meth.name = y.name → meth.sig.returnType = ret → Z.Warmed39 s.vm →
      Stand p l e rm s m as' below meth c s₁ [] 0 0 → s₁.heap = h0 → own_Pre p e below G → own_Ret p l e rm s m as' below meth c Q rm.cells rm.slots G → G s₁ (mkF m 0 Ls [])) :
    MetFree l y (head1 (Jvm.Cond.code y bytes maxL ret :: ws) rm) (fun a U => a = as' ∧ Z.Warmed39 U.vm ∧ U.heap = h0) (fun _ _ _ _ _ => True) (fun _ U o U' => ∃ v L, o = .returned v ∧ Q v U'.heap L ∧ FrameEnd U o U' L rm.cells rm.slots) := by
  refine MetFree.of_bodySF hpl hisR ?_
  intro p e s m args below meth c s₁ Bd hml0 hP hK
  obtain ⟨rfl, hZ, hh⟩ := hP
  have X0 : Stand p l e rm s m args below meth c s₁ [] 0 0 := Stand.of_body Bd
  have e0 : s₁.heap = h0 := by rw [← hh, Bd.state]; rfl
  obtain ⟨T', locs, cells, slots, v, X, hst, hv, hQ, hc, hs⟩ := H p e s m below meth c s₁
    (fun T f => ∃ (T' : State) (locs : List Loc) (cells slots : Nat) (v : Option Value), Stand p l e rm s m args below meth c T' locs cells slots ∧
      (∀ fs, (∀ (f : JFrame) (acts : List Action), f.method = m → f.locked = none → f.entered = [] → (doReturn e (T'.setTop f) acts v).1 = T'.setFrames fs) → Steps p.tables e below (T.setTop f) (T'.setFrames fs)) ∧
      (meth.sig.returnType = none → v = none) ∧ Q v T'.heap locs ∧ cells ≤ rm.cells ∧ slots ≤ rm.slots)
    Bd.exec Bd.bytes hml0 (findClass_of_methodNamed Bd.named) (name_of_methodNamed Bd.named Bd.method).1 Bd.returns hZ X0 e0
    (fun {T T2 f f2} hs hG => by
      obtain ⟨T', locs, cells, slots, v, X, hst, r⟩ := hG
      exact ⟨T', locs, cells, slots, v, X, fun fs hl => hs _ (hst fs hl), r⟩)
    (fun {T locs cells slots f v} X hl hv hQ hc hs => ⟨T, locs, cells, slots, v, X, hl, hv, hQ, hc, hs⟩)
  obtain ⟨fs, hr, hrun, hended, hW, hsame⟩ := X.leave hv Bd.notSynchronized
  exact ⟨_, _, castTop (hef m) (hst fs hr), hrun, hended, _, _, rfl, hQ, ⟨_, rfl⟩, hW, hsame.mono hc hs⟩
/-- what a body without a write says: its value, nothing old written, the heap as it was -/
abbrev own_Q (r : Option Value) (h0 : Heap) (n0 : Nat) (v : Option Value) (h : Heap) (L : List Loc) : Prop := v = r ∧ Fr n0 L ∧ h = h0
section Calls
variable {p : Program} {l : Launch} {e : Env} {R : Room} {s : State} {m : MethodId} {args : Array Value} {below : List Frame} {meth : Method} {c : Code} {T : State} {locs : List Loc} {cells slots : Nat} {Z : State} {a0 : Array Value} {h : Heap}
theorem own_callS (X : Stand p l e R s m args below meth c T locs cells slots) (hx : p.tables.exec = Jvm.exec) (hZ : Z.Warmed39 s.vm) {own : String} {index : Nat} {y : MethodName} {bytes : ByteArray} {maxL : Nat} {ret : Option FieldType} {rm : Room} {as' : Array Value} {Q : Option Value → Heap → List Loc → Prop}
    (W : Nat) (hown : s.vm.findClass own = some m.cls) (w1 : (Cond.methodLink own index y).before a0 Z = true) (w2 : (Cond.static y).before a0 Z = true) (w3 : (Cond.initialized y.cls).before a0 Z = true) (w4 : (Cond.code y bytes maxL ret).before a0 Z = true)
    (hy : y.cls ≠ "java/lang/invoke/MethodHandle" ∧ y.cls ≠ "java/lang/invoke/VarHandle")
    (hM : MetFree l y (head1 [Cond.code y bytes maxL ret] rm) (fun a U => a = as' ∧ Z.Warmed39 U.vm ∧ U.heap = h) (fun _ _ _ _ _ => True) (fun _ U o U' => ∃ v L, o = .returned v ∧ Q v U'.heap L ∧ FrameEnd U o U' L rm.cells rm.slots))
    (eT : T.heap = h) (hf : rm.frames + 1 ≤ R.frames) (hl : W + (maxL + 11) + rm.locals ≤ R.locals) {g : JFrame} (hg : g.method = m) (hsize : g.locals.size = c.maxLocals) (argsL rest : List Value) {ps : List FieldType} {r : Option FieldType}
    (hd : parseMethodDescriptor y.desc = some ⟨ps, r⟩) (hlen : argsL.length = ps.length) (hstack : g.stack = argsL.reverse ++ rest) (hW : 2 * g.monitorRoom + (rest.map fun v => v.category).sum ≤ W) (hdg : decode c.code g.pc = .ok (.invokestatic index, 3))
    (has : argsL.toArray = as') (hc : cells + rm.cells ≤ R.cells) (hs : slots + rm.slots ≤ R.slots) :
    ∃ (v : Option Value) (T' : State) (L : List Loc), Stand p l e R s m args below meth c T' (locs ++ L) (cells + rm.cells) (slots + rm.slots) ∧ Q v T'.heap L ∧
      ∀ t, Steps p.tables e below (T'.setTop { g with pc := g.pc + 3, stack := v.toList ++ rest }) t → Steps p.tables e below (T.setTop g) t := by
  obtain ⟨v, _, ⟨T', L', k', n'⟩, -, X', ⟨Lc, hQ, l', y', z'⟩, st⟩ := Jvm.LawKit.callS X hx (y := y) hown (mvT hZ w1) (mvT hZ w2) (mvT hZ w3) (mvT hZ w4) hy (backOf (W := W) hM hZ w4 w3 hf hl) hg hsize (argsL := argsL) (rest := rest) (lenOf hd hlen) hstack hW hdg (fun _ _ => ⟨has, eT, hc, hs⟩)
  dsimp only [Pt.U, Pt.locs, Pt.cells, Pt.slots] at X' l' y' z' st hQ
  subst l' y' z'
  exact ⟨v, T', Lc, X', hQ, st⟩
theorem own_callI (X : Stand p l e R s m args below meth c T locs cells slots) (hx : p.tables.exec = Jvm.exec) (hZ : Z.Warmed39 s.vm) {own : String} {index : Nat} {y : MethodName} {bytes : ByteArray} {maxL : Nat} {rm : Room} {as' : Array Value} {Q : Option Value → Heap → List Loc → Prop}
    (W : Nat) (hy1 : y.name = "<init>") (hown : s.vm.findClass own = some m.cls) (w1 : (Cond.methodLink own index y).before a0 Z = true) (w2 : (Cond.instanceMethod y).before a0 Z = true) (w3 : (Cond.initialized y.cls).before a0 Z = true) (w4 : (Cond.code y bytes maxL none).before a0 Z = true)
    (hy : y.cls ≠ "java/lang/invoke/MethodHandle" ∧ y.cls ≠ "java/lang/invoke/VarHandle")
    (hM : MetFree l y (head1 [Cond.code y bytes maxL none] rm) (fun a U => a = as' ∧ Z.Warmed39 U.vm ∧ U.heap = h) (fun _ _ _ _ _ => True) (fun _ U o U' => ∃ v L, o = .returned v ∧ Q v U'.heap L ∧ FrameEnd U o U' L rm.cells rm.slots))
    (eT : T.heap = h) (hf : rm.frames + 1 ≤ R.frames) (hl : W + (maxL + 11) + rm.locals ≤ R.locals) {g : JFrame} (hg : g.method = m) (hsize : g.locals.size = c.maxLocals) (a : Addr) (argsL rest : List Value) {ps : List FieldType} {r : Option FieldType}
    (hd : parseMethodDescriptor y.desc = some ⟨ps, r⟩) (hlen : argsL.length = ps.length) (hstack : g.stack = argsL.reverse ++ .ref a :: rest) (hW : 2 * g.monitorRoom + (rest.map fun v => v.category).sum ≤ W) (hdg : decode c.code g.pc = .ok (.invokespecial index, 3))
    (has : (.ref a :: argsL).toArray = as') (hc : cells + rm.cells ≤ R.cells) (hs : slots + rm.slots ≤ R.slots) :
    ∃ (v : Option Value) (T' : State) (L : List Loc), Stand p l e R s m args below meth c T' (locs ++ L) (cells + rm.cells) (slots + rm.slots) ∧ Q v T'.heap L ∧
      ∀ t, Steps p.tables e below (T'.setTop { g with pc := g.pc + 3, stack := v.toList ++ rest }) t → Steps p.tables e below (T.setTop g) t := by
  obtain ⟨v, _, ⟨T', L', k', n'⟩, -, X', ⟨Lc, hQ, l', y', z'⟩, st⟩ := X.specialBack hx (y := y) hy1 hown (mvT hZ w1) (mvT hZ w2) (mvT hZ w4) hy (backOf (W := W) hM hZ w4 w3 hf hl) hg hsize (Steps.refl _) (a := a) (argsL := argsL) (rest := rest) (lenOf hd hlen) hstack hW hdg (fun _ _ => ⟨has, eT, hc, hs⟩)
  dsimp only [Pt.U, Pt.locs, Pt.cells, Pt.slots] at X' l' y' z' st hQ
  subst l' y' z'
  exact ⟨v, T', Lc, X', hQ, fun t k => st.trans k⟩
theorem own_callV (X : Stand p l e R s m args below meth c T locs cells slots) (hx : p.tables.exec = Jvm.exec) (hZ : Z.Warmed39 s.vm) {own C : String} {index : Nat} {y : MethodName} {bytes : ByteArray} {maxL : Nat} {ret : Option FieldType} {rm : Room} {as' : Array Value} {Q : Option Value → Heap → List Loc → Prop}
    (W : Nat) (hown : s.vm.findClass own = some m.cls) (w1 : (Cond.methodLink own index y).before a0 Z = true) (w2 : (Cond.declares y).before a0 Z = true) (w3 : (Cond.selects C y y).before a0 Z = true) (w4 : (Cond.instanceMethod y).before a0 Z = true) (w5 : (Cond.initialized y.cls).before a0 Z = true) (w6 : (Cond.code y bytes maxL ret).before a0 Z = true)
    (hy : y.cls ≠ "java/lang/invoke/MethodHandle" ∧ y.cls ≠ "java/lang/invoke/VarHandle")
    (hM : MetFree l y (head1 [Cond.code y bytes maxL ret] rm) (fun a U => a = as' ∧ Z.Warmed39 U.vm ∧ U.heap = h) (fun _ _ _ _ _ => True) (fun _ U o U' => ∃ v L, o = .returned v ∧ Q v U'.heap L ∧ FrameEnd U o U' L rm.cells rm.slots))
    (eT : T.heap = h) {b : Addr} (E : Exa Z h b C) (hf : rm.frames + 1 ≤ R.frames) (hl : W + (maxL + 11) + rm.locals ≤ R.locals) {g : JFrame} (hg : g.method = m) (hsize : g.locals.size = c.maxLocals) (argsL rest : List Value) {ps : List FieldType} {r : Option FieldType}
    (hd : parseMethodDescriptor y.desc = some ⟨ps, r⟩) (hlen : argsL.length = ps.length) (hstack : g.stack = argsL.reverse ++ .ref b :: rest) (hW : 2 * g.monitorRoom + (rest.map fun v => v.category).sum ≤ W) (hdg : decode c.code g.pc = .ok (.invokevirtual index, 3))
    (has : (.ref b :: argsL).toArray = as') (hc : cells + rm.cells ≤ R.cells) (hs : slots + rm.slots ≤ R.slots) :
    ∃ (v : Option Value) (T' : State) (L : List Loc), Stand p l e R s m args below meth c T' (locs ++ L) (cells + rm.cells) (slots + rm.slots) ∧ Q v T'.heap L ∧
      ∀ t, Steps p.tables e below (T'.setTop { g with pc := g.pc + 3, stack := v.toList ++ rest }) t → Steps p.tables e below (T.setTop g) t := by
  obtain ⟨cq, kq, qa, qb, qc⟩ := isOf hZ eT E
  obtain ⟨v, _, ⟨T', L', k', n'⟩, -, X', ⟨Lc, hQ, l', y', z'⟩, st⟩ := X.virtualBack hx (y := y) (z := y) hown (mvT hZ w1) (mvT hZ w2) (notFace_of_selects (args := #[]) (mvT hZ w3)) (mvT hZ w3) (mvT hZ w4) hy (backOf (W := W) hM hZ w6 w5 hf hl) qa qc hg hsize (Steps.refl _) (argsL := argsL) (rest := rest) (lenOf hd hlen) hstack hW hdg (fun _ _ => ⟨has, eT, hc, hs⟩)
  dsimp only [Pt.U, Pt.locs, Pt.cells, Pt.slots] at X' l' y' z' st hQ
  subst l' y' z'
  exact ⟨v, T', Lc, X', hQ, fun t k => st.trans k⟩
end Calls
theorem own_lrem {tb : Tables} [Ours tb] {e : Env} {below : List Frame} {T target : State} {m : MethodId} {c : Code} {g : JFrame} (h : At T m c below) (hx : tb.exec = Jvm.exec) (hg : g.method = m) {x y : Int64} {rest : List Value} (hd : decode c.code g.pc = .ok (.lrem, 1)) (hs : g.stack = .long y :: .long x :: rest) (hy : y ≠ 0)
    (hr : Steps tb e below (T.setTop { g with pc := g.pc + 1, stack := .long (x % y) :: rest }) target) : Steps tb e below (T.setTop g) target := XS.lrem h hx hg hd hs hy (by rw [lrem_mod]; exact hr)
/-! 2. own facts of arrays: n places, place i holds f i -/
def own_up {α : Type} (f : Nat → α) (j : Nat) (v : α) : Nat → α := fun i => if i = j then v else f i
theorem own_up_at {α : Type} (f : Nat → α) (j : Nat) (v : α) (i : Nat) : own_up f j v i = if i = j then v else f i := rfl
def own_AI (Z : State) (h : Heap) (a : Addr) (ty : FieldType) (n : Nat) (f : Nat → Int32) : Prop :=
  ∃ c : Cell, Arr Z h a c ty ∧ c.slots.size = n ∧ n < 2147483648 ∧ ∀ i, i < n → c.slots[i]? = some (.int (f i))
def own_AJ (Z : State) (h : Heap) (a : Addr) (n : Nat) (f : Nat → Int64) : Prop :=
  ∃ c : Cell, Arr Z h a c .long ∧ c.slots.size = n ∧ n < 2147483648 ∧ ∀ i, i < n → c.slots[i]? = some (.long (f i))
section Arrays
variable {Z : State} {h h' : Heap} {a b : Addr} {ty : FieldType} {n : Nat} {f g : Nat → Int32} {fj gj : Nat → Int64}
theorem own_AI.lt (V : own_AI Z h a ty n f) : a < h.size := by obtain ⟨c, A, -⟩ := V; exact A.lt
theorem own_AI.ext (V : own_AI Z h a ty n f) (E : Ext h h') : own_AI Z h' a ty n f := by obtain ⟨c, A, r⟩ := V; exact ⟨c, A.ext E, r⟩
theorem own_AI.other {sl : Nat} {v : Value} (V : own_AI Z h b ty n f) (W : Wr h h' a sl v) (q : b ≠ a) : own_AI Z h' b ty n f := by obtain ⟨c, A, r⟩ := V; exact ⟨c, A.other W q, r⟩
theorem own_AI.keep {ws : List Addr} (V : own_AI Z h a ty n f) (K : Keep h h' ws) (q : a ∉ ws) : own_AI Z h' a ty n f := by obtain ⟨c, A, r⟩ := V; exact ⟨c, ⟨K.2.1 a c A.1 q, A.2⟩, r⟩
theorem own_AI.cong (V : own_AI Z h a ty n f) (q : ∀ i, i < n → f i = g i) : own_AI Z h a ty n g := by obtain ⟨c, A, S, B, H⟩ := V; exact ⟨c, A, S, B, fun i hi => by rw [← q i hi]; exact H i hi⟩
theorem own_AI.new {k : ClassId} {z : Int32} (A : Arr Z h a (newA k ty z) ty) (q : ¬ z < 0) (d : defaultValue ty = .int 0) (n : Nat) (hn : z.toNatClampNeg = n) : own_AI Z h a ty n (fun _ => 0) := by
  subst hn
  exact ⟨_, A, sz_new _ _ _, (back32 q).2, fun i hi => by simp [newA, hi, d]⟩
theorem own_slot (c : Cell) (i k : Nat) (v : Value) (hk : k < c.slots.size) : (c.setSlot i v).slots[k]? = if k = i then some v else c.slots[k]? := by
  by_cases q : k = i
  · subst q; simp [Cell.setSlot, hk]
  · simp [Cell.setSlot, q, Array.getElem?_setIfInBounds, Ne.symm q]
theorem own_AI.set {x : Int32} {i : Nat} (V : own_AI Z h a ty n f) (W : Wr h h' a i (.int x)) : own_AI Z h' a ty n (own_up f i x) := by
  obtain ⟨c, A, S, B, H⟩ := V
  refine ⟨_, A.same W, (sz_set _ _ _).trans S, B, fun k hk => ?_⟩
  rw [own_slot c i k _ (by omega), own_up_at]
  by_cases q : k = i
  · rw [if_pos q, if_pos q]
  · rw [if_neg q, if_neg q]; exact H k hk
theorem own_AI.at (V : own_AI Z h a ty n f) {j : Int32} (i : Nat) (hi : j.toNatClampNeg = i) (h0 : ¬ j < 0) (hn : i < n) :
    ∃ c : Cell, Arr Z h a c ty ∧ ¬ (j < 0 ∨ c.slots.size ≤ j.toNatClampNeg) ∧ c.slots[j.toNatClampNeg]? = some (.int (f i)) := by
  obtain ⟨c, A, S, B, H⟩ := V
  subst hi
  exact ⟨c, A, fun q => q.elim h0 (fun q => by omega), H _ hn⟩
theorem own_AJ.lt (V : own_AJ Z h a n fj) : a < h.size := by obtain ⟨c, A, -⟩ := V; exact A.lt
theorem own_AJ.ext (V : own_AJ Z h a n fj) (E : Ext h h') : own_AJ Z h' a n fj := by obtain ⟨c, A, r⟩ := V; exact ⟨c, A.ext E, r⟩
theorem own_AJ.other {sl : Nat} {v : Value} (V : own_AJ Z h b n fj) (W : Wr h h' a sl v) (q : b ≠ a) : own_AJ Z h' b n fj := by obtain ⟨c, A, r⟩ := V; exact ⟨c, A.other W q, r⟩
theorem own_AJ.keep {ws : List Addr} (V : own_AJ Z h a n fj) (K : Keep h h' ws) (q : a ∉ ws) : own_AJ Z h' a n fj := by obtain ⟨c, A, r⟩ := V; exact ⟨c, ⟨K.2.1 a c A.1 q, A.2⟩, r⟩
theorem own_AJ.cong (V : own_AJ Z h a n fj) (q : ∀ i, i < n → fj i = gj i) : own_AJ Z h a n gj := by obtain ⟨c, A, S, B, H⟩ := V; exact ⟨c, A, S, B, fun i hi => by rw [← q i hi]; exact H i hi⟩
theorem own_AJ.new {k : ClassId} {z : Int32} (A : Arr Z h a (newA k .long z) .long) (q : ¬ z < 0) (n : Nat) (hn : z.toNatClampNeg = n) : own_AJ Z h a n (fun _ => 0) := by
  subst hn
  exact ⟨_, A, sz_new _ _ _, (back32 q).2, fun i hi => by simp [newA, hi]; rfl⟩
theorem own_AJ.set {x : Int64} {i : Nat} (V : own_AJ Z h a n fj) (W : Wr h h' a i (.long x)) : own_AJ Z h' a n (own_up fj i x) := by
  obtain ⟨c, A, S, B, H⟩ := V
  refine ⟨_, A.same W, (sz_set _ _ _).trans S, B, fun k hk => ?_⟩
  rw [own_slot c i k _ (by omega), own_up_at]
  by_cases q : k = i
  · rw [if_pos q, if_pos q]
  · rw [if_neg q, if_neg q]; exact H k hk
theorem own_AJ.at (V : own_AJ Z h a n fj) {j : Int32} (i : Nat) (hi : j.toNatClampNeg = i) (h0 : ¬ j < 0) (hn : i < n) :
    ∃ c : Cell, Arr Z h a c .long ∧ ¬ (j < 0 ∨ c.slots.size ≤ j.toNatClampNeg) ∧ c.slots[j.toNatClampNeg]? = some (.long (fj i)) := by
  obtain ⟨c, A, S, B, H⟩ := V
  subst hi
  exact ⟨c, A, fun q => q.elim h0 (fun q => by omega), H _ hn⟩
end Arrays
section ArraySteps
variable {p : Program} {l : Launch} {e : Env} {R : Room} {s : State} {m : MethodId} {args : Array Value} {below : List Frame} {meth : Method} {c : Code} {T : State} {locs : List Loc} {cells slots : Nat} {Z : State} {a0 : Array Value} {h : Heap} {a : Addr} {n : Nat} {f : Nat → Int32} {fj : Nat → Int64} {j x : Int32} {xj : Int64} {g : JFrame} {rest : List Value}
theorem own_stI (X : Stand p l e R s m args below meth c T locs cells slots) (hx : p.tables.exec = Jvm.exec) (hZ : Z.Warmed39 s.vm) (eT : T.heap = h) (V : own_AI Z h a .int n f) (i : Nat) (hi : j.toNatClampNeg = i) (h0 : ¬ j < 0) (hn : i < n) (hg : g.method = m) (hs : g.stack = .int x :: .int j :: .ref a :: rest) (hd : decode c.code g.pc = .ok (.iastore, 1)) :
    ∃ T' h', Stand p l e R s m args below meth c T' (locs ++ [⟨a, i⟩]) cells slots ∧ T'.heap = h' ∧ Wr h h' a i (.int x) ∧ own_AI Z h' a .int n (own_up f i x) ∧ ∀ t, Steps p.tables e below (T'.setTop { g with pc := g.pc + 1, stack := rest }) t → Steps p.tables e below (T.setTop g) t := by
  obtain ⟨cl, A, hj, -⟩ := V.at i hi h0 hn
  obtain ⟨T', h', X', e', W, st⟩ := stI X hx hZ eT A hj hg hs hd
  subst hi
  exact ⟨T', h', X', e', W, V.set W, st⟩
theorem own_stB (X : Stand p l e R s m args below meth c T locs cells slots) (hx : p.tables.exec = Jvm.exec) (hZ : Z.Warmed39 s.vm) (eT : T.heap = h) (V : own_AI Z h a .byte n f) (i : Nat) (hi : j.toNatClampNeg = i) (h0 : ¬ j < 0) (hn : i < n) (hg : g.method = m) (hs : g.stack = .int x :: .int j :: .ref a :: rest) (hd : decode c.code g.pc = .ok (.bastore, 1)) :
    ∃ T' h', Stand p l e R s m args below meth c T' (locs ++ [⟨a, i⟩]) cells slots ∧ T'.heap = h' ∧ Wr h h' a i (.int (nar .byte x)) ∧ own_AI Z h' a .byte n (own_up f i x.toInt8.toInt32) ∧ ∀ t, Steps p.tables e below (T'.setTop { g with pc := g.pc + 1, stack := rest }) t → Steps p.tables e below (T.setTop g) t := by
  obtain ⟨cl, A, hj, -⟩ := V.at i hi h0 hn
  obtain ⟨T', h', X', e', W, st⟩ := stB X hx hZ eT A hj hg hs hd
  subst hi
  exact ⟨T', h', X', e', W, V.set W, st⟩
theorem own_stC (X : Stand p l e R s m args below meth c T locs cells slots) (hx : p.tables.exec = Jvm.exec) (hZ : Z.Warmed39 s.vm) (eT : T.heap = h) (V : own_AI Z h a .char n f) (i : Nat) (hi : j.toNatClampNeg = i) (h0 : ¬ j < 0) (hn : i < n) (hg : g.method = m) (hs : g.stack = .int x :: .int j :: .ref a :: rest) (hd : decode c.code g.pc = .ok (.castore, 1)) :
    ∃ T' h', Stand p l e R s m args below meth c T' (locs ++ [⟨a, i⟩]) cells slots ∧ T'.heap = h' ∧ Wr h h' a i (.int (nar .char x)) ∧ own_AI Z h' a .char n (own_up f i x.toUInt32.toUInt16.toUInt32.toInt32) ∧ ∀ t, Steps p.tables e below (T'.setTop { g with pc := g.pc + 1, stack := rest }) t → Steps p.tables e below (T.setTop g) t := by
  obtain ⟨cl, A, hj, -⟩ := V.at i hi h0 hn
  obtain ⟨T', h', X', e', W, st⟩ := stC X hx hZ eT A hj hg hs hd
  subst hi
  exact ⟨T', h', X', e', W, V.set W, st⟩
theorem own_stJ (X : Stand p l e R s m args below meth c T locs cells slots) (hx : p.tables.exec = Jvm.exec) (hZ : Z.Warmed39 s.vm) (eT : T.heap = h) (V : own_AJ Z h a n fj) (i : Nat) (hi : j.toNatClampNeg = i) (h0 : ¬ j < 0) (hn : i < n) (hg : g.method = m) (hs : g.stack = .long xj :: .int j :: .ref a :: rest) (hd : decode c.code g.pc = .ok (.lastore, 1)) :
    ∃ T' h', Stand p l e R s m args below meth c T' (locs ++ [⟨a, i⟩]) cells slots ∧ T'.heap = h' ∧ Wr h h' a i (.long xj) ∧ own_AJ Z h' a n (own_up fj i xj) ∧ ∀ t, Steps p.tables e below (T'.setTop { g with pc := g.pc + 1, stack := rest }) t → Steps p.tables e below (T.setTop g) t := by
  obtain ⟨cl, A, hj, -⟩ := V.at i hi h0 hn
  obtain ⟨T', h', X', e', W, st⟩ := stJ X hx hZ eT A hj hg hs hd
  subst hi
  exact ⟨T', h', X', e', W, V.set W, st⟩
theorem own_ldI (X : Stand p l e R s m args below meth c T locs cells slots) (hx : p.tables.exec = Jvm.exec) (hZ : Z.Warmed39 s.vm) (eT : T.heap = h) (V : own_AI Z h a .int n f) (i : Nat) (hi : j.toNatClampNeg = i) (h0 : ¬ j < 0) (hn : i < n) (hg : g.method = m) (hs : g.stack = .int j :: .ref a :: rest) (hd : decode c.code g.pc = .ok (.iaload, 1)) :
    ∀ t, Steps p.tables e below (T.setTop { g with pc := g.pc + 1, stack := .int (f i) :: rest }) t → Steps p.tables e below (T.setTop g) t := by
  obtain ⟨cl, A, hj, hv⟩ := V.at i hi h0 hn
  exact fun t k => X.iaload hx (by rw [eT]; exact A.1) (State.isArrayOf_alike hZ.alike A.2.1) A.2.2 hj hv hg hs hd t k
theorem own_ldB (X : Stand p l e R s m args below meth c T locs cells slots) (hx : p.tables.exec = Jvm.exec) (hZ : Z.Warmed39 s.vm) (eT : T.heap = h) (V : own_AI Z h a .byte n f) (i : Nat) (hi : j.toNatClampNeg = i) (h0 : ¬ j < 0) (hn : i < n) (hg : g.method = m) (hs : g.stack = .int j :: .ref a :: rest) (hd : decode c.code g.pc = .ok (.baload, 1)) :
    ∀ t, Steps p.tables e below (T.setTop { g with pc := g.pc + 1, stack := .int (f i) :: rest }) t → Steps p.tables e below (T.setTop g) t := by
  obtain ⟨cl, A, hj, hv⟩ := V.at i hi h0 hn
  exact fun t k => X.baloadBytes hx (by rw [eT]; exact A.1) (State.isArrayOf_alike hZ.alike A.2.1) A.2.2 hj hv hg hs hd t k
theorem own_ldC (X : Stand p l e R s m args below meth c T locs cells slots) (hx : p.tables.exec = Jvm.exec) (hZ : Z.Warmed39 s.vm) (eT : T.heap = h) (V : own_AI Z h a .char n f) (i : Nat) (hi : j.toNatClampNeg = i) (h0 : ¬ j < 0) (hn : i < n) (hg : g.method = m) (hs : g.stack = .int j :: .ref a :: rest) (hd : decode c.code g.pc = .ok (.caload, 1)) :
    ∀ t, Steps p.tables e below (T.setTop { g with pc := g.pc + 1, stack := .int (f i) :: rest }) t → Steps p.tables e below (T.setTop g) t := by
  obtain ⟨cl, A, hj, hv⟩ := V.at i hi h0 hn
  exact fun t k => X.caload hx (by rw [eT]; exact A.1) (State.isArrayOf_alike hZ.alike A.2.1) A.2.2 hj hv hg hs hd t k
theorem own_ldJ (X : Stand p l e R s m args below meth c T locs cells slots) (hx : p.tables.exec = Jvm.exec) (hZ : Z.Warmed39 s.vm) (eT : T.heap = h) (V : own_AJ Z h a n fj) (i : Nat) (hi : j.toNatClampNeg = i) (h0 : ¬ j < 0) (hn : i < n) (hg : g.method = m) (hs : g.stack = .int j :: .ref a :: rest) (hd : decode c.code g.pc = .ok (.laload, 1)) :
    ∀ t, Steps p.tables e below (T.setTop { g with pc := g.pc + 1, stack := .long (fj i) :: rest }) t → Steps p.tables e below (T.setTop g) t := by
  obtain ⟨cl, A, hj, hv⟩ := V.at i hi h0 hn
  exact fun t k => X.laload hx (by rw [eT]; exact A.1) (State.isArrayOf_alike hZ.alike A.2.1) A.2.2 hj hv hg hs hd t k
theorem own_lenI {ty : FieldType} (X : Stand p l e R s m args below meth c T locs cells slots) (hx : p.tables.exec = Jvm.exec) (hZ : Z.Warmed39 s.vm) (eT : T.heap = h) (V : own_AI Z h a ty n f) (N : Int32) (hN : n.toInt32 = N) (hg : g.method = m) (hs : g.stack = .ref a :: rest) (hd : decode c.code g.pc = .ok (.arraylength, 1)) :
    ∀ t, Steps p.tables e below (T.setTop { g with pc := g.pc + 1, stack := .int N :: rest }) t → Steps p.tables e below (T.setTop g) t := by
  obtain ⟨cl, A, S, -⟩ := V
  subst hN S
  exact fun t k => X.arraylength hx (by rw [eT]; exact A.1) (State.isArrayOf_alike hZ.alike A.2.1) hg hs hd t k
theorem own_lenJ (X : Stand p l e R s m args below meth c T locs cells slots) (hx : p.tables.exec = Jvm.exec) (hZ : Z.Warmed39 s.vm) (eT : T.heap = h) (V : own_AJ Z h a n fj) (N : Int32) (hN : n.toInt32 = N) (hg : g.method = m) (hs : g.stack = .ref a :: rest) (hd : decode c.code g.pc = .ok (.arraylength, 1)) :
    ∀ t, Steps p.tables e below (T.setTop { g with pc := g.pc + 1, stack := .int N :: rest }) t → Steps p.tables e below (T.setTop g) t := by
  obtain ⟨cl, A, S, -⟩ := V
  subst hN S
  exact fun t k => X.arraylength hx (by rw [eT]; exact A.1) (State.isArrayOf_alike hZ.alike A.2.1) hg hs hd t k
/-- areturn -/
theorem own_retA (X : Stand p l e R s m args below meth c T locs cells slots) (hx : p.tables.exec = Jvm.exec) {pc : Nat} {Ls : Array Slot} {t : FieldType} (hret : meth.sig.returnType = some t) (ht : t.isReference = true) (hd : decode c.code pc = .ok (.areturn, 1)) {fs : List Frame}
    (hl : ∀ (f : JFrame) (acts : List Action), f.method = m → f.locked = none → f.entered = [] → (doReturn e (T.setTop f) acts (some (.ref a))).1 = T.setFrames fs) : Steps p.tables e below (T.setTop (mkF m pc Ls (.ref a :: rest))) (T.setFrames fs) :=
  retOut X hx hret (by cases t <;> first | rfl | (cases ht; done)) (Or.inr (Or.inr (Or.inr (Or.inr ⟨rfl, ht, rfl⟩)))) hd hl
end ArraySteps
theorem own_pd0 : parseMethodDescriptor "([BI)I" = some ⟨[(.array .byte), .int], some .int⟩ := by decide +kernel
theorem d1_0 : decode prog_51_method_2_code 0 = .ok (.aload_n 0, 1) := by decide +kernel
theorem d1_1 : decode prog_51_method_2_code 1 = .ok (.iload_n 1, 1) := by decide +kernel
theorem d1_2 : decode prog_51_method_2_code 2 = .ok (.baload, 1) := by decide +kernel
theorem d1_3 : decode prog_51_method_2_code 3 = .ok (.sipush 255, 3) := by decide +kernel
theorem d1_6 : decode prog_51_method_2_code 6 = .ok (.iand, 1) := by decide +kernel
theorem d1_7 : decode prog_51_method_2_code 7 = .ok (.aload_n 0, 1) := by decide +kernel
theorem d1_8 : decode prog_51_method_2_code 8 = .ok (.iload_n 1, 1) := by decide +kernel
theorem d1_9 : decode prog_51_method_2_code 9 = .ok (.iconst 1, 1) := by decide +kernel
theorem d1_10 : decode prog_51_method_2_code 10 = .ok (.iadd, 1) := by decide +kernel
theorem d1_11 : decode prog_51_method_2_code 11 = .ok (.baload, 1) := by decide +kernel
theorem d1_12 : decode prog_51_method_2_code 12 = .ok (.sipush 255, 3) := by decide +kernel
theorem d1_15 : decode prog_51_method_2_code 15 = .ok (.iand, 1) := by decide +kernel
theorem d1_16 : decode prog_51_method_2_code 16 = .ok (.bipush 8, 2) := by decide +kernel
theorem d1_18 : decode prog_51_method_2_code 18 = .ok (.ishl, 1) := by decide +kernel
theorem d1_19 : decode prog_51_method_2_code 19 = .ok (.ior, 1) := by decide +kernel
theorem d1_20 : decode prog_51_method_2_code 20 = .ok (.aload_n 0, 1) := by decide +kernel
theorem d1_21 : decode prog_51_method_2_code 21 = .ok (.iload_n 1, 1) := by decide +kernel
theorem d1_22 : decode prog_51_method_2_code 22 = .ok (.iconst 2, 1) := by decide +kernel
theorem d1_23 : decode prog_51_method_2_code 23 = .ok (.iadd, 1) := by decide +kernel
theorem d1_24 : decode prog_51_method_2_code 24 = .ok (.baload, 1) := by decide +kernel
theorem d1_25 : decode prog_51_method_2_code 25 = .ok (.sipush 255, 3) := by decide +kernel
theorem d1_28 : decode prog_51_method_2_code 28 = .ok (.iand, 1) := by decide +kernel
theorem d1_29 : decode prog_51_method_2_code 29 = .ok (.bipush 16, 2) := by decide +kernel
theorem d1_31 : decode prog_51_method_2_code 31 = .ok (.ishl, 1) := by decide +kernel
theorem d1_32 : decode prog_51_method_2_code 32 = .ok (.ior, 1) := by decide +kernel
theorem d1_33 : decode prog_51_method_2_code 33 = .ok (.aload_n 0, 1) := by decide +kernel
theorem d1_34 : decode prog_51_method_2_code 34 = .ok (.iload_n 1, 1) := by decide +kernel
theorem d1_35 : decode prog_51_method_2_code 35 = .ok (.iconst 3, 1) := by decide +kernel
theorem d1_36 : decode prog_51_method_2_code 36 = .ok (.iadd, 1) := by decide +kernel
theorem d1_37 : decode prog_51_method_2_code 37 = .ok (.baload, 1) := by decide +kernel
theorem d1_38 : decode prog_51_method_2_code 38 = .ok (.sipush 255, 3) := by decide +kernel
theorem d1_41 : decode prog_51_method_2_code 41 = .ok (.iand, 1) := by decide +kernel
theorem d1_42 : decode prog_51_method_2_code 42 = .ok (.bipush 24, 2) := by decide +kernel
theorem d1_44 : decode prog_51_method_2_code 44 = .ok (.ishl, 1) := by decide +kernel
theorem d1_45 : decode prog_51_method_2_code 45 = .ok (.ior, 1) := by decide +kernel
theorem d1_46 : decode prog_51_method_2_code 46 = .ok (.ireturn, 1) := by decide +kernel
theorem own_ef1 (m : MethodId) (p0 : Addr) (p1 : Int32) : entryFrame m #[(.ref p0), (.int p1)] 2 = mkF m 0 #[.val (.ref p0), .val (.int p1)] [] := by first | (simp [entryFrame, mkF, argsToLocals, Value.category]; done) | rfl
def own_rd (f : Nat → Int32) (i0 i1 i2 i3 : Nat) : Int32 := ((((f i0) &&& (255 : Int32)) ||| (((f i1) &&& (255 : Int32)) <<< ((8 : Int32) &&& 31))) ||| (((f i2) &&& (255 : Int32)) <<< ((16 : Int32) &&& 31))) ||| (((f i3) &&& (255 : Int32)) <<< ((24 : Int32) &&& 31))
theorem own_pn1 : plainName "com/example/lakebed/lakebed/core/parquet/LittleEndian" = true := by first | (simp [plainName, overriddenIn]; done) | decide +kernel
set_option maxRecDepth 65536 in
set_option maxHeartbeats 40000000 in
theorem rm1 (l : Launch) (Z : State) (a0 : Array Value) (hw : ∀ d ∈ tables_1, d.before a0 Z = true) (ws : List Jvm.Cond) (p0 : Addr) (p1 : Int32) (n : Nat) (f : Nat → Int32) (i0 i1 i2 i3 : Nat) (h0 : Heap) (n0 : Nat) (V_p0 : own_AI Z h0 p0 .byte n f) (x0 : p1.toNatClampNeg = i0) (y0 : ¬ p1 < 0) (z0 : i0 < n) (x1 : (p1 + (1 : Int32)).toNatClampNeg = i1) (y1 : ¬ (p1 + (1 : Int32)) < 0) (z1 : i1 < n) (x2 : (p1 + (2 : Int32)).toNatClampNeg = i2) (y2 : ¬ (p1 + (2 : Int32)) < 0) (z2 : i2 < n) (x3 : (p1 + (3 : Int32)).toNatClampNeg = i3) (y3 : ¬ (p1 + (3 : Int32)) < 0) (z3 : i3 < n) :
    MetFree l (⟨"com/example/lakebed/lakebed/core/parquet/LittleEndian", "readInt", "([BI)I"⟩ : MethodName) (head1 (Jvm.Cond.code (⟨"com/example/lakebed/lakebed/core/parquet/LittleEndian", "readInt", "([BI)I"⟩ : MethodName) prog_51_method_2_code 2 (some .int) :: ws) ({ frames := 0, cells := 0, slots := 0, locals := 0 } : Room)) (fun a U => a = #[(.ref p0), (.int p1)] ∧ Z.Warmed39 U.vm ∧ U.heap = h0) (fun _ _ _ _ _ => True) (fun _ U o U' => ∃ v L, o = .returned v ∧ own_Q (some (.int (own_rd f i0 i1 i2 i3))) h0 n0 v U'.heap L ∧ FrameEnd U o U' L ({ frames := 0, cells := 0, slots := 0, locals := 0 } : Room).cells ({ frames := 0, cells := 0, slots := 0, locals := 0 } : Room).slots) := by
  refine own_contract (plainFor_of_name own_pn1) (fun m => own_ef1 m p0 p1) ?_
  intro p e s m below meth c s₁ G hx hby hml0 hown0 hnm hret hZ X0 e0 hp hR
  have hml : c.maxLocals = 2 := hml0
  have hown : s.vm.findClass "com/example/lakebed/lakebed/core/parquet/LittleEndian" = some m.cls := hown0
  have N0 := Fr.nil n0
  show G s₁ (mkF m 0 #[.val (.ref p0), .val (.int p1)] [])
  have K0 : Keep h0 h0 [] := Keep.refl _ _
  refine hp (fun tq kq => XS.aloadN X0.here hx rfl (hb hby d1_0) rfl rfl kq) ?_
  show G s₁ (mkF m 1 #[.val (.ref p0), .val (.int p1)] [(.ref p0)])
  refine hp (fun tq kq => XS.iloadN X0.here hx rfl (hb hby d1_1) rfl kq) ?_
  show G s₁ (mkF m 2 #[.val (.ref p0), .val (.int p1)] [(.int p1), (.ref p0)])
  refine hp (own_ldB X0 hx hZ e0 V_p0 (j := p1) i0 x0 y0 z0 (g := (mkF m 2 #[.val (.ref p0), .val (.int p1)] [(.int p1), (.ref p0)])) rfl rfl (hb hby d1_2)) ?_
  show G s₁ (mkF m 3 #[.val (.ref p0), .val (.int p1)] [(.int (f i0))])
  refine hp (fun tq kq => XS.sipush X0.here hx rfl (hb hby d1_3) kq) ?_
  show G s₁ (mkF m 6 #[.val (.ref p0), .val (.int p1)] [(.int (255 : Int32)), (.int (f i0))])
  refine hp (fun tq kq => XS.iand X0.here hx rfl (hb hby d1_6) rfl kq) ?_
  show G s₁ (mkF m 7 #[.val (.ref p0), .val (.int p1)] [(.int ((f i0) &&& (255 : Int32)))])
  refine hp (fun tq kq => XS.aloadN X0.here hx rfl (hb hby d1_7) rfl rfl kq) ?_
  show G s₁ (mkF m 8 #[.val (.ref p0), .val (.int p1)] [(.ref p0), (.int ((f i0) &&& (255 : Int32)))])
  refine hp (fun tq kq => XS.iloadN X0.here hx rfl (hb hby d1_8) rfl kq) ?_
  show G s₁ (mkF m 9 #[.val (.ref p0), .val (.int p1)] [(.int p1), (.ref p0), (.int ((f i0) &&& (255 : Int32)))])
  refine hp (fun tq kq => XS.iconst X0.here hx rfl (hb hby d1_9) kq) ?_
  show G s₁ (mkF m 10 #[.val (.ref p0), .val (.int p1)] [(.int (1 : Int32)), (.int p1), (.ref p0), (.int ((f i0) &&& (255 : Int32)))])
  refine hp (fun tq kq => XS.iadd X0.here hx rfl (hb hby d1_10) rfl kq) ?_
  show G s₁ (mkF m 11 #[.val (.ref p0), .val (.int p1)] [(.int (p1 + (1 : Int32))), (.ref p0), (.int ((f i0) &&& (255 : Int32)))])
  refine hp (own_ldB X0 hx hZ e0 V_p0 (j := (p1 + (1 : Int32))) i1 x1 y1 z1 (g := (mkF m 11 #[.val (.ref p0), .val (.int p1)] [(.int (p1 + (1 : Int32))), (.ref p0), (.int ((f i0) &&& (255 : Int32)))])) rfl rfl (hb hby d1_11)) ?_
  show G s₁ (mkF m 12 #[.val (.ref p0), .val (.int p1)] [(.int (f i1)), (.int ((f i0) &&& (255 : Int32)))])
  refine hp (fun tq kq => XS.sipush X0.here hx rfl (hb hby d1_12) kq) ?_
  show G s₁ (mkF m 15 #[.val (.ref p0), .val (.int p1)] [(.int (255 : Int32)), (.int (f i1)), (.int ((f i0) &&& (255 : Int32)))])
  refine hp (fun tq kq => XS.iand X0.here hx rfl (hb hby d1_15) rfl kq) ?_
  show G s₁ (mkF m 16 #[.val (.ref p0), .val (.int p1)] [(.int ((f i1) &&& (255 : Int32))), (.int ((f i0) &&& (255 : Int32)))])
  refine hp (fun tq kq => XS.bipush X0.here hx rfl (hb hby d1_16) kq) ?_
  show G s₁ (mkF m 18 #[.val (.ref p0), .val (.int p1)] [(.int (8 : Int32)), (.int ((f i1) &&& (255 : Int32))), (.int ((f i0) &&& (255 : Int32)))])
  refine hp (fun tq kq => XS.ishl X0.here hx rfl (hb hby d1_18) rfl kq) ?_
  show G s₁ (mkF m 19 #[.val (.ref p0), .val (.int p1)] [(.int (((f i1) &&& (255 : Int32)) <<< ((8 : Int32) &&& 31))), (.int ((f i0) &&& (255 : Int32)))])
  refine hp (fun tq kq => XS.ior X0.here hx rfl (hb hby d1_19) rfl kq) ?_
  show G s₁ (mkF m 20 #[.val (.ref p0), .val (.int p1)] [(.int (((f i0) &&& (255 : Int32)) ||| (((f i1) &&& (255 : Int32)) <<< ((8 : Int32) &&& 31))))])
  refine hp (fun tq kq => XS.aloadN X0.here hx rfl (hb hby d1_20) rfl rfl kq) ?_
  show G s₁ (mkF m 21 #[.val (.ref p0), .val (.int p1)] [(.ref p0), (.int (((f i0) &&& (255 : Int32)) ||| (((f i1) &&& (255 : Int32)) <<< ((8 : Int32) &&& 31))))])
  refine hp (fun tq kq => XS.iloadN X0.here hx rfl (hb hby d1_21) rfl kq) ?_
  show G s₁ (mkF m 22 #[.val (.ref p0), .val (.int p1)] [(.int p1), (.ref p0), (.int (((f i0) &&& (255 : Int32)) ||| (((f i1) &&& (255 : Int32)) <<< ((8 : Int32) &&& 31))))])
  refine hp (fun tq kq => XS.iconst X0.here hx rfl (hb hby d1_22) kq) ?_
  show G s₁ (mkF m 23 #[.val (.ref p0), .val (.int p1)] [(.int (2 : Int32)), (.int p1), (.ref p0), (.int (((f i0) &&& (255 : Int32)) ||| (((f i1) &&& (255 : Int32)) <<< ((8 : Int32) &&& 31))))])
  refine hp (fun tq kq => XS.iadd X0.here hx rfl (hb hby d1_23) rfl kq) ?_
  show G s₁ (mkF m 24 #[.val (.ref p0), .val (.int p1)] [(.int (p1 + (2 : Int32))), (.ref p0), (.int (((f i0) &&& (255 : Int32)) ||| (((f i1) &&& (255 : Int32)) <<< ((8 : Int32) &&& 31))))])
  refine hp (own_ldB X0 hx hZ e0 V_p0 (j := (p1 + (2 : Int32))) i2 x2 y2 z2 (g := (mkF m 24 #[.val (.ref p0), .val (.int p1)] [(.int (p1 + (2 : Int32))), (.ref p0), (.int (((f i0) &&& (255 : Int32)) ||| (((f i1) &&& (255 : Int32)) <<< ((8 : Int32) &&& 31))))])) rfl rfl (hb hby d1_24)) ?_
  show G s₁ (mkF m 25 #[.val (.ref p0), .val (.int p1)] [(.int (f i2)), (.int (((f i0) &&& (255 : Int32)) ||| (((f i1) &&& (255 : Int32)) <<< ((8 : Int32) &&& 31))))])
  refine hp (fun tq kq => XS.sipush X0.here hx rfl (hb hby d1_25) kq) ?_
  show G s₁ (mkF m 28 #[.val (.ref p0), .val (.int p1)] [(.int (255 : Int32)), (.int (f i2)), (.int (((f i0) &&& (255 : Int32)) ||| (((f i1) &&& (255 : Int32)) <<< ((8 : Int32) &&& 31))))])
  refine hp (fun tq kq => XS.iand X0.here hx rfl (hb hby d1_28) rfl kq) ?_
  show G s₁ (mkF m 29 #[.val (.ref p0), .val (.int p1)] [(.int ((f i2) &&& (255 : Int32))), (.int (((f i0) &&& (255 : Int32)) ||| (((f i1) &&& (255 : Int32)) <<< ((8 : Int32) &&& 31))))])
  refine hp (fun tq kq => XS.bipush X0.here hx rfl (hb hby d1_29) kq) ?_
  show G s₁ (mkF m 31 #[.val (.ref p0), .val (.int p1)] [(.int (16 : Int32)), (.int ((f i2) &&& (255 : Int32))), (.int (((f i0) &&& (255 : Int32)) ||| (((f i1) &&& (255 : Int32)) <<< ((8 : Int32) &&& 31))))])
  refine hp (fun tq kq => XS.ishl X0.here hx rfl (hb hby d1_31) rfl kq) ?_
  show G s₁ (mkF m 32 #[.val (.ref p0), .val (.int p1)] [(.int (((f i2) &&& (255 : Int32)) <<< ((16 : Int32) &&& 31))), (.int (((f i0) &&& (255 : Int32)) ||| (((f i1) &&& (255 : Int32)) <<< ((8 : Int32) &&& 31))))])
  refine hp (fun tq kq => XS.ior X0.here hx rfl (hb hby d1_32) rfl kq) ?_
  show G s₁ (mkF m 33 #[.val (.ref p0), .val (.int p1)] [(.int ((((f i0) &&& (255 : Int32)) ||| (((f i1) &&& (255 : Int32)) <<< ((8 : Int32) &&& 31))) ||| (((f i2) &&& (255 : Int32)) <<< ((16 : Int32) &&& 31))))])
  refine hp (fun tq kq => XS.aloadN X0.here hx rfl (hb hby d1_33) rfl rfl kq) ?_
  show G s₁ (mkF m 34 #[.val (.ref p0), .val (.int p1)] [(.ref p0), (.int ((((f i0) &&& (255 : Int32)) ||| (((f i1) &&& (255 : Int32)) <<< ((8 : Int32) &&& 31))) ||| (((f i2) &&& (255 : Int32)) <<< ((16 : Int32) &&& 31))))])
  refine hp (fun tq kq => XS.iloadN X0.here hx rfl (hb hby d1_34) rfl kq) ?_
  show G s₁ (mkF m 35 #[.val (.ref p0), .val (.int p1)] [(.int p1), (.ref p0), (.int ((((f i0) &&& (255 : Int32)) ||| (((f i1) &&& (255 : Int32)) <<< ((8 : Int32) &&& 31))) ||| (((f i2) &&& (255 : Int32)) <<< ((16 : Int32) &&& 31))))])
  refine hp (fun tq kq => XS.iconst X0.here hx rfl (hb hby d1_35) kq) ?_
  show G s₁ (mkF m 36 #[.val (.ref p0), .val (.int p1)] [(.int (3 : Int32)), (.int p1), (.ref p0), (.int ((((f i0) &&& (255 : Int32)) ||| (((f i1) &&& (255 : Int32)) <<< ((8 : Int32) &&& 31))) ||| (((f i2) &&& (255 : Int32)) <<< ((16 : Int32) &&& 31))))])
  refine hp (fun tq kq => XS.iadd X0.here hx rfl (hb hby d1_36) rfl kq) ?_
  show G s₁ (mkF m 37 #[.val (.ref p0), .val (.int p1)] [(.int (p1 + (3 : Int32))), (.ref p0), (.int ((((f i0) &&& (255 : Int32)) ||| (((f i1) &&& (255 : Int32)) <<< ((8 : Int32) &&& 31))) ||| (((f i2) &&& (255 : Int32)) <<< ((16 : Int32) &&& 31))))])
  refine hp (own_ldB X0 hx hZ e0 V_p0 (j := (p1 + (3 : Int32))) i3 x3 y3 z3 (g := (mkF m 37 #[.val (.ref p0), .val (.int p1)] [(.int (p1 + (3 : Int32))), (.ref p0), (.int ((((f i0) &&& (255 : Int32)) ||| (((f i1) &&& (255 : Int32)) <<< ((8 : Int32) &&& 31))) ||| (((f i2) &&& (255 : Int32)) <<< ((16 : Int32) &&& 31))))])) rfl rfl (hb hby d1_37)) ?_
  show G s₁ (mkF m 38 #[.val (.ref p0), .val (.int p1)] [(.int (f i3)), (.int ((((f i0) &&& (255 : Int32)) ||| (((f i1) &&& (255 : Int32)) <<< ((8 : Int32) &&& 31))) ||| (((f i2) &&& (255 : Int32)) <<< ((16 : Int32) &&& 31))))])
  refine hp (fun tq kq => XS.sipush X0.here hx rfl (hb hby d1_38) kq) ?_
  show G s₁ (mkF m 41 #[.val (.ref p0), .val (.int p1)] [(.int (255 : Int32)), (.int (f i3)), (.int ((((f i0) &&& (255 : Int32)) ||| (((f i1) &&& (255 : Int32)) <<< ((8 : Int32) &&& 31))) ||| (((f i2) &&& (255 : Int32)) <<< ((16 : Int32) &&& 31))))])
  refine hp (fun tq kq => XS.iand X0.here hx rfl (hb hby d1_41) rfl kq) ?_
  show G s₁ (mkF m 42 #[.val (.ref p0), .val (.int p1)] [(.int ((f i3) &&& (255 : Int32))), (.int ((((f i0) &&& (255 : Int32)) ||| (((f i1) &&& (255 : Int32)) <<< ((8 : Int32) &&& 31))) ||| (((f i2) &&& (255 : Int32)) <<< ((16 : Int32) &&& 31))))])
  refine hp (fun tq kq => XS.bipush X0.here hx rfl (hb hby d1_42) kq) ?_
  show G s₁ (mkF m 44 #[.val (.ref p0), .val (.int p1)] [(.int (24 : Int32)), (.int ((f i3) &&& (255 : Int32))), (.int ((((f i0) &&& (255 : Int32)) ||| (((f i1) &&& (255 : Int32)) <<< ((8 : Int32) &&& 31))) ||| (((f i2) &&& (255 : Int32)) <<< ((16 : Int32) &&& 31))))])
  refine hp (fun tq kq => XS.ishl X0.here hx rfl (hb hby d1_44) rfl kq) ?_
  show G s₁ (mkF m 45 #[.val (.ref p0), .val (.int p1)] [(.int (((f i3) &&& (255 : Int32)) <<< ((24 : Int32) &&& 31))), (.int ((((f i0) &&& (255 : Int32)) ||| (((f i1) &&& (255 : Int32)) <<< ((8 : Int32) &&& 31))) ||| (((f i2) &&& (255 : Int32)) <<< ((16 : Int32) &&& 31))))])
  refine hp (fun tq kq => XS.ior X0.here hx rfl (hb hby d1_45) rfl kq) ?_
  show G s₁ (mkF m 46 #[.val (.ref p0), .val (.int p1)] [(.int (((((f i0) &&& (255 : Int32)) ||| (((f i1) &&& (255 : Int32)) <<< ((8 : Int32) &&& 31))) ||| (((f i2) &&& (255 : Int32)) <<< ((16 : Int32) &&& 31))) ||| (((f i3) &&& (255 : Int32)) <<< ((24 : Int32) &&& 31))))])
  exact hR X0 (fun fs hl => retI X0 hx hret (hb hby d1_46) hl) (fun q => by rw [hret] at q; cases q) (by rw [e0]; exact ⟨rfl, N0, rfl⟩) (by decide) (by decide)
theorem own_m3 (x : Int32) : (x &&& (3 : Int32)) = 0 ∨ (x &&& (3 : Int32)) = 1 ∨ (x &&& (3 : Int32)) = 2 ∨ (x &&& (3 : Int32)) = 3 := by
  have h := c_mask x 3 2 (by decide) (by decide)
  have k : ∀ d : Int32, (x &&& 3).toInt = d.toInt → (x &&& 3) = d := fun d q => Int32.toInt_inj.mp q
  have e0 : (0 : Int32).toInt = 0 := by decide
  have e1 : (1 : Int32).toInt = 1 := by decide
  have e2 : (2 : Int32).toInt = 2 := by decide
  have e3 : (3 : Int32).toInt = 3 := by decide
  rcases (by omega : (x &&& 3).toInt = 0 ∨ (x &&& 3).toInt = 1 ∨ (x &&& 3).toInt = 2 ∨ (x &&& 3).toInt = 3) with q | q | q | q
  · exact Or.inl (k _ (by omega))
  · exact Or.inr (Or.inl (k _ (by omega)))
  · exact Or.inr (Or.inr (Or.inl (k _ (by omega))))
  · exact Or.inr (Or.inr (Or.inr (k _ (by omega))))
theorem own_byte (x : Int32) : (x.toInt8.toInt32.toInt8.toInt32 &&& (255 : Int32)).toInt = (x &&& (255 : Int32)).toInt ∧ 0 ≤ (x &&& (255 : Int32)).toInt ∧ (x &&& (255 : Int32)).toInt < 256 := by
  have h1 := c_mask x 255 8 (by decide) (by decide)
  have h2 := c_mask x.toInt8.toInt32.toInt8.toInt32 255 8 (by decide) (by decide)
  have h3 := c_i2b x
  have h4 := c_i2b x.toInt8.toInt32
  omega
theorem own_s1 (a b : Int32) (ra : 0 ≤ a.toInt ∧ a.toInt < 256) (rb : 0 ≤ b.toInt ∧ b.toInt < 256) : (a ||| (b <<< ((8 : Int32) &&& 31))).toInt = a.toInt + b.toInt * 256 := by
  have s1 := c_ishl b 8 8 (by decide)
  generalize b <<< ((8 : Int32) &&& 31) = B at *
  have rB := rng32 B
  have qB : B.toInt = b.toInt * 256 := by omega
  have o1 := c_or' a B 8 (by decide) 256 (by decide) (by omega) (by omega) (by omega)
  have r1 := rng32 (a ||| B)
  omega
theorem own_s2 (x c : Int32) (rx : 0 ≤ x.toInt ∧ x.toInt < 65536) (rc : 0 ≤ c.toInt ∧ c.toInt < 256) : (x ||| (c <<< ((16 : Int32) &&& 31))).toInt = x.toInt + c.toInt * 65536 := by
  have s1 := c_ishl c 16 16 (by decide)
  generalize c <<< ((16 : Int32) &&& 31) = B at *
  have rB := rng32 B
  have qB : B.toInt = c.toInt * 65536 := by omega
  have o1 := c_or' x B 16 (by decide) 65536 (by decide) (by omega) (by omega) (by omega)
  have r1 := rng32 (x ||| B)
  omega
theorem own_s3 (x d : Int32) (rx : 0 ≤ x.toInt ∧ x.toInt < 16777216) : ((x ||| (d <<< ((24 : Int32) &&& 31))).toInt - (x.toInt + d.toInt * 16777216)) % 4294967296 = 0 := by
  have s1 := c_ishl d 24 24 (by decide)
  generalize d <<< ((24 : Int32) &&& 31) = B at *
  have o1 := c_or' x B 24 (by decide) 16777216 (by decide) (by omega) (by omega) (by omega)
  omega
theorem own_sum (a b c d : Int32) : ((a + b * 256 + c * 65536 + d * 16777216).toInt - (a.toInt + b.toInt * 256 + c.toInt * 65536 + d.toInt * 16777216)) % 4294967296 = 0 := by
  have m1 := c_imul b 256
  have m2 := c_imul c 65536
  have m3 := c_imul d 16777216
  have t1 : (256 : Int32).toInt = 256 := by decide
  have t2 : (65536 : Int32).toInt = 65536 := by decide
  have t3 : (16777216 : Int32).toInt = 16777216 := by decide
  rw [t1] at m1
  rw [t2] at m2
  rw [t3] at m3
  have w1 := c_iadd a (b * 256)
  have w2 := c_iadd (a + b * 256) (c * 65536)
  have w3 := c_iadd (a + b * 256 + c * 65536) (d * 16777216)
  clear t1 t2 t3
  generalize (a + b * 256 + c * 65536 + d * 16777216).toInt = W3 at *
  generalize (a + b * 256 + c * 65536).toInt = W2 at *
  generalize (a + b * 256).toInt = W1 at *
  generalize (b * 256).toInt = M1 at *
  generalize (c * 65536).toInt = M2 at *
  generalize (d * 16777216).toInt = M3 at *
  generalize a.toInt = A at *
  generalize b.toInt = B at *
  generalize c.toInt = C at *
  generalize d.toInt = D at *
  omega
theorem own_eq32 (x y : Int32) (k : Int) (h1 : (x.toInt - k) % 4294967296 = 0) (h2 : (y.toInt - k) % 4294967296 = 0) : x = y := by
  have := rng32 x
  have := rng32 y
  apply Int32.toInt_inj.mp
  omega
theorem own_law (f : Nat → Int32) (i0 i1 i2 i3 : Nat) (a b c d : Int32) (h01 : i0 ≠ i1) (h02 : i0 ≠ i2) (h03 : i0 ≠ i3) (h12 : i1 ≠ i2) (h13 : i1 ≠ i3) (h23 : i2 ≠ i3) :
    own_rd (own_up (own_up (own_up (own_up f i0 a.toInt8.toInt32.toInt8.toInt32) i1 b.toInt8.toInt32.toInt8.toInt32) i2 c.toInt8.toInt32.toInt8.toInt32) i3 d.toInt8.toInt32.toInt8.toInt32) i0 i1 i2 i3 = (((((a &&& (255 : Int32)) + ((b &&& (255 : Int32)) * (256 : Int32))) + ((c &&& (255 : Int32)) * (65536 : Int32)))) + ((d &&& (255 : Int32)) * (16777216 : Int32))) := by
  have z0 : own_up (own_up (own_up (own_up f i0 a.toInt8.toInt32.toInt8.toInt32) i1 b.toInt8.toInt32.toInt8.toInt32) i2 c.toInt8.toInt32.toInt8.toInt32) i3 d.toInt8.toInt32.toInt8.toInt32 i0 = a.toInt8.toInt32.toInt8.toInt32 := by simp [own_up, h01, h02, h03]
  have z1 : own_up (own_up (own_up (own_up f i0 a.toInt8.toInt32.toInt8.toInt32) i1 b.toInt8.toInt32.toInt8.toInt32) i2 c.toInt8.toInt32.toInt8.toInt32) i3 d.toInt8.toInt32.toInt8.toInt32 i1 = b.toInt8.toInt32.toInt8.toInt32 := by simp [own_up, h12, h13]
  have z2 : own_up (own_up (own_up (own_up f i0 a.toInt8.toInt32.toInt8.toInt32) i1 b.toInt8.toInt32.toInt8.toInt32) i2 c.toInt8.toInt32.toInt8.toInt32) i3 d.toInt8.toInt32.toInt8.toInt32 i2 = c.toInt8.toInt32.toInt8.toInt32 := by simp [own_up, h23]
  have z3 : own_up (own_up (own_up (own_up f i0 a.toInt8.toInt32.toInt8.toInt32) i1 b.toInt8.toInt32.toInt8.toInt32) i2 c.toInt8.toInt32.toInt8.toInt32) i3 d.toInt8.toInt32.toInt8.toInt32 i3 = d.toInt8.toInt32.toInt8.toInt32 := by simp [own_up]
  unfold own_rd
  rw [z0, z1, z2, z3]
  have ba := own_byte a
  have bb := own_byte b
  have bc := own_byte c
  have bd := own_byte d
  have ea : (a.toInt8.toInt32.toInt8.toInt32 &&& (255 : Int32)) = a &&& 255 := Int32.toInt_inj.mp ba.1
  have eb : (b.toInt8.toInt32.toInt8.toInt32 &&& (255 : Int32)) = b &&& 255 := Int32.toInt_inj.mp bb.1
  have ec : (c.toInt8.toInt32.toInt8.toInt32 &&& (255 : Int32)) = c &&& 255 := Int32.toInt_inj.mp bc.1
  have ed : (d.toInt8.toInt32.toInt8.toInt32 &&& (255 : Int32)) = d &&& 255 := Int32.toInt_inj.mp bd.1
  rw [ea, eb, ec, ed]
  have ra := ba.2
  have rb := bb.2
  have rc := bc.2
  have rd := bd.2
  clear z0 z1 z2 z3 ba bb bc bd ea eb ec ed
  generalize a &&& 255 = a at *
  generalize b &&& 255 = b at *
  generalize c &&& 255 = c at *
  generalize d &&& 255 = d at *
  have q1 := own_s1 a b ra rb
  have q2 := own_s2 (a ||| b <<< ((8 : Int32) &&& 31)) c (by rw [q1]; omega) rc
  have q3 := own_s3 (a ||| b <<< ((8 : Int32) &&& 31) ||| c <<< ((16 : Int32) &&& 31)) d (by rw [q2, q1]; omega)
  rw [q2, q1] at q3
  exact own_eq32 _ _ _ q3 (own_sum a b c d)

theorem own_ef0 (m : MethodId) (p0 : Int32) (p1 : Int32) (p2 : Int32) (p3 : Int32) (p4 : Int32) (p5 : Int64) : entryFrame m #[(.int p0), (.int p1), (.int p2), (.int p3), (.int p4), (.long p5)] maxLocals = mkF m 0 #[.val (.int p0), .val (.int p1), .val (.int p2), .val (.int p3), .val (.int p4), .val (.long p5), .second, .unset, .unset, .unset] [] := by first | (simp [entryFrame, mkF, argsToLocals, Value.category, maxLocals]; done) | rfl
abbrev own_Q0 (n0 : Nat) (v : Option Value) (h : Heap) (L : List Loc) : Prop := v = some (.int 1) ∧ Fr n0 L
theorem own_pn0 : plainName "com/example/lakebed/lakebed/core/parquet/LittleEndianReadIntPinLaw" = true := by first | (simp [plainName, overriddenIn]; done) | decide +kernel
set_option maxRecDepth 65536 in
set_option maxHeartbeats 40000000 in
theorem rm0 (l : Launch) (Z : State) (a0 : Array Value) (hw : ∀ d ∈ tables_1, d.before a0 Z = true) (ws : List Jvm.Cond) (p0 : Int32) (p1 : Int32) (p2 : Int32) (p3 : Int32) (p4 : Int32) (p5 : Int64) (h0 : Heap) (n0 : Nat) (Z0 : n0 ≤ h0.size) :
    MetFree l x (head1 (Jvm.Cond.code x code maxLocals ret :: ws) room_1) (fun a U => a = #[(.int p0), (.int p1), (.int p2), (.int p3), (.int p4), (.long p5)] ∧ Z.Warmed39 U.vm ∧ U.heap = h0) (fun _ _ _ _ _ => True) (fun _ U o U' => ∃ v L, o = .returned v ∧ own_Q0 n0 v U'.heap L ∧ FrameEnd U o U' L room_1.cells room_1.slots) := by
  refine own_contract (plainFor_of_name own_pn0) (fun m => own_ef0 m p0 p1 p2 p3 p4 p5) ?_
  intro p e s m below meth c s₁ G hx hby hml0 hown0 hnm hret hZ X0 e0 hp hR
  have hml : c.maxLocals = 10 := hml0
  have hown : s.vm.findClass "com/example/lakebed/lakebed/core/parquet/LittleEndianReadIntPinLaw" = some m.cls := hown0
  have N0 := Fr.nil n0
  show G s₁ (mkF m 0 #[.val (.int p0), .val (.int p1), .val (.int p2), .val (.int p3), .val (.int p4), .val (.long p5), .second, .unset, .unset, .unset] [])
  have K0 : Keep h0 h0 [] := Keep.refl _ _
  refine hp (fun tq kq => XS.bipush X0.here hx rfl (hb hby at_0) kq) ?_
  show G s₁ (mkF m 2 #[.val (.int p0), .val (.int p1), .val (.int p2), .val (.int p3), .val (.int p4), .val (.long p5), .second, .unset, .unset, .unset] [(.int (8 : Int32))])
  obtain ⟨T1, h1, k1, X1, e1, E1, A1, st1⟩ := newP X0 hx hZ (hw _ (List.mem_of_getElem? (i := 0) rfl)) e0 (g := (mkF m 2 #[.val (.int p0), .val (.int p1), .val (.int p2), .val (.int p3), .val (.int p4), .val (.long p5), .second, .unset, .unset, .unset] [(.int (8 : Int32))])) rfl (hb hby at_2) rfl (by decide) (cap := 8) (by decide) (by decide) (by decide) (by decide)
  obtain ⟨b1, g1⟩ : ∃ z, z = h0.size := ⟨_, rfl⟩
  rw [← g1] at A1 st1
  have sz_b1 : h0.size ≤ b1 := Nat.le_trans K0.1 (Nat.le_of_eq g1.symm)
  have g_b1 : n0 ≤ b1 := Nat.le_trans Z0 sz_b1
  have K1 := K0.ext E1
  have V1_b1 : own_AI Z h1 b1 .byte 8 (fun _ => 0) := own_AI.new A1 (by decide) rfl 8 (by decide)
  refine hp st1 ?_
  show G T1 (mkF m 4 #[.val (.int p0), .val (.int p1), .val (.int p2), .val (.int p3), .val (.int p4), .val (.long p5), .second, .unset, .unset, .unset] [(.ref b1)])
  refine hp (fun tq kq => XS.astore X1.here hx rfl (hb hby at_4) rfl rfl (l' := #[.val (.int p0), .val (.int p1), .val (.int p2), .val (.int p3), .val (.int p4), .val (.long p5), .second, .val (.ref b1), .unset, .unset]) rfl kq) ?_
  show G T1 (mkF m 6 #[.val (.int p0), .val (.int p1), .val (.int p2), .val (.int p3), .val (.int p4), .val (.long p5), .second, .val (.ref b1), .unset, .unset] [])
  refine hp (fun tq kq => XS.aload X1.here hx rfl (hb hby at_6) rfl rfl kq) ?_
  show G T1 (mkF m 8 #[.val (.int p0), .val (.int p1), .val (.int p2), .val (.int p3), .val (.int p4), .val (.long p5), .second, .val (.ref b1), .unset, .unset] [(.ref b1)])
  refine hp (fun tq kq => XS.iconst X1.here hx rfl (hb hby at_8) kq) ?_
  show G T1 (mkF m 9 #[.val (.int p0), .val (.int p1), .val (.int p2), .val (.int p3), .val (.int p4), .val (.long p5), .second, .val (.ref b1), .unset, .unset] [(.int (0 : Int32)), (.ref b1)])
  refine hp (fun tq kq => XS.lload X1.here hx rfl (hb hby at_9) rfl kq) ?_
  show G T1 (mkF m 11 #[.val (.int p0), .val (.int p1), .val (.int p2), .val (.int p3), .val (.int p4), .val (.long p5), .second, .val (.ref b1), .unset, .unset] [(.long p5), (.int (0 : Int32)), (.ref b1)])
  refine hp (fun tq kq => XS.l2i X1.here hx rfl (hb hby at_11) rfl kq) ?_
  show G T1 (mkF m 12 #[.val (.int p0), .val (.int p1), .val (.int p2), .val (.int p3), .val (.int p4), .val (.long p5), .second, .val (.ref b1), .unset, .unset] [(.int p5.toInt32), (.int (0 : Int32)), (.ref b1)])
  refine hp (fun tq kq => XS.i2b X1.here hx rfl (hb hby at_12) rfl kq) ?_
  show G T1 (mkF m 13 #[.val (.int p0), .val (.int p1), .val (.int p2), .val (.int p3), .val (.int p4), .val (.long p5), .second, .val (.ref b1), .unset, .unset] [(.int p5.toInt32.toInt8.toInt32), (.int (0 : Int32)), (.ref b1)])
  obtain ⟨T2, h2, X2, e2, W2, V2_b1, st2⟩ := own_stB X1 hx hZ e1 V1_b1 (j := (0 : Int32)) 0 (by decide) (by decide) (by decide) (g := (mkF m 13 #[.val (.int p0), .val (.int p1), .val (.int p2), .val (.int p3), .val (.int p4), .val (.long p5), .second, .val (.ref b1), .unset, .unset] [(.int p5.toInt32.toInt8.toInt32), (.int (0 : Int32)), (.ref b1)])) rfl rfl (hb hby at_13)
  have K2 := K1.wr W2 (Or.inr sz_b1)
  have N2 := Fr.snoc X2 N0 g_b1
  refine hp st2 ?_
  show G T2 (mkF m 14 #[.val (.int p0), .val (.int p1), .val (.int p2), .val (.int p3), .val (.int p4), .val (.long p5), .second, .val (.ref b1), .unset, .unset] [])
  refine hp (fun tq kq => XS.aload X2.here hx rfl (hb hby at_14) rfl rfl kq) ?_
  show G T2 (mkF m 16 #[.val (.int p0), .val (.int p1), .val (.int p2), .val (.int p3), .val (.int p4), .val (.long p5), .second, .val (.ref b1), .unset, .unset] [(.ref b1)])
  refine hp (fun tq kq => XS.iconst X2.here hx rfl (hb hby at_16) kq) ?_
  show G T2 (mkF m 17 #[.val (.int p0), .val (.int p1), .val (.int p2), .val (.int p3), .val (.int p4), .val (.long p5), .second, .val (.ref b1), .unset, .unset] [(.int (1 : Int32)), (.ref b1)])
  refine hp (fun tq kq => XS.lload X2.here hx rfl (hb hby at_17) rfl kq) ?_
  show G T2 (mkF m 19 #[.val (.int p0), .val (.int p1), .val (.int p2), .val (.int p3), .val (.int p4), .val (.long p5), .second, .val (.ref b1), .unset, .unset] [(.long p5), (.int (1 : Int32)), (.ref b1)])
  refine hp (fun tq kq => XS.bipush X2.here hx rfl (hb hby at_19) kq) ?_
  show G T2 (mkF m 21 #[.val (.int p0), .val (.int p1), .val (.int p2), .val (.int p3), .val (.int p4), .val (.long p5), .second, .val (.ref b1), .unset, .unset] [(.int (8 : Int32)), (.long p5), (.int (1 : Int32)), (.ref b1)])
  refine hp (fun tq kq => XS.lushr X2.here hx rfl (hb hby at_21) rfl kq) ?_
  show G T2 (mkF m 22 #[.val (.int p0), .val (.int p1), .val (.int p2), .val (.int p3), .val (.int p4), .val (.long p5), .second, .val (.ref b1), .unset, .unset] [(.long ((p5.toUInt64 >>> ((8 : Int32) &&& 0x3f).toInt64.toUInt64).toInt64)), (.int (1 : Int32)), (.ref b1)])
  refine hp (fun tq kq => XS.l2i X2.here hx rfl (hb hby at_22) rfl kq) ?_
  show G T2 (mkF m 23 #[.val (.int p0), .val (.int p1), .val (.int p2), .val (.int p3), .val (.int p4), .val (.long p5), .second, .val (.ref b1), .unset, .unset] [(.int ((p5.toUInt64 >>> ((8 : Int32) &&& 0x3f).toInt64.toUInt64).toInt64).toInt32), (.int (1 : Int32)), (.ref b1)])
  refine hp (fun tq kq => XS.i2b X2.here hx rfl (hb hby at_23) rfl kq) ?_
  show G T2 (mkF m 24 #[.val (.int p0), .val (.int p1), .val (.int p2), .val (.int p3), .val (.int p4), .val (.long p5), .second, .val (.ref b1), .unset, .unset] [(.int ((p5.toUInt64 >>> ((8 : Int32) &&& 0x3f).toInt64.toUInt64).toInt64).toInt32.toInt8.toInt32), (.int (1 : Int32)), (.ref b1)])
  obtain ⟨T3, h3, X3, e3, W3, V3_b1, st3⟩ := own_stB X2 hx hZ e2 V2_b1 (j := (1 : Int32)) 1 (by decide) (by decide) (by decide) (g := (mkF m 24 #[.val (.int p0), .val (.int p1), .val (.int p2), .val (.int p3), .val (.int p4), .val (.long p5), .second, .val (.ref b1), .unset, .unset] [(.int ((p5.toUInt64 >>> ((8 : Int32) &&& 0x3f).toInt64.toUInt64).toInt64).toInt32.toInt8.toInt32), (.int (1 : Int32)), (.ref b1)])) rfl rfl (hb hby at_24)
  have K3 := K2.wr W3 (Or.inr sz_b1)
  have N3 := Fr.snoc X3 N2 g_b1
  refine hp st3 ?_
  show G T3 (mkF m 25 #[.val (.int p0), .val (.int p1), .val (.int p2), .val (.int p3), .val (.int p4), .val (.long p5), .second, .val (.ref b1), .unset, .unset] [])
  refine hp (fun tq kq => XS.aload X3.here hx rfl (hb hby at_25) rfl rfl kq) ?_
  show G T3 (mkF m 27 #[.val (.int p0), .val (.int p1), .val (.int p2), .val (.int p3), .val (.int p4), .val (.long p5), .second, .val (.ref b1), .unset, .unset] [(.ref b1)])
  refine hp (fun tq kq => XS.iconst X3.here hx rfl (hb hby at_27) kq) ?_
  show G T3 (mkF m 28 #[.val (.int p0), .val (.int p1), .val (.int p2), .val (.int p3), .val (.int p4), .val (.long p5), .second, .val (.ref b1), .unset, .unset] [(.int (2 : Int32)), (.ref b1)])
  refine hp (fun tq kq => XS.lload X3.here hx rfl (hb hby at_28) rfl kq) ?_
  show G T3 (mkF m 30 #[.val (.int p0), .val (.int p1), .val (.int p2), .val (.int p3), .val (.int p4), .val (.long p5), .second, .val (.ref b1), .unset, .unset] [(.long p5), (.int (2 : Int32)), (.ref b1)])
  refine hp (fun tq kq => XS.bipush X3.here hx rfl (hb hby at_30) kq) ?_
  show G T3 (mkF m 32 #[.val (.int p0), .val (.int p1), .val (.int p2), .val (.int p3), .val (.int p4), .val (.long p5), .second, .val (.ref b1), .unset, .unset] [(.int (16 : Int32)), (.long p5), (.int (2 : Int32)), (.ref b1)])
  refine hp (fun tq kq => XS.lushr X3.here hx rfl (hb hby at_32) rfl kq) ?_
  show G T3 (mkF m 33 #[.val (.int p0), .val (.int p1), .val (.int p2), .val (.int p3), .val (.int p4), .val (.long p5), .second, .val (.ref b1), .unset, .unset] [(.long ((p5.toUInt64 >>> ((16 : Int32) &&& 0x3f).toInt64.toUInt64).toInt64)), (.int (2 : Int32)), (.ref b1)])
  refine hp (fun tq kq => XS.l2i X3.here hx rfl (hb hby at_33) rfl kq) ?_
  show G T3 (mkF m 34 #[.val (.int p0), .val (.int p1), .val (.int p2), .val (.int p3), .val (.int p4), .val (.long p5), .second, .val (.ref b1), .unset, .unset] [(.int ((p5.toUInt64 >>> ((16 : Int32) &&& 0x3f).toInt64.toUInt64).toInt64).toInt32), (.int (2 : Int32)), (.ref b1)])
  refine hp (fun tq kq => XS.i2b X3.here hx rfl (hb hby at_34) rfl kq) ?_
  show G T3 (mkF m 35 #[.val (.int p0), .val (.int p1), .val (.int p2), .val (.int p3), .val (.int p4), .val (.long p5), .second, .val (.ref b1), .unset, .unset] [(.int ((p5.toUInt64 >>> ((16 : Int32) &&& 0x3f).toInt64.toUInt64).toInt64).toInt32.toInt8.toInt32), (.int (2 : Int32)), (.ref b1)])
  obtain ⟨T4, h4, X4, e4, W4, V4_b1, st4⟩ := own_stB X3 hx hZ e3 V3_b1 (j := (2 : Int32)) 2 (by decide) (by decide) (by decide) (g := (mkF m 35 #[.val (.int p0), .val (.int p1), .val (.int p2), .val (.int p3), .val (.int p4), .val (.long p5), .second, .val (.ref b1), .unset, .unset] [(.int ((p5.toUInt64 >>> ((16 : Int32) &&& 0x3f).toInt64.toUInt64).toInt64).toInt32.toInt8.toInt32), (.int (2 : Int32)), (.ref b1)])) rfl rfl (hb hby at_35)
  have K4 := K3.wr W4 (Or.inr sz_b1)
  have N4 := Fr.snoc X4 N3 g_b1
  refine hp st4 ?_
  show G T4 (mkF m 36 #[.val (.int p0), .val (.int p1), .val (.int p2), .val (.int p3), .val (.int p4), .val (.long p5), .second, .val (.ref b1), .unset, .unset] [])
  refine hp (fun tq kq => XS.aload X4.here hx rfl (hb hby at_36) rfl rfl kq) ?_
  show G T4 (mkF m 38 #[.val (.int p0), .val (.int p1), .val (.int p2), .val (.int p3), .val (.int p4), .val (.long p5), .second, .val (.ref b1), .unset, .unset] [(.ref b1)])
  refine hp (fun tq kq => XS.iconst X4.here hx rfl (hb hby at_38) kq) ?_
  show G T4 (mkF m 39 #[.val (.int p0), .val (.int p1), .val (.int p2), .val (.int p3), .val (.int p4), .val (.long p5), .second, .val (.ref b1), .unset, .unset] [(.int (3 : Int32)), (.ref b1)])
  refine hp (fun tq kq => XS.lload X4.here hx rfl (hb hby at_39) rfl kq) ?_
  show G T4 (mkF m 41 #[.val (.int p0), .val (.int p1), .val (.int p2), .val (.int p3), .val (.int p4), .val (.long p5), .second, .val (.ref b1), .unset, .unset] [(.long p5), (.int (3 : Int32)), (.ref b1)])
  refine hp (fun tq kq => XS.bipush X4.here hx rfl (hb hby at_41) kq) ?_
  show G T4 (mkF m 43 #[.val (.int p0), .val (.int p1), .val (.int p2), .val (.int p3), .val (.int p4), .val (.long p5), .second, .val (.ref b1), .unset, .unset] [(.int (24 : Int32)), (.long p5), (.int (3 : Int32)), (.ref b1)])
  refine hp (fun tq kq => XS.lushr X4.here hx rfl (hb hby at_43) rfl kq) ?_
  show G T4 (mkF m 44 #[.val (.int p0), .val (.int p1), .val (.int p2), .val (.int p3), .val (.int p4), .val (.long p5), .second, .val (.ref b1), .unset, .unset] [(.long ((p5.toUInt64 >>> ((24 : Int32) &&& 0x3f).toInt64.toUInt64).toInt64)), (.int (3 : Int32)), (.ref b1)])
  refine hp (fun tq kq => XS.l2i X4.here hx rfl (hb hby at_44) rfl kq) ?_
  show G T4 (mkF m 45 #[.val (.int p0), .val (.int p1), .val (.int p2), .val (.int p3), .val (.int p4), .val (.long p5), .second, .val (.ref b1), .unset, .unset] [(.int ((p5.toUInt64 >>> ((24 : Int32) &&& 0x3f).toInt64.toUInt64).toInt64).toInt32), (.int (3 : Int32)), (.ref b1)])
  refine hp (fun tq kq => XS.i2b X4.here hx rfl (hb hby at_45) rfl kq) ?_
  show G T4 (mkF m 46 #[.val (.int p0), .val (.int p1), .val (.int p2), .val (.int p3), .val (.int p4), .val (.long p5), .second, .val (.ref b1), .unset, .unset] [(.int ((p5.toUInt64 >>> ((24 : Int32) &&& 0x3f).toInt64.toUInt64).toInt64).toInt32.toInt8.toInt32), (.int (3 : Int32)), (.ref b1)])
  obtain ⟨T5, h5, X5, e5, W5, V5_b1, st5⟩ := own_stB X4 hx hZ e4 V4_b1 (j := (3 : Int32)) 3 (by decide) (by decide) (by decide) (g := (mkF m 46 #[.val (.int p0), .val (.int p1), .val (.int p2), .val (.int p3), .val (.int p4), .val (.long p5), .second, .val (.ref b1), .unset, .unset] [(.int ((p5.toUInt64 >>> ((24 : Int32) &&& 0x3f).toInt64.toUInt64).toInt64).toInt32.toInt8.toInt32), (.int (3 : Int32)), (.ref b1)])) rfl rfl (hb hby at_46)
  have K5 := K4.wr W5 (Or.inr sz_b1)
  have N5 := Fr.snoc X5 N4 g_b1
  refine hp st5 ?_
  show G T5 (mkF m 47 #[.val (.int p0), .val (.int p1), .val (.int p2), .val (.int p3), .val (.int p4), .val (.long p5), .second, .val (.ref b1), .unset, .unset] [])
  refine hp (fun tq kq => XS.aload X5.here hx rfl (hb hby at_47) rfl rfl kq) ?_
  show G T5 (mkF m 49 #[.val (.int p0), .val (.int p1), .val (.int p2), .val (.int p3), .val (.int p4), .val (.long p5), .second, .val (.ref b1), .unset, .unset] [(.ref b1)])
  refine hp (fun tq kq => XS.iconst X5.here hx rfl (hb hby at_49) kq) ?_
  show G T5 (mkF m 50 #[.val (.int p0), .val (.int p1), .val (.int p2), .val (.int p3), .val (.int p4), .val (.long p5), .second, .val (.ref b1), .unset, .unset] [(.int (4 : Int32)), (.ref b1)])
  refine hp (fun tq kq => XS.lload X5.here hx rfl (hb hby at_50) rfl kq) ?_
  show G T5 (mkF m 52 #[.val (.int p0), .val (.int p1), .val (.int p2), .val (.int p3), .val (.int p4), .val (.long p5), .second, .val (.ref b1), .unset, .unset] [(.long p5), (.int (4 : Int32)), (.ref b1)])
  refine hp (fun tq kq => XS.bipush X5.here hx rfl (hb hby at_52) kq) ?_
  show G T5 (mkF m 54 #[.val (.int p0), .val (.int p1), .val (.int p2), .val (.int p3), .val (.int p4), .val (.long p5), .second, .val (.ref b1), .unset, .unset] [(.int (32 : Int32)), (.long p5), (.int (4 : Int32)), (.ref b1)])
  refine hp (fun tq kq => XS.lushr X5.here hx rfl (hb hby at_54) rfl kq) ?_
  show G T5 (mkF m 55 #[.val (.int p0), .val (.int p1), .val (.int p2), .val (.int p3), .val (.int p4), .val (.long p5), .second, .val (.ref b1), .unset, .unset] [(.long ((p5.toUInt64 >>> ((32 : Int32) &&& 0x3f).toInt64.toUInt64).toInt64)), (.int (4 : Int32)), (.ref b1)])
  refine hp (fun tq kq => XS.l2i X5.here hx rfl (hb hby at_55) rfl kq) ?_
  show G T5 (mkF m 56 #[.val (.int p0), .val (.int p1), .val (.int p2), .val (.int p3), .val (.int p4), .val (.long p5), .second, .val (.ref b1), .unset, .unset] [(.int ((p5.toUInt64 >>> ((32 : Int32) &&& 0x3f).toInt64.toUInt64).toInt64).toInt32), (.int (4 : Int32)), (.ref b1)])
  refine hp (fun tq kq => XS.i2b X5.here hx rfl (hb hby at_56) rfl kq) ?_
  show G T5 (mkF m 57 #[.val (.int p0), .val (.int p1), .val (.int p2), .val (.int p3), .val (.int p4), .val (.long p5), .second, .val (.ref b1), .unset, .unset] [(.int ((p5.toUInt64 >>> ((32 : Int32) &&& 0x3f).toInt64.toUInt64).toInt64).toInt32.toInt8.toInt32), (.int (4 : Int32)), (.ref b1)])
  obtain ⟨T6, h6, X6, e6, W6, V6_b1, st6⟩ := own_stB X5 hx hZ e5 V5_b1 (j := (4 : Int32)) 4 (by decide) (by decide) (by decide) (g := (mkF m 57 #[.val (.int p0), .val (.int p1), .val (.int p2), .val (.int p3), .val (.int p4), .val (.long p5), .second, .val (.ref b1), .unset, .unset] [(.int ((p5.toUInt64 >>> ((32 : Int32) &&& 0x3f).toInt64.toUInt64).toInt64).toInt32.toInt8.toInt32), (.int (4 : Int32)), (.ref b1)])) rfl rfl (hb hby at_57)
  have K6 := K5.wr W6 (Or.inr sz_b1)
  have N6 := Fr.snoc X6 N5 g_b1
  refine hp st6 ?_
  show G T6 (mkF m 58 #[.val (.int p0), .val (.int p1), .val (.int p2), .val (.int p3), .val (.int p4), .val (.long p5), .second, .val (.ref b1), .unset, .unset] [])
  refine hp (fun tq kq => XS.aload X6.here hx rfl (hb hby at_58) rfl rfl kq) ?_
  show G T6 (mkF m 60 #[.val (.int p0), .val (.int p1), .val (.int p2), .val (.int p3), .val (.int p4), .val (.long p5), .second, .val (.ref b1), .unset, .unset] [(.ref b1)])
  refine hp (fun tq kq => XS.iconst X6.here hx rfl (hb hby at_60) kq) ?_
  show G T6 (mkF m 61 #[.val (.int p0), .val (.int p1), .val (.int p2), .val (.int p3), .val (.int p4), .val (.long p5), .second, .val (.ref b1), .unset, .unset] [(.int (5 : Int32)), (.ref b1)])
  refine hp (fun tq kq => XS.lload X6.here hx rfl (hb hby at_61) rfl kq) ?_
  show G T6 (mkF m 63 #[.val (.int p0), .val (.int p1), .val (.int p2), .val (.int p3), .val (.int p4), .val (.long p5), .second, .val (.ref b1), .unset, .unset] [(.long p5), (.int (5 : Int32)), (.ref b1)])
  refine hp (fun tq kq => XS.bipush X6.here hx rfl (hb hby at_63) kq) ?_
  show G T6 (mkF m 65 #[.val (.int p0), .val (.int p1), .val (.int p2), .val (.int p3), .val (.int p4), .val (.long p5), .second, .val (.ref b1), .unset, .unset] [(.int (40 : Int32)), (.long p5), (.int (5 : Int32)), (.ref b1)])
  refine hp (fun tq kq => XS.lushr X6.here hx rfl (hb hby at_65) rfl kq) ?_
  show G T6 (mkF m 66 #[.val (.int p0), .val (.int p1), .val (.int p2), .val (.int p3), .val (.int p4), .val (.long p5), .second, .val (.ref b1), .unset, .unset] [(.long ((p5.toUInt64 >>> ((40 : Int32) &&& 0x3f).toInt64.toUInt64).toInt64)), (.int (5 : Int32)), (.ref b1)])
  refine hp (fun tq kq => XS.l2i X6.here hx rfl (hb hby at_66) rfl kq) ?_
  show G T6 (mkF m 67 #[.val (.int p0), .val (.int p1), .val (.int p2), .val (.int p3), .val (.int p4), .val (.long p5), .second, .val (.ref b1), .unset, .unset] [(.int ((p5.toUInt64 >>> ((40 : Int32) &&& 0x3f).toInt64.toUInt64).toInt64).toInt32), (.int (5 : Int32)), (.ref b1)])
  refine hp (fun tq kq => XS.i2b X6.here hx rfl (hb hby at_67) rfl kq) ?_
  show G T6 (mkF m 68 #[.val (.int p0), .val (.int p1), .val (.int p2), .val (.int p3), .val (.int p4), .val (.long p5), .second, .val (.ref b1), .unset, .unset] [(.int ((p5.toUInt64 >>> ((40 : Int32) &&& 0x3f).toInt64.toUInt64).toInt64).toInt32.toInt8.toInt32), (.int (5 : Int32)), (.ref b1)])
  obtain ⟨T7, h7, X7, e7, W7, V7_b1, st7⟩ := own_stB X6 hx hZ e6 V6_b1 (j := (5 : Int32)) 5 (by decide) (by decide) (by decide) (g := (mkF m 68 #[.val (.int p0), .val (.int p1), .val (.int p2), .val (.int p3), .val (.int p4), .val (.long p5), .second, .val (.ref b1), .unset, .unset] [(.int ((p5.toUInt64 >>> ((40 : Int32) &&& 0x3f).toInt64.toUInt64).toInt64).toInt32.toInt8.toInt32), (.int (5 : Int32)), (.ref b1)])) rfl rfl (hb hby at_68)
  have K7 := K6.wr W7 (Or.inr sz_b1)
  have N7 := Fr.snoc X7 N6 g_b1
  refine hp st7 ?_
  show G T7 (mkF m 69 #[.val (.int p0), .val (.int p1), .val (.int p2), .val (.int p3), .val (.int p4), .val (.long p5), .second, .val (.ref b1), .unset, .unset] [])
  refine hp (fun tq kq => XS.aload X7.here hx rfl (hb hby at_69) rfl rfl kq) ?_
  show G T7 (mkF m 71 #[.val (.int p0), .val (.int p1), .val (.int p2), .val (.int p3), .val (.int p4), .val (.long p5), .second, .val (.ref b1), .unset, .unset] [(.ref b1)])
  refine hp (fun tq kq => XS.bipush X7.here hx rfl (hb hby at_71) kq) ?_
  show G T7 (mkF m 73 #[.val (.int p0), .val (.int p1), .val (.int p2), .val (.int p3), .val (.int p4), .val (.long p5), .second, .val (.ref b1), .unset, .unset] [(.int (6 : Int32)), (.ref b1)])
  refine hp (fun tq kq => XS.lload X7.here hx rfl (hb hby at_73) rfl kq) ?_
  show G T7 (mkF m 75 #[.val (.int p0), .val (.int p1), .val (.int p2), .val (.int p3), .val (.int p4), .val (.long p5), .second, .val (.ref b1), .unset, .unset] [(.long p5), (.int (6 : Int32)), (.ref b1)])
  refine hp (fun tq kq => XS.bipush X7.here hx rfl (hb hby at_75) kq) ?_
  show G T7 (mkF m 77 #[.val (.int p0), .val (.int p1), .val (.int p2), .val (.int p3), .val (.int p4), .val (.long p5), .second, .val (.ref b1), .unset, .unset] [(.int (48 : Int32)), (.long p5), (.int (6 : Int32)), (.ref b1)])
  refine hp (fun tq kq => XS.lushr X7.here hx rfl (hb hby at_77) rfl kq) ?_
  show G T7 (mkF m 78 #[.val (.int p0), .val (.int p1), .val (.int p2), .val (.int p3), .val (.int p4), .val (.long p5), .second, .val (.ref b1), .unset, .unset] [(.long ((p5.toUInt64 >>> ((48 : Int32) &&& 0x3f).toInt64.toUInt64).toInt64)), (.int (6 : Int32)), (.ref b1)])
  refine hp (fun tq kq => XS.l2i X7.here hx rfl (hb hby at_78) rfl kq) ?_
  show G T7 (mkF m 79 #[.val (.int p0), .val (.int p1), .val (.int p2), .val (.int p3), .val (.int p4), .val (.long p5), .second, .val (.ref b1), .unset, .unset] [(.int ((p5.toUInt64 >>> ((48 : Int32) &&& 0x3f).toInt64.toUInt64).toInt64).toInt32), (.int (6 : Int32)), (.ref b1)])
  refine hp (fun tq kq => XS.i2b X7.here hx rfl (hb hby at_79) rfl kq) ?_
  show G T7 (mkF m 80 #[.val (.int p0), .val (.int p1), .val (.int p2), .val (.int p3), .val (.int p4), .val (.long p5), .second, .val (.ref b1), .unset, .unset] [(.int ((p5.toUInt64 >>> ((48 : Int32) &&& 0x3f).toInt64.toUInt64).toInt64).toInt32.toInt8.toInt32), (.int (6 : Int32)), (.ref b1)])
  obtain ⟨T8, h8, X8, e8, W8, V8_b1, st8⟩ := own_stB X7 hx hZ e7 V7_b1 (j := (6 : Int32)) 6 (by decide) (by decide) (by decide) (g := (mkF m 80 #[.val (.int p0), .val (.int p1), .val (.int p2), .val (.int p3), .val (.int p4), .val (.long p5), .second, .val (.ref b1), .unset, .unset] [(.int ((p5.toUInt64 >>> ((48 : Int32) &&& 0x3f).toInt64.toUInt64).toInt64).toInt32.toInt8.toInt32), (.int (6 : Int32)), (.ref b1)])) rfl rfl (hb hby at_80)
  have K8 := K7.wr W8 (Or.inr sz_b1)
  have N8 := Fr.snoc X8 N7 g_b1
  refine hp st8 ?_
  show G T8 (mkF m 81 #[.val (.int p0), .val (.int p1), .val (.int p2), .val (.int p3), .val (.int p4), .val (.long p5), .second, .val (.ref b1), .unset, .unset] [])
  refine hp (fun tq kq => XS.aload X8.here hx rfl (hb hby at_81) rfl rfl kq) ?_
  show G T8 (mkF m 83 #[.val (.int p0), .val (.int p1), .val (.int p2), .val (.int p3), .val (.int p4), .val (.long p5), .second, .val (.ref b1), .unset, .unset] [(.ref b1)])
  refine hp (fun tq kq => XS.bipush X8.here hx rfl (hb hby at_83) kq) ?_
  show G T8 (mkF m 85 #[.val (.int p0), .val (.int p1), .val (.int p2), .val (.int p3), .val (.int p4), .val (.long p5), .second, .val (.ref b1), .unset, .unset] [(.int (7 : Int32)), (.ref b1)])
  refine hp (fun tq kq => XS.lload X8.here hx rfl (hb hby at_85) rfl kq) ?_
  show G T8 (mkF m 87 #[.val (.int p0), .val (.int p1), .val (.int p2), .val (.int p3), .val (.int p4), .val (.long p5), .second, .val (.ref b1), .unset, .unset] [(.long p5), (.int (7 : Int32)), (.ref b1)])
  refine hp (fun tq kq => XS.bipush X8.here hx rfl (hb hby at_87) kq) ?_
  show G T8 (mkF m 89 #[.val (.int p0), .val (.int p1), .val (.int p2), .val (.int p3), .val (.int p4), .val (.long p5), .second, .val (.ref b1), .unset, .unset] [(.int (56 : Int32)), (.long p5), (.int (7 : Int32)), (.ref b1)])
  refine hp (fun tq kq => XS.lushr X8.here hx rfl (hb hby at_89) rfl kq) ?_
  show G T8 (mkF m 90 #[.val (.int p0), .val (.int p1), .val (.int p2), .val (.int p3), .val (.int p4), .val (.long p5), .second, .val (.ref b1), .unset, .unset] [(.long ((p5.toUInt64 >>> ((56 : Int32) &&& 0x3f).toInt64.toUInt64).toInt64)), (.int (7 : Int32)), (.ref b1)])
  refine hp (fun tq kq => XS.l2i X8.here hx rfl (hb hby at_90) rfl kq) ?_
  show G T8 (mkF m 91 #[.val (.int p0), .val (.int p1), .val (.int p2), .val (.int p3), .val (.int p4), .val (.long p5), .second, .val (.ref b1), .unset, .unset] [(.int ((p5.toUInt64 >>> ((56 : Int32) &&& 0x3f).toInt64.toUInt64).toInt64).toInt32), (.int (7 : Int32)), (.ref b1)])
  refine hp (fun tq kq => XS.i2b X8.here hx rfl (hb hby at_91) rfl kq) ?_
  show G T8 (mkF m 92 #[.val (.int p0), .val (.int p1), .val (.int p2), .val (.int p3), .val (.int p4), .val (.long p5), .second, .val (.ref b1), .unset, .unset] [(.int ((p5.toUInt64 >>> ((56 : Int32) &&& 0x3f).toInt64.toUInt64).toInt64).toInt32.toInt8.toInt32), (.int (7 : Int32)), (.ref b1)])
  obtain ⟨T9, h9, X9, e9, W9, V9_b1, st9⟩ := own_stB X8 hx hZ e8 V8_b1 (j := (7 : Int32)) 7 (by decide) (by decide) (by decide) (g := (mkF m 92 #[.val (.int p0), .val (.int p1), .val (.int p2), .val (.int p3), .val (.int p4), .val (.long p5), .second, .val (.ref b1), .unset, .unset] [(.int ((p5.toUInt64 >>> ((56 : Int32) &&& 0x3f).toInt64.toUInt64).toInt64).toInt32.toInt8.toInt32), (.int (7 : Int32)), (.ref b1)])) rfl rfl (hb hby at_92)
  have K9 := K8.wr W9 (Or.inr sz_b1)
  have N9 := Fr.snoc X9 N8 g_b1
  refine hp st9 ?_
  show G T9 (mkF m 93 #[.val (.int p0), .val (.int p1), .val (.int p2), .val (.int p3), .val (.int p4), .val (.long p5), .second, .val (.ref b1), .unset, .unset] [])
  refine hp (fun tq kq => XS.iload X9.here hx rfl (hb hby at_93) rfl kq) ?_
  show G T9 (mkF m 95 #[.val (.int p0), .val (.int p1), .val (.int p2), .val (.int p3), .val (.int p4), .val (.long p5), .second, .val (.ref b1), .unset, .unset] [(.int p4)])
  refine hp (fun tq kq => XS.iconst X9.here hx rfl (hb hby at_95) kq) ?_
  show G T9 (mkF m 96 #[.val (.int p0), .val (.int p1), .val (.int p2), .val (.int p3), .val (.int p4), .val (.long p5), .second, .val (.ref b1), .unset, .unset] [(.int (3 : Int32)), (.int p4)])
  refine hp (fun tq kq => XS.iand X9.here hx rfl (hb hby at_96) rfl kq) ?_
  show G T9 (mkF m 97 #[.val (.int p0), .val (.int p1), .val (.int p2), .val (.int p3), .val (.int p4), .val (.long p5), .second, .val (.ref b1), .unset, .unset] [(.int (p4 &&& (3 : Int32)))])
  refine hp (fun tq kq => XS.istore X9.here hx rfl (hb hby at_97) rfl (l' := #[.val (.int p0), .val (.int p1), .val (.int p2), .val (.int p3), .val (.int p4), .val (.long p5), .second, .val (.ref b1), .val (.int (p4 &&& (3 : Int32))), .unset]) rfl kq) ?_
  show G T9 (mkF m 99 #[.val (.int p0), .val (.int p1), .val (.int p2), .val (.int p3), .val (.int p4), .val (.long p5), .second, .val (.ref b1), .val (.int (p4 &&& (3 : Int32))), .unset] [])
  obtain ⟨f0, Vf⟩ : ∃ f, own_AI Z h9 b1 .byte 8 f := ⟨_, V9_b1⟩
  rcases own_m3 p4 with hq | hq | hq | hq <;> rw [hq]
  · show G T9 (mkF m 99 #[.val (.int p0), .val (.int p1), .val (.int p2), .val (.int p3), .val (.int p4), .val (.long p5), .second, .val (.ref b1), .val (.int (0 : Int32)), .unset] [])
    refine hp (fun tq kq => XS.aload X9.here hx rfl (hb hby at_99) rfl rfl kq) ?_
    show G T9 (mkF m 101 #[.val (.int p0), .val (.int p1), .val (.int p2), .val (.int p3), .val (.int p4), .val (.long p5), .second, .val (.ref b1), .val (.int (0 : Int32)), .unset] [(.ref b1)])
    refine hp (fun tq kq => XS.iload X9.here hx rfl (hb hby at_101) rfl kq) ?_
    show G T9 (mkF m 103 #[.val (.int p0), .val (.int p1), .val (.int p2), .val (.int p3), .val (.int p4), .val (.long p5), .second, .val (.ref b1), .val (.int (0 : Int32)), .unset] [(.int (0 : Int32)), (.ref b1)])
    refine hp (fun tq kq => XS.iloadN X9.here hx rfl (hb hby at_103) rfl kq) ?_
    show G T9 (mkF m 104 #[.val (.int p0), .val (.int p1), .val (.int p2), .val (.int p3), .val (.int p4), .val (.long p5), .second, .val (.ref b1), .val (.int (0 : Int32)), .unset] [(.int p0), (.int (0 : Int32)), (.ref b1)])
    refine hp (fun tq kq => XS.i2b X9.here hx rfl (hb hby at_104) rfl kq) ?_
    show G T9 (mkF m 105 #[.val (.int p0), .val (.int p1), .val (.int p2), .val (.int p3), .val (.int p4), .val (.long p5), .second, .val (.ref b1), .val (.int (0 : Int32)), .unset] [(.int p0.toInt8.toInt32), (.int (0 : Int32)), (.ref b1)])
    obtain ⟨T10, h10, X10, e10, W10, V10_b1, st10⟩ := own_stB X9 hx hZ e9 Vf (j := (0 : Int32)) 0 (by decide) (by decide) (by decide) (g := (mkF m 105 #[.val (.int p0), .val (.int p1), .val (.int p2), .val (.int p3), .val (.int p4), .val (.long p5), .second, .val (.ref b1), .val (.int (0 : Int32)), .unset] [(.int p0.toInt8.toInt32), (.int (0 : Int32)), (.ref b1)])) rfl rfl (hb hby at_105)
    have K10 := K9.wr W10 (Or.inr sz_b1)
    have N10 := Fr.snoc X10 N9 g_b1
    refine hp st10 ?_
    show G T10 (mkF m 106 #[.val (.int p0), .val (.int p1), .val (.int p2), .val (.int p3), .val (.int p4), .val (.long p5), .second, .val (.ref b1), .val (.int (0 : Int32)), .unset] [])
    refine hp (fun tq kq => XS.aload X10.here hx rfl (hb hby at_106) rfl rfl kq) ?_
    show G T10 (mkF m 108 #[.val (.int p0), .val (.int p1), .val (.int p2), .val (.int p3), .val (.int p4), .val (.long p5), .second, .val (.ref b1), .val (.int (0 : Int32)), .unset] [(.ref b1)])
    refine hp (fun tq kq => XS.iload X10.here hx rfl (hb hby at_108) rfl kq) ?_
    show G T10 (mkF m 110 #[.val (.int p0), .val (.int p1), .val (.int p2), .val (.int p3), .val (.int p4), .val (.long p5), .second, .val (.ref b1), .val (.int (0 : Int32)), .unset] [(.int (0 : Int32)), (.ref b1)])
    refine hp (fun tq kq => XS.iconst X10.here hx rfl (hb hby at_110) kq) ?_
    show G T10 (mkF m 111 #[.val (.int p0), .val (.int p1), .val (.int p2), .val (.int p3), .val (.int p4), .val (.long p5), .second, .val (.ref b1), .val (.int (0 : Int32)), .unset] [(.int (1 : Int32)), (.int (0 : Int32)), (.ref b1)])
    refine hp (fun tq kq => XS.iadd X10.here hx rfl (hb hby at_111) rfl kq) ?_
    show G T10 (mkF m 112 #[.val (.int p0), .val (.int p1), .val (.int p2), .val (.int p3), .val (.int p4), .val (.long p5), .second, .val (.ref b1), .val (.int (0 : Int32)), .unset] [(.int (1 : Int32)), (.ref b1)])
    refine hp (fun tq kq => XS.iloadN X10.here hx rfl (hb hby at_112) rfl kq) ?_
    show G T10 (mkF m 113 #[.val (.int p0), .val (.int p1), .val (.int p2), .val (.int p3), .val (.int p4), .val (.long p5), .second, .val (.ref b1), .val (.int (0 : Int32)), .unset] [(.int p1), (.int (1 : Int32)), (.ref b1)])
    refine hp (fun tq kq => XS.i2b X10.here hx rfl (hb hby at_113) rfl kq) ?_
    show G T10 (mkF m 114 #[.val (.int p0), .val (.int p1), .val (.int p2), .val (.int p3), .val (.int p4), .val (.long p5), .second, .val (.ref b1), .val (.int (0 : Int32)), .unset] [(.int p1.toInt8.toInt32), (.int (1 : Int32)), (.ref b1)])
    obtain ⟨T11, h11, X11, e11, W11, V11_b1, st11⟩ := own_stB X10 hx hZ e10 V10_b1 (j := (1 : Int32)) 1 (by decide) (by decide) (by decide) (g := (mkF m 114 #[.val (.int p0), .val (.int p1), .val (.int p2), .val (.int p3), .val (.int p4), .val (.long p5), .second, .val (.ref b1), .val (.int (0 : Int32)), .unset] [(.int p1.toInt8.toInt32), (.int (1 : Int32)), (.ref b1)])) rfl rfl (hb hby at_114)
    have K11 := K10.wr W11 (Or.inr sz_b1)
    have N11 := Fr.snoc X11 N10 g_b1
    refine hp st11 ?_
    show G T11 (mkF m 115 #[.val (.int p0), .val (.int p1), .val (.int p2), .val (.int p3), .val (.int p4), .val (.long p5), .second, .val (.ref b1), .val (.int (0 : Int32)), .unset] [])
    refine hp (fun tq kq => XS.aload X11.here hx rfl (hb hby at_115) rfl rfl kq) ?_
    show G T11 (mkF m 117 #[.val (.int p0), .val (.int p1), .val (.int p2), .val (.int p3), .val (.int p4), .val (.long p5), .second, .val (.ref b1), .val (.int (0 : Int32)), .unset] [(.ref b1)])
    refine hp (fun tq kq => XS.iload X11.here hx rfl (hb hby at_117) rfl kq) ?_
    show G T11 (mkF m 119 #[.val (.int p0), .val (.int p1), .val (.int p2), .val (.int p3), .val (.int p4), .val (.long p5), .second, .val (.ref b1), .val (.int (0 : Int32)), .unset] [(.int (0 : Int32)), (.ref b1)])
    refine hp (fun tq kq => XS.iconst X11.here hx rfl (hb hby at_119) kq) ?_
    show G T11 (mkF m 120 #[.val (.int p0), .val (.int p1), .val (.int p2), .val (.int p3), .val (.int p4), .val (.long p5), .second, .val (.ref b1), .val (.int (0 : Int32)), .unset] [(.int (2 : Int32)), (.int (0 : Int32)), (.ref b1)])
    refine hp (fun tq kq => XS.iadd X11.here hx rfl (hb hby at_120) rfl kq) ?_
    show G T11 (mkF m 121 #[.val (.int p0), .val (.int p1), .val (.int p2), .val (.int p3), .val (.int p4), .val (.long p5), .second, .val (.ref b1), .val (.int (0 : Int32)), .unset] [(.int (2 : Int32)), (.ref b1)])
    refine hp (fun tq kq => XS.iloadN X11.here hx rfl (hb hby at_121) rfl kq) ?_
    show G T11 (mkF m 122 #[.val (.int p0), .val (.int p1), .val (.int p2), .val (.int p3), .val (.int p4), .val (.long p5), .second, .val (.ref b1), .val (.int (0 : Int32)), .unset] [(.int p2), (.int (2 : Int32)), (.ref b1)])
    refine hp (fun tq kq => XS.i2b X11.here hx rfl (hb hby at_122) rfl kq) ?_
    show G T11 (mkF m 123 #[.val (.int p0), .val (.int p1), .val (.int p2), .val (.int p3), .val (.int p4), .val (.long p5), .second, .val (.ref b1), .val (.int (0 : Int32)), .unset] [(.int p2.toInt8.toInt32), (.int (2 : Int32)), (.ref b1)])
    obtain ⟨T12, h12, X12, e12, W12, V12_b1, st12⟩ := own_stB X11 hx hZ e11 V11_b1 (j := (2 : Int32)) 2 (by decide) (by decide) (by decide) (g := (mkF m 123 #[.val (.int p0), .val (.int p1), .val (.int p2), .val (.int p3), .val (.int p4), .val (.long p5), .second, .val (.ref b1), .val (.int (0 : Int32)), .unset] [(.int p2.toInt8.toInt32), (.int (2 : Int32)), (.ref b1)])) rfl rfl (hb hby at_123)
    have K12 := K11.wr W12 (Or.inr sz_b1)
    have N12 := Fr.snoc X12 N11 g_b1
    refine hp st12 ?_
    show G T12 (mkF m 124 #[.val (.int p0), .val (.int p1), .val (.int p2), .val (.int p3), .val (.int p4), .val (.long p5), .second, .val (.ref b1), .val (.int (0 : Int32)), .unset] [])
    refine hp (fun tq kq => XS.aload X12.here hx rfl (hb hby at_124) rfl rfl kq) ?_
    show G T12 (mkF m 126 #[.val (.int p0), .val (.int p1), .val (.int p2), .val (.int p3), .val (.int p4), .val (.long p5), .second, .val (.ref b1), .val (.int (0 : Int32)), .unset] [(.ref b1)])
    refine hp (fun tq kq => XS.iload X12.here hx rfl (hb hby at_126) rfl kq) ?_
    show G T12 (mkF m 128 #[.val (.int p0), .val (.int p1), .val (.int p2), .val (.int p3), .val (.int p4), .val (.long p5), .second, .val (.ref b1), .val (.int (0 : Int32)), .unset] [(.int (0 : Int32)), (.ref b1)])
    refine hp (fun tq kq => XS.iconst X12.here hx rfl (hb hby at_128) kq) ?_
    show G T12 (mkF m 129 #[.val (.int p0), .val (.int p1), .val (.int p2), .val (.int p3), .val (.int p4), .val (.long p5), .second, .val (.ref b1), .val (.int (0 : Int32)), .unset] [(.int (3 : Int32)), (.int (0 : Int32)), (.ref b1)])
    refine hp (fun tq kq => XS.iadd X12.here hx rfl (hb hby at_129) rfl kq) ?_
    show G T12 (mkF m 130 #[.val (.int p0), .val (.int p1), .val (.int p2), .val (.int p3), .val (.int p4), .val (.long p5), .second, .val (.ref b1), .val (.int (0 : Int32)), .unset] [(.int (3 : Int32)), (.ref b1)])
    refine hp (fun tq kq => XS.iloadN X12.here hx rfl (hb hby at_130) rfl kq) ?_
    show G T12 (mkF m 131 #[.val (.int p0), .val (.int p1), .val (.int p2), .val (.int p3), .val (.int p4), .val (.long p5), .second, .val (.ref b1), .val (.int (0 : Int32)), .unset] [(.int p3), (.int (3 : Int32)), (.ref b1)])
    refine hp (fun tq kq => XS.i2b X12.here hx rfl (hb hby at_131) rfl kq) ?_
    show G T12 (mkF m 132 #[.val (.int p0), .val (.int p1), .val (.int p2), .val (.int p3), .val (.int p4), .val (.long p5), .second, .val (.ref b1), .val (.int (0 : Int32)), .unset] [(.int p3.toInt8.toInt32), (.int (3 : Int32)), (.ref b1)])
    obtain ⟨T13, h13, X13, e13, W13, V13_b1, st13⟩ := own_stB X12 hx hZ e12 V12_b1 (j := (3 : Int32)) 3 (by decide) (by decide) (by decide) (g := (mkF m 132 #[.val (.int p0), .val (.int p1), .val (.int p2), .val (.int p3), .val (.int p4), .val (.long p5), .second, .val (.ref b1), .val (.int (0 : Int32)), .unset] [(.int p3.toInt8.toInt32), (.int (3 : Int32)), (.ref b1)])) rfl rfl (hb hby at_132)
    have K13 := K12.wr W13 (Or.inr sz_b1)
    have N13 := Fr.snoc X13 N12 g_b1
    refine hp st13 ?_
    show G T13 (mkF m 133 #[.val (.int p0), .val (.int p1), .val (.int p2), .val (.int p3), .val (.int p4), .val (.long p5), .second, .val (.ref b1), .val (.int (0 : Int32)), .unset] [])
    refine hp (fun tq kq => XS.iloadN X13.here hx rfl (hb hby at_133) rfl kq) ?_
    show G T13 (mkF m 134 #[.val (.int p0), .val (.int p1), .val (.int p2), .val (.int p3), .val (.int p4), .val (.long p5), .second, .val (.ref b1), .val (.int (0 : Int32)), .unset] [(.int p0)])
    refine hp (fun tq kq => XS.sipush X13.here hx rfl (hb hby at_134) kq) ?_
    show G T13 (mkF m 137 #[.val (.int p0), .val (.int p1), .val (.int p2), .val (.int p3), .val (.int p4), .val (.long p5), .second, .val (.ref b1), .val (.int (0 : Int32)), .unset] [(.int (255 : Int32)), (.int p0)])
    refine hp (fun tq kq => XS.iand X13.here hx rfl (hb hby at_137) rfl kq) ?_
    show G T13 (mkF m 138 #[.val (.int p0), .val (.int p1), .val (.int p2), .val (.int p3), .val (.int p4), .val (.long p5), .second, .val (.ref b1), .val (.int (0 : Int32)), .unset] [(.int (p0 &&& (255 : Int32)))])
    refine hp (fun tq kq => XS.iloadN X13.here hx rfl (hb hby at_138) rfl kq) ?_
    show G T13 (mkF m 139 #[.val (.int p0), .val (.int p1), .val (.int p2), .val (.int p3), .val (.int p4), .val (.long p5), .second, .val (.ref b1), .val (.int (0 : Int32)), .unset] [(.int p1), (.int (p0 &&& (255 : Int32)))])
    refine hp (fun tq kq => XS.sipush X13.here hx rfl (hb hby at_139) kq) ?_
    show G T13 (mkF m 142 #[.val (.int p0), .val (.int p1), .val (.int p2), .val (.int p3), .val (.int p4), .val (.long p5), .second, .val (.ref b1), .val (.int (0 : Int32)), .unset] [(.int (255 : Int32)), (.int p1), (.int (p0 &&& (255 : Int32)))])
    refine hp (fun tq kq => XS.iand X13.here hx rfl (hb hby at_142) rfl kq) ?_
    show G T13 (mkF m 143 #[.val (.int p0), .val (.int p1), .val (.int p2), .val (.int p3), .val (.int p4), .val (.long p5), .second, .val (.ref b1), .val (.int (0 : Int32)), .unset] [(.int (p1 &&& (255 : Int32))), (.int (p0 &&& (255 : Int32)))])
    refine hp (fun tq kq => XS.sipush X13.here hx rfl (hb hby at_143) kq) ?_
    show G T13 (mkF m 146 #[.val (.int p0), .val (.int p1), .val (.int p2), .val (.int p3), .val (.int p4), .val (.long p5), .second, .val (.ref b1), .val (.int (0 : Int32)), .unset] [(.int (256 : Int32)), (.int (p1 &&& (255 : Int32))), (.int (p0 &&& (255 : Int32)))])
    refine hp (fun tq kq => XS.imul X13.here hx rfl (hb hby at_146) rfl kq) ?_
    show G T13 (mkF m 147 #[.val (.int p0), .val (.int p1), .val (.int p2), .val (.int p3), .val (.int p4), .val (.long p5), .second, .val (.ref b1), .val (.int (0 : Int32)), .unset] [(.int ((p1 &&& (255 : Int32)) * (256 : Int32))), (.int (p0 &&& (255 : Int32)))])
    refine hp (fun tq kq => XS.iadd X13.here hx rfl (hb hby at_147) rfl kq) ?_
    show G T13 (mkF m 148 #[.val (.int p0), .val (.int p1), .val (.int p2), .val (.int p3), .val (.int p4), .val (.long p5), .second, .val (.ref b1), .val (.int (0 : Int32)), .unset] [(.int ((p0 &&& (255 : Int32)) + ((p1 &&& (255 : Int32)) * (256 : Int32))))])
    refine hp (fun tq kq => XS.iloadN X13.here hx rfl (hb hby at_148) rfl kq) ?_
    show G T13 (mkF m 149 #[.val (.int p0), .val (.int p1), .val (.int p2), .val (.int p3), .val (.int p4), .val (.long p5), .second, .val (.ref b1), .val (.int (0 : Int32)), .unset] [(.int p2), (.int ((p0 &&& (255 : Int32)) + ((p1 &&& (255 : Int32)) * (256 : Int32))))])
    refine hp (fun tq kq => XS.sipush X13.here hx rfl (hb hby at_149) kq) ?_
    show G T13 (mkF m 152 #[.val (.int p0), .val (.int p1), .val (.int p2), .val (.int p3), .val (.int p4), .val (.long p5), .second, .val (.ref b1), .val (.int (0 : Int32)), .unset] [(.int (255 : Int32)), (.int p2), (.int ((p0 &&& (255 : Int32)) + ((p1 &&& (255 : Int32)) * (256 : Int32))))])
    refine hp (fun tq kq => XS.iand X13.here hx rfl (hb hby at_152) rfl kq) ?_
    show G T13 (mkF m 153 #[.val (.int p0), .val (.int p1), .val (.int p2), .val (.int p3), .val (.int p4), .val (.long p5), .second, .val (.ref b1), .val (.int (0 : Int32)), .unset] [(.int (p2 &&& (255 : Int32))), (.int ((p0 &&& (255 : Int32)) + ((p1 &&& (255 : Int32)) * (256 : Int32))))])
    refine hp (fun tq kq => X13.ldcInt hx hown (mvT hZ (hw _ (List.mem_of_getElem? (i := 1) rfl))) (g := (mkF m 153 #[.val (.int p0), .val (.int p1), .val (.int p2), .val (.int p3), .val (.int p4), .val (.long p5), .second, .val (.ref b1), .val (.int (0 : Int32)), .unset] [(.int (p2 &&& (255 : Int32))), (.int ((p0 &&& (255 : Int32)) + ((p1 &&& (255 : Int32)) * (256 : Int32))))])) rfl (hb hby at_153) _ kq) ?_
    show G T13 (mkF m 155 #[.val (.int p0), .val (.int p1), .val (.int p2), .val (.int p3), .val (.int p4), .val (.long p5), .second, .val (.ref b1), .val (.int (0 : Int32)), .unset] [(.int (65536 : Int32)), (.int (p2 &&& (255 : Int32))), (.int ((p0 &&& (255 : Int32)) + ((p1 &&& (255 : Int32)) * (256 : Int32))))])
    refine hp (fun tq kq => XS.imul X13.here hx rfl (hb hby at_155) rfl kq) ?_
    show G T13 (mkF m 156 #[.val (.int p0), .val (.int p1), .val (.int p2), .val (.int p3), .val (.int p4), .val (.long p5), .second, .val (.ref b1), .val (.int (0 : Int32)), .unset] [(.int ((p2 &&& (255 : Int32)) * (65536 : Int32))), (.int ((p0 &&& (255 : Int32)) + ((p1 &&& (255 : Int32)) * (256 : Int32))))])
    refine hp (fun tq kq => XS.iadd X13.here hx rfl (hb hby at_156) rfl kq) ?_
    show G T13 (mkF m 157 #[.val (.int p0), .val (.int p1), .val (.int p2), .val (.int p3), .val (.int p4), .val (.long p5), .second, .val (.ref b1), .val (.int (0 : Int32)), .unset] [(.int (((p0 &&& (255 : Int32)) + ((p1 &&& (255 : Int32)) * (256 : Int32))) + ((p2 &&& (255 : Int32)) * (65536 : Int32))))])
    refine hp (fun tq kq => XS.iloadN X13.here hx rfl (hb hby at_157) rfl kq) ?_
    show G T13 (mkF m 158 #[.val (.int p0), .val (.int p1), .val (.int p2), .val (.int p3), .val (.int p4), .val (.long p5), .second, .val (.ref b1), .val (.int (0 : Int32)), .unset] [(.int p3), (.int (((p0 &&& (255 : Int32)) + ((p1 &&& (255 : Int32)) * (256 : Int32))) + ((p2 &&& (255 : Int32)) * (65536 : Int32))))])
    refine hp (fun tq kq => XS.sipush X13.here hx rfl (hb hby at_158) kq) ?_
    show G T13 (mkF m 161 #[.val (.int p0), .val (.int p1), .val (.int p2), .val (.int p3), .val (.int p4), .val (.long p5), .second, .val (.ref b1), .val (.int (0 : Int32)), .unset] [(.int (255 : Int32)), (.int p3), (.int (((p0 &&& (255 : Int32)) + ((p1 &&& (255 : Int32)) * (256 : Int32))) + ((p2 &&& (255 : Int32)) * (65536 : Int32))))])
    refine hp (fun tq kq => XS.iand X13.here hx rfl (hb hby at_161) rfl kq) ?_
    show G T13 (mkF m 162 #[.val (.int p0), .val (.int p1), .val (.int p2), .val (.int p3), .val (.int p4), .val (.long p5), .second, .val (.ref b1), .val (.int (0 : Int32)), .unset] [(.int (p3 &&& (255 : Int32))), (.int (((p0 &&& (255 : Int32)) + ((p1 &&& (255 : Int32)) * (256 : Int32))) + ((p2 &&& (255 : Int32)) * (65536 : Int32))))])
    refine hp (fun tq kq => X13.ldcInt hx hown (mvT hZ (hw _ (List.mem_of_getElem? (i := 2) rfl))) (g := (mkF m 162 #[.val (.int p0), .val (.int p1), .val (.int p2), .val (.int p3), .val (.int p4), .val (.long p5), .second, .val (.ref b1), .val (.int (0 : Int32)), .unset] [(.int (p3 &&& (255 : Int32))), (.int (((p0 &&& (255 : Int32)) + ((p1 &&& (255 : Int32)) * (256 : Int32))) + ((p2 &&& (255 : Int32)) * (65536 : Int32))))])) rfl (hb hby at_162) _ kq) ?_
    show G T13 (mkF m 164 #[.val (.int p0), .val (.int p1), .val (.int p2), .val (.int p3), .val (.int p4), .val (.long p5), .second, .val (.ref b1), .val (.int (0 : Int32)), .unset] [(.int (16777216 : Int32)), (.int (p3 &&& (255 : Int32))), (.int (((p0 &&& (255 : Int32)) + ((p1 &&& (255 : Int32)) * (256 : Int32))) + ((p2 &&& (255 : Int32)) * (65536 : Int32))))])
    refine hp (fun tq kq => XS.imul X13.here hx rfl (hb hby at_164) rfl kq) ?_
    show G T13 (mkF m 165 #[.val (.int p0), .val (.int p1), .val (.int p2), .val (.int p3), .val (.int p4), .val (.long p5), .second, .val (.ref b1), .val (.int (0 : Int32)), .unset] [(.int ((p3 &&& (255 : Int32)) * (16777216 : Int32))), (.int (((p0 &&& (255 : Int32)) + ((p1 &&& (255 : Int32)) * (256 : Int32))) + ((p2 &&& (255 : Int32)) * (65536 : Int32))))])
    refine hp (fun tq kq => XS.iadd X13.here hx rfl (hb hby at_165) rfl kq) ?_
    show G T13 (mkF m 166 #[.val (.int p0), .val (.int p1), .val (.int p2), .val (.int p3), .val (.int p4), .val (.long p5), .second, .val (.ref b1), .val (.int (0 : Int32)), .unset] [(.int ((((p0 &&& (255 : Int32)) + ((p1 &&& (255 : Int32)) * (256 : Int32))) + ((p2 &&& (255 : Int32)) * (65536 : Int32))) + ((p3 &&& (255 : Int32)) * (16777216 : Int32))))])
    refine hp (fun tq kq => XS.istore X13.here hx rfl (hb hby at_166) rfl (l' := #[.val (.int p0), .val (.int p1), .val (.int p2), .val (.int p3), .val (.int p4), .val (.long p5), .second, .val (.ref b1), .val (.int (0 : Int32)), .val (.int ((((p0 &&& (255 : Int32)) + ((p1 &&& (255 : Int32)) * (256 : Int32))) + ((p2 &&& (255 : Int32)) * (65536 : Int32))) + ((p3 &&& (255 : Int32)) * (16777216 : Int32))))]) rfl kq) ?_
    show G T13 (mkF m 168 #[.val (.int p0), .val (.int p1), .val (.int p2), .val (.int p3), .val (.int p4), .val (.long p5), .second, .val (.ref b1), .val (.int (0 : Int32)), .val (.int ((((p0 &&& (255 : Int32)) + ((p1 &&& (255 : Int32)) * (256 : Int32))) + ((p2 &&& (255 : Int32)) * (65536 : Int32))) + ((p3 &&& (255 : Int32)) * (16777216 : Int32))))] [])
    refine (?_ : ∀ (z14 : Int32), z14 = ((((p0 &&& (255 : Int32)) + ((p1 &&& (255 : Int32)) * (256 : Int32))) + ((p2 &&& (255 : Int32)) * (65536 : Int32))) + ((p3 &&& (255 : Int32)) * (16777216 : Int32))) → G T13 (mkF m 168 #[.val (.int p0), .val (.int p1), .val (.int p2), .val (.int p3), .val (.int p4), .val (.long p5), .second, .val (.ref b1), .val (.int (0 : Int32)), .val (.int z14)] [])) _ rfl
    intro z14 hz14
    refine hp (fun tq kq => XS.aload X13.here hx rfl (hb hby at_168) rfl rfl kq) ?_
    show G T13 (mkF m 170 #[.val (.int p0), .val (.int p1), .val (.int p2), .val (.int p3), .val (.int p4), .val (.long p5), .second, .val (.ref b1), .val (.int (0 : Int32)), .val (.int z14)] [(.ref b1)])
    refine hp (fun tq kq => XS.iload X13.here hx rfl (hb hby at_170) rfl kq) ?_
    show G T13 (mkF m 172 #[.val (.int p0), .val (.int p1), .val (.int p2), .val (.int p3), .val (.int p4), .val (.long p5), .second, .val (.ref b1), .val (.int (0 : Int32)), .val (.int z14)] [(.int (0 : Int32)), (.ref b1)])
    obtain ⟨v15, T15, L15, X15, hQ15, st15⟩ := own_callS X13 hx hZ (y := (⟨"com/example/lakebed/lakebed/core/parquet/LittleEndian", "readInt", "([BI)I"⟩ : MethodName)) (rm := ({ frames := 0, cells := 0, slots := 0, locals := 0 } : Room)) 0 hown (hw _ (List.mem_of_getElem? (i := 3) rfl)) (hw _ (List.mem_of_getElem? (i := 4) rfl)) (hw _ (List.mem_of_getElem? (i := 5) rfl)) (hw _ (List.mem_of_getElem? (i := 6) rfl)) (by decide) (rm1 l Z a0 hw [] b1 (0 : Int32) 8 (own_up (own_up (own_up (own_up f0 0 p0.toInt8.toInt32.toInt8.toInt32) 1 p1.toInt8.toInt32.toInt8.toInt32) 2 p2.toInt8.toInt32.toInt8.toInt32) 3 p3.toInt8.toInt32.toInt8.toInt32) 0 1 2 3 h13 n0 V13_b1 (by decide) (by decide) (by decide) (by decide) (by decide) (by decide) (by decide) (by decide) (by decide) (by decide) (by decide) (by decide)) e13 (by decide) (by decide) (g := (mkF m 172 #[.val (.int p0), .val (.int p1), .val (.int p2), .val (.int p3), .val (.int p4), .val (.long p5), .second, .val (.ref b1), .val (.int (0 : Int32)), .val (.int z14)] [(.int (0 : Int32)), (.ref b1)])) rfl (by rw [hml]; rfl) [(.ref b1), (.int (0 : Int32))] [] own_pd0 rfl rfl (by show 2 * 0 + _ ≤ _; exact Nat.le_of_eq rfl) (hb hby at_172) rfl (by decide) (by decide)
    obtain ⟨rfl, N15, e15⟩ := hQ15
    have F15 := Fr.app N13 N15
    refine hp st15 ?_
    show G T15 (mkF m 175 #[.val (.int p0), .val (.int p1), .val (.int p2), .val (.int p3), .val (.int p4), .val (.long p5), .second, .val (.ref b1), .val (.int (0 : Int32)), .val (.int z14)] [(.int (own_rd (own_up (own_up (own_up (own_up f0 0 p0.toInt8.toInt32.toInt8.toInt32) 1 p1.toInt8.toInt32.toInt8.toInt32) 2 p2.toInt8.toInt32.toInt8.toInt32) 3 p3.toInt8.toInt32.toInt8.toInt32) 0 1 2 3))])
    refine hp (fun tq kq => XS.iload X15.here hx rfl (hb hby at_175) rfl kq) ?_
    show G T15 (mkF m 177 #[.val (.int p0), .val (.int p1), .val (.int p2), .val (.int p3), .val (.int p4), .val (.long p5), .second, .val (.ref b1), .val (.int (0 : Int32)), .val (.int z14)] [(.int z14), (.int (own_rd (own_up (own_up (own_up (own_up f0 0 p0.toInt8.toInt32.toInt8.toInt32) 1 p1.toInt8.toInt32.toInt8.toInt32) 2 p2.toInt8.toInt32.toInt8.toInt32) 3 p3.toInt8.toInt32.toInt8.toInt32) 0 1 2 3))])
    refine hp (fun tq kq => XS.icmpNo X15.here hx rfl (hb hby at_177) rfl (teq (by rw [hz14]; exact own_law _ _ _ _ _ _ _ _ _ (by decide) (by decide) (by decide) (by decide) (by decide) (by decide))).2 kq) ?_
    show G T15 (mkF m 180 #[.val (.int p0), .val (.int p1), .val (.int p2), .val (.int p3), .val (.int p4), .val (.long p5), .second, .val (.ref b1), .val (.int (0 : Int32)), .val (.int z14)] [])
    refine hp (fun tq kq => XS.iconst X15.here hx rfl (hb hby at_180) kq) ?_
    show G T15 (mkF m 181 #[.val (.int p0), .val (.int p1), .val (.int p2), .val (.int p3), .val (.int p4), .val (.long p5), .second, .val (.ref b1), .val (.int (0 : Int32)), .val (.int z14)] [(.int (1 : Int32))])
    refine hp (fun tq kq => XS.goto X15.here hx rfl (pc0 := 181) (pc' := 185) rfl (hb hby at_181) (by decide) (by decide) kq) ?_
    show G T15 (mkF m 185 #[.val (.int p0), .val (.int p1), .val (.int p2), .val (.int p3), .val (.int p4), .val (.long p5), .second, .val (.ref b1), .val (.int (0 : Int32)), .val (.int z14)] [(.int (1 : Int32))])
    exact hR X15 (fun fs hl => retN X15 hx (t := .boolean) hret (by simp) (hb hby at_185) hl) (fun q => by rw [hret] at q; cases q) ⟨rfl, F15⟩ (by decide) (by decide)
  · show G T9 (mkF m 99 #[.val (.int p0), .val (.int p1), .val (.int p2), .val (.int p3), .val (.int p4), .val (.long p5), .second, .val (.ref b1), .val (.int (1 : Int32)), .unset] [])
    refine hp (fun tq kq => XS.aload X9.here hx rfl (hb hby at_99) rfl rfl kq) ?_
    show G T9 (mkF m 101 #[.val (.int p0), .val (.int p1), .val (.int p2), .val (.int p3), .val (.int p4), .val (.long p5), .second, .val (.ref b1), .val (.int (1 : Int32)), .unset] [(.ref b1)])
    refine hp (fun tq kq => XS.iload X9.here hx rfl (hb hby at_101) rfl kq) ?_
    show G T9 (mkF m 103 #[.val (.int p0), .val (.int p1), .val (.int p2), .val (.int p3), .val (.int p4), .val (.long p5), .second, .val (.ref b1), .val (.int (1 : Int32)), .unset] [(.int (1 : Int32)), (.ref b1)])
    refine hp (fun tq kq => XS.iloadN X9.here hx rfl (hb hby at_103) rfl kq) ?_
    show G T9 (mkF m 104 #[.val (.int p0), .val (.int p1), .val (.int p2), .val (.int p3), .val (.int p4), .val (.long p5), .second, .val (.ref b1), .val (.int (1 : Int32)), .unset] [(.int p0), (.int (1 : Int32)), (.ref b1)])
    refine hp (fun tq kq => XS.i2b X9.here hx rfl (hb hby at_104) rfl kq) ?_
    show G T9 (mkF m 105 #[.val (.int p0), .val (.int p1), .val (.int p2), .val (.int p3), .val (.int p4), .val (.long p5), .second, .val (.ref b1), .val (.int (1 : Int32)), .unset] [(.int p0.toInt8.toInt32), (.int (1 : Int32)), (.ref b1)])
    obtain ⟨T16, h16, X16, e16, W16, V16_b1, st16⟩ := own_stB X9 hx hZ e9 Vf (j := (1 : Int32)) 1 (by decide) (by decide) (by decide) (g := (mkF m 105 #[.val (.int p0), .val (.int p1), .val (.int p2), .val (.int p3), .val (.int p4), .val (.long p5), .second, .val (.ref b1), .val (.int (1 : Int32)), .unset] [(.int p0.toInt8.toInt32), (.int (1 : Int32)), (.ref b1)])) rfl rfl (hb hby at_105)
    have K16 := K9.wr W16 (Or.inr sz_b1)
    have N16 := Fr.snoc X16 N9 g_b1
    refine hp st16 ?_
    show G T16 (mkF m 106 #[.val (.int p0), .val (.int p1), .val (.int p2), .val (.int p3), .val (.int p4), .val (.long p5), .second, .val (.ref b1), .val (.int (1 : Int32)), .unset] [])
    refine hp (fun tq kq => XS.aload X16.here hx rfl (hb hby at_106) rfl rfl kq) ?_
    show G T16 (mkF m 108 #[.val (.int p0), .val (.int p1), .val (.int p2), .val (.int p3), .val (.int p4), .val (.long p5), .second, .val (.ref b1), .val (.int (1 : Int32)), .unset] [(.ref b1)])
    refine hp (fun tq kq => XS.iload X16.here hx rfl (hb hby at_108) rfl kq) ?_
    show G T16 (mkF m 110 #[.val (.int p0), .val (.int p1), .val (.int p2), .val (.int p3), .val (.int p4), .val (.long p5), .second, .val (.ref b1), .val (.int (1 : Int32)), .unset] [(.int (1 : Int32)), (.ref b1)])
    refine hp (fun tq kq => XS.iconst X16.here hx rfl (hb hby at_110) kq) ?_
    show G T16 (mkF m 111 #[.val (.int p0), .val (.int p1), .val (.int p2), .val (.int p3), .val (.int p4), .val (.long p5), .second, .val (.ref b1), .val (.int (1 : Int32)), .unset] [(.int (1 : Int32)), (.int (1 : Int32)), (.ref b1)])
    refine hp (fun tq kq => XS.iadd X16.here hx rfl (hb hby at_111) rfl kq) ?_
    show G T16 (mkF m 112 #[.val (.int p0), .val (.int p1), .val (.int p2), .val (.int p3), .val (.int p4), .val (.long p5), .second, .val (.ref b1), .val (.int (1 : Int32)), .unset] [(.int (2 : Int32)), (.ref b1)])
    refine hp (fun tq kq => XS.iloadN X16.here hx rfl (hb hby at_112) rfl kq) ?_
    show G T16 (mkF m 113 #[.val (.int p0), .val (.int p1), .val (.int p2), .val (.int p3), .val (.int p4), .val (.long p5), .second, .val (.ref b1), .val (.int (1 : Int32)), .unset] [(.int p1), (.int (2 : Int32)), (.ref b1)])
    refine hp (fun tq kq => XS.i2b X16.here hx rfl (hb hby at_113) rfl kq) ?_
    show G T16 (mkF m 114 #[.val (.int p0), .val (.int p1), .val (.int p2), .val (.int p3), .val (.int p4), .val (.long p5), .second, .val (.ref b1), .val (.int (1 : Int32)), .unset] [(.int p1.toInt8.toInt32), (.int (2 : Int32)), (.ref b1)])
    obtain ⟨T17, h17, X17, e17, W17, V17_b1, st17⟩ := own_stB X16 hx hZ e16 V16_b1 (j := (2 : Int32)) 2 (by decide) (by decide) (by decide) (g := (mkF m 114 #[.val (.int p0), .val (.int p1), .val (.int p2), .val (.int p3), .val (.int p4), .val (.long p5), .second, .val (.ref b1), .val (.int (1 : Int32)), .unset] [(.int p1.toInt8.toInt32), (.int (2 : Int32)), (.ref b1)])) rfl rfl (hb hby at_114)
    have K17 := K16.wr W17 (Or.inr sz_b1)
    have N17 := Fr.snoc X17 N16 g_b1
    refine hp st17 ?_
    show G T17 (mkF m 115 #[.val (.int p0), .val (.int p1), .val (.int p2), .val (.int p3), .val (.int p4), .val (.long p5), .second, .val (.ref b1), .val (.int (1 : Int32)), .unset] [])
    refine hp (fun tq kq => XS.aload X17.here hx rfl (hb hby at_115) rfl rfl kq) ?_
    show G T17 (mkF m 117 #[.val (.int p0), .val (.int p1), .val (.int p2), .val (.int p3), .val (.int p4), .val (.long p5), .second, .val (.ref b1), .val (.int (1 : Int32)), .unset] [(.ref b1)])
    refine hp (fun tq kq => XS.iload X17.here hx rfl (hb hby at_117) rfl kq) ?_
    show G T17 (mkF m 119 #[.val (.int p0), .val (.int p1), .val (.int p2), .val (.int p3), .val (.int p4), .val (.long p5), .second, .val (.ref b1), .val (.int (1 : Int32)), .unset] [(.int (1 : Int32)), (.ref b1)])
    refine hp (fun tq kq => XS.iconst X17.here hx rfl (hb hby at_119) kq) ?_
    show G T17 (mkF m 120 #[.val (.int p0), .val (.int p1), .val (.int p2), .val (.int p3), .val (.int p4), .val (.long p5), .second, .val (.ref b1), .val (.int (1 : Int32)), .unset] [(.int (2 : Int32)), (.int (1 : Int32)), (.ref b1)])
    refine hp (fun tq kq => XS.iadd X17.here hx rfl (hb hby at_120) rfl kq) ?_
    show G T17 (mkF m 121 #[.val (.int p0), .val (.int p1), .val (.int p2), .val (.int p3), .val (.int p4), .val (.long p5), .second, .val (.ref b1), .val (.int (1 : Int32)), .unset] [(.int (3 : Int32)), (.ref b1)])
    refine hp (fun tq kq => XS.iloadN X17.here hx rfl (hb hby at_121) rfl kq) ?_
    show G T17 (mkF m 122 #[.val (.int p0), .val (.int p1), .val (.int p2), .val (.int p3), .val (.int p4), .val (.long p5), .second, .val (.ref b1), .val (.int (1 : Int32)), .unset] [(.int p2), (.int (3 : Int32)), (.ref b1)])
    refine hp (fun tq kq => XS.i2b X17.here hx rfl (hb hby at_122) rfl kq) ?_
    show G T17 (mkF m 123 #[.val (.int p0), .val (.int p1), .val (.int p2), .val (.int p3), .val (.int p4), .val (.long p5), .second, .val (.ref b1), .val (.int (1 : Int32)), .unset] [(.int p2.toInt8.toInt32), (.int (3 : Int32)), (.ref b1)])
    obtain ⟨T18, h18, X18, e18, W18, V18_b1, st18⟩ := own_stB X17 hx hZ e17 V17_b1 (j := (3 : Int32)) 3 (by decide) (by decide) (by decide) (g := (mkF m 123 #[.val (.int p0), .val (.int p1), .val (.int p2), .val (.int p3), .val (.int p4), .val (.long p5), .second, .val (.ref b1), .val (.int (1 : Int32)), .unset] [(.int p2.toInt8.toInt32), (.int (3 : Int32)), (.ref b1)])) rfl rfl (hb hby at_123)
    have K18 := K17.wr W18 (Or.inr sz_b1)
    have N18 := Fr.snoc X18 N17 g_b1
    refine hp st18 ?_
    show G T18 (mkF m 124 #[.val (.int p0), .val (.int p1), .val (.int p2), .val (.int p3), .val (.int p4), .val (.long p5), .second, .val (.ref b1), .val (.int (1 : Int32)), .unset] [])
    refine hp (fun tq kq => XS.aload X18.here hx rfl (hb hby at_124) rfl rfl kq) ?_
    show G T18 (mkF m 126 #[.val (.int p0), .val (.int p1), .val (.int p2), .val (.int p3), .val (.int p4), .val (.long p5), .second, .val (.ref b1), .val (.int (1 : Int32)), .unset] [(.ref b1)])
    refine hp (fun tq kq => XS.iload X18.here hx rfl (hb hby at_126) rfl kq) ?_
    show G T18 (mkF m 128 #[.val (.int p0), .val (.int p1), .val (.int p2), .val (.int p3), .val (.int p4), .val (.long p5), .second, .val (.ref b1), .val (.int (1 : Int32)), .unset] [(.int (1 : Int32)), (.ref b1)])
    refine hp (fun tq kq => XS.iconst X18.here hx rfl (hb hby at_128) kq) ?_
    show G T18 (mkF m 129 #[.val (.int p0), .val (.int p1), .val (.int p2), .val (.int p3), .val (.int p4), .val (.long p5), .second, .val (.ref b1), .val (.int (1 : Int32)), .unset] [(.int (3 : Int32)), (.int (1 : Int32)), (.ref b1)])
    refine hp (fun tq kq => XS.iadd X18.here hx rfl (hb hby at_129) rfl kq) ?_
    show G T18 (mkF m 130 #[.val (.int p0), .val (.int p1), .val (.int p2), .val (.int p3), .val (.int p4), .val (.long p5), .second, .val (.ref b1), .val (.int (1 : Int32)), .unset] [(.int (4 : Int32)), (.ref b1)])
    refine hp (fun tq kq => XS.iloadN X18.here hx rfl (hb hby at_130) rfl kq) ?_
    show G T18 (mkF m 131 #[.val (.int p0), .val (.int p1), .val (.int p2), .val (.int p3), .val (.int p4), .val (.long p5), .second, .val (.ref b1), .val (.int (1 : Int32)), .unset] [(.int p3), (.int (4 : Int32)), (.ref b1)])
    refine hp (fun tq kq => XS.i2b X18.here hx rfl (hb hby at_131) rfl kq) ?_
    show G T18 (mkF m 132 #[.val (.int p0), .val (.int p1), .val (.int p2), .val (.int p3), .val (.int p4), .val (.long p5), .second, .val (.ref b1), .val (.int (1 : Int32)), .unset] [(.int p3.toInt8.toInt32), (.int (4 : Int32)), (.ref b1)])
    obtain ⟨T19, h19, X19, e19, W19, V19_b1, st19⟩ := own_stB X18 hx hZ e18 V18_b1 (j := (4 : Int32)) 4 (by decide) (by decide) (by decide) (g := (mkF m 132 #[.val (.int p0), .val (.int p1), .val (.int p2), .val (.int p3), .val (.int p4), .val (.long p5), .second, .val (.ref b1), .val (.int (1 : Int32)), .unset] [(.int p3.toInt8.toInt32), (.int (4 : Int32)), (.ref b1)])) rfl rfl (hb hby at_132)
    have K19 := K18.wr W19 (Or.inr sz_b1)
    have N19 := Fr.snoc X19 N18 g_b1
    refine hp st19 ?_
    show G T19 (mkF m 133 #[.val (.int p0), .val (.int p1), .val (.int p2), .val (.int p3), .val (.int p4), .val (.long p5), .second, .val (.ref b1), .val (.int (1 : Int32)), .unset] [])
    refine hp (fun tq kq => XS.iloadN X19.here hx rfl (hb hby at_133) rfl kq) ?_
    show G T19 (mkF m 134 #[.val (.int p0), .val (.int p1), .val (.int p2), .val (.int p3), .val (.int p4), .val (.long p5), .second, .val (.ref b1), .val (.int (1 : Int32)), .unset] [(.int p0)])
    refine hp (fun tq kq => XS.sipush X19.here hx rfl (hb hby at_134) kq) ?_
    show G T19 (mkF m 137 #[.val (.int p0), .val (.int p1), .val (.int p2), .val (.int p3), .val (.int p4), .val (.long p5), .second, .val (.ref b1), .val (.int (1 : Int32)), .unset] [(.int (255 : Int32)), (.int p0)])
    refine hp (fun tq kq => XS.iand X19.here hx rfl (hb hby at_137) rfl kq) ?_
    show G T19 (mkF m 138 #[.val (.int p0), .val (.int p1), .val (.int p2), .val (.int p3), .val (.int p4), .val (.long p5), .second, .val (.ref b1), .val (.int (1 : Int32)), .unset] [(.int (p0 &&& (255 : Int32)))])
    refine hp (fun tq kq => XS.iloadN X19.here hx rfl (hb hby at_138) rfl kq) ?_
    show G T19 (mkF m 139 #[.val (.int p0), .val (.int p1), .val (.int p2), .val (.int p3), .val (.int p4), .val (.long p5), .second, .val (.ref b1), .val (.int (1 : Int32)), .unset] [(.int p1), (.int (p0 &&& (255 : Int32)))])
    refine hp (fun tq kq => XS.sipush X19.here hx rfl (hb hby at_139) kq) ?_
    show G T19 (mkF m 142 #[.val (.int p0), .val (.int p1), .val (.int p2), .val (.int p3), .val (.int p4), .val (.long p5), .second, .val (.ref b1), .val (.int (1 : Int32)), .unset] [(.int (255 : Int32)), (.int p1), (.int (p0 &&& (255 : Int32)))])
    refine hp (fun tq kq => XS.iand X19.here hx rfl (hb hby at_142) rfl kq) ?_
    show G T19 (mkF m 143 #[.val (.int p0), .val (.int p1), .val (.int p2), .val (.int p3), .val (.int p4), .val (.long p5), .second, .val (.ref b1), .val (.int (1 : Int32)), .unset] [(.int (p1 &&& (255 : Int32))), (.int (p0 &&& (255 : Int32)))])
    refine hp (fun tq kq => XS.sipush X19.here hx rfl (hb hby at_143) kq) ?_
    show G T19 (mkF m 146 #[.val (.int p0), .val (.int p1), .val (.int p2), .val (.int p3), .val (.int p4), .val (.long p5), .second, .val (.ref b1), .val (.int (1 : Int32)), .unset] [(.int (256 : Int32)), (.int (p1 &&& (255 : Int32))), (.int (p0 &&& (255 : Int32)))])
    refine hp (fun tq kq => XS.imul X19.here hx rfl (hb hby at_146) rfl kq) ?_
    show G T19 (mkF m 147 #[.val (.int p0), .val (.int p1), .val (.int p2), .val (.int p3), .val (.int p4), .val (.long p5), .second, .val (.ref b1), .val (.int (1 : Int32)), .unset] [(.int ((p1 &&& (255 : Int32)) * (256 : Int32))), (.int (p0 &&& (255 : Int32)))])
    refine hp (fun tq kq => XS.iadd X19.here hx rfl (hb hby at_147) rfl kq) ?_
    show G T19 (mkF m 148 #[.val (.int p0), .val (.int p1), .val (.int p2), .val (.int p3), .val (.int p4), .val (.long p5), .second, .val (.ref b1), .val (.int (1 : Int32)), .unset] [(.int ((p0 &&& (255 : Int32)) + ((p1 &&& (255 : Int32)) * (256 : Int32))))])
    refine hp (fun tq kq => XS.iloadN X19.here hx rfl (hb hby at_148) rfl kq) ?_
    show G T19 (mkF m 149 #[.val (.int p0), .val (.int p1), .val (.int p2), .val (.int p3), .val (.int p4), .val (.long p5), .second, .val (.ref b1), .val (.int (1 : Int32)), .unset] [(.int p2), (.int ((p0 &&& (255 : Int32)) + ((p1 &&& (255 : Int32)) * (256 : Int32))))])
    refine hp (fun tq kq => XS.sipush X19.here hx rfl (hb hby at_149) kq) ?_
    show G T19 (mkF m 152 #[.val (.int p0), .val (.int p1), .val (.int p2), .val (.int p3), .val (.int p4), .val (.long p5), .second, .val (.ref b1), .val (.int (1 : Int32)), .unset] [(.int (255 : Int32)), (.int p2), (.int ((p0 &&& (255 : Int32)) + ((p1 &&& (255 : Int32)) * (256 : Int32))))])
    refine hp (fun tq kq => XS.iand X19.here hx rfl (hb hby at_152) rfl kq) ?_
    show G T19 (mkF m 153 #[.val (.int p0), .val (.int p1), .val (.int p2), .val (.int p3), .val (.int p4), .val (.long p5), .second, .val (.ref b1), .val (.int (1 : Int32)), .unset] [(.int (p2 &&& (255 : Int32))), (.int ((p0 &&& (255 : Int32)) + ((p1 &&& (255 : Int32)) * (256 : Int32))))])
    refine hp (fun tq kq => X19.ldcInt hx hown (mvT hZ (hw _ (List.mem_of_getElem? (i := 1) rfl))) (g := (mkF m 153 #[.val (.int p0), .val (.int p1), .val (.int p2), .val (.int p3), .val (.int p4), .val (.long p5), .second, .val (.ref b1), .val (.int (1 : Int32)), .unset] [(.int (p2 &&& (255 : Int32))), (.int ((p0 &&& (255 : Int32)) + ((p1 &&& (255 : Int32)) * (256 : Int32))))])) rfl (hb hby at_153) _ kq) ?_
    show G T19 (mkF m 155 #[.val (.int p0), .val (.int p1), .val (.int p2), .val (.int p3), .val (.int p4), .val (.long p5), .second, .val (.ref b1), .val (.int (1 : Int32)), .unset] [(.int (65536 : Int32)), (.int (p2 &&& (255 : Int32))), (.int ((p0 &&& (255 : Int32)) + ((p1 &&& (255 : Int32)) * (256 : Int32))))])
    refine hp (fun tq kq => XS.imul X19.here hx rfl (hb hby at_155) rfl kq) ?_
    show G T19 (mkF m 156 #[.val (.int p0), .val (.int p1), .val (.int p2), .val (.int p3), .val (.int p4), .val (.long p5), .second, .val (.ref b1), .val (.int (1 : Int32)), .unset] [(.int ((p2 &&& (255 : Int32)) * (65536 : Int32))), (.int ((p0 &&& (255 : Int32)) + ((p1 &&& (255 : Int32)) * (256 : Int32))))])
    refine hp (fun tq kq => XS.iadd X19.here hx rfl (hb hby at_156) rfl kq) ?_
    show G T19 (mkF m 157 #[.val (.int p0), .val (.int p1), .val (.int p2), .val (.int p3), .val (.int p4), .val (.long p5), .second, .val (.ref b1), .val (.int (1 : Int32)), .unset] [(.int (((p0 &&& (255 : Int32)) + ((p1 &&& (255 : Int32)) * (256 : Int32))) + ((p2 &&& (255 : Int32)) * (65536 : Int32))))])
    refine hp (fun tq kq => XS.iloadN X19.here hx rfl (hb hby at_157) rfl kq) ?_
    show G T19 (mkF m 158 #[.val (.int p0), .val (.int p1), .val (.int p2), .val (.int p3), .val (.int p4), .val (.long p5), .second, .val (.ref b1), .val (.int (1 : Int32)), .unset] [(.int p3), (.int (((p0 &&& (255 : Int32)) + ((p1 &&& (255 : Int32)) * (256 : Int32))) + ((p2 &&& (255 : Int32)) * (65536 : Int32))))])
    refine hp (fun tq kq => XS.sipush X19.here hx rfl (hb hby at_158) kq) ?_
    show G T19 (mkF m 161 #[.val (.int p0), .val (.int p1), .val (.int p2), .val (.int p3), .val (.int p4), .val (.long p5), .second, .val (.ref b1), .val (.int (1 : Int32)), .unset] [(.int (255 : Int32)), (.int p3), (.int (((p0 &&& (255 : Int32)) + ((p1 &&& (255 : Int32)) * (256 : Int32))) + ((p2 &&& (255 : Int32)) * (65536 : Int32))))])
    refine hp (fun tq kq => XS.iand X19.here hx rfl (hb hby at_161) rfl kq) ?_
    show G T19 (mkF m 162 #[.val (.int p0), .val (.int p1), .val (.int p2), .val (.int p3), .val (.int p4), .val (.long p5), .second, .val (.ref b1), .val (.int (1 : Int32)), .unset] [(.int (p3 &&& (255 : Int32))), (.int (((p0 &&& (255 : Int32)) + ((p1 &&& (255 : Int32)) * (256 : Int32))) + ((p2 &&& (255 : Int32)) * (65536 : Int32))))])
    refine hp (fun tq kq => X19.ldcInt hx hown (mvT hZ (hw _ (List.mem_of_getElem? (i := 2) rfl))) (g := (mkF m 162 #[.val (.int p0), .val (.int p1), .val (.int p2), .val (.int p3), .val (.int p4), .val (.long p5), .second, .val (.ref b1), .val (.int (1 : Int32)), .unset] [(.int (p3 &&& (255 : Int32))), (.int (((p0 &&& (255 : Int32)) + ((p1 &&& (255 : Int32)) * (256 : Int32))) + ((p2 &&& (255 : Int32)) * (65536 : Int32))))])) rfl (hb hby at_162) _ kq) ?_
    show G T19 (mkF m 164 #[.val (.int p0), .val (.int p1), .val (.int p2), .val (.int p3), .val (.int p4), .val (.long p5), .second, .val (.ref b1), .val (.int (1 : Int32)), .unset] [(.int (16777216 : Int32)), (.int (p3 &&& (255 : Int32))), (.int (((p0 &&& (255 : Int32)) + ((p1 &&& (255 : Int32)) * (256 : Int32))) + ((p2 &&& (255 : Int32)) * (65536 : Int32))))])
    refine hp (fun tq kq => XS.imul X19.here hx rfl (hb hby at_164) rfl kq) ?_
    show G T19 (mkF m 165 #[.val (.int p0), .val (.int p1), .val (.int p2), .val (.int p3), .val (.int p4), .val (.long p5), .second, .val (.ref b1), .val (.int (1 : Int32)), .unset] [(.int ((p3 &&& (255 : Int32)) * (16777216 : Int32))), (.int (((p0 &&& (255 : Int32)) + ((p1 &&& (255 : Int32)) * (256 : Int32))) + ((p2 &&& (255 : Int32)) * (65536 : Int32))))])
    refine hp (fun tq kq => XS.iadd X19.here hx rfl (hb hby at_165) rfl kq) ?_
    show G T19 (mkF m 166 #[.val (.int p0), .val (.int p1), .val (.int p2), .val (.int p3), .val (.int p4), .val (.long p5), .second, .val (.ref b1), .val (.int (1 : Int32)), .unset] [(.int ((((p0 &&& (255 : Int32)) + ((p1 &&& (255 : Int32)) * (256 : Int32))) + ((p2 &&& (255 : Int32)) * (65536 : Int32))) + ((p3 &&& (255 : Int32)) * (16777216 : Int32))))])
    refine hp (fun tq kq => XS.istore X19.here hx rfl (hb hby at_166) rfl (l' := #[.val (.int p0), .val (.int p1), .val (.int p2), .val (.int p3), .val (.int p4), .val (.long p5), .second, .val (.ref b1), .val (.int (1 : Int32)), .val (.int ((((p0 &&& (255 : Int32)) + ((p1 &&& (255 : Int32)) * (256 : Int32))) + ((p2 &&& (255 : Int32)) * (65536 : Int32))) + ((p3 &&& (255 : Int32)) * (16777216 : Int32))))]) rfl kq) ?_
    show G T19 (mkF m 168 #[.val (.int p0), .val (.int p1), .val (.int p2), .val (.int p3), .val (.int p4), .val (.long p5), .second, .val (.ref b1), .val (.int (1 : Int32)), .val (.int ((((p0 &&& (255 : Int32)) + ((p1 &&& (255 : Int32)) * (256 : Int32))) + ((p2 &&& (255 : Int32)) * (65536 : Int32))) + ((p3 &&& (255 : Int32)) * (16777216 : Int32))))] [])
    refine (?_ : ∀ (z20 : Int32), z20 = ((((p0 &&& (255 : Int32)) + ((p1 &&& (255 : Int32)) * (256 : Int32))) + ((p2 &&& (255 : Int32)) * (65536 : Int32))) + ((p3 &&& (255 : Int32)) * (16777216 : Int32))) → G T19 (mkF m 168 #[.val (.int p0), .val (.int p1), .val (.int p2), .val (.int p3), .val (.int p4), .val (.long p5), .second, .val (.ref b1), .val (.int (1 : Int32)), .val (.int z20)] [])) _ rfl
    intro z20 hz20
    refine hp (fun tq kq => XS.aload X19.here hx rfl (hb hby at_168) rfl rfl kq) ?_
    show G T19 (mkF m 170 #[.val (.int p0), .val (.int p1), .val (.int p2), .val (.int p3), .val (.int p4), .val (.long p5), .second, .val (.ref b1), .val (.int (1 : Int32)), .val (.int z20)] [(.ref b1)])
    refine hp (fun tq kq => XS.iload X19.here hx rfl (hb hby at_170) rfl kq) ?_
    show G T19 (mkF m 172 #[.val (.int p0), .val (.int p1), .val (.int p2), .val (.int p3), .val (.int p4), .val (.long p5), .second, .val (.ref b1), .val (.int (1 : Int32)), .val (.int z20)] [(.int (1 : Int32)), (.ref b1)])
    obtain ⟨v21, T21, L21, X21, hQ21, st21⟩ := own_callS X19 hx hZ (y := (⟨"com/example/lakebed/lakebed/core/parquet/LittleEndian", "readInt", "([BI)I"⟩ : MethodName)) (rm := ({ frames := 0, cells := 0, slots := 0, locals := 0 } : Room)) 0 hown (hw _ (List.mem_of_getElem? (i := 3) rfl)) (hw _ (List.mem_of_getElem? (i := 4) rfl)) (hw _ (List.mem_of_getElem? (i := 5) rfl)) (hw _ (List.mem_of_getElem? (i := 6) rfl)) (by decide) (rm1 l Z a0 hw [] b1 (1 : Int32) 8 (own_up (own_up (own_up (own_up f0 1 p0.toInt8.toInt32.toInt8.toInt32) 2 p1.toInt8.toInt32.toInt8.toInt32) 3 p2.toInt8.toInt32.toInt8.toInt32) 4 p3.toInt8.toInt32.toInt8.toInt32) 1 2 3 4 h19 n0 V19_b1 (by decide) (by decide) (by decide) (by decide) (by decide) (by decide) (by decide) (by decide) (by decide) (by decide) (by decide) (by decide)) e19 (by decide) (by decide) (g := (mkF m 172 #[.val (.int p0), .val (.int p1), .val (.int p2), .val (.int p3), .val (.int p4), .val (.long p5), .second, .val (.ref b1), .val (.int (1 : Int32)), .val (.int z20)] [(.int (1 : Int32)), (.ref b1)])) rfl (by rw [hml]; rfl) [(.ref b1), (.int (1 : Int32))] [] own_pd0 rfl rfl (by show 2 * 0 + _ ≤ _; exact Nat.le_of_eq rfl) (hb hby at_172) rfl (by decide) (by decide)
    obtain ⟨rfl, N21, e21⟩ := hQ21
    have F21 := Fr.app N19 N21
    refine hp st21 ?_
    show G T21 (mkF m 175 #[.val (.int p0), .val (.int p1), .val (.int p2), .val (.int p3), .val (.int p4), .val (.long p5), .second, .val (.ref b1), .val (.int (1 : Int32)), .val (.int z20)] [(.int (own_rd (own_up (own_up (own_up (own_up f0 1 p0.toInt8.toInt32.toInt8.toInt32) 2 p1.toInt8.toInt32.toInt8.toInt32) 3 p2.toInt8.toInt32.toInt8.toInt32) 4 p3.toInt8.toInt32.toInt8.toInt32) 1 2 3 4))])
    refine hp (fun tq kq => XS.iload X21.here hx rfl (hb hby at_175) rfl kq) ?_
    show G T21 (mkF m 177 #[.val (.int p0), .val (.int p1), .val (.int p2), .val (.int p3), .val (.int p4), .val (.long p5), .second, .val (.ref b1), .val (.int (1 : Int32)), .val (.int z20)] [(.int z20), (.int (own_rd (own_up (own_up (own_up (own_up f0 1 p0.toInt8.toInt32.toInt8.toInt32) 2 p1.toInt8.toInt32.toInt8.toInt32) 3 p2.toInt8.toInt32.toInt8.toInt32) 4 p3.toInt8.toInt32.toInt8.toInt32) 1 2 3 4))])
    refine hp (fun tq kq => XS.icmpNo X21.here hx rfl (hb hby at_177) rfl (teq (by rw [hz20]; exact own_law _ _ _ _ _ _ _ _ _ (by decide) (by decide) (by decide) (by decide) (by decide) (by decide))).2 kq) ?_
    show G T21 (mkF m 180 #[.val (.int p0), .val (.int p1), .val (.int p2), .val (.int p3), .val (.int p4), .val (.long p5), .second, .val (.ref b1), .val (.int (1 : Int32)), .val (.int z20)] [])
    refine hp (fun tq kq => XS.iconst X21.here hx rfl (hb hby at_180) kq) ?_
    show G T21 (mkF m 181 #[.val (.int p0), .val (.int p1), .val (.int p2), .val (.int p3), .val (.int p4), .val (.long p5), .second, .val (.ref b1), .val (.int (1 : Int32)), .val (.int z20)] [(.int (1 : Int32))])
    refine hp (fun tq kq => XS.goto X21.here hx rfl (pc0 := 181) (pc' := 185) rfl (hb hby at_181) (by decide) (by decide) kq) ?_
    show G T21 (mkF m 185 #[.val (.int p0), .val (.int p1), .val (.int p2), .val (.int p3), .val (.int p4), .val (.long p5), .second, .val (.ref b1), .val (.int (1 : Int32)), .val (.int z20)] [(.int (1 : Int32))])
    exact hR X21 (fun fs hl => retN X21 hx (t := .boolean) hret (by simp) (hb hby at_185) hl) (fun q => by rw [hret] at q; cases q) ⟨rfl, F21⟩ (by decide) (by decide)
  · show G T9 (mkF m 99 #[.val (.int p0), .val (.int p1), .val (.int p2), .val (.int p3), .val (.int p4), .val (.long p5), .second, .val (.ref b1), .val (.int (2 : Int32)), .unset] [])
    refine hp (fun tq kq => XS.aload X9.here hx rfl (hb hby at_99) rfl rfl kq) ?_
    show G T9 (mkF m 101 #[.val (.int p0), .val (.int p1), .val (.int p2), .val (.int p3), .val (.int p4), .val (.long p5), .second, .val (.ref b1), .val (.int (2 : Int32)), .unset] [(.ref b1)])
    refine hp (fun tq kq => XS.iload X9.here hx rfl (hb hby at_101) rfl kq) ?_
    show G T9 (mkF m 103 #[.val (.int p0), .val (.int p1), .val (.int p2), .val (.int p3), .val (.int p4), .val (.long p5), .second, .val (.ref b1), .val (.int (2 : Int32)), .unset] [(.int (2 : Int32)), (.ref b1)])
    refine hp (fun tq kq => XS.iloadN X9.here hx rfl (hb hby at_103) rfl kq) ?_
    show G T9 (mkF m 104 #[.val (.int p0), .val (.int p1), .val (.int p2), .val (.int p3), .val (.int p4), .val (.long p5), .second, .val (.ref b1), .val (.int (2 : Int32)), .unset] [(.int p0), (.int (2 : Int32)), (.ref b1)])
    refine hp (fun tq kq => XS.i2b X9.here hx rfl (hb hby at_104) rfl kq) ?_
    show G T9 (mkF m 105 #[.val (.int p0), .val (.int p1), .val (.int p2), .val (.int p3), .val (.int p4), .val (.long p5), .second, .val (.ref b1), .val (.int (2 : Int32)), .unset] [(.int p0.toInt8.toInt32), (.int (2 : Int32)), (.ref b1)])
    obtain ⟨T22, h22, X22, e22, W22, V22_b1, st22⟩ := own_stB X9 hx hZ e9 Vf (j := (2 : Int32)) 2 (by decide) (by decide) (by decide) (g := (mkF m 105 #[.val (.int p0), .val (.int p1), .val (.int p2), .val (.int p3), .val (.int p4), .val (.long p5), .second, .val (.ref b1), .val (.int (2 : Int32)), .unset] [(.int p0.toInt8.toInt32), (.int (2 : Int32)), (.ref b1)])) rfl rfl (hb hby at_105)
    have K22 := K9.wr W22 (Or.inr sz_b1)
    have N22 := Fr.snoc X22 N9 g_b1
    refine hp st22 ?_
    show G T22 (mkF m 106 #[.val (.int p0), .val (.int p1), .val (.int p2), .val (.int p3), .val (.int p4), .val (.long p5), .second, .val (.ref b1), .val (.int (2 : Int32)), .unset] [])
    refine hp (fun tq kq => XS.aload X22.here hx rfl (hb hby at_106) rfl rfl kq) ?_
    show G T22 (mkF m 108 #[.val (.int p0), .val (.int p1), .val (.int p2), .val (.int p3), .val (.int p4), .val (.long p5), .second, .val (.ref b1), .val (.int (2 : Int32)), .unset] [(.ref b1)])
    refine hp (fun tq kq => XS.iload X22.here hx rfl (hb hby at_108) rfl kq) ?_
    show G T22 (mkF m 110 #[.val (.int p0), .val (.int p1), .val (.int p2), .val (.int p3), .val (.int p4), .val (.long p5), .second, .val (.ref b1), .val (.int (2 : Int32)), .unset] [(.int (2 : Int32)), (.ref b1)])
    refine hp (fun tq kq => XS.iconst X22.here hx rfl (hb hby at_110) kq) ?_
    show G T22 (mkF m 111 #[.val (.int p0), .val (.int p1), .val (.int p2), .val (.int p3), .val (.int p4), .val (.long p5), .second, .val (.ref b1), .val (.int (2 : Int32)), .unset] [(.int (1 : Int32)), (.int (2 : Int32)), (.ref b1)])
    refine hp (fun tq kq => XS.iadd X22.here hx rfl (hb hby at_111) rfl kq) ?_
    show G T22 (mkF m 112 #[.val (.int p0), .val (.int p1), .val (.int p2), .val (.int p3), .val (.int p4), .val (.long p5), .second, .val (.ref b1), .val (.int (2 : Int32)), .unset] [(.int (3 : Int32)), (.ref b1)])
    refine hp (fun tq kq => XS.iloadN X22.here hx rfl (hb hby at_112) rfl kq) ?_
    show G T22 (mkF m 113 #[.val (.int p0), .val (.int p1), .val (.int p2), .val (.int p3), .val (.int p4), .val (.long p5), .second, .val (.ref b1), .val (.int (2 : Int32)), .unset] [(.int p1), (.int (3 : Int32)), (.ref b1)])
    refine hp (fun tq kq => XS.i2b X22.here hx rfl (hb hby at_113) rfl kq) ?_
    show G T22 (mkF m 114 #[.val (.int p0), .val (.int p1), .val (.int p2), .val (.int p3), .val (.int p4), .val (.long p5), .second, .val (.ref b1), .val (.int (2 : Int32)), .unset] [(.int p1.toInt8.toInt32), (.int (3 : Int32)), (.ref b1)])
    obtain ⟨T23, h23, X23, e23, W23, V23_b1, st23⟩ := own_stB X22 hx hZ e22 V22_b1 (j := (3 : Int32)) 3 (by decide) (by decide) (by decide) (g := (mkF m 114 #[.val (.int p0), .val (.int p1), .val (.int p2), .val (.int p3), .val (.int p4), .val (.long p5), .second, .val (.ref b1), .val (.int (2 : Int32)), .unset] [(.int p1.toInt8.toInt32), (.int (3 : Int32)), (.ref b1)])) rfl rfl (hb hby at_114)
    have K23 := K22.wr W23 (Or.inr sz_b1)
    have N23 := Fr.snoc X23 N22 g_b1
    refine hp st23 ?_
    show G T23 (mkF m 115 #[.val (.int p0), .val (.int p1), .val (.int p2), .val (.int p3), .val (.int p4), .val (.long p5), .second, .val (.ref b1), .val (.int (2 : Int32)), .unset] [])
    refine hp (fun tq kq => XS.aload X23.here hx rfl (hb hby at_115) rfl rfl kq) ?_
    show G T23 (mkF m 117 #[.val (.int p0), .val (.int p1), .val (.int p2), .val (.int p3), .val (.int p4), .val (.long p5), .second, .val (.ref b1), .val (.int (2 : Int32)), .unset] [(.ref b1)])
    refine hp (fun tq kq => XS.iload X23.here hx rfl (hb hby at_117) rfl kq) ?_
    show G T23 (mkF m 119 #[.val (.int p0), .val (.int p1), .val (.int p2), .val (.int p3), .val (.int p4), .val (.long p5), .second, .val (.ref b1), .val (.int (2 : Int32)), .unset] [(.int (2 : Int32)), (.ref b1)])
    refine hp (fun tq kq => XS.iconst X23.here hx rfl (hb hby at_119) kq) ?_
    show G T23 (mkF m 120 #[.val (.int p0), .val (.int p1), .val (.int p2), .val (.int p3), .val (.int p4), .val (.long p5), .second, .val (.ref b1), .val (.int (2 : Int32)), .unset] [(.int (2 : Int32)), (.int (2 : Int32)), (.ref b1)])
    refine hp (fun tq kq => XS.iadd X23.here hx rfl (hb hby at_120) rfl kq) ?_
    show G T23 (mkF m 121 #[.val (.int p0), .val (.int p1), .val (.int p2), .val (.int p3), .val (.int p4), .val (.long p5), .second, .val (.ref b1), .val (.int (2 : Int32)), .unset] [(.int (4 : Int32)), (.ref b1)])
    refine hp (fun tq kq => XS.iloadN X23.here hx rfl (hb hby at_121) rfl kq) ?_
    show G T23 (mkF m 122 #[.val (.int p0), .val (.int p1), .val (.int p2), .val (.int p3), .val (.int p4), .val (.long p5), .second, .val (.ref b1), .val (.int (2 : Int32)), .unset] [(.int p2), (.int (4 : Int32)), (.ref b1)])
    refine hp (fun tq kq => XS.i2b X23.here hx rfl (hb hby at_122) rfl kq) ?_
    show G T23 (mkF m 123 #[.val (.int p0), .val (.int p1), .val (.int p2), .val (.int p3), .val (.int p4), .val (.long p5), .second, .val (.ref b1), .val (.int (2 : Int32)), .unset] [(.int p2.toInt8.toInt32), (.int (4 : Int32)), (.ref b1)])
    obtain ⟨T24, h24, X24, e24, W24, V24_b1, st24⟩ := own_stB X23 hx hZ e23 V23_b1 (j := (4 : Int32)) 4 (by decide) (by decide) (by decide) (g := (mkF m 123 #[.val (.int p0), .val (.int p1), .val (.int p2), .val (.int p3), .val (.int p4), .val (.long p5), .second, .val (.ref b1), .val (.int (2 : Int32)), .unset] [(.int p2.toInt8.toInt32), (.int (4 : Int32)), (.ref b1)])) rfl rfl (hb hby at_123)
    have K24 := K23.wr W24 (Or.inr sz_b1)
    have N24 := Fr.snoc X24 N23 g_b1
    refine hp st24 ?_
    show G T24 (mkF m 124 #[.val (.int p0), .val (.int p1), .val (.int p2), .val (.int p3), .val (.int p4), .val (.long p5), .second, .val (.ref b1), .val (.int (2 : Int32)), .unset] [])
    refine hp (fun tq kq => XS.aload X24.here hx rfl (hb hby at_124) rfl rfl kq) ?_
    show G T24 (mkF m 126 #[.val (.int p0), .val (.int p1), .val (.int p2), .val (.int p3), .val (.int p4), .val (.long p5), .second, .val (.ref b1), .val (.int (2 : Int32)), .unset] [(.ref b1)])
    refine hp (fun tq kq => XS.iload X24.here hx rfl (hb hby at_126) rfl kq) ?_
    show G T24 (mkF m 128 #[.val (.int p0), .val (.int p1), .val (.int p2), .val (.int p3), .val (.int p4), .val (.long p5), .second, .val (.ref b1), .val (.int (2 : Int32)), .unset] [(.int (2 : Int32)), (.ref b1)])
    refine hp (fun tq kq => XS.iconst X24.here hx rfl (hb hby at_128) kq) ?_
    show G T24 (mkF m 129 #[.val (.int p0), .val (.int p1), .val (.int p2), .val (.int p3), .val (.int p4), .val (.long p5), .second, .val (.ref b1), .val (.int (2 : Int32)), .unset] [(.int (3 : Int32)), (.int (2 : Int32)), (.ref b1)])
    refine hp (fun tq kq => XS.iadd X24.here hx rfl (hb hby at_129) rfl kq) ?_
    show G T24 (mkF m 130 #[.val (.int p0), .val (.int p1), .val (.int p2), .val (.int p3), .val (.int p4), .val (.long p5), .second, .val (.ref b1), .val (.int (2 : Int32)), .unset] [(.int (5 : Int32)), (.ref b1)])
    refine hp (fun tq kq => XS.iloadN X24.here hx rfl (hb hby at_130) rfl kq) ?_
    show G T24 (mkF m 131 #[.val (.int p0), .val (.int p1), .val (.int p2), .val (.int p3), .val (.int p4), .val (.long p5), .second, .val (.ref b1), .val (.int (2 : Int32)), .unset] [(.int p3), (.int (5 : Int32)), (.ref b1)])
    refine hp (fun tq kq => XS.i2b X24.here hx rfl (hb hby at_131) rfl kq) ?_
    show G T24 (mkF m 132 #[.val (.int p0), .val (.int p1), .val (.int p2), .val (.int p3), .val (.int p4), .val (.long p5), .second, .val (.ref b1), .val (.int (2 : Int32)), .unset] [(.int p3.toInt8.toInt32), (.int (5 : Int32)), (.ref b1)])
    obtain ⟨T25, h25, X25, e25, W25, V25_b1, st25⟩ := own_stB X24 hx hZ e24 V24_b1 (j := (5 : Int32)) 5 (by decide) (by decide) (by decide) (g := (mkF m 132 #[.val (.int p0), .val (.int p1), .val (.int p2), .val (.int p3), .val (.int p4), .val (.long p5), .second, .val (.ref b1), .val (.int (2 : Int32)), .unset] [(.int p3.toInt8.toInt32), (.int (5 : Int32)), (.ref b1)])) rfl rfl (hb hby at_132)
    have K25 := K24.wr W25 (Or.inr sz_b1)
    have N25 := Fr.snoc X25 N24 g_b1
    refine hp st25 ?_
    show G T25 (mkF m 133 #[.val (.int p0), .val (.int p1), .val (.int p2), .val (.int p3), .val (.int p4), .val (.long p5), .second, .val (.ref b1), .val (.int (2 : Int32)), .unset] [])
    refine hp (fun tq kq => XS.iloadN X25.here hx rfl (hb hby at_133) rfl kq) ?_
    show G T25 (mkF m 134 #[.val (.int p0), .val (.int p1), .val (.int p2), .val (.int p3), .val (.int p4), .val (.long p5), .second, .val (.ref b1), .val (.int (2 : Int32)), .unset] [(.int p0)])
    refine hp (fun tq kq => XS.sipush X25.here hx rfl (hb hby at_134) kq) ?_
    show G T25 (mkF m 137 #[.val (.int p0), .val (.int p1), .val (.int p2), .val (.int p3), .val (.int p4), .val (.long p5), .second, .val (.ref b1), .val (.int (2 : Int32)), .unset] [(.int (255 : Int32)), (.int p0)])
    refine hp (fun tq kq => XS.iand X25.here hx rfl (hb hby at_137) rfl kq) ?_
    show G T25 (mkF m 138 #[.val (.int p0), .val (.int p1), .val (.int p2), .val (.int p3), .val (.int p4), .val (.long p5), .second, .val (.ref b1), .val (.int (2 : Int32)), .unset] [(.int (p0 &&& (255 : Int32)))])
    refine hp (fun tq kq => XS.iloadN X25.here hx rfl (hb hby at_138) rfl kq) ?_
    show G T25 (mkF m 139 #[.val (.int p0), .val (.int p1), .val (.int p2), .val (.int p3), .val (.int p4), .val (.long p5), .second, .val (.ref b1), .val (.int (2 : Int32)), .unset] [(.int p1), (.int (p0 &&& (255 : Int32)))])
    refine hp (fun tq kq => XS.sipush X25.here hx rfl (hb hby at_139) kq) ?_
    show G T25 (mkF m 142 #[.val (.int p0), .val (.int p1), .val (.int p2), .val (.int p3), .val (.int p4), .val (.long p5), .second, .val (.ref b1), .val (.int (2 : Int32)), .unset] [(.int (255 : Int32)), (.int p1), (.int (p0 &&& (255 : Int32)))])
    refine hp (fun tq kq => XS.iand X25.here hx rfl (hb hby at_142) rfl kq) ?_
    show G T25 (mkF m 143 #[.val (.int p0), .val (.int p1), .val (.int p2), .val (.int p3), .val (.int p4), .val (.long p5), .second, .val (.ref b1), .val (.int (2 : Int32)), .unset] [(.int (p1 &&& (255 : Int32))), (.int (p0 &&& (255 : Int32)))])
    refine hp (fun tq kq => XS.sipush X25.here hx rfl (hb hby at_143) kq) ?_
    show G T25 (mkF m 146 #[.val (.int p0), .val (.int p1), .val (.int p2), .val (.int p3), .val (.int p4), .val (.long p5), .second, .val (.ref b1), .val (.int (2 : Int32)), .unset] [(.int (256 : Int32)), (.int (p1 &&& (255 : Int32))), (.int (p0 &&& (255 : Int32)))])
    refine hp (fun tq kq => XS.imul X25.here hx rfl (hb hby at_146) rfl kq) ?_
    show G T25 (mkF m 147 #[.val (.int p0), .val (.int p1), .val (.int p2), .val (.int p3), .val (.int p4), .val (.long p5), .second, .val (.ref b1), .val (.int (2 : Int32)), .unset] [(.int ((p1 &&& (255 : Int32)) * (256 : Int32))), (.int (p0 &&& (255 : Int32)))])
    refine hp (fun tq kq => XS.iadd X25.here hx rfl (hb hby at_147) rfl kq) ?_
    show G T25 (mkF m 148 #[.val (.int p0), .val (.int p1), .val (.int p2), .val (.int p3), .val (.int p4), .val (.long p5), .second, .val (.ref b1), .val (.int (2 : Int32)), .unset] [(.int ((p0 &&& (255 : Int32)) + ((p1 &&& (255 : Int32)) * (256 : Int32))))])
    refine hp (fun tq kq => XS.iloadN X25.here hx rfl (hb hby at_148) rfl kq) ?_
    show G T25 (mkF m 149 #[.val (.int p0), .val (.int p1), .val (.int p2), .val (.int p3), .val (.int p4), .val (.long p5), .second, .val (.ref b1), .val (.int (2 : Int32)), .unset] [(.int p2), (.int ((p0 &&& (255 : Int32)) + ((p1 &&& (255 : Int32)) * (256 : Int32))))])
    refine hp (fun tq kq => XS.sipush X25.here hx rfl (hb hby at_149) kq) ?_
    show G T25 (mkF m 152 #[.val (.int p0), .val (.int p1), .val (.int p2), .val (.int p3), .val (.int p4), .val (.long p5), .second, .val (.ref b1), .val (.int (2 : Int32)), .unset] [(.int (255 : Int32)), (.int p2), (.int ((p0 &&& (255 : Int32)) + ((p1 &&& (255 : Int32)) * (256 : Int32))))])
    refine hp (fun tq kq => XS.iand X25.here hx rfl (hb hby at_152) rfl kq) ?_
    show G T25 (mkF m 153 #[.val (.int p0), .val (.int p1), .val (.int p2), .val (.int p3), .val (.int p4), .val (.long p5), .second, .val (.ref b1), .val (.int (2 : Int32)), .unset] [(.int (p2 &&& (255 : Int32))), (.int ((p0 &&& (255 : Int32)) + ((p1 &&& (255 : Int32)) * (256 : Int32))))])
    refine hp (fun tq kq => X25.ldcInt hx hown (mvT hZ (hw _ (List.mem_of_getElem? (i := 1) rfl))) (g := (mkF m 153 #[.val (.int p0), .val (.int p1), .val (.int p2), .val (.int p3), .val (.int p4), .val (.long p5), .second, .val (.ref b1), .val (.int (2 : Int32)), .unset] [(.int (p2 &&& (255 : Int32))), (.int ((p0 &&& (255 : Int32)) + ((p1 &&& (255 : Int32)) * (256 : Int32))))])) rfl (hb hby at_153) _ kq) ?_
    show G T25 (mkF m 155 #[.val (.int p0), .val (.int p1), .val (.int p2), .val (.int p3), .val (.int p4), .val (.long p5), .second, .val (.ref b1), .val (.int (2 : Int32)), .unset] [(.int (65536 : Int32)), (.int (p2 &&& (255 : Int32))), (.int ((p0 &&& (255 : Int32)) + ((p1 &&& (255 : Int32)) * (256 : Int32))))])
    refine hp (fun tq kq => XS.imul X25.here hx rfl (hb hby at_155) rfl kq) ?_
    show G T25 (mkF m 156 #[.val (.int p0), .val (.int p1), .val (.int p2), .val (.int p3), .val (.int p4), .val (.long p5), .second, .val (.ref b1), .val (.int (2 : Int32)), .unset] [(.int ((p2 &&& (255 : Int32)) * (65536 : Int32))), (.int ((p0 &&& (255 : Int32)) + ((p1 &&& (255 : Int32)) * (256 : Int32))))])
    refine hp (fun tq kq => XS.iadd X25.here hx rfl (hb hby at_156) rfl kq) ?_
    show G T25 (mkF m 157 #[.val (.int p0), .val (.int p1), .val (.int p2), .val (.int p3), .val (.int p4), .val (.long p5), .second, .val (.ref b1), .val (.int (2 : Int32)), .unset] [(.int (((p0 &&& (255 : Int32)) + ((p1 &&& (255 : Int32)) * (256 : Int32))) + ((p2 &&& (255 : Int32)) * (65536 : Int32))))])
    refine hp (fun tq kq => XS.iloadN X25.here hx rfl (hb hby at_157) rfl kq) ?_
    show G T25 (mkF m 158 #[.val (.int p0), .val (.int p1), .val (.int p2), .val (.int p3), .val (.int p4), .val (.long p5), .second, .val (.ref b1), .val (.int (2 : Int32)), .unset] [(.int p3), (.int (((p0 &&& (255 : Int32)) + ((p1 &&& (255 : Int32)) * (256 : Int32))) + ((p2 &&& (255 : Int32)) * (65536 : Int32))))])
    refine hp (fun tq kq => XS.sipush X25.here hx rfl (hb hby at_158) kq) ?_
    show G T25 (mkF m 161 #[.val (.int p0), .val (.int p1), .val (.int p2), .val (.int p3), .val (.int p4), .val (.long p5), .second, .val (.ref b1), .val (.int (2 : Int32)), .unset] [(.int (255 : Int32)), (.int p3), (.int (((p0 &&& (255 : Int32)) + ((p1 &&& (255 : Int32)) * (256 : Int32))) + ((p2 &&& (255 : Int32)) * (65536 : Int32))))])
    refine hp (fun tq kq => XS.iand X25.here hx rfl (hb hby at_161) rfl kq) ?_
    show G T25 (mkF m 162 #[.val (.int p0), .val (.int p1), .val (.int p2), .val (.int p3), .val (.int p4), .val (.long p5), .second, .val (.ref b1), .val (.int (2 : Int32)), .unset] [(.int (p3 &&& (255 : Int32))), (.int (((p0 &&& (255 : Int32)) + ((p1 &&& (255 : Int32)) * (256 : Int32))) + ((p2 &&& (255 : Int32)) * (65536 : Int32))))])
    refine hp (fun tq kq => X25.ldcInt hx hown (mvT hZ (hw _ (List.mem_of_getElem? (i := 2) rfl))) (g := (mkF m 162 #[.val (.int p0), .val (.int p1), .val (.int p2), .val (.int p3), .val (.int p4), .val (.long p5), .second, .val (.ref b1), .val (.int (2 : Int32)), .unset] [(.int (p3 &&& (255 : Int32))), (.int (((p0 &&& (255 : Int32)) + ((p1 &&& (255 : Int32)) * (256 : Int32))) + ((p2 &&& (255 : Int32)) * (65536 : Int32))))])) rfl (hb hby at_162) _ kq) ?_
    show G T25 (mkF m 164 #[.val (.int p0), .val (.int p1), .val (.int p2), .val (.int p3), .val (.int p4), .val (.long p5), .second, .val (.ref b1), .val (.int (2 : Int32)), .unset] [(.int (16777216 : Int32)), (.int (p3 &&& (255 : Int32))), (.int (((p0 &&& (255 : Int32)) + ((p1 &&& (255 : Int32)) * (256 : Int32))) + ((p2 &&& (255 : Int32)) * (65536 : Int32))))])
    refine hp (fun tq kq => XS.imul X25.here hx rfl (hb hby at_164) rfl kq) ?_
    show G T25 (mkF m 165 #[.val (.int p0), .val (.int p1), .val (.int p2), .val (.int p3), .val (.int p4), .val (.long p5), .second, .val (.ref b1), .val (.int (2 : Int32)), .unset] [(.int ((p3 &&& (255 : Int32)) * (16777216 : Int32))), (.int (((p0 &&& (255 : Int32)) + ((p1 &&& (255 : Int32)) * (256 : Int32))) + ((p2 &&& (255 : Int32)) * (65536 : Int32))))])
    refine hp (fun tq kq => XS.iadd X25.here hx rfl (hb hby at_165) rfl kq) ?_
    show G T25 (mkF m 166 #[.val (.int p0), .val (.int p1), .val (.int p2), .val (.int p3), .val (.int p4), .val (.long p5), .second, .val (.ref b1), .val (.int (2 : Int32)), .unset] [(.int ((((p0 &&& (255 : Int32)) + ((p1 &&& (255 : Int32)) * (256 : Int32))) + ((p2 &&& (255 : Int32)) * (65536 : Int32))) + ((p3 &&& (255 : Int32)) * (16777216 : Int32))))])
    refine hp (fun tq kq => XS.istore X25.here hx rfl (hb hby at_166) rfl (l' := #[.val (.int p0), .val (.int p1), .val (.int p2), .val (.int p3), .val (.int p4), .val (.long p5), .second, .val (.ref b1), .val (.int (2 : Int32)), .val (.int ((((p0 &&& (255 : Int32)) + ((p1 &&& (255 : Int32)) * (256 : Int32))) + ((p2 &&& (255 : Int32)) * (65536 : Int32))) + ((p3 &&& (255 : Int32)) * (16777216 : Int32))))]) rfl kq) ?_
    show G T25 (mkF m 168 #[.val (.int p0), .val (.int p1), .val (.int p2), .val (.int p3), .val (.int p4), .val (.long p5), .second, .val (.ref b1), .val (.int (2 : Int32)), .val (.int ((((p0 &&& (255 : Int32)) + ((p1 &&& (255 : Int32)) * (256 : Int32))) + ((p2 &&& (255 : Int32)) * (65536 : Int32))) + ((p3 &&& (255 : Int32)) * (16777216 : Int32))))] [])
    refine (?_ : ∀ (z26 : Int32), z26 = ((((p0 &&& (255 : Int32)) + ((p1 &&& (255 : Int32)) * (256 : Int32))) + ((p2 &&& (255 : Int32)) * (65536 : Int32))) + ((p3 &&& (255 : Int32)) * (16777216 : Int32))) → G T25 (mkF m 168 #[.val (.int p0), .val (.int p1), .val (.int p2), .val (.int p3), .val (.int p4), .val (.long p5), .second, .val (.ref b1), .val (.int (2 : Int32)), .val (.int z26)] [])) _ rfl
    intro z26 hz26
    refine hp (fun tq kq => XS.aload X25.here hx rfl (hb hby at_168) rfl rfl kq) ?_
    show G T25 (mkF m 170 #[.val (.int p0), .val (.int p1), .val (.int p2), .val (.int p3), .val (.int p4), .val (.long p5), .second, .val (.ref b1), .val (.int (2 : Int32)), .val (.int z26)] [(.ref b1)])
    refine hp (fun tq kq => XS.iload X25.here hx rfl (hb hby at_170) rfl kq) ?_
    show G T25 (mkF m 172 #[.val (.int p0), .val (.int p1), .val (.int p2), .val (.int p3), .val (.int p4), .val (.long p5), .second, .val (.ref b1), .val (.int (2 : Int32)), .val (.int z26)] [(.int (2 : Int32)), (.ref b1)])
    obtain ⟨v27, T27, L27, X27, hQ27, st27⟩ := own_callS X25 hx hZ (y := (⟨"com/example/lakebed/lakebed/core/parquet/LittleEndian", "readInt", "([BI)I"⟩ : MethodName)) (rm := ({ frames := 0, cells := 0, slots := 0, locals := 0 } : Room)) 0 hown (hw _ (List.mem_of_getElem? (i := 3) rfl)) (hw _ (List.mem_of_getElem? (i := 4) rfl)) (hw _ (List.mem_of_getElem? (i := 5) rfl)) (hw _ (List.mem_of_getElem? (i := 6) rfl)) (by decide) (rm1 l Z a0 hw [] b1 (2 : Int32) 8 (own_up (own_up (own_up (own_up f0 2 p0.toInt8.toInt32.toInt8.toInt32) 3 p1.toInt8.toInt32.toInt8.toInt32) 4 p2.toInt8.toInt32.toInt8.toInt32) 5 p3.toInt8.toInt32.toInt8.toInt32) 2 3 4 5 h25 n0 V25_b1 (by decide) (by decide) (by decide) (by decide) (by decide) (by decide) (by decide) (by decide) (by decide) (by decide) (by decide) (by decide)) e25 (by decide) (by decide) (g := (mkF m 172 #[.val (.int p0), .val (.int p1), .val (.int p2), .val (.int p3), .val (.int p4), .val (.long p5), .second, .val (.ref b1), .val (.int (2 : Int32)), .val (.int z26)] [(.int (2 : Int32)), (.ref b1)])) rfl (by rw [hml]; rfl) [(.ref b1), (.int (2 : Int32))] [] own_pd0 rfl rfl (by show 2 * 0 + _ ≤ _; exact Nat.le_of_eq rfl) (hb hby at_172) rfl (by decide) (by decide)
    obtain ⟨rfl, N27, e27⟩ := hQ27
    have F27 := Fr.app N25 N27
    refine hp st27 ?_
    show G T27 (mkF m 175 #[.val (.int p0), .val (.int p1), .val (.int p2), .val (.int p3), .val (.int p4), .val (.long p5), .second, .val (.ref b1), .val (.int (2 : Int32)), .val (.int z26)] [(.int (own_rd (own_up (own_up (own_up (own_up f0 2 p0.toInt8.toInt32.toInt8.toInt32) 3 p1.toInt8.toInt32.toInt8.toInt32) 4 p2.toInt8.toInt32.toInt8.toInt32) 5 p3.toInt8.toInt32.toInt8.toInt32) 2 3 4 5))])
    refine hp (fun tq kq => XS.iload X27.here hx rfl (hb hby at_175) rfl kq) ?_
    show G T27 (mkF m 177 #[.val (.int p0), .val (.int p1), .val (.int p2), .val (.int p3), .val (.int p4), .val (.long p5), .second, .val (.ref b1), .val (.int (2 : Int32)), .val (.int z26)] [(.int z26), (.int (own_rd (own_up (own_up (own_up (own_up f0 2 p0.toInt8.toInt32.toInt8.toInt32) 3 p1.toInt8.toInt32.toInt8.toInt32) 4 p2.toInt8.toInt32.toInt8.toInt32) 5 p3.toInt8.toInt32.toInt8.toInt32) 2 3 4 5))])
    refine hp (fun tq kq => XS.icmpNo X27.here hx rfl (hb hby at_177) rfl (teq (by rw [hz26]; exact own_law _ _ _ _ _ _ _ _ _ (by decide) (by decide) (by decide) (by decide) (by decide) (by decide))).2 kq) ?_
    show G T27 (mkF m 180 #[.val (.int p0), .val (.int p1), .val (.int p2), .val (.int p3), .val (.int p4), .val (.long p5), .second, .val (.ref b1), .val (.int (2 : Int32)), .val (.int z26)] [])
    refine hp (fun tq kq => XS.iconst X27.here hx rfl (hb hby at_180) kq) ?_
    show G T27 (mkF m 181 #[.val (.int p0), .val (.int p1), .val (.int p2), .val (.int p3), .val (.int p4), .val (.long p5), .second, .val (.ref b1), .val (.int (2 : Int32)), .val (.int z26)] [(.int (1 : Int32))])
    refine hp (fun tq kq => XS.goto X27.here hx rfl (pc0 := 181) (pc' := 185) rfl (hb hby at_181) (by decide) (by decide) kq) ?_
    show G T27 (mkF m 185 #[.val (.int p0), .val (.int p1), .val (.int p2), .val (.int p3), .val (.int p4), .val (.long p5), .second, .val (.ref b1), .val (.int (2 : Int32)), .val (.int z26)] [(.int (1 : Int32))])
    exact hR X27 (fun fs hl => retN X27 hx (t := .boolean) hret (by simp) (hb hby at_185) hl) (fun q => by rw [hret] at q; cases q) ⟨rfl, F27⟩ (by decide) (by decide)
  · show G T9 (mkF m 99 #[.val (.int p0), .val (.int p1), .val (.int p2), .val (.int p3), .val (.int p4), .val (.long p5), .second, .val (.ref b1), .val (.int (3 : Int32)), .unset] [])
    refine hp (fun tq kq => XS.aload X9.here hx rfl (hb hby at_99) rfl rfl kq) ?_
    show G T9 (mkF m 101 #[.val (.int p0), .val (.int p1), .val (.int p2), .val (.int p3), .val (.int p4), .val (.long p5), .second, .val (.ref b1), .val (.int (3 : Int32)), .unset] [(.ref b1)])
    refine hp (fun tq kq => XS.iload X9.here hx rfl (hb hby at_101) rfl kq) ?_
    show G T9 (mkF m 103 #[.val (.int p0), .val (.int p1), .val (.int p2), .val (.int p3), .val (.int p4), .val (.long p5), .second, .val (.ref b1), .val (.int (3 : Int32)), .unset] [(.int (3 : Int32)), (.ref b1)])
    refine hp (fun tq kq => XS.iloadN X9.here hx rfl (hb hby at_103) rfl kq) ?_
    show G T9 (mkF m 104 #[.val (.int p0), .val (.int p1), .val (.int p2), .val (.int p3), .val (.int p4), .val (.long p5), .second, .val (.ref b1), .val (.int (3 : Int32)), .unset] [(.int p0), (.int (3 : Int32)), (.ref b1)])
    refine hp (fun tq kq => XS.i2b X9.here hx rfl (hb hby at_104) rfl kq) ?_
    show G T9 (mkF m 105 #[.val (.int p0), .val (.int p1), .val (.int p2), .val (.int p3), .val (.int p4), .val (.long p5), .second, .val (.ref b1), .val (.int (3 : Int32)), .unset] [(.int p0.toInt8.toInt32), (.int (3 : Int32)), (.ref b1)])
    obtain ⟨T28, h28, X28, e28, W28, V28_b1, st28⟩ := own_stB X9 hx hZ e9 Vf (j := (3 : Int32)) 3 (by decide) (by decide) (by decide) (g := (mkF m 105 #[.val (.int p0), .val (.int p1), .val (.int p2), .val (.int p3), .val (.int p4), .val (.long p5), .second, .val (.ref b1), .val (.int (3 : Int32)), .unset] [(.int p0.toInt8.toInt32), (.int (3 : Int32)), (.ref b1)])) rfl rfl (hb hby at_105)
    have K28 := K9.wr W28 (Or.inr sz_b1)
    have N28 := Fr.snoc X28 N9 g_b1
    refine hp st28 ?_
    show G T28 (mkF m 106 #[.val (.int p0), .val (.int p1), .val (.int p2), .val (.int p3), .val (.int p4), .val (.long p5), .second, .val (.ref b1), .val (.int (3 : Int32)), .unset] [])
    refine hp (fun tq kq => XS.aload X28.here hx rfl (hb hby at_106) rfl rfl kq) ?_
    show G T28 (mkF m 108 #[.val (.int p0), .val (.int p1), .val (.int p2), .val (.int p3), .val (.int p4), .val (.long p5), .second, .val (.ref b1), .val (.int (3 : Int32)), .unset] [(.ref b1)])
    refine hp (fun tq kq => XS.iload X28.here hx rfl (hb hby at_108) rfl kq) ?_
    show G T28 (mkF m 110 #[.val (.int p0), .val (.int p1), .val (.int p2), .val (.int p3), .val (.int p4), .val (.long p5), .second, .val (.ref b1), .val (.int (3 : Int32)), .unset] [(.int (3 : Int32)), (.ref b1)])
    refine hp (fun tq kq => XS.iconst X28.here hx rfl (hb hby at_110) kq) ?_
    show G T28 (mkF m 111 #[.val (.int p0), .val (.int p1), .val (.int p2), .val (.int p3), .val (.int p4), .val (.long p5), .second, .val (.ref b1), .val (.int (3 : Int32)), .unset] [(.int (1 : Int32)), (.int (3 : Int32)), (.ref b1)])
    refine hp (fun tq kq => XS.iadd X28.here hx rfl (hb hby at_111) rfl kq) ?_
    show G T28 (mkF m 112 #[.val (.int p0), .val (.int p1), .val (.int p2), .val (.int p3), .val (.int p4), .val (.long p5), .second, .val (.ref b1), .val (.int (3 : Int32)), .unset] [(.int (4 : Int32)), (.ref b1)])
    refine hp (fun tq kq => XS.iloadN X28.here hx rfl (hb hby at_112) rfl kq) ?_
    show G T28 (mkF m 113 #[.val (.int p0), .val (.int p1), .val (.int p2), .val (.int p3), .val (.int p4), .val (.long p5), .second, .val (.ref b1), .val (.int (3 : Int32)), .unset] [(.int p1), (.int (4 : Int32)), (.ref b1)])
    refine hp (fun tq kq => XS.i2b X28.here hx rfl (hb hby at_113) rfl kq) ?_
    show G T28 (mkF m 114 #[.val (.int p0), .val (.int p1), .val (.int p2), .val (.int p3), .val (.int p4), .val (.long p5), .second, .val (.ref b1), .val (.int (3 : Int32)), .unset] [(.int p1.toInt8.toInt32), (.int (4 : Int32)), (.ref b1)])
    obtain ⟨T29, h29, X29, e29, W29, V29_b1, st29⟩ := own_stB X28 hx hZ e28 V28_b1 (j := (4 : Int32)) 4 (by decide) (by decide) (by decide) (g := (mkF m 114 #[.val (.int p0), .val (.int p1), .val (.int p2), .val (.int p3), .val (.int p4), .val (.long p5), .second, .val (.ref b1), .val (.int (3 : Int32)), .unset] [(.int p1.toInt8.toInt32), (.int (4 : Int32)), (.ref b1)])) rfl rfl (hb hby at_114)
    have K29 := K28.wr W29 (Or.inr sz_b1)
    have N29 := Fr.snoc X29 N28 g_b1
    refine hp st29 ?_
    show G T29 (mkF m 115 #[.val (.int p0), .val (.int p1), .val (.int p2), .val (.int p3), .val (.int p4), .val (.long p5), .second, .val (.ref b1), .val (.int (3 : Int32)), .unset] [])
    refine hp (fun tq kq => XS.aload X29.here hx rfl (hb hby at_115) rfl rfl kq) ?_
    show G T29 (mkF m 117 #[.val (.int p0), .val (.int p1), .val (.int p2), .val (.int p3), .val (.int p4), .val (.long p5), .second, .val (.ref b1), .val (.int (3 : Int32)), .unset] [(.ref b1)])
    refine hp (fun tq kq => XS.iload X29.here hx rfl (hb hby at_117) rfl kq) ?_
    show G T29 (mkF m 119 #[.val (.int p0), .val (.int p1), .val (.int p2), .val (.int p3), .val (.int p4), .val (.long p5), .second, .val (.ref b1), .val (.int (3 : Int32)), .unset] [(.int (3 : Int32)), (.ref b1)])
    refine hp (fun tq kq => XS.iconst X29.here hx rfl (hb hby at_119) kq) ?_
    show G T29 (mkF m 120 #[.val (.int p0), .val (.int p1), .val (.int p2), .val (.int p3), .val (.int p4), .val (.long p5), .second, .val (.ref b1), .val (.int (3 : Int32)), .unset] [(.int (2 : Int32)), (.int (3 : Int32)), (.ref b1)])
    refine hp (fun tq kq => XS.iadd X29.here hx rfl (hb hby at_120) rfl kq) ?_
    show G T29 (mkF m 121 #[.val (.int p0), .val (.int p1), .val (.int p2), .val (.int p3), .val (.int p4), .val (.long p5), .second, .val (.ref b1), .val (.int (3 : Int32)), .unset] [(.int (5 : Int32)), (.ref b1)])
    refine hp (fun tq kq => XS.iloadN X29.here hx rfl (hb hby at_121) rfl kq) ?_
    show G T29 (mkF m 122 #[.val (.int p0), .val (.int p1), .val (.int p2), .val (.int p3), .val (.int p4), .val (.long p5), .second, .val (.ref b1), .val (.int (3 : Int32)), .unset] [(.int p2), (.int (5 : Int32)), (.ref b1)])
    refine hp (fun tq kq => XS.i2b X29.here hx rfl (hb hby at_122) rfl kq) ?_
    show G T29 (mkF m 123 #[.val (.int p0), .val (.int p1), .val (.int p2), .val (.int p3), .val (.int p4), .val (.long p5), .second, .val (.ref b1), .val (.int (3 : Int32)), .unset] [(.int p2.toInt8.toInt32), (.int (5 : Int32)), (.ref b1)])
    obtain ⟨T30, h30, X30, e30, W30, V30_b1, st30⟩ := own_stB X29 hx hZ e29 V29_b1 (j := (5 : Int32)) 5 (by decide) (by decide) (by decide) (g := (mkF m 123 #[.val (.int p0), .val (.int p1), .val (.int p2), .val (.int p3), .val (.int p4), .val (.long p5), .second, .val (.ref b1), .val (.int (3 : Int32)), .unset] [(.int p2.toInt8.toInt32), (.int (5 : Int32)), (.ref b1)])) rfl rfl (hb hby at_123)
    have K30 := K29.wr W30 (Or.inr sz_b1)
    have N30 := Fr.snoc X30 N29 g_b1
    refine hp st30 ?_
    show G T30 (mkF m 124 #[.val (.int p0), .val (.int p1), .val (.int p2), .val (.int p3), .val (.int p4), .val (.long p5), .second, .val (.ref b1), .val (.int (3 : Int32)), .unset] [])
    refine hp (fun tq kq => XS.aload X30.here hx rfl (hb hby at_124) rfl rfl kq) ?_
    show G T30 (mkF m 126 #[.val (.int p0), .val (.int p1), .val (.int p2), .val (.int p3), .val (.int p4), .val (.long p5), .second, .val (.ref b1), .val (.int (3 : Int32)), .unset] [(.ref b1)])
    refine hp (fun tq kq => XS.iload X30.here hx rfl (hb hby at_126) rfl kq) ?_
    show G T30 (mkF m 128 #[.val (.int p0), .val (.int p1), .val (.int p2), .val (.int p3), .val (.int p4), .val (.long p5), .second, .val (.ref b1), .val (.int (3 : Int32)), .unset] [(.int (3 : Int32)), (.ref b1)])
    refine hp (fun tq kq => XS.iconst X30.here hx rfl (hb hby at_128) kq) ?_
    show G T30 (mkF m 129 #[.val (.int p0), .val (.int p1), .val (.int p2), .val (.int p3), .val (.int p4), .val (.long p5), .second, .val (.ref b1), .val (.int (3 : Int32)), .unset] [(.int (3 : Int32)), (.int (3 : Int32)), (.ref b1)])
    refine hp (fun tq kq => XS.iadd X30.here hx rfl (hb hby at_129) rfl kq) ?_
    show G T30 (mkF m 130 #[.val (.int p0), .val (.int p1), .val (.int p2), .val (.int p3), .val (.int p4), .val (.long p5), .second, .val (.ref b1), .val (.int (3 : Int32)), .unset] [(.int (6 : Int32)), (.ref b1)])
    refine hp (fun tq kq => XS.iloadN X30.here hx rfl (hb hby at_130) rfl kq) ?_
    show G T30 (mkF m 131 #[.val (.int p0), .val (.int p1), .val (.int p2), .val (.int p3), .val (.int p4), .val (.long p5), .second, .val (.ref b1), .val (.int (3 : Int32)), .unset] [(.int p3), (.int (6 : Int32)), (.ref b1)])
    refine hp (fun tq kq => XS.i2b X30.here hx rfl (hb hby at_131) rfl kq) ?_
    show G T30 (mkF m 132 #[.val (.int p0), .val (.int p1), .val (.int p2), .val (.int p3), .val (.int p4), .val (.long p5), .second, .val (.ref b1), .val (.int (3 : Int32)), .unset] [(.int p3.toInt8.toInt32), (.int (6 : Int32)), (.ref b1)])
    obtain ⟨T31, h31, X31, e31, W31, V31_b1, st31⟩ := own_stB X30 hx hZ e30 V30_b1 (j := (6 : Int32)) 6 (by decide) (by decide) (by decide) (g := (mkF m 132 #[.val (.int p0), .val (.int p1), .val (.int p2), .val (.int p3), .val (.int p4), .val (.long p5), .second, .val (.ref b1), .val (.int (3 : Int32)), .unset] [(.int p3.toInt8.toInt32), (.int (6 : Int32)), (.ref b1)])) rfl rfl (hb hby at_132)
    have K31 := K30.wr W31 (Or.inr sz_b1)
    have N31 := Fr.snoc X31 N30 g_b1
    refine hp st31 ?_
    show G T31 (mkF m 133 #[.val (.int p0), .val (.int p1), .val (.int p2), .val (.int p3), .val (.int p4), .val (.long p5), .second, .val (.ref b1), .val (.int (3 : Int32)), .unset] [])
    refine hp (fun tq kq => XS.iloadN X31.here hx rfl (hb hby at_133) rfl kq) ?_
    show G T31 (mkF m 134 #[.val (.int p0), .val (.int p1), .val (.int p2), .val (.int p3), .val (.int p4), .val (.long p5), .second, .val (.ref b1), .val (.int (3 : Int32)), .unset] [(.int p0)])
    refine hp (fun tq kq => XS.sipush X31.here hx rfl (hb hby at_134) kq) ?_
    show G T31 (mkF m 137 #[.val (.int p0), .val (.int p1), .val (.int p2), .val (.int p3), .val (.int p4), .val (.long p5), .second, .val (.ref b1), .val (.int (3 : Int32)), .unset] [(.int (255 : Int32)), (.int p0)])
    refine hp (fun tq kq => XS.iand X31.here hx rfl (hb hby at_137) rfl kq) ?_
    show G T31 (mkF m 138 #[.val (.int p0), .val (.int p1), .val (.int p2), .val (.int p3), .val (.int p4), .val (.long p5), .second, .val (.ref b1), .val (.int (3 : Int32)), .unset] [(.int (p0 &&& (255 : Int32)))])
    refine hp (fun tq kq => XS.iloadN X31.here hx rfl (hb hby at_138) rfl kq) ?_
    show G T31 (mkF m 139 #[.val (.int p0), .val (.int p1), .val (.int p2), .val (.int p3), .val (.int p4), .val (.long p5), .second, .val (.ref b1), .val (.int (3 : Int32)), .unset] [(.int p1), (.int (p0 &&& (255 : Int32)))])
    refine hp (fun tq kq => XS.sipush X31.here hx rfl (hb hby at_139) kq) ?_
    show G T31 (mkF m 142 #[.val (.int p0), .val (.int p1), .val (.int p2), .val (.int p3), .val (.int p4), .val (.long p5), .second, .val (.ref b1), .val (.int (3 : Int32)), .unset] [(.int (255 : Int32)), (.int p1), (.int (p0 &&& (255 : Int32)))])
    refine hp (fun tq kq => XS.iand X31.here hx rfl (hb hby at_142) rfl kq) ?_
    show G T31 (mkF m 143 #[.val (.int p0), .val (.int p1), .val (.int p2), .val (.int p3), .val (.int p4), .val (.long p5), .second, .val (.ref b1), .val (.int (3 : Int32)), .unset] [(.int (p1 &&& (255 : Int32))), (.int (p0 &&& (255 : Int32)))])
    refine hp (fun tq kq => XS.sipush X31.here hx rfl (hb hby at_143) kq) ?_
    show G T31 (mkF m 146 #[.val (.int p0), .val (.int p1), .val (.int p2), .val (.int p3), .val (.int p4), .val (.long p5), .second, .val (.ref b1), .val (.int (3 : Int32)), .unset] [(.int (256 : Int32)), (.int (p1 &&& (255 : Int32))), (.int (p0 &&& (255 : Int32)))])
    refine hp (fun tq kq => XS.imul X31.here hx rfl (hb hby at_146) rfl kq) ?_
    show G T31 (mkF m 147 #[.val (.int p0), .val (.int p1), .val (.int p2), .val (.int p3), .val (.int p4), .val (.long p5), .second, .val (.ref b1), .val (.int (3 : Int32)), .unset] [(.int ((p1 &&& (255 : Int32)) * (256 : Int32))), (.int (p0 &&& (255 : Int32)))])
    refine hp (fun tq kq => XS.iadd X31.here hx rfl (hb hby at_147) rfl kq) ?_
    show G T31 (mkF m 148 #[.val (.int p0), .val (.int p1), .val (.int p2), .val (.int p3), .val (.int p4), .val (.long p5), .second, .val (.ref b1), .val (.int (3 : Int32)), .unset] [(.int ((p0 &&& (255 : Int32)) + ((p1 &&& (255 : Int32)) * (256 : Int32))))])
    refine hp (fun tq kq => XS.iloadN X31.here hx rfl (hb hby at_148) rfl kq) ?_
    show G T31 (mkF m 149 #[.val (.int p0), .val (.int p1), .val (.int p2), .val (.int p3), .val (.int p4), .val (.long p5), .second, .val (.ref b1), .val (.int (3 : Int32)), .unset] [(.int p2), (.int ((p0 &&& (255 : Int32)) + ((p1 &&& (255 : Int32)) * (256 : Int32))))])
    refine hp (fun tq kq => XS.sipush X31.here hx rfl (hb hby at_149) kq) ?_
    show G T31 (mkF m 152 #[.val (.int p0), .val (.int p1), .val (.int p2), .val (.int p3), .val (.int p4), .val (.long p5), .second, .val (.ref b1), .val (.int (3 : Int32)), .unset] [(.int (255 : Int32)), (.int p2), (.int ((p0 &&& (255 : Int32)) + ((p1 &&& (255 : Int32)) * (256 : Int32))))])
    refine hp (fun tq kq => XS.iand X31.here hx rfl (hb hby at_152) rfl kq) ?_
    show G T31 (mkF m 153 #[.val (.int p0), .val (.int p1), .val (.int p2), .val (.int p3), .val (.int p4), .val (.long p5), .second, .val (.ref b1), .val (.int (3 : Int32)), .unset] [(.int (p2 &&& (255 : Int32))), (.int ((p0 &&& (255 : Int32)) + ((p1 &&& (255 : Int32)) * (256 : Int32))))])
    refine hp (fun tq kq => X31.ldcInt hx hown (mvT hZ (hw _ (List.mem_of_getElem? (i := 1) rfl))) (g := (mkF m 153 #[.val (.int p0), .val (.int p1), .val (.int p2), .val (.int p3), .val (.int p4), .val (.long p5), .second, .val (.ref b1), .val (.int (3 : Int32)), .unset] [(.int (p2 &&& (255 : Int32))), (.int ((p0 &&& (255 : Int32)) + ((p1 &&& (255 : Int32)) * (256 : Int32))))])) rfl (hb hby at_153) _ kq) ?_
    show G T31 (mkF m 155 #[.val (.int p0), .val (.int p1), .val (.int p2), .val (.int p3), .val (.int p4), .val (.long p5), .second, .val (.ref b1), .val (.int (3 : Int32)), .unset] [(.int (65536 : Int32)), (.int (p2 &&& (255 : Int32))), (.int ((p0 &&& (255 : Int32)) + ((p1 &&& (255 : Int32)) * (256 : Int32))))])
    refine hp (fun tq kq => XS.imul X31.here hx rfl (hb hby at_155) rfl kq) ?_
    show G T31 (mkF m 156 #[.val (.int p0), .val (.int p1), .val (.int p2), .val (.int p3), .val (.int p4), .val (.long p5), .second, .val (.ref b1), .val (.int (3 : Int32)), .unset] [(.int ((p2 &&& (255 : Int32)) * (65536 : Int32))), (.int ((p0 &&& (255 : Int32)) + ((p1 &&& (255 : Int32)) * (256 : Int32))))])
    refine hp (fun tq kq => XS.iadd X31.here hx rfl (hb hby at_156) rfl kq) ?_
    show G T31 (mkF m 157 #[.val (.int p0), .val (.int p1), .val (.int p2), .val (.int p3), .val (.int p4), .val (.long p5), .second, .val (.ref b1), .val (.int (3 : Int32)), .unset] [(.int (((p0 &&& (255 : Int32)) + ((p1 &&& (255 : Int32)) * (256 : Int32))) + ((p2 &&& (255 : Int32)) * (65536 : Int32))))])
    refine hp (fun tq kq => XS.iloadN X31.here hx rfl (hb hby at_157) rfl kq) ?_
    show G T31 (mkF m 158 #[.val (.int p0), .val (.int p1), .val (.int p2), .val (.int p3), .val (.int p4), .val (.long p5), .second, .val (.ref b1), .val (.int (3 : Int32)), .unset] [(.int p3), (.int (((p0 &&& (255 : Int32)) + ((p1 &&& (255 : Int32)) * (256 : Int32))) + ((p2 &&& (255 : Int32)) * (65536 : Int32))))])
    refine hp (fun tq kq => XS.sipush X31.here hx rfl (hb hby at_158) kq) ?_
    show G T31 (mkF m 161 #[.val (.int p0), .val (.int p1), .val (.int p2), .val (.int p3), .val (.int p4), .val (.long p5), .second, .val (.ref b1), .val (.int (3 : Int32)), .unset] [(.int (255 : Int32)), (.int p3), (.int (((p0 &&& (255 : Int32)) + ((p1 &&& (255 : Int32)) * (256 : Int32))) + ((p2 &&& (255 : Int32)) * (65536 : Int32))))])
    refine hp (fun tq kq => XS.iand X31.here hx rfl (hb hby at_161) rfl kq) ?_
    show G T31 (mkF m 162 #[.val (.int p0), .val (.int p1), .val (.int p2), .val (.int p3), .val (.int p4), .val (.long p5), .second, .val (.ref b1), .val (.int (3 : Int32)), .unset] [(.int (p3 &&& (255 : Int32))), (.int (((p0 &&& (255 : Int32)) + ((p1 &&& (255 : Int32)) * (256 : Int32))) + ((p2 &&& (255 : Int32)) * (65536 : Int32))))])
    refine hp (fun tq kq => X31.ldcInt hx hown (mvT hZ (hw _ (List.mem_of_getElem? (i := 2) rfl))) (g := (mkF m 162 #[.val (.int p0), .val (.int p1), .val (.int p2), .val (.int p3), .val (.int p4), .val (.long p5), .second, .val (.ref b1), .val (.int (3 : Int32)), .unset] [(.int (p3 &&& (255 : Int32))), (.int (((p0 &&& (255 : Int32)) + ((p1 &&& (255 : Int32)) * (256 : Int32))) + ((p2 &&& (255 : Int32)) * (65536 : Int32))))])) rfl (hb hby at_162) _ kq) ?_
    show G T31 (mkF m 164 #[.val (.int p0), .val (.int p1), .val (.int p2), .val (.int p3), .val (.int p4), .val (.long p5), .second, .val (.ref b1), .val (.int (3 : Int32)), .unset] [(.int (16777216 : Int32)), (.int (p3 &&& (255 : Int32))), (.int (((p0 &&& (255 : Int32)) + ((p1 &&& (255 : Int32)) * (256 : Int32))) + ((p2 &&& (255 : Int32)) * (65536 : Int32))))])
    refine hp (fun tq kq => XS.imul X31.here hx rfl (hb hby at_164) rfl kq) ?_
    show G T31 (mkF m 165 #[.val (.int p0), .val (.int p1), .val (.int p2), .val (.int p3), .val (.int p4), .val (.long p5), .second, .val (.ref b1), .val (.int (3 : Int32)), .unset] [(.int ((p3 &&& (255 : Int32)) * (16777216 : Int32))), (.int (((p0 &&& (255 : Int32)) + ((p1 &&& (255 : Int32)) * (256 : Int32))) + ((p2 &&& (255 : Int32)) * (65536 : Int32))))])
    refine hp (fun tq kq => XS.iadd X31.here hx rfl (hb hby at_165) rfl kq) ?_
    show G T31 (mkF m 166 #[.val (.int p0), .val (.int p1), .val (.int p2), .val (.int p3), .val (.int p4), .val (.long p5), .second, .val (.ref b1), .val (.int (3 : Int32)), .unset] [(.int ((((p0 &&& (255 : Int32)) + ((p1 &&& (255 : Int32)) * (256 : Int32))) + ((p2 &&& (255 : Int32)) * (65536 : Int32))) + ((p3 &&& (255 : Int32)) * (16777216 : Int32))))])
    refine hp (fun tq kq => XS.istore X31.here hx rfl (hb hby at_166) rfl (l' := #[.val (.int p0), .val (.int p1), .val (.int p2), .val (.int p3), .val (.int p4), .val (.long p5), .second, .val (.ref b1), .val (.int (3 : Int32)), .val (.int ((((p0 &&& (255 : Int32)) + ((p1 &&& (255 : Int32)) * (256 : Int32))) + ((p2 &&& (255 : Int32)) * (65536 : Int32))) + ((p3 &&& (255 : Int32)) * (16777216 : Int32))))]) rfl kq) ?_
    show G T31 (mkF m 168 #[.val (.int p0), .val (.int p1), .val (.int p2), .val (.int p3), .val (.int p4), .val (.long p5), .second, .val (.ref b1), .val (.int (3 : Int32)), .val (.int ((((p0 &&& (255 : Int32)) + ((p1 &&& (255 : Int32)) * (256 : Int32))) + ((p2 &&& (255 : Int32)) * (65536 : Int32))) + ((p3 &&& (255 : Int32)) * (16777216 : Int32))))] [])
    refine (?_ : ∀ (z32 : Int32), z32 = ((((p0 &&& (255 : Int32)) + ((p1 &&& (255 : Int32)) * (256 : Int32))) + ((p2 &&& (255 : Int32)) * (65536 : Int32))) + ((p3 &&& (255 : Int32)) * (16777216 : Int32))) → G T31 (mkF m 168 #[.val (.int p0), .val (.int p1), .val (.int p2), .val (.int p3), .val (.int p4), .val (.long p5), .second, .val (.ref b1), .val (.int (3 : Int32)), .val (.int z32)] [])) _ rfl
    intro z32 hz32
    refine hp (fun tq kq => XS.aload X31.here hx rfl (hb hby at_168) rfl rfl kq) ?_
    show G T31 (mkF m 170 #[.val (.int p0), .val (.int p1), .val (.int p2), .val (.int p3), .val (.int p4), .val (.long p5), .second, .val (.ref b1), .val (.int (3 : Int32)), .val (.int z32)] [(.ref b1)])
    refine hp (fun tq kq => XS.iload X31.here hx rfl (hb hby at_170) rfl kq) ?_
    show G T31 (mkF m 172 #[.val (.int p0), .val (.int p1), .val (.int p2), .val (.int p3), .val (.int p4), .val (.long p5), .second, .val (.ref b1), .val (.int (3 : Int32)), .val (.int z32)] [(.int (3 : Int32)), (.ref b1)])
    obtain ⟨v33, T33, L33, X33, hQ33, st33⟩ := own_callS X31 hx hZ (y := (⟨"com/example/lakebed/lakebed/core/parquet/LittleEndian", "readInt", "([BI)I"⟩ : MethodName)) (rm := ({ frames := 0, cells := 0, slots := 0, locals := 0 } : Room)) 0 hown (hw _ (List.mem_of_getElem? (i := 3) rfl)) (hw _ (List.mem_of_getElem? (i := 4) rfl)) (hw _ (List.mem_of_getElem? (i := 5) rfl)) (hw _ (List.mem_of_getElem? (i := 6) rfl)) (by decide) (rm1 l Z a0 hw [] b1 (3 : Int32) 8 (own_up (own_up (own_up (own_up f0 3 p0.toInt8.toInt32.toInt8.toInt32) 4 p1.toInt8.toInt32.toInt8.toInt32) 5 p2.toInt8.toInt32.toInt8.toInt32) 6 p3.toInt8.toInt32.toInt8.toInt32) 3 4 5 6 h31 n0 V31_b1 (by decide) (by decide) (by decide) (by decide) (by decide) (by decide) (by decide) (by decide) (by decide) (by decide) (by decide) (by decide)) e31 (by decide) (by decide) (g := (mkF m 172 #[.val (.int p0), .val (.int p1), .val (.int p2), .val (.int p3), .val (.int p4), .val (.long p5), .second, .val (.ref b1), .val (.int (3 : Int32)), .val (.int z32)] [(.int (3 : Int32)), (.ref b1)])) rfl (by rw [hml]; rfl) [(.ref b1), (.int (3 : Int32))] [] own_pd0 rfl rfl (by show 2 * 0 + _ ≤ _; exact Nat.le_of_eq rfl) (hb hby at_172) rfl (by decide) (by decide)
    obtain ⟨rfl, N33, e33⟩ := hQ33
    have F33 := Fr.app N31 N33
    refine hp st33 ?_
    show G T33 (mkF m 175 #[.val (.int p0), .val (.int p1), .val (.int p2), .val (.int p3), .val (.int p4), .val (.long p5), .second, .val (.ref b1), .val (.int (3 : Int32)), .val (.int z32)] [(.int (own_rd (own_up (own_up (own_up (own_up f0 3 p0.toInt8.toInt32.toInt8.toInt32) 4 p1.toInt8.toInt32.toInt8.toInt32) 5 p2.toInt8.toInt32.toInt8.toInt32) 6 p3.toInt8.toInt32.toInt8.toInt32) 3 4 5 6))])
    refine hp (fun tq kq => XS.iload X33.here hx rfl (hb hby at_175) rfl kq) ?_
    show G T33 (mkF m 177 #[.val (.int p0), .val (.int p1), .val (.int p2), .val (.int p3), .val (.int p4), .val (.long p5), .second, .val (.ref b1), .val (.int (3 : Int32)), .val (.int z32)] [(.int z32), (.int (own_rd (own_up (own_up (own_up (own_up f0 3 p0.toInt8.toInt32.toInt8.toInt32) 4 p1.toInt8.toInt32.toInt8.toInt32) 5 p2.toInt8.toInt32.toInt8.toInt32) 6 p3.toInt8.toInt32.toInt8.toInt32) 3 4 5 6))])
    refine hp (fun tq kq => XS.icmpNo X33.here hx rfl (hb hby at_177) rfl (teq (by rw [hz32]; exact own_law _ _ _ _ _ _ _ _ _ (by decide) (by decide) (by decide) (by decide) (by decide) (by decide))).2 kq) ?_
    show G T33 (mkF m 180 #[.val (.int p0), .val (.int p1), .val (.int p2), .val (.int p3), .val (.int p4), .val (.long p5), .second, .val (.ref b1), .val (.int (3 : Int32)), .val (.int z32)] [])
    refine hp (fun tq kq => XS.iconst X33.here hx rfl (hb hby at_180) kq) ?_
    show G T33 (mkF m 181 #[.val (.int p0), .val (.int p1), .val (.int p2), .val (.int p3), .val (.int p4), .val (.long p5), .second, .val (.ref b1), .val (.int (3 : Int32)), .val (.int z32)] [(.int (1 : Int32))])
    refine hp (fun tq kq => XS.goto X33.here hx rfl (pc0 := 181) (pc' := 185) rfl (hb hby at_181) (by decide) (by decide) kq) ?_
    show G T33 (mkF m 185 #[.val (.int p0), .val (.int p1), .val (.int p2), .val (.int p3), .val (.int p4), .val (.long p5), .second, .val (.ref b1), .val (.int (3 : Int32)), .val (.int z32)] [(.int (1 : Int32))])
    exact hR X33 (fun fs hl => retN X33 hx (t := .boolean) hret (by simp) (hb hby at_185) hl) (fun q => by rw [hret] at q; cases q) ⟨rfl, F33⟩ (by decide) (by decide)
set_option maxRecDepth 65536 in
set_option maxHeartbeats 40000000 in
theorem comes_1 {Post : Tables → Env → Array Value → State → Outcome → State → Prop} (hpost : ∀ tb e args s v u, (limb_1_1.after args s (.returned v) u = true ∧ limb_1_2.after args s (.returned v) u = true ∧ True) → FrameEnd s (.returned v) u (Jvm.fieldLocs frame_1_writes args s ++ Jvm.arrayLocs frame_1_arrays args s ++ Jvm.staticLocs frame_1_statics s) 16 128 → Post tb e args s (.returned v) u) :
    ArmFor flags0 classFile x code maxLocals ret World_1 tables_1 room_1 Calls_1 rest_1 Pre_1 Post := by
  intro l hfl _ _ p e ha hc hk s m args below hf hA hF happ hP
  obtain ⟨hcalls, hrest, hpre⟩ := hP
  obtain ⟨-, -, -, hnamed, -, -, -, hat⟩ := (Spec.applies_iff hf).mp happ
  obtain ⟨hg, hn⟩ := and_e (Cond.before_iff.mp (show (Jvm.Cond.and given_1 narrow_1).before args s = true from hpre))
  obtain ⟨hcnt, hgs⟩ := and_e hg
  obtain ⟨ha0, hgs⟩ := and_e hgs
  obtain ⟨ha1, hgs⟩ := and_e hgs
  obtain ⟨ha2, hgs⟩ := and_e hgs
  obtain ⟨ha3, hgs⟩ := and_e hgs
  obtain ⟨ha4, hgs⟩ := and_e hgs
  have ha5 := hgs
  obtain ⟨w0, w1, w2, w3, w4, w5, rfl⟩ : ∃ w0 w1 w2 w3 w4 w5 : Value, args = #[w0, w1, w2, w3, w4, w5] := by
    have hs : args.size = 6 := by simpa [Cond.value, given_1] using hcnt
    obtain ⟨L⟩ := args
    match L, hs with
    | [w0, w1, w2, w3, w4, w5], _ => exact ⟨w0, w1, w2, w3, w4, w5, rfl⟩
  have hw := fun d (hd : d ∈ tables_1) => atoms_spec (ws := Jvm.Cond.code x code maxLocals ret :: tables_1) hat d (List.mem_cons_of_mem _ hd)
  obtain ⟨i0, ei0⟩ := is_v ha0
  obtain rfl : w0 = (.int i0) := Option.some.inj ei0
  obtain ⟨i1, ei1⟩ := is_v ha1
  obtain rfl : w1 = (.int i1) := Option.some.inj ei1
  obtain ⟨i2, ei2⟩ := is_v ha2
  obtain rfl : w2 = (.int i2) := Option.some.inj ei2
  obtain ⟨i3, ei3⟩ := is_v ha3
  obtain rfl : w3 = (.int i3) := Option.some.inj ei3
  obtain ⟨i4, ei4⟩ := is_v ha4
  obtain rfl : w4 = (.int i4) := Option.some.inj ei4
  obtain ⟨i5, ei5⟩ := isL_v ha5
  obtain rfl : w5 = (.long i5) := Option.some.inj ei5
  obtain ⟨n, o, h1, h2, h3, _, L, rfl, ⟨rfl, N⟩, hq⟩ := rm0 l s _ hw tables_1 i0 i1 i2 i3 i4 i5 s.heap s.heap.size (Nat.le_refl _) p e ha hc hk s m _ below hf ((Spec.applies_iff_loose hf).mp happ).1 ⟨rfl, State.Warmed39.refl s, rfl⟩ trivial
  exact ⟨n, _, h1, h2, h3, hpost _ _ _ _ _ _ ⟨Cond.after_iff.mpr rfl, Cond.after_iff.mpr (eq_i res_at (Term.int_eval (1)) rfl), trivial⟩ ⟨hq.1, hq.2.1, (hq.2.2.sift fun y hy => Or.inr (N y hy)).mono (by decide) (by decide)⟩⟩
theorem main_1_1 : Claimed_1_1 := comes_1 fun _ _ _ _ _ _ h hF => ⟨h.1, hF⟩
theorem main_1_2 : Claimed_1_2 := comes_1 fun _ _ _ _ _ _ h hF => ⟨h.2.1, hF⟩
end Jvm.Pilot.@@N@@
namespace Jvm.Pilot.@@N@@
open Jvm Jvm.ClassFile Sem Op Lib Jvm.Free Jvm.Stand Jvm.Pilot.@@N@@.Jvm.D
/-! MADE BY PROGRAM (witnessworld.py) out of the Statement's table words and the real class files: 9 classes; the members and pool entries that the words name. The judged class is class 1, her method 1. -/
namespace start1
open Jvm.ClassFile
def u (s : String) : CpInfo := .utf8 (stringToUtf16 s)
/-- a pool by its gaps: so many unusable entries, then the entry; so many at the end -/
def gap : Nat → List CpInfo → List CpInfo
  | 0, r => r
  | n + 1, r => .unusable :: gap n r
def poolList (es : List (Nat × CpInfo)) (last : Nat) : List CpInfo := es.foldr (fun e r => gap e.1 (e.2 :: r)) (gap last [])
def pool (es : List (Nat × CpInfo)) (last : Nat) : Array CpInfo := ⟨poolList es last⟩
def fileOf (pool : Array CpInfo) (this : Nat) (attrs : Array Attribute := #[]) (ms : Array MethodInfo := #[]) (fl : Nat := 33) (sup : Nat := 0) (ifs : Array Nat := #[]) (fds : Array FieldInfo := #[]) : ClassFile where
  minorVersion := 0
  majorVersion := 65
  constantPool := pool
  accessFlags := fl
  thisClass := this
  superClass := sup
  interfaces := ifs
  fields := fds
  methods := ms
  attributes := attrs
def plain (name : String) (sup : Option ClassId) : Class where
  name := name
  kind := .ordinary
  loader := none
  accessFlags := 33
  super := sup
  interfaces := #[]
  cf := none
  fields := #[]
  methods := #[]
  instanceTypes := #[]
  staticTypes := #[]
  resolved := #[]
  callSites := []
  init := .initialized
  statics := none
  mirror := none

def pool0 : Array CpInfo := pool [(5, u "<init>"), (0, u "()V"), (1, .class_ 10), (1, u "java/lang/Object")] 113

def k0m0 : Method := { name := "<init>", desc := "()V", sig := { parameters := [], returnType := none }, accessFlags := 1, code := none }
/-- java/lang/Object -/
def k0 : Class := { plain "java/lang/Object" none with
  accessFlags := 33
  interfaces := #[]
  cf := some (fileOf pool0 8 #[] #[{ accessFlags := 1, nameIndex := 5, descriptorIndex := 6, attributes := #[] }] 33 0 #[] #[])
  fields := #[]
  methods := #[k0m0]
  instanceTypes := #[]
  staticTypes := #[]
  resolved := Array.replicate 124 none
  statics := none }

def pool1 : Array CpInfo := pool [(2, .class_ 4), (1, u "java/lang/Object"), (0, u "<init>"), (0, u "()V"), (0, .integer 65536), (0, .integer 16777216), (0, .methodref 10 11), (0, .class_ 12), (0, .nameAndType 13 14), (0, u "com/example/lakebed/lakebed/core/parquet/LittleEndian"), (0, u "readInt"), (0, u "([BI)I"), (0, .class_ 16), (0, u "com/example/lakebed/lakebed/core/parquet/LittleEndianReadIntPinLaw"), (2, u "law"), (0, u "(IIIIIJ)Z")] 5

def k1m0 : Method := { name := "<init>", desc := "()V", sig := { parameters := [], returnType := none }, accessFlags := 2, code := none }
def k1c1 : Code := { maxStack := 5, maxLocals := 10, code := code, exceptionTable := #[], attributes := #[] }
def k1m1 : Method := { name := "law", desc := "(IIIIIJ)Z", sig := { parameters := [.int, .int, .int, .int, .int, .long], returnType := some .boolean }, accessFlags := 9, code := some k1c1 }
/-- com/example/lakebed/lakebed/core/parquet/LittleEndianReadIntPinLaw -/
def k1 : Class := { plain "com/example/lakebed/lakebed/core/parquet/LittleEndianReadIntPinLaw" (some 0) with
  accessFlags := 49
  interfaces := #[]
  cf := some (fileOf pool1 15 #[] #[{ accessFlags := 2, nameIndex := 5, descriptorIndex := 6, attributes := #[] }, { accessFlags := 9, nameIndex := 19, descriptorIndex := 20, attributes := #[] }] 49 2 #[] #[])
  fields := #[]
  methods := #[k1m0, k1m1]
  instanceTypes := #[]
  staticTypes := #[]
  resolved := Array.replicate 26 none
  statics := none }

def pool2 : Array CpInfo := pool [(2, .class_ 4), (1, u "java/lang/Object"), (0, u "<init>"), (0, u "()V"), (1, .class_ 10), (1, u "com/example/lakebed/lakebed/core/parquet/LittleEndian"), (0, u "readInt"), (0, u "([BI)I")] 37

def k2m0 : Method := { name := "<init>", desc := "()V", sig := { parameters := [], returnType := none }, accessFlags := 2, code := none }
def k2c1 : Code := { maxStack := 4, maxLocals := 2, code := prog_51_method_2_code, exceptionTable := #[], attributes := #[] }
def k2m1 : Method := { name := "readInt", desc := "([BI)I", sig := { parameters := [(.array .byte), .int], returnType := some .int }, accessFlags := 8, code := some k2c1 }
/-- com/example/lakebed/lakebed/core/parquet/LittleEndian -/
def k2 : Class := { plain "com/example/lakebed/lakebed/core/parquet/LittleEndian" (some 0) with
  accessFlags := 48
  interfaces := #[]
  cf := some (fileOf pool2 8 #[] #[{ accessFlags := 2, nameIndex := 5, descriptorIndex := 6, attributes := #[] }, { accessFlags := 8, nameIndex := 11, descriptorIndex := 12, attributes := #[] }] 48 2 #[] #[])
  fields := #[]
  methods := #[k2m0, k2m1]
  instanceTypes := #[]
  staticTypes := #[]
  resolved := Array.replicate 50 none
  statics := none }

def pool3 : Array CpInfo := pool [(1, u "java/lang/Cloneable"), (0, .class_ 1), (0, u "java/lang/Object"), (0, .class_ 3)] 3

/-- java/lang/Cloneable -/
def k3 : Class := { plain "java/lang/Cloneable" (some 0) with
  accessFlags := 1537
  interfaces := #[]
  cf := some (fileOf pool3 2 #[] #[] 1537 4 #[] #[])
  fields := #[]
  methods := #[]
  instanceTypes := #[]
  staticTypes := #[]
  resolved := Array.replicate 8 none
  statics := none }

def pool4 : Array CpInfo := pool [(1, u "java/io/Serializable"), (0, .class_ 1), (0, u "java/lang/Object"), (0, .class_ 3)] 3

/-- java/io/Serializable -/
def k4 : Class := { plain "java/io/Serializable" (some 0) with
  accessFlags := 1537
  interfaces := #[]
  cf := some (fileOf pool4 2 #[] #[] 1537 4 #[] #[])
  fields := #[]
  methods := #[]
  instanceTypes := #[]
  staticTypes := #[]
  resolved := Array.replicate 8 none
  statics := none }

/-- the primitive byte -/
def k5 : Class := { plain "byte" none with kind := .primitive 'B', accessFlags := 0x411 }
/-- [B -/
def k6 : Class := { plain "[B" (some 0) with kind := .array 5 .byte, interfaces := #[3, 4], accessFlags := 1041 }

/-- the primitive int -/
def k7 : Class := { plain "int" none with kind := .primitive 'I', accessFlags := 0x411 }
/-- [I -/
def k8 : Class := { plain "[I" (some 0) with kind := .array 7 .int, interfaces := #[3, 4], accessFlags := 1041 }

def heap : Heap := #[]
def classes : Array Class := #[k0, k1, k2, k3, k4, k5, k6, k7, k8]
def interned : List (Array UInt16 × Addr) := []
def slotsUsed : Nat := 0
def theMethod : MethodId := ⟨1, 1⟩
def args0 : Array Value := #[.int 5, .int 3, .int 7, .int 9, .int 2, .long 77]
def aboutOver (below : List Frame) : State where
  vm := { classes := classes, interned := interned.toArray }
  heap := heap
  slotsUsed := slotsUsed
  threads := #[{ frames := .invoking theMethod args0 :: below }]
def below0 : List Frame := [.native { method := ⟨0, 0⟩, args := #[] }]
def about1 : State := aboutOver below0
def p0 : Program := .bare "" "" ""
def e0 : Env := launch0.env 0 0 0
theorem w_frames : about1.frames = Frame.invoking theMethod args0 :: below0 := rfl
set_option maxRecDepth 65536 in
theorem w_args : argsFit about1.vm theMethod args0 = true := by decide +kernel
set_option maxRecDepth 65536 in
theorem w_heap : heapFits about1 = true := by decide +kernel
set_option maxRecDepth 65536 in
theorem w_runnable : about1.curStatus? = some .runnable := by decide +kernel
set_option maxRecDepth 65536 in
theorem w_alone : about1.alone = true := by decide +kernel
set_option maxRecDepth 65536 in
theorem w_named : about1.methodNamed? x = some theMethod := by decide +kernel
set_option maxRecDepth 65536 in
theorem w_hears : about1.hears theMethod below0 = true := by decide +kernel
set_option maxRecDepth 65536 in
theorem w_ripe : about1.ripe theMethod args0 below0 = true := by decide +kernel
theorem w_running : about1.status = .running := rfl
set_option maxRecDepth 65536 in
theorem w_room : about1.hasRoom e0.platform room_1 = true :=
  launch0.hasRoom_least _ room_1 (by decide +kernel) (by decide +kernel) (by decide +kernel) (by decide +kernel) (by decide +kernel) (by decide +kernel)
theorem allAtoms_all (ts : List Jvm.Cond) (a : Array Jvm.Value) (st : Jvm.State) : (allAtoms ts).before a st = ts.all (fun c => c.before a st) := by
  induction ts with
  | nil => rfl
  | cons c t ih =>
    show (Jvm.Cond.and c (allAtoms t)).before a st = _
    rw [Jvm.Cond.before_and, ih, List.all_cons]
def words1 : List Jvm.Cond := Jvm.Cond.code x code maxLocals ret :: tables_1
/-- a 'code' word, met by the world's own term for the bytes: nothing is compared byte by byte -/
theorem code_word {y : MethodName} {bytes : ByteArray} {mx : Nat} {rt : Option FieldType} {a : Array Value} {s : State} {m : MethodId} {meth : Method} {c : Code} (h1 : s.methodNamed? y = some m) (h2 : s.vm.method? m = some meth) (h3 : meth.code = some c) (h4 : c.code = bytes)
    (h5 : (c.maxLocals == mx && c.exceptionTable.isEmpty && decide (c.maxStack ≤ mostOperands) && decide (meth.sig.returnType = rt) && !meth.locks && decide (parseMethodDescriptor y.desc = some meth.sig)) = true) : (Jvm.Cond.code y bytes mx rt).before a s = true := by
  simp only [Bool.and_eq_true, beq_iff_eq, Bool.not_eq_true', decide_eq_true_eq] at h5
  obtain ⟨⟨⟨⟨⟨g1, g2⟩, g3⟩, g4⟩, g5⟩, g6⟩ := h5
  simp [Cond.before, Cond.holds, Cond.value, h1, h2, h3, h4, g1, g2, g3, g4, g5, g6]
def isCode : Jvm.Cond → Bool
  | .code _ _ _ _ => true
  | _ => false
theorem all_split {L : List Jvm.Cond} {P : Jvm.Cond → Bool} (h1 : L.all (fun c => isCode c || P c) = true) (h2 : ∀ c ∈ L.filter isCode, P c = true) : L.all P = true := by
  refine List.all_eq_true.mpr fun c hc => ?_
  have h := List.all_eq_true.mp h1 c hc
  rcases Bool.eq_false_or_eq_true (isCode c) with hi | hi
  · exact h2 c (List.mem_filter.mpr ⟨hc, hi⟩)
  · simpa [hi] using h
set_option maxRecDepth 65536 in
theorem w_c0 : (Jvm.Cond.code x code maxLocals ret).before args0 about1 = true := code_word (m := ⟨1, 1⟩) (meth := k1m1) (c := k1c1) (by decide +kernel) rfl rfl rfl (by decide +kernel)
set_option maxRecDepth 65536 in
theorem w_c1 : (Jvm.Cond.code ({ cls := "com/example/lakebed/lakebed/core/parquet/LittleEndian", name := "readInt", desc := "([BI)I" } : Jvm.MethodName) prog_51_method_2_code (2 : Nat) (Option.some Jvm.ClassFile.FieldType.int)).before args0 about1 = true := code_word (m := ⟨2, 1⟩) (meth := k2m1) (c := k2c1) (by decide +kernel) rfl rfl rfl (by decide +kernel)
def codes1 : List Jvm.Cond := [Jvm.Cond.code x code maxLocals ret, Jvm.Cond.code ({ cls := "com/example/lakebed/lakebed/core/parquet/LittleEndian", name := "readInt", desc := "([BI)I" } : Jvm.MethodName) prog_51_method_2_code (2 : Nat) (Option.some Jvm.ClassFile.FieldType.int)]
set_option maxRecDepth 65536 in
theorem codes_eq : words1.filter isCode = codes1 := rfl
theorem w_codes : ∀ c ∈ words1.filter isCode, c.before args0 about1 = true := by
  rw [codes_eq]
  intro c hc
  simp only [codes1, List.mem_cons, List.not_mem_nil, or_false] at hc
  rcases hc with rfl | rfl
  · exact w_c0
  · exact w_c1
set_option maxRecDepth 65536 in
theorem w_t1 : words1.all (fun c => isCode c || c.before args0 about1) = true := by decide +kernel
theorem w_tables : (allAtoms (Jvm.Cond.code x code maxLocals ret :: tables_1)).before args0 about1 = true := by
  rw [allAtoms_all]
  show words1.all (fun c => c.before args0 about1) = true
  refine all_split ?_ w_codes
  rw [w_t1]
set_option maxRecDepth 65536 in
theorem w_case : (Jvm.Cond.and given_1 narrow_1).before args0 about1 = true := by decide +kernel
theorem w_applies : (headSpec (Jvm.Cond.code x code maxLocals ret :: tables_1) room_1).applies x e0.platform about1 = true :=
  (Spec.applies_iff w_frames).mpr ⟨w_running, w_runnable, w_alone, w_named, w_hears, w_ripe, w_room, w_tables⟩
theorem atStart : AtStart classFile x code maxLocals ret World_1 tables_1 room_1 Calls_1 rest_1 Pre_1 launch0 p0 e0 about1 theMethod args0 below0 :=
  ⟨lists_1, trivial, launch0.admits_env _ _ _, launch0.least_env, fairChoices_fair.cas, fairChoices_fair.clock, w_frames, w_args, w_heap, w_applies, trivial, trivial, w_case⟩
end start1
theorem witness_1 : WitnessClaimed_1 := ⟨start1.p0, start1.e0, start1.about1, start1.theMethod, start1.args0, start1.below0, start1.atStart⟩
end Jvm.Pilot.@@N@@
