import JvmDerived
import JvmDerived.Pilot.@@N@@Statement
import JvmDerived.Pilot.@@N@@Code
set_option linter.unusedVariables false
set_option linter.unusedSimpArgs false
namespace Jvm.RoadKit
open Sem ClassFile Op Lib Jvm.Stand Jvm.Free Jvm.LawKit
section New
variable {p : Program} {l : Launch} {e : Env} {R : Room} {s : State} {m : MethodId} {args : Array Value} {below : List Frame} {meth : Method} {c : Code} {T : State} {locs : List Loc} {cells slots : Nat}
theorem retI (X : Stand p l e R s m args below meth c T locs cells slots) (hx : p.tables.exec = Jvm.exec) {pc : Nat} {Ls : Array Slot} {z : Int32} {rest : List Value} (hret : meth.sig.returnType = some .int) (hd : decode c.code pc = .ok (.ireturn, 1)) {fs : List Frame}
    (hl : ∀ (f : JFrame) (acts : List Action), f.method = m → f.locked = none → f.entered = [] → (doReturn e (T.setTop f) acts (some (.int z))).1 = T.setFrames fs) : Steps p.tables e below (T.setTop (mkF m pc Ls (.int z :: rest))) (T.setFrames fs) := by
  have hm' : T.vm.method? m = some meth := X.method'
  have hn : narrow .int (.int z) = .int z := rfl
  show Steps p.tables e below (T.setTop { method := m, pc := pc, locals := Ls, stack := _ :: rest, locked := none }) _
  jvm_step X.here [X.here.top, hx, hd, hm', hret, hn]
  first | (intro acts; rw [hl _ acts rfl rfl rfl]) | rw [hl _ _ rfl rfl rfl]
  exact Steps.refl _
end New
end Jvm.RoadKit
namespace Jvm.Pilot.@@N@@
open Jvm Jvm.ClassFile Sem Op Lib Jvm.Free Jvm.Stand Jvm.LawKit Jvm.RoadKit Bundle Jvm.Pilot.@@N@@.Jvm.D
/-! 1. own frame of the walks: a goal 'G T f' says: from the state T with the top frame f the body comes to its end as its contract says. G is kept opaque in a walk: own_Pre steps it back, own_Ret ends it. -/
abbrev own_Pre (p : Program) (e : Env) (below : List Frame) (G : State → JFrame → Prop) : Prop :=
  ∀ {T T2 : State} {f f2 : JFrame}, (∀ t, Steps p.tables e below (T2.setTop f2) t → Steps p.tables e below (T.setTop f) t) → G T2 f2 → G T f
abbrev own_Lv (p : Program) (e : Env) (below : List Frame) (m : MethodId) (T : State) (f : JFrame) (v : Option Value) : Prop :=
  ∀ fs, (∀ (f : JFrame) (acts : List Action), f.method = m → f.locked = none → f.entered = [] → (doReturn e (T.setTop f) acts v).1 = T.setFrames fs) → Steps p.tables e below (T.setTop f) (T.setFrames fs)
abbrev own_Ret (p : Program) (l : Launch) (e : Env) (R : Room) (s : State) (m : MethodId) (as' : Array Value) (below : List Frame) (meth : Method) (c : Code) (Q : Option Value → Heap → List Loc → Prop) (C S : Nat) (G : State → JFrame → Prop) : Prop :=
  ∀ {T : State} {locs : List Loc} {cells slots : Nat} {f : JFrame} {v : Option Value}, Stand p l e R s m as' below meth c T locs cells slots → own_Lv p e below m T f v → (meth.sig.returnType = none → v = none) → Q v T.heap locs → cells ≤ C → slots ≤ S → G T f
theorem own_contract {l : Launch} {Z : State} {y : MethodName} {bytes : ByteArray} {maxL : Nat} {ret : Option FieldType} {ws : List Jvm.Cond} {rm : Room} {as' : Array Value} {h0 : Heap} {Q : Option Value → Heap → List Loc → Prop} {Ls : Array Slot}
    (hpl : plainFor y = true) (hef : ∀ m, entryFrame m as' maxL = mkF m 0 Ls [])
    (H : ∀ (p : Program) (e : Env) (s : State) (m : MethodId) (below : List Frame) (meth : Method) (c : Code) (s₁ : State) (G : State → JFrame → Prop),
      p.tables.exec = Jvm.exec → c.code = bytes → c.maxLocals = maxL → s.vm.findClass y.cls = some m.cls → meth.name = y.name → meth.sig.returnType = ret → Z.Warmed39 s.vm →
      Stand p l e rm s m as' below meth c s₁ [] 0 0 → s₁.heap = h0 → own_Pre p e below G → own_Ret p l e rm s m as' below meth c Q rm.cells rm.slots G → G s₁ (mkF m 0 Ls [])) :
    MetFree l y (head1 (Jvm.Cond.code y bytes maxL ret :: ws) rm) (fun a U => a = as' ∧ Z.Warmed39 U.vm ∧ U.heap = h0) (fun _ _ _ _ _ => True) (fun _ U o U' => ∃ v L, o = .returned v ∧ Q v U'.heap L ∧ FrameEnd U o U' L rm.cells rm.slots) := by
  refine MetFree.of_bodySF hpl hisR ?_
  intro p e s m args below meth c s₁ Bd hml0 hP hK
  obtain ⟨rfl, hZ, hh⟩ := hP
  have X0 : Stand p l e rm s m args below meth c s₁ [] 0 0 := Stand.of_body Bd
  have e0 : s₁.heap = h0 := by rw [← hh, Bd.state]; rfl
  obtain ⟨T', locs, cells, slots, v, X, hst, hv, hQ, hc, hs⟩ := H p e s m below meth c s₁
    (fun T f => ∃ (T' : State) (locs : List Loc) (cells slots : Nat) (v : Option Value), Stand p l e rm s m args below meth c T' locs cells slots ∧
      (∀ fs, (∀ (f : JFrame) (acts : List Action), f.method = m → f.locked = none → f.entered = [] → (doReturn e (T'.setTop f) acts v).1 = T'.setFrames fs) → Steps p.tables e below (T.setTop f) (T'.setFrames fs)) ∧
      (meth.sig.returnType = none → v = none) ∧ Q v T'.heap locs ∧ cells ≤ rm.cells ∧ slots ≤ rm.slots)
    Bd.exec Bd.bytes hml0 (findClass_of_methodNamed Bd.named) (name_of_methodNamed Bd.named Bd.method).1 Bd.returns hZ X0 e0
    (fun {T T2 f f2} hs hG => by
      obtain ⟨T', locs, cells, slots, v, X, hst, r⟩ := hG
      exact ⟨T', locs, cells, slots, v, X, fun fs hl => hs _ (hst fs hl), r⟩)
    (fun {T locs cells slots f v} X hl hv hQ hc hs => ⟨T, locs, cells, slots, v, X, hl, hv, hQ, hc, hs⟩)
  obtain ⟨fs, hr, hrun, hended, hW, hsame⟩ := X.leave hv Bd.notSynchronized
  exact ⟨_, _, castTop (hef m) (hst fs hr), hrun, hended, _, _, rfl, hQ, ⟨_, rfl⟩, hW, hsame.mono hc hs⟩
/-- what a body without a write says: its value, nothing old written, the heap as it was -/
abbrev own_Q (r : Option Value) (h0 : Heap) (n0 : Nat) (v : Option Value) (h : Heap) (L : List Loc) : Prop := v = r ∧ Fr n0 L ∧ h = h0
section Calls
variable {p : Program} {l : Launch} {e : Env} {R : Room} {s : State} {m : MethodId} {args : Array Value} {below : List Frame} {meth : Method} {c : Code} {T : State} {locs : List Loc} {cells slots : Nat} {Z : State} {a0 : Array Value} {h : Heap}
theorem own_callS (X : Stand p l e R s m args below meth c T locs cells slots) (hx : p.tables.exec = Jvm.exec) (hZ : Z.Warmed39 s.vm) {own : String} {index : Nat} {y : MethodName} {bytes : ByteArray} {maxL : Nat} {ret : Option FieldType} {rm : Room} {as' : Array Value} {Q : Option Value → Heap → List Loc → Prop}
    (W : Nat) (hown : s.vm.findClass own = some m.cls) (w1 : (Cond.methodLink own index y).before a0 Z = true) (w2 : (Cond.static y).before a0 Z = true) (w3 : (Cond.initialized y.cls).before a0 Z = true) (w4 : (Cond.code y bytes maxL ret).before a0 Z = true)
    (hy : y.cls ≠ "java/lang/invoke/MethodHandle" ∧ y.cls ≠ "java/lang/invoke/VarHandle")
    (hM : MetFree l y (head1 [Cond.code y bytes maxL ret] rm) (fun a U => a = as' ∧ Z.Warmed39 U.vm ∧ U.heap = h) (fun _ _ _ _ _ => True) (fun _ U o U' => ∃ v L, o = .returned v ∧ Q v U'.heap L ∧ FrameEnd U o U' L rm.cells rm.slots))
    (eT : T.heap = h) (hf : rm.frames + 1 ≤ R.frames) (hl : W + (maxL + 11) + rm.locals ≤ R.locals) {g : JFrame} (hg : g.method = m) (hsize : g.locals.size = c.maxLocals) (argsL rest : List Value) {ps : List FieldType} {r : Option FieldType}
    (hd : parseMethodDescriptor y.desc = some ⟨ps, r⟩) (hlen : argsL.length = ps.length) (hstack : g.stack = argsL.reverse ++ rest) (hW : 2 * g.monitorRoom + (rest.map fun v => v.category).sum ≤ W) (hdg : decode c.code g.pc = .ok (.invokestatic index, 3))
    (has : argsL.toArray = as') (hc : cells + rm.cells ≤ R.cells) (hs : slots + rm.slots ≤ R.slots) :
    ∃ (v : Option Value) (T' : State) (L : List Loc), Stand p l e R s m args below meth c T' (locs ++ L) (cells + rm.cells) (slots + rm.slots) ∧ Q v T'.heap L ∧
      ∀ t, Steps p.tables e below (T'.setTop { g with pc := g.pc + 3, stack := v.toList ++ rest }) t → Steps p.tables e below (T.setTop g) t := by
  obtain ⟨v, _, ⟨T', L', k', n'⟩, -, X', ⟨Lc, hQ, l', y', z'⟩, st⟩ := Jvm.LawKit.callS X hx (y := y) hown (mvT hZ w1) (mvT hZ w2) (mvT hZ w3) (mvT hZ w4) hy (backOf (W := W) hM hZ w4 w3 hf hl) hg hsize (argsL := argsL) (rest := rest) (lenOf hd hlen) hstack hW hdg (fun _ _ => ⟨has, eT, hc, hs⟩)
  dsimp only [Pt.U, Pt.locs, Pt.cells, Pt.slots] at X' l' y' z' st hQ
  subst l' y' z'
  exact ⟨v, T', Lc, X', hQ, st⟩
theorem own_callI (X : Stand p l e R s m args below meth c T locs cells slots) (hx : p.tables.exec = Jvm.exec) (hZ : Z.Warmed39 s.vm) {own : String} {index : Nat} {y : MethodName} {bytes : ByteArray} {maxL : Nat} {rm : Room} {as' : Array Value} {Q : Option Value → Heap → List Loc → Prop}
    (W : Nat) (hy1 : y.name = "<init>") (hown : s.vm.findClass own = some m.cls) (w1 : (Cond.methodLink own index y).before a0 Z = true) (w2 : (Cond.instanceMethod y).before a0 Z = true) (w3 : (Cond.initialized y.cls).before a0 Z = true) (w4 : (Cond.code y bytes maxL none).before a0 Z = true)
    (hy : y.cls ≠ "java/lang/invoke/MethodHandle" ∧ y.cls ≠ "java/lang/invoke/VarHandle")
    (hM : MetFree l y (head1 [Cond.code y bytes maxL none] rm) (fun a U => a = as' ∧ Z.Warmed39 U.vm ∧ U.heap = h) (fun _ _ _ _ _ => True) (fun _ U o U' => ∃ v L, o = .returned v ∧ Q v U'.heap L ∧ FrameEnd U o U' L rm.cells rm.slots))
    (eT : T.heap = h) (hf : rm.frames + 1 ≤ R.frames) (hl : W + (maxL + 11) + rm.locals ≤ R.locals) {g : JFrame} (hg : g.method = m) (hsize : g.locals.size = c.maxLocals) (a : Addr) (argsL rest : List Value) {ps : List FieldType} {r : Option FieldType}
    (hd : parseMethodDescriptor y.desc = some ⟨ps, r⟩) (hlen : argsL.length = ps.length) (hstack : g.stack = argsL.reverse ++ .ref a :: rest) (hW : 2 * g.monitorRoom + (rest.map fun v => v.category).sum ≤ W) (hdg : decode c.code g.pc = .ok (.invokespecial index, 3))
    (has : (.ref a :: argsL).toArray = as') (hc : cells + rm.cells ≤ R.cells) (hs : slots + rm.slots ≤ R.slots) :
    ∃ (v : Option Value) (T' : State) (L : List Loc), Stand p l e R s m args below meth c T' (locs ++ L) (cells + rm.cells) (slots + rm.slots) ∧ Q v T'.heap L ∧
      ∀ t, Steps p.tables e below (T'.setTop { g with pc := g.pc + 3, stack := v.toList ++ rest }) t → Steps p.tables e below (T.setTop g) t := by
  obtain ⟨v, _, ⟨T', L', k', n'⟩, -, X', ⟨Lc, hQ, l', y', z'⟩, st⟩ := X.specialBack hx (y := y) hy1 hown (mvT hZ w1) (mvT hZ w2) (mvT hZ w4) hy (backOf (W := W) hM hZ w4 w3 hf hl) hg hsize (Steps.refl _) (a := a) (argsL := argsL) (rest := rest) (lenOf hd hlen) hstack hW hdg (fun _ _ => ⟨has, eT, hc, hs⟩)
  dsimp only [Pt.U, Pt.locs, Pt.cells, Pt.slots] at X' l' y' z' st hQ
  subst l' y' z'
  exact ⟨v, T', Lc, X', hQ, fun t k => st.trans k⟩
theorem own_callV (X : Stand p l e R s m args below meth c T locs cells slots) (hx : p.tables.exec = Jvm.exec) (hZ : Z.Warmed39 s.vm) {own C : String} {index : Nat} {y : MethodName} {bytes : ByteArray} {maxL : Nat} {ret : Option FieldType} {rm : Room} {as' : Array Value} {Q : Option Value → Heap → List Loc → Prop}
    (W : Nat) (hown : s.vm.findClass own = some m.cls) (w1 : (Cond.methodLink own index y).before a0 Z = true) (w2 : (Cond.declares y).before a0 Z = true) (w3 : (Cond.selects C y y).before a0 Z = true) (w4 : (Cond.instanceMethod y).before a0 Z = true) (w5 : (Cond.initialized y.cls).before a0 Z = true) (w6 : (Cond.code y bytes maxL ret).before a0 Z = true)
    (hy : y.cls ≠ "java/lang/invoke/MethodHandle" ∧ y.cls ≠ "java/lang/invoke/VarHandle")
    (hM : MetFree l y (head1 [Cond.code y bytes maxL ret] rm) (fun a U => a = as' ∧ Z.Warmed39 U.vm ∧ U.heap = h) (fun _ _ _ _ _ => True) (fun _ U o U' => ∃ v L, o = .returned v ∧ Q v U'.heap L ∧ FrameEnd U o U' L rm.cells rm.slots))
    (eT : T.heap = h) {b : Addr} (E : Exa Z h b C) (hf : rm.frames + 1 ≤ R.frames) (hl : W + (maxL + 11) + rm.locals ≤ R.locals) {g : JFrame} (hg : g.method = m) (hsize : g.locals.size = c.maxLocals) (argsL rest : List Value) {ps : List FieldType} {r : Option FieldType}
    (hd : parseMethodDescriptor y.desc = some ⟨ps, r⟩) (hlen : argsL.length = ps.length) (hstack : g.stack = argsL.reverse ++ .ref b :: rest) (hW : 2 * g.monitorRoom + (rest.map fun v => v.category).sum ≤ W) (hdg : decode c.code g.pc = .ok (.invokevirtual index, 3))
    (has : (.ref b :: argsL).toArray = as') (hc : cells + rm.cells ≤ R.cells) (hs : slots + rm.slots ≤ R.slots) :
    ∃ (v : Option Value) (T' : State) (L : List Loc), Stand p l e R s m args below meth c T' (locs ++ L) (cells + rm.cells) (slots + rm.slots) ∧ Q v T'.heap L ∧
      ∀ t, Steps p.tables e below (T'.setTop { g with pc := g.pc + 3, stack := v.toList ++ rest }) t → Steps p.tables e below (T.setTop g) t := by
  obtain ⟨cq, kq, qa, qb, qc⟩ := isOf hZ eT E
  obtain ⟨v, _, ⟨T', L', k', n'⟩, -, X', ⟨Lc, hQ, l', y', z'⟩, st⟩ := X.virtualBack hx (y := y) (z := y) hown (mvT hZ w1) (mvT hZ w2) (notFace_of_selects (args := #[]) (mvT hZ w3)) (mvT hZ w3) (mvT hZ w4) hy (backOf (W := W) hM hZ w6 w5 hf hl) qa qc hg hsize (Steps.refl _) (argsL := argsL) (rest := rest) (lenOf hd hlen) hstack hW hdg (fun _ _ => ⟨has, eT, hc, hs⟩)
  dsimp only [Pt.U, Pt.locs, Pt.cells, Pt.slots] at X' l' y' z' st hQ
  subst l' y' z'
  exact ⟨v, T', Lc, X', hQ, fun t k => st.trans k⟩
end Calls
theorem own_lrem {tb : Tables} [Ours tb] {e : Env} {below : List Frame} {T target : State} {m : MethodId} {c : Code} {g : JFrame} (h : At T m c below) (hx : tb.exec = Jvm.exec) (hg : g.method = m) {x y : Int64} {rest : List Value} (hd : decode c.code g.pc = .ok (.lrem, 1)) (hs : g.stack = .long y :: .long x :: rest) (hy : y ≠ 0)
    (hr : Steps tb e below (T.setTop { g with pc := g.pc + 1, stack := .long (x % y) :: rest }) target) : Steps tb e below (T.setTop g) target := XS.lrem h hx hg hd hs hy (by rw [lrem_mod]; exact hr)
/-! 2. own facts of arrays: n places, place i holds f i -/
def own_up {α : Type} (f : Nat → α) (j : Nat) (v : α) : Nat → α := fun i => if i = j then v else f i
theorem own_up_at {α : Type} (f : Nat → α) (j : Nat) (v : α) (i : Nat) : own_up f j v i = if i = j then v else f i := rfl
def own_AI (Z : State) (h : Heap) (a : Addr) (ty : FieldType) (n : Nat) (f : Nat → Int32) : Prop :=
  ∃ c : Cell, Arr Z h a c ty ∧ c.slots.size = n ∧ n < 2147483648 ∧ ∀ i, i < n → c.slots[i]? = some (.int (f i))
def own_AJ (Z : State) (h : Heap) (a : Addr) (n : Nat) (f : Nat → Int64) : Prop :=
  ∃ c : Cell, Arr Z h a c .long ∧ c.slots.size = n ∧ n < 2147483648 ∧ ∀ i, i < n → c.slots[i]? = some (.long (f i))
section Arrays
variable {Z : State} {h h' : Heap} {a b : Addr} {ty : FieldType} {n : Nat} {f g : Nat → Int32} {fj gj : Nat → Int64}
theorem own_AI.lt (V : own_AI Z h a ty n f) : a < h.size := by obtain ⟨c, A, -⟩ := V; exact A.lt
theorem own_AI.ext (V : own_AI Z h a ty n f) (E : Ext h h') : own_AI Z h' a ty n f := by obtain ⟨c, A, r⟩ := V; exact ⟨c, A.ext E, r⟩
theorem own_AI.other {sl : Nat} {v : Value} (V : own_AI Z h b ty n f) (W : Wr h h' a sl v) (q : b ≠ a) : own_AI Z h' b ty n f := by obtain ⟨c, A, r⟩ := V; exact ⟨c, A.other W q, r⟩
theorem own_AI.keep {ws : List Addr} (V : own_AI Z h a ty n f) (K : Keep h h' ws) (q : a ∉ ws) : own_AI Z h' a ty n f := by obtain ⟨c, A, r⟩ := V; exact ⟨c, ⟨K.2.1 a c A.1 q, A.2⟩, r⟩
theorem own_AI.cong (V : own_AI Z h a ty n f) (q : ∀ i, i < n → f i = g i) : own_AI Z h a ty n g := by obtain ⟨c, A, S, B, H⟩ := V; exact ⟨c, A, S, B, fun i hi => by rw [← q i hi]; exact H i hi⟩
theorem own_AI.new {k : ClassId} {z : Int32} (A : Arr Z h a (newA k ty z) ty) (q : ¬ z < 0) (d : defaultValue ty = .int 0) (n : Nat) (hn : z.toNatClampNeg = n) : own_AI Z h a ty n (fun _ => 0) := by
  subst hn
  exact ⟨_, A, sz_new _ _ _, (back32 q).2, fun i hi => by simp [newA, hi, d]⟩
theorem own_slot (c : Cell) (i k : Nat) (v : Value) (hk : k < c.slots.size) : (c.setSlot i v).slots[k]? = if k = i then some v else c.slots[k]? := by
  by_cases q : k = i
  · subst q; simp [Cell.setSlot, hk]
  · simp [Cell.setSlot, q, Array.getElem?_setIfInBounds, Ne.symm q]
theorem own_AI.set {x : Int32} {i : Nat} (V : own_AI Z h a ty n f) (W : Wr h h' a i (.int x)) : own_AI Z h' a ty n (own_up f i x) := by
  obtain ⟨c, A, S, B, H⟩ := V
  refine ⟨_, A.same W, (sz_set _ _ _).trans S, B, fun k hk => ?_⟩
  rw [own_slot c i k _ (by omega), own_up_at]
  by_cases q : k = i
  · rw [if_pos q, if_pos q]
  · rw [if_neg q, if_neg q]; exact H k hk
theorem own_AI.at (V : own_AI Z h a ty n f) {j : Int32} (i : Nat) (hi : j.toNatClampNeg = i) (h0 : ¬ j < 0) (hn : i < n) :
    ∃ c : Cell, Arr Z h a c ty ∧ ¬ (j < 0 ∨ c.slots.size ≤ j.toNatClampNeg) ∧ c.slots[j.toNatClampNeg]? = some (.int (f i)) := by
  obtain ⟨c, A, S, B, H⟩ := V
  subst hi
  exact ⟨c, A, fun q => q.elim h0 (fun q => by omega), H _ hn⟩
theorem own_AJ.lt (V : own_AJ Z h a n fj) : a < h.size := by obtain ⟨c, A, -⟩ := V; exact A.lt
theorem own_AJ.ext (V : own_AJ Z h a n fj) (E : Ext h h') : own_AJ Z h' a n fj := by obtain ⟨c, A, r⟩ := V; exact ⟨c, A.ext E, r⟩
theorem own_AJ.other {sl : Nat} {v : Value} (V : own_AJ Z h b n fj) (W : Wr h h' a sl v) (q : b ≠ a) : own_AJ Z h' b n fj := by obtain ⟨c, A, r⟩ := V; exact ⟨c, A.other W q, r⟩
theorem own_AJ.keep {ws : List Addr} (V : own_AJ Z h a n fj) (K : Keep h h' ws) (q : a ∉ ws) : own_AJ Z h' a n fj := by obtain ⟨c, A, r⟩ := V; exact ⟨c, ⟨K.2.1 a c A.1 q, A.2⟩, r⟩
theorem own_AJ.cong (V : own_AJ Z h a n fj) (q : ∀ i, i < n → fj i = gj i) : own_AJ Z h a n gj := by obtain ⟨c, A, S, B, H⟩ := V; exact ⟨c, A, S, B, fun i hi => by rw [← q i hi]; exact H i hi⟩
theorem own_AJ.new {k : ClassId} {z : Int32} (A : Arr Z h a (newA k .long z) .long) (q : ¬ z < 0) (n : Nat) (hn : z.toNatClampNeg = n) : own_AJ Z h a n (fun _ => 0) := by
  subst hn
  exact ⟨_, A, sz_new _ _ _, (back32 q).2, fun i hi => by simp [newA, hi]; rfl⟩
theorem own_AJ.set {x : Int64} {i : Nat} (V : own_AJ Z h a n fj) (W : Wr h h' a i (.long x)) : own_AJ Z h' a n (own_up fj i x) := by
  obtain ⟨c, A, S, B, H⟩ := V
  refine ⟨_, A.same W, (sz_set _ _ _).trans S, B, fun k hk => ?_⟩
  rw [own_slot c i k _ (by omega), own_up_at]
  by_cases q : k = i
  · rw [if_pos q, if_pos q]
  · rw [if_neg q, if_neg q]; exact H k hk
theorem own_AJ.at (V : own_AJ Z h a n fj) {j : Int32} (i : Nat) (hi : j.toNatClampNeg = i) (h0 : ¬ j < 0) (hn : i < n) :
    ∃ c : Cell, Arr Z h a c .long ∧ ¬ (j < 0 ∨ c.slots.size ≤ j.toNatClampNeg) ∧ c.slots[j.toNatClampNeg]? = some (.long (fj i)) := by
  obtain ⟨c, A, S, B, H⟩ := V
  subst hi
  exact ⟨c, A, fun q => q.elim h0 (fun q => by omega), H _ hn⟩
end Arrays
section ArraySteps
variable {p : Program} {l : Launch} {e : Env} {R : Room} {s : State} {m : MethodId} {args : Array Value} {below : List Frame} {meth : Method} {c : Code} {T : State} {locs : List Loc} {cells slots : Nat} {Z : State} {a0 : Array Value} {h : Heap} {a : Addr} {n : Nat} {f : Nat → Int32} {fj : Nat → Int64} {j x : Int32} {xj : Int64} {g : JFrame} {rest : List Value}
theorem own_stI (X : Stand p l e R s m args below meth c T locs cells slots) (hx : p.tables.exec = Jvm.exec) (hZ : Z.Warmed39 s.vm) (eT : T.heap = h) (V : own_AI Z h a .int n f) (i : Nat) (hi : j.toNatClampNeg = i) (h0 : ¬ j < 0) (hn : i < n) (hg : g.method = m) (hs : g.stack = .int x :: .int j :: .ref a :: rest) (hd : decode c.code g.pc = .ok (.iastore, 1)) :
    ∃ T' h', Stand p l e R s m args below meth c T' (locs ++ [⟨a, i⟩]) cells slots ∧ T'.heap = h' ∧ Wr h h' a i (.int x) ∧ own_AI Z h' a .int n (own_up f i x) ∧ ∀ t, Steps p.tables e below (T'.setTop { g with pc := g.pc + 1, stack := rest }) t → Steps p.tables e below (T.setTop g) t := by
  obtain ⟨cl, A, hj, -⟩ := V.at i hi h0 hn
  obtain ⟨T', h', X', e', W, st⟩ := stI X hx hZ eT A hj hg hs hd
  subst hi
  exact ⟨T', h', X', e', W, V.set W, st⟩
theorem own_stB (X : Stand p l e R s m args below meth c T locs cells slots) (hx : p.tables.exec = Jvm.exec) (hZ : Z.Warmed39 s.vm) (eT : T.heap = h) (V : own_AI Z h a .byte n f) (i : Nat) (hi : j.toNatClampNeg = i) (h0 : ¬ j < 0) (hn : i < n) (hg : g.method = m) (hs : g.stack = .int x :: .int j :: .ref a :: rest) (hd : decode c.code g.pc = .ok (.bastore, 1)) :
    ∃ T' h', Stand p l e R s m args below meth c T' (locs ++ [⟨a, i⟩]) cells slots ∧ T'.heap = h' ∧ Wr h h' a i (.int (nar .byte x)) ∧ own_AI Z h' a .byte n (own_up f i x.toInt8.toInt32) ∧ ∀ t, Steps p.tables e below (T'.setTop { g with pc := g.pc + 1, stack := rest }) t → Steps p.tables e below (T.setTop g) t := by
  obtain ⟨cl, A, hj, -⟩ := V.at i hi h0 hn
  obtain ⟨T', h', X', e', W, st⟩ := stB X hx hZ eT A hj hg hs hd
  subst hi
  exact ⟨T', h', X', e', W, V.set W, st⟩
theorem own_stC (X : Stand p l e R s m args below meth c T locs cells slots) (hx : p.tables.exec = Jvm.exec) (hZ : Z.Warmed39 s.vm) (eT : T.heap = h) (V : own_AI Z h a .char n f) (i : Nat) (hi : j.toNatClampNeg = i) (h0 : ¬ j < 0) (hn : i < n) (hg : g.method = m) (hs : g.stack = .int x :: .int j :: .ref a :: rest) (hd : decode c.code g.pc = .ok (.castore, 1)) :
    ∃ T' h', Stand p l e R s m args below meth c T' (locs ++ [⟨a, i⟩]) cells slots ∧ T'.heap = h' ∧ Wr h h' a i (.int (nar .char x)) ∧ own_AI Z h' a .char n (own_up f i x.toUInt32.toUInt16.toUInt32.toInt32) ∧ ∀ t, Steps p.tables e below (T'.setTop { g with pc := g.pc + 1, stack := rest }) t → Steps p.tables e below (T.setTop g) t := by
  obtain ⟨cl, A, hj, -⟩ := V.at i hi h0 hn
  obtain ⟨T', h', X', e', W, st⟩ := stC X hx hZ eT A hj hg hs hd
  subst hi
  exact ⟨T', h', X', e', W, V.set W, st⟩
theorem own_stJ (X : Stand p l e R s m args below meth c T locs cells slots) (hx : p.tables.exec = Jvm.exec) (hZ : Z.Warmed39 s.vm) (eT : T.heap = h) (V : own_AJ Z h a n fj) (i : Nat) (hi : j.toNatClampNeg = i) (h0 : ¬ j < 0) (hn : i < n) (hg : g.method = m) (hs : g.stack = .long xj :: .int j :: .ref a :: rest) (hd : decode c.code g.pc = .ok (.lastore, 1)) :
    ∃ T' h', Stand p l e R s m args below meth c T' (locs ++ [⟨a, i⟩]) cells slots ∧ T'.heap = h' ∧ Wr h h' a i (.long xj) ∧ own_AJ Z h' a n (own_up fj i xj) ∧ ∀ t, Steps p.tables e below (T'.setTop { g with pc := g.pc + 1, stack := rest }) t → Steps p.tables e below (T.setTop g) t := by
  obtain ⟨cl, A, hj, -⟩ := V.at i hi h0 hn
  obtain ⟨T', h', X', e', W, st⟩ := stJ X hx hZ eT A hj hg hs hd
  subst hi
  exact ⟨T', h', X', e', W, V.set W, st⟩
theorem own_ldI (X : Stand p l e R s m args below meth c T locs cells slots) (hx : p.tables.exec = Jvm.exec) (hZ : Z.Warmed39 s.vm) (eT : T.heap = h) (V : own_AI Z h a .int n f) (i : Nat) (hi : j.toNatClampNeg = i) (h0 : ¬ j < 0) (hn : i < n) (hg : g.method = m) (hs : g.stack = .int j :: .ref a :: rest) (hd : decode c.code g.pc = .ok (.iaload, 1)) :
    ∀ t, Steps p.tables e below (T.setTop { g with pc := g.pc + 1, stack := .int (f i) :: rest }) t → Steps p.tables e below (T.setTop g) t := by
  obtain ⟨cl, A, hj, hv⟩ := V.at i hi h0 hn
  exact fun t k => X.iaload hx (by rw [eT]; exact A.1) (State.isArrayOf_alike hZ.alike A.2.1) A.2.2 hj hv hg hs hd t k
theorem own_ldB (X : Stand p l e R s m args below meth c T locs cells slots) (hx : p.tables.exec = Jvm.exec) (hZ : Z.Warmed39 s.vm) (eT : T.heap = h) (V : own_AI Z h a .byte n f) (i : Nat) (hi : j.toNatClampNeg = i) (h0 : ¬ j < 0) (hn : i < n) (hg : g.method = m) (hs : g.stack = .int j :: .ref a :: rest) (hd : decode c.code g.pc = .ok (.baload, 1)) :
    ∀ t, Steps p.tables e below (T.setTop { g with pc := g.pc + 1, stack := .int (f i) :: rest }) t → Steps p.tables e below (T.setTop g) t := by
  obtain ⟨cl, A, hj, hv⟩ := V.at i hi h0 hn
  exact fun t k => X.baloadBytes hx (by rw [eT]; exact A.1) (State.isArrayOf_alike hZ.alike A.2.1) A.2.2 hj hv hg hs hd t k
theorem own_ldC (X : Stand p l e R s m args below meth c T locs cells slots) (hx : p.tables.exec = Jvm.exec) (hZ : Z.Warmed39 s.vm) (eT : T.heap = h) (V : own_AI Z h a .char n f) (i : Nat) (hi : j.toNatClampNeg = i) (h0 : ¬ j < 0) (hn : i < n) (hg : g.method = m) (hs : g.stack = .int j :: .ref a :: rest) (hd : decode c.code g.pc = .ok (.caload, 1)) :
    ∀ t, Steps p.tables e below (T.setTop { g with pc := g.pc + 1, stack := .int (f i) :: rest }) t → Steps p.tables e below (T.setTop g) t := by
  obtain ⟨cl, A, hj, hv⟩ := V.at i hi h0 hn
  exact fun t k => X.caload hx (by rw [eT]; exact A.1) (State.isArrayOf_alike hZ.alike A.2.1) A.2.2 hj hv hg hs hd t k
theorem own_ldJ (X : Stand p l e R s m args below meth c T locs cells slots) (hx : p.tables.exec = Jvm.exec) (hZ : Z.Warmed39 s.vm) (eT : T.heap = h) (V : own_AJ Z h a n fj) (i : Nat) (hi : j.toNatClampNeg = i) (h0 : ¬ j < 0) (hn : i < n) (hg : g.method = m) (hs : g.stack = .int j :: .ref a :: rest) (hd : decode c.code g.pc = .ok (.laload, 1)) :
    ∀ t, Steps p.tables e below (T.setTop { g with pc := g.pc + 1, stack := .long (fj i) :: rest }) t → Steps p.tables e below (T.setTop g) t := by
  obtain ⟨cl, A, hj, hv⟩ := V.at i hi h0 hn
  exact fun t k => X.laload hx (by rw [eT]; exact A.1) (State.isArrayOf_alike hZ.alike A.2.1) A.2.2 hj hv hg hs hd t k
theorem own_lenI {ty : FieldType} (X : Stand p l e R s m args below meth c T locs cells slots) (hx : p.tables.exec = Jvm.exec) (hZ : Z.Warmed39 s.vm) (eT : T.heap = h) (V : own_AI Z h a ty n f) (N : Int32) (hN : n.toInt32 = N) (hg : g.method = m) (hs : g.stack = .ref a :: rest) (hd : decode c.code g.pc = .ok (.arraylength, 1)) :
    ∀ t, Steps p.tables e below (T.setTop { g with pc := g.pc + 1, stack := .int N :: rest }) t → Steps p.tables e below (T.setTop g) t := by
  obtain ⟨cl, A, S, -⟩ := V
  subst hN S
  exact fun t k => X.arraylength hx (by rw [eT]; exact A.1) (State.isArrayOf_alike hZ.alike A.2.1) hg hs hd t k
theorem own_lenJ (X : Stand p l e R s m args below meth c T locs cells slots) (hx : p.tables.exec = Jvm.exec) (hZ : Z.Warmed39 s.vm) (eT : T.heap = h) (V : own_AJ Z h a n fj) (N : Int32) (hN : n.toInt32 = N) (hg : g.method = m) (hs : g.stack = .ref a :: rest) (hd : decode c.code g.pc = .ok (.arraylength, 1)) :
    ∀ t, Steps p.tables e below (T.setTop { g with pc := g.pc + 1, stack := .int N :: rest }) t → Steps p.tables e below (T.setTop g) t := by
  obtain ⟨cl, A, S, -⟩ := V
  subst hN S
  exact fun t k => X.arraylength hx (by rw [eT]; exact A.1) (State.isArrayOf_alike hZ.alike A.2.1) hg hs hd t k
/-- areturn -/
theorem own_retA (X : Stand p l e R s m args below meth c T locs cells slots) (hx : p.tables.exec = Jvm.exec) {pc : Nat} {Ls : Array Slot} {t : FieldType} (hret : meth.sig.returnType = some t) (ht : t.isReference = true) (hd : decode c.code pc = .ok (.areturn, 1)) {fs : List Frame}
    (hl : ∀ (f : JFrame) (acts : List Action), f.method = m → f.locked = none → f.entered = [] → (doReturn e (T.setTop f) acts (some (.ref a))).1 = T.setFrames fs) : Steps p.tables e below (T.setTop (mkF m pc Ls (.ref a :: rest))) (T.setFrames fs) :=
  retOut X hx hret (by cases t <;> first | rfl | (cases ht; done)) (Or.inr (Or.inr (Or.inr (Or.inr ⟨rfl, ht, rfl⟩)))) hd hl
end ArraySteps
theorem own_pd0 : parseMethodDescriptor "(I)[B" = some ⟨[.int], some (.array .byte)⟩ := by decide +kernel
theorem own_pd1 : parseMethodDescriptor "([BIJ)V" = some ⟨[(.array .byte), .int, .long], none⟩ := by decide +kernel
theorem own_pd2 : parseMethodDescriptor "([B[BIJI)Z" = some ⟨[(.array .byte), (.array .byte), .int, .long, .int], some .boolean⟩ := by decide +kernel
def own_fill (p0 : Int32) : Nat → Int32 := (own_up (own_up (own_up (own_up (own_up (own_up (own_up (own_up (own_up (own_up (own_up (own_up (fun _ => (0 : Int32)) 0 p0.toInt8.toInt32.toInt8.toInt32) 1 (p0 + (37 : Int32)).toInt8.toInt32.toInt8.toInt32) 2 (p0 + (74 : Int32)).toInt8.toInt32.toInt8.toInt32) 3 (p0 + (111 : Int32)).toInt8.toInt32.toInt8.toInt32) 4 (p0 + (148 : Int32)).toInt8.toInt32.toInt8.toInt32) 5 (p0 + (185 : Int32)).toInt8.toInt32.toInt8.toInt32) 6 (p0 + (222 : Int32)).toInt8.toInt32.toInt8.toInt32) 7 (p0 + (259 : Int32)).toInt8.toInt32.toInt8.toInt32) 8 (p0 + (296 : Int32)).toInt8.toInt32.toInt8.toInt32) 9 (p0 + (333 : Int32)).toInt8.toInt32.toInt8.toInt32) 10 (p0 + (370 : Int32)).toInt8.toInt32.toInt8.toInt32) 11 (p0 + (407 : Int32)).toInt8.toInt32.toInt8.toInt32)
abbrev own_Q1 (Z : State) (p0 : Int32) (h0 : Heap) (n0 : Nat) (v : Option Value) (h : Heap) (L : List Loc) : Prop := ∃ b : Addr, v = some (.ref b) ∧ Fr n0 L ∧ Keep h0 h [] ∧ h0.size ≤ b ∧ own_AI Z h b .byte 12 (own_fill p0)
theorem d1_0 : decode method_2_code 0 = .ok (.bipush 12, 2) := by decide +kernel
theorem d1_2 : decode method_2_code 2 = .ok (.newarray .byte, 2) := by decide +kernel
theorem d1_4 : decode method_2_code 4 = .ok (.dup, 1) := by decide +kernel
theorem d1_5 : decode method_2_code 5 = .ok (.iconst 0, 1) := by decide +kernel
theorem d1_6 : decode method_2_code 6 = .ok (.iload_n 0, 1) := by decide +kernel
theorem d1_7 : decode method_2_code 7 = .ok (.i2b, 1) := by decide +kernel
theorem d1_8 : decode method_2_code 8 = .ok (.bastore, 1) := by decide +kernel
theorem d1_9 : decode method_2_code 9 = .ok (.dup, 1) := by decide +kernel
theorem d1_10 : decode method_2_code 10 = .ok (.iconst 1, 1) := by decide +kernel
theorem d1_11 : decode method_2_code 11 = .ok (.iload_n 0, 1) := by decide +kernel
theorem d1_12 : decode method_2_code 12 = .ok (.bipush 37, 2) := by decide +kernel
theorem d1_14 : decode method_2_code 14 = .ok (.iadd, 1) := by decide +kernel
theorem d1_15 : decode method_2_code 15 = .ok (.i2b, 1) := by decide +kernel
theorem d1_16 : decode method_2_code 16 = .ok (.bastore, 1) := by decide +kernel
theorem d1_17 : decode method_2_code 17 = .ok (.dup, 1) := by decide +kernel
theorem d1_18 : decode method_2_code 18 = .ok (.iconst 2, 1) := by decide +kernel
theorem d1_19 : decode method_2_code 19 = .ok (.iload_n 0, 1) := by decide +kernel
theorem d1_20 : decode method_2_code 20 = .ok (.bipush 74, 2) := by decide +kernel
theorem d1_22 : decode method_2_code 22 = .ok (.iadd, 1) := by decide +kernel
theorem d1_23 : decode method_2_code 23 = .ok (.i2b, 1) := by decide +kernel
theorem d1_24 : decode method_2_code 24 = .ok (.bastore, 1) := by decide +kernel
theorem d1_25 : decode method_2_code 25 = .ok (.dup, 1) := by decide +kernel
theorem d1_26 : decode method_2_code 26 = .ok (.iconst 3, 1) := by decide +kernel
theorem d1_27 : decode method_2_code 27 = .ok (.iload_n 0, 1) := by decide +kernel
theorem d1_28 : decode method_2_code 28 = .ok (.bipush 111, 2) := by decide +kernel
theorem d1_30 : decode method_2_code 30 = .ok (.iadd, 1) := by decide +kernel
theorem d1_31 : decode method_2_code 31 = .ok (.i2b, 1) := by decide +kernel
theorem d1_32 : decode method_2_code 32 = .ok (.bastore, 1) := by decide +kernel
theorem d1_33 : decode method_2_code 33 = .ok (.dup, 1) := by decide +kernel
theorem d1_34 : decode method_2_code 34 = .ok (.iconst 4, 1) := by decide +kernel
theorem d1_35 : decode method_2_code 35 = .ok (.iload_n 0, 1) := by decide +kernel
theorem d1_36 : decode method_2_code 36 = .ok (.sipush 148, 3) := by decide +kernel
theorem d1_39 : decode method_2_code 39 = .ok (.iadd, 1) := by decide +kernel
theorem d1_40 : decode method_2_code 40 = .ok (.i2b, 1) := by decide +kernel
theorem d1_41 : decode method_2_code 41 = .ok (.bastore, 1) := by decide +kernel
theorem d1_42 : decode method_2_code 42 = .ok (.dup, 1) := by decide +kernel
theorem d1_43 : decode method_2_code 43 = .ok (.iconst 5, 1) := by decide +kernel
theorem d1_44 : decode method_2_code 44 = .ok (.iload_n 0, 1) := by decide +kernel
theorem d1_45 : decode method_2_code 45 = .ok (.sipush 185, 3) := by decide +kernel
theorem d1_48 : decode method_2_code 48 = .ok (.iadd, 1) := by decide +kernel
theorem d1_49 : decode method_2_code 49 = .ok (.i2b, 1) := by decide +kernel
theorem d1_50 : decode method_2_code 50 = .ok (.bastore, 1) := by decide +kernel
theorem d1_51 : decode method_2_code 51 = .ok (.dup, 1) := by decide +kernel
theorem d1_52 : decode method_2_code 52 = .ok (.bipush 6, 2) := by decide +kernel
theorem d1_54 : decode method_2_code 54 = .ok (.iload_n 0, 1) := by decide +kernel
theorem d1_55 : decode method_2_code 55 = .ok (.sipush 222, 3) := by decide +kernel
theorem d1_58 : decode method_2_code 58 = .ok (.iadd, 1) := by decide +kernel
theorem d1_59 : decode method_2_code 59 = .ok (.i2b, 1) := by decide +kernel
theorem d1_60 : decode method_2_code 60 = .ok (.bastore, 1) := by decide +kernel
theorem d1_61 : decode method_2_code 61 = .ok (.dup, 1) := by decide +kernel
theorem d1_62 : decode method_2_code 62 = .ok (.bipush 7, 2) := by decide +kernel
theorem d1_64 : decode method_2_code 64 = .ok (.iload_n 0, 1) := by decide +kernel
theorem d1_65 : decode method_2_code 65 = .ok (.sipush 259, 3) := by decide +kernel
theorem d1_68 : decode method_2_code 68 = .ok (.iadd, 1) := by decide +kernel
theorem d1_69 : decode method_2_code 69 = .ok (.i2b, 1) := by decide +kernel
theorem d1_70 : decode method_2_code 70 = .ok (.bastore, 1) := by decide +kernel
theorem d1_71 : decode method_2_code 71 = .ok (.dup, 1) := by decide +kernel
theorem d1_72 : decode method_2_code 72 = .ok (.bipush 8, 2) := by decide +kernel
theorem d1_74 : decode method_2_code 74 = .ok (.iload_n 0, 1) := by decide +kernel
theorem d1_75 : decode method_2_code 75 = .ok (.sipush 296, 3) := by decide +kernel
theorem d1_78 : decode method_2_code 78 = .ok (.iadd, 1) := by decide +kernel
theorem d1_79 : decode method_2_code 79 = .ok (.i2b, 1) := by decide +kernel
theorem d1_80 : decode method_2_code 80 = .ok (.bastore, 1) := by decide +kernel
theorem d1_81 : decode method_2_code 81 = .ok (.dup, 1) := by decide +kernel
theorem d1_82 : decode method_2_code 82 = .ok (.bipush 9, 2) := by decide +kernel
theorem d1_84 : decode method_2_code 84 = .ok (.iload_n 0, 1) := by decide +kernel
theorem d1_85 : decode method_2_code 85 = .ok (.sipush 333, 3) := by decide +kernel
theorem d1_88 : decode method_2_code 88 = .ok (.iadd, 1) := by decide +kernel
theorem d1_89 : decode method_2_code 89 = .ok (.i2b, 1) := by decide +kernel
theorem d1_90 : decode method_2_code 90 = .ok (.bastore, 1) := by decide +kernel
theorem d1_91 : decode method_2_code 91 = .ok (.dup, 1) := by decide +kernel
theorem d1_92 : decode method_2_code 92 = .ok (.bipush 10, 2) := by decide +kernel
theorem d1_94 : decode method_2_code 94 = .ok (.iload_n 0, 1) := by decide +kernel
theorem d1_95 : decode method_2_code 95 = .ok (.sipush 370, 3) := by decide +kernel
theorem d1_98 : decode method_2_code 98 = .ok (.iadd, 1) := by decide +kernel
theorem d1_99 : decode method_2_code 99 = .ok (.i2b, 1) := by decide +kernel
theorem d1_100 : decode method_2_code 100 = .ok (.bastore, 1) := by decide +kernel
theorem d1_101 : decode method_2_code 101 = .ok (.dup, 1) := by decide +kernel
theorem d1_102 : decode method_2_code 102 = .ok (.bipush 11, 2) := by decide +kernel
theorem d1_104 : decode method_2_code 104 = .ok (.iload_n 0, 1) := by decide +kernel
theorem d1_105 : decode method_2_code 105 = .ok (.sipush 407, 3) := by decide +kernel
theorem d1_108 : decode method_2_code 108 = .ok (.iadd, 1) := by decide +kernel
theorem d1_109 : decode method_2_code 109 = .ok (.i2b, 1) := by decide +kernel
theorem d1_110 : decode method_2_code 110 = .ok (.bastore, 1) := by decide +kernel
theorem d1_111 : decode method_2_code 111 = .ok (.areturn, 1) := by decide +kernel
theorem own_ef1 (m : MethodId) (p0 : Int32) : entryFrame m #[(.int p0)] 1 = mkF m 0 #[.val (.int p0)] [] := by first | (simp [entryFrame, mkF, argsToLocals, Value.category]; done) | rfl
theorem own_pn1 : plainName "com/example/lakebed/lakebed/core/parquet/LittleEndianWriteLongPinLaw" = true := by first | (simp [plainName, overriddenIn]; done) | decide +kernel
set_option maxRecDepth 65536 in
set_option maxHeartbeats 40000000 in
theorem rm1 (l : Launch) (Z : State) (a0 : Array Value) (hw : ∀ d ∈ tables_1, d.before a0 Z = true) (ws : List Jvm.Cond) (p0 : Int32)  (h0 : Heap) (n0 : Nat) (Z0 : n0 ≤ h0.size) :
    MetFree l (⟨"com/example/lakebed/lakebed/core/parquet/LittleEndianWriteLongPinLaw", "filled", "(I)[B"⟩ : MethodName) (head1 (Jvm.Cond.code (⟨"com/example/lakebed/lakebed/core/parquet/LittleEndianWriteLongPinLaw", "filled", "(I)[B"⟩ : MethodName) method_2_code 1 (some (.array .byte)) :: ws) ({ frames := 0, cells := 1, slots := 12, locals := 0 } : Room)) (fun a U => a = #[(.int p0)] ∧ Z.Warmed39 U.vm ∧ U.heap = h0) (fun _ _ _ _ _ => True) (fun _ U o U' => ∃ v L, o = .returned v ∧ own_Q1 Z p0 h0 n0 v U'.heap L ∧ FrameEnd U o U' L ({ frames := 0, cells := 1, slots := 12, locals := 0 } : Room).cells ({ frames := 0, cells := 1, slots := 12, locals := 0 } : Room).slots) := by
  refine own_contract (plainFor_of_name own_pn1) (fun m => own_ef1 m p0) ?_
  intro p e s m below meth c s₁ G hx hby hml0 hown0 hnm hret hZ X0 e0 hp hR
  have hml : c.maxLocals = 1 := hml0
  have hown : s.vm.findClass "com/example/lakebed/lakebed/core/parquet/LittleEndianWriteLongPinLaw" = some m.cls := hown0
  have N0 := Fr.nil n0
  show G s₁ (mkF m 0 #[.val (.int p0)] [])
  have K0 : Keep h0 h0 [] := Keep.refl _ _
  refine hp (fun tq kq => XS.bipush X0.here hx rfl (hb hby d1_0) kq) ?_
  show G s₁ (mkF m 2 #[.val (.int p0)] [(.int (12 : Int32))])
  obtain ⟨T1, h1, k1, X1, e1, E1, A1, st1⟩ := newP X0 hx hZ (hw _ (List.mem_of_getElem? (i := 5) rfl)) e0 (g := (mkF m 2 #[.val (.int p0)] [(.int (12 : Int32))])) rfl (hb hby d1_2) rfl (by decide) (cap := 12) (by decide) (by decide) (by decide) (by decide)
  obtain ⟨b1, g1⟩ : ∃ z, z = h0.size := ⟨_, rfl⟩
  rw [← g1] at A1 st1
  have sz_b1 : h0.size ≤ b1 := Nat.le_trans K0.1 (Nat.le_of_eq g1.symm)
  have g_b1 : n0 ≤ b1 := Nat.le_trans Z0 sz_b1
  have K1 := K0.ext E1
  have V1_b1 : own_AI Z h1 b1 .byte 12 (fun _ => 0) := own_AI.new A1 (by decide) rfl 12 (by decide)
  refine hp st1 ?_
  show G T1 (mkF m 4 #[.val (.int p0)] [(.ref b1)])
  refine hp (fun tq kq => XS.dup X1.here hx rfl (hb hby d1_4) rfl rfl kq) ?_
  show G T1 (mkF m 5 #[.val (.int p0)] [(.ref b1), (.ref b1)])
  refine hp (fun tq kq => XS.iconst X1.here hx rfl (hb hby d1_5) kq) ?_
  show G T1 (mkF m 6 #[.val (.int p0)] [(.int (0 : Int32)), (.ref b1), (.ref b1)])
  refine hp (fun tq kq => XS.iloadN X1.here hx rfl (hb hby d1_6) rfl kq) ?_
  show G T1 (mkF m 7 #[.val (.int p0)] [(.int p0), (.int (0 : Int32)), (.ref b1), (.ref b1)])
  refine hp (fun tq kq => XS.i2b X1.here hx rfl (hb hby d1_7) rfl kq) ?_
  show G T1 (mkF m 8 #[.val (.int p0)] [(.int p0.toInt8.toInt32), (.int (0 : Int32)), (.ref b1), (.ref b1)])
  obtain ⟨T2, h2, X2, e2, W2, V2_b1, st2⟩ := own_stB X1 hx hZ e1 V1_b1 (j := (0 : Int32)) 0 (by decide) (by decide) (by decide) (g := (mkF m 8 #[.val (.int p0)] [(.int p0.toInt8.toInt32), (.int (0 : Int32)), (.ref b1), (.ref b1)])) rfl rfl (hb hby d1_8)
  have K2 := K1.wr W2 (Or.inr sz_b1)
  have N2 := Fr.snoc X2 N0 g_b1
  refine hp st2 ?_
  show G T2 (mkF m 9 #[.val (.int p0)] [(.ref b1)])
  refine hp (fun tq kq => XS.dup X2.here hx rfl (hb hby d1_9) rfl rfl kq) ?_
  show G T2 (mkF m 10 #[.val (.int p0)] [(.ref b1), (.ref b1)])
  refine hp (fun tq kq => XS.iconst X2.here hx rfl (hb hby d1_10) kq) ?_
  show G T2 (mkF m 11 #[.val (.int p0)] [(.int (1 : Int32)), (.ref b1), (.ref b1)])
  refine hp (fun tq kq => XS.iloadN X2.here hx rfl (hb hby d1_11) rfl kq) ?_
  show G T2 (mkF m 12 #[.val (.int p0)] [(.int p0), (.int (1 : Int32)), (.ref b1), (.ref b1)])
  refine hp (fun tq kq => XS.bipush X2.here hx rfl (hb hby d1_12) kq) ?_
  show G T2 (mkF m 14 #[.val (.int p0)] [(.int (37 : Int32)), (.int p0), (.int (1 : Int32)), (.ref b1), (.ref b1)])
  refine hp (fun tq kq => XS.iadd X2.here hx rfl (hb hby d1_14) rfl kq) ?_
  show G T2 (mkF m 15 #[.val (.int p0)] [(.int (p0 + (37 : Int32))), (.int (1 : Int32)), (.ref b1), (.ref b1)])
  refine hp (fun tq kq => XS.i2b X2.here hx rfl (hb hby d1_15) rfl kq) ?_
  show G T2 (mkF m 16 #[.val (.int p0)] [(.int (p0 + (37 : Int32)).toInt8.toInt32), (.int (1 : Int32)), (.ref b1), (.ref b1)])
  obtain ⟨T3, h3, X3, e3, W3, V3_b1, st3⟩ := own_stB X2 hx hZ e2 V2_b1 (j := (1 : Int32)) 1 (by decide) (by decide) (by decide) (g := (mkF m 16 #[.val (.int p0)] [(.int (p0 + (37 : Int32)).toInt8.toInt32), (.int (1 : Int32)), (.ref b1), (.ref b1)])) rfl rfl (hb hby d1_16)
  have K3 := K2.wr W3 (Or.inr sz_b1)
  have N3 := Fr.snoc X3 N2 g_b1
  refine hp st3 ?_
  show G T3 (mkF m 17 #[.val (.int p0)] [(.ref b1)])
  refine hp (fun tq kq => XS.dup X3.here hx rfl (hb hby d1_17) rfl rfl kq) ?_
  show G T3 (mkF m 18 #[.val (.int p0)] [(.ref b1), (.ref b1)])
  refine hp (fun tq kq => XS.iconst X3.here hx rfl (hb hby d1_18) kq) ?_
  show G T3 (mkF m 19 #[.val (.int p0)] [(.int (2 : Int32)), (.ref b1), (.ref b1)])
  refine hp (fun tq kq => XS.iloadN X3.here hx rfl (hb hby d1_19) rfl kq) ?_
  show G T3 (mkF m 20 #[.val (.int p0)] [(.int p0), (.int (2 : Int32)), (.ref b1), (.ref b1)])
  refine hp (fun tq kq => XS.bipush X3.here hx rfl (hb hby d1_20) kq) ?_
  show G T3 (mkF m 22 #[.val (.int p0)] [(.int (74 : Int32)), (.int p0), (.int (2 : Int32)), (.ref b1), (.ref b1)])
  refine hp (fun tq kq => XS.iadd X3.here hx rfl (hb hby d1_22) rfl kq) ?_
  show G T3 (mkF m 23 #[.val (.int p0)] [(.int (p0 + (74 : Int32))), (.int (2 : Int32)), (.ref b1), (.ref b1)])
  refine hp (fun tq kq => XS.i2b X3.here hx rfl (hb hby d1_23) rfl kq) ?_
  show G T3 (mkF m 24 #[.val (.int p0)] [(.int (p0 + (74 : Int32)).toInt8.toInt32), (.int (2 : Int32)), (.ref b1), (.ref b1)])
  obtain ⟨T4, h4, X4, e4, W4, V4_b1, st4⟩ := own_stB X3 hx hZ e3 V3_b1 (j := (2 : Int32)) 2 (by decide) (by decide) (by decide) (g := (mkF m 24 #[.val (.int p0)] [(.int (p0 + (74 : Int32)).toInt8.toInt32), (.int (2 : Int32)), (.ref b1), (.ref b1)])) rfl rfl (hb hby d1_24)
  have K4 := K3.wr W4 (Or.inr sz_b1)
  have N4 := Fr.snoc X4 N3 g_b1
  refine hp st4 ?_
  show G T4 (mkF m 25 #[.val (.int p0)] [(.ref b1)])
  refine hp (fun tq kq => XS.dup X4.here hx rfl (hb hby d1_25) rfl rfl kq) ?_
  show G T4 (mkF m 26 #[.val (.int p0)] [(.ref b1), (.ref b1)])
  refine hp (fun tq kq => XS.iconst X4.here hx rfl (hb hby d1_26) kq) ?_
  show G T4 (mkF m 27 #[.val (.int p0)] [(.int (3 : Int32)), (.ref b1), (.ref b1)])
  refine hp (fun tq kq => XS.iloadN X4.here hx rfl (hb hby d1_27) rfl kq) ?_
  show G T4 (mkF m 28 #[.val (.int p0)] [(.int p0), (.int (3 : Int32)), (.ref b1), (.ref b1)])
  refine hp (fun tq kq => XS.bipush X4.here hx rfl (hb hby d1_28) kq) ?_
  show G T4 (mkF m 30 #[.val (.int p0)] [(.int (111 : Int32)), (.int p0), (.int (3 : Int32)), (.ref b1), (.ref b1)])
  refine hp (fun tq kq => XS.iadd X4.here hx rfl (hb hby d1_30) rfl kq) ?_
  show G T4 (mkF m 31 #[.val (.int p0)] [(.int (p0 + (111 : Int32))), (.int (3 : Int32)), (.ref b1), (.ref b1)])
  refine hp (fun tq kq => XS.i2b X4.here hx rfl (hb hby d1_31) rfl kq) ?_
  show G T4 (mkF m 32 #[.val (.int p0)] [(.int (p0 + (111 : Int32)).toInt8.toInt32), (.int (3 : Int32)), (.ref b1), (.ref b1)])
  obtain ⟨T5, h5, X5, e5, W5, V5_b1, st5⟩ := own_stB X4 hx hZ e4 V4_b1 (j := (3 : Int32)) 3 (by decide) (by decide) (by decide) (g := (mkF m 32 #[.val (.int p0)] [(.int (p0 + (111 : Int32)).toInt8.toInt32), (.int (3 : Int32)), (.ref b1), (.ref b1)])) rfl rfl (hb hby d1_32)
  have K5 := K4.wr W5 (Or.inr sz_b1)
  have N5 := Fr.snoc X5 N4 g_b1
  refine hp st5 ?_
  show G T5 (mkF m 33 #[.val (.int p0)] [(.ref b1)])
  refine hp (fun tq kq => XS.dup X5.here hx rfl (hb hby d1_33) rfl rfl kq) ?_
  show G T5 (mkF m 34 #[.val (.int p0)] [(.ref b1), (.ref b1)])
  refine hp (fun tq kq => XS.iconst X5.here hx rfl (hb hby d1_34) kq) ?_
  show G T5 (mkF m 35 #[.val (.int p0)] [(.int (4 : Int32)), (.ref b1), (.ref b1)])
  refine hp (fun tq kq => XS.iloadN X5.here hx rfl (hb hby d1_35) rfl kq) ?_
  show G T5 (mkF m 36 #[.val (.int p0)] [(.int p0), (.int (4 : Int32)), (.ref b1), (.ref b1)])
  refine hp (fun tq kq => XS.sipush X5.here hx rfl (hb hby d1_36) kq) ?_
  show G T5 (mkF m 39 #[.val (.int p0)] [(.int (148 : Int32)), (.int p0), (.int (4 : Int32)), (.ref b1), (.ref b1)])
  refine hp (fun tq kq => XS.iadd X5.here hx rfl (hb hby d1_39) rfl kq) ?_
  show G T5 (mkF m 40 #[.val (.int p0)] [(.int (p0 + (148 : Int32))), (.int (4 : Int32)), (.ref b1), (.ref b1)])
  refine hp (fun tq kq => XS.i2b X5.here hx rfl (hb hby d1_40) rfl kq) ?_
  show G T5 (mkF m 41 #[.val (.int p0)] [(.int (p0 + (148 : Int32)).toInt8.toInt32), (.int (4 : Int32)), (.ref b1), (.ref b1)])
  obtain ⟨T6, h6, X6, e6, W6, V6_b1, st6⟩ := own_stB X5 hx hZ e5 V5_b1 (j := (4 : Int32)) 4 (by decide) (by decide) (by decide) (g := (mkF m 41 #[.val (.int p0)] [(.int (p0 + (148 : Int32)).toInt8.toInt32), (.int (4 : Int32)), (.ref b1), (.ref b1)])) rfl rfl (hb hby d1_41)
  have K6 := K5.wr W6 (Or.inr sz_b1)
  have N6 := Fr.snoc X6 N5 g_b1
  refine hp st6 ?_
  show G T6 (mkF m 42 #[.val (.int p0)] [(.ref b1)])
  refine hp (fun tq kq => XS.dup X6.here hx rfl (hb hby d1_42) rfl rfl kq) ?_
  show G T6 (mkF m 43 #[.val (.int p0)] [(.ref b1), (.ref b1)])
  refine hp (fun tq kq => XS.iconst X6.here hx rfl (hb hby d1_43) kq) ?_
  show G T6 (mkF m 44 #[.val (.int p0)] [(.int (5 : Int32)), (.ref b1), (.ref b1)])
  refine hp (fun tq kq => XS.iloadN X6.here hx rfl (hb hby d1_44) rfl kq) ?_
  show G T6 (mkF m 45 #[.val (.int p0)] [(.int p0), (.int (5 : Int32)), (.ref b1), (.ref b1)])
  refine hp (fun tq kq => XS.sipush X6.here hx rfl (hb hby d1_45) kq) ?_
  show G T6 (mkF m 48 #[.val (.int p0)] [(.int (185 : Int32)), (.int p0), (.int (5 : Int32)), (.ref b1), (.ref b1)])
  refine hp (fun tq kq => XS.iadd X6.here hx rfl (hb hby d1_48) rfl kq) ?_
  show G T6 (mkF m 49 #[.val (.int p0)] [(.int (p0 + (185 : Int32))), (.int (5 : Int32)), (.ref b1), (.ref b1)])
  refine hp (fun tq kq => XS.i2b X6.here hx rfl (hb hby d1_49) rfl kq) ?_
  show G T6 (mkF m 50 #[.val (.int p0)] [(.int (p0 + (185 : Int32)).toInt8.toInt32), (.int (5 : Int32)), (.ref b1), (.ref b1)])
  obtain ⟨T7, h7, X7, e7, W7, V7_b1, st7⟩ := own_stB X6 hx hZ e6 V6_b1 (j := (5 : Int32)) 5 (by decide) (by decide) (by decide) (g := (mkF m 50 #[.val (.int p0)] [(.int (p0 + (185 : Int32)).toInt8.toInt32), (.int (5 : Int32)), (.ref b1), (.ref b1)])) rfl rfl (hb hby d1_50)
  have K7 := K6.wr W7 (Or.inr sz_b1)
  have N7 := Fr.snoc X7 N6 g_b1
  refine hp st7 ?_
  show G T7 (mkF m 51 #[.val (.int p0)] [(.ref b1)])
  refine hp (fun tq kq => XS.dup X7.here hx rfl (hb hby d1_51) rfl rfl kq) ?_
  show G T7 (mkF m 52 #[.val (.int p0)] [(.ref b1), (.ref b1)])
  refine hp (fun tq kq => XS.bipush X7.here hx rfl (hb hby d1_52) kq) ?_
  show G T7 (mkF m 54 #[.val (.int p0)] [(.int (6 : Int32)), (.ref b1), (.ref b1)])
  refine hp (fun tq kq => XS.iloadN X7.here hx rfl (hb hby d1_54) rfl kq) ?_
  show G T7 (mkF m 55 #[.val (.int p0)] [(.int p0), (.int (6 : Int32)), (.ref b1), (.ref b1)])
  refine hp (fun tq kq => XS.sipush X7.here hx rfl (hb hby d1_55) kq) ?_
  show G T7 (mkF m 58 #[.val (.int p0)] [(.int (222 : Int32)), (.int p0), (.int (6 : Int32)), (.ref b1), (.ref b1)])
  refine hp (fun tq kq => XS.iadd X7.here hx rfl (hb hby d1_58) rfl kq) ?_
  show G T7 (mkF m 59 #[.val (.int p0)] [(.int (p0 + (222 : Int32))), (.int (6 : Int32)), (.ref b1), (.ref b1)])
  refine hp (fun tq kq => XS.i2b X7.here hx rfl (hb hby d1_59) rfl kq) ?_
  show G T7 (mkF m 60 #[.val (.int p0)] [(.int (p0 + (222 : Int32)).toInt8.toInt32), (.int (6 : Int32)), (.ref b1), (.ref b1)])
  obtain ⟨T8, h8, X8, e8, W8, V8_b1, st8⟩ := own_stB X7 hx hZ e7 V7_b1 (j := (6 : Int32)) 6 (by decide) (by decide) (by decide) (g := (mkF m 60 #[.val (.int p0)] [(.int (p0 + (222 : Int32)).toInt8.toInt32), (.int (6 : Int32)), (.ref b1), (.ref b1)])) rfl rfl (hb hby d1_60)
  have K8 := K7.wr W8 (Or.inr sz_b1)
  have N8 := Fr.snoc X8 N7 g_b1
  refine hp st8 ?_
  show G T8 (mkF m 61 #[.val (.int p0)] [(.ref b1)])
  refine hp (fun tq kq => XS.dup X8.here hx rfl (hb hby d1_61) rfl rfl kq) ?_
  show G T8 (mkF m 62 #[.val (.int p0)] [(.ref b1), (.ref b1)])
  refine hp (fun tq kq => XS.bipush X8.here hx rfl (hb hby d1_62) kq) ?_
  show G T8 (mkF m 64 #[.val (.int p0)] [(.int (7 : Int32)), (.ref b1), (.ref b1)])
  refine hp (fun tq kq => XS.iloadN X8.here hx rfl (hb hby d1_64) rfl kq) ?_
  show G T8 (mkF m 65 #[.val (.int p0)] [(.int p0), (.int (7 : Int32)), (.ref b1), (.ref b1)])
  refine hp (fun tq kq => XS.sipush X8.here hx rfl (hb hby d1_65) kq) ?_
  show G T8 (mkF m 68 #[.val (.int p0)] [(.int (259 : Int32)), (.int p0), (.int (7 : Int32)), (.ref b1), (.ref b1)])
  refine hp (fun tq kq => XS.iadd X8.here hx rfl (hb hby d1_68) rfl kq) ?_
  show G T8 (mkF m 69 #[.val (.int p0)] [(.int (p0 + (259 : Int32))), (.int (7 : Int32)), (.ref b1), (.ref b1)])
  refine hp (fun tq kq => XS.i2b X8.here hx rfl (hb hby d1_69) rfl kq) ?_
  show G T8 (mkF m 70 #[.val (.int p0)] [(.int (p0 + (259 : Int32)).toInt8.toInt32), (.int (7 : Int32)), (.ref b1), (.ref b1)])
  obtain ⟨T9, h9, X9, e9, W9, V9_b1, st9⟩ := own_stB X8 hx hZ e8 V8_b1 (j := (7 : Int32)) 7 (by decide) (by decide) (by decide) (g := (mkF m 70 #[.val (.int p0)] [(.int (p0 + (259 : Int32)).toInt8.toInt32), (.int (7 : Int32)), (.ref b1), (.ref b1)])) rfl rfl (hb hby d1_70)
  have K9 := K8.wr W9 (Or.inr sz_b1)
  have N9 := Fr.snoc X9 N8 g_b1
  refine hp st9 ?_
  show G T9 (mkF m 71 #[.val (.int p0)] [(.ref b1)])
  refine hp (fun tq kq => XS.dup X9.here hx rfl (hb hby d1_71) rfl rfl kq) ?_
  show G T9 (mkF m 72 #[.val (.int p0)] [(.ref b1), (.ref b1)])
  refine hp (fun tq kq => XS.bipush X9.here hx rfl (hb hby d1_72) kq) ?_
  show G T9 (mkF m 74 #[.val (.int p0)] [(.int (8 : Int32)), (.ref b1), (.ref b1)])
  refine hp (fun tq kq => XS.iloadN X9.here hx rfl (hb hby d1_74) rfl kq) ?_
  show G T9 (mkF m 75 #[.val (.int p0)] [(.int p0), (.int (8 : Int32)), (.ref b1), (.ref b1)])
  refine hp (fun tq kq => XS.sipush X9.here hx rfl (hb hby d1_75) kq) ?_
  show G T9 (mkF m 78 #[.val (.int p0)] [(.int (296 : Int32)), (.int p0), (.int (8 : Int32)), (.ref b1), (.ref b1)])
  refine hp (fun tq kq => XS.iadd X9.here hx rfl (hb hby d1_78) rfl kq) ?_
  show G T9 (mkF m 79 #[.val (.int p0)] [(.int (p0 + (296 : Int32))), (.int (8 : Int32)), (.ref b1), (.ref b1)])
  refine hp (fun tq kq => XS.i2b X9.here hx rfl (hb hby d1_79) rfl kq) ?_
  show G T9 (mkF m 80 #[.val (.int p0)] [(.int (p0 + (296 : Int32)).toInt8.toInt32), (.int (8 : Int32)), (.ref b1), (.ref b1)])
  obtain ⟨T10, h10, X10, e10, W10, V10_b1, st10⟩ := own_stB X9 hx hZ e9 V9_b1 (j := (8 : Int32)) 8 (by decide) (by decide) (by decide) (g := (mkF m 80 #[.val (.int p0)] [(.int (p0 + (296 : Int32)).toInt8.toInt32), (.int (8 : Int32)), (.ref b1), (.ref b1)])) rfl rfl (hb hby d1_80)
  have K10 := K9.wr W10 (Or.inr sz_b1)
  have N10 := Fr.snoc X10 N9 g_b1
  refine hp st10 ?_
  show G T10 (mkF m 81 #[.val (.int p0)] [(.ref b1)])
  refine hp (fun tq kq => XS.dup X10.here hx rfl (hb hby d1_81) rfl rfl kq) ?_
  show G T10 (mkF m 82 #[.val (.int p0)] [(.ref b1), (.ref b1)])
  refine hp (fun tq kq => XS.bipush X10.here hx rfl (hb hby d1_82) kq) ?_
  show G T10 (mkF m 84 #[.val (.int p0)] [(.int (9 : Int32)), (.ref b1), (.ref b1)])
  refine hp (fun tq kq => XS.iloadN X10.here hx rfl (hb hby d1_84) rfl kq) ?_
  show G T10 (mkF m 85 #[.val (.int p0)] [(.int p0), (.int (9 : Int32)), (.ref b1), (.ref b1)])
  refine hp (fun tq kq => XS.sipush X10.here hx rfl (hb hby d1_85) kq) ?_
  show G T10 (mkF m 88 #[.val (.int p0)] [(.int (333 : Int32)), (.int p0), (.int (9 : Int32)), (.ref b1), (.ref b1)])
  refine hp (fun tq kq => XS.iadd X10.here hx rfl (hb hby d1_88) rfl kq) ?_
  show G T10 (mkF m 89 #[.val (.int p0)] [(.int (p0 + (333 : Int32))), (.int (9 : Int32)), (.ref b1), (.ref b1)])
  refine hp (fun tq kq => XS.i2b X10.here hx rfl (hb hby d1_89) rfl kq) ?_
  show G T10 (mkF m 90 #[.val (.int p0)] [(.int (p0 + (333 : Int32)).toInt8.toInt32), (.int (9 : Int32)), (.ref b1), (.ref b1)])
  obtain ⟨T11, h11, X11, e11, W11, V11_b1, st11⟩ := own_stB X10 hx hZ e10 V10_b1 (j := (9 : Int32)) 9 (by decide) (by decide) (by decide) (g := (mkF m 90 #[.val (.int p0)] [(.int (p0 + (333 : Int32)).toInt8.toInt32), (.int (9 : Int32)), (.ref b1), (.ref b1)])) rfl rfl (hb hby d1_90)
  have K11 := K10.wr W11 (Or.inr sz_b1)
  have N11 := Fr.snoc X11 N10 g_b1
  refine hp st11 ?_
  show G T11 (mkF m 91 #[.val (.int p0)] [(.ref b1)])
  refine hp (fun tq kq => XS.dup X11.here hx rfl (hb hby d1_91) rfl rfl kq) ?_
  show G T11 (mkF m 92 #[.val (.int p0)] [(.ref b1), (.ref b1)])
  refine hp (fun tq kq => XS.bipush X11.here hx rfl (hb hby d1_92) kq) ?_
  show G T11 (mkF m 94 #[.val (.int p0)] [(.int (10 : Int32)), (.ref b1), (.ref b1)])
  refine hp (fun tq kq => XS.iloadN X11.here hx rfl (hb hby d1_94) rfl kq) ?_
  show G T11 (mkF m 95 #[.val (.int p0)] [(.int p0), (.int (10 : Int32)), (.ref b1), (.ref b1)])
  refine hp (fun tq kq => XS.sipush X11.here hx rfl (hb hby d1_95) kq) ?_
  show G T11 (mkF m 98 #[.val (.int p0)] [(.int (370 : Int32)), (.int p0), (.int (10 : Int32)), (.ref b1), (.ref b1)])
  refine hp (fun tq kq => XS.iadd X11.here hx rfl (hb hby d1_98) rfl kq) ?_
  show G T11 (mkF m 99 #[.val (.int p0)] [(.int (p0 + (370 : Int32))), (.int (10 : Int32)), (.ref b1), (.ref b1)])
  refine hp (fun tq kq => XS.i2b X11.here hx rfl (hb hby d1_99) rfl kq) ?_
  show G T11 (mkF m 100 #[.val (.int p0)] [(.int (p0 + (370 : Int32)).toInt8.toInt32), (.int (10 : Int32)), (.ref b1), (.ref b1)])
  obtain ⟨T12, h12, X12, e12, W12, V12_b1, st12⟩ := own_stB X11 hx hZ e11 V11_b1 (j := (10 : Int32)) 10 (by decide) (by decide) (by decide) (g := (mkF m 100 #[.val (.int p0)] [(.int (p0 + (370 : Int32)).toInt8.toInt32), (.int (10 : Int32)), (.ref b1), (.ref b1)])) rfl rfl (hb hby d1_100)
  have K12 := K11.wr W12 (Or.inr sz_b1)
  have N12 := Fr.snoc X12 N11 g_b1
  refine hp st12 ?_
  show G T12 (mkF m 101 #[.val (.int p0)] [(.ref b1)])
  refine hp (fun tq kq => XS.dup X12.here hx rfl (hb hby d1_101) rfl rfl kq) ?_
  show G T12 (mkF m 102 #[.val (.int p0)] [(.ref b1), (.ref b1)])
  refine hp (fun tq kq => XS.bipush X12.here hx rfl (hb hby d1_102) kq) ?_
  show G T12 (mkF m 104 #[.val (.int p0)] [(.int (11 : Int32)), (.ref b1), (.ref b1)])
  refine hp (fun tq kq => XS.iloadN X12.here hx rfl (hb hby d1_104) rfl kq) ?_
  show G T12 (mkF m 105 #[.val (.int p0)] [(.int p0), (.int (11 : Int32)), (.ref b1), (.ref b1)])
  refine hp (fun tq kq => XS.sipush X12.here hx rfl (hb hby d1_105) kq) ?_
  show G T12 (mkF m 108 #[.val (.int p0)] [(.int (407 : Int32)), (.int p0), (.int (11 : Int32)), (.ref b1), (.ref b1)])
  refine hp (fun tq kq => XS.iadd X12.here hx rfl (hb hby d1_108) rfl kq) ?_
  show G T12 (mkF m 109 #[.val (.int p0)] [(.int (p0 + (407 : Int32))), (.int (11 : Int32)), (.ref b1), (.ref b1)])
  refine hp (fun tq kq => XS.i2b X12.here hx rfl (hb hby d1_109) rfl kq) ?_
  show G T12 (mkF m 110 #[.val (.int p0)] [(.int (p0 + (407 : Int32)).toInt8.toInt32), (.int (11 : Int32)), (.ref b1), (.ref b1)])
  obtain ⟨T13, h13, X13, e13, W13, V13_b1, st13⟩ := own_stB X12 hx hZ e12 V12_b1 (j := (11 : Int32)) 11 (by decide) (by decide) (by decide) (g := (mkF m 110 #[.val (.int p0)] [(.int (p0 + (407 : Int32)).toInt8.toInt32), (.int (11 : Int32)), (.ref b1), (.ref b1)])) rfl rfl (hb hby d1_110)
  have K13 := K12.wr W13 (Or.inr sz_b1)
  have N13 := Fr.snoc X13 N12 g_b1
  refine hp st13 ?_
  show G T13 (mkF m 111 #[.val (.int p0)] [(.ref b1)])
  exact hR X13 (fun fs hl => own_retA X13 hx hret rfl (hb hby d1_111) hl) (fun q => by rw [hret] at q; cases q) (by rw [e13]; exact ⟨b1, rfl, N13, K13, sz_b1, V13_b1⟩) (by decide) (by decide)
theorem own_ix {x : Int32} {s0 : Nat} (hs : x.toInt = (s0 : Int) ∧ s0 ≤ 4) (k : Nat) (hk : k ≤ 7) : (x + Int32.ofNat k).toNatClampNeg = s0 + k ∧ ¬ (x + Int32.ofNat k) < 0 ∧ s0 + k < 12 := by
  have h1 := c_iadd x (Int32.ofNat k)
  have h2 : (Int32.ofNat k).toInt = (k : Int) := Int32.toInt_ofNat_of_lt (by omega)
  have h3 := rng32 (x + Int32.ofNat k)
  have h0 : (0 : Int32).toInt = 0 := by decide
  rw [Int32.lt_iff_toInt_lt, h0, Int32.toNatClampNeg]
  omega
def own_wr (f : Nat → Int32) (s0 : Nat) (p2 : Int64) : Nat → Int32 := (own_up (own_up (own_up (own_up (own_up (own_up (own_up (own_up f (s0 + 0) ((p2.toUInt64 >>> ((0 : Int32) &&& 0x3f).toInt64.toUInt64).toInt64).toInt32.toInt8.toInt32.toInt8.toInt32) (s0 + 1) ((p2.toUInt64 >>> ((8 : Int32) &&& 0x3f).toInt64.toUInt64).toInt64).toInt32.toInt8.toInt32.toInt8.toInt32) (s0 + 2) ((p2.toUInt64 >>> ((16 : Int32) &&& 0x3f).toInt64.toUInt64).toInt64).toInt32.toInt8.toInt32.toInt8.toInt32) (s0 + 3) ((p2.toUInt64 >>> ((24 : Int32) &&& 0x3f).toInt64.toUInt64).toInt64).toInt32.toInt8.toInt32.toInt8.toInt32) (s0 + 4) ((p2.toUInt64 >>> ((32 : Int32) &&& 0x3f).toInt64.toUInt64).toInt64).toInt32.toInt8.toInt32.toInt8.toInt32) (s0 + 5) ((p2.toUInt64 >>> ((40 : Int32) &&& 0x3f).toInt64.toUInt64).toInt64).toInt32.toInt8.toInt32.toInt8.toInt32) (s0 + 6) ((p2.toUInt64 >>> ((48 : Int32) &&& 0x3f).toInt64.toUInt64).toInt64).toInt32.toInt8.toInt32.toInt8.toInt32) (s0 + 7) ((p2.toUInt64 >>> ((56 : Int32) &&& 0x3f).toInt64.toUInt64).toInt64).toInt32.toInt8.toInt32.toInt8.toInt32)
abbrev own_Q2 (Z : State) (p0 : Addr) (s0 : Nat) (p2 : Int64) (f : Nat → Int32) (h0 : Heap) (n0 : Nat) (v : Option Value) (h : Heap) (L : List Loc) : Prop := v = none ∧ Fr n0 L ∧ Keep h0 h [p0] ∧ own_AI Z h p0 .byte 12 (own_wr f s0 p2)
theorem d2_0 : decode prog_51_method_6_code 0 = .ok (.iconst 0, 1) := by decide +kernel
theorem d2_1 : decode prog_51_method_6_code 1 = .ok (.istore 4, 2) := by decide +kernel
theorem d2_3 : decode prog_51_method_6_code 3 = .ok (.iload 4, 2) := by decide +kernel
theorem d2_5 : decode prog_51_method_6_code 5 = .ok (.bipush 8, 2) := by decide +kernel
theorem d2_7 : decode prog_51_method_6_code 7 = .ok (.if_icmp .ge 24, 3) := by decide +kernel
theorem d2_10 : decode prog_51_method_6_code 10 = .ok (.aload_n 0, 1) := by decide +kernel
theorem d2_11 : decode prog_51_method_6_code 11 = .ok (.iload_n 1, 1) := by decide +kernel
theorem d2_12 : decode prog_51_method_6_code 12 = .ok (.iload 4, 2) := by decide +kernel
theorem d2_14 : decode prog_51_method_6_code 14 = .ok (.iadd, 1) := by decide +kernel
theorem d2_15 : decode prog_51_method_6_code 15 = .ok (.lload_n 2, 1) := by decide +kernel
theorem d2_16 : decode prog_51_method_6_code 16 = .ok (.bipush 8, 2) := by decide +kernel
theorem d2_18 : decode prog_51_method_6_code 18 = .ok (.iload 4, 2) := by decide +kernel
theorem d2_20 : decode prog_51_method_6_code 20 = .ok (.imul, 1) := by decide +kernel
theorem d2_21 : decode prog_51_method_6_code 21 = .ok (.lushr, 1) := by decide +kernel
theorem d2_22 : decode prog_51_method_6_code 22 = .ok (.l2i, 1) := by decide +kernel
theorem d2_23 : decode prog_51_method_6_code 23 = .ok (.i2b, 1) := by decide +kernel
theorem d2_24 : decode prog_51_method_6_code 24 = .ok (.bastore, 1) := by decide +kernel
theorem d2_25 : decode prog_51_method_6_code 25 = .ok (.iinc 4 1, 3) := by decide +kernel
theorem d2_28 : decode prog_51_method_6_code 28 = .ok (.goto (-25), 3) := by decide +kernel
theorem d2_31 : decode prog_51_method_6_code 31 = .ok (.return_, 1) := by decide +kernel
theorem own_ef2 (m : MethodId) (p0 : Addr) (p1 : Int32) (p2 : Int64) : entryFrame m #[(.ref p0), (.int p1), (.long p2)] 5 = mkF m 0 #[.val (.ref p0), .val (.int p1), .val (.long p2), .second, .unset] [] := by first | (simp [entryFrame, mkF, argsToLocals, Value.category]; done) | rfl
theorem own_pn2 : plainName "com/example/lakebed/lakebed/core/parquet/LittleEndian" = true := by first | (simp [plainName, overriddenIn]; done) | decide +kernel
set_option maxRecDepth 65536 in
set_option maxHeartbeats 40000000 in
theorem rm2 (l : Launch) (Z : State) (a0 : Array Value) (hw : ∀ d ∈ tables_1, d.before a0 Z = true) (ws : List Jvm.Cond) (p0 : Addr) (p1 : Int32) (p2 : Int64) (s0 : Nat) (f : Nat → Int32) (h0 : Heap) (n0 : Nat) (hs : p1.toInt = (s0 : Int) ∧ s0 ≤ 4) (V_p0 : own_AI Z h0 p0 .byte 12 f) (g_p0 : n0 ≤ p0) :
    MetFree l (⟨"com/example/lakebed/lakebed/core/parquet/LittleEndian", "writeLong", "([BIJ)V"⟩ : MethodName) (head1 (Jvm.Cond.code (⟨"com/example/lakebed/lakebed/core/parquet/LittleEndian", "writeLong", "([BIJ)V"⟩ : MethodName) prog_51_method_6_code 5 none :: ws) ({ frames := 0, cells := 0, slots := 0, locals := 0 } : Room)) (fun a U => a = #[(.ref p0), (.int p1), (.long p2)] ∧ Z.Warmed39 U.vm ∧ U.heap = h0) (fun _ _ _ _ _ => True) (fun _ U o U' => ∃ v L, o = .returned v ∧ own_Q2 Z p0 s0 p2 f h0 n0 v U'.heap L ∧ FrameEnd U o U' L ({ frames := 0, cells := 0, slots := 0, locals := 0 } : Room).cells ({ frames := 0, cells := 0, slots := 0, locals := 0 } : Room).slots) := by
  refine own_contract (plainFor_of_name own_pn2) (fun m => own_ef2 m p0 p1 p2) ?_
  intro p e s m below meth c s₁ G hx hby hml0 hown0 hnm hret hZ X0 e0 hp hR
  have hml : c.maxLocals = 5 := hml0
  have hown : s.vm.findClass "com/example/lakebed/lakebed/core/parquet/LittleEndian" = some m.cls := hown0
  have N0 := Fr.nil n0
  show G s₁ (mkF m 0 #[.val (.ref p0), .val (.int p1), .val (.long p2), .second, .unset] [])
  have K0 : Keep h0 h0 [p0] := Keep.refl _ _
  refine hp (fun tq kq => XS.iconst X0.here hx rfl (hb hby d2_0) kq) ?_
  show G s₁ (mkF m 1 #[.val (.ref p0), .val (.int p1), .val (.long p2), .second, .unset] [(.int (0 : Int32))])
  refine hp (fun tq kq => XS.istore X0.here hx rfl (hb hby d2_1) rfl (l' := #[.val (.ref p0), .val (.int p1), .val (.long p2), .second, .val (.int (0 : Int32))]) rfl kq) ?_
  show G s₁ (mkF m 3 #[.val (.ref p0), .val (.int p1), .val (.long p2), .second, .val (.int (0 : Int32))] [])
  refine hp (fun tq kq => XS.iload X0.here hx rfl (hb hby d2_3) rfl kq) ?_
  show G s₁ (mkF m 5 #[.val (.ref p0), .val (.int p1), .val (.long p2), .second, .val (.int (0 : Int32))] [(.int (0 : Int32))])
  refine hp (fun tq kq => XS.bipush X0.here hx rfl (hb hby d2_5) kq) ?_
  show G s₁ (mkF m 7 #[.val (.ref p0), .val (.int p1), .val (.long p2), .second, .val (.int (0 : Int32))] [(.int (8 : Int32)), (.int (0 : Int32))])
  refine hp (fun tq kq => XS.icmpNo X0.here hx rfl (hb hby d2_7) rfl (tlt (by decide)).2.1 kq) ?_
  show G s₁ (mkF m 10 #[.val (.ref p0), .val (.int p1), .val (.long p2), .second, .val (.int (0 : Int32))] [])
  refine hp (fun tq kq => XS.aloadN X0.here hx rfl (hb hby d2_10) rfl rfl kq) ?_
  show G s₁ (mkF m 11 #[.val (.ref p0), .val (.int p1), .val (.long p2), .second, .val (.int (0 : Int32))] [(.ref p0)])
  refine hp (fun tq kq => XS.iloadN X0.here hx rfl (hb hby d2_11) rfl kq) ?_
  show G s₁ (mkF m 12 #[.val (.ref p0), .val (.int p1), .val (.long p2), .second, .val (.int (0 : Int32))] [(.int p1), (.ref p0)])
  refine hp (fun tq kq => XS.iload X0.here hx rfl (hb hby d2_12) rfl kq) ?_
  show G s₁ (mkF m 14 #[.val (.ref p0), .val (.int p1), .val (.long p2), .second, .val (.int (0 : Int32))] [(.int (0 : Int32)), (.int p1), (.ref p0)])
  refine hp (fun tq kq => XS.iadd X0.here hx rfl (hb hby d2_14) rfl kq) ?_
  show G s₁ (mkF m 15 #[.val (.ref p0), .val (.int p1), .val (.long p2), .second, .val (.int (0 : Int32))] [(.int (p1 + (0 : Int32))), (.ref p0)])
  refine hp (fun tq kq => XS.lloadN X0.here hx rfl (hb hby d2_15) rfl kq) ?_
  show G s₁ (mkF m 16 #[.val (.ref p0), .val (.int p1), .val (.long p2), .second, .val (.int (0 : Int32))] [(.long p2), (.int (p1 + (0 : Int32))), (.ref p0)])
  refine hp (fun tq kq => XS.bipush X0.here hx rfl (hb hby d2_16) kq) ?_
  show G s₁ (mkF m 18 #[.val (.ref p0), .val (.int p1), .val (.long p2), .second, .val (.int (0 : Int32))] [(.int (8 : Int32)), (.long p2), (.int (p1 + (0 : Int32))), (.ref p0)])
  refine hp (fun tq kq => XS.iload X0.here hx rfl (hb hby d2_18) rfl kq) ?_
  show G s₁ (mkF m 20 #[.val (.ref p0), .val (.int p1), .val (.long p2), .second, .val (.int (0 : Int32))] [(.int (0 : Int32)), (.int (8 : Int32)), (.long p2), (.int (p1 + (0 : Int32))), (.ref p0)])
  refine hp (fun tq kq => XS.imul X0.here hx rfl (hb hby d2_20) rfl kq) ?_
  show G s₁ (mkF m 21 #[.val (.ref p0), .val (.int p1), .val (.long p2), .second, .val (.int (0 : Int32))] [(.int (0 : Int32)), (.long p2), (.int (p1 + (0 : Int32))), (.ref p0)])
  refine hp (fun tq kq => XS.lushr X0.here hx rfl (hb hby d2_21) rfl kq) ?_
  show G s₁ (mkF m 22 #[.val (.ref p0), .val (.int p1), .val (.long p2), .second, .val (.int (0 : Int32))] [(.long ((p2.toUInt64 >>> ((0 : Int32) &&& 0x3f).toInt64.toUInt64).toInt64)), (.int (p1 + (0 : Int32))), (.ref p0)])
  refine hp (fun tq kq => XS.l2i X0.here hx rfl (hb hby d2_22) rfl kq) ?_
  show G s₁ (mkF m 23 #[.val (.ref p0), .val (.int p1), .val (.long p2), .second, .val (.int (0 : Int32))] [(.int ((p2.toUInt64 >>> ((0 : Int32) &&& 0x3f).toInt64.toUInt64).toInt64).toInt32), (.int (p1 + (0 : Int32))), (.ref p0)])
  refine hp (fun tq kq => XS.i2b X0.here hx rfl (hb hby d2_23) rfl kq) ?_
  show G s₁ (mkF m 24 #[.val (.ref p0), .val (.int p1), .val (.long p2), .second, .val (.int (0 : Int32))] [(.int ((p2.toUInt64 >>> ((0 : Int32) &&& 0x3f).toInt64.toUInt64).toInt64).toInt32.toInt8.toInt32), (.int (p1 + (0 : Int32))), (.ref p0)])
  obtain ⟨T1, h1, X1, e1, W1, V1_p0, st1⟩ := own_stB X0 hx hZ e0 V_p0 (j := (p1 + (0 : Int32))) (s0 + 0) (own_ix hs 0 (by decide)).1 (own_ix hs 0 (by decide)).2.1 (own_ix hs 0 (by decide)).2.2 (g := (mkF m 24 #[.val (.ref p0), .val (.int p1), .val (.long p2), .second, .val (.int (0 : Int32))] [(.int ((p2.toUInt64 >>> ((0 : Int32) &&& 0x3f).toInt64.toUInt64).toInt64).toInt32.toInt8.toInt32), (.int (p1 + (0 : Int32))), (.ref p0)])) rfl rfl (hb hby d2_24)
  have K1 := K0.wr W1 (Or.inl (by simp))
  have N1 := Fr.snoc X1 N0 g_p0
  refine hp st1 ?_
  show G T1 (mkF m 25 #[.val (.ref p0), .val (.int p1), .val (.long p2), .second, .val (.int (0 : Int32))] [])
  refine hp (fun tq kq => XS.iinc X1.here hx rfl (hb hby d2_25) rfl (l' := #[.val (.ref p0), .val (.int p1), .val (.long p2), .second, .val (.int (1 : Int32))]) rfl kq) ?_
  show G T1 (mkF m 28 #[.val (.ref p0), .val (.int p1), .val (.long p2), .second, .val (.int (1 : Int32))] [])
  refine hp (fun tq kq => XS.goto X1.here hx rfl (pc0 := 28) (pc' := 3) rfl (hb hby d2_28) (by decide) (by decide) kq) ?_
  show G T1 (mkF m 3 #[.val (.ref p0), .val (.int p1), .val (.long p2), .second, .val (.int (1 : Int32))] [])
  refine hp (fun tq kq => XS.iload X1.here hx rfl (hb hby d2_3) rfl kq) ?_
  show G T1 (mkF m 5 #[.val (.ref p0), .val (.int p1), .val (.long p2), .second, .val (.int (1 : Int32))] [(.int (1 : Int32))])
  refine hp (fun tq kq => XS.bipush X1.here hx rfl (hb hby d2_5) kq) ?_
  show G T1 (mkF m 7 #[.val (.ref p0), .val (.int p1), .val (.long p2), .second, .val (.int (1 : Int32))] [(.int (8 : Int32)), (.int (1 : Int32))])
  refine hp (fun tq kq => XS.icmpNo X1.here hx rfl (hb hby d2_7) rfl (tlt (by decide)).2.1 kq) ?_
  show G T1 (mkF m 10 #[.val (.ref p0), .val (.int p1), .val (.long p2), .second, .val (.int (1 : Int32))] [])
  refine hp (fun tq kq => XS.aloadN X1.here hx rfl (hb hby d2_10) rfl rfl kq) ?_
  show G T1 (mkF m 11 #[.val (.ref p0), .val (.int p1), .val (.long p2), .second, .val (.int (1 : Int32))] [(.ref p0)])
  refine hp (fun tq kq => XS.iloadN X1.here hx rfl (hb hby d2_11) rfl kq) ?_
  show G T1 (mkF m 12 #[.val (.ref p0), .val (.int p1), .val (.long p2), .second, .val (.int (1 : Int32))] [(.int p1), (.ref p0)])
  refine hp (fun tq kq => XS.iload X1.here hx rfl (hb hby d2_12) rfl kq) ?_
  show G T1 (mkF m 14 #[.val (.ref p0), .val (.int p1), .val (.long p2), .second, .val (.int (1 : Int32))] [(.int (1 : Int32)), (.int p1), (.ref p0)])
  refine hp (fun tq kq => XS.iadd X1.here hx rfl (hb hby d2_14) rfl kq) ?_
  show G T1 (mkF m 15 #[.val (.ref p0), .val (.int p1), .val (.long p2), .second, .val (.int (1 : Int32))] [(.int (p1 + (1 : Int32))), (.ref p0)])
  refine hp (fun tq kq => XS.lloadN X1.here hx rfl (hb hby d2_15) rfl kq) ?_
  show G T1 (mkF m 16 #[.val (.ref p0), .val (.int p1), .val (.long p2), .second, .val (.int (1 : Int32))] [(.long p2), (.int (p1 + (1 : Int32))), (.ref p0)])
  refine hp (fun tq kq => XS.bipush X1.here hx rfl (hb hby d2_16) kq) ?_
  show G T1 (mkF m 18 #[.val (.ref p0), .val (.int p1), .val (.long p2), .second, .val (.int (1 : Int32))] [(.int (8 : Int32)), (.long p2), (.int (p1 + (1 : Int32))), (.ref p0)])
  refine hp (fun tq kq => XS.iload X1.here hx rfl (hb hby d2_18) rfl kq) ?_
  show G T1 (mkF m 20 #[.val (.ref p0), .val (.int p1), .val (.long p2), .second, .val (.int (1 : Int32))] [(.int (1 : Int32)), (.int (8 : Int32)), (.long p2), (.int (p1 + (1 : Int32))), (.ref p0)])
  refine hp (fun tq kq => XS.imul X1.here hx rfl (hb hby d2_20) rfl kq) ?_
  show G T1 (mkF m 21 #[.val (.ref p0), .val (.int p1), .val (.long p2), .second, .val (.int (1 : Int32))] [(.int (8 : Int32)), (.long p2), (.int (p1 + (1 : Int32))), (.ref p0)])
  refine hp (fun tq kq => XS.lushr X1.here hx rfl (hb hby d2_21) rfl kq) ?_
  show G T1 (mkF m 22 #[.val (.ref p0), .val (.int p1), .val (.long p2), .second, .val (.int (1 : Int32))] [(.long ((p2.toUInt64 >>> ((8 : Int32) &&& 0x3f).toInt64.toUInt64).toInt64)), (.int (p1 + (1 : Int32))), (.ref p0)])
  refine hp (fun tq kq => XS.l2i X1.here hx rfl (hb hby d2_22) rfl kq) ?_
  show G T1 (mkF m 23 #[.val (.ref p0), .val (.int p1), .val (.long p2), .second, .val (.int (1 : Int32))] [(.int ((p2.toUInt64 >>> ((8 : Int32) &&& 0x3f).toInt64.toUInt64).toInt64).toInt32), (.int (p1 + (1 : Int32))), (.ref p0)])
  refine hp (fun tq kq => XS.i2b X1.here hx rfl (hb hby d2_23) rfl kq) ?_
  show G T1 (mkF m 24 #[.val (.ref p0), .val (.int p1), .val (.long p2), .second, .val (.int (1 : Int32))] [(.int ((p2.toUInt64 >>> ((8 : Int32) &&& 0x3f).toInt64.toUInt64).toInt64).toInt32.toInt8.toInt32), (.int (p1 + (1 : Int32))), (.ref p0)])
  obtain ⟨T2, h2, X2, e2, W2, V2_p0, st2⟩ := own_stB X1 hx hZ e1 V1_p0 (j := (p1 + (1 : Int32))) (s0 + 1) (own_ix hs 1 (by decide)).1 (own_ix hs 1 (by decide)).2.1 (own_ix hs 1 (by decide)).2.2 (g := (mkF m 24 #[.val (.ref p0), .val (.int p1), .val (.long p2), .second, .val (.int (1 : Int32))] [(.int ((p2.toUInt64 >>> ((8 : Int32) &&& 0x3f).toInt64.toUInt64).toInt64).toInt32.toInt8.toInt32), (.int (p1 + (1 : Int32))), (.ref p0)])) rfl rfl (hb hby d2_24)
  have K2 := K1.wr W2 (Or.inl (by simp))
  have N2 := Fr.snoc X2 N1 g_p0
  refine hp st2 ?_
  show G T2 (mkF m 25 #[.val (.ref p0), .val (.int p1), .val (.long p2), .second, .val (.int (1 : Int32))] [])
  refine hp (fun tq kq => XS.iinc X2.here hx rfl (hb hby d2_25) rfl (l' := #[.val (.ref p0), .val (.int p1), .val (.long p2), .second, .val (.int (2 : Int32))]) rfl kq) ?_
  show G T2 (mkF m 28 #[.val (.ref p0), .val (.int p1), .val (.long p2), .second, .val (.int (2 : Int32))] [])
  refine hp (fun tq kq => XS.goto X2.here hx rfl (pc0 := 28) (pc' := 3) rfl (hb hby d2_28) (by decide) (by decide) kq) ?_
  show G T2 (mkF m 3 #[.val (.ref p0), .val (.int p1), .val (.long p2), .second, .val (.int (2 : Int32))] [])
  refine hp (fun tq kq => XS.iload X2.here hx rfl (hb hby d2_3) rfl kq) ?_
  show G T2 (mkF m 5 #[.val (.ref p0), .val (.int p1), .val (.long p2), .second, .val (.int (2 : Int32))] [(.int (2 : Int32))])
  refine hp (fun tq kq => XS.bipush X2.here hx rfl (hb hby d2_5) kq) ?_
  show G T2 (mkF m 7 #[.val (.ref p0), .val (.int p1), .val (.long p2), .second, .val (.int (2 : Int32))] [(.int (8 : Int32)), (.int (2 : Int32))])
  refine hp (fun tq kq => XS.icmpNo X2.here hx rfl (hb hby d2_7) rfl (tlt (by decide)).2.1 kq) ?_
  show G T2 (mkF m 10 #[.val (.ref p0), .val (.int p1), .val (.long p2), .second, .val (.int (2 : Int32))] [])
  refine hp (fun tq kq => XS.aloadN X2.here hx rfl (hb hby d2_10) rfl rfl kq) ?_
  show G T2 (mkF m 11 #[.val (.ref p0), .val (.int p1), .val (.long p2), .second, .val (.int (2 : Int32))] [(.ref p0)])
  refine hp (fun tq kq => XS.iloadN X2.here hx rfl (hb hby d2_11) rfl kq) ?_
  show G T2 (mkF m 12 #[.val (.ref p0), .val (.int p1), .val (.long p2), .second, .val (.int (2 : Int32))] [(.int p1), (.ref p0)])
  refine hp (fun tq kq => XS.iload X2.here hx rfl (hb hby d2_12) rfl kq) ?_
  show G T2 (mkF m 14 #[.val (.ref p0), .val (.int p1), .val (.long p2), .second, .val (.int (2 : Int32))] [(.int (2 : Int32)), (.int p1), (.ref p0)])
  refine hp (fun tq kq => XS.iadd X2.here hx rfl (hb hby d2_14) rfl kq) ?_
  show G T2 (mkF m 15 #[.val (.ref p0), .val (.int p1), .val (.long p2), .second, .val (.int (2 : Int32))] [(.int (p1 + (2 : Int32))), (.ref p0)])
  refine hp (fun tq kq => XS.lloadN X2.here hx rfl (hb hby d2_15) rfl kq) ?_
  show G T2 (mkF m 16 #[.val (.ref p0), .val (.int p1), .val (.long p2), .second, .val (.int (2 : Int32))] [(.long p2), (.int (p1 + (2 : Int32))), (.ref p0)])
  refine hp (fun tq kq => XS.bipush X2.here hx rfl (hb hby d2_16) kq) ?_
  show G T2 (mkF m 18 #[.val (.ref p0), .val (.int p1), .val (.long p2), .second, .val (.int (2 : Int32))] [(.int (8 : Int32)), (.long p2), (.int (p1 + (2 : Int32))), (.ref p0)])
  refine hp (fun tq kq => XS.iload X2.here hx rfl (hb hby d2_18) rfl kq) ?_
  show G T2 (mkF m 20 #[.val (.ref p0), .val (.int p1), .val (.long p2), .second, .val (.int (2 : Int32))] [(.int (2 : Int32)), (.int (8 : Int32)), (.long p2), (.int (p1 + (2 : Int32))), (.ref p0)])
  refine hp (fun tq kq => XS.imul X2.here hx rfl (hb hby d2_20) rfl kq) ?_
  show G T2 (mkF m 21 #[.val (.ref p0), .val (.int p1), .val (.long p2), .second, .val (.int (2 : Int32))] [(.int (16 : Int32)), (.long p2), (.int (p1 + (2 : Int32))), (.ref p0)])
  refine hp (fun tq kq => XS.lushr X2.here hx rfl (hb hby d2_21) rfl kq) ?_
  show G T2 (mkF m 22 #[.val (.ref p0), .val (.int p1), .val (.long p2), .second, .val (.int (2 : Int32))] [(.long ((p2.toUInt64 >>> ((16 : Int32) &&& 0x3f).toInt64.toUInt64).toInt64)), (.int (p1 + (2 : Int32))), (.ref p0)])
  refine hp (fun tq kq => XS.l2i X2.here hx rfl (hb hby d2_22) rfl kq) ?_
  show G T2 (mkF m 23 #[.val (.ref p0), .val (.int p1), .val (.long p2), .second, .val (.int (2 : Int32))] [(.int ((p2.toUInt64 >>> ((16 : Int32) &&& 0x3f).toInt64.toUInt64).toInt64).toInt32), (.int (p1 + (2 : Int32))), (.ref p0)])
  refine hp (fun tq kq => XS.i2b X2.here hx rfl (hb hby d2_23) rfl kq) ?_
  show G T2 (mkF m 24 #[.val (.ref p0), .val (.int p1), .val (.long p2), .second, .val (.int (2 : Int32))] [(.int ((p2.toUInt64 >>> ((16 : Int32) &&& 0x3f).toInt64.toUInt64).toInt64).toInt32.toInt8.toInt32), (.int (p1 + (2 : Int32))), (.ref p0)])
  obtain ⟨T3, h3, X3, e3, W3, V3_p0, st3⟩ := own_stB X2 hx hZ e2 V2_p0 (j := (p1 + (2 : Int32))) (s0 + 2) (own_ix hs 2 (by decide)).1 (own_ix hs 2 (by decide)).2.1 (own_ix hs 2 (by decide)).2.2 (g := (mkF m 24 #[.val (.ref p0), .val (.int p1), .val (.long p2), .second, .val (.int (2 : Int32))] [(.int ((p2.toUInt64 >>> ((16 : Int32) &&& 0x3f).toInt64.toUInt64).toInt64).toInt32.toInt8.toInt32), (.int (p1 + (2 : Int32))), (.ref p0)])) rfl rfl (hb hby d2_24)
  have K3 := K2.wr W3 (Or.inl (by simp))
  have N3 := Fr.snoc X3 N2 g_p0
  refine hp st3 ?_
  show G T3 (mkF m 25 #[.val (.ref p0), .val (.int p1), .val (.long p2), .second, .val (.int (2 : Int32))] [])
  refine hp (fun tq kq => XS.iinc X3.here hx rfl (hb hby d2_25) rfl (l' := #[.val (.ref p0), .val (.int p1), .val (.long p2), .second, .val (.int (3 : Int32))]) rfl kq) ?_
  show G T3 (mkF m 28 #[.val (.ref p0), .val (.int p1), .val (.long p2), .second, .val (.int (3 : Int32))] [])
  refine hp (fun tq kq => XS.goto X3.here hx rfl (pc0 := 28) (pc' := 3) rfl (hb hby d2_28) (by decide) (by decide) kq) ?_
  show G T3 (mkF m 3 #[.val (.ref p0), .val (.int p1), .val (.long p2), .second, .val (.int (3 : Int32))] [])
  refine hp (fun tq kq => XS.iload X3.here hx rfl (hb hby d2_3) rfl kq) ?_
  show G T3 (mkF m 5 #[.val (.ref p0), .val (.int p1), .val (.long p2), .second, .val (.int (3 : Int32))] [(.int (3 : Int32))])
  refine hp (fun tq kq => XS.bipush X3.here hx rfl (hb hby d2_5) kq) ?_
  show G T3 (mkF m 7 #[.val (.ref p0), .val (.int p1), .val (.long p2), .second, .val (.int (3 : Int32))] [(.int (8 : Int32)), (.int (3 : Int32))])
  refine hp (fun tq kq => XS.icmpNo X3.here hx rfl (hb hby d2_7) rfl (tlt (by decide)).2.1 kq) ?_
  show G T3 (mkF m 10 #[.val (.ref p0), .val (.int p1), .val (.long p2), .second, .val (.int (3 : Int32))] [])
  refine hp (fun tq kq => XS.aloadN X3.here hx rfl (hb hby d2_10) rfl rfl kq) ?_
  show G T3 (mkF m 11 #[.val (.ref p0), .val (.int p1), .val (.long p2), .second, .val (.int (3 : Int32))] [(.ref p0)])
  refine hp (fun tq kq => XS.iloadN X3.here hx rfl (hb hby d2_11) rfl kq) ?_
  show G T3 (mkF m 12 #[.val (.ref p0), .val (.int p1), .val (.long p2), .second, .val (.int (3 : Int32))] [(.int p1), (.ref p0)])
  refine hp (fun tq kq => XS.iload X3.here hx rfl (hb hby d2_12) rfl kq) ?_
  show G T3 (mkF m 14 #[.val (.ref p0), .val (.int p1), .val (.long p2), .second, .val (.int (3 : Int32))] [(.int (3 : Int32)), (.int p1), (.ref p0)])
  refine hp (fun tq kq => XS.iadd X3.here hx rfl (hb hby d2_14) rfl kq) ?_
  show G T3 (mkF m 15 #[.val (.ref p0), .val (.int p1), .val (.long p2), .second, .val (.int (3 : Int32))] [(.int (p1 + (3 : Int32))), (.ref p0)])
  refine hp (fun tq kq => XS.lloadN X3.here hx rfl (hb hby d2_15) rfl kq) ?_
  show G T3 (mkF m 16 #[.val (.ref p0), .val (.int p1), .val (.long p2), .second, .val (.int (3 : Int32))] [(.long p2), (.int (p1 + (3 : Int32))), (.ref p0)])
  refine hp (fun tq kq => XS.bipush X3.here hx rfl (hb hby d2_16) kq) ?_
  show G T3 (mkF m 18 #[.val (.ref p0), .val (.int p1), .val (.long p2), .second, .val (.int (3 : Int32))] [(.int (8 : Int32)), (.long p2), (.int (p1 + (3 : Int32))), (.ref p0)])
  refine hp (fun tq kq => XS.iload X3.here hx rfl (hb hby d2_18) rfl kq) ?_
  show G T3 (mkF m 20 #[.val (.ref p0), .val (.int p1), .val (.long p2), .second, .val (.int (3 : Int32))] [(.int (3 : Int32)), (.int (8 : Int32)), (.long p2), (.int (p1 + (3 : Int32))), (.ref p0)])
  refine hp (fun tq kq => XS.imul X3.here hx rfl (hb hby d2_20) rfl kq) ?_
  show G T3 (mkF m 21 #[.val (.ref p0), .val (.int p1), .val (.long p2), .second, .val (.int (3 : Int32))] [(.int (24 : Int32)), (.long p2), (.int (p1 + (3 : Int32))), (.ref p0)])
  refine hp (fun tq kq => XS.lushr X3.here hx rfl (hb hby d2_21) rfl kq) ?_
  show G T3 (mkF m 22 #[.val (.ref p0), .val (.int p1), .val (.long p2), .second, .val (.int (3 : Int32))] [(.long ((p2.toUInt64 >>> ((24 : Int32) &&& 0x3f).toInt64.toUInt64).toInt64)), (.int (p1 + (3 : Int32))), (.ref p0)])
  refine hp (fun tq kq => XS.l2i X3.here hx rfl (hb hby d2_22) rfl kq) ?_
  show G T3 (mkF m 23 #[.val (.ref p0), .val (.int p1), .val (.long p2), .second, .val (.int (3 : Int32))] [(.int ((p2.toUInt64 >>> ((24 : Int32) &&& 0x3f).toInt64.toUInt64).toInt64).toInt32), (.int (p1 + (3 : Int32))), (.ref p0)])
  refine hp (fun tq kq => XS.i2b X3.here hx rfl (hb hby d2_23) rfl kq) ?_
  show G T3 (mkF m 24 #[.val (.ref p0), .val (.int p1), .val (.long p2), .second, .val (.int (3 : Int32))] [(.int ((p2.toUInt64 >>> ((24 : Int32) &&& 0x3f).toInt64.toUInt64).toInt64).toInt32.toInt8.toInt32), (.int (p1 + (3 : Int32))), (.ref p0)])
  obtain ⟨T4, h4, X4, e4, W4, V4_p0, st4⟩ := own_stB X3 hx hZ e3 V3_p0 (j := (p1 + (3 : Int32))) (s0 + 3) (own_ix hs 3 (by decide)).1 (own_ix hs 3 (by decide)).2.1 (own_ix hs 3 (by decide)).2.2 (g := (mkF m 24 #[.val (.ref p0), .val (.int p1), .val (.long p2), .second, .val (.int (3 : Int32))] [(.int ((p2.toUInt64 >>> ((24 : Int32) &&& 0x3f).toInt64.toUInt64).toInt64).toInt32.toInt8.toInt32), (.int (p1 + (3 : Int32))), (.ref p0)])) rfl rfl (hb hby d2_24)
  have K4 := K3.wr W4 (Or.inl (by simp))
  have N4 := Fr.snoc X4 N3 g_p0
  refine hp st4 ?_
  show G T4 (mkF m 25 #[.val (.ref p0), .val (.int p1), .val (.long p2), .second, .val (.int (3 : Int32))] [])
  refine hp (fun tq kq => XS.iinc X4.here hx rfl (hb hby d2_25) rfl (l' := #[.val (.ref p0), .val (.int p1), .val (.long p2), .second, .val (.int (4 : Int32))]) rfl kq) ?_
  show G T4 (mkF m 28 #[.val (.ref p0), .val (.int p1), .val (.long p2), .second, .val (.int (4 : Int32))] [])
  refine hp (fun tq kq => XS.goto X4.here hx rfl (pc0 := 28) (pc' := 3) rfl (hb hby d2_28) (by decide) (by decide) kq) ?_
  show G T4 (mkF m 3 #[.val (.ref p0), .val (.int p1), .val (.long p2), .second, .val (.int (4 : Int32))] [])
  refine hp (fun tq kq => XS.iload X4.here hx rfl (hb hby d2_3) rfl kq) ?_
  show G T4 (mkF m 5 #[.val (.ref p0), .val (.int p1), .val (.long p2), .second, .val (.int (4 : Int32))] [(.int (4 : Int32))])
  refine hp (fun tq kq => XS.bipush X4.here hx rfl (hb hby d2_5) kq) ?_
  show G T4 (mkF m 7 #[.val (.ref p0), .val (.int p1), .val (.long p2), .second, .val (.int (4 : Int32))] [(.int (8 : Int32)), (.int (4 : Int32))])
  refine hp (fun tq kq => XS.icmpNo X4.here hx rfl (hb hby d2_7) rfl (tlt (by decide)).2.1 kq) ?_
  show G T4 (mkF m 10 #[.val (.ref p0), .val (.int p1), .val (.long p2), .second, .val (.int (4 : Int32))] [])
  refine hp (fun tq kq => XS.aloadN X4.here hx rfl (hb hby d2_10) rfl rfl kq) ?_
  show G T4 (mkF m 11 #[.val (.ref p0), .val (.int p1), .val (.long p2), .second, .val (.int (4 : Int32))] [(.ref p0)])
  refine hp (fun tq kq => XS.iloadN X4.here hx rfl (hb hby d2_11) rfl kq) ?_
  show G T4 (mkF m 12 #[.val (.ref p0), .val (.int p1), .val (.long p2), .second, .val (.int (4 : Int32))] [(.int p1), (.ref p0)])
  refine hp (fun tq kq => XS.iload X4.here hx rfl (hb hby d2_12) rfl kq) ?_
  show G T4 (mkF m 14 #[.val (.ref p0), .val (.int p1), .val (.long p2), .second, .val (.int (4 : Int32))] [(.int (4 : Int32)), (.int p1), (.ref p0)])
  refine hp (fun tq kq => XS.iadd X4.here hx rfl (hb hby d2_14) rfl kq) ?_
  show G T4 (mkF m 15 #[.val (.ref p0), .val (.int p1), .val (.long p2), .second, .val (.int (4 : Int32))] [(.int (p1 + (4 : Int32))), (.ref p0)])
  refine hp (fun tq kq => XS.lloadN X4.here hx rfl (hb hby d2_15) rfl kq) ?_
  show G T4 (mkF m 16 #[.val (.ref p0), .val (.int p1), .val (.long p2), .second, .val (.int (4 : Int32))] [(.long p2), (.int (p1 + (4 : Int32))), (.ref p0)])
  refine hp (fun tq kq => XS.bipush X4.here hx rfl (hb hby d2_16) kq) ?_
  show G T4 (mkF m 18 #[.val (.ref p0), .val (.int p1), .val (.long p2), .second, .val (.int (4 : Int32))] [(.int (8 : Int32)), (.long p2), (.int (p1 + (4 : Int32))), (.ref p0)])
  refine hp (fun tq kq => XS.iload X4.here hx rfl (hb hby d2_18) rfl kq) ?_
  show G T4 (mkF m 20 #[.val (.ref p0), .val (.int p1), .val (.long p2), .second, .val (.int (4 : Int32))] [(.int (4 : Int32)), (.int (8 : Int32)), (.long p2), (.int (p1 + (4 : Int32))), (.ref p0)])
  refine hp (fun tq kq => XS.imul X4.here hx rfl (hb hby d2_20) rfl kq) ?_
  show G T4 (mkF m 21 #[.val (.ref p0), .val (.int p1), .val (.long p2), .second, .val (.int (4 : Int32))] [(.int (32 : Int32)), (.long p2), (.int (p1 + (4 : Int32))), (.ref p0)])
  refine hp (fun tq kq => XS.lushr X4.here hx rfl (hb hby d2_21) rfl kq) ?_
  show G T4 (mkF m 22 #[.val (.ref p0), .val (.int p1), .val (.long p2), .second, .val (.int (4 : Int32))] [(.long ((p2.toUInt64 >>> ((32 : Int32) &&& 0x3f).toInt64.toUInt64).toInt64)), (.int (p1 + (4 : Int32))), (.ref p0)])
  refine hp (fun tq kq => XS.l2i X4.here hx rfl (hb hby d2_22) rfl kq) ?_
  show G T4 (mkF m 23 #[.val (.ref p0), .val (.int p1), .val (.long p2), .second, .val (.int (4 : Int32))] [(.int ((p2.toUInt64 >>> ((32 : Int32) &&& 0x3f).toInt64.toUInt64).toInt64).toInt32), (.int (p1 + (4 : Int32))), (.ref p0)])
  refine hp (fun tq kq => XS.i2b X4.here hx rfl (hb hby d2_23) rfl kq) ?_
  show G T4 (mkF m 24 #[.val (.ref p0), .val (.int p1), .val (.long p2), .second, .val (.int (4 : Int32))] [(.int ((p2.toUInt64 >>> ((32 : Int32) &&& 0x3f).toInt64.toUInt64).toInt64).toInt32.toInt8.toInt32), (.int (p1 + (4 : Int32))), (.ref p0)])
  obtain ⟨T5, h5, X5, e5, W5, V5_p0, st5⟩ := own_stB X4 hx hZ e4 V4_p0 (j := (p1 + (4 : Int32))) (s0 + 4) (own_ix hs 4 (by decide)).1 (own_ix hs 4 (by decide)).2.1 (own_ix hs 4 (by decide)).2.2 (g := (mkF m 24 #[.val (.ref p0), .val (.int p1), .val (.long p2), .second, .val (.int (4 : Int32))] [(.int ((p2.toUInt64 >>> ((32 : Int32) &&& 0x3f).toInt64.toUInt64).toInt64).toInt32.toInt8.toInt32), (.int (p1 + (4 : Int32))), (.ref p0)])) rfl rfl (hb hby d2_24)
  have K5 := K4.wr W5 (Or.inl (by simp))
  have N5 := Fr.snoc X5 N4 g_p0
  refine hp st5 ?_
  show G T5 (mkF m 25 #[.val (.ref p0), .val (.int p1), .val (.long p2), .second, .val (.int (4 : Int32))] [])
  refine hp (fun tq kq => XS.iinc X5.here hx rfl (hb hby d2_25) rfl (l' := #[.val (.ref p0), .val (.int p1), .val (.long p2), .second, .val (.int (5 : Int32))]) rfl kq) ?_
  show G T5 (mkF m 28 #[.val (.ref p0), .val (.int p1), .val (.long p2), .second, .val (.int (5 : Int32))] [])
  refine hp (fun tq kq => XS.goto X5.here hx rfl (pc0 := 28) (pc' := 3) rfl (hb hby d2_28) (by decide) (by decide) kq) ?_
  show G T5 (mkF m 3 #[.val (.ref p0), .val (.int p1), .val (.long p2), .second, .val (.int (5 : Int32))] [])
  refine hp (fun tq kq => XS.iload X5.here hx rfl (hb hby d2_3) rfl kq) ?_
  show G T5 (mkF m 5 #[.val (.ref p0), .val (.int p1), .val (.long p2), .second, .val (.int (5 : Int32))] [(.int (5 : Int32))])
  refine hp (fun tq kq => XS.bipush X5.here hx rfl (hb hby d2_5) kq) ?_
  show G T5 (mkF m 7 #[.val (.ref p0), .val (.int p1), .val (.long p2), .second, .val (.int (5 : Int32))] [(.int (8 : Int32)), (.int (5 : Int32))])
  refine hp (fun tq kq => XS.icmpNo X5.here hx rfl (hb hby d2_7) rfl (tlt (by decide)).2.1 kq) ?_
  show G T5 (mkF m 10 #[.val (.ref p0), .val (.int p1), .val (.long p2), .second, .val (.int (5 : Int32))] [])
  refine hp (fun tq kq => XS.aloadN X5.here hx rfl (hb hby d2_10) rfl rfl kq) ?_
  show G T5 (mkF m 11 #[.val (.ref p0), .val (.int p1), .val (.long p2), .second, .val (.int (5 : Int32))] [(.ref p0)])
  refine hp (fun tq kq => XS.iloadN X5.here hx rfl (hb hby d2_11) rfl kq) ?_
  show G T5 (mkF m 12 #[.val (.ref p0), .val (.int p1), .val (.long p2), .second, .val (.int (5 : Int32))] [(.int p1), (.ref p0)])
  refine hp (fun tq kq => XS.iload X5.here hx rfl (hb hby d2_12) rfl kq) ?_
  show G T5 (mkF m 14 #[.val (.ref p0), .val (.int p1), .val (.long p2), .second, .val (.int (5 : Int32))] [(.int (5 : Int32)), (.int p1), (.ref p0)])
  refine hp (fun tq kq => XS.iadd X5.here hx rfl (hb hby d2_14) rfl kq) ?_
  show G T5 (mkF m 15 #[.val (.ref p0), .val (.int p1), .val (.long p2), .second, .val (.int (5 : Int32))] [(.int (p1 + (5 : Int32))), (.ref p0)])
  refine hp (fun tq kq => XS.lloadN X5.here hx rfl (hb hby d2_15) rfl kq) ?_
  show G T5 (mkF m 16 #[.val (.ref p0), .val (.int p1), .val (.long p2), .second, .val (.int (5 : Int32))] [(.long p2), (.int (p1 + (5 : Int32))), (.ref p0)])
  refine hp (fun tq kq => XS.bipush X5.here hx rfl (hb hby d2_16) kq) ?_
  show G T5 (mkF m 18 #[.val (.ref p0), .val (.int p1), .val (.long p2), .second, .val (.int (5 : Int32))] [(.int (8 : Int32)), (.long p2), (.int (p1 + (5 : Int32))), (.ref p0)])
  refine hp (fun tq kq => XS.iload X5.here hx rfl (hb hby d2_18) rfl kq) ?_
  show G T5 (mkF m 20 #[.val (.ref p0), .val (.int p1), .val (.long p2), .second, .val (.int (5 : Int32))] [(.int (5 : Int32)), (.int (8 : Int32)), (.long p2), (.int (p1 + (5 : Int32))), (.ref p0)])
  refine hp (fun tq kq => XS.imul X5.here hx rfl (hb hby d2_20) rfl kq) ?_
  show G T5 (mkF m 21 #[.val (.ref p0), .val (.int p1), .val (.long p2), .second, .val (.int (5 : Int32))] [(.int (40 : Int32)), (.long p2), (.int (p1 + (5 : Int32))), (.ref p0)])
  refine hp (fun tq kq => XS.lushr X5.here hx rfl (hb hby d2_21) rfl kq) ?_
  show G T5 (mkF m 22 #[.val (.ref p0), .val (.int p1), .val (.long p2), .second, .val (.int (5 : Int32))] [(.long ((p2.toUInt64 >>> ((40 : Int32) &&& 0x3f).toInt64.toUInt64).toInt64)), (.int (p1 + (5 : Int32))), (.ref p0)])
  refine hp (fun tq kq => XS.l2i X5.here hx rfl (hb hby d2_22) rfl kq) ?_
  show G T5 (mkF m 23 #[.val (.ref p0), .val (.int p1), .val (.long p2), .second, .val (.int (5 : Int32))] [(.int ((p2.toUInt64 >>> ((40 : Int32) &&& 0x3f).toInt64.toUInt64).toInt64).toInt32), (.int (p1 + (5 : Int32))), (.ref p0)])
  refine hp (fun tq kq => XS.i2b X5.here hx rfl (hb hby d2_23) rfl kq) ?_
  show G T5 (mkF m 24 #[.val (.ref p0), .val (.int p1), .val (.long p2), .second, .val (.int (5 : Int32))] [(.int ((p2.toUInt64 >>> ((40 : Int32) &&& 0x3f).toInt64.toUInt64).toInt64).toInt32.toInt8.toInt32), (.int (p1 + (5 : Int32))), (.ref p0)])
  obtain ⟨T6, h6, X6, e6, W6, V6_p0, st6⟩ := own_stB X5 hx hZ e5 V5_p0 (j := (p1 + (5 : Int32))) (s0 + 5) (own_ix hs 5 (by decide)).1 (own_ix hs 5 (by decide)).2.1 (own_ix hs 5 (by decide)).2.2 (g := (mkF m 24 #[.val (.ref p0), .val (.int p1), .val (.long p2), .second, .val (.int (5 : Int32))] [(.int ((p2.toUInt64 >>> ((40 : Int32) &&& 0x3f).toInt64.toUInt64).toInt64).toInt32.toInt8.toInt32), (.int (p1 + (5 : Int32))), (.ref p0)])) rfl rfl (hb hby d2_24)
  have K6 := K5.wr W6 (Or.inl (by simp))
  have N6 := Fr.snoc X6 N5 g_p0
  refine hp st6 ?_
  show G T6 (mkF m 25 #[.val (.ref p0), .val (.int p1), .val (.long p2), .second, .val (.int (5 : Int32))] [])
  refine hp (fun tq kq => XS.iinc X6.here hx rfl (hb hby d2_25) rfl (l' := #[.val (.ref p0), .val (.int p1), .val (.long p2), .second, .val (.int (6 : Int32))]) rfl kq) ?_
  show G T6 (mkF m 28 #[.val (.ref p0), .val (.int p1), .val (.long p2), .second, .val (.int (6 : Int32))] [])
  refine hp (fun tq kq => XS.goto X6.here hx rfl (pc0 := 28) (pc' := 3) rfl (hb hby d2_28) (by decide) (by decide) kq) ?_
  show G T6 (mkF m 3 #[.val (.ref p0), .val (.int p1), .val (.long p2), .second, .val (.int (6 : Int32))] [])
  refine hp (fun tq kq => XS.iload X6.here hx rfl (hb hby d2_3) rfl kq) ?_
  show G T6 (mkF m 5 #[.val (.ref p0), .val (.int p1), .val (.long p2), .second, .val (.int (6 : Int32))] [(.int (6 : Int32))])
  refine hp (fun tq kq => XS.bipush X6.here hx rfl (hb hby d2_5) kq) ?_
  show G T6 (mkF m 7 #[.val (.ref p0), .val (.int p1), .val (.long p2), .second, .val (.int (6 : Int32))] [(.int (8 : Int32)), (.int (6 : Int32))])
  refine hp (fun tq kq => XS.icmpNo X6.here hx rfl (hb hby d2_7) rfl (tlt (by decide)).2.1 kq) ?_
  show G T6 (mkF m 10 #[.val (.ref p0), .val (.int p1), .val (.long p2), .second, .val (.int (6 : Int32))] [])
  refine hp (fun tq kq => XS.aloadN X6.here hx rfl (hb hby d2_10) rfl rfl kq) ?_
  show G T6 (mkF m 11 #[.val (.ref p0), .val (.int p1), .val (.long p2), .second, .val (.int (6 : Int32))] [(.ref p0)])
  refine hp (fun tq kq => XS.iloadN X6.here hx rfl (hb hby d2_11) rfl kq) ?_
  show G T6 (mkF m 12 #[.val (.ref p0), .val (.int p1), .val (.long p2), .second, .val (.int (6 : Int32))] [(.int p1), (.ref p0)])
  refine hp (fun tq kq => XS.iload X6.here hx rfl (hb hby d2_12) rfl kq) ?_
  show G T6 (mkF m 14 #[.val (.ref p0), .val (.int p1), .val (.long p2), .second, .val (.int (6 : Int32))] [(.int (6 : Int32)), (.int p1), (.ref p0)])
  refine hp (fun tq kq => XS.iadd X6.here hx rfl (hb hby d2_14) rfl kq) ?_
  show G T6 (mkF m 15 #[.val (.ref p0), .val (.int p1), .val (.long p2), .second, .val (.int (6 : Int32))] [(.int (p1 + (6 : Int32))), (.ref p0)])
  refine hp (fun tq kq => XS.lloadN X6.here hx rfl (hb hby d2_15) rfl kq) ?_
  show G T6 (mkF m 16 #[.val (.ref p0), .val (.int p1), .val (.long p2), .second, .val (.int (6 : Int32))] [(.long p2), (.int (p1 + (6 : Int32))), (.ref p0)])
  refine hp (fun tq kq => XS.bipush X6.here hx rfl (hb hby d2_16) kq) ?_
  show G T6 (mkF m 18 #[.val (.ref p0), .val (.int p1), .val (.long p2), .second, .val (.int (6 : Int32))] [(.int (8 : Int32)), (.long p2), (.int (p1 + (6 : Int32))), (.ref p0)])
  refine hp (fun tq kq => XS.iload X6.here hx rfl (hb hby d2_18) rfl kq) ?_
  show G T6 (mkF m 20 #[.val (.ref p0), .val (.int p1), .val (.long p2), .second, .val (.int (6 : Int32))] [(.int (6 : Int32)), (.int (8 : Int32)), (.long p2), (.int (p1 + (6 : Int32))), (.ref p0)])
  refine hp (fun tq kq => XS.imul X6.here hx rfl (hb hby d2_20) rfl kq) ?_
  show G T6 (mkF m 21 #[.val (.ref p0), .val (.int p1), .val (.long p2), .second, .val (.int (6 : Int32))] [(.int (48 : Int32)), (.long p2), (.int (p1 + (6 : Int32))), (.ref p0)])
  refine hp (fun tq kq => XS.lushr X6.here hx rfl (hb hby d2_21) rfl kq) ?_
  show G T6 (mkF m 22 #[.val (.ref p0), .val (.int p1), .val (.long p2), .second, .val (.int (6 : Int32))] [(.long ((p2.toUInt64 >>> ((48 : Int32) &&& 0x3f).toInt64.toUInt64).toInt64)), (.int (p1 + (6 : Int32))), (.ref p0)])
  refine hp (fun tq kq => XS.l2i X6.here hx rfl (hb hby d2_22) rfl kq) ?_
  show G T6 (mkF m 23 #[.val (.ref p0), .val (.int p1), .val (.long p2), .second, .val (.int (6 : Int32))] [(.int ((p2.toUInt64 >>> ((48 : Int32) &&& 0x3f).toInt64.toUInt64).toInt64).toInt32), (.int (p1 + (6 : Int32))), (.ref p0)])
  refine hp (fun tq kq => XS.i2b X6.here hx rfl (hb hby d2_23) rfl kq) ?_
  show G T6 (mkF m 24 #[.val (.ref p0), .val (.int p1), .val (.long p2), .second, .val (.int (6 : Int32))] [(.int ((p2.toUInt64 >>> ((48 : Int32) &&& 0x3f).toInt64.toUInt64).toInt64).toInt32.toInt8.toInt32), (.int (p1 + (6 : Int32))), (.ref p0)])
  obtain ⟨T7, h7, X7, e7, W7, V7_p0, st7⟩ := own_stB X6 hx hZ e6 V6_p0 (j := (p1 + (6 : Int32))) (s0 + 6) (own_ix hs 6 (by decide)).1 (own_ix hs 6 (by decide)).2.1 (own_ix hs 6 (by decide)).2.2 (g := (mkF m 24 #[.val (.ref p0), .val (.int p1), .val (.long p2), .second, .val (.int (6 : Int32))] [(.int ((p2.toUInt64 >>> ((48 : Int32) &&& 0x3f).toInt64.toUInt64).toInt64).toInt32.toInt8.toInt32), (.int (p1 + (6 : Int32))), (.ref p0)])) rfl rfl (hb hby d2_24)
  have K7 := K6.wr W7 (Or.inl (by simp))
  have N7 := Fr.snoc X7 N6 g_p0
  refine hp st7 ?_
  show G T7 (mkF m 25 #[.val (.ref p0), .val (.int p1), .val (.long p2), .second, .val (.int (6 : Int32))] [])
  refine hp (fun tq kq => XS.iinc X7.here hx rfl (hb hby d2_25) rfl (l' := #[.val (.ref p0), .val (.int p1), .val (.long p2), .second, .val (.int (7 : Int32))]) rfl kq) ?_
  show G T7 (mkF m 28 #[.val (.ref p0), .val (.int p1), .val (.long p2), .second, .val (.int (7 : Int32))] [])
  refine hp (fun tq kq => XS.goto X7.here hx rfl (pc0 := 28) (pc' := 3) rfl (hb hby d2_28) (by decide) (by decide) kq) ?_
  show G T7 (mkF m 3 #[.val (.ref p0), .val (.int p1), .val (.long p2), .second, .val (.int (7 : Int32))] [])
  refine hp (fun tq kq => XS.iload X7.here hx rfl (hb hby d2_3) rfl kq) ?_
  show G T7 (mkF m 5 #[.val (.ref p0), .val (.int p1), .val (.long p2), .second, .val (.int (7 : Int32))] [(.int (7 : Int32))])
  refine hp (fun tq kq => XS.bipush X7.here hx rfl (hb hby d2_5) kq) ?_
  show G T7 (mkF m 7 #[.val (.ref p0), .val (.int p1), .val (.long p2), .second, .val (.int (7 : Int32))] [(.int (8 : Int32)), (.int (7 : Int32))])
  refine hp (fun tq kq => XS.icmpNo X7.here hx rfl (hb hby d2_7) rfl (tlt (by decide)).2.1 kq) ?_
  show G T7 (mkF m 10 #[.val (.ref p0), .val (.int p1), .val (.long p2), .second, .val (.int (7 : Int32))] [])
  refine hp (fun tq kq => XS.aloadN X7.here hx rfl (hb hby d2_10) rfl rfl kq) ?_
  show G T7 (mkF m 11 #[.val (.ref p0), .val (.int p1), .val (.long p2), .second, .val (.int (7 : Int32))] [(.ref p0)])
  refine hp (fun tq kq => XS.iloadN X7.here hx rfl (hb hby d2_11) rfl kq) ?_
  show G T7 (mkF m 12 #[.val (.ref p0), .val (.int p1), .val (.long p2), .second, .val (.int (7 : Int32))] [(.int p1), (.ref p0)])
  refine hp (fun tq kq => XS.iload X7.here hx rfl (hb hby d2_12) rfl kq) ?_
  show G T7 (mkF m 14 #[.val (.ref p0), .val (.int p1), .val (.long p2), .second, .val (.int (7 : Int32))] [(.int (7 : Int32)), (.int p1), (.ref p0)])
  refine hp (fun tq kq => XS.iadd X7.here hx rfl (hb hby d2_14) rfl kq) ?_
  show G T7 (mkF m 15 #[.val (.ref p0), .val (.int p1), .val (.long p2), .second, .val (.int (7 : Int32))] [(.int (p1 + (7 : Int32))), (.ref p0)])
  refine hp (fun tq kq => XS.lloadN X7.here hx rfl (hb hby d2_15) rfl kq) ?_
  show G T7 (mkF m 16 #[.val (.ref p0), .val (.int p1), .val (.long p2), .second, .val (.int (7 : Int32))] [(.long p2), (.int (p1 + (7 : Int32))), (.ref p0)])
  refine hp (fun tq kq => XS.bipush X7.here hx rfl (hb hby d2_16) kq) ?_
  show G T7 (mkF m 18 #[.val (.ref p0), .val (.int p1), .val (.long p2), .second, .val (.int (7 : Int32))] [(.int (8 : Int32)), (.long p2), (.int (p1 + (7 : Int32))), (.ref p0)])
  refine hp (fun tq kq => XS.iload X7.here hx rfl (hb hby d2_18) rfl kq) ?_
  show G T7 (mkF m 20 #[.val (.ref p0), .val (.int p1), .val (.long p2), .second, .val (.int (7 : Int32))] [(.int (7 : Int32)), (.int (8 : Int32)), (.long p2), (.int (p1 + (7 : Int32))), (.ref p0)])
  refine hp (fun tq kq => XS.imul X7.here hx rfl (hb hby d2_20) rfl kq) ?_
  show G T7 (mkF m 21 #[.val (.ref p0), .val (.int p1), .val (.long p2), .second, .val (.int (7 : Int32))] [(.int (56 : Int32)), (.long p2), (.int (p1 + (7 : Int32))), (.ref p0)])
  refine hp (fun tq kq => XS.lushr X7.here hx rfl (hb hby d2_21) rfl kq) ?_
  show G T7 (mkF m 22 #[.val (.ref p0), .val (.int p1), .val (.long p2), .second, .val (.int (7 : Int32))] [(.long ((p2.toUInt64 >>> ((56 : Int32) &&& 0x3f).toInt64.toUInt64).toInt64)), (.int (p1 + (7 : Int32))), (.ref p0)])
  refine hp (fun tq kq => XS.l2i X7.here hx rfl (hb hby d2_22) rfl kq) ?_
  show G T7 (mkF m 23 #[.val (.ref p0), .val (.int p1), .val (.long p2), .second, .val (.int (7 : Int32))] [(.int ((p2.toUInt64 >>> ((56 : Int32) &&& 0x3f).toInt64.toUInt64).toInt64).toInt32), (.int (p1 + (7 : Int32))), (.ref p0)])
  refine hp (fun tq kq => XS.i2b X7.here hx rfl (hb hby d2_23) rfl kq) ?_
  show G T7 (mkF m 24 #[.val (.ref p0), .val (.int p1), .val (.long p2), .second, .val (.int (7 : Int32))] [(.int ((p2.toUInt64 >>> ((56 : Int32) &&& 0x3f).toInt64.toUInt64).toInt64).toInt32.toInt8.toInt32), (.int (p1 + (7 : Int32))), (.ref p0)])
  obtain ⟨T8, h8, X8, e8, W8, V8_p0, st8⟩ := own_stB X7 hx hZ e7 V7_p0 (j := (p1 + (7 : Int32))) (s0 + 7) (own_ix hs 7 (by decide)).1 (own_ix hs 7 (by decide)).2.1 (own_ix hs 7 (by decide)).2.2 (g := (mkF m 24 #[.val (.ref p0), .val (.int p1), .val (.long p2), .second, .val (.int (7 : Int32))] [(.int ((p2.toUInt64 >>> ((56 : Int32) &&& 0x3f).toInt64.toUInt64).toInt64).toInt32.toInt8.toInt32), (.int (p1 + (7 : Int32))), (.ref p0)])) rfl rfl (hb hby d2_24)
  have K8 := K7.wr W8 (Or.inl (by simp))
  have N8 := Fr.snoc X8 N7 g_p0
  refine hp st8 ?_
  show G T8 (mkF m 25 #[.val (.ref p0), .val (.int p1), .val (.long p2), .second, .val (.int (7 : Int32))] [])
  refine hp (fun tq kq => XS.iinc X8.here hx rfl (hb hby d2_25) rfl (l' := #[.val (.ref p0), .val (.int p1), .val (.long p2), .second, .val (.int (8 : Int32))]) rfl kq) ?_
  show G T8 (mkF m 28 #[.val (.ref p0), .val (.int p1), .val (.long p2), .second, .val (.int (8 : Int32))] [])
  refine hp (fun tq kq => XS.goto X8.here hx rfl (pc0 := 28) (pc' := 3) rfl (hb hby d2_28) (by decide) (by decide) kq) ?_
  show G T8 (mkF m 3 #[.val (.ref p0), .val (.int p1), .val (.long p2), .second, .val (.int (8 : Int32))] [])
  refine hp (fun tq kq => XS.iload X8.here hx rfl (hb hby d2_3) rfl kq) ?_
  show G T8 (mkF m 5 #[.val (.ref p0), .val (.int p1), .val (.long p2), .second, .val (.int (8 : Int32))] [(.int (8 : Int32))])
  refine hp (fun tq kq => XS.bipush X8.here hx rfl (hb hby d2_5) kq) ?_
  show G T8 (mkF m 7 #[.val (.ref p0), .val (.int p1), .val (.long p2), .second, .val (.int (8 : Int32))] [(.int (8 : Int32)), (.int (8 : Int32))])
  refine hp (fun tq kq => XS.icmpYes X8.here hx rfl (pc0 := 7) (pc' := 31) rfl (hb hby d2_7) rfl (flt (by decide)).2.1 (by decide) (by decide) kq) ?_
  show G T8 (mkF m 31 #[.val (.ref p0), .val (.int p1), .val (.long p2), .second, .val (.int (8 : Int32))] [])
  exact hR X8 (fun fs hl => X8.returnOut hx hret (hb hby d2_31) hl) (fun _ => rfl) (by rw [e8]; exact ⟨rfl, N8, K8, V8_p0⟩) (by decide) (by decide)
def own_at (fb fo : Nat → Int32) (p2 : Int32) (p3 : Int64) (p4 : Int32) (k0 : Nat) : Int32 := if p4 < p2 then (if (fb k0) = (fo k0) then (1 : Int32) else (0 : Int32)) else if p4 < (p2 + (8 : Int32)) then (let z5 : Int32 := (if ((p3 >>> (((8 : Int32) * (p4 - p2)) &&& 0x3f).toInt64) &&& (255 : Int64)) < (128 : Int64) then ((p3 >>> (((8 : Int32) * (p4 - p2)) &&& 0x3f).toInt64) &&& (255 : Int64)).toInt32 else (((p3 >>> (((8 : Int32) * (p4 - p2)) &&& 0x3f).toInt64) &&& (255 : Int64)).toInt32 - (256 : Int32)))
  if (fb k0) = z5 then (1 : Int32) else (0 : Int32)) else if (fb k0) = (fo k0) then (1 : Int32) else (0 : Int32)
theorem d3_0 : decode method_3_code 0 = .ok (.iload 5, 2) := by decide +kernel
theorem d3_2 : decode method_3_code 2 = .ok (.iload_n 2, 1) := by decide +kernel
theorem d3_3 : decode method_3_code 3 = .ok (.if_icmp .lt 12, 3) := by decide +kernel
theorem d3_6 : decode method_3_code 6 = .ok (.iload 5, 2) := by decide +kernel
theorem d3_8 : decode method_3_code 8 = .ok (.iload_n 2, 1) := by decide +kernel
theorem d3_9 : decode method_3_code 9 = .ok (.bipush 8, 2) := by decide +kernel
theorem d3_11 : decode method_3_code 11 = .ok (.iadd, 1) := by decide +kernel
theorem d3_12 : decode method_3_code 12 = .ok (.if_icmp .lt 20, 3) := by decide +kernel
theorem d3_15 : decode method_3_code 15 = .ok (.aload_n 0, 1) := by decide +kernel
theorem d3_16 : decode method_3_code 16 = .ok (.iload 5, 2) := by decide +kernel
theorem d3_18 : decode method_3_code 18 = .ok (.baload, 1) := by decide +kernel
theorem d3_19 : decode method_3_code 19 = .ok (.aload_n 1, 1) := by decide +kernel
theorem d3_20 : decode method_3_code 20 = .ok (.iload 5, 2) := by decide +kernel
theorem d3_22 : decode method_3_code 22 = .ok (.baload, 1) := by decide +kernel
theorem d3_23 : decode method_3_code 23 = .ok (.if_icmp .ne 7, 3) := by decide +kernel
theorem d3_26 : decode method_3_code 26 = .ok (.iconst 1, 1) := by decide +kernel
theorem d3_27 : decode method_3_code 27 = .ok (.goto 4, 3) := by decide +kernel
theorem d3_30 : decode method_3_code 30 = .ok (.iconst 0, 1) := by decide +kernel
theorem d3_31 : decode method_3_code 31 = .ok (.ireturn, 1) := by decide +kernel
theorem d3_32 : decode method_3_code 32 = .ok (.bipush 8, 2) := by decide +kernel
theorem d3_34 : decode method_3_code 34 = .ok (.iload 5, 2) := by decide +kernel
theorem d3_36 : decode method_3_code 36 = .ok (.iload_n 2, 1) := by decide +kernel
theorem d3_37 : decode method_3_code 37 = .ok (.isub, 1) := by decide +kernel
theorem d3_38 : decode method_3_code 38 = .ok (.imul, 1) := by decide +kernel
theorem d3_39 : decode method_3_code 39 = .ok (.istore 6, 2) := by decide +kernel
theorem d3_41 : decode method_3_code 41 = .ok (.lload_n 3, 1) := by decide +kernel
theorem d3_42 : decode method_3_code 42 = .ok (.iload 6, 2) := by decide +kernel
theorem d3_44 : decode method_3_code 44 = .ok (.lshr, 1) := by decide +kernel
theorem d3_45 : decode method_3_code 45 = .ok (.ldc2_w 7, 3) := by decide +kernel
theorem d3_48 : decode method_3_code 48 = .ok (.land, 1) := by decide +kernel
theorem d3_49 : decode method_3_code 49 = .ok (.lstore 7, 2) := by decide +kernel
theorem d3_51 : decode method_3_code 51 = .ok (.lload 7, 2) := by decide +kernel
theorem d3_53 : decode method_3_code 53 = .ok (.ldc2_w 9, 3) := by decide +kernel
theorem d3_56 : decode method_3_code 56 = .ok (.lcmp, 1) := by decide +kernel
theorem d3_57 : decode method_3_code 57 = .ok (.ifCond .lt 13, 3) := by decide +kernel
theorem d3_60 : decode method_3_code 60 = .ok (.lload 7, 2) := by decide +kernel
theorem d3_62 : decode method_3_code 62 = .ok (.l2i, 1) := by decide +kernel
theorem d3_63 : decode method_3_code 63 = .ok (.sipush 256, 3) := by decide +kernel
theorem d3_66 : decode method_3_code 66 = .ok (.isub, 1) := by decide +kernel
theorem d3_67 : decode method_3_code 67 = .ok (.goto 6, 3) := by decide +kernel
theorem d3_70 : decode method_3_code 70 = .ok (.lload 7, 2) := by decide +kernel
theorem d3_72 : decode method_3_code 72 = .ok (.l2i, 1) := by decide +kernel
theorem d3_73 : decode method_3_code 73 = .ok (.istore 9, 2) := by decide +kernel
theorem d3_75 : decode method_3_code 75 = .ok (.aload_n 0, 1) := by decide +kernel
theorem d3_76 : decode method_3_code 76 = .ok (.iload 5, 2) := by decide +kernel
theorem d3_78 : decode method_3_code 78 = .ok (.baload, 1) := by decide +kernel
theorem d3_79 : decode method_3_code 79 = .ok (.iload 9, 2) := by decide +kernel
theorem d3_81 : decode method_3_code 81 = .ok (.if_icmp .ne 7, 3) := by decide +kernel
theorem d3_84 : decode method_3_code 84 = .ok (.iconst 1, 1) := by decide +kernel
theorem d3_85 : decode method_3_code 85 = .ok (.goto 4, 3) := by decide +kernel
theorem d3_88 : decode method_3_code 88 = .ok (.iconst 0, 1) := by decide +kernel
theorem d3_89 : decode method_3_code 89 = .ok (.ireturn, 1) := by decide +kernel
theorem own_ef3 (m : MethodId) (p0 : Addr) (p1 : Addr) (p2 : Int32) (p3 : Int64) (p4 : Int32) : entryFrame m #[(.ref p0), (.ref p1), (.int p2), (.long p3), (.int p4)] 10 = mkF m 0 #[.val (.ref p0), .val (.ref p1), .val (.int p2), .val (.long p3), .second, .val (.int p4), .unset, .unset, .unset, .unset] [] := by first | (simp [entryFrame, mkF, argsToLocals, Value.category]; done) | rfl
theorem own_pn3 : plainName "com/example/lakebed/lakebed/core/parquet/LittleEndianWriteLongPinLaw" = true := by first | (simp [plainName, overriddenIn]; done) | decide +kernel
set_option maxRecDepth 65536 in
set_option maxHeartbeats 40000000 in
theorem rm3 (l : Launch) (Z : State) (a0 : Array Value) (hw : ∀ d ∈ tables_1, d.before a0 Z = true) (ws : List Jvm.Cond) (p0 : Addr) (p1 : Addr) (p2 : Int32) (p3 : Int64) (p4 : Int32) (k0 : Nat) (fb fo : Nat → Int32) (h0 : Heap) (n0 : Nat) (V_p0 : own_AI Z h0 p0 .byte 12 fb) (V_p1 : own_AI Z h0 p1 .byte 12 fo) (hk : p4.toNatClampNeg = k0 ∧ ¬ p4 < 0 ∧ k0 < 12) :
    MetFree l (⟨"com/example/lakebed/lakebed/core/parquet/LittleEndianWriteLongPinLaw", "at", "([B[BIJI)Z"⟩ : MethodName) (head1 (Jvm.Cond.code (⟨"com/example/lakebed/lakebed/core/parquet/LittleEndianWriteLongPinLaw", "at", "([B[BIJI)Z"⟩ : MethodName) method_3_code 10 (some .boolean) :: ws) ({ frames := 0, cells := 0, slots := 0, locals := 0 } : Room)) (fun a U => a = #[(.ref p0), (.ref p1), (.int p2), (.long p3), (.int p4)] ∧ Z.Warmed39 U.vm ∧ U.heap = h0) (fun _ _ _ _ _ => True) (fun _ U o U' => ∃ v L, o = .returned v ∧ own_Q (some (.int (own_at fb fo p2 p3 p4 k0))) h0 n0 v U'.heap L ∧ FrameEnd U o U' L ({ frames := 0, cells := 0, slots := 0, locals := 0 } : Room).cells ({ frames := 0, cells := 0, slots := 0, locals := 0 } : Room).slots) := by
  refine own_contract (plainFor_of_name own_pn3) (fun m => own_ef3 m p0 p1 p2 p3 p4) ?_
  intro p e s m below meth c s₁ G hx hby hml0 hown0 hnm hret hZ X0 e0 hp hR
  have hml : c.maxLocals = 10 := hml0
  have hown : s.vm.findClass "com/example/lakebed/lakebed/core/parquet/LittleEndianWriteLongPinLaw" = some m.cls := hown0
  have N0 := Fr.nil n0
  show G s₁ (mkF m 0 #[.val (.ref p0), .val (.ref p1), .val (.int p2), .val (.long p3), .second, .val (.int p4), .unset, .unset, .unset, .unset] [])
  have K0 : Keep h0 h0 [] := Keep.refl _ _
  refine hp (fun tq kq => XS.iload X0.here hx rfl (hb hby d3_0) rfl kq) ?_
  show G s₁ (mkF m 2 #[.val (.ref p0), .val (.ref p1), .val (.int p2), .val (.long p3), .second, .val (.int p4), .unset, .unset, .unset, .unset] [(.int p4)])
  refine hp (fun tq kq => XS.iloadN X0.here hx rfl (hb hby d3_2) rfl kq) ?_
  show G s₁ (mkF m 3 #[.val (.ref p0), .val (.ref p1), .val (.int p2), .val (.long p3), .second, .val (.int p4), .unset, .unset, .unset, .unset] [(.int p2), (.int p4)])
  by_cases hb1 : p4 < p2
  · refine hp (fun tq kq => XS.icmpYes X0.here hx rfl (pc0 := 3) (pc' := 15) rfl (hb hby d3_3) rfl (tlt hb1).1 (by decide) (by decide) kq) ?_
    show G s₁ (mkF m 15 #[.val (.ref p0), .val (.ref p1), .val (.int p2), .val (.long p3), .second, .val (.int p4), .unset, .unset, .unset, .unset] [])
    refine hp (fun tq kq => XS.aloadN X0.here hx rfl (hb hby d3_15) rfl rfl kq) ?_
    show G s₁ (mkF m 16 #[.val (.ref p0), .val (.ref p1), .val (.int p2), .val (.long p3), .second, .val (.int p4), .unset, .unset, .unset, .unset] [(.ref p0)])
    refine hp (fun tq kq => XS.iload X0.here hx rfl (hb hby d3_16) rfl kq) ?_
    show G s₁ (mkF m 18 #[.val (.ref p0), .val (.ref p1), .val (.int p2), .val (.long p3), .second, .val (.int p4), .unset, .unset, .unset, .unset] [(.int p4), (.ref p0)])
    refine hp (own_ldB X0 hx hZ e0 V_p0 (j := p4) k0 hk.1 hk.2.1 hk.2.2 (g := (mkF m 18 #[.val (.ref p0), .val (.ref p1), .val (.int p2), .val (.long p3), .second, .val (.int p4), .unset, .unset, .unset, .unset] [(.int p4), (.ref p0)])) rfl rfl (hb hby d3_18)) ?_
    show G s₁ (mkF m 19 #[.val (.ref p0), .val (.ref p1), .val (.int p2), .val (.long p3), .second, .val (.int p4), .unset, .unset, .unset, .unset] [(.int (fb k0))])
    refine hp (fun tq kq => XS.aloadN X0.here hx rfl (hb hby d3_19) rfl rfl kq) ?_
    show G s₁ (mkF m 20 #[.val (.ref p0), .val (.ref p1), .val (.int p2), .val (.long p3), .second, .val (.int p4), .unset, .unset, .unset, .unset] [(.ref p1), (.int (fb k0))])
    refine hp (fun tq kq => XS.iload X0.here hx rfl (hb hby d3_20) rfl kq) ?_
    show G s₁ (mkF m 22 #[.val (.ref p0), .val (.ref p1), .val (.int p2), .val (.long p3), .second, .val (.int p4), .unset, .unset, .unset, .unset] [(.int p4), (.ref p1), (.int (fb k0))])
    refine hp (own_ldB X0 hx hZ e0 V_p1 (j := p4) k0 hk.1 hk.2.1 hk.2.2 (g := (mkF m 22 #[.val (.ref p0), .val (.ref p1), .val (.int p2), .val (.long p3), .second, .val (.int p4), .unset, .unset, .unset, .unset] [(.int p4), (.ref p1), (.int (fb k0))])) rfl rfl (hb hby d3_22)) ?_
    show G s₁ (mkF m 23 #[.val (.ref p0), .val (.ref p1), .val (.int p2), .val (.long p3), .second, .val (.int p4), .unset, .unset, .unset, .unset] [(.int (fo k0)), (.int (fb k0))])
    by_cases hb2 : (fb k0) = (fo k0)
    · refine hp (fun tq kq => XS.icmpNo X0.here hx rfl (hb hby d3_23) rfl (teq hb2).2 kq) ?_
      show G s₁ (mkF m 26 #[.val (.ref p0), .val (.ref p1), .val (.int p2), .val (.long p3), .second, .val (.int p4), .unset, .unset, .unset, .unset] [])
      refine hp (fun tq kq => XS.iconst X0.here hx rfl (hb hby d3_26) kq) ?_
      show G s₁ (mkF m 27 #[.val (.ref p0), .val (.ref p1), .val (.int p2), .val (.long p3), .second, .val (.int p4), .unset, .unset, .unset, .unset] [(.int (1 : Int32))])
      refine hp (fun tq kq => XS.goto X0.here hx rfl (pc0 := 27) (pc' := 31) rfl (hb hby d3_27) (by decide) (by decide) kq) ?_
      show G s₁ (mkF m 31 #[.val (.ref p0), .val (.ref p1), .val (.int p2), .val (.long p3), .second, .val (.int p4), .unset, .unset, .unset, .unset] [(.int (1 : Int32))])
      exact hR X0 (fun fs hl => retN X0 hx (t := .boolean) hret (by simp) (hb hby d3_31) hl) (fun q => by rw [hret] at q; cases q) (by rw [e0]; exact ⟨(congrArg (fun q => some (Value.int q)) ((if_pos hb1).trans (if_pos hb2)).symm), N0, rfl⟩) (by decide) (by decide)
    · refine hp (fun tq kq => XS.icmpYes X0.here hx rfl (pc0 := 23) (pc' := 30) rfl (hb hby d3_23) rfl (feq hb2).2 (by decide) (by decide) kq) ?_
      show G s₁ (mkF m 30 #[.val (.ref p0), .val (.ref p1), .val (.int p2), .val (.long p3), .second, .val (.int p4), .unset, .unset, .unset, .unset] [])
      refine hp (fun tq kq => XS.iconst X0.here hx rfl (hb hby d3_30) kq) ?_
      show G s₁ (mkF m 31 #[.val (.ref p0), .val (.ref p1), .val (.int p2), .val (.long p3), .second, .val (.int p4), .unset, .unset, .unset, .unset] [(.int (0 : Int32))])
      exact hR X0 (fun fs hl => retN X0 hx (t := .boolean) hret (by simp) (hb hby d3_31) hl) (fun q => by rw [hret] at q; cases q) (by rw [e0]; exact ⟨(congrArg (fun q => some (Value.int q)) ((if_pos hb1).trans (if_neg hb2)).symm), N0, rfl⟩) (by decide) (by decide)
  · refine hp (fun tq kq => XS.icmpNo X0.here hx rfl (hb hby d3_3) rfl (flt hb1).1 kq) ?_
    show G s₁ (mkF m 6 #[.val (.ref p0), .val (.ref p1), .val (.int p2), .val (.long p3), .second, .val (.int p4), .unset, .unset, .unset, .unset] [])
    refine hp (fun tq kq => XS.iload X0.here hx rfl (hb hby d3_6) rfl kq) ?_
    show G s₁ (mkF m 8 #[.val (.ref p0), .val (.ref p1), .val (.int p2), .val (.long p3), .second, .val (.int p4), .unset, .unset, .unset, .unset] [(.int p4)])
    refine hp (fun tq kq => XS.iloadN X0.here hx rfl (hb hby d3_8) rfl kq) ?_
    show G s₁ (mkF m 9 #[.val (.ref p0), .val (.ref p1), .val (.int p2), .val (.long p3), .second, .val (.int p4), .unset, .unset, .unset, .unset] [(.int p2), (.int p4)])
    refine hp (fun tq kq => XS.bipush X0.here hx rfl (hb hby d3_9) kq) ?_
    show G s₁ (mkF m 11 #[.val (.ref p0), .val (.ref p1), .val (.int p2), .val (.long p3), .second, .val (.int p4), .unset, .unset, .unset, .unset] [(.int (8 : Int32)), (.int p2), (.int p4)])
    refine hp (fun tq kq => XS.iadd X0.here hx rfl (hb hby d3_11) rfl kq) ?_
    show G s₁ (mkF m 12 #[.val (.ref p0), .val (.ref p1), .val (.int p2), .val (.long p3), .second, .val (.int p4), .unset, .unset, .unset, .unset] [(.int (p2 + (8 : Int32))), (.int p4)])
    by_cases hb3 : p4 < (p2 + (8 : Int32))
    · refine hp (fun tq kq => XS.icmpYes X0.here hx rfl (pc0 := 12) (pc' := 32) rfl (hb hby d3_12) rfl (tlt hb3).1 (by decide) (by decide) kq) ?_
      show G s₁ (mkF m 32 #[.val (.ref p0), .val (.ref p1), .val (.int p2), .val (.long p3), .second, .val (.int p4), .unset, .unset, .unset, .unset] [])
      refine hp (fun tq kq => XS.bipush X0.here hx rfl (hb hby d3_32) kq) ?_
      show G s₁ (mkF m 34 #[.val (.ref p0), .val (.ref p1), .val (.int p2), .val (.long p3), .second, .val (.int p4), .unset, .unset, .unset, .unset] [(.int (8 : Int32))])
      refine hp (fun tq kq => XS.iload X0.here hx rfl (hb hby d3_34) rfl kq) ?_
      show G s₁ (mkF m 36 #[.val (.ref p0), .val (.ref p1), .val (.int p2), .val (.long p3), .second, .val (.int p4), .unset, .unset, .unset, .unset] [(.int p4), (.int (8 : Int32))])
      refine hp (fun tq kq => XS.iloadN X0.here hx rfl (hb hby d3_36) rfl kq) ?_
      show G s₁ (mkF m 37 #[.val (.ref p0), .val (.ref p1), .val (.int p2), .val (.long p3), .second, .val (.int p4), .unset, .unset, .unset, .unset] [(.int p2), (.int p4), (.int (8 : Int32))])
      refine hp (fun tq kq => XS.isub X0.here hx rfl (hb hby d3_37) rfl kq) ?_
      show G s₁ (mkF m 38 #[.val (.ref p0), .val (.ref p1), .val (.int p2), .val (.long p3), .second, .val (.int p4), .unset, .unset, .unset, .unset] [(.int (p4 - p2)), (.int (8 : Int32))])
      refine hp (fun tq kq => XS.imul X0.here hx rfl (hb hby d3_38) rfl kq) ?_
      show G s₁ (mkF m 39 #[.val (.ref p0), .val (.ref p1), .val (.int p2), .val (.long p3), .second, .val (.int p4), .unset, .unset, .unset, .unset] [(.int ((8 : Int32) * (p4 - p2)))])
      refine hp (fun tq kq => XS.istore X0.here hx rfl (hb hby d3_39) rfl (l' := #[.val (.ref p0), .val (.ref p1), .val (.int p2), .val (.long p3), .second, .val (.int p4), .val (.int ((8 : Int32) * (p4 - p2))), .unset, .unset, .unset]) rfl kq) ?_
      show G s₁ (mkF m 41 #[.val (.ref p0), .val (.ref p1), .val (.int p2), .val (.long p3), .second, .val (.int p4), .val (.int ((8 : Int32) * (p4 - p2))), .unset, .unset, .unset] [])
      refine hp (fun tq kq => XS.lloadN X0.here hx rfl (hb hby d3_41) rfl kq) ?_
      show G s₁ (mkF m 42 #[.val (.ref p0), .val (.ref p1), .val (.int p2), .val (.long p3), .second, .val (.int p4), .val (.int ((8 : Int32) * (p4 - p2))), .unset, .unset, .unset] [(.long p3)])
      refine hp (fun tq kq => XS.iload X0.here hx rfl (hb hby d3_42) rfl kq) ?_
      show G s₁ (mkF m 44 #[.val (.ref p0), .val (.ref p1), .val (.int p2), .val (.long p3), .second, .val (.int p4), .val (.int ((8 : Int32) * (p4 - p2))), .unset, .unset, .unset] [(.int ((8 : Int32) * (p4 - p2))), (.long p3)])
      refine hp (fun tq kq => XS.lshr X0.here hx rfl (hb hby d3_44) rfl kq) ?_
      show G s₁ (mkF m 45 #[.val (.ref p0), .val (.ref p1), .val (.int p2), .val (.long p3), .second, .val (.int p4), .val (.int ((8 : Int32) * (p4 - p2))), .unset, .unset, .unset] [(.long (p3 >>> (((8 : Int32) * (p4 - p2)) &&& 0x3f).toInt64))])
      refine hp (fun tq kq => X0.ldc2Long hx hown (mvT hZ (hw _ (List.mem_of_getElem? (i := 13) rfl))) (g := (mkF m 45 #[.val (.ref p0), .val (.ref p1), .val (.int p2), .val (.long p3), .second, .val (.int p4), .val (.int ((8 : Int32) * (p4 - p2))), .unset, .unset, .unset] [(.long (p3 >>> (((8 : Int32) * (p4 - p2)) &&& 0x3f).toInt64))])) rfl (hb hby d3_45) _ kq) ?_
      show G s₁ (mkF m 48 #[.val (.ref p0), .val (.ref p1), .val (.int p2), .val (.long p3), .second, .val (.int p4), .val (.int ((8 : Int32) * (p4 - p2))), .unset, .unset, .unset] [(.long (255 : Int64)), (.long (p3 >>> (((8 : Int32) * (p4 - p2)) &&& 0x3f).toInt64))])
      refine hp (fun tq kq => XS.land X0.here hx rfl (hb hby d3_48) rfl kq) ?_
      show G s₁ (mkF m 49 #[.val (.ref p0), .val (.ref p1), .val (.int p2), .val (.long p3), .second, .val (.int p4), .val (.int ((8 : Int32) * (p4 - p2))), .unset, .unset, .unset] [(.long ((p3 >>> (((8 : Int32) * (p4 - p2)) &&& 0x3f).toInt64) &&& (255 : Int64)))])
      refine hp (fun tq kq => XS.lstore X0.here hx rfl (hb hby d3_49) rfl (l' := #[.val (.ref p0), .val (.ref p1), .val (.int p2), .val (.long p3), .second, .val (.int p4), .val (.int ((8 : Int32) * (p4 - p2))), .val (.long ((p3 >>> (((8 : Int32) * (p4 - p2)) &&& 0x3f).toInt64) &&& (255 : Int64))), .second, .unset]) rfl kq) ?_
      show G s₁ (mkF m 51 #[.val (.ref p0), .val (.ref p1), .val (.int p2), .val (.long p3), .second, .val (.int p4), .val (.int ((8 : Int32) * (p4 - p2))), .val (.long ((p3 >>> (((8 : Int32) * (p4 - p2)) &&& 0x3f).toInt64) &&& (255 : Int64))), .second, .unset] [])
      refine hp (fun tq kq => XS.lload X0.here hx rfl (hb hby d3_51) rfl kq) ?_
      show G s₁ (mkF m 53 #[.val (.ref p0), .val (.ref p1), .val (.int p2), .val (.long p3), .second, .val (.int p4), .val (.int ((8 : Int32) * (p4 - p2))), .val (.long ((p3 >>> (((8 : Int32) * (p4 - p2)) &&& 0x3f).toInt64) &&& (255 : Int64))), .second, .unset] [(.long ((p3 >>> (((8 : Int32) * (p4 - p2)) &&& 0x3f).toInt64) &&& (255 : Int64)))])
      refine hp (fun tq kq => X0.ldc2Long hx hown (mvT hZ (hw _ (List.mem_of_getElem? (i := 14) rfl))) (g := (mkF m 53 #[.val (.ref p0), .val (.ref p1), .val (.int p2), .val (.long p3), .second, .val (.int p4), .val (.int ((8 : Int32) * (p4 - p2))), .val (.long ((p3 >>> (((8 : Int32) * (p4 - p2)) &&& 0x3f).toInt64) &&& (255 : Int64))), .second, .unset] [(.long ((p3 >>> (((8 : Int32) * (p4 - p2)) &&& 0x3f).toInt64) &&& (255 : Int64)))])) rfl (hb hby d3_53) _ kq) ?_
      show G s₁ (mkF m 56 #[.val (.ref p0), .val (.ref p1), .val (.int p2), .val (.long p3), .second, .val (.int p4), .val (.int ((8 : Int32) * (p4 - p2))), .val (.long ((p3 >>> (((8 : Int32) * (p4 - p2)) &&& 0x3f).toInt64) &&& (255 : Int64))), .second, .unset] [(.long (128 : Int64)), (.long ((p3 >>> (((8 : Int32) * (p4 - p2)) &&& 0x3f).toInt64) &&& (255 : Int64)))])
      refine hp (fun tq kq => XS.lcmp X0.here hx rfl (hb hby d3_56) rfl kq) ?_
      show G s₁ (mkF m 57 #[.val (.ref p0), .val (.ref p1), .val (.int p2), .val (.long p3), .second, .val (.int p4), .val (.int ((8 : Int32) * (p4 - p2))), .val (.long ((p3 >>> (((8 : Int32) * (p4 - p2)) &&& 0x3f).toInt64) &&& (255 : Int64))), .second, .unset] [(.int (lcmpW ((p3 >>> (((8 : Int32) * (p4 - p2)) &&& 0x3f).toInt64) &&& (255 : Int64)) (128 : Int64)))])
      have j4 : ∀ (z5 : Int32), z5 = (if ((p3 >>> (((8 : Int32) * (p4 - p2)) &&& 0x3f).toInt64) &&& (255 : Int64)) < (128 : Int64) then ((p3 >>> (((8 : Int32) * (p4 - p2)) &&& 0x3f).toInt64) &&& (255 : Int64)).toInt32 else (((p3 >>> (((8 : Int32) * (p4 - p2)) &&& 0x3f).toInt64) &&& (255 : Int64)).toInt32 - (256 : Int32))) → G s₁ (mkF m 73 #[.val (.ref p0), .val (.ref p1), .val (.int p2), .val (.long p3), .second, .val (.int p4), .val (.int ((8 : Int32) * (p4 - p2))), .val (.long ((p3 >>> (((8 : Int32) * (p4 - p2)) &&& 0x3f).toInt64) &&& (255 : Int64))), .second, .unset] [(.int z5)]) := by
        intro z5 hz5
        refine hp (fun tq kq => XS.istore X0.here hx rfl (hb hby d3_73) rfl (l' := #[.val (.ref p0), .val (.ref p1), .val (.int p2), .val (.long p3), .second, .val (.int p4), .val (.int ((8 : Int32) * (p4 - p2))), .val (.long ((p3 >>> (((8 : Int32) * (p4 - p2)) &&& 0x3f).toInt64) &&& (255 : Int64))), .second, .val (.int z5)]) rfl kq) ?_
        show G s₁ (mkF m 75 #[.val (.ref p0), .val (.ref p1), .val (.int p2), .val (.long p3), .second, .val (.int p4), .val (.int ((8 : Int32) * (p4 - p2))), .val (.long ((p3 >>> (((8 : Int32) * (p4 - p2)) &&& 0x3f).toInt64) &&& (255 : Int64))), .second, .val (.int z5)] [])
        refine hp (fun tq kq => XS.aloadN X0.here hx rfl (hb hby d3_75) rfl rfl kq) ?_
        show G s₁ (mkF m 76 #[.val (.ref p0), .val (.ref p1), .val (.int p2), .val (.long p3), .second, .val (.int p4), .val (.int ((8 : Int32) * (p4 - p2))), .val (.long ((p3 >>> (((8 : Int32) * (p4 - p2)) &&& 0x3f).toInt64) &&& (255 : Int64))), .second, .val (.int z5)] [(.ref p0)])
        refine hp (fun tq kq => XS.iload X0.here hx rfl (hb hby d3_76) rfl kq) ?_
        show G s₁ (mkF m 78 #[.val (.ref p0), .val (.ref p1), .val (.int p2), .val (.long p3), .second, .val (.int p4), .val (.int ((8 : Int32) * (p4 - p2))), .val (.long ((p3 >>> (((8 : Int32) * (p4 - p2)) &&& 0x3f).toInt64) &&& (255 : Int64))), .second, .val (.int z5)] [(.int p4), (.ref p0)])
        refine hp (own_ldB X0 hx hZ e0 V_p0 (j := p4) k0 hk.1 hk.2.1 hk.2.2 (g := (mkF m 78 #[.val (.ref p0), .val (.ref p1), .val (.int p2), .val (.long p3), .second, .val (.int p4), .val (.int ((8 : Int32) * (p4 - p2))), .val (.long ((p3 >>> (((8 : Int32) * (p4 - p2)) &&& 0x3f).toInt64) &&& (255 : Int64))), .second, .val (.int z5)] [(.int p4), (.ref p0)])) rfl rfl (hb hby d3_78)) ?_
        show G s₁ (mkF m 79 #[.val (.ref p0), .val (.ref p1), .val (.int p2), .val (.long p3), .second, .val (.int p4), .val (.int ((8 : Int32) * (p4 - p2))), .val (.long ((p3 >>> (((8 : Int32) * (p4 - p2)) &&& 0x3f).toInt64) &&& (255 : Int64))), .second, .val (.int z5)] [(.int (fb k0))])
        refine hp (fun tq kq => XS.iload X0.here hx rfl (hb hby d3_79) rfl kq) ?_
        show G s₁ (mkF m 81 #[.val (.ref p0), .val (.ref p1), .val (.int p2), .val (.long p3), .second, .val (.int p4), .val (.int ((8 : Int32) * (p4 - p2))), .val (.long ((p3 >>> (((8 : Int32) * (p4 - p2)) &&& 0x3f).toInt64) &&& (255 : Int64))), .second, .val (.int z5)] [(.int z5), (.int (fb k0))])
        by_cases hb6 : (fb k0) = z5
        · refine hp (fun tq kq => XS.icmpNo X0.here hx rfl (hb hby d3_81) rfl (teq hb6).2 kq) ?_
          show G s₁ (mkF m 84 #[.val (.ref p0), .val (.ref p1), .val (.int p2), .val (.long p3), .second, .val (.int p4), .val (.int ((8 : Int32) * (p4 - p2))), .val (.long ((p3 >>> (((8 : Int32) * (p4 - p2)) &&& 0x3f).toInt64) &&& (255 : Int64))), .second, .val (.int z5)] [])
          refine hp (fun tq kq => XS.iconst X0.here hx rfl (hb hby d3_84) kq) ?_
          show G s₁ (mkF m 85 #[.val (.ref p0), .val (.ref p1), .val (.int p2), .val (.long p3), .second, .val (.int p4), .val (.int ((8 : Int32) * (p4 - p2))), .val (.long ((p3 >>> (((8 : Int32) * (p4 - p2)) &&& 0x3f).toInt64) &&& (255 : Int64))), .second, .val (.int z5)] [(.int (1 : Int32))])
          refine hp (fun tq kq => XS.goto X0.here hx rfl (pc0 := 85) (pc' := 89) rfl (hb hby d3_85) (by decide) (by decide) kq) ?_
          show G s₁ (mkF m 89 #[.val (.ref p0), .val (.ref p1), .val (.int p2), .val (.long p3), .second, .val (.int p4), .val (.int ((8 : Int32) * (p4 - p2))), .val (.long ((p3 >>> (((8 : Int32) * (p4 - p2)) &&& 0x3f).toInt64) &&& (255 : Int64))), .second, .val (.int z5)] [(.int (1 : Int32))])
          exact hR X0 (fun fs hl => retN X0 hx (t := .boolean) hret (by simp) (hb hby d3_89) hl) (fun q => by rw [hret] at q; cases q) (by rw [e0]; exact ⟨(by subst hz5; exact (congrArg (fun q => some (Value.int q)) ((if_neg hb1).trans ((if_pos hb3).trans (if_pos hb6))).symm)), N0, rfl⟩) (by decide) (by decide)
        · refine hp (fun tq kq => XS.icmpYes X0.here hx rfl (pc0 := 81) (pc' := 88) rfl (hb hby d3_81) rfl (feq hb6).2 (by decide) (by decide) kq) ?_
          show G s₁ (mkF m 88 #[.val (.ref p0), .val (.ref p1), .val (.int p2), .val (.long p3), .second, .val (.int p4), .val (.int ((8 : Int32) * (p4 - p2))), .val (.long ((p3 >>> (((8 : Int32) * (p4 - p2)) &&& 0x3f).toInt64) &&& (255 : Int64))), .second, .val (.int z5)] [])
          refine hp (fun tq kq => XS.iconst X0.here hx rfl (hb hby d3_88) kq) ?_
          show G s₁ (mkF m 89 #[.val (.ref p0), .val (.ref p1), .val (.int p2), .val (.long p3), .second, .val (.int p4), .val (.int ((8 : Int32) * (p4 - p2))), .val (.long ((p3 >>> (((8 : Int32) * (p4 - p2)) &&& 0x3f).toInt64) &&& (255 : Int64))), .second, .val (.int z5)] [(.int (0 : Int32))])
          exact hR X0 (fun fs hl => retN X0 hx (t := .boolean) hret (by simp) (hb hby d3_89) hl) (fun q => by rw [hret] at q; cases q) (by rw [e0]; exact ⟨(by subst hz5; exact (congrArg (fun q => some (Value.int q)) ((if_neg hb1).trans ((if_pos hb3).trans (if_neg hb6))).symm)), N0, rfl⟩) (by decide) (by decide)
      by_cases hb7 : ((p3 >>> (((8 : Int32) * (p4 - p2)) &&& 0x3f).toInt64) &&& (255 : Int64)) < (128 : Int64)
      · refine hp (fun tq kq => XS.ifYes X0.here hx rfl (pc0 := 57) (pc' := 70) rfl (hb hby d3_57) rfl ((if0 _ _).trans (tlt ((lw_lt _ _).mpr hb7)).1) (by decide) (by decide) kq) ?_
        show G s₁ (mkF m 70 #[.val (.ref p0), .val (.ref p1), .val (.int p2), .val (.long p3), .second, .val (.int p4), .val (.int ((8 : Int32) * (p4 - p2))), .val (.long ((p3 >>> (((8 : Int32) * (p4 - p2)) &&& 0x3f).toInt64) &&& (255 : Int64))), .second, .unset] [])
        refine hp (fun tq kq => XS.lload X0.here hx rfl (hb hby d3_70) rfl kq) ?_
        show G s₁ (mkF m 72 #[.val (.ref p0), .val (.ref p1), .val (.int p2), .val (.long p3), .second, .val (.int p4), .val (.int ((8 : Int32) * (p4 - p2))), .val (.long ((p3 >>> (((8 : Int32) * (p4 - p2)) &&& 0x3f).toInt64) &&& (255 : Int64))), .second, .unset] [(.long ((p3 >>> (((8 : Int32) * (p4 - p2)) &&& 0x3f).toInt64) &&& (255 : Int64)))])
        refine hp (fun tq kq => XS.l2i X0.here hx rfl (hb hby d3_72) rfl kq) ?_
        show G s₁ (mkF m 73 #[.val (.ref p0), .val (.ref p1), .val (.int p2), .val (.long p3), .second, .val (.int p4), .val (.int ((8 : Int32) * (p4 - p2))), .val (.long ((p3 >>> (((8 : Int32) * (p4 - p2)) &&& 0x3f).toInt64) &&& (255 : Int64))), .second, .unset] [(.int ((p3 >>> (((8 : Int32) * (p4 - p2)) &&& 0x3f).toInt64) &&& (255 : Int64)).toInt32)])
        exact j4 _ ((if_pos hb7)).symm
      · refine hp (fun tq kq => XS.ifNo X0.here hx rfl (hb hby d3_57) rfl ((if0 _ _).trans (flt (fun q => hb7 ((lw_lt _ _).mp q))).1) kq) ?_
        show G s₁ (mkF m 60 #[.val (.ref p0), .val (.ref p1), .val (.int p2), .val (.long p3), .second, .val (.int p4), .val (.int ((8 : Int32) * (p4 - p2))), .val (.long ((p3 >>> (((8 : Int32) * (p4 - p2)) &&& 0x3f).toInt64) &&& (255 : Int64))), .second, .unset] [])
        refine hp (fun tq kq => XS.lload X0.here hx rfl (hb hby d3_60) rfl kq) ?_
        show G s₁ (mkF m 62 #[.val (.ref p0), .val (.ref p1), .val (.int p2), .val (.long p3), .second, .val (.int p4), .val (.int ((8 : Int32) * (p4 - p2))), .val (.long ((p3 >>> (((8 : Int32) * (p4 - p2)) &&& 0x3f).toInt64) &&& (255 : Int64))), .second, .unset] [(.long ((p3 >>> (((8 : Int32) * (p4 - p2)) &&& 0x3f).toInt64) &&& (255 : Int64)))])
        refine hp (fun tq kq => XS.l2i X0.here hx rfl (hb hby d3_62) rfl kq) ?_
        show G s₁ (mkF m 63 #[.val (.ref p0), .val (.ref p1), .val (.int p2), .val (.long p3), .second, .val (.int p4), .val (.int ((8 : Int32) * (p4 - p2))), .val (.long ((p3 >>> (((8 : Int32) * (p4 - p2)) &&& 0x3f).toInt64) &&& (255 : Int64))), .second, .unset] [(.int ((p3 >>> (((8 : Int32) * (p4 - p2)) &&& 0x3f).toInt64) &&& (255 : Int64)).toInt32)])
        refine hp (fun tq kq => XS.sipush X0.here hx rfl (hb hby d3_63) kq) ?_
        show G s₁ (mkF m 66 #[.val (.ref p0), .val (.ref p1), .val (.int p2), .val (.long p3), .second, .val (.int p4), .val (.int ((8 : Int32) * (p4 - p2))), .val (.long ((p3 >>> (((8 : Int32) * (p4 - p2)) &&& 0x3f).toInt64) &&& (255 : Int64))), .second, .unset] [(.int (256 : Int32)), (.int ((p3 >>> (((8 : Int32) * (p4 - p2)) &&& 0x3f).toInt64) &&& (255 : Int64)).toInt32)])
        refine hp (fun tq kq => XS.isub X0.here hx rfl (hb hby d3_66) rfl kq) ?_
        show G s₁ (mkF m 67 #[.val (.ref p0), .val (.ref p1), .val (.int p2), .val (.long p3), .second, .val (.int p4), .val (.int ((8 : Int32) * (p4 - p2))), .val (.long ((p3 >>> (((8 : Int32) * (p4 - p2)) &&& 0x3f).toInt64) &&& (255 : Int64))), .second, .unset] [(.int (((p3 >>> (((8 : Int32) * (p4 - p2)) &&& 0x3f).toInt64) &&& (255 : Int64)).toInt32 - (256 : Int32)))])
        refine hp (fun tq kq => XS.goto X0.here hx rfl (pc0 := 67) (pc' := 73) rfl (hb hby d3_67) (by decide) (by decide) kq) ?_
        show G s₁ (mkF m 73 #[.val (.ref p0), .val (.ref p1), .val (.int p2), .val (.long p3), .second, .val (.int p4), .val (.int ((8 : Int32) * (p4 - p2))), .val (.long ((p3 >>> (((8 : Int32) * (p4 - p2)) &&& 0x3f).toInt64) &&& (255 : Int64))), .second, .unset] [(.int (((p3 >>> (((8 : Int32) * (p4 - p2)) &&& 0x3f).toInt64) &&& (255 : Int64)).toInt32 - (256 : Int32)))])
        exact j4 _ ((if_neg hb7)).symm
    · refine hp (fun tq kq => XS.icmpNo X0.here hx rfl (hb hby d3_12) rfl (flt hb3).1 kq) ?_
      show G s₁ (mkF m 15 #[.val (.ref p0), .val (.ref p1), .val (.int p2), .val (.long p3), .second, .val (.int p4), .unset, .unset, .unset, .unset] [])
      refine hp (fun tq kq => XS.aloadN X0.here hx rfl (hb hby d3_15) rfl rfl kq) ?_
      show G s₁ (mkF m 16 #[.val (.ref p0), .val (.ref p1), .val (.int p2), .val (.long p3), .second, .val (.int p4), .unset, .unset, .unset, .unset] [(.ref p0)])
      refine hp (fun tq kq => XS.iload X0.here hx rfl (hb hby d3_16) rfl kq) ?_
      show G s₁ (mkF m 18 #[.val (.ref p0), .val (.ref p1), .val (.int p2), .val (.long p3), .second, .val (.int p4), .unset, .unset, .unset, .unset] [(.int p4), (.ref p0)])
      refine hp (own_ldB X0 hx hZ e0 V_p0 (j := p4) k0 hk.1 hk.2.1 hk.2.2 (g := (mkF m 18 #[.val (.ref p0), .val (.ref p1), .val (.int p2), .val (.long p3), .second, .val (.int p4), .unset, .unset, .unset, .unset] [(.int p4), (.ref p0)])) rfl rfl (hb hby d3_18)) ?_
      show G s₁ (mkF m 19 #[.val (.ref p0), .val (.ref p1), .val (.int p2), .val (.long p3), .second, .val (.int p4), .unset, .unset, .unset, .unset] [(.int (fb k0))])
      refine hp (fun tq kq => XS.aloadN X0.here hx rfl (hb hby d3_19) rfl rfl kq) ?_
      show G s₁ (mkF m 20 #[.val (.ref p0), .val (.ref p1), .val (.int p2), .val (.long p3), .second, .val (.int p4), .unset, .unset, .unset, .unset] [(.ref p1), (.int (fb k0))])
      refine hp (fun tq kq => XS.iload X0.here hx rfl (hb hby d3_20) rfl kq) ?_
      show G s₁ (mkF m 22 #[.val (.ref p0), .val (.ref p1), .val (.int p2), .val (.long p3), .second, .val (.int p4), .unset, .unset, .unset, .unset] [(.int p4), (.ref p1), (.int (fb k0))])
      refine hp (own_ldB X0 hx hZ e0 V_p1 (j := p4) k0 hk.1 hk.2.1 hk.2.2 (g := (mkF m 22 #[.val (.ref p0), .val (.ref p1), .val (.int p2), .val (.long p3), .second, .val (.int p4), .unset, .unset, .unset, .unset] [(.int p4), (.ref p1), (.int (fb k0))])) rfl rfl (hb hby d3_22)) ?_
      show G s₁ (mkF m 23 #[.val (.ref p0), .val (.ref p1), .val (.int p2), .val (.long p3), .second, .val (.int p4), .unset, .unset, .unset, .unset] [(.int (fo k0)), (.int (fb k0))])
      by_cases hb8 : (fb k0) = (fo k0)
      · refine hp (fun tq kq => XS.icmpNo X0.here hx rfl (hb hby d3_23) rfl (teq hb8).2 kq) ?_
        show G s₁ (mkF m 26 #[.val (.ref p0), .val (.ref p1), .val (.int p2), .val (.long p3), .second, .val (.int p4), .unset, .unset, .unset, .unset] [])
        refine hp (fun tq kq => XS.iconst X0.here hx rfl (hb hby d3_26) kq) ?_
        show G s₁ (mkF m 27 #[.val (.ref p0), .val (.ref p1), .val (.int p2), .val (.long p3), .second, .val (.int p4), .unset, .unset, .unset, .unset] [(.int (1 : Int32))])
        refine hp (fun tq kq => XS.goto X0.here hx rfl (pc0 := 27) (pc' := 31) rfl (hb hby d3_27) (by decide) (by decide) kq) ?_
        show G s₁ (mkF m 31 #[.val (.ref p0), .val (.ref p1), .val (.int p2), .val (.long p3), .second, .val (.int p4), .unset, .unset, .unset, .unset] [(.int (1 : Int32))])
        exact hR X0 (fun fs hl => retN X0 hx (t := .boolean) hret (by simp) (hb hby d3_31) hl) (fun q => by rw [hret] at q; cases q) (by rw [e0]; exact ⟨(congrArg (fun q => some (Value.int q)) ((if_neg hb1).trans ((if_neg hb3).trans (if_pos hb8))).symm), N0, rfl⟩) (by decide) (by decide)
      · refine hp (fun tq kq => XS.icmpYes X0.here hx rfl (pc0 := 23) (pc' := 30) rfl (hb hby d3_23) rfl (feq hb8).2 (by decide) (by decide) kq) ?_
        show G s₁ (mkF m 30 #[.val (.ref p0), .val (.ref p1), .val (.int p2), .val (.long p3), .second, .val (.int p4), .unset, .unset, .unset, .unset] [])
        refine hp (fun tq kq => XS.iconst X0.here hx rfl (hb hby d3_30) kq) ?_
        show G s₁ (mkF m 31 #[.val (.ref p0), .val (.ref p1), .val (.int p2), .val (.long p3), .second, .val (.int p4), .unset, .unset, .unset, .unset] [(.int (0 : Int32))])
        exact hR X0 (fun fs hl => retN X0 hx (t := .boolean) hret (by simp) (hb hby d3_31) hl) (fun q => by rw [hret] at q; cases q) (by rw [e0]; exact ⟨(congrArg (fun q => some (Value.int q)) ((if_neg hb1).trans ((if_neg hb3).trans (if_neg hb8))).symm), N0, rfl⟩) (by decide) (by decide)
theorem own_start (x z : Int32) (hz : z = ((x &&& (2147483647 : Int32)) % (5 : Int32))) : ∃ s0 : Nat, z.toInt = (s0 : Int) ∧ s0 ≤ 4 := by
  have h := c_mask x 2147483647 31 (by decide) (by decide)
  have h2 := (c_irem (x &&& 2147483647) 5 5 (by decide)).1 (by omega)
  rw [← hz] at h2
  exact ⟨z.toInt.toNat, by omega, by omega⟩
/-- the byte of v at the shift k -/
theorem own_part (v : Int64) (k : Nat) (q : Int32) (hk : q.toBitVec.toNat % 64 = k) (h8 : k = 0 ∨ k = 8 ∨ k = 16 ∨ k = 24 ∨ k = 32 ∨ k = 40 ∨ k = 48 ∨ k = 56) :
    ((v.toUInt64 >>> (q &&& 0x3f).toInt64.toUInt64).toInt64).toInt32.toInt8.toInt32.toInt8.toInt32 = (if ((v >>> (q &&& 0x3f).toInt64) &&& (255 : Int64)) < (128 : Int64) then ((v >>> (q &&& 0x3f).toInt64) &&& (255 : Int64)).toInt32 else (((v >>> (q &&& 0x3f).toInt64) &&& (255 : Int64)).toInt32 - (256 : Int32))) := by
  have a1 := c_lshr v q k hk
  have a2 := c_maskL (v >>> (q &&& 0x3f).toInt64) 255 8 (by decide) (by decide)
  have a3 := c_l2i ((v >>> (q &&& 0x3f).toInt64) &&& 255)
  have a4 := c_isub ((v >>> (q &&& 0x3f).toInt64) &&& 255).toInt32 256
  have e1 : (256 : Int32).toInt = 256 := by decide
  have e2 : (128 : Int64).toInt = 128 := by decide
  have b1 : ((v.toUInt64 >>> (q &&& 0x3f).toInt64.toUInt64).toInt64).toInt % 256 = (v.toInt / (2 ^ k : Nat)) % 256 := by
    by_cases h0 : 0 < k
    · rw [c_lushr v q k hk h0]
      generalize v.toInt = V
      rcases h8 with h | h | h | h | h | h | h | h <;> (subst h; simp only [Nat.reducePow]; omega)
    · have h0' : k = 0 := by omega
      subst h0'
      have h1 := (sm64 q 0 hk).1
      have h2 : ((v.toUInt64 >>> (q &&& 0x3f).toInt64.toUInt64).toInt64) = v := by
        apply Int64.toBitVec_inj.mp
        show (v.toUInt64 >>> (q &&& 0x3f).toInt64.toUInt64).toBitVec = _
        rw [UInt64.toBitVec_shiftRight]
        show v.toBitVec >>> (((q &&& 0x3f).toInt64.toBitVec) % 64) = _
        rw [h1]; simp
      rw [h2]; simp
  generalize ((v.toUInt64 >>> (q &&& 0x3f).toInt64.toUInt64).toInt64) = U at *
  have b2 := c_l2i U
  have b3 := c_i2b U.toInt32
  have b4 := c_i2b U.toInt32.toInt8.toInt32
  rw [a1] at a2
  generalize (v.toInt / ((2 ^ k : Nat) : Int)) = V at *
  generalize ((v >>> (q &&& 0x3f).toInt64) &&& (255 : Int64)) = P at *
  apply Int32.toInt_inj.mp
  have r1 := rng32 (P.toInt32 - 256)
  have r2 := rng32 P.toInt32
  rw [e1] at a4
  generalize U.toInt32.toInt8.toInt32.toInt8.toInt32.toInt = x4 at *
  generalize U.toInt32.toInt8.toInt32.toInt = x3 at *
  generalize U.toInt32.toInt = x2 at *
  generalize U.toInt = x1 at *
  by_cases h : P < 128
  · rw [if_pos h]
    rw [Int64.lt_iff_toInt_lt, e2] at h
    generalize P.toInt32.toInt = y at *
    generalize P.toInt = y0 at *
    clear a4 r1 a1 e1 e2
    omega
  · rw [if_neg h]
    rw [Int64.lt_iff_toInt_lt, e2] at h
    generalize (P.toInt32 - 256).toInt = y2 at *
    generalize P.toInt32.toInt = y at *
    generalize P.toInt = y0 at *
    clear a1 e1 e2
    omega
theorem own_wr_out (f : Nat → Int32) (s0 : Nat) (v : Int64) (k : Nat) (h : k < s0 ∨ s0 + 8 ≤ k) : own_wr f s0 v k = f k := by
  have g : ∀ i, i ≤ 7 → ¬ k = s0 + i := fun i hi => by omega
  simp only [own_wr, own_up, g 0 (by decide), g 1 (by decide), g 2 (by decide), g 3 (by decide), g 4 (by decide), g 5 (by decide), g 6 (by decide), g 7 (by decide), if_false]
theorem own_wr_in (f : Nat → Int32) (s0 : Nat) (v : Int64) (j : Nat) (h : j < 8) : own_wr f s0 v (s0 + j) = ((v.toUInt64 >>> (Int32.ofNat (8 * j) &&& 0x3f).toInt64.toUInt64).toInt64).toInt32.toInt8.toInt32.toInt8.toInt32 := by
  have g : ∀ i, i ≤ 7 → (s0 + j = s0 + i ↔ j = i) := fun i hi => by omega
  simp only [own_wr, own_up, g 0 (by decide), g 1 (by decide), g 2 (by decide), g 3 (by decide), g 4 (by decide), g 5 (by decide), g 6 (by decide), g 7 (by decide)]
  rcases (by omega : j = 0 ∨ j = 1 ∨ j = 2 ∨ j = 3 ∨ j = 4 ∨ j = 5 ∨ j = 6 ∨ j = 7) with e | e | e | e | e | e | e | e <;> subst e <;> rfl
theorem own_law (fill z : Int32) (v : Int64) {s0 : Nat} (hs : z.toInt = (s0 : Int) ∧ s0 ≤ 4) (k : Nat) (hk : k < 12) : ¬ own_at (own_wr (own_fill fill) s0 v) (own_fill fill) z v (Int32.ofNat k) k = 0 := by
  have hkI : (Int32.ofNat k).toInt = (k : Int) := Int32.toInt_ofNat_of_lt (by omega)
  have e8 : (8 : Int32).toInt = 8 := by decide
  have c1 : Int32.ofNat k < z ↔ k < s0 := by rw [Int32.lt_iff_toInt_lt, hkI, hs.1]; omega
  have c2 : Int32.ofNat k < z + 8 ↔ k < s0 + 8 := by
    have a := c_iadd z 8
    have r := rng32 (z + 8)
    rw [Int32.lt_iff_toInt_lt, hkI]
    rw [e8, hs.1] at a
    generalize (z + 8).toInt = y at *
    omega
  have one : ¬ (1 : Int32) = 0 := by decide
  unfold own_at
  by_cases h1 : k < s0
  · rw [if_pos (c1.mpr h1), if_pos (own_wr_out _ _ _ _ (Or.inl h1))]; exact one
  · rw [if_neg (fun q => h1 (c1.mp q))]
    by_cases h2 : k < s0 + 8
    · rw [if_pos (c2.mpr h2)]
      obtain ⟨j, rfl⟩ : ∃ j, k = s0 + j := ⟨k - s0, by omega⟩
      have hj : j < 8 := by omega
      have hq : (8 : Int32) * (Int32.ofNat (s0 + j) - z) = Int32.ofNat (8 * j) := by
        have a := c_isub (Int32.ofNat (s0 + j)) z
        have r := rng32 (Int32.ofNat (s0 + j) - z)
        rw [hkI, hs.1] at a
        have b := c_imul 8 (Int32.ofNat (s0 + j) - z)
        have r2 := rng32 (8 * (Int32.ofNat (s0 + j) - z))
        rw [e8] at b
        apply Int32.toInt_inj.mp
        rw [Int32.toInt_ofNat_of_lt (by omega)]
        generalize (8 * (Int32.ofNat (s0 + j) - z)).toInt = y2 at *
        generalize (Int32.ofNat (s0 + j) - z).toInt = y at *
        omega
      rw [own_wr_in _ _ _ _ hj]
      simp only [hq]
      rw [if_pos (own_part v (8 * j) (Int32.ofNat (8 * j)) (by
        show (BitVec.ofNat 32 (8 * j)).toNat % 64 = 8 * j
        rw [BitVec.toNat_ofNat]; omega) (by omega))]
      exact one
    · rw [if_neg (fun q => h2 (c2.mp q)), if_pos (own_wr_out _ _ _ _ (Or.inr (by omega)))]; exact one

theorem own_ef0 (m : MethodId) (p0 : Int64) (p1 : Int32) (p2 : Int32) : entryFrame m #[(.long p0), (.int p1), (.int p2)] maxLocals = mkF m 0 #[.val (.long p0), .second, .val (.int p1), .val (.int p2), .unset, .unset, .unset] [] := by first | (simp [entryFrame, mkF, argsToLocals, Value.category, maxLocals]; done) | rfl
abbrev own_Q0 (n0 : Nat) (v : Option Value) (h : Heap) (L : List Loc) : Prop := v = some (.int 1) ∧ Fr n0 L
theorem own_pn0 : plainName "com/example/lakebed/lakebed/core/parquet/LittleEndianWriteLongPinLaw" = true := by first | (simp [plainName, overriddenIn]; done) | decide +kernel
set_option maxRecDepth 65536 in
set_option maxHeartbeats 40000000 in
theorem rm0 (l : Launch) (Z : State) (a0 : Array Value) (hw : ∀ d ∈ tables_1, d.before a0 Z = true) (ws : List Jvm.Cond) (p0 : Int64) (p1 : Int32) (p2 : Int32) (h0 : Heap) (n0 : Nat) (Z0 : n0 ≤ h0.size) :
    MetFree l x (head1 (Jvm.Cond.code x code maxLocals ret :: ws) room_1) (fun a U => a = #[(.long p0), (.int p1), (.int p2)] ∧ Z.Warmed39 U.vm ∧ U.heap = h0) (fun _ _ _ _ _ => True) (fun _ U o U' => ∃ v L, o = .returned v ∧ own_Q0 n0 v U'.heap L ∧ FrameEnd U o U' L room_1.cells room_1.slots) := by
  refine own_contract (plainFor_of_name own_pn0) (fun m => own_ef0 m p0 p1 p2) ?_
  intro p e s m below meth c s₁ G hx hby hml0 hown0 hnm hret hZ X0 e0 hp hR
  have hml : c.maxLocals = 7 := hml0
  have hown : s.vm.findClass "com/example/lakebed/lakebed/core/parquet/LittleEndianWriteLongPinLaw" = some m.cls := hown0
  have N0 := Fr.nil n0
  show G s₁ (mkF m 0 #[.val (.long p0), .second, .val (.int p1), .val (.int p2), .unset, .unset, .unset] [])
  have K0 : Keep h0 h0 [] := Keep.refl _ _
  refine hp (fun tq kq => XS.iloadN X0.here hx rfl (hb hby at_0) rfl kq) ?_
  show G s₁ (mkF m 1 #[.val (.long p0), .second, .val (.int p1), .val (.int p2), .unset, .unset, .unset] [(.int p1)])
  refine hp (fun tq kq => X0.ldcInt hx hown (mvT hZ (hw _ (List.mem_of_getElem? (i := 0) rfl))) (g := (mkF m 1 #[.val (.long p0), .second, .val (.int p1), .val (.int p2), .unset, .unset, .unset] [(.int p1)])) rfl (hb hby at_1) _ kq) ?_
  show G s₁ (mkF m 3 #[.val (.long p0), .second, .val (.int p1), .val (.int p2), .unset, .unset, .unset] [(.int (2147483647 : Int32)), (.int p1)])
  refine hp (fun tq kq => XS.iand X0.here hx rfl (hb hby at_3) rfl kq) ?_
  show G s₁ (mkF m 4 #[.val (.long p0), .second, .val (.int p1), .val (.int p2), .unset, .unset, .unset] [(.int (p1 &&& (2147483647 : Int32)))])
  refine hp (fun tq kq => XS.iconst X0.here hx rfl (hb hby at_4) kq) ?_
  show G s₁ (mkF m 5 #[.val (.long p0), .second, .val (.int p1), .val (.int p2), .unset, .unset, .unset] [(.int (5 : Int32)), (.int (p1 &&& (2147483647 : Int32)))])
  refine hp (fun tq kq => iremM X0 hx rfl (hb hby at_5) rfl (by decide) kq) ?_
  show G s₁ (mkF m 6 #[.val (.long p0), .second, .val (.int p1), .val (.int p2), .unset, .unset, .unset] [(.int ((p1 &&& (2147483647 : Int32)) % (5 : Int32)))])
  refine hp (fun tq kq => XS.istore X0.here hx rfl (hb hby at_6) rfl (l' := #[.val (.long p0), .second, .val (.int p1), .val (.int p2), .val (.int ((p1 &&& (2147483647 : Int32)) % (5 : Int32))), .unset, .unset]) rfl kq) ?_
  show G s₁ (mkF m 8 #[.val (.long p0), .second, .val (.int p1), .val (.int p2), .val (.int ((p1 &&& (2147483647 : Int32)) % (5 : Int32))), .unset, .unset] [])
  refine (?_ : ∀ (z1 : Int32), z1 = ((p1 &&& (2147483647 : Int32)) % (5 : Int32)) → G s₁ (mkF m 8 #[.val (.long p0), .second, .val (.int p1), .val (.int p2), .val (.int z1), .unset, .unset] [])) _ rfl
  intro z1 hz1
  obtain ⟨s0, hs⟩ := own_start p1 z1 hz1
  refine hp (fun tq kq => XS.iloadN X0.here hx rfl (hb hby at_8) rfl kq) ?_
  show G s₁ (mkF m 9 #[.val (.long p0), .second, .val (.int p1), .val (.int p2), .val (.int z1), .unset, .unset] [(.int p2)])
  obtain ⟨v2, T2, L2, X2, hQ2, st2⟩ := own_callS X0 hx hZ (y := (⟨"com/example/lakebed/lakebed/core/parquet/LittleEndianWriteLongPinLaw", "filled", "(I)[B"⟩ : MethodName)) (rm := ({ frames := 0, cells := 1, slots := 12, locals := 0 } : Room)) 0 hown (hw _ (List.mem_of_getElem? (i := 1) rfl)) (hw _ (List.mem_of_getElem? (i := 2) rfl)) (hw _ (List.mem_of_getElem? (i := 3) rfl)) (hw _ (List.mem_of_getElem? (i := 4) rfl)) (by decide) (rm1 l Z a0 hw [] p2 h0 n0 (Nat.le_trans Z0 K0.1)) e0 (by decide) (by decide) (g := (mkF m 9 #[.val (.long p0), .second, .val (.int p1), .val (.int p2), .val (.int z1), .unset, .unset] [(.int p2)])) rfl (by rw [hml]; rfl) [(.int p2)] [] own_pd0 rfl rfl (by show 2 * 0 + _ ≤ _; exact Nat.le_of_eq rfl) (hb hby at_9) rfl (by decide) (by decide)
  obtain ⟨b2, rfl, N2, Kc2, s2, V2_b2⟩ := hQ2
  have N2b := Fr.app N0 N2
  have sz_b2 : h0.size ≤ b2 := Nat.le_trans K0.1 s2
  have g_b2 : n0 ≤ b2 := Nat.le_trans Z0 sz_b2
  have K2 := K0.trans Kc2 all0
  refine hp st2 ?_
  show G T2 (mkF m 12 #[.val (.long p0), .second, .val (.int p1), .val (.int p2), .val (.int z1), .unset, .unset] [(.ref b2)])
  refine hp (fun tq kq => XS.astore X2.here hx rfl (hb hby at_12) rfl rfl (l' := #[.val (.long p0), .second, .val (.int p1), .val (.int p2), .val (.int z1), .val (.ref b2), .unset]) rfl kq) ?_
  show G T2 (mkF m 14 #[.val (.long p0), .second, .val (.int p1), .val (.int p2), .val (.int z1), .val (.ref b2), .unset] [])
  refine hp (fun tq kq => XS.iloadN X2.here hx rfl (hb hby at_14) rfl kq) ?_
  show G T2 (mkF m 15 #[.val (.long p0), .second, .val (.int p1), .val (.int p2), .val (.int z1), .val (.ref b2), .unset] [(.int p2)])
  obtain ⟨v3, T3, L3, X3, hQ3, st3⟩ := own_callS X2 hx hZ (y := (⟨"com/example/lakebed/lakebed/core/parquet/LittleEndianWriteLongPinLaw", "filled", "(I)[B"⟩ : MethodName)) (rm := ({ frames := 0, cells := 1, slots := 12, locals := 0 } : Room)) 0 hown (hw _ (List.mem_of_getElem? (i := 1) rfl)) (hw _ (List.mem_of_getElem? (i := 2) rfl)) (hw _ (List.mem_of_getElem? (i := 3) rfl)) (hw _ (List.mem_of_getElem? (i := 4) rfl)) (by decide) (rm1 l Z a0 hw [] p2 T2.heap n0 (Nat.le_trans Z0 K2.1)) rfl (by decide) (by decide) (g := (mkF m 15 #[.val (.long p0), .second, .val (.int p1), .val (.int p2), .val (.int z1), .val (.ref b2), .unset] [(.int p2)])) rfl (by rw [hml]; rfl) [(.int p2)] [] own_pd0 rfl rfl (by show 2 * 0 + _ ≤ _; exact Nat.le_of_eq rfl) (hb hby at_15) rfl (by decide) (by decide)
  obtain ⟨b3, rfl, N3, Kc3, s3, V3_b3⟩ := hQ3
  have N3b := Fr.app N2b N3
  have ne3_b2 : b2 ≠ b3 := Nat.ne_of_lt (Nat.lt_of_lt_of_le V2_b2.lt s3)
  have V3_b2 := V2_b2.keep Kc3 nin0
  have sz_b3 : h0.size ≤ b3 := Nat.le_trans K2.1 s3
  have g_b3 : n0 ≤ b3 := Nat.le_trans Z0 sz_b3
  have K3 := K2.trans Kc3 all0
  refine hp st3 ?_
  show G T3 (mkF m 18 #[.val (.long p0), .second, .val (.int p1), .val (.int p2), .val (.int z1), .val (.ref b2), .unset] [(.ref b3)])
  refine hp (fun tq kq => XS.astore X3.here hx rfl (hb hby at_18) rfl rfl (l' := #[.val (.long p0), .second, .val (.int p1), .val (.int p2), .val (.int z1), .val (.ref b2), .val (.ref b3)]) rfl kq) ?_
  show G T3 (mkF m 20 #[.val (.long p0), .second, .val (.int p1), .val (.int p2), .val (.int z1), .val (.ref b2), .val (.ref b3)] [])
  refine hp (fun tq kq => XS.aload X3.here hx rfl (hb hby at_20) rfl rfl kq) ?_
  show G T3 (mkF m 22 #[.val (.long p0), .second, .val (.int p1), .val (.int p2), .val (.int z1), .val (.ref b2), .val (.ref b3)] [(.ref b3)])
  refine hp (fun tq kq => XS.iload X3.here hx rfl (hb hby at_22) rfl kq) ?_
  show G T3 (mkF m 24 #[.val (.long p0), .second, .val (.int p1), .val (.int p2), .val (.int z1), .val (.ref b2), .val (.ref b3)] [(.int z1), (.ref b3)])
  refine hp (fun tq kq => XS.lloadN X3.here hx rfl (hb hby at_24) rfl kq) ?_
  show G T3 (mkF m 25 #[.val (.long p0), .second, .val (.int p1), .val (.int p2), .val (.int z1), .val (.ref b2), .val (.ref b3)] [(.long p0), (.int z1), (.ref b3)])
  obtain ⟨v4, T4, L4, X4, hQ4, st4⟩ := own_callS X3 hx hZ (y := (⟨"com/example/lakebed/lakebed/core/parquet/LittleEndian", "writeLong", "([BIJ)V"⟩ : MethodName)) (rm := ({ frames := 0, cells := 0, slots := 0, locals := 0 } : Room)) 0 hown (hw _ (List.mem_of_getElem? (i := 6) rfl)) (hw _ (List.mem_of_getElem? (i := 7) rfl)) (hw _ (List.mem_of_getElem? (i := 8) rfl)) (hw _ (List.mem_of_getElem? (i := 9) rfl)) (by decide) (rm2 l Z a0 hw [] b3 z1 p0 s0 (own_fill p2) T3.heap n0 hs V3_b3 g_b3) rfl (by decide) (by decide) (g := (mkF m 25 #[.val (.long p0), .second, .val (.int p1), .val (.int p2), .val (.int z1), .val (.ref b2), .val (.ref b3)] [(.long p0), (.int z1), (.ref b3)])) rfl (by rw [hml]; rfl) [(.ref b3), (.int z1), (.long p0)] [] own_pd1 rfl rfl (by show 2 * 0 + _ ≤ _; exact Nat.le_of_eq rfl) (hb hby at_25) rfl (by decide) (by decide)
  obtain ⟨rfl, N4, Kc4, V4_b3⟩ := hQ4
  have N4b := Fr.app N3b N4
  have V4_b2 := V3_b2.keep Kc4 (ninS ne3_b2 nin0)
  have K4 := K3.trans Kc4 (allS (Or.inr sz_b3) all0)
  refine hp st4 ?_
  show G T4 (mkF m 28 #[.val (.long p0), .second, .val (.int p1), .val (.int p2), .val (.int z1), .val (.ref b2), .val (.ref b3)] [])
  refine hp (fun tq kq => XS.aload X4.here hx rfl (hb hby at_28) rfl rfl kq) ?_
  show G T4 (mkF m 30 #[.val (.long p0), .second, .val (.int p1), .val (.int p2), .val (.int z1), .val (.ref b2), .val (.ref b3)] [(.ref b3)])
  refine hp (fun tq kq => XS.aload X4.here hx rfl (hb hby at_30) rfl rfl kq) ?_
  show G T4 (mkF m 32 #[.val (.long p0), .second, .val (.int p1), .val (.int p2), .val (.int z1), .val (.ref b2), .val (.ref b3)] [(.ref b2), (.ref b3)])
  refine hp (fun tq kq => XS.iload X4.here hx rfl (hb hby at_32) rfl kq) ?_
  show G T4 (mkF m 34 #[.val (.long p0), .second, .val (.int p1), .val (.int p2), .val (.int z1), .val (.ref b2), .val (.ref b3)] [(.int z1), (.ref b2), (.ref b3)])
  refine hp (fun tq kq => XS.lloadN X4.here hx rfl (hb hby at_34) rfl kq) ?_
  show G T4 (mkF m 35 #[.val (.long p0), .second, .val (.int p1), .val (.int p2), .val (.int z1), .val (.ref b2), .val (.ref b3)] [(.long p0), (.int z1), (.ref b2), (.ref b3)])
  refine hp (fun tq kq => XS.iconst X4.here hx rfl (hb hby at_35) kq) ?_
  show G T4 (mkF m 36 #[.val (.long p0), .second, .val (.int p1), .val (.int p2), .val (.int z1), .val (.ref b2), .val (.ref b3)] [(.int (0 : Int32)), (.long p0), (.int z1), (.ref b2), (.ref b3)])
  obtain ⟨v5, T5, L5, X5, hQ5, st5⟩ := own_callS X4 hx hZ (y := (⟨"com/example/lakebed/lakebed/core/parquet/LittleEndianWriteLongPinLaw", "at", "([B[BIJI)Z"⟩ : MethodName)) (rm := ({ frames := 0, cells := 0, slots := 0, locals := 0 } : Room)) 0 hown (hw _ (List.mem_of_getElem? (i := 10) rfl)) (hw _ (List.mem_of_getElem? (i := 11) rfl)) (hw _ (List.mem_of_getElem? (i := 3) rfl)) (hw _ (List.mem_of_getElem? (i := 12) rfl)) (by decide) (rm3 l Z a0 hw [] b3 b2 z1 p0 (0 : Int32) 0 (own_wr (own_fill p2) s0 p0) (own_fill p2) T4.heap n0 V4_b3 V4_b2 (by decide)) rfl (by decide) (by decide) (g := (mkF m 36 #[.val (.long p0), .second, .val (.int p1), .val (.int p2), .val (.int z1), .val (.ref b2), .val (.ref b3)] [(.int (0 : Int32)), (.long p0), (.int z1), (.ref b2), (.ref b3)])) rfl (by rw [hml]; rfl) [(.ref b3), (.ref b2), (.int z1), (.long p0), (.int (0 : Int32))] [] own_pd2 rfl rfl (by show 2 * 0 + _ ≤ _; exact Nat.le_of_eq rfl) (hb hby at_36) rfl (by decide) (by decide)
  obtain ⟨rfl, N5, e5⟩ := hQ5
  have F5 := Fr.app N4b N5
  refine hp st5 ?_
  show G T5 (mkF m 39 #[.val (.long p0), .second, .val (.int p1), .val (.int p2), .val (.int z1), .val (.ref b2), .val (.ref b3)] [(.int (own_at (own_wr (own_fill p2) s0 p0) (own_fill p2) z1 p0 (0 : Int32) 0))])
  refine hp (fun tq kq => XS.ifNo X5.here hx rfl (hb hby at_39) rfl ((if0 _ _).trans (feq (own_law p2 z1 p0 hs 0 (by decide))).1) kq) ?_
  show G T5 (mkF m 42 #[.val (.long p0), .second, .val (.int p1), .val (.int p2), .val (.int z1), .val (.ref b2), .val (.ref b3)] [])
  refine hp (fun tq kq => XS.aload X5.here hx rfl (hb hby at_42) rfl rfl kq) ?_
  show G T5 (mkF m 44 #[.val (.long p0), .second, .val (.int p1), .val (.int p2), .val (.int z1), .val (.ref b2), .val (.ref b3)] [(.ref b3)])
  refine hp (fun tq kq => XS.aload X5.here hx rfl (hb hby at_44) rfl rfl kq) ?_
  show G T5 (mkF m 46 #[.val (.long p0), .second, .val (.int p1), .val (.int p2), .val (.int z1), .val (.ref b2), .val (.ref b3)] [(.ref b2), (.ref b3)])
  refine hp (fun tq kq => XS.iload X5.here hx rfl (hb hby at_46) rfl kq) ?_
  show G T5 (mkF m 48 #[.val (.long p0), .second, .val (.int p1), .val (.int p2), .val (.int z1), .val (.ref b2), .val (.ref b3)] [(.int z1), (.ref b2), (.ref b3)])
  refine hp (fun tq kq => XS.lloadN X5.here hx rfl (hb hby at_48) rfl kq) ?_
  show G T5 (mkF m 49 #[.val (.long p0), .second, .val (.int p1), .val (.int p2), .val (.int z1), .val (.ref b2), .val (.ref b3)] [(.long p0), (.int z1), (.ref b2), (.ref b3)])
  refine hp (fun tq kq => XS.iconst X5.here hx rfl (hb hby at_49) kq) ?_
  show G T5 (mkF m 50 #[.val (.long p0), .second, .val (.int p1), .val (.int p2), .val (.int z1), .val (.ref b2), .val (.ref b3)] [(.int (1 : Int32)), (.long p0), (.int z1), (.ref b2), (.ref b3)])
  obtain ⟨v6, T6, L6, X6, hQ6, st6⟩ := own_callS X5 hx hZ (y := (⟨"com/example/lakebed/lakebed/core/parquet/LittleEndianWriteLongPinLaw", "at", "([B[BIJI)Z"⟩ : MethodName)) (rm := ({ frames := 0, cells := 0, slots := 0, locals := 0 } : Room)) 0 hown (hw _ (List.mem_of_getElem? (i := 10) rfl)) (hw _ (List.mem_of_getElem? (i := 11) rfl)) (hw _ (List.mem_of_getElem? (i := 3) rfl)) (hw _ (List.mem_of_getElem? (i := 12) rfl)) (by decide) (rm3 l Z a0 hw [] b3 b2 z1 p0 (1 : Int32) 1 (own_wr (own_fill p2) s0 p0) (own_fill p2) T4.heap n0 V4_b3 V4_b2 (by decide)) e5 (by decide) (by decide) (g := (mkF m 50 #[.val (.long p0), .second, .val (.int p1), .val (.int p2), .val (.int z1), .val (.ref b2), .val (.ref b3)] [(.int (1 : Int32)), (.long p0), (.int z1), (.ref b2), (.ref b3)])) rfl (by rw [hml]; rfl) [(.ref b3), (.ref b2), (.int z1), (.long p0), (.int (1 : Int32))] [] own_pd2 rfl rfl (by show 2 * 0 + _ ≤ _; exact Nat.le_of_eq rfl) (hb hby at_50) rfl (by decide) (by decide)
  obtain ⟨rfl, N6, e6⟩ := hQ6
  have F6 := Fr.app F5 N6
  refine hp st6 ?_
  show G T6 (mkF m 53 #[.val (.long p0), .second, .val (.int p1), .val (.int p2), .val (.int z1), .val (.ref b2), .val (.ref b3)] [(.int (own_at (own_wr (own_fill p2) s0 p0) (own_fill p2) z1 p0 (1 : Int32) 1))])
  refine hp (fun tq kq => XS.ifNo X6.here hx rfl (hb hby at_53) rfl ((if0 _ _).trans (feq (own_law p2 z1 p0 hs 1 (by decide))).1) kq) ?_
  show G T6 (mkF m 56 #[.val (.long p0), .second, .val (.int p1), .val (.int p2), .val (.int z1), .val (.ref b2), .val (.ref b3)] [])
  refine hp (fun tq kq => XS.aload X6.here hx rfl (hb hby at_56) rfl rfl kq) ?_
  show G T6 (mkF m 58 #[.val (.long p0), .second, .val (.int p1), .val (.int p2), .val (.int z1), .val (.ref b2), .val (.ref b3)] [(.ref b3)])
  refine hp (fun tq kq => XS.aload X6.here hx rfl (hb hby at_58) rfl rfl kq) ?_
  show G T6 (mkF m 60 #[.val (.long p0), .second, .val (.int p1), .val (.int p2), .val (.int z1), .val (.ref b2), .val (.ref b3)] [(.ref b2), (.ref b3)])
  refine hp (fun tq kq => XS.iload X6.here hx rfl (hb hby at_60) rfl kq) ?_
  show G T6 (mkF m 62 #[.val (.long p0), .second, .val (.int p1), .val (.int p2), .val (.int z1), .val (.ref b2), .val (.ref b3)] [(.int z1), (.ref b2), (.ref b3)])
  refine hp (fun tq kq => XS.lloadN X6.here hx rfl (hb hby at_62) rfl kq) ?_
  show G T6 (mkF m 63 #[.val (.long p0), .second, .val (.int p1), .val (.int p2), .val (.int z1), .val (.ref b2), .val (.ref b3)] [(.long p0), (.int z1), (.ref b2), (.ref b3)])
  refine hp (fun tq kq => XS.iconst X6.here hx rfl (hb hby at_63) kq) ?_
  show G T6 (mkF m 64 #[.val (.long p0), .second, .val (.int p1), .val (.int p2), .val (.int z1), .val (.ref b2), .val (.ref b3)] [(.int (2 : Int32)), (.long p0), (.int z1), (.ref b2), (.ref b3)])
  obtain ⟨v7, T7, L7, X7, hQ7, st7⟩ := own_callS X6 hx hZ (y := (⟨"com/example/lakebed/lakebed/core/parquet/LittleEndianWriteLongPinLaw", "at", "([B[BIJI)Z"⟩ : MethodName)) (rm := ({ frames := 0, cells := 0, slots := 0, locals := 0 } : Room)) 0 hown (hw _ (List.mem_of_getElem? (i := 10) rfl)) (hw _ (List.mem_of_getElem? (i := 11) rfl)) (hw _ (List.mem_of_getElem? (i := 3) rfl)) (hw _ (List.mem_of_getElem? (i := 12) rfl)) (by decide) (rm3 l Z a0 hw [] b3 b2 z1 p0 (2 : Int32) 2 (own_wr (own_fill p2) s0 p0) (own_fill p2) T4.heap n0 V4_b3 V4_b2 (by decide)) e6 (by decide) (by decide) (g := (mkF m 64 #[.val (.long p0), .second, .val (.int p1), .val (.int p2), .val (.int z1), .val (.ref b2), .val (.ref b3)] [(.int (2 : Int32)), (.long p0), (.int z1), (.ref b2), (.ref b3)])) rfl (by rw [hml]; rfl) [(.ref b3), (.ref b2), (.int z1), (.long p0), (.int (2 : Int32))] [] own_pd2 rfl rfl (by show 2 * 0 + _ ≤ _; exact Nat.le_of_eq rfl) (hb hby at_64) rfl (by decide) (by decide)
  obtain ⟨rfl, N7, e7⟩ := hQ7
  have F7 := Fr.app F6 N7
  refine hp st7 ?_
  show G T7 (mkF m 67 #[.val (.long p0), .second, .val (.int p1), .val (.int p2), .val (.int z1), .val (.ref b2), .val (.ref b3)] [(.int (own_at (own_wr (own_fill p2) s0 p0) (own_fill p2) z1 p0 (2 : Int32) 2))])
  refine hp (fun tq kq => XS.ifNo X7.here hx rfl (hb hby at_67) rfl ((if0 _ _).trans (feq (own_law p2 z1 p0 hs 2 (by decide))).1) kq) ?_
  show G T7 (mkF m 70 #[.val (.long p0), .second, .val (.int p1), .val (.int p2), .val (.int z1), .val (.ref b2), .val (.ref b3)] [])
  refine hp (fun tq kq => XS.aload X7.here hx rfl (hb hby at_70) rfl rfl kq) ?_
  show G T7 (mkF m 72 #[.val (.long p0), .second, .val (.int p1), .val (.int p2), .val (.int z1), .val (.ref b2), .val (.ref b3)] [(.ref b3)])
  refine hp (fun tq kq => XS.aload X7.here hx rfl (hb hby at_72) rfl rfl kq) ?_
  show G T7 (mkF m 74 #[.val (.long p0), .second, .val (.int p1), .val (.int p2), .val (.int z1), .val (.ref b2), .val (.ref b3)] [(.ref b2), (.ref b3)])
  refine hp (fun tq kq => XS.iload X7.here hx rfl (hb hby at_74) rfl kq) ?_
  show G T7 (mkF m 76 #[.val (.long p0), .second, .val (.int p1), .val (.int p2), .val (.int z1), .val (.ref b2), .val (.ref b3)] [(.int z1), (.ref b2), (.ref b3)])
  refine hp (fun tq kq => XS.lloadN X7.here hx rfl (hb hby at_76) rfl kq) ?_
  show G T7 (mkF m 77 #[.val (.long p0), .second, .val (.int p1), .val (.int p2), .val (.int z1), .val (.ref b2), .val (.ref b3)] [(.long p0), (.int z1), (.ref b2), (.ref b3)])
  refine hp (fun tq kq => XS.iconst X7.here hx rfl (hb hby at_77) kq) ?_
  show G T7 (mkF m 78 #[.val (.long p0), .second, .val (.int p1), .val (.int p2), .val (.int z1), .val (.ref b2), .val (.ref b3)] [(.int (3 : Int32)), (.long p0), (.int z1), (.ref b2), (.ref b3)])
  obtain ⟨v8, T8, L8, X8, hQ8, st8⟩ := own_callS X7 hx hZ (y := (⟨"com/example/lakebed/lakebed/core/parquet/LittleEndianWriteLongPinLaw", "at", "([B[BIJI)Z"⟩ : MethodName)) (rm := ({ frames := 0, cells := 0, slots := 0, locals := 0 } : Room)) 0 hown (hw _ (List.mem_of_getElem? (i := 10) rfl)) (hw _ (List.mem_of_getElem? (i := 11) rfl)) (hw _ (List.mem_of_getElem? (i := 3) rfl)) (hw _ (List.mem_of_getElem? (i := 12) rfl)) (by decide) (rm3 l Z a0 hw [] b3 b2 z1 p0 (3 : Int32) 3 (own_wr (own_fill p2) s0 p0) (own_fill p2) T4.heap n0 V4_b3 V4_b2 (by decide)) e7 (by decide) (by decide) (g := (mkF m 78 #[.val (.long p0), .second, .val (.int p1), .val (.int p2), .val (.int z1), .val (.ref b2), .val (.ref b3)] [(.int (3 : Int32)), (.long p0), (.int z1), (.ref b2), (.ref b3)])) rfl (by rw [hml]; rfl) [(.ref b3), (.ref b2), (.int z1), (.long p0), (.int (3 : Int32))] [] own_pd2 rfl rfl (by show 2 * 0 + _ ≤ _; exact Nat.le_of_eq rfl) (hb hby at_78) rfl (by decide) (by decide)
  obtain ⟨rfl, N8, e8⟩ := hQ8
  have F8 := Fr.app F7 N8
  refine hp st8 ?_
  show G T8 (mkF m 81 #[.val (.long p0), .second, .val (.int p1), .val (.int p2), .val (.int z1), .val (.ref b2), .val (.ref b3)] [(.int (own_at (own_wr (own_fill p2) s0 p0) (own_fill p2) z1 p0 (3 : Int32) 3))])
  refine hp (fun tq kq => XS.ifNo X8.here hx rfl (hb hby at_81) rfl ((if0 _ _).trans (feq (own_law p2 z1 p0 hs 3 (by decide))).1) kq) ?_
  show G T8 (mkF m 84 #[.val (.long p0), .second, .val (.int p1), .val (.int p2), .val (.int z1), .val (.ref b2), .val (.ref b3)] [])
  refine hp (fun tq kq => XS.aload X8.here hx rfl (hb hby at_84) rfl rfl kq) ?_
  show G T8 (mkF m 86 #[.val (.long p0), .second, .val (.int p1), .val (.int p2), .val (.int z1), .val (.ref b2), .val (.ref b3)] [(.ref b3)])
  refine hp (fun tq kq => XS.aload X8.here hx rfl (hb hby at_86) rfl rfl kq) ?_
  show G T8 (mkF m 88 #[.val (.long p0), .second, .val (.int p1), .val (.int p2), .val (.int z1), .val (.ref b2), .val (.ref b3)] [(.ref b2), (.ref b3)])
  refine hp (fun tq kq => XS.iload X8.here hx rfl (hb hby at_88) rfl kq) ?_
  show G T8 (mkF m 90 #[.val (.long p0), .second, .val (.int p1), .val (.int p2), .val (.int z1), .val (.ref b2), .val (.ref b3)] [(.int z1), (.ref b2), (.ref b3)])
  refine hp (fun tq kq => XS.lloadN X8.here hx rfl (hb hby at_90) rfl kq) ?_
  show G T8 (mkF m 91 #[.val (.long p0), .second, .val (.int p1), .val (.int p2), .val (.int z1), .val (.ref b2), .val (.ref b3)] [(.long p0), (.int z1), (.ref b2), (.ref b3)])
  refine hp (fun tq kq => XS.iconst X8.here hx rfl (hb hby at_91) kq) ?_
  show G T8 (mkF m 92 #[.val (.long p0), .second, .val (.int p1), .val (.int p2), .val (.int z1), .val (.ref b2), .val (.ref b3)] [(.int (4 : Int32)), (.long p0), (.int z1), (.ref b2), (.ref b3)])
  obtain ⟨v9, T9, L9, X9, hQ9, st9⟩ := own_callS X8 hx hZ (y := (⟨"com/example/lakebed/lakebed/core/parquet/LittleEndianWriteLongPinLaw", "at", "([B[BIJI)Z"⟩ : MethodName)) (rm := ({ frames := 0, cells := 0, slots := 0, locals := 0 } : Room)) 0 hown (hw _ (List.mem_of_getElem? (i := 10) rfl)) (hw _ (List.mem_of_getElem? (i := 11) rfl)) (hw _ (List.mem_of_getElem? (i := 3) rfl)) (hw _ (List.mem_of_getElem? (i := 12) rfl)) (by decide) (rm3 l Z a0 hw [] b3 b2 z1 p0 (4 : Int32) 4 (own_wr (own_fill p2) s0 p0) (own_fill p2) T4.heap n0 V4_b3 V4_b2 (by decide)) e8 (by decide) (by decide) (g := (mkF m 92 #[.val (.long p0), .second, .val (.int p1), .val (.int p2), .val (.int z1), .val (.ref b2), .val (.ref b3)] [(.int (4 : Int32)), (.long p0), (.int z1), (.ref b2), (.ref b3)])) rfl (by rw [hml]; rfl) [(.ref b3), (.ref b2), (.int z1), (.long p0), (.int (4 : Int32))] [] own_pd2 rfl rfl (by show 2 * 0 + _ ≤ _; exact Nat.le_of_eq rfl) (hb hby at_92) rfl (by decide) (by decide)
  obtain ⟨rfl, N9, e9⟩ := hQ9
  have F9 := Fr.app F8 N9
  refine hp st9 ?_
  show G T9 (mkF m 95 #[.val (.long p0), .second, .val (.int p1), .val (.int p2), .val (.int z1), .val (.ref b2), .val (.ref b3)] [(.int (own_at (own_wr (own_fill p2) s0 p0) (own_fill p2) z1 p0 (4 : Int32) 4))])
  refine hp (fun tq kq => XS.ifNo X9.here hx rfl (hb hby at_95) rfl ((if0 _ _).trans (feq (own_law p2 z1 p0 hs 4 (by decide))).1) kq) ?_
  show G T9 (mkF m 98 #[.val (.long p0), .second, .val (.int p1), .val (.int p2), .val (.int z1), .val (.ref b2), .val (.ref b3)] [])
  refine hp (fun tq kq => XS.aload X9.here hx rfl (hb hby at_98) rfl rfl kq) ?_
  show G T9 (mkF m 100 #[.val (.long p0), .second, .val (.int p1), .val (.int p2), .val (.int z1), .val (.ref b2), .val (.ref b3)] [(.ref b3)])
  refine hp (fun tq kq => XS.aload X9.here hx rfl (hb hby at_100) rfl rfl kq) ?_
  show G T9 (mkF m 102 #[.val (.long p0), .second, .val (.int p1), .val (.int p2), .val (.int z1), .val (.ref b2), .val (.ref b3)] [(.ref b2), (.ref b3)])
  refine hp (fun tq kq => XS.iload X9.here hx rfl (hb hby at_102) rfl kq) ?_
  show G T9 (mkF m 104 #[.val (.long p0), .second, .val (.int p1), .val (.int p2), .val (.int z1), .val (.ref b2), .val (.ref b3)] [(.int z1), (.ref b2), (.ref b3)])
  refine hp (fun tq kq => XS.lloadN X9.here hx rfl (hb hby at_104) rfl kq) ?_
  show G T9 (mkF m 105 #[.val (.long p0), .second, .val (.int p1), .val (.int p2), .val (.int z1), .val (.ref b2), .val (.ref b3)] [(.long p0), (.int z1), (.ref b2), (.ref b3)])
  refine hp (fun tq kq => XS.iconst X9.here hx rfl (hb hby at_105) kq) ?_
  show G T9 (mkF m 106 #[.val (.long p0), .second, .val (.int p1), .val (.int p2), .val (.int z1), .val (.ref b2), .val (.ref b3)] [(.int (5 : Int32)), (.long p0), (.int z1), (.ref b2), (.ref b3)])
  obtain ⟨v10, T10, L10, X10, hQ10, st10⟩ := own_callS X9 hx hZ (y := (⟨"com/example/lakebed/lakebed/core/parquet/LittleEndianWriteLongPinLaw", "at", "([B[BIJI)Z"⟩ : MethodName)) (rm := ({ frames := 0, cells := 0, slots := 0, locals := 0 } : Room)) 0 hown (hw _ (List.mem_of_getElem? (i := 10) rfl)) (hw _ (List.mem_of_getElem? (i := 11) rfl)) (hw _ (List.mem_of_getElem? (i := 3) rfl)) (hw _ (List.mem_of_getElem? (i := 12) rfl)) (by decide) (rm3 l Z a0 hw [] b3 b2 z1 p0 (5 : Int32) 5 (own_wr (own_fill p2) s0 p0) (own_fill p2) T4.heap n0 V4_b3 V4_b2 (by decide)) e9 (by decide) (by decide) (g := (mkF m 106 #[.val (.long p0), .second, .val (.int p1), .val (.int p2), .val (.int z1), .val (.ref b2), .val (.ref b3)] [(.int (5 : Int32)), (.long p0), (.int z1), (.ref b2), (.ref b3)])) rfl (by rw [hml]; rfl) [(.ref b3), (.ref b2), (.int z1), (.long p0), (.int (5 : Int32))] [] own_pd2 rfl rfl (by show 2 * 0 + _ ≤ _; exact Nat.le_of_eq rfl) (hb hby at_106) rfl (by decide) (by decide)
  obtain ⟨rfl, N10, e10⟩ := hQ10
  have F10 := Fr.app F9 N10
  refine hp st10 ?_
  show G T10 (mkF m 109 #[.val (.long p0), .second, .val (.int p1), .val (.int p2), .val (.int z1), .val (.ref b2), .val (.ref b3)] [(.int (own_at (own_wr (own_fill p2) s0 p0) (own_fill p2) z1 p0 (5 : Int32) 5))])
  refine hp (fun tq kq => XS.ifNo X10.here hx rfl (hb hby at_109) rfl ((if0 _ _).trans (feq (own_law p2 z1 p0 hs 5 (by decide))).1) kq) ?_
  show G T10 (mkF m 112 #[.val (.long p0), .second, .val (.int p1), .val (.int p2), .val (.int z1), .val (.ref b2), .val (.ref b3)] [])
  refine hp (fun tq kq => XS.aload X10.here hx rfl (hb hby at_112) rfl rfl kq) ?_
  show G T10 (mkF m 114 #[.val (.long p0), .second, .val (.int p1), .val (.int p2), .val (.int z1), .val (.ref b2), .val (.ref b3)] [(.ref b3)])
  refine hp (fun tq kq => XS.aload X10.here hx rfl (hb hby at_114) rfl rfl kq) ?_
  show G T10 (mkF m 116 #[.val (.long p0), .second, .val (.int p1), .val (.int p2), .val (.int z1), .val (.ref b2), .val (.ref b3)] [(.ref b2), (.ref b3)])
  refine hp (fun tq kq => XS.iload X10.here hx rfl (hb hby at_116) rfl kq) ?_
  show G T10 (mkF m 118 #[.val (.long p0), .second, .val (.int p1), .val (.int p2), .val (.int z1), .val (.ref b2), .val (.ref b3)] [(.int z1), (.ref b2), (.ref b3)])
  refine hp (fun tq kq => XS.lloadN X10.here hx rfl (hb hby at_118) rfl kq) ?_
  show G T10 (mkF m 119 #[.val (.long p0), .second, .val (.int p1), .val (.int p2), .val (.int z1), .val (.ref b2), .val (.ref b3)] [(.long p0), (.int z1), (.ref b2), (.ref b3)])
  refine hp (fun tq kq => XS.bipush X10.here hx rfl (hb hby at_119) kq) ?_
  show G T10 (mkF m 121 #[.val (.long p0), .second, .val (.int p1), .val (.int p2), .val (.int z1), .val (.ref b2), .val (.ref b3)] [(.int (6 : Int32)), (.long p0), (.int z1), (.ref b2), (.ref b3)])
  obtain ⟨v11, T11, L11, X11, hQ11, st11⟩ := own_callS X10 hx hZ (y := (⟨"com/example/lakebed/lakebed/core/parquet/LittleEndianWriteLongPinLaw", "at", "([B[BIJI)Z"⟩ : MethodName)) (rm := ({ frames := 0, cells := 0, slots := 0, locals := 0 } : Room)) 0 hown (hw _ (List.mem_of_getElem? (i := 10) rfl)) (hw _ (List.mem_of_getElem? (i := 11) rfl)) (hw _ (List.mem_of_getElem? (i := 3) rfl)) (hw _ (List.mem_of_getElem? (i := 12) rfl)) (by decide) (rm3 l Z a0 hw [] b3 b2 z1 p0 (6 : Int32) 6 (own_wr (own_fill p2) s0 p0) (own_fill p2) T4.heap n0 V4_b3 V4_b2 (by decide)) e10 (by decide) (by decide) (g := (mkF m 121 #[.val (.long p0), .second, .val (.int p1), .val (.int p2), .val (.int z1), .val (.ref b2), .val (.ref b3)] [(.int (6 : Int32)), (.long p0), (.int z1), (.ref b2), (.ref b3)])) rfl (by rw [hml]; rfl) [(.ref b3), (.ref b2), (.int z1), (.long p0), (.int (6 : Int32))] [] own_pd2 rfl rfl (by show 2 * 0 + _ ≤ _; exact Nat.le_of_eq rfl) (hb hby at_121) rfl (by decide) (by decide)
  obtain ⟨rfl, N11, e11⟩ := hQ11
  have F11 := Fr.app F10 N11
  refine hp st11 ?_
  show G T11 (mkF m 124 #[.val (.long p0), .second, .val (.int p1), .val (.int p2), .val (.int z1), .val (.ref b2), .val (.ref b3)] [(.int (own_at (own_wr (own_fill p2) s0 p0) (own_fill p2) z1 p0 (6 : Int32) 6))])
  refine hp (fun tq kq => XS.ifNo X11.here hx rfl (hb hby at_124) rfl ((if0 _ _).trans (feq (own_law p2 z1 p0 hs 6 (by decide))).1) kq) ?_
  show G T11 (mkF m 127 #[.val (.long p0), .second, .val (.int p1), .val (.int p2), .val (.int z1), .val (.ref b2), .val (.ref b3)] [])
  refine hp (fun tq kq => XS.aload X11.here hx rfl (hb hby at_127) rfl rfl kq) ?_
  show G T11 (mkF m 129 #[.val (.long p0), .second, .val (.int p1), .val (.int p2), .val (.int z1), .val (.ref b2), .val (.ref b3)] [(.ref b3)])
  refine hp (fun tq kq => XS.aload X11.here hx rfl (hb hby at_129) rfl rfl kq) ?_
  show G T11 (mkF m 131 #[.val (.long p0), .second, .val (.int p1), .val (.int p2), .val (.int z1), .val (.ref b2), .val (.ref b3)] [(.ref b2), (.ref b3)])
  refine hp (fun tq kq => XS.iload X11.here hx rfl (hb hby at_131) rfl kq) ?_
  show G T11 (mkF m 133 #[.val (.long p0), .second, .val (.int p1), .val (.int p2), .val (.int z1), .val (.ref b2), .val (.ref b3)] [(.int z1), (.ref b2), (.ref b3)])
  refine hp (fun tq kq => XS.lloadN X11.here hx rfl (hb hby at_133) rfl kq) ?_
  show G T11 (mkF m 134 #[.val (.long p0), .second, .val (.int p1), .val (.int p2), .val (.int z1), .val (.ref b2), .val (.ref b3)] [(.long p0), (.int z1), (.ref b2), (.ref b3)])
  refine hp (fun tq kq => XS.bipush X11.here hx rfl (hb hby at_134) kq) ?_
  show G T11 (mkF m 136 #[.val (.long p0), .second, .val (.int p1), .val (.int p2), .val (.int z1), .val (.ref b2), .val (.ref b3)] [(.int (7 : Int32)), (.long p0), (.int z1), (.ref b2), (.ref b3)])
  obtain ⟨v12, T12, L12, X12, hQ12, st12⟩ := own_callS X11 hx hZ (y := (⟨"com/example/lakebed/lakebed/core/parquet/LittleEndianWriteLongPinLaw", "at", "([B[BIJI)Z"⟩ : MethodName)) (rm := ({ frames := 0, cells := 0, slots := 0, locals := 0 } : Room)) 0 hown (hw _ (List.mem_of_getElem? (i := 10) rfl)) (hw _ (List.mem_of_getElem? (i := 11) rfl)) (hw _ (List.mem_of_getElem? (i := 3) rfl)) (hw _ (List.mem_of_getElem? (i := 12) rfl)) (by decide) (rm3 l Z a0 hw [] b3 b2 z1 p0 (7 : Int32) 7 (own_wr (own_fill p2) s0 p0) (own_fill p2) T4.heap n0 V4_b3 V4_b2 (by decide)) e11 (by decide) (by decide) (g := (mkF m 136 #[.val (.long p0), .second, .val (.int p1), .val (.int p2), .val (.int z1), .val (.ref b2), .val (.ref b3)] [(.int (7 : Int32)), (.long p0), (.int z1), (.ref b2), (.ref b3)])) rfl (by rw [hml]; rfl) [(.ref b3), (.ref b2), (.int z1), (.long p0), (.int (7 : Int32))] [] own_pd2 rfl rfl (by show 2 * 0 + _ ≤ _; exact Nat.le_of_eq rfl) (hb hby at_136) rfl (by decide) (by decide)
  obtain ⟨rfl, N12, e12⟩ := hQ12
  have F12 := Fr.app F11 N12
  refine hp st12 ?_
  show G T12 (mkF m 139 #[.val (.long p0), .second, .val (.int p1), .val (.int p2), .val (.int z1), .val (.ref b2), .val (.ref b3)] [(.int (own_at (own_wr (own_fill p2) s0 p0) (own_fill p2) z1 p0 (7 : Int32) 7))])
  refine hp (fun tq kq => XS.ifNo X12.here hx rfl (hb hby at_139) rfl ((if0 _ _).trans (feq (own_law p2 z1 p0 hs 7 (by decide))).1) kq) ?_
  show G T12 (mkF m 142 #[.val (.long p0), .second, .val (.int p1), .val (.int p2), .val (.int z1), .val (.ref b2), .val (.ref b3)] [])
  refine hp (fun tq kq => XS.aload X12.here hx rfl (hb hby at_142) rfl rfl kq) ?_
  show G T12 (mkF m 144 #[.val (.long p0), .second, .val (.int p1), .val (.int p2), .val (.int z1), .val (.ref b2), .val (.ref b3)] [(.ref b3)])
  refine hp (fun tq kq => XS.aload X12.here hx rfl (hb hby at_144) rfl rfl kq) ?_
  show G T12 (mkF m 146 #[.val (.long p0), .second, .val (.int p1), .val (.int p2), .val (.int z1), .val (.ref b2), .val (.ref b3)] [(.ref b2), (.ref b3)])
  refine hp (fun tq kq => XS.iload X12.here hx rfl (hb hby at_146) rfl kq) ?_
  show G T12 (mkF m 148 #[.val (.long p0), .second, .val (.int p1), .val (.int p2), .val (.int z1), .val (.ref b2), .val (.ref b3)] [(.int z1), (.ref b2), (.ref b3)])
  refine hp (fun tq kq => XS.lloadN X12.here hx rfl (hb hby at_148) rfl kq) ?_
  show G T12 (mkF m 149 #[.val (.long p0), .second, .val (.int p1), .val (.int p2), .val (.int z1), .val (.ref b2), .val (.ref b3)] [(.long p0), (.int z1), (.ref b2), (.ref b3)])
  refine hp (fun tq kq => XS.bipush X12.here hx rfl (hb hby at_149) kq) ?_
  show G T12 (mkF m 151 #[.val (.long p0), .second, .val (.int p1), .val (.int p2), .val (.int z1), .val (.ref b2), .val (.ref b3)] [(.int (8 : Int32)), (.long p0), (.int z1), (.ref b2), (.ref b3)])
  obtain ⟨v13, T13, L13, X13, hQ13, st13⟩ := own_callS X12 hx hZ (y := (⟨"com/example/lakebed/lakebed/core/parquet/LittleEndianWriteLongPinLaw", "at", "([B[BIJI)Z"⟩ : MethodName)) (rm := ({ frames := 0, cells := 0, slots := 0, locals := 0 } : Room)) 0 hown (hw _ (List.mem_of_getElem? (i := 10) rfl)) (hw _ (List.mem_of_getElem? (i := 11) rfl)) (hw _ (List.mem_of_getElem? (i := 3) rfl)) (hw _ (List.mem_of_getElem? (i := 12) rfl)) (by decide) (rm3 l Z a0 hw [] b3 b2 z1 p0 (8 : Int32) 8 (own_wr (own_fill p2) s0 p0) (own_fill p2) T4.heap n0 V4_b3 V4_b2 (by decide)) e12 (by decide) (by decide) (g := (mkF m 151 #[.val (.long p0), .second, .val (.int p1), .val (.int p2), .val (.int z1), .val (.ref b2), .val (.ref b3)] [(.int (8 : Int32)), (.long p0), (.int z1), (.ref b2), (.ref b3)])) rfl (by rw [hml]; rfl) [(.ref b3), (.ref b2), (.int z1), (.long p0), (.int (8 : Int32))] [] own_pd2 rfl rfl (by show 2 * 0 + _ ≤ _; exact Nat.le_of_eq rfl) (hb hby at_151) rfl (by decide) (by decide)
  obtain ⟨rfl, N13, e13⟩ := hQ13
  have F13 := Fr.app F12 N13
  refine hp st13 ?_
  show G T13 (mkF m 154 #[.val (.long p0), .second, .val (.int p1), .val (.int p2), .val (.int z1), .val (.ref b2), .val (.ref b3)] [(.int (own_at (own_wr (own_fill p2) s0 p0) (own_fill p2) z1 p0 (8 : Int32) 8))])
  refine hp (fun tq kq => XS.ifNo X13.here hx rfl (hb hby at_154) rfl ((if0 _ _).trans (feq (own_law p2 z1 p0 hs 8 (by decide))).1) kq) ?_
  show G T13 (mkF m 157 #[.val (.long p0), .second, .val (.int p1), .val (.int p2), .val (.int z1), .val (.ref b2), .val (.ref b3)] [])
  refine hp (fun tq kq => XS.aload X13.here hx rfl (hb hby at_157) rfl rfl kq) ?_
  show G T13 (mkF m 159 #[.val (.long p0), .second, .val (.int p1), .val (.int p2), .val (.int z1), .val (.ref b2), .val (.ref b3)] [(.ref b3)])
  refine hp (fun tq kq => XS.aload X13.here hx rfl (hb hby at_159) rfl rfl kq) ?_
  show G T13 (mkF m 161 #[.val (.long p0), .second, .val (.int p1), .val (.int p2), .val (.int z1), .val (.ref b2), .val (.ref b3)] [(.ref b2), (.ref b3)])
  refine hp (fun tq kq => XS.iload X13.here hx rfl (hb hby at_161) rfl kq) ?_
  show G T13 (mkF m 163 #[.val (.long p0), .second, .val (.int p1), .val (.int p2), .val (.int z1), .val (.ref b2), .val (.ref b3)] [(.int z1), (.ref b2), (.ref b3)])
  refine hp (fun tq kq => XS.lloadN X13.here hx rfl (hb hby at_163) rfl kq) ?_
  show G T13 (mkF m 164 #[.val (.long p0), .second, .val (.int p1), .val (.int p2), .val (.int z1), .val (.ref b2), .val (.ref b3)] [(.long p0), (.int z1), (.ref b2), (.ref b3)])
  refine hp (fun tq kq => XS.bipush X13.here hx rfl (hb hby at_164) kq) ?_
  show G T13 (mkF m 166 #[.val (.long p0), .second, .val (.int p1), .val (.int p2), .val (.int z1), .val (.ref b2), .val (.ref b3)] [(.int (9 : Int32)), (.long p0), (.int z1), (.ref b2), (.ref b3)])
  obtain ⟨v14, T14, L14, X14, hQ14, st14⟩ := own_callS X13 hx hZ (y := (⟨"com/example/lakebed/lakebed/core/parquet/LittleEndianWriteLongPinLaw", "at", "([B[BIJI)Z"⟩ : MethodName)) (rm := ({ frames := 0, cells := 0, slots := 0, locals := 0 } : Room)) 0 hown (hw _ (List.mem_of_getElem? (i := 10) rfl)) (hw _ (List.mem_of_getElem? (i := 11) rfl)) (hw _ (List.mem_of_getElem? (i := 3) rfl)) (hw _ (List.mem_of_getElem? (i := 12) rfl)) (by decide) (rm3 l Z a0 hw [] b3 b2 z1 p0 (9 : Int32) 9 (own_wr (own_fill p2) s0 p0) (own_fill p2) T4.heap n0 V4_b3 V4_b2 (by decide)) e13 (by decide) (by decide) (g := (mkF m 166 #[.val (.long p0), .second, .val (.int p1), .val (.int p2), .val (.int z1), .val (.ref b2), .val (.ref b3)] [(.int (9 : Int32)), (.long p0), (.int z1), (.ref b2), (.ref b3)])) rfl (by rw [hml]; rfl) [(.ref b3), (.ref b2), (.int z1), (.long p0), (.int (9 : Int32))] [] own_pd2 rfl rfl (by show 2 * 0 + _ ≤ _; exact Nat.le_of_eq rfl) (hb hby at_166) rfl (by decide) (by decide)
  obtain ⟨rfl, N14, e14⟩ := hQ14
  have F14 := Fr.app F13 N14
  refine hp st14 ?_
  show G T14 (mkF m 169 #[.val (.long p0), .second, .val (.int p1), .val (.int p2), .val (.int z1), .val (.ref b2), .val (.ref b3)] [(.int (own_at (own_wr (own_fill p2) s0 p0) (own_fill p2) z1 p0 (9 : Int32) 9))])
  refine hp (fun tq kq => XS.ifNo X14.here hx rfl (hb hby at_169) rfl ((if0 _ _).trans (feq (own_law p2 z1 p0 hs 9 (by decide))).1) kq) ?_
  show G T14 (mkF m 172 #[.val (.long p0), .second, .val (.int p1), .val (.int p2), .val (.int z1), .val (.ref b2), .val (.ref b3)] [])
  refine hp (fun tq kq => XS.aload X14.here hx rfl (hb hby at_172) rfl rfl kq) ?_
  show G T14 (mkF m 174 #[.val (.long p0), .second, .val (.int p1), .val (.int p2), .val (.int z1), .val (.ref b2), .val (.ref b3)] [(.ref b3)])
  refine hp (fun tq kq => XS.aload X14.here hx rfl (hb hby at_174) rfl rfl kq) ?_
  show G T14 (mkF m 176 #[.val (.long p0), .second, .val (.int p1), .val (.int p2), .val (.int z1), .val (.ref b2), .val (.ref b3)] [(.ref b2), (.ref b3)])
  refine hp (fun tq kq => XS.iload X14.here hx rfl (hb hby at_176) rfl kq) ?_
  show G T14 (mkF m 178 #[.val (.long p0), .second, .val (.int p1), .val (.int p2), .val (.int z1), .val (.ref b2), .val (.ref b3)] [(.int z1), (.ref b2), (.ref b3)])
  refine hp (fun tq kq => XS.lloadN X14.here hx rfl (hb hby at_178) rfl kq) ?_
  show G T14 (mkF m 179 #[.val (.long p0), .second, .val (.int p1), .val (.int p2), .val (.int z1), .val (.ref b2), .val (.ref b3)] [(.long p0), (.int z1), (.ref b2), (.ref b3)])
  refine hp (fun tq kq => XS.bipush X14.here hx rfl (hb hby at_179) kq) ?_
  show G T14 (mkF m 181 #[.val (.long p0), .second, .val (.int p1), .val (.int p2), .val (.int z1), .val (.ref b2), .val (.ref b3)] [(.int (10 : Int32)), (.long p0), (.int z1), (.ref b2), (.ref b3)])
  obtain ⟨v15, T15, L15, X15, hQ15, st15⟩ := own_callS X14 hx hZ (y := (⟨"com/example/lakebed/lakebed/core/parquet/LittleEndianWriteLongPinLaw", "at", "([B[BIJI)Z"⟩ : MethodName)) (rm := ({ frames := 0, cells := 0, slots := 0, locals := 0 } : Room)) 0 hown (hw _ (List.mem_of_getElem? (i := 10) rfl)) (hw _ (List.mem_of_getElem? (i := 11) rfl)) (hw _ (List.mem_of_getElem? (i := 3) rfl)) (hw _ (List.mem_of_getElem? (i := 12) rfl)) (by decide) (rm3 l Z a0 hw [] b3 b2 z1 p0 (10 : Int32) 10 (own_wr (own_fill p2) s0 p0) (own_fill p2) T4.heap n0 V4_b3 V4_b2 (by decide)) e14 (by decide) (by decide) (g := (mkF m 181 #[.val (.long p0), .second, .val (.int p1), .val (.int p2), .val (.int z1), .val (.ref b2), .val (.ref b3)] [(.int (10 : Int32)), (.long p0), (.int z1), (.ref b2), (.ref b3)])) rfl (by rw [hml]; rfl) [(.ref b3), (.ref b2), (.int z1), (.long p0), (.int (10 : Int32))] [] own_pd2 rfl rfl (by show 2 * 0 + _ ≤ _; exact Nat.le_of_eq rfl) (hb hby at_181) rfl (by decide) (by decide)
  obtain ⟨rfl, N15, e15⟩ := hQ15
  have F15 := Fr.app F14 N15
  refine hp st15 ?_
  show G T15 (mkF m 184 #[.val (.long p0), .second, .val (.int p1), .val (.int p2), .val (.int z1), .val (.ref b2), .val (.ref b3)] [(.int (own_at (own_wr (own_fill p2) s0 p0) (own_fill p2) z1 p0 (10 : Int32) 10))])
  refine hp (fun tq kq => XS.ifNo X15.here hx rfl (hb hby at_184) rfl ((if0 _ _).trans (feq (own_law p2 z1 p0 hs 10 (by decide))).1) kq) ?_
  show G T15 (mkF m 187 #[.val (.long p0), .second, .val (.int p1), .val (.int p2), .val (.int z1), .val (.ref b2), .val (.ref b3)] [])
  refine hp (fun tq kq => XS.aload X15.here hx rfl (hb hby at_187) rfl rfl kq) ?_
  show G T15 (mkF m 189 #[.val (.long p0), .second, .val (.int p1), .val (.int p2), .val (.int z1), .val (.ref b2), .val (.ref b3)] [(.ref b3)])
  refine hp (fun tq kq => XS.aload X15.here hx rfl (hb hby at_189) rfl rfl kq) ?_
  show G T15 (mkF m 191 #[.val (.long p0), .second, .val (.int p1), .val (.int p2), .val (.int z1), .val (.ref b2), .val (.ref b3)] [(.ref b2), (.ref b3)])
  refine hp (fun tq kq => XS.iload X15.here hx rfl (hb hby at_191) rfl kq) ?_
  show G T15 (mkF m 193 #[.val (.long p0), .second, .val (.int p1), .val (.int p2), .val (.int z1), .val (.ref b2), .val (.ref b3)] [(.int z1), (.ref b2), (.ref b3)])
  refine hp (fun tq kq => XS.lloadN X15.here hx rfl (hb hby at_193) rfl kq) ?_
  show G T15 (mkF m 194 #[.val (.long p0), .second, .val (.int p1), .val (.int p2), .val (.int z1), .val (.ref b2), .val (.ref b3)] [(.long p0), (.int z1), (.ref b2), (.ref b3)])
  refine hp (fun tq kq => XS.bipush X15.here hx rfl (hb hby at_194) kq) ?_
  show G T15 (mkF m 196 #[.val (.long p0), .second, .val (.int p1), .val (.int p2), .val (.int z1), .val (.ref b2), .val (.ref b3)] [(.int (11 : Int32)), (.long p0), (.int z1), (.ref b2), (.ref b3)])
  obtain ⟨v16, T16, L16, X16, hQ16, st16⟩ := own_callS X15 hx hZ (y := (⟨"com/example/lakebed/lakebed/core/parquet/LittleEndianWriteLongPinLaw", "at", "([B[BIJI)Z"⟩ : MethodName)) (rm := ({ frames := 0, cells := 0, slots := 0, locals := 0 } : Room)) 0 hown (hw _ (List.mem_of_getElem? (i := 10) rfl)) (hw _ (List.mem_of_getElem? (i := 11) rfl)) (hw _ (List.mem_of_getElem? (i := 3) rfl)) (hw _ (List.mem_of_getElem? (i := 12) rfl)) (by decide) (rm3 l Z a0 hw [] b3 b2 z1 p0 (11 : Int32) 11 (own_wr (own_fill p2) s0 p0) (own_fill p2) T4.heap n0 V4_b3 V4_b2 (by decide)) e15 (by decide) (by decide) (g := (mkF m 196 #[.val (.long p0), .second, .val (.int p1), .val (.int p2), .val (.int z1), .val (.ref b2), .val (.ref b3)] [(.int (11 : Int32)), (.long p0), (.int z1), (.ref b2), (.ref b3)])) rfl (by rw [hml]; rfl) [(.ref b3), (.ref b2), (.int z1), (.long p0), (.int (11 : Int32))] [] own_pd2 rfl rfl (by show 2 * 0 + _ ≤ _; exact Nat.le_of_eq rfl) (hb hby at_196) rfl (by decide) (by decide)
  obtain ⟨rfl, N16, e16⟩ := hQ16
  have F16 := Fr.app F15 N16
  refine hp st16 ?_
  show G T16 (mkF m 199 #[.val (.long p0), .second, .val (.int p1), .val (.int p2), .val (.int z1), .val (.ref b2), .val (.ref b3)] [(.int (own_at (own_wr (own_fill p2) s0 p0) (own_fill p2) z1 p0 (11 : Int32) 11))])
  refine hp (fun tq kq => XS.ifNo X16.here hx rfl (hb hby at_199) rfl ((if0 _ _).trans (feq (own_law p2 z1 p0 hs 11 (by decide))).1) kq) ?_
  show G T16 (mkF m 202 #[.val (.long p0), .second, .val (.int p1), .val (.int p2), .val (.int z1), .val (.ref b2), .val (.ref b3)] [])
  refine hp (fun tq kq => XS.iconst X16.here hx rfl (hb hby at_202) kq) ?_
  show G T16 (mkF m 203 #[.val (.long p0), .second, .val (.int p1), .val (.int p2), .val (.int z1), .val (.ref b2), .val (.ref b3)] [(.int (1 : Int32))])
  refine hp (fun tq kq => XS.goto X16.here hx rfl (pc0 := 203) (pc' := 207) rfl (hb hby at_203) (by decide) (by decide) kq) ?_
  show G T16 (mkF m 207 #[.val (.long p0), .second, .val (.int p1), .val (.int p2), .val (.int z1), .val (.ref b2), .val (.ref b3)] [(.int (1 : Int32))])
  exact hR X16 (fun fs hl => retN X16 hx (t := .boolean) hret (by simp) (hb hby at_207) hl) (fun q => by rw [hret] at q; cases q) ⟨rfl, F16⟩ (by decide) (by decide)
set_option maxRecDepth 65536 in
set_option maxHeartbeats 40000000 in
theorem comes_1 {Post : Tables → Env → Array Value → State → Outcome → State → Prop} (hpost : ∀ tb e args s v u, (limb_1_1.after args s (.returned v) u = true ∧ limb_1_2.after args s (.returned v) u = true ∧ True) → FrameEnd s (.returned v) u (Jvm.fieldLocs frame_1_writes args s ++ Jvm.arrayLocs frame_1_arrays args s ++ Jvm.staticLocs frame_1_statics s) 16 128 → Post tb e args s (.returned v) u) :
    ArmFor flags0 classFile x code maxLocals ret World_1 tables_1 room_1 Calls_1 rest_1 Pre_1 Post := by
  intro l hfl _ _ p e ha hc hk s m args below hf hA hF happ hP
  obtain ⟨hcalls, hrest, hpre⟩ := hP
  obtain ⟨-, -, -, hnamed, -, -, -, hat⟩ := (Spec.applies_iff hf).mp happ
  obtain ⟨hg, hn⟩ := and_e (Cond.before_iff.mp (show (Jvm.Cond.and given_1 narrow_1).before args s = true from hpre))
  obtain ⟨hcnt, hgs⟩ := and_e hg
  obtain ⟨ha0, hgs⟩ := and_e hgs
  obtain ⟨ha1, hgs⟩ := and_e hgs
  have ha2 := hgs
  obtain ⟨w0, w1, w2, rfl⟩ : ∃ w0 w1 w2 : Value, args = #[w0, w1, w2] := by
    have hs : args.size = 3 := by simpa [Cond.value, given_1] using hcnt
    obtain ⟨L⟩ := args
    match L, hs with
    | [w0, w1, w2], _ => exact ⟨w0, w1, w2, rfl⟩
  have hw := fun d (hd : d ∈ tables_1) => atoms_spec (ws := Jvm.Cond.code x code maxLocals ret :: tables_1) hat d (List.mem_cons_of_mem _ hd)
  obtain ⟨i0, ei0⟩ := isL_v ha0
  obtain rfl : w0 = (.long i0) := Option.some.inj ei0
  obtain ⟨i1, ei1⟩ := is_v ha1
  obtain rfl : w1 = (.int i1) := Option.some.inj ei1
  obtain ⟨i2, ei2⟩ := is_v ha2
  obtain rfl : w2 = (.int i2) := Option.some.inj ei2
  obtain ⟨n, o, h1, h2, h3, _, L, rfl, ⟨rfl, N⟩, hq⟩ := rm0 l s _ hw tables_1 i0 i1 i2 s.heap s.heap.size (Nat.le_refl _) p e ha hc hk s m _ below hf ((Spec.applies_iff_loose hf).mp happ).1 ⟨rfl, State.Warmed39.refl s, rfl⟩ trivial
  exact ⟨n, _, h1, h2, h3, hpost _ _ _ _ _ _ ⟨Cond.after_iff.mpr rfl, Cond.after_iff.mpr (eq_i res_at (Term.int_eval (1)) rfl), trivial⟩ ⟨hq.1, hq.2.1, (hq.2.2.sift fun y hy => Or.inr (N y hy)).mono (by decide) (by decide)⟩⟩
theorem main_1_1 : Claimed_1_1 := comes_1 fun _ _ _ _ _ _ h hF => ⟨h.1, hF⟩
theorem main_1_2 : Claimed_1_2 := comes_1 fun _ _ _ _ _ _ h hF => ⟨h.2.1, hF⟩
end Jvm.Pilot.@@N@@
namespace Jvm.Pilot.@@N@@
open Jvm Jvm.ClassFile Sem Op Lib Jvm.Free Jvm.Stand Jvm.Pilot.@@N@@.Jvm.D
/-! MADE BY PROGRAM (witnessworld.py) out of the Statement's table words and the real class files: 9 classes; the members and pool entries that the words name. The judged class is class 1, her method 3. -/
namespace start1
open Jvm.ClassFile
def u (s : String) : CpInfo := .utf8 (stringToUtf16 s)
/-- a pool by its gaps: so many unusable entries, then the entry; so many at the end -/
def gap : Nat → List CpInfo → List CpInfo
  | 0, r => r
  | n + 1, r => .unusable :: gap n r
def poolList (es : List (Nat × CpInfo)) (last : Nat) : List CpInfo := es.foldr (fun e r => gap e.1 (e.2 :: r)) (gap last [])
def pool (es : List (Nat × CpInfo)) (last : Nat) : Array CpInfo := ⟨poolList es last⟩
def fileOf (pool : Array CpInfo) (this : Nat) (attrs : Array Attribute := #[]) (ms : Array MethodInfo := #[]) (fl : Nat := 33) (sup : Nat := 0) (ifs : Array Nat := #[]) (fds : Array FieldInfo := #[]) : ClassFile where
  minorVersion := 0
  majorVersion := 65
  constantPool := pool
  accessFlags := fl
  thisClass := this
  superClass := sup
  interfaces := ifs
  fields := fds
  methods := ms
  attributes := attrs
def plain (name : String) (sup : Option ClassId) : Class where
  name := name
  kind := .ordinary
  loader := none
  accessFlags := 33
  super := sup
  interfaces := #[]
  cf := none
  fields := #[]
  methods := #[]
  instanceTypes := #[]
  staticTypes := #[]
  resolved := #[]
  callSites := []
  init := .initialized
  statics := none
  mirror := none

def pool0 : Array CpInfo := pool [(5, u "<init>"), (0, u "()V"), (1, .class_ 10), (1, u "java/lang/Object")] 113

def k0m0 : Method := { name := "<init>", desc := "()V", sig := { parameters := [], returnType := none }, accessFlags := 1, code := none }
/-- java/lang/Object -/
def k0 : Class := { plain "java/lang/Object" none with
  accessFlags := 33
  interfaces := #[]
  cf := some (fileOf pool0 8 #[] #[{ accessFlags := 1, nameIndex := 5, descriptorIndex := 6, attributes := #[] }] 33 0 #[] #[])
  fields := #[]
  methods := #[k0m0]
  instanceTypes := #[]
  staticTypes := #[]
  resolved := Array.replicate 124 none
  statics := none }

def pool1 : Array CpInfo := pool [(2, .class_ 4), (1, u "java/lang/Object"), (0, u "<init>"), (0, u "()V"), (0, .long 255), (1, .long 128), (1, .integer 2147483647), (0, .methodref 13 14), (0, .class_ 15), (0, .nameAndType 16 17), (0, u "com/example/lakebed/lakebed/core/parquet/LittleEndianWriteLongPinLaw"), (0, u "filled"), (0, u "(I)[B"), (0, .methodref 19 20), (0, .class_ 21), (0, .nameAndType 22 23), (0, u "com/example/lakebed/lakebed/core/parquet/LittleEndian"), (0, u "writeLong"), (0, u "([BIJ)V"), (0, .methodref 13 25), (0, .nameAndType 26 27), (0, u "at"), (0, u "([B[BIJI)Z"), (3, u "law"), (0, u "(JII)Z")] 4

def k1m0 : Method := { name := "<init>", desc := "()V", sig := { parameters := [], returnType := none }, accessFlags := 2, code := none }
def k1c1 : Code := { maxStack := 5, maxLocals := 1, code := method_2_code, exceptionTable := #[], attributes := #[] }
def k1m1 : Method := { name := "filled", desc := "(I)[B", sig := { parameters := [.int], returnType := some (.array .byte) }, accessFlags := 10, code := some k1c1 }
def k1c2 : Code := { maxStack := 4, maxLocals := 10, code := method_3_code, exceptionTable := #[], attributes := #[] }
def k1m2 : Method := { name := "at", desc := "([B[BIJI)Z", sig := { parameters := [(.array .byte), (.array .byte), .int, .long, .int], returnType := some .boolean }, accessFlags := 10, code := some k1c2 }
def k1c3 : Code := { maxStack := 6, maxLocals := 7, code := code, exceptionTable := #[], attributes := #[] }
def k1m3 : Method := { name := "law", desc := "(JII)Z", sig := { parameters := [.long, .int, .int], returnType := some .boolean }, accessFlags := 9, code := some k1c3 }
/-- com/example/lakebed/lakebed/core/parquet/LittleEndianWriteLongPinLaw -/
def k1 : Class := { plain "com/example/lakebed/lakebed/core/parquet/LittleEndianWriteLongPinLaw" (some 0) with
  accessFlags := 49
  interfaces := #[]
  cf := some (fileOf pool1 13 #[] #[{ accessFlags := 2, nameIndex := 5, descriptorIndex := 6, attributes := #[] }, { accessFlags := 10, nameIndex := 16, descriptorIndex := 17, attributes := #[] }, { accessFlags := 10, nameIndex := 26, descriptorIndex := 27, attributes := #[] }, { accessFlags := 9, nameIndex := 31, descriptorIndex := 32, attributes := #[] }] 49 2 #[] #[])
  fields := #[]
  methods := #[k1m0, k1m1, k1m2, k1m3]
  instanceTypes := #[]
  staticTypes := #[]
  resolved := Array.replicate 37 none
  statics := none }

def pool2 : Array CpInfo := pool [(2, .class_ 4), (1, u "java/lang/Object"), (0, u "<init>"), (0, u "()V"), (1, .class_ 10), (1, u "com/example/lakebed/lakebed/core/parquet/LittleEndian"), (33, u "writeLong"), (0, u "([BIJ)V")] 4

def k2m0 : Method := { name := "<init>", desc := "()V", sig := { parameters := [], returnType := none }, accessFlags := 2, code := none }
def k2c1 : Code := { maxStack := 6, maxLocals := 5, code := prog_51_method_6_code, exceptionTable := #[], attributes := #[] }
def k2m1 : Method := { name := "writeLong", desc := "([BIJ)V", sig := { parameters := [(.array .byte), .int, .long], returnType := none }, accessFlags := 8, code := some k2c1 }
/-- com/example/lakebed/lakebed/core/parquet/LittleEndian -/
def k2 : Class := { plain "com/example/lakebed/lakebed/core/parquet/LittleEndian" (some 0) with
  accessFlags := 48
  interfaces := #[]
  cf := some (fileOf pool2 8 #[] #[{ accessFlags := 2, nameIndex := 5, descriptorIndex := 6, attributes := #[] }, { accessFlags := 8, nameIndex := 44, descriptorIndex := 45, attributes := #[] }] 48 2 #[] #[])
  fields := #[]
  methods := #[k2m0, k2m1]
  instanceTypes := #[]
  staticTypes := #[]
  resolved := Array.replicate 50 none
  statics := none }

def pool3 : Array CpInfo := pool [(1, u "java/lang/Cloneable"), (0, .class_ 1), (0, u "java/lang/Object"), (0, .class_ 3)] 3

/-- java/lang/Cloneable -/
def k3 : Class := { plain "java/lang/Cloneable" (some 0) with
  accessFlags := 1537
  interfaces := #[]
  cf := some (fileOf pool3 2 #[] #[] 1537 4 #[] #[])
  fields := #[]
  methods := #[]
  instanceTypes := #[]
  staticTypes := #[]
  resolved := Array.replicate 8 none
  statics := none }

def pool4 : Array CpInfo := pool [(1, u "java/io/Serializable"), (0, .class_ 1), (0, u "java/lang/Object"), (0, .class_ 3)] 3

/-- java/io/Serializable -/
def k4 : Class := { plain "java/io/Serializable" (some 0) with
  accessFlags := 1537
  interfaces := #[]
  cf := some (fileOf pool4 2 #[] #[] 1537 4 #[] #[])
  fields := #[]
  methods := #[]
  instanceTypes := #[]
  staticTypes := #[]
  resolved := Array.replicate 8 none
  statics := none }

/-- the primitive byte -/
def k5 : Class := { plain "byte" none with kind := .primitive 'B', accessFlags := 0x411 }
/-- [B -/
def k6 : Class := { plain "[B" (some 0) with kind := .array 5 .byte, interfaces := #[3, 4], accessFlags := 1041 }

/-- the primitive int -/
def k7 : Class := { plain "int" none with kind := .primitive 'I', accessFlags := 0x411 }
/-- [I -/
def k8 : Class := { plain "[I" (some 0) with kind := .array 7 .int, interfaces := #[3, 4], accessFlags := 1041 }

def heap : Heap := #[]
def classes : Array Class := #[k0, k1, k2, k3, k4, k5, k6, k7, k8]
def interned : List (Array UInt16 × Addr) := []
def slotsUsed : Nat := 0
def theMethod : MethodId := ⟨1, 3⟩
def args0 : Array Value := #[.long 77, .int 5, .int 3]
def aboutOver (below : List Frame) : State where
  vm := { classes := classes, interned := interned.toArray }
  heap := heap
  slotsUsed := slotsUsed
  threads := #[{ frames := .invoking theMethod args0 :: below }]
def below0 : List Frame := [.native { method := ⟨0, 0⟩, args := #[] }]
def about1 : State := aboutOver below0
def p0 : Program := .bare "" "" ""
def e0 : Env := launch0.env 0 0 0
theorem w_frames : about1.frames = Frame.invoking theMethod args0 :: below0 := rfl
set_option maxRecDepth 65536 in
theorem w_args : argsFit about1.vm theMethod args0 = true := by decide +kernel
set_option maxRecDepth 65536 in
theorem w_heap : heapFits about1 = true := by decide +kernel
set_option maxRecDepth 65536 in
theorem w_runnable : about1.curStatus? = some .runnable := by decide +kernel
set_option maxRecDepth 65536 in
theorem w_alone : about1.alone = true := by decide +kernel
set_option maxRecDepth 65536 in
theorem w_named : about1.methodNamed? x = some theMethod := by decide +kernel
set_option maxRecDepth 65536 in
theorem w_hears : about1.hears theMethod below0 = true := by decide +kernel
set_option maxRecDepth 65536 in
theorem w_ripe : about1.ripe theMethod args0 below0 = true := by decide +kernel
theorem w_running : about1.status = .running := rfl
set_option maxRecDepth 65536 in
theorem w_room : about1.hasRoom e0.platform room_1 = true :=
  launch0.hasRoom_least _ room_1 (by decide +kernel) (by decide +kernel) (by decide +kernel) (by decide +kernel) (by decide +kernel) (by decide +kernel)
theorem allAtoms_all (ts : List Jvm.Cond) (a : Array Jvm.Value) (st : Jvm.State) : (allAtoms ts).before a st = ts.all (fun c => c.before a st) := by
  induction ts with
  | nil => rfl
  | cons c t ih =>
    show (Jvm.Cond.and c (allAtoms t)).before a st = _
    rw [Jvm.Cond.before_and, ih, List.all_cons]
def words1 : List Jvm.Cond := Jvm.Cond.code x code maxLocals ret :: tables_1
/-- a 'code' word, met by the world's own term for the bytes: nothing is compared byte by byte -/
theorem code_word {y : MethodName} {bytes : ByteArray} {mx : Nat} {rt : Option FieldType} {a : Array Value} {s : State} {m : MethodId} {meth : Method} {c : Code} (h1 : s.methodNamed? y = some m) (h2 : s.vm.method? m = some meth) (h3 : meth.code = some c) (h4 : c.code = bytes)
    (h5 : (c.maxLocals == mx && c.exceptionTable.isEmpty && decide (c.maxStack ≤ mostOperands) && decide (meth.sig.returnType = rt) && !meth.locks && decide (parseMethodDescriptor y.desc = some meth.sig)) = true) : (Jvm.Cond.code y bytes mx rt).before a s = true := by
  simp only [Bool.and_eq_true, beq_iff_eq, Bool.not_eq_true', decide_eq_true_eq] at h5
  obtain ⟨⟨⟨⟨⟨g1, g2⟩, g3⟩, g4⟩, g5⟩, g6⟩ := h5
  simp [Cond.before, Cond.holds, Cond.value, h1, h2, h3, h4, g1, g2, g3, g4, g5, g6]
def isCode : Jvm.Cond → Bool
  | .code _ _ _ _ => true
  | _ => false
theorem all_split {L : List Jvm.Cond} {P : Jvm.Cond → Bool} (h1 : L.all (fun c => isCode c || P c) = true) (h2 : ∀ c ∈ L.filter isCode, P c = true) : L.all P = true := by
  refine List.all_eq_true.mpr fun c hc => ?_
  have h := List.all_eq_true.mp h1 c hc
  rcases Bool.eq_false_or_eq_true (isCode c) with hi | hi
  · exact h2 c (List.mem_filter.mpr ⟨hc, hi⟩)
  · simpa [hi] using h
set_option maxRecDepth 65536 in
theorem w_c0 : (Jvm.Cond.code x code maxLocals ret).before args0 about1 = true := code_word (m := ⟨1, 3⟩) (meth := k1m3) (c := k1c3) (by decide +kernel) rfl rfl rfl (by decide +kernel)
set_option maxRecDepth 65536 in
theorem w_c1 : (Jvm.Cond.code ({ cls := "com/example/lakebed/lakebed/core/parquet/LittleEndianWriteLongPinLaw", name := "filled", desc := "(I)[B" } : Jvm.MethodName) method_2_code (1 : Nat) (Option.some (Jvm.ClassFile.FieldType.array Jvm.ClassFile.FieldType.byte))).before args0 about1 = true := code_word (m := ⟨1, 1⟩) (meth := k1m1) (c := k1c1) (by decide +kernel) rfl rfl rfl (by decide +kernel)
set_option maxRecDepth 65536 in
theorem w_c2 : (Jvm.Cond.code ({ cls := "com/example/lakebed/lakebed/core/parquet/LittleEndian", name := "writeLong", desc := "([BIJ)V" } : Jvm.MethodName) prog_51_method_6_code (5 : Nat) (Option.none : Option Jvm.ClassFile.FieldType)).before args0 about1 = true := code_word (m := ⟨2, 1⟩) (meth := k2m1) (c := k2c1) (by decide +kernel) rfl rfl rfl (by decide +kernel)
set_option maxRecDepth 65536 in
theorem w_c3 : (Jvm.Cond.code ({ cls := "com/example/lakebed/lakebed/core/parquet/LittleEndianWriteLongPinLaw", name := "at", desc := "([B[BIJI)Z" } : Jvm.MethodName) method_3_code (10 : Nat) (Option.some Jvm.ClassFile.FieldType.boolean)).before args0 about1 = true := code_word (m := ⟨1, 2⟩) (meth := k1m2) (c := k1c2) (by decide +kernel) rfl rfl rfl (by decide +kernel)
def codes1 : List Jvm.Cond := [Jvm.Cond.code x code maxLocals ret, Jvm.Cond.code ({ cls := "com/example/lakebed/lakebed/core/parquet/LittleEndianWriteLongPinLaw", name := "filled", desc := "(I)[B" } : Jvm.MethodName) method_2_code (1 : Nat) (Option.some (Jvm.ClassFile.FieldType.array Jvm.ClassFile.FieldType.byte)), Jvm.Cond.code ({ cls := "com/example/lakebed/lakebed/core/parquet/LittleEndian", name := "writeLong", desc := "([BIJ)V" } : Jvm.MethodName) prog_51_method_6_code (5 : Nat) (Option.none : Option Jvm.ClassFile.FieldType), Jvm.Cond.code ({ cls := "com/example/lakebed/lakebed/core/parquet/LittleEndianWriteLongPinLaw", name := "at", desc := "([B[BIJI)Z" } : Jvm.MethodName) method_3_code (10 : Nat) (Option.some Jvm.ClassFile.FieldType.boolean)]
set_option maxRecDepth 65536 in
theorem codes_eq : words1.filter isCode = codes1 := rfl
theorem w_codes : ∀ c ∈ words1.filter isCode, c.before args0 about1 = true := by
  rw [codes_eq]
  intro c hc
  simp only [codes1, List.mem_cons, List.not_mem_nil, or_false] at hc
  rcases hc with rfl | rfl | rfl | rfl
  · exact w_c0
  · exact w_c1
  · exact w_c2
  · exact w_c3
set_option maxRecDepth 65536 in
theorem w_t1 : words1.all (fun c => isCode c || c.before args0 about1) = true := by decide +kernel
theorem w_tables : (allAtoms (Jvm.Cond.code x code maxLocals ret :: tables_1)).before args0 about1 = true := by
  rw [allAtoms_all]
  show words1.all (fun c => c.before args0 about1) = true
  refine all_split ?_ w_codes
  rw [w_t1]
set_option maxRecDepth 65536 in
theorem w_case : (Jvm.Cond.and given_1 narrow_1).before args0 about1 = true := by decide +kernel
theorem w_applies : (headSpec (Jvm.Cond.code x code maxLocals ret :: tables_1) room_1).applies x e0.platform about1 = true :=
  (Spec.applies_iff w_frames).mpr ⟨w_running, w_runnable, w_alone, w_named, w_hears, w_ripe, w_room, w_tables⟩
theorem atStart : AtStart classFile x code maxLocals ret World_1 tables_1 room_1 Calls_1 rest_1 Pre_1 launch0 p0 e0 about1 theMethod args0 below0 :=
  ⟨lists_1, trivial, launch0.admits_env _ _ _, launch0.least_env, fairChoices_fair.cas, fairChoices_fair.clock, w_frames, w_args, w_heap, w_applies, trivial, trivial, w_case⟩
end start1
theorem witness_1 : WitnessClaimed_1 := ⟨start1.p0, start1.e0, start1.about1, start1.theMethod, start1.args0, start1.below0, start1.atStart⟩
end Jvm.Pilot.@@N@@
