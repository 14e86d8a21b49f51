import JvmDerived
import JvmDerived.Pilot.@@N@@Statement
import JvmDerived.Pilot.@@N@@Code
set_option linter.unusedVariables false
set_option linter.unusedSimpArgs false
namespace Jvm.RoadKit
open Sem ClassFile Op Lib Jvm.Stand Jvm.Free Jvm.LawKit
section New
variable {p : Program} {l : Launch} {e : Env} {R : Room} {s : State} {m : MethodId} {args : Array Value} {below : List Frame} {meth : Method} {c : Code} {T : State} {locs : List Loc} {cells slots : Nat}
theorem retI (X : Stand p l e R s m args below meth c T locs cells slots) (hx : p.tables.exec = Jvm.exec) {pc : Nat} {Ls : Array Slot} {z : Int32} {rest : List Value} (hret : meth.sig.returnType = some .int) (hd : decode c.code pc = .ok (.ireturn, 1)) {fs : List Frame}
    (hl : ∀ (f : JFrame) (acts : List Action), f.method = m → f.locked = none → f.entered = [] → (doReturn e (T.setTop f) acts (some (.int z))).1 = T.setFrames fs) : Steps p.tables e below (T.setTop (mkF m pc Ls (.int z :: rest))) (T.setFrames fs) := by
  have hm' : T.vm.method? m = some meth := X.method'
  have hn : narrow .int (.int z) = .int z := rfl
  show Steps p.tables e below (T.setTop { method := m, pc := pc, locals := Ls, stack := _ :: rest, locked := none }) _
  jvm_step X.here [X.here.top, hx, hd, hm', hret, hn]
  first | (intro acts; rw [hl _ acts rfl rfl rfl]) | rw [hl _ _ rfl rfl rfl]
  exact Steps.refl _
end New
end Jvm.RoadKit
namespace Jvm.Pilot.@@N@@
open Jvm Jvm.ClassFile Sem Op Lib Jvm.Free Jvm.Stand Jvm.LawKit Jvm.RoadKit Bundle Jvm.Pilot.@@N@@.Jvm.D
/-! 1. own frame of the walks: a goal 'G T f' says: from the state T with the top frame f the body comes to its end as its contract says. G is kept opaque in a walk: own_Pre steps it back, own_Ret ends it. -/
abbrev own_Pre (p : Program) (e : Env) (below : List Frame) (G : State → JFrame → Prop) : Prop :=
  ∀ {T T2 : State} {f f2 : JFrame}, (∀ t, Steps p.tables e below (T2.setTop f2) t → Steps p.tables e below (T.setTop f) t) → G T2 f2 → G T f
abbrev own_Lv (p : Program) (e : Env) (below : List Frame) (m : MethodId) (T : State) (f : JFrame) (v : Option Value) : Prop :=
  ∀ fs, (∀ (f : JFrame) (acts : List Action), f.method = m → f.locked = none → f.entered = [] → (doReturn e (T.setTop f) acts v).1 = T.setFrames fs) → Steps p.tables e below (T.setTop f) (T.setFrames fs)
abbrev own_Ret (p : Program) (l : Launch) (e : Env) (R : Room) (s : State) (m : MethodId) (as' : Array Value) (below : List Frame) (meth : Method) (c : Code) (Q : Option Value → Heap → List Loc → Prop) (C S : Nat) (G : State → JFrame → Prop) : Prop :=
  ∀ {T : State} {locs : List Loc} {cells slots : Nat} {f : JFrame} {v : Option Value}, Stand p l e R s m as' below meth c T locs cells slots → own_Lv p e below m T f v → (meth.sig.returnType = none → v = none) → Q v T.heap locs → cells ≤ C → slots ≤ S → G T f
theorem own_contract {l : Launch} {Z : State} {y : MethodName} {bytes : ByteArray} {maxL : Nat} {ret : Option FieldType} {ws : List Jvm.Cond} {rm : Room} {as' : Array Value} {h0 : Heap} {Q : Option Value → Heap → List Loc → Prop} {Ls : Array Slot}
    (hpl : plainFor y = true) (hef : ∀ m, entryFrame m as' maxL = mkF m 0 Ls [])
    (H : ∀ (p : Program) (e : Env) (s : State) (m : MethodId) (below : List Frame) (meth : Method) (c : Code) (s₁ : State) (G : State → JFrame → Prop),
      p.tables.exec = Jvm.exec → c.code = bytes → c.maxLocals = maxL → s.vm.findClass y.cls = some m.cls → meth.name = y.name → meth.sig.returnType = ret → Z.Warmed39 s.vm →
      Stand p l e rm s m as' below meth c s₁ [] 0 0 → s₁.heap = h0 → own_Pre p e below G → own_Ret p l e rm s m as' below meth c Q rm.cells rm.slots G → G s₁ (mkF m 0 Ls [])) :
    MetFree l y (head1 (Jvm.Cond.code y bytes maxL ret :: ws) rm) (fun a U => a = as' ∧ Z.Warmed39 U.vm ∧ U.heap = h0) (fun _ _ _ _ _ => True) (fun _ U o U' => ∃ v L, o = .returned v ∧ Q v U'.heap L ∧ FrameEnd U o U' L rm.cells rm.slots) := by
  refine MetFree.of_bodySF hpl hisR ?_
  intro p e s m args below meth c s₁ Bd hml0 hP hK
  obtain ⟨rfl, hZ, hh⟩ := hP
  have X0 : Stand p l e rm s m args below meth c s₁ [] 0 0 := Stand.of_body Bd
  have e0 : s₁.heap = h0 := by rw [← hh, Bd.state]; rfl
  obtain ⟨T', locs, cells, slots, v, X, hst, hv, hQ, hc, hs⟩ := H p e s m below meth c s₁
    (fun T f => ∃ (T' : State) (locs : List Loc) (cells slots : Nat) (v : Option Value), Stand p l e rm s m args below meth c T' locs cells slots ∧
      (∀ fs, (∀ (f : JFrame) (acts : List Action), f.method = m → f.locked = none → f.entered = [] → (doReturn e (T'.setTop f) acts v).1 = T'.setFrames fs) → Steps p.tables e below (T.setTop f) (T'.setFrames fs)) ∧
      (meth.sig.returnType = none → v = none) ∧ Q v T'.heap locs ∧ cells ≤ rm.cells ∧ slots ≤ rm.slots)
    Bd.exec Bd.bytes hml0 (findClass_of_methodNamed Bd.named) (name_of_methodNamed Bd.named Bd.method).1 Bd.returns hZ X0 e0
    (fun {T T2 f f2} hs hG => by
      obtain ⟨T', locs, cells, slots, v, X, hst, r⟩ := hG
      exact ⟨T', locs, cells, slots, v, X, fun fs hl => hs _ (hst fs hl), r⟩)
    (fun {T locs cells slots f v} X hl hv hQ hc hs => ⟨T, locs, cells, slots, v, X, hl, hv, hQ, hc, hs⟩)
  obtain ⟨fs, hr, hrun, hended, hW, hsame⟩ := X.leave hv Bd.notSynchronized
  exact ⟨_, _, castTop (hef m) (hst fs hr), hrun, hended, _, _, rfl, hQ, ⟨_, rfl⟩, hW, hsame.mono hc hs⟩
/-- what a body without a write says: its value, nothing old written, the heap as it was -/
abbrev own_Q (r : Option Value) (h0 : Heap) (n0 : Nat) (v : Option Value) (h : Heap) (L : List Loc) : Prop := v = r ∧ Fr n0 L ∧ h = h0
section Calls
variable {p : Program} {l : Launch} {e : Env} {R : Room} {s : State} {m : MethodId} {args : Array Value} {below : List Frame} {meth : Method} {c : Code} {T : State} {locs : List Loc} {cells slots : Nat} {Z : State} {a0 : Array Value} {h : Heap}
theorem own_callS (X : Stand p l e R s m args below meth c T locs cells slots) (hx : p.tables.exec = Jvm.exec) (hZ : Z.Warmed39 s.vm) {own : String} {index : Nat} {y : MethodName} {bytes : ByteArray} {maxL : Nat} {ret : Option FieldType} {rm : Room} {as' : Array Value} {Q : Option Value → Heap → List Loc → Prop}
    (W : Nat) (hown : s.vm.findClass own = some m.cls) (w1 : (Cond.methodLink own index y).before a0 Z = true) (w2 : (Cond.static y).before a0 Z = true) (w3 : (Cond.initialized y.cls).before a0 Z = true) (w4 : (Cond.code y bytes maxL ret).before a0 Z = true)
    (hy : y.cls ≠ "java/lang/invoke/MethodHandle" ∧ y.cls ≠ "java/lang/invoke/VarHandle")
    (hM : MetFree l y (head1 [Cond.code y bytes maxL ret] rm) (fun a U => a = as' ∧ Z.Warmed39 U.vm ∧ U.heap = h) (fun _ _ _ _ _ => True) (fun _ U o U' => ∃ v L, o = .returned v ∧ Q v U'.heap L ∧ FrameEnd U o U' L rm.cells rm.slots))
    (eT : T.heap = h) (hf : rm.frames + 1 ≤ R.frames) (hl : W + (maxL + 11) + rm.locals ≤ R.locals) {g : JFrame} (hg : g.method = m) (hsize : g.locals.size = c.maxLocals) (argsL rest : List Value) {ps : List FieldType} {r : Option FieldType}
    (hd : parseMethodDescriptor y.desc = some ⟨ps, r⟩) (hlen : argsL.length = ps.length) (hstack : g.stack = argsL.reverse ++ rest) (hW : 2 * g.monitorRoom + (rest.map fun v => v.category).sum ≤ W) (hdg : decode c.code g.pc = .ok (.invokestatic index, 3))
    (has : argsL.toArray = as') (hc : cells + rm.cells ≤ R.cells) (hs : slots + rm.slots ≤ R.slots) :
    ∃ (v : Option Value) (T' : State) (L : List Loc), Stand p l e R s m args below meth c T' (locs ++ L) (cells + rm.cells) (slots + rm.slots) ∧ Q v T'.heap L ∧
      ∀ t, Steps p.tables e below (T'.setTop { g with pc := g.pc + 3, stack := v.toList ++ rest }) t → Steps p.tables e below (T.setTop g) t := by
  obtain ⟨v, _, ⟨T', L', k', n'⟩, -, X', ⟨Lc, hQ, l', y', z'⟩, st⟩ := Jvm.LawKit.callS X hx (y := y) hown (mvT hZ w1) (mvT hZ w2) (mvT hZ w3) (mvT hZ w4) hy (backOf (W := W) hM hZ w4 w3 hf hl) hg hsize (argsL := argsL) (rest := rest) (lenOf hd hlen) hstack hW hdg (fun _ _ => ⟨has, eT, hc, hs⟩)
  dsimp only [Pt.U, Pt.locs, Pt.cells, Pt.slots] at X' l' y' z' st hQ
  subst l' y' z'
  exact ⟨v, T', Lc, X', hQ, st⟩
theorem own_callI (X : Stand p l e R s m args below meth c T locs cells slots) (hx : p.tables.exec = Jvm.exec) (hZ : Z.Warmed39 s.vm) {own : String} {index : Nat} {y : MethodName} {bytes : ByteArray} {maxL : Nat} {rm : Room} {as' : Array Value} {Q : Option Value → Heap → List Loc → Prop}
    (W : Nat) (hy1 : y.name = "<init>") (hown : s.vm.findClass own = some m.cls) (w1 : (Cond.methodLink own index y).before a0 Z = true) (w2 : (Cond.instanceMethod y).before a0 Z = true) (w3 : (Cond.initialized y.cls).before a0 Z = true) (w4 : (Cond.code y bytes maxL none).before a0 Z = true)
    (hy : y.cls ≠ "java/lang/invoke/MethodHandle" ∧ y.cls ≠ "java/lang/invoke/VarHandle")
    (hM : MetFree l y (head1 [Cond.code y bytes maxL none] rm) (fun a U => a = as' ∧ Z.Warmed39 U.vm ∧ U.heap = h) (fun _ _ _ _ _ => True) (fun _ U o U' => ∃ v L, o = .returned v ∧ Q v U'.heap L ∧ FrameEnd U o U' L rm.cells rm.slots))
    (eT : T.heap = h) (hf : rm.frames + 1 ≤ R.frames) (hl : W + (maxL + 11) + rm.locals ≤ R.locals) {g : JFrame} (hg : g.method = m) (hsize : g.locals.size = c.maxLocals) (a : Addr) (argsL rest : List Value) {ps : List FieldType} {r : Option FieldType}
    (hd : parseMethodDescriptor y.desc = some ⟨ps, r⟩) (hlen : argsL.length = ps.length) (hstack : g.stack = argsL.reverse ++ .ref a :: rest) (hW : 2 * g.monitorRoom + (rest.map fun v => v.category).sum ≤ W) (hdg : decode c.code g.pc = .ok (.invokespecial index, 3))
    (has : (.ref a :: argsL).toArray = as') (hc : cells + rm.cells ≤ R.cells) (hs : slots + rm.slots ≤ R.slots) :
    ∃ (v : Option Value) (T' : State) (L : List Loc), Stand p l e R s m args below meth c T' (locs ++ L) (cells + rm.cells) (slots + rm.slots) ∧ Q v T'.heap L ∧
      ∀ t, Steps p.tables e below (T'.setTop { g with pc := g.pc + 3, stack := v.toList ++ rest }) t → Steps p.tables e below (T.setTop g) t := by
  obtain ⟨v, _, ⟨T', L', k', n'⟩, -, X', ⟨Lc, hQ, l', y', z'⟩, st⟩ := X.specialBack hx (y := y) hy1 hown (mvT hZ w1) (mvT hZ w2) (mvT hZ w4) hy (backOf (W := W) hM hZ w4 w3 hf hl) hg hsize (Steps.refl _) (a := a) (argsL := argsL) (rest := rest) (lenOf hd hlen) hstack hW hdg (fun _ _ => ⟨has, eT, hc, hs⟩)
  dsimp only [Pt.U, Pt.locs, Pt.cells, Pt.slots] at X' l' y' z' st hQ
  subst l' y' z'
  exact ⟨v, T', Lc, X', hQ, fun t k => st.trans k⟩
theorem own_callV (X : Stand p l e R s m args below meth c T locs cells slots) (hx : p.tables.exec = Jvm.exec) (hZ : Z.Warmed39 s.vm) {own C : String} {index : Nat} {y : MethodName} {bytes : ByteArray} {maxL : Nat} {ret : Option FieldType} {rm : Room} {as' : Array Value} {Q : Option Value → Heap → List Loc → Prop}
    (W : Nat) (hown : s.vm.findClass own = some m.cls) (w1 : (Cond.methodLink own index y).before a0 Z = true) (w2 : (Cond.declares y).before a0 Z = true) (w3 : (Cond.selects C y y).before a0 Z = true) (w4 : (Cond.instanceMethod y).before a0 Z = true) (w5 : (Cond.initialized y.cls).before a0 Z = true) (w6 : (Cond.code y bytes maxL ret).before a0 Z = true)
    (hy : y.cls ≠ "java/lang/invoke/MethodHandle" ∧ y.cls ≠ "java/lang/invoke/VarHandle")
    (hM : MetFree l y (head1 [Cond.code y bytes maxL ret] rm) (fun a U => a = as' ∧ Z.Warmed39 U.vm ∧ U.heap = h) (fun _ _ _ _ _ => True) (fun _ U o U' => ∃ v L, o = .returned v ∧ Q v U'.heap L ∧ FrameEnd U o U' L rm.cells rm.slots))
    (eT : T.heap = h) {b : Addr} (E : Exa Z h b C) (hf : rm.frames + 1 ≤ R.frames) (hl : W + (maxL + 11) + rm.locals ≤ R.locals) {g : JFrame} (hg : g.method = m) (hsize : g.locals.size = c.maxLocals) (argsL rest : List Value) {ps : List FieldType} {r : Option FieldType}
    (hd : parseMethodDescriptor y.desc = some ⟨ps, r⟩) (hlen : argsL.length = ps.length) (hstack : g.stack = argsL.reverse ++ .ref b :: rest) (hW : 2 * g.monitorRoom + (rest.map fun v => v.category).sum ≤ W) (hdg : decode c.code g.pc = .ok (.invokevirtual index, 3))
    (has : (.ref b :: argsL).toArray = as') (hc : cells + rm.cells ≤ R.cells) (hs : slots + rm.slots ≤ R.slots) :
    ∃ (v : Option Value) (T' : State) (L : List Loc), Stand p l e R s m args below meth c T' (locs ++ L) (cells + rm.cells) (slots + rm.slots) ∧ Q v T'.heap L ∧
      ∀ t, Steps p.tables e below (T'.setTop { g with pc := g.pc + 3, stack := v.toList ++ rest }) t → Steps p.tables e below (T.setTop g) t := by
  obtain ⟨cq, kq, qa, qb, qc⟩ := isOf hZ eT E
  obtain ⟨v, _, ⟨T', L', k', n'⟩, -, X', ⟨Lc, hQ, l', y', z'⟩, st⟩ := X.virtualBack hx (y := y) (z := y) hown (mvT hZ w1) (mvT hZ w2) (notFace_of_selects (args := #[]) (mvT hZ w3)) (mvT hZ w3) (mvT hZ w4) hy (backOf (W := W) hM hZ w6 w5 hf hl) qa qc hg hsize (Steps.refl _) (argsL := argsL) (rest := rest) (lenOf hd hlen) hstack hW hdg (fun _ _ => ⟨has, eT, hc, hs⟩)
  dsimp only [Pt.U, Pt.locs, Pt.cells, Pt.slots] at X' l' y' z' st hQ
  subst l' y' z'
  exact ⟨v, T', Lc, X', hQ, fun t k => st.trans k⟩
end Calls
theorem own_lrem {tb : Tables} [Ours tb] {e : Env} {below : List Frame} {T target : State} {m : MethodId} {c : Code} {g : JFrame} (h : At T m c below) (hx : tb.exec = Jvm.exec) (hg : g.method = m) {x y : Int64} {rest : List Value} (hd : decode c.code g.pc = .ok (.lrem, 1)) (hs : g.stack = .long y :: .long x :: rest) (hy : y ≠ 0)
    (hr : Steps tb e below (T.setTop { g with pc := g.pc + 1, stack := .long (x % y) :: rest }) target) : Steps tb e below (T.setTop g) target := XS.lrem h hx hg hd hs hy (by rw [lrem_mod]; exact hr)
/-! 2. own facts of arrays: n places, place i holds f i -/
def own_up {α : Type} (f : Nat → α) (j : Nat) (v : α) : Nat → α := fun i => if i = j then v else f i
theorem own_up_at {α : Type} (f : Nat → α) (j : Nat) (v : α) (i : Nat) : own_up f j v i = if i = j then v else f i := rfl
def own_AI (Z : State) (h : Heap) (a : Addr) (ty : FieldType) (n : Nat) (f : Nat → Int32) : Prop :=
  ∃ c : Cell, Arr Z h a c ty ∧ c.slots.size = n ∧ n < 2147483648 ∧ ∀ i, i < n → c.slots[i]? = some (.int (f i))
def own_AJ (Z : State) (h : Heap) (a : Addr) (n : Nat) (f : Nat → Int64) : Prop :=
  ∃ c : Cell, Arr Z h a c .long ∧ c.slots.size = n ∧ n < 2147483648 ∧ ∀ i, i < n → c.slots[i]? = some (.long (f i))
section Arrays
variable {Z : State} {h h' : Heap} {a b : Addr} {ty : FieldType} {n : Nat} {f g : Nat → Int32} {fj gj : Nat → Int64}
theorem own_AI.lt (V : own_AI Z h a ty n f) : a < h.size := by obtain ⟨c, A, -⟩ := V; exact A.lt
theorem own_AI.ext (V : own_AI Z h a ty n f) (E : Ext h h') : own_AI Z h' a ty n f := by obtain ⟨c, A, r⟩ := V; exact ⟨c, A.ext E, r⟩
theorem own_AI.other {sl : Nat} {v : Value} (V : own_AI Z h b ty n f) (W : Wr h h' a sl v) (q : b ≠ a) : own_AI Z h' b ty n f := by obtain ⟨c, A, r⟩ := V; exact ⟨c, A.other W q, r⟩
theorem own_AI.keep {ws : List Addr} (V : own_AI Z h a ty n f) (K : Keep h h' ws) (q : a ∉ ws) : own_AI Z h' a ty n f := by obtain ⟨c, A, r⟩ := V; exact ⟨c, ⟨K.2.1 a c A.1 q, A.2⟩, r⟩
theorem own_AI.cong (V : own_AI Z h a ty n f) (q : ∀ i, i < n → f i = g i) : own_AI Z h a ty n g := by obtain ⟨c, A, S, B, H⟩ := V; exact ⟨c, A, S, B, fun i hi => by rw [← q i hi]; exact H i hi⟩
theorem own_AI.new {k : ClassId} {z : Int32} (A : Arr Z h a (newA k ty z) ty) (q : ¬ z < 0) (d : defaultValue ty = .int 0) (n : Nat) (hn : z.toNatClampNeg = n) : own_AI Z h a ty n (fun _ => 0) := by
  subst hn
  exact ⟨_, A, sz_new _ _ _, (back32 q).2, fun i hi => by simp [newA, hi, d]⟩
theorem own_slot (c : Cell) (i k : Nat) (v : Value) (hk : k < c.slots.size) : (c.setSlot i v).slots[k]? = if k = i then some v else c.slots[k]? := by
  by_cases q : k = i
  · subst q; simp [Cell.setSlot, hk]
  · simp [Cell.setSlot, q, Array.getElem?_setIfInBounds, Ne.symm q]
theorem own_AI.set {x : Int32} {i : Nat} (V : own_AI Z h a ty n f) (W : Wr h h' a i (.int x)) : own_AI Z h' a ty n (own_up f i x) := by
  obtain ⟨c, A, S, B, H⟩ := V
  refine ⟨_, A.same W, (sz_set _ _ _).trans S, B, fun k hk => ?_⟩
  rw [own_slot c i k _ (by omega), own_up_at]
  by_cases q : k = i
  · rw [if_pos q, if_pos q]
  · rw [if_neg q, if_neg q]; exact H k hk
theorem own_AI.at (V : own_AI Z h a ty n f) {j : Int32} (i : Nat) (hi : j.toNatClampNeg = i) (h0 : ¬ j < 0) (hn : i < n) :
    ∃ c : Cell, Arr Z h a c ty ∧ ¬ (j < 0 ∨ c.slots.size ≤ j.toNatClampNeg) ∧ c.slots[j.toNatClampNeg]? = some (.int (f i)) := by
  obtain ⟨c, A, S, B, H⟩ := V
  subst hi
  exact ⟨c, A, fun q => q.elim h0 (fun q => by omega), H _ hn⟩
theorem own_AJ.lt (V : own_AJ Z h a n fj) : a < h.size := by obtain ⟨c, A, -⟩ := V; exact A.lt
theorem own_AJ.ext (V : own_AJ Z h a n fj) (E : Ext h h') : own_AJ Z h' a n fj := by obtain ⟨c, A, r⟩ := V; exact ⟨c, A.ext E, r⟩
theorem own_AJ.other {sl : Nat} {v : Value} (V : own_AJ Z h b n fj) (W : Wr h h' a sl v) (q : b ≠ a) : own_AJ Z h' b n fj := by obtain ⟨c, A, r⟩ := V; exact ⟨c, A.other W q, r⟩
theorem own_AJ.keep {ws : List Addr} (V : own_AJ Z h a n fj) (K : Keep h h' ws) (q : a ∉ ws) : own_AJ Z h' a n fj := by obtain ⟨c, A, r⟩ := V; exact ⟨c, ⟨K.2.1 a c A.1 q, A.2⟩, r⟩
theorem own_AJ.cong (V : own_AJ Z h a n fj) (q : ∀ i, i < n → fj i = gj i) : own_AJ Z h a n gj := by obtain ⟨c, A, S, B, H⟩ := V; exact ⟨c, A, S, B, fun i hi => by rw [← q i hi]; exact H i hi⟩
theorem own_AJ.new {k : ClassId} {z : Int32} (A : Arr Z h a (newA k .long z) .long) (q : ¬ z < 0) (n : Nat) (hn : z.toNatClampNeg = n) : own_AJ Z h a n (fun _ => 0) := by
  subst hn
  exact ⟨_, A, sz_new _ _ _, (back32 q).2, fun i hi => by simp [newA, hi]; rfl⟩
theorem own_AJ.set {x : Int64} {i : Nat} (V : own_AJ Z h a n fj) (W : Wr h h' a i (.long x)) : own_AJ Z h' a n (own_up fj i x) := by
  obtain ⟨c, A, S, B, H⟩ := V
  refine ⟨_, A.same W, (sz_set _ _ _).trans S, B, fun k hk => ?_⟩
  rw [own_slot c i k _ (by omega), own_up_at]
  by_cases q : k = i
  · rw [if_pos q, if_pos q]
  · rw [if_neg q, if_neg q]; exact H k hk
theorem own_AJ.at (V : own_AJ Z h a n fj) {j : Int32} (i : Nat) (hi : j.toNatClampNeg = i) (h0 : ¬ j < 0) (hn : i < n) :
    ∃ c : Cell, Arr Z h a c .long ∧ ¬ (j < 0 ∨ c.slots.size ≤ j.toNatClampNeg) ∧ c.slots[j.toNatClampNeg]? = some (.long (fj i)) := by
  obtain ⟨c, A, S, B, H⟩ := V
  subst hi
  exact ⟨c, A, fun q => q.elim h0 (fun q => by omega), H _ hn⟩
end Arrays
section ArraySteps
variable {p : Program} {l : Launch} {e : Env} {R : Room} {s : State} {m : MethodId} {args : Array Value} {below : List Frame} {meth : Method} {c : Code} {T : State} {locs : List Loc} {cells slots : Nat} {Z : State} {a0 : Array Value} {h : Heap} {a : Addr} {n : Nat} {f : Nat → Int32} {fj : Nat → Int64} {j x : Int32} {xj : Int64} {g : JFrame} {rest : List Value}
theorem own_stI (X : Stand p l e R s m args below meth c T locs cells slots) (hx : p.tables.exec = Jvm.exec) (hZ : Z.Warmed39 s.vm) (eT : T.heap = h) (V : own_AI Z h a .int n f) (i : Nat) (hi : j.toNatClampNeg = i) (h0 : ¬ j < 0) (hn : i < n) (hg : g.method = m) (hs : g.stack = .int x :: .int j :: .ref a :: rest) (hd : decode c.code g.pc = .ok (.iastore, 1)) :
    ∃ T' h', Stand p l e R s m args below meth c T' (locs ++ [⟨a, i⟩]) cells slots ∧ T'.heap = h' ∧ Wr h h' a i (.int x) ∧ own_AI Z h' a .int n (own_up f i x) ∧ ∀ t, Steps p.tables e below (T'.setTop { g with pc := g.pc + 1, stack := rest }) t → Steps p.tables e below (T.setTop g) t := by
  obtain ⟨cl, A, hj, -⟩ := V.at i hi h0 hn
  obtain ⟨T', h', X', e', W, st⟩ := stI X hx hZ eT A hj hg hs hd
  subst hi
  exact ⟨T', h', X', e', W, V.set W, st⟩
theorem own_stB (X : Stand p l e R s m args below meth c T locs cells slots) (hx : p.tables.exec = Jvm.exec) (hZ : Z.Warmed39 s.vm) (eT : T.heap = h) (V : own_AI Z h a .byte n f) (i : Nat) (hi : j.toNatClampNeg = i) (h0 : ¬ j < 0) (hn : i < n) (hg : g.method = m) (hs : g.stack = .int x :: .int j :: .ref a :: rest) (hd : decode c.code g.pc = .ok (.bastore, 1)) :
    ∃ T' h', Stand p l e R s m args below meth c T' (locs ++ [⟨a, i⟩]) cells slots ∧ T'.heap = h' ∧ Wr h h' a i (.int (nar .byte x)) ∧ own_AI Z h' a .byte n (own_up f i x.toInt8.toInt32) ∧ ∀ t, Steps p.tables e below (T'.setTop { g with pc := g.pc + 1, stack := rest }) t → Steps p.tables e below (T.setTop g) t := by
  obtain ⟨cl, A, hj, -⟩ := V.at i hi h0 hn
  obtain ⟨T', h', X', e', W, st⟩ := stB X hx hZ eT A hj hg hs hd
  subst hi
  exact ⟨T', h', X', e', W, V.set W, st⟩
theorem own_stC (X : Stand p l e R s m args below meth c T locs cells slots) (hx : p.tables.exec = Jvm.exec) (hZ : Z.Warmed39 s.vm) (eT : T.heap = h) (V : own_AI Z h a .char n f) (i : Nat) (hi : j.toNatClampNeg = i) (h0 : ¬ j < 0) (hn : i < n) (hg : g.method = m) (hs : g.stack = .int x :: .int j :: .ref a :: rest) (hd : decode c.code g.pc = .ok (.castore, 1)) :
    ∃ T' h', Stand p l e R s m args below meth c T' (locs ++ [⟨a, i⟩]) cells slots ∧ T'.heap = h' ∧ Wr h h' a i (.int (nar .char x)) ∧ own_AI Z h' a .char n (own_up f i x.toUInt32.toUInt16.toUInt32.toInt32) ∧ ∀ t, Steps p.tables e below (T'.setTop { g with pc := g.pc + 1, stack := rest }) t → Steps p.tables e below (T.setTop g) t := by
  obtain ⟨cl, A, hj, -⟩ := V.at i hi h0 hn
  obtain ⟨T', h', X', e', W, st⟩ := stC X hx hZ eT A hj hg hs hd
  subst hi
  exact ⟨T', h', X', e', W, V.set W, st⟩
theorem own_stJ (X : Stand p l e R s m args below meth c T locs cells slots) (hx : p.tables.exec = Jvm.exec) (hZ : Z.Warmed39 s.vm) (eT : T.heap = h) (V : own_AJ Z h a n fj) (i : Nat) (hi : j.toNatClampNeg = i) (h0 : ¬ j < 0) (hn : i < n) (hg : g.method = m) (hs : g.stack = .long xj :: .int j :: .ref a :: rest) (hd : decode c.code g.pc = .ok (.lastore, 1)) :
    ∃ T' h', Stand p l e R s m args below meth c T' (locs ++ [⟨a, i⟩]) cells slots ∧ T'.heap = h' ∧ Wr h h' a i (.long xj) ∧ own_AJ Z h' a n (own_up fj i xj) ∧ ∀ t, Steps p.tables e below (T'.setTop { g with pc := g.pc + 1, stack := rest }) t → Steps p.tables e below (T.setTop g) t := by
  obtain ⟨cl, A, hj, -⟩ := V.at i hi h0 hn
  obtain ⟨T', h', X', e', W, st⟩ := stJ X hx hZ eT A hj hg hs hd
  subst hi
  exact ⟨T', h', X', e', W, V.set W, st⟩
theorem own_ldI (X : Stand p l e R s m args below meth c T locs cells slots) (hx : p.tables.exec = Jvm.exec) (hZ : Z.Warmed39 s.vm) (eT : T.heap = h) (V : own_AI Z h a .int n f) (i : Nat) (hi : j.toNatClampNeg = i) (h0 : ¬ j < 0) (hn : i < n) (hg : g.method = m) (hs : g.stack = .int j :: .ref a :: rest) (hd : decode c.code g.pc = .ok (.iaload, 1)) :
    ∀ t, Steps p.tables e below (T.setTop { g with pc := g.pc + 1, stack := .int (f i) :: rest }) t → Steps p.tables e below (T.setTop g) t := by
  obtain ⟨cl, A, hj, hv⟩ := V.at i hi h0 hn
  exact fun t k => X.iaload hx (by rw [eT]; exact A.1) (State.isArrayOf_alike hZ.alike A.2.1) A.2.2 hj hv hg hs hd t k
theorem own_ldB (X : Stand p l e R s m args below meth c T locs cells slots) (hx : p.tables.exec = Jvm.exec) (hZ : Z.Warmed39 s.vm) (eT : T.heap = h) (V : own_AI Z h a .byte n f) (i : Nat) (hi : j.toNatClampNeg = i) (h0 : ¬ j < 0) (hn : i < n) (hg : g.method = m) (hs : g.stack = .int j :: .ref a :: rest) (hd : decode c.code g.pc = .ok (.baload, 1)) :
    ∀ t, Steps p.tables e below (T.setTop { g with pc := g.pc + 1, stack := .int (f i) :: rest }) t → Steps p.tables e below (T.setTop g) t := by
  obtain ⟨cl, A, hj, hv⟩ := V.at i hi h0 hn
  exact fun t k => X.baloadBytes hx (by rw [eT]; exact A.1) (State.isArrayOf_alike hZ.alike A.2.1) A.2.2 hj hv hg hs hd t k
theorem own_ldC (X : Stand p l e R s m args below meth c T locs cells slots) (hx : p.tables.exec = Jvm.exec) (hZ : Z.Warmed39 s.vm) (eT : T.heap = h) (V : own_AI Z h a .char n f) (i : Nat) (hi : j.toNatClampNeg = i) (h0 : ¬ j < 0) (hn : i < n) (hg : g.method = m) (hs : g.stack = .int j :: .ref a :: rest) (hd : decode c.code g.pc = .ok (.caload, 1)) :
    ∀ t, Steps p.tables e below (T.setTop { g with pc := g.pc + 1, stack := .int (f i) :: rest }) t → Steps p.tables e below (T.setTop g) t := by
  obtain ⟨cl, A, hj, hv⟩ := V.at i hi h0 hn
  exact fun t k => X.caload hx (by rw [eT]; exact A.1) (State.isArrayOf_alike hZ.alike A.2.1) A.2.2 hj hv hg hs hd t k
theorem own_ldJ (X : Stand p l e R s m args below meth c T locs cells slots) (hx : p.tables.exec = Jvm.exec) (hZ : Z.Warmed39 s.vm) (eT : T.heap = h) (V : own_AJ Z h a n fj) (i : Nat) (hi : j.toNatClampNeg = i) (h0 : ¬ j < 0) (hn : i < n) (hg : g.method = m) (hs : g.stack = .int j :: .ref a :: rest) (hd : decode c.code g.pc = .ok (.laload, 1)) :
    ∀ t, Steps p.tables e below (T.setTop { g with pc := g.pc + 1, stack := .long (fj i) :: rest }) t → Steps p.tables e below (T.setTop g) t := by
  obtain ⟨cl, A, hj, hv⟩ := V.at i hi h0 hn
  exact fun t k => X.laload hx (by rw [eT]; exact A.1) (State.isArrayOf_alike hZ.alike A.2.1) A.2.2 hj hv hg hs hd t k
theorem own_lenI {ty : FieldType} (X : Stand p l e R s m args below meth c T locs cells slots) (hx : p.tables.exec = Jvm.exec) (hZ : Z.Warmed39 s.vm) (eT : T.heap = h) (V : own_AI Z h a ty n f) (N : Int32) (hN : n.toInt32 = N) (hg : g.method = m) (hs : g.stack = .ref a :: rest) (hd : decode c.code g.pc = .ok (.arraylength, 1)) :
    ∀ t, Steps p.tables e below (T.setTop { g with pc := g.pc + 1, stack := .int N :: rest }) t → Steps p.tables e below (T.setTop g) t := by
  obtain ⟨cl, A, S, -⟩ := V
  subst hN S
  exact fun t k => X.arraylength hx (by rw [eT]; exact A.1) (State.isArrayOf_alike hZ.alike A.2.1) hg hs hd t k
theorem own_lenJ (X : Stand p l e R s m args below meth c T locs cells slots) (hx : p.tables.exec = Jvm.exec) (hZ : Z.Warmed39 s.vm) (eT : T.heap = h) (V : own_AJ Z h a n fj) (N : Int32) (hN : n.toInt32 = N) (hg : g.method = m) (hs : g.stack = .ref a :: rest) (hd : decode c.code g.pc = .ok (.arraylength, 1)) :
    ∀ t, Steps p.tables e below (T.setTop { g with pc := g.pc + 1, stack := .int N :: rest }) t → Steps p.tables e below (T.setTop g) t := by
  obtain ⟨cl, A, S, -⟩ := V
  subst hN S
  exact fun t k => X.arraylength hx (by rw [eT]; exact A.1) (State.isArrayOf_alike hZ.alike A.2.1) hg hs hd t k
/-- areturn -/
theorem own_retA (X : Stand p l e R s m args below meth c T locs cells slots) (hx : p.tables.exec = Jvm.exec) {pc : Nat} {Ls : Array Slot} {t : FieldType} (hret : meth.sig.returnType = some t) (ht : t.isReference = true) (hd : decode c.code pc = .ok (.areturn, 1)) {fs : List Frame}
    (hl : ∀ (f : JFrame) (acts : List Action), f.method = m → f.locked = none → f.entered = [] → (doReturn e (T.setTop f) acts (some (.ref a))).1 = T.setFrames fs) : Steps p.tables e below (T.setTop (mkF m pc Ls (.ref a :: rest))) (T.setFrames fs) :=
  retOut X hx hret (by cases t <;> first | rfl | (cases ht; done)) (Or.inr (Or.inr (Or.inr (Or.inr ⟨rfl, ht, rfl⟩)))) hd hl
end ArraySteps
theorem own_pd0 : parseMethodDescriptor "([I)[I" = some ⟨[(.array .int)], some (.array .int)⟩ := by decide +kernel
/-- what is left when the free places are passed over -/
def own_sel (f : Nat → Int32) : List Int32 := (if f 0 = (-1 : Int32) then [] else [f 0]) ++ ((if f 1 = (-1 : Int32) then [] else [f 1]) ++ ((if f 2 = (-1 : Int32) then [] else [f 2]) ++ (if f 3 = (-1 : Int32) then [] else [f 3])))
theorem own_sel_of {f : Nat → Int32} {a b c d : List Int32} (h0 : (if f 0 = (-1 : Int32) then [] else [f 0]) = a) (h1 : (if f 1 = (-1 : Int32) then [] else [f 1]) = b) (h2 : (if f 2 = (-1 : Int32) then [] else [f 2]) = c) (h3 : (if f 3 = (-1 : Int32) then [] else [f 3]) = d) : own_sel f = a ++ (b ++ (c ++ d)) := by subst h0 h1 h2 h3; rfl
/-- the array's n places are the list's -/
def own_Is (l : List Int32) (n : Nat) (r : Nat → Int32) : Prop := n = l.length ∧ ∀ i, i < l.length → r i = l.getD i 0
theorem own_seld {f : Nat → Int32} {l : List Int32} {n : Nat} {r : Nat → Int32} (h : own_sel f = l) (hn : n = l.length) (hr : ∀ i, i < l.length → r i = l.getD i 0) : own_Is (own_sel f) n r := by rw [h]; exact ⟨hn, hr⟩
theorem own_pick0 {r : Nat → Int32} (_ : (0 : Nat) = 0) : ∀ i, i < ([] : List Int32).length → r i = ([] : List Int32).getD i 0 := fun i h => absurd h (Nat.not_lt_zero i)
theorem own_pick1 {r : Nat → Int32} {a : Int32} (_ : (0 : Nat) = 0) (h0 : r 0 = a) : ∀ i, i < [a].length → r i = [a].getD i 0 := fun i h => by
  match i, h with
  | 0, _ => exact h0
theorem own_pick2 {r : Nat → Int32} {a b : Int32} (_ : (0 : Nat) = 0) (h0 : r 0 = a) (h1 : r 1 = b) : ∀ i, i < [a, b].length → r i = [a, b].getD i 0 := fun i h => by
  match i, h with
  | 0, _ => exact h0
  | 1, _ => exact h1
theorem own_pick3 {r : Nat → Int32} {a b c : Int32} (_ : (0 : Nat) = 0) (h0 : r 0 = a) (h1 : r 1 = b) (h2 : r 2 = c) : ∀ i, i < [a, b, c].length → r i = [a, b, c].getD i 0 := fun i h => by
  match i, h with
  | 0, _ => exact h0
  | 1, _ => exact h1
  | 2, _ => exact h2
theorem own_pick4 {r : Nat → Int32} {a b c d : Int32} (_ : (0 : Nat) = 0) (h0 : r 0 = a) (h1 : r 1 = b) (h2 : r 2 = c) (h3 : r 3 = d) : ∀ i, i < [a, b, c, d].length → r i = [a, b, c, d].getD i 0 := fun i h => by
  match i, h with
  | 0, _ => exact h0
  | 1, _ => exact h1
  | 2, _ => exact h2
  | 3, _ => exact h3
theorem own_nn (x : Int32) : ¬ (x &&& (2147483647 : Int32)) = (-1 : Int32) := fun q => by
  have m := c_mask x 2147483647 31 (by decide) (by decide)
  have e : (-1 : Int32).toInt = -1 := by decide
  rw [q, e] at m
  generalize x.toInt = y at *
  omega
abbrev own_Q1 (Z : State) (f : Nat → Int32) (h0 : Heap) (n0 : Nat) (v : Option Value) (h : Heap) (L : List Loc) : Prop := ∃ (b : Addr) (n : Nat) (r : Nat → Int32), v = some (.ref b) ∧ Fr n0 L ∧ Keep h0 h [] ∧ h0.size ≤ b ∧ own_AI Z h b .int n r ∧ own_Is (own_sel f) n r
theorem d1_0 : decode prog_75_method_5_code 0 = .ok (.iconst 0, 1) := by decide +kernel
theorem d1_1 : decode prog_75_method_5_code 1 = .ok (.istore_n 1, 1) := by decide +kernel
theorem d1_2 : decode prog_75_method_5_code 2 = .ok (.aload_n 0, 1) := by decide +kernel
theorem d1_3 : decode prog_75_method_5_code 3 = .ok (.astore_n 2, 1) := by decide +kernel
theorem d1_4 : decode prog_75_method_5_code 4 = .ok (.aload_n 2, 1) := by decide +kernel
theorem d1_5 : decode prog_75_method_5_code 5 = .ok (.arraylength, 1) := by decide +kernel
theorem d1_6 : decode prog_75_method_5_code 6 = .ok (.istore_n 3, 1) := by decide +kernel
theorem d1_7 : decode prog_75_method_5_code 7 = .ok (.iconst 0, 1) := by decide +kernel
theorem d1_8 : decode prog_75_method_5_code 8 = .ok (.istore 4, 2) := by decide +kernel
theorem d1_10 : decode prog_75_method_5_code 10 = .ok (.iload 4, 2) := by decide +kernel
theorem d1_12 : decode prog_75_method_5_code 12 = .ok (.iload_n 3, 1) := by decide +kernel
theorem d1_13 : decode prog_75_method_5_code 13 = .ok (.if_icmp .ge 24, 3) := by decide +kernel
theorem d1_16 : decode prog_75_method_5_code 16 = .ok (.aload_n 2, 1) := by decide +kernel
theorem d1_17 : decode prog_75_method_5_code 17 = .ok (.iload 4, 2) := by decide +kernel
theorem d1_19 : decode prog_75_method_5_code 19 = .ok (.iaload, 1) := by decide +kernel
theorem d1_20 : decode prog_75_method_5_code 20 = .ok (.istore 5, 2) := by decide +kernel
theorem d1_22 : decode prog_75_method_5_code 22 = .ok (.iload 5, 2) := by decide +kernel
theorem d1_24 : decode prog_75_method_5_code 24 = .ok (.iconst (-1), 1) := by decide +kernel
theorem d1_25 : decode prog_75_method_5_code 25 = .ok (.if_icmp .eq 6, 3) := by decide +kernel
theorem d1_28 : decode prog_75_method_5_code 28 = .ok (.iinc 1 1, 3) := by decide +kernel
theorem d1_31 : decode prog_75_method_5_code 31 = .ok (.iinc 4 1, 3) := by decide +kernel
theorem d1_34 : decode prog_75_method_5_code 34 = .ok (.goto (-24), 3) := by decide +kernel
theorem d1_37 : decode prog_75_method_5_code 37 = .ok (.iload_n 1, 1) := by decide +kernel
theorem d1_38 : decode prog_75_method_5_code 38 = .ok (.newarray .int, 2) := by decide +kernel
theorem d1_40 : decode prog_75_method_5_code 40 = .ok (.astore_n 2, 1) := by decide +kernel
theorem d1_41 : decode prog_75_method_5_code 41 = .ok (.iconst 0, 1) := by decide +kernel
theorem d1_42 : decode prog_75_method_5_code 42 = .ok (.istore_n 3, 1) := by decide +kernel
theorem d1_43 : decode prog_75_method_5_code 43 = .ok (.aload_n 0, 1) := by decide +kernel
theorem d1_44 : decode prog_75_method_5_code 44 = .ok (.astore 4, 2) := by decide +kernel
theorem d1_46 : decode prog_75_method_5_code 46 = .ok (.aload 4, 2) := by decide +kernel
theorem d1_48 : decode prog_75_method_5_code 48 = .ok (.arraylength, 1) := by decide +kernel
theorem d1_49 : decode prog_75_method_5_code 49 = .ok (.istore 5, 2) := by decide +kernel
theorem d1_51 : decode prog_75_method_5_code 51 = .ok (.iconst 0, 1) := by decide +kernel
theorem d1_52 : decode prog_75_method_5_code 52 = .ok (.istore 6, 2) := by decide +kernel
theorem d1_54 : decode prog_75_method_5_code 54 = .ok (.iload 6, 2) := by decide +kernel
theorem d1_56 : decode prog_75_method_5_code 56 = .ok (.iload 5, 2) := by decide +kernel
theorem d1_58 : decode prog_75_method_5_code 58 = .ok (.if_icmp .ge 30, 3) := by decide +kernel
theorem d1_61 : decode prog_75_method_5_code 61 = .ok (.aload 4, 2) := by decide +kernel
theorem d1_63 : decode prog_75_method_5_code 63 = .ok (.iload 6, 2) := by decide +kernel
theorem d1_65 : decode prog_75_method_5_code 65 = .ok (.iaload, 1) := by decide +kernel
theorem d1_66 : decode prog_75_method_5_code 66 = .ok (.istore 7, 2) := by decide +kernel
theorem d1_68 : decode prog_75_method_5_code 68 = .ok (.iload 7, 2) := by decide +kernel
theorem d1_70 : decode prog_75_method_5_code 70 = .ok (.iconst (-1), 1) := by decide +kernel
theorem d1_71 : decode prog_75_method_5_code 71 = .ok (.if_icmp .eq 11, 3) := by decide +kernel
theorem d1_74 : decode prog_75_method_5_code 74 = .ok (.aload_n 2, 1) := by decide +kernel
theorem d1_75 : decode prog_75_method_5_code 75 = .ok (.iload_n 3, 1) := by decide +kernel
theorem d1_76 : decode prog_75_method_5_code 76 = .ok (.iload 7, 2) := by decide +kernel
theorem d1_78 : decode prog_75_method_5_code 78 = .ok (.iastore, 1) := by decide +kernel
theorem d1_79 : decode prog_75_method_5_code 79 = .ok (.iinc 3 1, 3) := by decide +kernel
theorem d1_82 : decode prog_75_method_5_code 82 = .ok (.iinc 6 1, 3) := by decide +kernel
theorem d1_85 : decode prog_75_method_5_code 85 = .ok (.goto (-31), 3) := by decide +kernel
theorem d1_88 : decode prog_75_method_5_code 88 = .ok (.aload_n 2, 1) := by decide +kernel
theorem d1_89 : decode prog_75_method_5_code 89 = .ok (.areturn, 1) := by decide +kernel
theorem own_ef1 (m : MethodId) (p0 : Addr) : entryFrame m #[(.ref p0)] 8 = mkF m 0 #[.val (.ref p0), .unset, .unset, .unset, .unset, .unset, .unset, .unset] [] := by first | (simp [entryFrame, mkF, argsToLocals, Value.category]; done) | rfl
theorem own_pn1 : plainName "com/example/referent/referent/solver/IntTables" = true := by first | (simp [plainName, overriddenIn]; done) | decide +kernel
set_option maxRecDepth 65536 in
set_option maxHeartbeats 40000000 in
theorem rm1 (l : Launch) (Z : State) (a0 : Array Value) (hw : ∀ d ∈ tables_1, d.before a0 Z = true) (ws : List Jvm.Cond) (p0 : Addr) (f : Nat → Int32) (h0 : Heap) (n0 : Nat) (Z0 : n0 ≤ h0.size) (V_p0 : own_AI Z h0 p0 .int 4 f) :
    MetFree l (⟨"com/example/referent/referent/solver/IntTables", "numbers", "([I)[I"⟩ : MethodName) (head1 (Jvm.Cond.code (⟨"com/example/referent/referent/solver/IntTables", "numbers", "([I)[I"⟩ : MethodName) prog_75_method_5_code 8 (some (.array .int)) :: ws) ({ frames := 0, cells := 1, slots := 4, locals := 0 } : Room)) (fun a U => a = #[(.ref p0)] ∧ Z.Warmed39 U.vm ∧ U.heap = h0) (fun _ _ _ _ _ => True) (fun _ U o U' => ∃ v L, o = .returned v ∧ own_Q1 Z f h0 n0 v U'.heap L ∧ FrameEnd U o U' L ({ frames := 0, cells := 1, slots := 4, locals := 0 } : Room).cells ({ frames := 0, cells := 1, slots := 4, locals := 0 } : Room).slots) := by
  refine own_contract (plainFor_of_name own_pn1) (fun m => own_ef1 m p0) ?_
  intro p e s m below meth c s₁ G hx hby hml0 hown0 hnm hret hZ X0 e0 hp hR
  have hml : c.maxLocals = 8 := hml0
  have hown : s.vm.findClass "com/example/referent/referent/solver/IntTables" = some m.cls := hown0
  have N0 := Fr.nil n0
  show G s₁ (mkF m 0 #[.val (.ref p0), .unset, .unset, .unset, .unset, .unset, .unset, .unset] [])
  have K0 : Keep h0 h0 [] := Keep.refl _ _
  refine hp (fun tq kq => XS.iconst X0.here hx rfl (hb hby d1_0) kq) ?_
  show G s₁ (mkF m 1 #[.val (.ref p0), .unset, .unset, .unset, .unset, .unset, .unset, .unset] [(.int (0 : Int32))])
  refine hp (fun tq kq => XS.istoreN X0.here hx rfl (hb hby d1_1) rfl (l' := #[.val (.ref p0), .val (.int (0 : Int32)), .unset, .unset, .unset, .unset, .unset, .unset]) rfl kq) ?_
  show G s₁ (mkF m 2 #[.val (.ref p0), .val (.int (0 : Int32)), .unset, .unset, .unset, .unset, .unset, .unset] [])
  refine hp (fun tq kq => XS.aloadN X0.here hx rfl (hb hby d1_2) rfl rfl kq) ?_
  show G s₁ (mkF m 3 #[.val (.ref p0), .val (.int (0 : Int32)), .unset, .unset, .unset, .unset, .unset, .unset] [(.ref p0)])
  refine hp (fun tq kq => XS.astoreN X0.here hx rfl (hb hby d1_3) rfl rfl (l' := #[.val (.ref p0), .val (.int (0 : Int32)), .val (.ref p0), .unset, .unset, .unset, .unset, .unset]) rfl kq) ?_
  show G s₁ (mkF m 4 #[.val (.ref p0), .val (.int (0 : Int32)), .val (.ref p0), .unset, .unset, .unset, .unset, .unset] [])
  refine hp (fun tq kq => XS.aloadN X0.here hx rfl (hb hby d1_4) rfl rfl kq) ?_
  show G s₁ (mkF m 5 #[.val (.ref p0), .val (.int (0 : Int32)), .val (.ref p0), .unset, .unset, .unset, .unset, .unset] [(.ref p0)])
  refine hp (own_lenI X0 hx hZ e0 V_p0 (4 : Int32) rfl (g := (mkF m 5 #[.val (.ref p0), .val (.int (0 : Int32)), .val (.ref p0), .unset, .unset, .unset, .unset, .unset] [(.ref p0)])) rfl rfl (hb hby d1_5)) ?_
  show G s₁ (mkF m 6 #[.val (.ref p0), .val (.int (0 : Int32)), .val (.ref p0), .unset, .unset, .unset, .unset, .unset] [(.int (4 : Int32))])
  refine hp (fun tq kq => XS.istoreN X0.here hx rfl (hb hby d1_6) rfl (l' := #[.val (.ref p0), .val (.int (0 : Int32)), .val (.ref p0), .val (.int (4 : Int32)), .unset, .unset, .unset, .unset]) rfl kq) ?_
  show G s₁ (mkF m 7 #[.val (.ref p0), .val (.int (0 : Int32)), .val (.ref p0), .val (.int (4 : Int32)), .unset, .unset, .unset, .unset] [])
  refine hp (fun tq kq => XS.iconst X0.here hx rfl (hb hby d1_7) kq) ?_
  show G s₁ (mkF m 8 #[.val (.ref p0), .val (.int (0 : Int32)), .val (.ref p0), .val (.int (4 : Int32)), .unset, .unset, .unset, .unset] [(.int (0 : Int32))])
  refine hp (fun tq kq => XS.istore X0.here hx rfl (hb hby d1_8) rfl (l' := #[.val (.ref p0), .val (.int (0 : Int32)), .val (.ref p0), .val (.int (4 : Int32)), .val (.int (0 : Int32)), .unset, .unset, .unset]) rfl kq) ?_
  show G s₁ (mkF m 10 #[.val (.ref p0), .val (.int (0 : Int32)), .val (.ref p0), .val (.int (4 : Int32)), .val (.int (0 : Int32)), .unset, .unset, .unset] [])
  refine hp (fun tq kq => XS.iload X0.here hx rfl (hb hby d1_10) rfl kq) ?_
  show G s₁ (mkF m 12 #[.val (.ref p0), .val (.int (0 : Int32)), .val (.ref p0), .val (.int (4 : Int32)), .val (.int (0 : Int32)), .unset, .unset, .unset] [(.int (0 : Int32))])
  refine hp (fun tq kq => XS.iloadN X0.here hx rfl (hb hby d1_12) rfl kq) ?_
  show G s₁ (mkF m 13 #[.val (.ref p0), .val (.int (0 : Int32)), .val (.ref p0), .val (.int (4 : Int32)), .val (.int (0 : Int32)), .unset, .unset, .unset] [(.int (4 : Int32)), (.int (0 : Int32))])
  refine hp (fun tq kq => XS.icmpNo X0.here hx rfl (hb hby d1_13) rfl (tlt (by decide)).2.1 kq) ?_
  show G s₁ (mkF m 16 #[.val (.ref p0), .val (.int (0 : Int32)), .val (.ref p0), .val (.int (4 : Int32)), .val (.int (0 : Int32)), .unset, .unset, .unset] [])
  refine hp (fun tq kq => XS.aloadN X0.here hx rfl (hb hby d1_16) rfl rfl kq) ?_
  show G s₁ (mkF m 17 #[.val (.ref p0), .val (.int (0 : Int32)), .val (.ref p0), .val (.int (4 : Int32)), .val (.int (0 : Int32)), .unset, .unset, .unset] [(.ref p0)])
  refine hp (fun tq kq => XS.iload X0.here hx rfl (hb hby d1_17) rfl kq) ?_
  show G s₁ (mkF m 19 #[.val (.ref p0), .val (.int (0 : Int32)), .val (.ref p0), .val (.int (4 : Int32)), .val (.int (0 : Int32)), .unset, .unset, .unset] [(.int (0 : Int32)), (.ref p0)])
  refine hp (own_ldI X0 hx hZ e0 V_p0 (j := (0 : Int32)) 0 (by decide) (by decide) (by decide) (g := (mkF m 19 #[.val (.ref p0), .val (.int (0 : Int32)), .val (.ref p0), .val (.int (4 : Int32)), .val (.int (0 : Int32)), .unset, .unset, .unset] [(.int (0 : Int32)), (.ref p0)])) rfl rfl (hb hby d1_19)) ?_
  show G s₁ (mkF m 20 #[.val (.ref p0), .val (.int (0 : Int32)), .val (.ref p0), .val (.int (4 : Int32)), .val (.int (0 : Int32)), .unset, .unset, .unset] [(.int (f 0))])
  refine hp (fun tq kq => XS.istore X0.here hx rfl (hb hby d1_20) rfl (l' := #[.val (.ref p0), .val (.int (0 : Int32)), .val (.ref p0), .val (.int (4 : Int32)), .val (.int (0 : Int32)), .val (.int (f 0)), .unset, .unset]) rfl kq) ?_
  show G s₁ (mkF m 22 #[.val (.ref p0), .val (.int (0 : Int32)), .val (.ref p0), .val (.int (4 : Int32)), .val (.int (0 : Int32)), .val (.int (f 0)), .unset, .unset] [])
  refine hp (fun tq kq => XS.iload X0.here hx rfl (hb hby d1_22) rfl kq) ?_
  show G s₁ (mkF m 24 #[.val (.ref p0), .val (.int (0 : Int32)), .val (.ref p0), .val (.int (4 : Int32)), .val (.int (0 : Int32)), .val (.int (f 0)), .unset, .unset] [(.int (f 0))])
  refine hp (fun tq kq => XS.iconst X0.here hx rfl (hb hby d1_24) kq) ?_
  show G s₁ (mkF m 25 #[.val (.ref p0), .val (.int (0 : Int32)), .val (.ref p0), .val (.int (4 : Int32)), .val (.int (0 : Int32)), .val (.int (f 0)), .unset, .unset] [(.int (-1 : Int32)), (.int (f 0))])
  by_cases hb1 : (f 0) = (-1 : Int32)
  · refine hp (fun tq kq => XS.icmpYes X0.here hx rfl (pc0 := 25) (pc' := 31) rfl (hb hby d1_25) rfl (teq hb1).1 (by decide) (by decide) kq) ?_
    show G s₁ (mkF m 31 #[.val (.ref p0), .val (.int (0 : Int32)), .val (.ref p0), .val (.int (4 : Int32)), .val (.int (0 : Int32)), .val (.int (f 0)), .unset, .unset] [])
    refine hp (fun tq kq => XS.iinc X0.here hx rfl (hb hby d1_31) rfl (l' := #[.val (.ref p0), .val (.int (0 : Int32)), .val (.ref p0), .val (.int (4 : Int32)), .val (.int (1 : Int32)), .val (.int (f 0)), .unset, .unset]) rfl kq) ?_
    show G s₁ (mkF m 34 #[.val (.ref p0), .val (.int (0 : Int32)), .val (.ref p0), .val (.int (4 : Int32)), .val (.int (1 : Int32)), .val (.int (f 0)), .unset, .unset] [])
    refine hp (fun tq kq => XS.goto X0.here hx rfl (pc0 := 34) (pc' := 10) rfl (hb hby d1_34) (by decide) (by decide) kq) ?_
    show G s₁ (mkF m 10 #[.val (.ref p0), .val (.int (0 : Int32)), .val (.ref p0), .val (.int (4 : Int32)), .val (.int (1 : Int32)), .val (.int (f 0)), .unset, .unset] [])
    refine hp (fun tq kq => XS.iload X0.here hx rfl (hb hby d1_10) rfl kq) ?_
    show G s₁ (mkF m 12 #[.val (.ref p0), .val (.int (0 : Int32)), .val (.ref p0), .val (.int (4 : Int32)), .val (.int (1 : Int32)), .val (.int (f 0)), .unset, .unset] [(.int (1 : Int32))])
    refine hp (fun tq kq => XS.iloadN X0.here hx rfl (hb hby d1_12) rfl kq) ?_
    show G s₁ (mkF m 13 #[.val (.ref p0), .val (.int (0 : Int32)), .val (.ref p0), .val (.int (4 : Int32)), .val (.int (1 : Int32)), .val (.int (f 0)), .unset, .unset] [(.int (4 : Int32)), (.int (1 : Int32))])
    refine hp (fun tq kq => XS.icmpNo X0.here hx rfl (hb hby d1_13) rfl (tlt (by decide)).2.1 kq) ?_
    show G s₁ (mkF m 16 #[.val (.ref p0), .val (.int (0 : Int32)), .val (.ref p0), .val (.int (4 : Int32)), .val (.int (1 : Int32)), .val (.int (f 0)), .unset, .unset] [])
    refine hp (fun tq kq => XS.aloadN X0.here hx rfl (hb hby d1_16) rfl rfl kq) ?_
    show G s₁ (mkF m 17 #[.val (.ref p0), .val (.int (0 : Int32)), .val (.ref p0), .val (.int (4 : Int32)), .val (.int (1 : Int32)), .val (.int (f 0)), .unset, .unset] [(.ref p0)])
    refine hp (fun tq kq => XS.iload X0.here hx rfl (hb hby d1_17) rfl kq) ?_
    show G s₁ (mkF m 19 #[.val (.ref p0), .val (.int (0 : Int32)), .val (.ref p0), .val (.int (4 : Int32)), .val (.int (1 : Int32)), .val (.int (f 0)), .unset, .unset] [(.int (1 : Int32)), (.ref p0)])
    refine hp (own_ldI X0 hx hZ e0 V_p0 (j := (1 : Int32)) 1 (by decide) (by decide) (by decide) (g := (mkF m 19 #[.val (.ref p0), .val (.int (0 : Int32)), .val (.ref p0), .val (.int (4 : Int32)), .val (.int (1 : Int32)), .val (.int (f 0)), .unset, .unset] [(.int (1 : Int32)), (.ref p0)])) rfl rfl (hb hby d1_19)) ?_
    show G s₁ (mkF m 20 #[.val (.ref p0), .val (.int (0 : Int32)), .val (.ref p0), .val (.int (4 : Int32)), .val (.int (1 : Int32)), .val (.int (f 0)), .unset, .unset] [(.int (f 1))])
    refine hp (fun tq kq => XS.istore X0.here hx rfl (hb hby d1_20) rfl (l' := #[.val (.ref p0), .val (.int (0 : Int32)), .val (.ref p0), .val (.int (4 : Int32)), .val (.int (1 : Int32)), .val (.int (f 1)), .unset, .unset]) rfl kq) ?_
    show G s₁ (mkF m 22 #[.val (.ref p0), .val (.int (0 : Int32)), .val (.ref p0), .val (.int (4 : Int32)), .val (.int (1 : Int32)), .val (.int (f 1)), .unset, .unset] [])
    refine hp (fun tq kq => XS.iload X0.here hx rfl (hb hby d1_22) rfl kq) ?_
    show G s₁ (mkF m 24 #[.val (.ref p0), .val (.int (0 : Int32)), .val (.ref p0), .val (.int (4 : Int32)), .val (.int (1 : Int32)), .val (.int (f 1)), .unset, .unset] [(.int (f 1))])
    refine hp (fun tq kq => XS.iconst X0.here hx rfl (hb hby d1_24) kq) ?_
    show G s₁ (mkF m 25 #[.val (.ref p0), .val (.int (0 : Int32)), .val (.ref p0), .val (.int (4 : Int32)), .val (.int (1 : Int32)), .val (.int (f 1)), .unset, .unset] [(.int (-1 : Int32)), (.int (f 1))])
    by_cases hb2 : (f 1) = (-1 : Int32)
    · refine hp (fun tq kq => XS.icmpYes X0.here hx rfl (pc0 := 25) (pc' := 31) rfl (hb hby d1_25) rfl (teq hb2).1 (by decide) (by decide) kq) ?_
      show G s₁ (mkF m 31 #[.val (.ref p0), .val (.int (0 : Int32)), .val (.ref p0), .val (.int (4 : Int32)), .val (.int (1 : Int32)), .val (.int (f 1)), .unset, .unset] [])
      refine hp (fun tq kq => XS.iinc X0.here hx rfl (hb hby d1_31) rfl (l' := #[.val (.ref p0), .val (.int (0 : Int32)), .val (.ref p0), .val (.int (4 : Int32)), .val (.int (2 : Int32)), .val (.int (f 1)), .unset, .unset]) rfl kq) ?_
      show G s₁ (mkF m 34 #[.val (.ref p0), .val (.int (0 : Int32)), .val (.ref p0), .val (.int (4 : Int32)), .val (.int (2 : Int32)), .val (.int (f 1)), .unset, .unset] [])
      refine hp (fun tq kq => XS.goto X0.here hx rfl (pc0 := 34) (pc' := 10) rfl (hb hby d1_34) (by decide) (by decide) kq) ?_
      show G s₁ (mkF m 10 #[.val (.ref p0), .val (.int (0 : Int32)), .val (.ref p0), .val (.int (4 : Int32)), .val (.int (2 : Int32)), .val (.int (f 1)), .unset, .unset] [])
      refine hp (fun tq kq => XS.iload X0.here hx rfl (hb hby d1_10) rfl kq) ?_
      show G s₁ (mkF m 12 #[.val (.ref p0), .val (.int (0 : Int32)), .val (.ref p0), .val (.int (4 : Int32)), .val (.int (2 : Int32)), .val (.int (f 1)), .unset, .unset] [(.int (2 : Int32))])
      refine hp (fun tq kq => XS.iloadN X0.here hx rfl (hb hby d1_12) rfl kq) ?_
      show G s₁ (mkF m 13 #[.val (.ref p0), .val (.int (0 : Int32)), .val (.ref p0), .val (.int (4 : Int32)), .val (.int (2 : Int32)), .val (.int (f 1)), .unset, .unset] [(.int (4 : Int32)), (.int (2 : Int32))])
      refine hp (fun tq kq => XS.icmpNo X0.here hx rfl (hb hby d1_13) rfl (tlt (by decide)).2.1 kq) ?_
      show G s₁ (mkF m 16 #[.val (.ref p0), .val (.int (0 : Int32)), .val (.ref p0), .val (.int (4 : Int32)), .val (.int (2 : Int32)), .val (.int (f 1)), .unset, .unset] [])
      refine hp (fun tq kq => XS.aloadN X0.here hx rfl (hb hby d1_16) rfl rfl kq) ?_
      show G s₁ (mkF m 17 #[.val (.ref p0), .val (.int (0 : Int32)), .val (.ref p0), .val (.int (4 : Int32)), .val (.int (2 : Int32)), .val (.int (f 1)), .unset, .unset] [(.ref p0)])
      refine hp (fun tq kq => XS.iload X0.here hx rfl (hb hby d1_17) rfl kq) ?_
      show G s₁ (mkF m 19 #[.val (.ref p0), .val (.int (0 : Int32)), .val (.ref p0), .val (.int (4 : Int32)), .val (.int (2 : Int32)), .val (.int (f 1)), .unset, .unset] [(.int (2 : Int32)), (.ref p0)])
      refine hp (own_ldI X0 hx hZ e0 V_p0 (j := (2 : Int32)) 2 (by decide) (by decide) (by decide) (g := (mkF m 19 #[.val (.ref p0), .val (.int (0 : Int32)), .val (.ref p0), .val (.int (4 : Int32)), .val (.int (2 : Int32)), .val (.int (f 1)), .unset, .unset] [(.int (2 : Int32)), (.ref p0)])) rfl rfl (hb hby d1_19)) ?_
      show G s₁ (mkF m 20 #[.val (.ref p0), .val (.int (0 : Int32)), .val (.ref p0), .val (.int (4 : Int32)), .val (.int (2 : Int32)), .val (.int (f 1)), .unset, .unset] [(.int (f 2))])
      refine hp (fun tq kq => XS.istore X0.here hx rfl (hb hby d1_20) rfl (l' := #[.val (.ref p0), .val (.int (0 : Int32)), .val (.ref p0), .val (.int (4 : Int32)), .val (.int (2 : Int32)), .val (.int (f 2)), .unset, .unset]) rfl kq) ?_
      show G s₁ (mkF m 22 #[.val (.ref p0), .val (.int (0 : Int32)), .val (.ref p0), .val (.int (4 : Int32)), .val (.int (2 : Int32)), .val (.int (f 2)), .unset, .unset] [])
      refine hp (fun tq kq => XS.iload X0.here hx rfl (hb hby d1_22) rfl kq) ?_
      show G s₁ (mkF m 24 #[.val (.ref p0), .val (.int (0 : Int32)), .val (.ref p0), .val (.int (4 : Int32)), .val (.int (2 : Int32)), .val (.int (f 2)), .unset, .unset] [(.int (f 2))])
      refine hp (fun tq kq => XS.iconst X0.here hx rfl (hb hby d1_24) kq) ?_
      show G s₁ (mkF m 25 #[.val (.ref p0), .val (.int (0 : Int32)), .val (.ref p0), .val (.int (4 : Int32)), .val (.int (2 : Int32)), .val (.int (f 2)), .unset, .unset] [(.int (-1 : Int32)), (.int (f 2))])
      by_cases hb3 : (f 2) = (-1 : Int32)
      · refine hp (fun tq kq => XS.icmpYes X0.here hx rfl (pc0 := 25) (pc' := 31) rfl (hb hby d1_25) rfl (teq hb3).1 (by decide) (by decide) kq) ?_
        show G s₁ (mkF m 31 #[.val (.ref p0), .val (.int (0 : Int32)), .val (.ref p0), .val (.int (4 : Int32)), .val (.int (2 : Int32)), .val (.int (f 2)), .unset, .unset] [])
        refine hp (fun tq kq => XS.iinc X0.here hx rfl (hb hby d1_31) rfl (l' := #[.val (.ref p0), .val (.int (0 : Int32)), .val (.ref p0), .val (.int (4 : Int32)), .val (.int (3 : Int32)), .val (.int (f 2)), .unset, .unset]) rfl kq) ?_
        show G s₁ (mkF m 34 #[.val (.ref p0), .val (.int (0 : Int32)), .val (.ref p0), .val (.int (4 : Int32)), .val (.int (3 : Int32)), .val (.int (f 2)), .unset, .unset] [])
        refine hp (fun tq kq => XS.goto X0.here hx rfl (pc0 := 34) (pc' := 10) rfl (hb hby d1_34) (by decide) (by decide) kq) ?_
        show G s₁ (mkF m 10 #[.val (.ref p0), .val (.int (0 : Int32)), .val (.ref p0), .val (.int (4 : Int32)), .val (.int (3 : Int32)), .val (.int (f 2)), .unset, .unset] [])
        refine hp (fun tq kq => XS.iload X0.here hx rfl (hb hby d1_10) rfl kq) ?_
        show G s₁ (mkF m 12 #[.val (.ref p0), .val (.int (0 : Int32)), .val (.ref p0), .val (.int (4 : Int32)), .val (.int (3 : Int32)), .val (.int (f 2)), .unset, .unset] [(.int (3 : Int32))])
        refine hp (fun tq kq => XS.iloadN X0.here hx rfl (hb hby d1_12) rfl kq) ?_
        show G s₁ (mkF m 13 #[.val (.ref p0), .val (.int (0 : Int32)), .val (.ref p0), .val (.int (4 : Int32)), .val (.int (3 : Int32)), .val (.int (f 2)), .unset, .unset] [(.int (4 : Int32)), (.int (3 : Int32))])
        refine hp (fun tq kq => XS.icmpNo X0.here hx rfl (hb hby d1_13) rfl (tlt (by decide)).2.1 kq) ?_
        show G s₁ (mkF m 16 #[.val (.ref p0), .val (.int (0 : Int32)), .val (.ref p0), .val (.int (4 : Int32)), .val (.int (3 : Int32)), .val (.int (f 2)), .unset, .unset] [])
        refine hp (fun tq kq => XS.aloadN X0.here hx rfl (hb hby d1_16) rfl rfl kq) ?_
        show G s₁ (mkF m 17 #[.val (.ref p0), .val (.int (0 : Int32)), .val (.ref p0), .val (.int (4 : Int32)), .val (.int (3 : Int32)), .val (.int (f 2)), .unset, .unset] [(.ref p0)])
        refine hp (fun tq kq => XS.iload X0.here hx rfl (hb hby d1_17) rfl kq) ?_
        show G s₁ (mkF m 19 #[.val (.ref p0), .val (.int (0 : Int32)), .val (.ref p0), .val (.int (4 : Int32)), .val (.int (3 : Int32)), .val (.int (f 2)), .unset, .unset] [(.int (3 : Int32)), (.ref p0)])
        refine hp (own_ldI X0 hx hZ e0 V_p0 (j := (3 : Int32)) 3 (by decide) (by decide) (by decide) (g := (mkF m 19 #[.val (.ref p0), .val (.int (0 : Int32)), .val (.ref p0), .val (.int (4 : Int32)), .val (.int (3 : Int32)), .val (.int (f 2)), .unset, .unset] [(.int (3 : Int32)), (.ref p0)])) rfl rfl (hb hby d1_19)) ?_
        show G s₁ (mkF m 20 #[.val (.ref p0), .val (.int (0 : Int32)), .val (.ref p0), .val (.int (4 : Int32)), .val (.int (3 : Int32)), .val (.int (f 2)), .unset, .unset] [(.int (f 3))])
        refine hp (fun tq kq => XS.istore X0.here hx rfl (hb hby d1_20) rfl (l' := #[.val (.ref p0), .val (.int (0 : Int32)), .val (.ref p0), .val (.int (4 : Int32)), .val (.int (3 : Int32)), .val (.int (f 3)), .unset, .unset]) rfl kq) ?_
        show G s₁ (mkF m 22 #[.val (.ref p0), .val (.int (0 : Int32)), .val (.ref p0), .val (.int (4 : Int32)), .val (.int (3 : Int32)), .val (.int (f 3)), .unset, .unset] [])
        refine hp (fun tq kq => XS.iload X0.here hx rfl (hb hby d1_22) rfl kq) ?_
        show G s₁ (mkF m 24 #[.val (.ref p0), .val (.int (0 : Int32)), .val (.ref p0), .val (.int (4 : Int32)), .val (.int (3 : Int32)), .val (.int (f 3)), .unset, .unset] [(.int (f 3))])
        refine hp (fun tq kq => XS.iconst X0.here hx rfl (hb hby d1_24) kq) ?_
        show G s₁ (mkF m 25 #[.val (.ref p0), .val (.int (0 : Int32)), .val (.ref p0), .val (.int (4 : Int32)), .val (.int (3 : Int32)), .val (.int (f 3)), .unset, .unset] [(.int (-1 : Int32)), (.int (f 3))])
        by_cases hb4 : (f 3) = (-1 : Int32)
        · refine hp (fun tq kq => XS.icmpYes X0.here hx rfl (pc0 := 25) (pc' := 31) rfl (hb hby d1_25) rfl (teq hb4).1 (by decide) (by decide) kq) ?_
          show G s₁ (mkF m 31 #[.val (.ref p0), .val (.int (0 : Int32)), .val (.ref p0), .val (.int (4 : Int32)), .val (.int (3 : Int32)), .val (.int (f 3)), .unset, .unset] [])
          refine hp (fun tq kq => XS.iinc X0.here hx rfl (hb hby d1_31) rfl (l' := #[.val (.ref p0), .val (.int (0 : Int32)), .val (.ref p0), .val (.int (4 : Int32)), .val (.int (4 : Int32)), .val (.int (f 3)), .unset, .unset]) rfl kq) ?_
          show G s₁ (mkF m 34 #[.val (.ref p0), .val (.int (0 : Int32)), .val (.ref p0), .val (.int (4 : Int32)), .val (.int (4 : Int32)), .val (.int (f 3)), .unset, .unset] [])
          refine hp (fun tq kq => XS.goto X0.here hx rfl (pc0 := 34) (pc' := 10) rfl (hb hby d1_34) (by decide) (by decide) kq) ?_
          show G s₁ (mkF m 10 #[.val (.ref p0), .val (.int (0 : Int32)), .val (.ref p0), .val (.int (4 : Int32)), .val (.int (4 : Int32)), .val (.int (f 3)), .unset, .unset] [])
          refine hp (fun tq kq => XS.iload X0.here hx rfl (hb hby d1_10) rfl kq) ?_
          show G s₁ (mkF m 12 #[.val (.ref p0), .val (.int (0 : Int32)), .val (.ref p0), .val (.int (4 : Int32)), .val (.int (4 : Int32)), .val (.int (f 3)), .unset, .unset] [(.int (4 : Int32))])
          refine hp (fun tq kq => XS.iloadN X0.here hx rfl (hb hby d1_12) rfl kq) ?_
          show G s₁ (mkF m 13 #[.val (.ref p0), .val (.int (0 : Int32)), .val (.ref p0), .val (.int (4 : Int32)), .val (.int (4 : Int32)), .val (.int (f 3)), .unset, .unset] [(.int (4 : Int32)), (.int (4 : Int32))])
          refine hp (fun tq kq => XS.icmpYes X0.here hx rfl (pc0 := 13) (pc' := 37) rfl (hb hby d1_13) rfl (flt (by decide)).2.1 (by decide) (by decide) kq) ?_
          show G s₁ (mkF m 37 #[.val (.ref p0), .val (.int (0 : Int32)), .val (.ref p0), .val (.int (4 : Int32)), .val (.int (4 : Int32)), .val (.int (f 3)), .unset, .unset] [])
          refine hp (fun tq kq => XS.iloadN X0.here hx rfl (hb hby d1_37) rfl kq) ?_
          show G s₁ (mkF m 38 #[.val (.ref p0), .val (.int (0 : Int32)), .val (.ref p0), .val (.int (4 : Int32)), .val (.int (4 : Int32)), .val (.int (f 3)), .unset, .unset] [(.int (0 : Int32))])
          obtain ⟨T5, h5, k5, X5, e5, E5, A5, st5⟩ := newP X0 hx hZ (hw _ (List.mem_of_getElem? (i := 1) rfl)) e0 (g := (mkF m 38 #[.val (.ref p0), .val (.int (0 : Int32)), .val (.ref p0), .val (.int (4 : Int32)), .val (.int (4 : Int32)), .val (.int (f 3)), .unset, .unset] [(.int (0 : Int32))])) rfl (hb hby d1_38) rfl (by decide) (cap := 0) (by decide) (by decide) (by decide) (by decide)
          obtain ⟨b5, g5⟩ : ∃ z, z = h0.size := ⟨_, rfl⟩
          rw [← g5] at A5 st5
          have ne5_p0 : p0 ≠ b5 := Nat.ne_of_lt (Nat.lt_of_lt_of_le V_p0.lt (Nat.le_of_eq g5.symm))
          have sz_b5 : h0.size ≤ b5 := Nat.le_trans K0.1 (Nat.le_of_eq g5.symm)
          have g_b5 : n0 ≤ b5 := Nat.le_trans Z0 sz_b5
          have V5_p0 := V_p0.ext E5
          have K5 := K0.ext E5
          have V5_b5 : own_AI Z h5 b5 .int 0 (fun _ => 0) := own_AI.new A5 (by decide) rfl 0 (by decide)
          refine hp st5 ?_
          show G T5 (mkF m 40 #[.val (.ref p0), .val (.int (0 : Int32)), .val (.ref p0), .val (.int (4 : Int32)), .val (.int (4 : Int32)), .val (.int (f 3)), .unset, .unset] [(.ref b5)])
          refine hp (fun tq kq => XS.astoreN X5.here hx rfl (hb hby d1_40) rfl rfl (l' := #[.val (.ref p0), .val (.int (0 : Int32)), .val (.ref b5), .val (.int (4 : Int32)), .val (.int (4 : Int32)), .val (.int (f 3)), .unset, .unset]) rfl kq) ?_
          show G T5 (mkF m 41 #[.val (.ref p0), .val (.int (0 : Int32)), .val (.ref b5), .val (.int (4 : Int32)), .val (.int (4 : Int32)), .val (.int (f 3)), .unset, .unset] [])
          refine hp (fun tq kq => XS.iconst X5.here hx rfl (hb hby d1_41) kq) ?_
          show G T5 (mkF m 42 #[.val (.ref p0), .val (.int (0 : Int32)), .val (.ref b5), .val (.int (4 : Int32)), .val (.int (4 : Int32)), .val (.int (f 3)), .unset, .unset] [(.int (0 : Int32))])
          refine hp (fun tq kq => XS.istoreN X5.here hx rfl (hb hby d1_42) rfl (l' := #[.val (.ref p0), .val (.int (0 : Int32)), .val (.ref b5), .val (.int (0 : Int32)), .val (.int (4 : Int32)), .val (.int (f 3)), .unset, .unset]) rfl kq) ?_
          show G T5 (mkF m 43 #[.val (.ref p0), .val (.int (0 : Int32)), .val (.ref b5), .val (.int (0 : Int32)), .val (.int (4 : Int32)), .val (.int (f 3)), .unset, .unset] [])
          refine hp (fun tq kq => XS.aloadN X5.here hx rfl (hb hby d1_43) rfl rfl kq) ?_
          show G T5 (mkF m 44 #[.val (.ref p0), .val (.int (0 : Int32)), .val (.ref b5), .val (.int (0 : Int32)), .val (.int (4 : Int32)), .val (.int (f 3)), .unset, .unset] [(.ref p0)])
          refine hp (fun tq kq => XS.astore X5.here hx rfl (hb hby d1_44) rfl rfl (l' := #[.val (.ref p0), .val (.int (0 : Int32)), .val (.ref b5), .val (.int (0 : Int32)), .val (.ref p0), .val (.int (f 3)), .unset, .unset]) rfl kq) ?_
          show G T5 (mkF m 46 #[.val (.ref p0), .val (.int (0 : Int32)), .val (.ref b5), .val (.int (0 : Int32)), .val (.ref p0), .val (.int (f 3)), .unset, .unset] [])
          refine hp (fun tq kq => XS.aload X5.here hx rfl (hb hby d1_46) rfl rfl kq) ?_
          show G T5 (mkF m 48 #[.val (.ref p0), .val (.int (0 : Int32)), .val (.ref b5), .val (.int (0 : Int32)), .val (.ref p0), .val (.int (f 3)), .unset, .unset] [(.ref p0)])
          refine hp (own_lenI X5 hx hZ e5 V5_p0 (4 : Int32) rfl (g := (mkF m 48 #[.val (.ref p0), .val (.int (0 : Int32)), .val (.ref b5), .val (.int (0 : Int32)), .val (.ref p0), .val (.int (f 3)), .unset, .unset] [(.ref p0)])) rfl rfl (hb hby d1_48)) ?_
          show G T5 (mkF m 49 #[.val (.ref p0), .val (.int (0 : Int32)), .val (.ref b5), .val (.int (0 : Int32)), .val (.ref p0), .val (.int (f 3)), .unset, .unset] [(.int (4 : Int32))])
          refine hp (fun tq kq => XS.istore X5.here hx rfl (hb hby d1_49) rfl (l' := #[.val (.ref p0), .val (.int (0 : Int32)), .val (.ref b5), .val (.int (0 : Int32)), .val (.ref p0), .val (.int (4 : Int32)), .unset, .unset]) rfl kq) ?_
          show G T5 (mkF m 51 #[.val (.ref p0), .val (.int (0 : Int32)), .val (.ref b5), .val (.int (0 : Int32)), .val (.ref p0), .val (.int (4 : Int32)), .unset, .unset] [])
          refine hp (fun tq kq => XS.iconst X5.here hx rfl (hb hby d1_51) kq) ?_
          show G T5 (mkF m 52 #[.val (.ref p0), .val (.int (0 : Int32)), .val (.ref b5), .val (.int (0 : Int32)), .val (.ref p0), .val (.int (4 : Int32)), .unset, .unset] [(.int (0 : Int32))])
          refine hp (fun tq kq => XS.istore X5.here hx rfl (hb hby d1_52) rfl (l' := #[.val (.ref p0), .val (.int (0 : Int32)), .val (.ref b5), .val (.int (0 : Int32)), .val (.ref p0), .val (.int (4 : Int32)), .val (.int (0 : Int32)), .unset]) rfl kq) ?_
          show G T5 (mkF m 54 #[.val (.ref p0), .val (.int (0 : Int32)), .val (.ref b5), .val (.int (0 : Int32)), .val (.ref p0), .val (.int (4 : Int32)), .val (.int (0 : Int32)), .unset] [])
          refine hp (fun tq kq => XS.iload X5.here hx rfl (hb hby d1_54) rfl kq) ?_
          show G T5 (mkF m 56 #[.val (.ref p0), .val (.int (0 : Int32)), .val (.ref b5), .val (.int (0 : Int32)), .val (.ref p0), .val (.int (4 : Int32)), .val (.int (0 : Int32)), .unset] [(.int (0 : Int32))])
          refine hp (fun tq kq => XS.iload X5.here hx rfl (hb hby d1_56) rfl kq) ?_
          show G T5 (mkF m 58 #[.val (.ref p0), .val (.int (0 : Int32)), .val (.ref b5), .val (.int (0 : Int32)), .val (.ref p0), .val (.int (4 : Int32)), .val (.int (0 : Int32)), .unset] [(.int (4 : Int32)), (.int (0 : Int32))])
          refine hp (fun tq kq => XS.icmpNo X5.here hx rfl (hb hby d1_58) rfl (tlt (by decide)).2.1 kq) ?_
          show G T5 (mkF m 61 #[.val (.ref p0), .val (.int (0 : Int32)), .val (.ref b5), .val (.int (0 : Int32)), .val (.ref p0), .val (.int (4 : Int32)), .val (.int (0 : Int32)), .unset] [])
          refine hp (fun tq kq => XS.aload X5.here hx rfl (hb hby d1_61) rfl rfl kq) ?_
          show G T5 (mkF m 63 #[.val (.ref p0), .val (.int (0 : Int32)), .val (.ref b5), .val (.int (0 : Int32)), .val (.ref p0), .val (.int (4 : Int32)), .val (.int (0 : Int32)), .unset] [(.ref p0)])
          refine hp (fun tq kq => XS.iload X5.here hx rfl (hb hby d1_63) rfl kq) ?_
          show G T5 (mkF m 65 #[.val (.ref p0), .val (.int (0 : Int32)), .val (.ref b5), .val (.int (0 : Int32)), .val (.ref p0), .val (.int (4 : Int32)), .val (.int (0 : Int32)), .unset] [(.int (0 : Int32)), (.ref p0)])
          refine hp (own_ldI X5 hx hZ e5 V5_p0 (j := (0 : Int32)) 0 (by decide) (by decide) (by decide) (g := (mkF m 65 #[.val (.ref p0), .val (.int (0 : Int32)), .val (.ref b5), .val (.int (0 : Int32)), .val (.ref p0), .val (.int (4 : Int32)), .val (.int (0 : Int32)), .unset] [(.int (0 : Int32)), (.ref p0)])) rfl rfl (hb hby d1_65)) ?_
          show G T5 (mkF m 66 #[.val (.ref p0), .val (.int (0 : Int32)), .val (.ref b5), .val (.int (0 : Int32)), .val (.ref p0), .val (.int (4 : Int32)), .val (.int (0 : Int32)), .unset] [(.int (f 0))])
          refine hp (fun tq kq => XS.istore X5.here hx rfl (hb hby d1_66) rfl (l' := #[.val (.ref p0), .val (.int (0 : Int32)), .val (.ref b5), .val (.int (0 : Int32)), .val (.ref p0), .val (.int (4 : Int32)), .val (.int (0 : Int32)), .val (.int (f 0))]) rfl kq) ?_
          show G T5 (mkF m 68 #[.val (.ref p0), .val (.int (0 : Int32)), .val (.ref b5), .val (.int (0 : Int32)), .val (.ref p0), .val (.int (4 : Int32)), .val (.int (0 : Int32)), .val (.int (f 0))] [])
          refine hp (fun tq kq => XS.iload X5.here hx rfl (hb hby d1_68) rfl kq) ?_
          show G T5 (mkF m 70 #[.val (.ref p0), .val (.int (0 : Int32)), .val (.ref b5), .val (.int (0 : Int32)), .val (.ref p0), .val (.int (4 : Int32)), .val (.int (0 : Int32)), .val (.int (f 0))] [(.int (f 0))])
          refine hp (fun tq kq => XS.iconst X5.here hx rfl (hb hby d1_70) kq) ?_
          show G T5 (mkF m 71 #[.val (.ref p0), .val (.int (0 : Int32)), .val (.ref b5), .val (.int (0 : Int32)), .val (.ref p0), .val (.int (4 : Int32)), .val (.int (0 : Int32)), .val (.int (f 0))] [(.int (-1 : Int32)), (.int (f 0))])
          refine hp (fun tq kq => XS.icmpYes X5.here hx rfl (pc0 := 71) (pc' := 82) rfl (hb hby d1_71) rfl (teq hb1).1 (by decide) (by decide) kq) ?_
          show G T5 (mkF m 82 #[.val (.ref p0), .val (.int (0 : Int32)), .val (.ref b5), .val (.int (0 : Int32)), .val (.ref p0), .val (.int (4 : Int32)), .val (.int (0 : Int32)), .val (.int (f 0))] [])
          refine hp (fun tq kq => XS.iinc X5.here hx rfl (hb hby d1_82) rfl (l' := #[.val (.ref p0), .val (.int (0 : Int32)), .val (.ref b5), .val (.int (0 : Int32)), .val (.ref p0), .val (.int (4 : Int32)), .val (.int (1 : Int32)), .val (.int (f 0))]) rfl kq) ?_
          show G T5 (mkF m 85 #[.val (.ref p0), .val (.int (0 : Int32)), .val (.ref b5), .val (.int (0 : Int32)), .val (.ref p0), .val (.int (4 : Int32)), .val (.int (1 : Int32)), .val (.int (f 0))] [])
          refine hp (fun tq kq => XS.goto X5.here hx rfl (pc0 := 85) (pc' := 54) rfl (hb hby d1_85) (by decide) (by decide) kq) ?_
          show G T5 (mkF m 54 #[.val (.ref p0), .val (.int (0 : Int32)), .val (.ref b5), .val (.int (0 : Int32)), .val (.ref p0), .val (.int (4 : Int32)), .val (.int (1 : Int32)), .val (.int (f 0))] [])
          refine hp (fun tq kq => XS.iload X5.here hx rfl (hb hby d1_54) rfl kq) ?_
          show G T5 (mkF m 56 #[.val (.ref p0), .val (.int (0 : Int32)), .val (.ref b5), .val (.int (0 : Int32)), .val (.ref p0), .val (.int (4 : Int32)), .val (.int (1 : Int32)), .val (.int (f 0))] [(.int (1 : Int32))])
          refine hp (fun tq kq => XS.iload X5.here hx rfl (hb hby d1_56) rfl kq) ?_
          show G T5 (mkF m 58 #[.val (.ref p0), .val (.int (0 : Int32)), .val (.ref b5), .val (.int (0 : Int32)), .val (.ref p0), .val (.int (4 : Int32)), .val (.int (1 : Int32)), .val (.int (f 0))] [(.int (4 : Int32)), (.int (1 : Int32))])
          refine hp (fun tq kq => XS.icmpNo X5.here hx rfl (hb hby d1_58) rfl (tlt (by decide)).2.1 kq) ?_
          show G T5 (mkF m 61 #[.val (.ref p0), .val (.int (0 : Int32)), .val (.ref b5), .val (.int (0 : Int32)), .val (.ref p0), .val (.int (4 : Int32)), .val (.int (1 : Int32)), .val (.int (f 0))] [])
          refine hp (fun tq kq => XS.aload X5.here hx rfl (hb hby d1_61) rfl rfl kq) ?_
          show G T5 (mkF m 63 #[.val (.ref p0), .val (.int (0 : Int32)), .val (.ref b5), .val (.int (0 : Int32)), .val (.ref p0), .val (.int (4 : Int32)), .val (.int (1 : Int32)), .val (.int (f 0))] [(.ref p0)])
          refine hp (fun tq kq => XS.iload X5.here hx rfl (hb hby d1_63) rfl kq) ?_
          show G T5 (mkF m 65 #[.val (.ref p0), .val (.int (0 : Int32)), .val (.ref b5), .val (.int (0 : Int32)), .val (.ref p0), .val (.int (4 : Int32)), .val (.int (1 : Int32)), .val (.int (f 0))] [(.int (1 : Int32)), (.ref p0)])
          refine hp (own_ldI X5 hx hZ e5 V5_p0 (j := (1 : Int32)) 1 (by decide) (by decide) (by decide) (g := (mkF m 65 #[.val (.ref p0), .val (.int (0 : Int32)), .val (.ref b5), .val (.int (0 : Int32)), .val (.ref p0), .val (.int (4 : Int32)), .val (.int (1 : Int32)), .val (.int (f 0))] [(.int (1 : Int32)), (.ref p0)])) rfl rfl (hb hby d1_65)) ?_
          show G T5 (mkF m 66 #[.val (.ref p0), .val (.int (0 : Int32)), .val (.ref b5), .val (.int (0 : Int32)), .val (.ref p0), .val (.int (4 : Int32)), .val (.int (1 : Int32)), .val (.int (f 0))] [(.int (f 1))])
          refine hp (fun tq kq => XS.istore X5.here hx rfl (hb hby d1_66) rfl (l' := #[.val (.ref p0), .val (.int (0 : Int32)), .val (.ref b5), .val (.int (0 : Int32)), .val (.ref p0), .val (.int (4 : Int32)), .val (.int (1 : Int32)), .val (.int (f 1))]) rfl kq) ?_
          show G T5 (mkF m 68 #[.val (.ref p0), .val (.int (0 : Int32)), .val (.ref b5), .val (.int (0 : Int32)), .val (.ref p0), .val (.int (4 : Int32)), .val (.int (1 : Int32)), .val (.int (f 1))] [])
          refine hp (fun tq kq => XS.iload X5.here hx rfl (hb hby d1_68) rfl kq) ?_
          show G T5 (mkF m 70 #[.val (.ref p0), .val (.int (0 : Int32)), .val (.ref b5), .val (.int (0 : Int32)), .val (.ref p0), .val (.int (4 : Int32)), .val (.int (1 : Int32)), .val (.int (f 1))] [(.int (f 1))])
          refine hp (fun tq kq => XS.iconst X5.here hx rfl (hb hby d1_70) kq) ?_
          show G T5 (mkF m 71 #[.val (.ref p0), .val (.int (0 : Int32)), .val (.ref b5), .val (.int (0 : Int32)), .val (.ref p0), .val (.int (4 : Int32)), .val (.int (1 : Int32)), .val (.int (f 1))] [(.int (-1 : Int32)), (.int (f 1))])
          refine hp (fun tq kq => XS.icmpYes X5.here hx rfl (pc0 := 71) (pc' := 82) rfl (hb hby d1_71) rfl (teq hb2).1 (by decide) (by decide) kq) ?_
          show G T5 (mkF m 82 #[.val (.ref p0), .val (.int (0 : Int32)), .val (.ref b5), .val (.int (0 : Int32)), .val (.ref p0), .val (.int (4 : Int32)), .val (.int (1 : Int32)), .val (.int (f 1))] [])
          refine hp (fun tq kq => XS.iinc X5.here hx rfl (hb hby d1_82) rfl (l' := #[.val (.ref p0), .val (.int (0 : Int32)), .val (.ref b5), .val (.int (0 : Int32)), .val (.ref p0), .val (.int (4 : Int32)), .val (.int (2 : Int32)), .val (.int (f 1))]) rfl kq) ?_
          show G T5 (mkF m 85 #[.val (.ref p0), .val (.int (0 : Int32)), .val (.ref b5), .val (.int (0 : Int32)), .val (.ref p0), .val (.int (4 : Int32)), .val (.int (2 : Int32)), .val (.int (f 1))] [])
          refine hp (fun tq kq => XS.goto X5.here hx rfl (pc0 := 85) (pc' := 54) rfl (hb hby d1_85) (by decide) (by decide) kq) ?_
          show G T5 (mkF m 54 #[.val (.ref p0), .val (.int (0 : Int32)), .val (.ref b5), .val (.int (0 : Int32)), .val (.ref p0), .val (.int (4 : Int32)), .val (.int (2 : Int32)), .val (.int (f 1))] [])
          refine hp (fun tq kq => XS.iload X5.here hx rfl (hb hby d1_54) rfl kq) ?_
          show G T5 (mkF m 56 #[.val (.ref p0), .val (.int (0 : Int32)), .val (.ref b5), .val (.int (0 : Int32)), .val (.ref p0), .val (.int (4 : Int32)), .val (.int (2 : Int32)), .val (.int (f 1))] [(.int (2 : Int32))])
          refine hp (fun tq kq => XS.iload X5.here hx rfl (hb hby d1_56) rfl kq) ?_
          show G T5 (mkF m 58 #[.val (.ref p0), .val (.int (0 : Int32)), .val (.ref b5), .val (.int (0 : Int32)), .val (.ref p0), .val (.int (4 : Int32)), .val (.int (2 : Int32)), .val (.int (f 1))] [(.int (4 : Int32)), (.int (2 : Int32))])
          refine hp (fun tq kq => XS.icmpNo X5.here hx rfl (hb hby d1_58) rfl (tlt (by decide)).2.1 kq) ?_
          show G T5 (mkF m 61 #[.val (.ref p0), .val (.int (0 : Int32)), .val (.ref b5), .val (.int (0 : Int32)), .val (.ref p0), .val (.int (4 : Int32)), .val (.int (2 : Int32)), .val (.int (f 1))] [])
          refine hp (fun tq kq => XS.aload X5.here hx rfl (hb hby d1_61) rfl rfl kq) ?_
          show G T5 (mkF m 63 #[.val (.ref p0), .val (.int (0 : Int32)), .val (.ref b5), .val (.int (0 : Int32)), .val (.ref p0), .val (.int (4 : Int32)), .val (.int (2 : Int32)), .val (.int (f 1))] [(.ref p0)])
          refine hp (fun tq kq => XS.iload X5.here hx rfl (hb hby d1_63) rfl kq) ?_
          show G T5 (mkF m 65 #[.val (.ref p0), .val (.int (0 : Int32)), .val (.ref b5), .val (.int (0 : Int32)), .val (.ref p0), .val (.int (4 : Int32)), .val (.int (2 : Int32)), .val (.int (f 1))] [(.int (2 : Int32)), (.ref p0)])
          refine hp (own_ldI X5 hx hZ e5 V5_p0 (j := (2 : Int32)) 2 (by decide) (by decide) (by decide) (g := (mkF m 65 #[.val (.ref p0), .val (.int (0 : Int32)), .val (.ref b5), .val (.int (0 : Int32)), .val (.ref p0), .val (.int (4 : Int32)), .val (.int (2 : Int32)), .val (.int (f 1))] [(.int (2 : Int32)), (.ref p0)])) rfl rfl (hb hby d1_65)) ?_
          show G T5 (mkF m 66 #[.val (.ref p0), .val (.int (0 : Int32)), .val (.ref b5), .val (.int (0 : Int32)), .val (.ref p0), .val (.int (4 : Int32)), .val (.int (2 : Int32)), .val (.int (f 1))] [(.int (f 2))])
          refine hp (fun tq kq => XS.istore X5.here hx rfl (hb hby d1_66) rfl (l' := #[.val (.ref p0), .val (.int (0 : Int32)), .val (.ref b5), .val (.int (0 : Int32)), .val (.ref p0), .val (.int (4 : Int32)), .val (.int (2 : Int32)), .val (.int (f 2))]) rfl kq) ?_
          show G T5 (mkF m 68 #[.val (.ref p0), .val (.int (0 : Int32)), .val (.ref b5), .val (.int (0 : Int32)), .val (.ref p0), .val (.int (4 : Int32)), .val (.int (2 : Int32)), .val (.int (f 2))] [])
          refine hp (fun tq kq => XS.iload X5.here hx rfl (hb hby d1_68) rfl kq) ?_
          show G T5 (mkF m 70 #[.val (.ref p0), .val (.int (0 : Int32)), .val (.ref b5), .val (.int (0 : Int32)), .val (.ref p0), .val (.int (4 : Int32)), .val (.int (2 : Int32)), .val (.int (f 2))] [(.int (f 2))])
          refine hp (fun tq kq => XS.iconst X5.here hx rfl (hb hby d1_70) kq) ?_
          show G T5 (mkF m 71 #[.val (.ref p0), .val (.int (0 : Int32)), .val (.ref b5), .val (.int (0 : Int32)), .val (.ref p0), .val (.int (4 : Int32)), .val (.int (2 : Int32)), .val (.int (f 2))] [(.int (-1 : Int32)), (.int (f 2))])
          refine hp (fun tq kq => XS.icmpYes X5.here hx rfl (pc0 := 71) (pc' := 82) rfl (hb hby d1_71) rfl (teq hb3).1 (by decide) (by decide) kq) ?_
          show G T5 (mkF m 82 #[.val (.ref p0), .val (.int (0 : Int32)), .val (.ref b5), .val (.int (0 : Int32)), .val (.ref p0), .val (.int (4 : Int32)), .val (.int (2 : Int32)), .val (.int (f 2))] [])
          refine hp (fun tq kq => XS.iinc X5.here hx rfl (hb hby d1_82) rfl (l' := #[.val (.ref p0), .val (.int (0 : Int32)), .val (.ref b5), .val (.int (0 : Int32)), .val (.ref p0), .val (.int (4 : Int32)), .val (.int (3 : Int32)), .val (.int (f 2))]) rfl kq) ?_
          show G T5 (mkF m 85 #[.val (.ref p0), .val (.int (0 : Int32)), .val (.ref b5), .val (.int (0 : Int32)), .val (.ref p0), .val (.int (4 : Int32)), .val (.int (3 : Int32)), .val (.int (f 2))] [])
          refine hp (fun tq kq => XS.goto X5.here hx rfl (pc0 := 85) (pc' := 54) rfl (hb hby d1_85) (by decide) (by decide) kq) ?_
          show G T5 (mkF m 54 #[.val (.ref p0), .val (.int (0 : Int32)), .val (.ref b5), .val (.int (0 : Int32)), .val (.ref p0), .val (.int (4 : Int32)), .val (.int (3 : Int32)), .val (.int (f 2))] [])
          refine hp (fun tq kq => XS.iload X5.here hx rfl (hb hby d1_54) rfl kq) ?_
          show G T5 (mkF m 56 #[.val (.ref p0), .val (.int (0 : Int32)), .val (.ref b5), .val (.int (0 : Int32)), .val (.ref p0), .val (.int (4 : Int32)), .val (.int (3 : Int32)), .val (.int (f 2))] [(.int (3 : Int32))])
          refine hp (fun tq kq => XS.iload X5.here hx rfl (hb hby d1_56) rfl kq) ?_
          show G T5 (mkF m 58 #[.val (.ref p0), .val (.int (0 : Int32)), .val (.ref b5), .val (.int (0 : Int32)), .val (.ref p0), .val (.int (4 : Int32)), .val (.int (3 : Int32)), .val (.int (f 2))] [(.int (4 : Int32)), (.int (3 : Int32))])
          refine hp (fun tq kq => XS.icmpNo X5.here hx rfl (hb hby d1_58) rfl (tlt (by decide)).2.1 kq) ?_
          show G T5 (mkF m 61 #[.val (.ref p0), .val (.int (0 : Int32)), .val (.ref b5), .val (.int (0 : Int32)), .val (.ref p0), .val (.int (4 : Int32)), .val (.int (3 : Int32)), .val (.int (f 2))] [])
          refine hp (fun tq kq => XS.aload X5.here hx rfl (hb hby d1_61) rfl rfl kq) ?_
          show G T5 (mkF m 63 #[.val (.ref p0), .val (.int (0 : Int32)), .val (.ref b5), .val (.int (0 : Int32)), .val (.ref p0), .val (.int (4 : Int32)), .val (.int (3 : Int32)), .val (.int (f 2))] [(.ref p0)])
          refine hp (fun tq kq => XS.iload X5.here hx rfl (hb hby d1_63) rfl kq) ?_
          show G T5 (mkF m 65 #[.val (.ref p0), .val (.int (0 : Int32)), .val (.ref b5), .val (.int (0 : Int32)), .val (.ref p0), .val (.int (4 : Int32)), .val (.int (3 : Int32)), .val (.int (f 2))] [(.int (3 : Int32)), (.ref p0)])
          refine hp (own_ldI X5 hx hZ e5 V5_p0 (j := (3 : Int32)) 3 (by decide) (by decide) (by decide) (g := (mkF m 65 #[.val (.ref p0), .val (.int (0 : Int32)), .val (.ref b5), .val (.int (0 : Int32)), .val (.ref p0), .val (.int (4 : Int32)), .val (.int (3 : Int32)), .val (.int (f 2))] [(.int (3 : Int32)), (.ref p0)])) rfl rfl (hb hby d1_65)) ?_
          show G T5 (mkF m 66 #[.val (.ref p0), .val (.int (0 : Int32)), .val (.ref b5), .val (.int (0 : Int32)), .val (.ref p0), .val (.int (4 : Int32)), .val (.int (3 : Int32)), .val (.int (f 2))] [(.int (f 3))])
          refine hp (fun tq kq => XS.istore X5.here hx rfl (hb hby d1_66) rfl (l' := #[.val (.ref p0), .val (.int (0 : Int32)), .val (.ref b5), .val (.int (0 : Int32)), .val (.ref p0), .val (.int (4 : Int32)), .val (.int (3 : Int32)), .val (.int (f 3))]) rfl kq) ?_
          show G T5 (mkF m 68 #[.val (.ref p0), .val (.int (0 : Int32)), .val (.ref b5), .val (.int (0 : Int32)), .val (.ref p0), .val (.int (4 : Int32)), .val (.int (3 : Int32)), .val (.int (f 3))] [])
          refine hp (fun tq kq => XS.iload X5.here hx rfl (hb hby d1_68) rfl kq) ?_
          show G T5 (mkF m 70 #[.val (.ref p0), .val (.int (0 : Int32)), .val (.ref b5), .val (.int (0 : Int32)), .val (.ref p0), .val (.int (4 : Int32)), .val (.int (3 : Int32)), .val (.int (f 3))] [(.int (f 3))])
          refine hp (fun tq kq => XS.iconst X5.here hx rfl (hb hby d1_70) kq) ?_
          show G T5 (mkF m 71 #[.val (.ref p0), .val (.int (0 : Int32)), .val (.ref b5), .val (.int (0 : Int32)), .val (.ref p0), .val (.int (4 : Int32)), .val (.int (3 : Int32)), .val (.int (f 3))] [(.int (-1 : Int32)), (.int (f 3))])
          refine hp (fun tq kq => XS.icmpYes X5.here hx rfl (pc0 := 71) (pc' := 82) rfl (hb hby d1_71) rfl (teq hb4).1 (by decide) (by decide) kq) ?_
          show G T5 (mkF m 82 #[.val (.ref p0), .val (.int (0 : Int32)), .val (.ref b5), .val (.int (0 : Int32)), .val (.ref p0), .val (.int (4 : Int32)), .val (.int (3 : Int32)), .val (.int (f 3))] [])
          refine hp (fun tq kq => XS.iinc X5.here hx rfl (hb hby d1_82) rfl (l' := #[.val (.ref p0), .val (.int (0 : Int32)), .val (.ref b5), .val (.int (0 : Int32)), .val (.ref p0), .val (.int (4 : Int32)), .val (.int (4 : Int32)), .val (.int (f 3))]) rfl kq) ?_
          show G T5 (mkF m 85 #[.val (.ref p0), .val (.int (0 : Int32)), .val (.ref b5), .val (.int (0 : Int32)), .val (.ref p0), .val (.int (4 : Int32)), .val (.int (4 : Int32)), .val (.int (f 3))] [])
          refine hp (fun tq kq => XS.goto X5.here hx rfl (pc0 := 85) (pc' := 54) rfl (hb hby d1_85) (by decide) (by decide) kq) ?_
          show G T5 (mkF m 54 #[.val (.ref p0), .val (.int (0 : Int32)), .val (.ref b5), .val (.int (0 : Int32)), .val (.ref p0), .val (.int (4 : Int32)), .val (.int (4 : Int32)), .val (.int (f 3))] [])
          refine hp (fun tq kq => XS.iload X5.here hx rfl (hb hby d1_54) rfl kq) ?_
          show G T5 (mkF m 56 #[.val (.ref p0), .val (.int (0 : Int32)), .val (.ref b5), .val (.int (0 : Int32)), .val (.ref p0), .val (.int (4 : Int32)), .val (.int (4 : Int32)), .val (.int (f 3))] [(.int (4 : Int32))])
          refine hp (fun tq kq => XS.iload X5.here hx rfl (hb hby d1_56) rfl kq) ?_
          show G T5 (mkF m 58 #[.val (.ref p0), .val (.int (0 : Int32)), .val (.ref b5), .val (.int (0 : Int32)), .val (.ref p0), .val (.int (4 : Int32)), .val (.int (4 : Int32)), .val (.int (f 3))] [(.int (4 : Int32)), (.int (4 : Int32))])
          refine hp (fun tq kq => XS.icmpYes X5.here hx rfl (pc0 := 58) (pc' := 88) rfl (hb hby d1_58) rfl (flt (by decide)).2.1 (by decide) (by decide) kq) ?_
          show G T5 (mkF m 88 #[.val (.ref p0), .val (.int (0 : Int32)), .val (.ref b5), .val (.int (0 : Int32)), .val (.ref p0), .val (.int (4 : Int32)), .val (.int (4 : Int32)), .val (.int (f 3))] [])
          refine hp (fun tq kq => XS.aloadN X5.here hx rfl (hb hby d1_88) rfl rfl kq) ?_
          show G T5 (mkF m 89 #[.val (.ref p0), .val (.int (0 : Int32)), .val (.ref b5), .val (.int (0 : Int32)), .val (.ref p0), .val (.int (4 : Int32)), .val (.int (4 : Int32)), .val (.int (f 3))] [(.ref b5)])
          exact hR X5 (fun fs hl => own_retA X5 hx hret rfl (hb hby d1_89) hl) (fun q => by rw [hret] at q; cases q) (by rw [e5]; exact ⟨b5, 0, (fun _ => (0 : Int32)), rfl, N0, K5, sz_b5, V5_b5, own_seld (l := []) (own_sel_of (a := []) (b := []) (c := []) (d := []) (if_pos hb1) (if_pos hb2) (if_pos hb3) (if_pos hb4)) rfl (own_pick0 rfl)⟩) (by decide) (by decide)
        · refine hp (fun tq kq => XS.icmpNo X0.here hx rfl (hb hby d1_25) rfl (feq hb4).1 kq) ?_
          show G s₁ (mkF m 28 #[.val (.ref p0), .val (.int (0 : Int32)), .val (.ref p0), .val (.int (4 : Int32)), .val (.int (3 : Int32)), .val (.int (f 3)), .unset, .unset] [])
          refine hp (fun tq kq => XS.iinc X0.here hx rfl (hb hby d1_28) rfl (l' := #[.val (.ref p0), .val (.int (1 : Int32)), .val (.ref p0), .val (.int (4 : Int32)), .val (.int (3 : Int32)), .val (.int (f 3)), .unset, .unset]) rfl kq) ?_
          show G s₁ (mkF m 31 #[.val (.ref p0), .val (.int (1 : Int32)), .val (.ref p0), .val (.int (4 : Int32)), .val (.int (3 : Int32)), .val (.int (f 3)), .unset, .unset] [])
          refine hp (fun tq kq => XS.iinc X0.here hx rfl (hb hby d1_31) rfl (l' := #[.val (.ref p0), .val (.int (1 : Int32)), .val (.ref p0), .val (.int (4 : Int32)), .val (.int (4 : Int32)), .val (.int (f 3)), .unset, .unset]) rfl kq) ?_
          show G s₁ (mkF m 34 #[.val (.ref p0), .val (.int (1 : Int32)), .val (.ref p0), .val (.int (4 : Int32)), .val (.int (4 : Int32)), .val (.int (f 3)), .unset, .unset] [])
          refine hp (fun tq kq => XS.goto X0.here hx rfl (pc0 := 34) (pc' := 10) rfl (hb hby d1_34) (by decide) (by decide) kq) ?_
          show G s₁ (mkF m 10 #[.val (.ref p0), .val (.int (1 : Int32)), .val (.ref p0), .val (.int (4 : Int32)), .val (.int (4 : Int32)), .val (.int (f 3)), .unset, .unset] [])
          refine hp (fun tq kq => XS.iload X0.here hx rfl (hb hby d1_10) rfl kq) ?_
          show G s₁ (mkF m 12 #[.val (.ref p0), .val (.int (1 : Int32)), .val (.ref p0), .val (.int (4 : Int32)), .val (.int (4 : Int32)), .val (.int (f 3)), .unset, .unset] [(.int (4 : Int32))])
          refine hp (fun tq kq => XS.iloadN X0.here hx rfl (hb hby d1_12) rfl kq) ?_
          show G s₁ (mkF m 13 #[.val (.ref p0), .val (.int (1 : Int32)), .val (.ref p0), .val (.int (4 : Int32)), .val (.int (4 : Int32)), .val (.int (f 3)), .unset, .unset] [(.int (4 : Int32)), (.int (4 : Int32))])
          refine hp (fun tq kq => XS.icmpYes X0.here hx rfl (pc0 := 13) (pc' := 37) rfl (hb hby d1_13) rfl (flt (by decide)).2.1 (by decide) (by decide) kq) ?_
          show G s₁ (mkF m 37 #[.val (.ref p0), .val (.int (1 : Int32)), .val (.ref p0), .val (.int (4 : Int32)), .val (.int (4 : Int32)), .val (.int (f 3)), .unset, .unset] [])
          refine hp (fun tq kq => XS.iloadN X0.here hx rfl (hb hby d1_37) rfl kq) ?_
          show G s₁ (mkF m 38 #[.val (.ref p0), .val (.int (1 : Int32)), .val (.ref p0), .val (.int (4 : Int32)), .val (.int (4 : Int32)), .val (.int (f 3)), .unset, .unset] [(.int (1 : Int32))])
          obtain ⟨T6, h6, k6, X6, e6, E6, A6, st6⟩ := newP X0 hx hZ (hw _ (List.mem_of_getElem? (i := 1) rfl)) e0 (g := (mkF m 38 #[.val (.ref p0), .val (.int (1 : Int32)), .val (.ref p0), .val (.int (4 : Int32)), .val (.int (4 : Int32)), .val (.int (f 3)), .unset, .unset] [(.int (1 : Int32))])) rfl (hb hby d1_38) rfl (by decide) (cap := 1) (by decide) (by decide) (by decide) (by decide)
          obtain ⟨b6, g6⟩ : ∃ z, z = h0.size := ⟨_, rfl⟩
          rw [← g6] at A6 st6
          have ne6_p0 : p0 ≠ b6 := Nat.ne_of_lt (Nat.lt_of_lt_of_le V_p0.lt (Nat.le_of_eq g6.symm))
          have sz_b6 : h0.size ≤ b6 := Nat.le_trans K0.1 (Nat.le_of_eq g6.symm)
          have g_b6 : n0 ≤ b6 := Nat.le_trans Z0 sz_b6
          have V6_p0 := V_p0.ext E6
          have K6 := K0.ext E6
          have V6_b6 : own_AI Z h6 b6 .int 1 (fun _ => 0) := own_AI.new A6 (by decide) rfl 1 (by decide)
          refine hp st6 ?_
          show G T6 (mkF m 40 #[.val (.ref p0), .val (.int (1 : Int32)), .val (.ref p0), .val (.int (4 : Int32)), .val (.int (4 : Int32)), .val (.int (f 3)), .unset, .unset] [(.ref b6)])
          refine hp (fun tq kq => XS.astoreN X6.here hx rfl (hb hby d1_40) rfl rfl (l' := #[.val (.ref p0), .val (.int (1 : Int32)), .val (.ref b6), .val (.int (4 : Int32)), .val (.int (4 : Int32)), .val (.int (f 3)), .unset, .unset]) rfl kq) ?_
          show G T6 (mkF m 41 #[.val (.ref p0), .val (.int (1 : Int32)), .val (.ref b6), .val (.int (4 : Int32)), .val (.int (4 : Int32)), .val (.int (f 3)), .unset, .unset] [])
          refine hp (fun tq kq => XS.iconst X6.here hx rfl (hb hby d1_41) kq) ?_
          show G T6 (mkF m 42 #[.val (.ref p0), .val (.int (1 : Int32)), .val (.ref b6), .val (.int (4 : Int32)), .val (.int (4 : Int32)), .val (.int (f 3)), .unset, .unset] [(.int (0 : Int32))])
          refine hp (fun tq kq => XS.istoreN X6.here hx rfl (hb hby d1_42) rfl (l' := #[.val (.ref p0), .val (.int (1 : Int32)), .val (.ref b6), .val (.int (0 : Int32)), .val (.int (4 : Int32)), .val (.int (f 3)), .unset, .unset]) rfl kq) ?_
          show G T6 (mkF m 43 #[.val (.ref p0), .val (.int (1 : Int32)), .val (.ref b6), .val (.int (0 : Int32)), .val (.int (4 : Int32)), .val (.int (f 3)), .unset, .unset] [])
          refine hp (fun tq kq => XS.aloadN X6.here hx rfl (hb hby d1_43) rfl rfl kq) ?_
          show G T6 (mkF m 44 #[.val (.ref p0), .val (.int (1 : Int32)), .val (.ref b6), .val (.int (0 : Int32)), .val (.int (4 : Int32)), .val (.int (f 3)), .unset, .unset] [(.ref p0)])
          refine hp (fun tq kq => XS.astore X6.here hx rfl (hb hby d1_44) rfl rfl (l' := #[.val (.ref p0), .val (.int (1 : Int32)), .val (.ref b6), .val (.int (0 : Int32)), .val (.ref p0), .val (.int (f 3)), .unset, .unset]) rfl kq) ?_
          show G T6 (mkF m 46 #[.val (.ref p0), .val (.int (1 : Int32)), .val (.ref b6), .val (.int (0 : Int32)), .val (.ref p0), .val (.int (f 3)), .unset, .unset] [])
          refine hp (fun tq kq => XS.aload X6.here hx rfl (hb hby d1_46) rfl rfl kq) ?_
          show G T6 (mkF m 48 #[.val (.ref p0), .val (.int (1 : Int32)), .val (.ref b6), .val (.int (0 : Int32)), .val (.ref p0), .val (.int (f 3)), .unset, .unset] [(.ref p0)])
          refine hp (own_lenI X6 hx hZ e6 V6_p0 (4 : Int32) rfl (g := (mkF m 48 #[.val (.ref p0), .val (.int (1 : Int32)), .val (.ref b6), .val (.int (0 : Int32)), .val (.ref p0), .val (.int (f 3)), .unset, .unset] [(.ref p0)])) rfl rfl (hb hby d1_48)) ?_
          show G T6 (mkF m 49 #[.val (.ref p0), .val (.int (1 : Int32)), .val (.ref b6), .val (.int (0 : Int32)), .val (.ref p0), .val (.int (f 3)), .unset, .unset] [(.int (4 : Int32))])
          refine hp (fun tq kq => XS.istore X6.here hx rfl (hb hby d1_49) rfl (l' := #[.val (.ref p0), .val (.int (1 : Int32)), .val (.ref b6), .val (.int (0 : Int32)), .val (.ref p0), .val (.int (4 : Int32)), .unset, .unset]) rfl kq) ?_
          show G T6 (mkF m 51 #[.val (.ref p0), .val (.int (1 : Int32)), .val (.ref b6), .val (.int (0 : Int32)), .val (.ref p0), .val (.int (4 : Int32)), .unset, .unset] [])
          refine hp (fun tq kq => XS.iconst X6.here hx rfl (hb hby d1_51) kq) ?_
          show G T6 (mkF m 52 #[.val (.ref p0), .val (.int (1 : Int32)), .val (.ref b6), .val (.int (0 : Int32)), .val (.ref p0), .val (.int (4 : Int32)), .unset, .unset] [(.int (0 : Int32))])
          refine hp (fun tq kq => XS.istore X6.here hx rfl (hb hby d1_52) rfl (l' := #[.val (.ref p0), .val (.int (1 : Int32)), .val (.ref b6), .val (.int (0 : Int32)), .val (.ref p0), .val (.int (4 : Int32)), .val (.int (0 : Int32)), .unset]) rfl kq) ?_
          show G T6 (mkF m 54 #[.val (.ref p0), .val (.int (1 : Int32)), .val (.ref b6), .val (.int (0 : Int32)), .val (.ref p0), .val (.int (4 : Int32)), .val (.int (0 : Int32)), .unset] [])
          refine hp (fun tq kq => XS.iload X6.here hx rfl (hb hby d1_54) rfl kq) ?_
          show G T6 (mkF m 56 #[.val (.ref p0), .val (.int (1 : Int32)), .val (.ref b6), .val (.int (0 : Int32)), .val (.ref p0), .val (.int (4 : Int32)), .val (.int (0 : Int32)), .unset] [(.int (0 : Int32))])
          refine hp (fun tq kq => XS.iload X6.here hx rfl (hb hby d1_56) rfl kq) ?_
          show G T6 (mkF m 58 #[.val (.ref p0), .val (.int (1 : Int32)), .val (.ref b6), .val (.int (0 : Int32)), .val (.ref p0), .val (.int (4 : Int32)), .val (.int (0 : Int32)), .unset] [(.int (4 : Int32)), (.int (0 : Int32))])
          refine hp (fun tq kq => XS.icmpNo X6.here hx rfl (hb hby d1_58) rfl (tlt (by decide)).2.1 kq) ?_
          show G T6 (mkF m 61 #[.val (.ref p0), .val (.int (1 : Int32)), .val (.ref b6), .val (.int (0 : Int32)), .val (.ref p0), .val (.int (4 : Int32)), .val (.int (0 : Int32)), .unset] [])
          refine hp (fun tq kq => XS.aload X6.here hx rfl (hb hby d1_61) rfl rfl kq) ?_
          show G T6 (mkF m 63 #[.val (.ref p0), .val (.int (1 : Int32)), .val (.ref b6), .val (.int (0 : Int32)), .val (.ref p0), .val (.int (4 : Int32)), .val (.int (0 : Int32)), .unset] [(.ref p0)])
          refine hp (fun tq kq => XS.iload X6.here hx rfl (hb hby d1_63) rfl kq) ?_
          show G T6 (mkF m 65 #[.val (.ref p0), .val (.int (1 : Int32)), .val (.ref b6), .val (.int (0 : Int32)), .val (.ref p0), .val (.int (4 : Int32)), .val (.int (0 : Int32)), .unset] [(.int (0 : Int32)), (.ref p0)])
          refine hp (own_ldI X6 hx hZ e6 V6_p0 (j := (0 : Int32)) 0 (by decide) (by decide) (by decide) (g := (mkF m 65 #[.val (.ref p0), .val (.int (1 : Int32)), .val (.ref b6), .val (.int (0 : Int32)), .val (.ref p0), .val (.int (4 : Int32)), .val (.int (0 : Int32)), .unset] [(.int (0 : Int32)), (.ref p0)])) rfl rfl (hb hby d1_65)) ?_
          show G T6 (mkF m 66 #[.val (.ref p0), .val (.int (1 : Int32)), .val (.ref b6), .val (.int (0 : Int32)), .val (.ref p0), .val (.int (4 : Int32)), .val (.int (0 : Int32)), .unset] [(.int (f 0))])
          refine hp (fun tq kq => XS.istore X6.here hx rfl (hb hby d1_66) rfl (l' := #[.val (.ref p0), .val (.int (1 : Int32)), .val (.ref b6), .val (.int (0 : Int32)), .val (.ref p0), .val (.int (4 : Int32)), .val (.int (0 : Int32)), .val (.int (f 0))]) rfl kq) ?_
          show G T6 (mkF m 68 #[.val (.ref p0), .val (.int (1 : Int32)), .val (.ref b6), .val (.int (0 : Int32)), .val (.ref p0), .val (.int (4 : Int32)), .val (.int (0 : Int32)), .val (.int (f 0))] [])
          refine hp (fun tq kq => XS.iload X6.here hx rfl (hb hby d1_68) rfl kq) ?_
          show G T6 (mkF m 70 #[.val (.ref p0), .val (.int (1 : Int32)), .val (.ref b6), .val (.int (0 : Int32)), .val (.ref p0), .val (.int (4 : Int32)), .val (.int (0 : Int32)), .val (.int (f 0))] [(.int (f 0))])
          refine hp (fun tq kq => XS.iconst X6.here hx rfl (hb hby d1_70) kq) ?_
          show G T6 (mkF m 71 #[.val (.ref p0), .val (.int (1 : Int32)), .val (.ref b6), .val (.int (0 : Int32)), .val (.ref p0), .val (.int (4 : Int32)), .val (.int (0 : Int32)), .val (.int (f 0))] [(.int (-1 : Int32)), (.int (f 0))])
          refine hp (fun tq kq => XS.icmpYes X6.here hx rfl (pc0 := 71) (pc' := 82) rfl (hb hby d1_71) rfl (teq hb1).1 (by decide) (by decide) kq) ?_
          show G T6 (mkF m 82 #[.val (.ref p0), .val (.int (1 : Int32)), .val (.ref b6), .val (.int (0 : Int32)), .val (.ref p0), .val (.int (4 : Int32)), .val (.int (0 : Int32)), .val (.int (f 0))] [])
          refine hp (fun tq kq => XS.iinc X6.here hx rfl (hb hby d1_82) rfl (l' := #[.val (.ref p0), .val (.int (1 : Int32)), .val (.ref b6), .val (.int (0 : Int32)), .val (.ref p0), .val (.int (4 : Int32)), .val (.int (1 : Int32)), .val (.int (f 0))]) rfl kq) ?_
          show G T6 (mkF m 85 #[.val (.ref p0), .val (.int (1 : Int32)), .val (.ref b6), .val (.int (0 : Int32)), .val (.ref p0), .val (.int (4 : Int32)), .val (.int (1 : Int32)), .val (.int (f 0))] [])
          refine hp (fun tq kq => XS.goto X6.here hx rfl (pc0 := 85) (pc' := 54) rfl (hb hby d1_85) (by decide) (by decide) kq) ?_
          show G T6 (mkF m 54 #[.val (.ref p0), .val (.int (1 : Int32)), .val (.ref b6), .val (.int (0 : Int32)), .val (.ref p0), .val (.int (4 : Int32)), .val (.int (1 : Int32)), .val (.int (f 0))] [])
          refine hp (fun tq kq => XS.iload X6.here hx rfl (hb hby d1_54) rfl kq) ?_
          show G T6 (mkF m 56 #[.val (.ref p0), .val (.int (1 : Int32)), .val (.ref b6), .val (.int (0 : Int32)), .val (.ref p0), .val (.int (4 : Int32)), .val (.int (1 : Int32)), .val (.int (f 0))] [(.int (1 : Int32))])
          refine hp (fun tq kq => XS.iload X6.here hx rfl (hb hby d1_56) rfl kq) ?_
          show G T6 (mkF m 58 #[.val (.ref p0), .val (.int (1 : Int32)), .val (.ref b6), .val (.int (0 : Int32)), .val (.ref p0), .val (.int (4 : Int32)), .val (.int (1 : Int32)), .val (.int (f 0))] [(.int (4 : Int32)), (.int (1 : Int32))])
          refine hp (fun tq kq => XS.icmpNo X6.here hx rfl (hb hby d1_58) rfl (tlt (by decide)).2.1 kq) ?_
          show G T6 (mkF m 61 #[.val (.ref p0), .val (.int (1 : Int32)), .val (.ref b6), .val (.int (0 : Int32)), .val (.ref p0), .val (.int (4 : Int32)), .val (.int (1 : Int32)), .val (.int (f 0))] [])
          refine hp (fun tq kq => XS.aload X6.here hx rfl (hb hby d1_61) rfl rfl kq) ?_
          show G T6 (mkF m 63 #[.val (.ref p0), .val (.int (1 : Int32)), .val (.ref b6), .val (.int (0 : Int32)), .val (.ref p0), .val (.int (4 : Int32)), .val (.int (1 : Int32)), .val (.int (f 0))] [(.ref p0)])
          refine hp (fun tq kq => XS.iload X6.here hx rfl (hb hby d1_63) rfl kq) ?_
          show G T6 (mkF m 65 #[.val (.ref p0), .val (.int (1 : Int32)), .val (.ref b6), .val (.int (0 : Int32)), .val (.ref p0), .val (.int (4 : Int32)), .val (.int (1 : Int32)), .val (.int (f 0))] [(.int (1 : Int32)), (.ref p0)])
          refine hp (own_ldI X6 hx hZ e6 V6_p0 (j := (1 : Int32)) 1 (by decide) (by decide) (by decide) (g := (mkF m 65 #[.val (.ref p0), .val (.int (1 : Int32)), .val (.ref b6), .val (.int (0 : Int32)), .val (.ref p0), .val (.int (4 : Int32)), .val (.int (1 : Int32)), .val (.int (f 0))] [(.int (1 : Int32)), (.ref p0)])) rfl rfl (hb hby d1_65)) ?_
          show G T6 (mkF m 66 #[.val (.ref p0), .val (.int (1 : Int32)), .val (.ref b6), .val (.int (0 : Int32)), .val (.ref p0), .val (.int (4 : Int32)), .val (.int (1 : Int32)), .val (.int (f 0))] [(.int (f 1))])
          refine hp (fun tq kq => XS.istore X6.here hx rfl (hb hby d1_66) rfl (l' := #[.val (.ref p0), .val (.int (1 : Int32)), .val (.ref b6), .val (.int (0 : Int32)), .val (.ref p0), .val (.int (4 : Int32)), .val (.int (1 : Int32)), .val (.int (f 1))]) rfl kq) ?_
          show G T6 (mkF m 68 #[.val (.ref p0), .val (.int (1 : Int32)), .val (.ref b6), .val (.int (0 : Int32)), .val (.ref p0), .val (.int (4 : Int32)), .val (.int (1 : Int32)), .val (.int (f 1))] [])
          refine hp (fun tq kq => XS.iload X6.here hx rfl (hb hby d1_68) rfl kq) ?_
          show G T6 (mkF m 70 #[.val (.ref p0), .val (.int (1 : Int32)), .val (.ref b6), .val (.int (0 : Int32)), .val (.ref p0), .val (.int (4 : Int32)), .val (.int (1 : Int32)), .val (.int (f 1))] [(.int (f 1))])
          refine hp (fun tq kq => XS.iconst X6.here hx rfl (hb hby d1_70) kq) ?_
          show G T6 (mkF m 71 #[.val (.ref p0), .val (.int (1 : Int32)), .val (.ref b6), .val (.int (0 : Int32)), .val (.ref p0), .val (.int (4 : Int32)), .val (.int (1 : Int32)), .val (.int (f 1))] [(.int (-1 : Int32)), (.int (f 1))])
          refine hp (fun tq kq => XS.icmpYes X6.here hx rfl (pc0 := 71) (pc' := 82) rfl (hb hby d1_71) rfl (teq hb2).1 (by decide) (by decide) kq) ?_
          show G T6 (mkF m 82 #[.val (.ref p0), .val (.int (1 : Int32)), .val (.ref b6), .val (.int (0 : Int32)), .val (.ref p0), .val (.int (4 : Int32)), .val (.int (1 : Int32)), .val (.int (f 1))] [])
          refine hp (fun tq kq => XS.iinc X6.here hx rfl (hb hby d1_82) rfl (l' := #[.val (.ref p0), .val (.int (1 : Int32)), .val (.ref b6), .val (.int (0 : Int32)), .val (.ref p0), .val (.int (4 : Int32)), .val (.int (2 : Int32)), .val (.int (f 1))]) rfl kq) ?_
          show G T6 (mkF m 85 #[.val (.ref p0), .val (.int (1 : Int32)), .val (.ref b6), .val (.int (0 : Int32)), .val (.ref p0), .val (.int (4 : Int32)), .val (.int (2 : Int32)), .val (.int (f 1))] [])
          refine hp (fun tq kq => XS.goto X6.here hx rfl (pc0 := 85) (pc' := 54) rfl (hb hby d1_85) (by decide) (by decide) kq) ?_
          show G T6 (mkF m 54 #[.val (.ref p0), .val (.int (1 : Int32)), .val (.ref b6), .val (.int (0 : Int32)), .val (.ref p0), .val (.int (4 : Int32)), .val (.int (2 : Int32)), .val (.int (f 1))] [])
          refine hp (fun tq kq => XS.iload X6.here hx rfl (hb hby d1_54) rfl kq) ?_
          show G T6 (mkF m 56 #[.val (.ref p0), .val (.int (1 : Int32)), .val (.ref b6), .val (.int (0 : Int32)), .val (.ref p0), .val (.int (4 : Int32)), .val (.int (2 : Int32)), .val (.int (f 1))] [(.int (2 : Int32))])
          refine hp (fun tq kq => XS.iload X6.here hx rfl (hb hby d1_56) rfl kq) ?_
          show G T6 (mkF m 58 #[.val (.ref p0), .val (.int (1 : Int32)), .val (.ref b6), .val (.int (0 : Int32)), .val (.ref p0), .val (.int (4 : Int32)), .val (.int (2 : Int32)), .val (.int (f 1))] [(.int (4 : Int32)), (.int (2 : Int32))])
          refine hp (fun tq kq => XS.icmpNo X6.here hx rfl (hb hby d1_58) rfl (tlt (by decide)).2.1 kq) ?_
          show G T6 (mkF m 61 #[.val (.ref p0), .val (.int (1 : Int32)), .val (.ref b6), .val (.int (0 : Int32)), .val (.ref p0), .val (.int (4 : Int32)), .val (.int (2 : Int32)), .val (.int (f 1))] [])
          refine hp (fun tq kq => XS.aload X6.here hx rfl (hb hby d1_61) rfl rfl kq) ?_
          show G T6 (mkF m 63 #[.val (.ref p0), .val (.int (1 : Int32)), .val (.ref b6), .val (.int (0 : Int32)), .val (.ref p0), .val (.int (4 : Int32)), .val (.int (2 : Int32)), .val (.int (f 1))] [(.ref p0)])
          refine hp (fun tq kq => XS.iload X6.here hx rfl (hb hby d1_63) rfl kq) ?_
          show G T6 (mkF m 65 #[.val (.ref p0), .val (.int (1 : Int32)), .val (.ref b6), .val (.int (0 : Int32)), .val (.ref p0), .val (.int (4 : Int32)), .val (.int (2 : Int32)), .val (.int (f 1))] [(.int (2 : Int32)), (.ref p0)])
          refine hp (own_ldI X6 hx hZ e6 V6_p0 (j := (2 : Int32)) 2 (by decide) (by decide) (by decide) (g := (mkF m 65 #[.val (.ref p0), .val (.int (1 : Int32)), .val (.ref b6), .val (.int (0 : Int32)), .val (.ref p0), .val (.int (4 : Int32)), .val (.int (2 : Int32)), .val (.int (f 1))] [(.int (2 : Int32)), (.ref p0)])) rfl rfl (hb hby d1_65)) ?_
          show G T6 (mkF m 66 #[.val (.ref p0), .val (.int (1 : Int32)), .val (.ref b6), .val (.int (0 : Int32)), .val (.ref p0), .val (.int (4 : Int32)), .val (.int (2 : Int32)), .val (.int (f 1))] [(.int (f 2))])
          refine hp (fun tq kq => XS.istore X6.here hx rfl (hb hby d1_66) rfl (l' := #[.val (.ref p0), .val (.int (1 : Int32)), .val (.ref b6), .val (.int (0 : Int32)), .val (.ref p0), .val (.int (4 : Int32)), .val (.int (2 : Int32)), .val (.int (f 2))]) rfl kq) ?_
          show G T6 (mkF m 68 #[.val (.ref p0), .val (.int (1 : Int32)), .val (.ref b6), .val (.int (0 : Int32)), .val (.ref p0), .val (.int (4 : Int32)), .val (.int (2 : Int32)), .val (.int (f 2))] [])
          refine hp (fun tq kq => XS.iload X6.here hx rfl (hb hby d1_68) rfl kq) ?_
          show G T6 (mkF m 70 #[.val (.ref p0), .val (.int (1 : Int32)), .val (.ref b6), .val (.int (0 : Int32)), .val (.ref p0), .val (.int (4 : Int32)), .val (.int (2 : Int32)), .val (.int (f 2))] [(.int (f 2))])
          refine hp (fun tq kq => XS.iconst X6.here hx rfl (hb hby d1_70) kq) ?_
          show G T6 (mkF m 71 #[.val (.ref p0), .val (.int (1 : Int32)), .val (.ref b6), .val (.int (0 : Int32)), .val (.ref p0), .val (.int (4 : Int32)), .val (.int (2 : Int32)), .val (.int (f 2))] [(.int (-1 : Int32)), (.int (f 2))])
          refine hp (fun tq kq => XS.icmpYes X6.here hx rfl (pc0 := 71) (pc' := 82) rfl (hb hby d1_71) rfl (teq hb3).1 (by decide) (by decide) kq) ?_
          show G T6 (mkF m 82 #[.val (.ref p0), .val (.int (1 : Int32)), .val (.ref b6), .val (.int (0 : Int32)), .val (.ref p0), .val (.int (4 : Int32)), .val (.int (2 : Int32)), .val (.int (f 2))] [])
          refine hp (fun tq kq => XS.iinc X6.here hx rfl (hb hby d1_82) rfl (l' := #[.val (.ref p0), .val (.int (1 : Int32)), .val (.ref b6), .val (.int (0 : Int32)), .val (.ref p0), .val (.int (4 : Int32)), .val (.int (3 : Int32)), .val (.int (f 2))]) rfl kq) ?_
          show G T6 (mkF m 85 #[.val (.ref p0), .val (.int (1 : Int32)), .val (.ref b6), .val (.int (0 : Int32)), .val (.ref p0), .val (.int (4 : Int32)), .val (.int (3 : Int32)), .val (.int (f 2))] [])
          refine hp (fun tq kq => XS.goto X6.here hx rfl (pc0 := 85) (pc' := 54) rfl (hb hby d1_85) (by decide) (by decide) kq) ?_
          show G T6 (mkF m 54 #[.val (.ref p0), .val (.int (1 : Int32)), .val (.ref b6), .val (.int (0 : Int32)), .val (.ref p0), .val (.int (4 : Int32)), .val (.int (3 : Int32)), .val (.int (f 2))] [])
          refine hp (fun tq kq => XS.iload X6.here hx rfl (hb hby d1_54) rfl kq) ?_
          show G T6 (mkF m 56 #[.val (.ref p0), .val (.int (1 : Int32)), .val (.ref b6), .val (.int (0 : Int32)), .val (.ref p0), .val (.int (4 : Int32)), .val (.int (3 : Int32)), .val (.int (f 2))] [(.int (3 : Int32))])
          refine hp (fun tq kq => XS.iload X6.here hx rfl (hb hby d1_56) rfl kq) ?_
          show G T6 (mkF m 58 #[.val (.ref p0), .val (.int (1 : Int32)), .val (.ref b6), .val (.int (0 : Int32)), .val (.ref p0), .val (.int (4 : Int32)), .val (.int (3 : Int32)), .val (.int (f 2))] [(.int (4 : Int32)), (.int (3 : Int32))])
          refine hp (fun tq kq => XS.icmpNo X6.here hx rfl (hb hby d1_58) rfl (tlt (by decide)).2.1 kq) ?_
          show G T6 (mkF m 61 #[.val (.ref p0), .val (.int (1 : Int32)), .val (.ref b6), .val (.int (0 : Int32)), .val (.ref p0), .val (.int (4 : Int32)), .val (.int (3 : Int32)), .val (.int (f 2))] [])
          refine hp (fun tq kq => XS.aload X6.here hx rfl (hb hby d1_61) rfl rfl kq) ?_
          show G T6 (mkF m 63 #[.val (.ref p0), .val (.int (1 : Int32)), .val (.ref b6), .val (.int (0 : Int32)), .val (.ref p0), .val (.int (4 : Int32)), .val (.int (3 : Int32)), .val (.int (f 2))] [(.ref p0)])
          refine hp (fun tq kq => XS.iload X6.here hx rfl (hb hby d1_63) rfl kq) ?_
          show G T6 (mkF m 65 #[.val (.ref p0), .val (.int (1 : Int32)), .val (.ref b6), .val (.int (0 : Int32)), .val (.ref p0), .val (.int (4 : Int32)), .val (.int (3 : Int32)), .val (.int (f 2))] [(.int (3 : Int32)), (.ref p0)])
          refine hp (own_ldI X6 hx hZ e6 V6_p0 (j := (3 : Int32)) 3 (by decide) (by decide) (by decide) (g := (mkF m 65 #[.val (.ref p0), .val (.int (1 : Int32)), .val (.ref b6), .val (.int (0 : Int32)), .val (.ref p0), .val (.int (4 : Int32)), .val (.int (3 : Int32)), .val (.int (f 2))] [(.int (3 : Int32)), (.ref p0)])) rfl rfl (hb hby d1_65)) ?_
          show G T6 (mkF m 66 #[.val (.ref p0), .val (.int (1 : Int32)), .val (.ref b6), .val (.int (0 : Int32)), .val (.ref p0), .val (.int (4 : Int32)), .val (.int (3 : Int32)), .val (.int (f 2))] [(.int (f 3))])
          refine hp (fun tq kq => XS.istore X6.here hx rfl (hb hby d1_66) rfl (l' := #[.val (.ref p0), .val (.int (1 : Int32)), .val (.ref b6), .val (.int (0 : Int32)), .val (.ref p0), .val (.int (4 : Int32)), .val (.int (3 : Int32)), .val (.int (f 3))]) rfl kq) ?_
          show G T6 (mkF m 68 #[.val (.ref p0), .val (.int (1 : Int32)), .val (.ref b6), .val (.int (0 : Int32)), .val (.ref p0), .val (.int (4 : Int32)), .val (.int (3 : Int32)), .val (.int (f 3))] [])
          refine hp (fun tq kq => XS.iload X6.here hx rfl (hb hby d1_68) rfl kq) ?_
          show G T6 (mkF m 70 #[.val (.ref p0), .val (.int (1 : Int32)), .val (.ref b6), .val (.int (0 : Int32)), .val (.ref p0), .val (.int (4 : Int32)), .val (.int (3 : Int32)), .val (.int (f 3))] [(.int (f 3))])
          refine hp (fun tq kq => XS.iconst X6.here hx rfl (hb hby d1_70) kq) ?_
          show G T6 (mkF m 71 #[.val (.ref p0), .val (.int (1 : Int32)), .val (.ref b6), .val (.int (0 : Int32)), .val (.ref p0), .val (.int (4 : Int32)), .val (.int (3 : Int32)), .val (.int (f 3))] [(.int (-1 : Int32)), (.int (f 3))])
          refine hp (fun tq kq => XS.icmpNo X6.here hx rfl (hb hby d1_71) rfl (feq hb4).1 kq) ?_
          show G T6 (mkF m 74 #[.val (.ref p0), .val (.int (1 : Int32)), .val (.ref b6), .val (.int (0 : Int32)), .val (.ref p0), .val (.int (4 : Int32)), .val (.int (3 : Int32)), .val (.int (f 3))] [])
          refine hp (fun tq kq => XS.aloadN X6.here hx rfl (hb hby d1_74) rfl rfl kq) ?_
          show G T6 (mkF m 75 #[.val (.ref p0), .val (.int (1 : Int32)), .val (.ref b6), .val (.int (0 : Int32)), .val (.ref p0), .val (.int (4 : Int32)), .val (.int (3 : Int32)), .val (.int (f 3))] [(.ref b6)])
          refine hp (fun tq kq => XS.iloadN X6.here hx rfl (hb hby d1_75) rfl kq) ?_
          show G T6 (mkF m 76 #[.val (.ref p0), .val (.int (1 : Int32)), .val (.ref b6), .val (.int (0 : Int32)), .val (.ref p0), .val (.int (4 : Int32)), .val (.int (3 : Int32)), .val (.int (f 3))] [(.int (0 : Int32)), (.ref b6)])
          refine hp (fun tq kq => XS.iload X6.here hx rfl (hb hby d1_76) rfl kq) ?_
          show G T6 (mkF m 78 #[.val (.ref p0), .val (.int (1 : Int32)), .val (.ref b6), .val (.int (0 : Int32)), .val (.ref p0), .val (.int (4 : Int32)), .val (.int (3 : Int32)), .val (.int (f 3))] [(.int (f 3)), (.int (0 : Int32)), (.ref b6)])
          obtain ⟨T7, h7, X7, e7, W7, V7_b6, st7⟩ := own_stI X6 hx hZ e6 V6_b6 (j := (0 : Int32)) 0 (by decide) (by decide) (by decide) (g := (mkF m 78 #[.val (.ref p0), .val (.int (1 : Int32)), .val (.ref b6), .val (.int (0 : Int32)), .val (.ref p0), .val (.int (4 : Int32)), .val (.int (3 : Int32)), .val (.int (f 3))] [(.int (f 3)), (.int (0 : Int32)), (.ref b6)])) rfl rfl (hb hby d1_78)
          have V7_p0 := V6_p0.other W7 ne6_p0
          have K7 := K6.wr W7 (Or.inr sz_b6)
          have N7 := Fr.snoc X7 N0 g_b6
          refine hp st7 ?_
          show G T7 (mkF m 79 #[.val (.ref p0), .val (.int (1 : Int32)), .val (.ref b6), .val (.int (0 : Int32)), .val (.ref p0), .val (.int (4 : Int32)), .val (.int (3 : Int32)), .val (.int (f 3))] [])
          refine hp (fun tq kq => XS.iinc X7.here hx rfl (hb hby d1_79) rfl (l' := #[.val (.ref p0), .val (.int (1 : Int32)), .val (.ref b6), .val (.int (1 : Int32)), .val (.ref p0), .val (.int (4 : Int32)), .val (.int (3 : Int32)), .val (.int (f 3))]) rfl kq) ?_
          show G T7 (mkF m 82 #[.val (.ref p0), .val (.int (1 : Int32)), .val (.ref b6), .val (.int (1 : Int32)), .val (.ref p0), .val (.int (4 : Int32)), .val (.int (3 : Int32)), .val (.int (f 3))] [])
          refine hp (fun tq kq => XS.iinc X7.here hx rfl (hb hby d1_82) rfl (l' := #[.val (.ref p0), .val (.int (1 : Int32)), .val (.ref b6), .val (.int (1 : Int32)), .val (.ref p0), .val (.int (4 : Int32)), .val (.int (4 : Int32)), .val (.int (f 3))]) rfl kq) ?_
          show G T7 (mkF m 85 #[.val (.ref p0), .val (.int (1 : Int32)), .val (.ref b6), .val (.int (1 : Int32)), .val (.ref p0), .val (.int (4 : Int32)), .val (.int (4 : Int32)), .val (.int (f 3))] [])
          refine hp (fun tq kq => XS.goto X7.here hx rfl (pc0 := 85) (pc' := 54) rfl (hb hby d1_85) (by decide) (by decide) kq) ?_
          show G T7 (mkF m 54 #[.val (.ref p0), .val (.int (1 : Int32)), .val (.ref b6), .val (.int (1 : Int32)), .val (.ref p0), .val (.int (4 : Int32)), .val (.int (4 : Int32)), .val (.int (f 3))] [])
          refine hp (fun tq kq => XS.iload X7.here hx rfl (hb hby d1_54) rfl kq) ?_
          show G T7 (mkF m 56 #[.val (.ref p0), .val (.int (1 : Int32)), .val (.ref b6), .val (.int (1 : Int32)), .val (.ref p0), .val (.int (4 : Int32)), .val (.int (4 : Int32)), .val (.int (f 3))] [(.int (4 : Int32))])
          refine hp (fun tq kq => XS.iload X7.here hx rfl (hb hby d1_56) rfl kq) ?_
          show G T7 (mkF m 58 #[.val (.ref p0), .val (.int (1 : Int32)), .val (.ref b6), .val (.int (1 : Int32)), .val (.ref p0), .val (.int (4 : Int32)), .val (.int (4 : Int32)), .val (.int (f 3))] [(.int (4 : Int32)), (.int (4 : Int32))])
          refine hp (fun tq kq => XS.icmpYes X7.here hx rfl (pc0 := 58) (pc' := 88) rfl (hb hby d1_58) rfl (flt (by decide)).2.1 (by decide) (by decide) kq) ?_
          show G T7 (mkF m 88 #[.val (.ref p0), .val (.int (1 : Int32)), .val (.ref b6), .val (.int (1 : Int32)), .val (.ref p0), .val (.int (4 : Int32)), .val (.int (4 : Int32)), .val (.int (f 3))] [])
          refine hp (fun tq kq => XS.aloadN X7.here hx rfl (hb hby d1_88) rfl rfl kq) ?_
          show G T7 (mkF m 89 #[.val (.ref p0), .val (.int (1 : Int32)), .val (.ref b6), .val (.int (1 : Int32)), .val (.ref p0), .val (.int (4 : Int32)), .val (.int (4 : Int32)), .val (.int (f 3))] [(.ref b6)])
          exact hR X7 (fun fs hl => own_retA X7 hx hret rfl (hb hby d1_89) hl) (fun q => by rw [hret] at q; cases q) (by rw [e7]; exact ⟨b6, 1, (own_up (fun _ => (0 : Int32)) 0 (f 3)), rfl, N7, K7, sz_b6, V7_b6, own_seld (l := [(f 3)]) (own_sel_of (a := []) (b := []) (c := []) (d := [f 3]) (if_pos hb1) (if_pos hb2) (if_pos hb3) (if_neg hb4)) rfl (own_pick1 rfl rfl)⟩) (by decide) (by decide)
      · refine hp (fun tq kq => XS.icmpNo X0.here hx rfl (hb hby d1_25) rfl (feq hb3).1 kq) ?_
        show G s₁ (mkF m 28 #[.val (.ref p0), .val (.int (0 : Int32)), .val (.ref p0), .val (.int (4 : Int32)), .val (.int (2 : Int32)), .val (.int (f 2)), .unset, .unset] [])
        refine hp (fun tq kq => XS.iinc X0.here hx rfl (hb hby d1_28) rfl (l' := #[.val (.ref p0), .val (.int (1 : Int32)), .val (.ref p0), .val (.int (4 : Int32)), .val (.int (2 : Int32)), .val (.int (f 2)), .unset, .unset]) rfl kq) ?_
        show G s₁ (mkF m 31 #[.val (.ref p0), .val (.int (1 : Int32)), .val (.ref p0), .val (.int (4 : Int32)), .val (.int (2 : Int32)), .val (.int (f 2)), .unset, .unset] [])
        refine hp (fun tq kq => XS.iinc X0.here hx rfl (hb hby d1_31) rfl (l' := #[.val (.ref p0), .val (.int (1 : Int32)), .val (.ref p0), .val (.int (4 : Int32)), .val (.int (3 : Int32)), .val (.int (f 2)), .unset, .unset]) rfl kq) ?_
        show G s₁ (mkF m 34 #[.val (.ref p0), .val (.int (1 : Int32)), .val (.ref p0), .val (.int (4 : Int32)), .val (.int (3 : Int32)), .val (.int (f 2)), .unset, .unset] [])
        refine hp (fun tq kq => XS.goto X0.here hx rfl (pc0 := 34) (pc' := 10) rfl (hb hby d1_34) (by decide) (by decide) kq) ?_
        show G s₁ (mkF m 10 #[.val (.ref p0), .val (.int (1 : Int32)), .val (.ref p0), .val (.int (4 : Int32)), .val (.int (3 : Int32)), .val (.int (f 2)), .unset, .unset] [])
        refine hp (fun tq kq => XS.iload X0.here hx rfl (hb hby d1_10) rfl kq) ?_
        show G s₁ (mkF m 12 #[.val (.ref p0), .val (.int (1 : Int32)), .val (.ref p0), .val (.int (4 : Int32)), .val (.int (3 : Int32)), .val (.int (f 2)), .unset, .unset] [(.int (3 : Int32))])
        refine hp (fun tq kq => XS.iloadN X0.here hx rfl (hb hby d1_12) rfl kq) ?_
        show G s₁ (mkF m 13 #[.val (.ref p0), .val (.int (1 : Int32)), .val (.ref p0), .val (.int (4 : Int32)), .val (.int (3 : Int32)), .val (.int (f 2)), .unset, .unset] [(.int (4 : Int32)), (.int (3 : Int32))])
        refine hp (fun tq kq => XS.icmpNo X0.here hx rfl (hb hby d1_13) rfl (tlt (by decide)).2.1 kq) ?_
        show G s₁ (mkF m 16 #[.val (.ref p0), .val (.int (1 : Int32)), .val (.ref p0), .val (.int (4 : Int32)), .val (.int (3 : Int32)), .val (.int (f 2)), .unset, .unset] [])
        refine hp (fun tq kq => XS.aloadN X0.here hx rfl (hb hby d1_16) rfl rfl kq) ?_
        show G s₁ (mkF m 17 #[.val (.ref p0), .val (.int (1 : Int32)), .val (.ref p0), .val (.int (4 : Int32)), .val (.int (3 : Int32)), .val (.int (f 2)), .unset, .unset] [(.ref p0)])
        refine hp (fun tq kq => XS.iload X0.here hx rfl (hb hby d1_17) rfl kq) ?_
        show G s₁ (mkF m 19 #[.val (.ref p0), .val (.int (1 : Int32)), .val (.ref p0), .val (.int (4 : Int32)), .val (.int (3 : Int32)), .val (.int (f 2)), .unset, .unset] [(.int (3 : Int32)), (.ref p0)])
        refine hp (own_ldI X0 hx hZ e0 V_p0 (j := (3 : Int32)) 3 (by decide) (by decide) (by decide) (g := (mkF m 19 #[.val (.ref p0), .val (.int (1 : Int32)), .val (.ref p0), .val (.int (4 : Int32)), .val (.int (3 : Int32)), .val (.int (f 2)), .unset, .unset] [(.int (3 : Int32)), (.ref p0)])) rfl rfl (hb hby d1_19)) ?_
        show G s₁ (mkF m 20 #[.val (.ref p0), .val (.int (1 : Int32)), .val (.ref p0), .val (.int (4 : Int32)), .val (.int (3 : Int32)), .val (.int (f 2)), .unset, .unset] [(.int (f 3))])
        refine hp (fun tq kq => XS.istore X0.here hx rfl (hb hby d1_20) rfl (l' := #[.val (.ref p0), .val (.int (1 : Int32)), .val (.ref p0), .val (.int (4 : Int32)), .val (.int (3 : Int32)), .val (.int (f 3)), .unset, .unset]) rfl kq) ?_
        show G s₁ (mkF m 22 #[.val (.ref p0), .val (.int (1 : Int32)), .val (.ref p0), .val (.int (4 : Int32)), .val (.int (3 : Int32)), .val (.int (f 3)), .unset, .unset] [])
        refine hp (fun tq kq => XS.iload X0.here hx rfl (hb hby d1_22) rfl kq) ?_
        show G s₁ (mkF m 24 #[.val (.ref p0), .val (.int (1 : Int32)), .val (.ref p0), .val (.int (4 : Int32)), .val (.int (3 : Int32)), .val (.int (f 3)), .unset, .unset] [(.int (f 3))])
        refine hp (fun tq kq => XS.iconst X0.here hx rfl (hb hby d1_24) kq) ?_
        show G s₁ (mkF m 25 #[.val (.ref p0), .val (.int (1 : Int32)), .val (.ref p0), .val (.int (4 : Int32)), .val (.int (3 : Int32)), .val (.int (f 3)), .unset, .unset] [(.int (-1 : Int32)), (.int (f 3))])
        by_cases hb8 : (f 3) = (-1 : Int32)
        · refine hp (fun tq kq => XS.icmpYes X0.here hx rfl (pc0 := 25) (pc' := 31) rfl (hb hby d1_25) rfl (teq hb8).1 (by decide) (by decide) kq) ?_
          show G s₁ (mkF m 31 #[.val (.ref p0), .val (.int (1 : Int32)), .val (.ref p0), .val (.int (4 : Int32)), .val (.int (3 : Int32)), .val (.int (f 3)), .unset, .unset] [])
          refine hp (fun tq kq => XS.iinc X0.here hx rfl (hb hby d1_31) rfl (l' := #[.val (.ref p0), .val (.int (1 : Int32)), .val (.ref p0), .val (.int (4 : Int32)), .val (.int (4 : Int32)), .val (.int (f 3)), .unset, .unset]) rfl kq) ?_
          show G s₁ (mkF m 34 #[.val (.ref p0), .val (.int (1 : Int32)), .val (.ref p0), .val (.int (4 : Int32)), .val (.int (4 : Int32)), .val (.int (f 3)), .unset, .unset] [])
          refine hp (fun tq kq => XS.goto X0.here hx rfl (pc0 := 34) (pc' := 10) rfl (hb hby d1_34) (by decide) (by decide) kq) ?_
          show G s₁ (mkF m 10 #[.val (.ref p0), .val (.int (1 : Int32)), .val (.ref p0), .val (.int (4 : Int32)), .val (.int (4 : Int32)), .val (.int (f 3)), .unset, .unset] [])
          refine hp (fun tq kq => XS.iload X0.here hx rfl (hb hby d1_10) rfl kq) ?_
          show G s₁ (mkF m 12 #[.val (.ref p0), .val (.int (1 : Int32)), .val (.ref p0), .val (.int (4 : Int32)), .val (.int (4 : Int32)), .val (.int (f 3)), .unset, .unset] [(.int (4 : Int32))])
          refine hp (fun tq kq => XS.iloadN X0.here hx rfl (hb hby d1_12) rfl kq) ?_
          show G s₁ (mkF m 13 #[.val (.ref p0), .val (.int (1 : Int32)), .val (.ref p0), .val (.int (4 : Int32)), .val (.int (4 : Int32)), .val (.int (f 3)), .unset, .unset] [(.int (4 : Int32)), (.int (4 : Int32))])
          refine hp (fun tq kq => XS.icmpYes X0.here hx rfl (pc0 := 13) (pc' := 37) rfl (hb hby d1_13) rfl (flt (by decide)).2.1 (by decide) (by decide) kq) ?_
          show G s₁ (mkF m 37 #[.val (.ref p0), .val (.int (1 : Int32)), .val (.ref p0), .val (.int (4 : Int32)), .val (.int (4 : Int32)), .val (.int (f 3)), .unset, .unset] [])
          refine hp (fun tq kq => XS.iloadN X0.here hx rfl (hb hby d1_37) rfl kq) ?_
          show G s₁ (mkF m 38 #[.val (.ref p0), .val (.int (1 : Int32)), .val (.ref p0), .val (.int (4 : Int32)), .val (.int (4 : Int32)), .val (.int (f 3)), .unset, .unset] [(.int (1 : Int32))])
          obtain ⟨T9, h9, k9, X9, e9, E9, A9, st9⟩ := newP X0 hx hZ (hw _ (List.mem_of_getElem? (i := 1) rfl)) e0 (g := (mkF m 38 #[.val (.ref p0), .val (.int (1 : Int32)), .val (.ref p0), .val (.int (4 : Int32)), .val (.int (4 : Int32)), .val (.int (f 3)), .unset, .unset] [(.int (1 : Int32))])) rfl (hb hby d1_38) rfl (by decide) (cap := 1) (by decide) (by decide) (by decide) (by decide)
          obtain ⟨b9, g9⟩ : ∃ z, z = h0.size := ⟨_, rfl⟩
          rw [← g9] at A9 st9
          have ne9_p0 : p0 ≠ b9 := Nat.ne_of_lt (Nat.lt_of_lt_of_le V_p0.lt (Nat.le_of_eq g9.symm))
          have sz_b9 : h0.size ≤ b9 := Nat.le_trans K0.1 (Nat.le_of_eq g9.symm)
          have g_b9 : n0 ≤ b9 := Nat.le_trans Z0 sz_b9
          have V9_p0 := V_p0.ext E9
          have K9 := K0.ext E9
          have V9_b9 : own_AI Z h9 b9 .int 1 (fun _ => 0) := own_AI.new A9 (by decide) rfl 1 (by decide)
          refine hp st9 ?_
          show G T9 (mkF m 40 #[.val (.ref p0), .val (.int (1 : Int32)), .val (.ref p0), .val (.int (4 : Int32)), .val (.int (4 : Int32)), .val (.int (f 3)), .unset, .unset] [(.ref b9)])
          refine hp (fun tq kq => XS.astoreN X9.here hx rfl (hb hby d1_40) rfl rfl (l' := #[.val (.ref p0), .val (.int (1 : Int32)), .val (.ref b9), .val (.int (4 : Int32)), .val (.int (4 : Int32)), .val (.int (f 3)), .unset, .unset]) rfl kq) ?_
          show G T9 (mkF m 41 #[.val (.ref p0), .val (.int (1 : Int32)), .val (.ref b9), .val (.int (4 : Int32)), .val (.int (4 : Int32)), .val (.int (f 3)), .unset, .unset] [])
          refine hp (fun tq kq => XS.iconst X9.here hx rfl (hb hby d1_41) kq) ?_
          show G T9 (mkF m 42 #[.val (.ref p0), .val (.int (1 : Int32)), .val (.ref b9), .val (.int (4 : Int32)), .val (.int (4 : Int32)), .val (.int (f 3)), .unset, .unset] [(.int (0 : Int32))])
          refine hp (fun tq kq => XS.istoreN X9.here hx rfl (hb hby d1_42) rfl (l' := #[.val (.ref p0), .val (.int (1 : Int32)), .val (.ref b9), .val (.int (0 : Int32)), .val (.int (4 : Int32)), .val (.int (f 3)), .unset, .unset]) rfl kq) ?_
          show G T9 (mkF m 43 #[.val (.ref p0), .val (.int (1 : Int32)), .val (.ref b9), .val (.int (0 : Int32)), .val (.int (4 : Int32)), .val (.int (f 3)), .unset, .unset] [])
          refine hp (fun tq kq => XS.aloadN X9.here hx rfl (hb hby d1_43) rfl rfl kq) ?_
          show G T9 (mkF m 44 #[.val (.ref p0), .val (.int (1 : Int32)), .val (.ref b9), .val (.int (0 : Int32)), .val (.int (4 : Int32)), .val (.int (f 3)), .unset, .unset] [(.ref p0)])
          refine hp (fun tq kq => XS.astore X9.here hx rfl (hb hby d1_44) rfl rfl (l' := #[.val (.ref p0), .val (.int (1 : Int32)), .val (.ref b9), .val (.int (0 : Int32)), .val (.ref p0), .val (.int (f 3)), .unset, .unset]) rfl kq) ?_
          show G T9 (mkF m 46 #[.val (.ref p0), .val (.int (1 : Int32)), .val (.ref b9), .val (.int (0 : Int32)), .val (.ref p0), .val (.int (f 3)), .unset, .unset] [])
          refine hp (fun tq kq => XS.aload X9.here hx rfl (hb hby d1_46) rfl rfl kq) ?_
          show G T9 (mkF m 48 #[.val (.ref p0), .val (.int (1 : Int32)), .val (.ref b9), .val (.int (0 : Int32)), .val (.ref p0), .val (.int (f 3)), .unset, .unset] [(.ref p0)])
          refine hp (own_lenI X9 hx hZ e9 V9_p0 (4 : Int32) rfl (g := (mkF m 48 #[.val (.ref p0), .val (.int (1 : Int32)), .val (.ref b9), .val (.int (0 : Int32)), .val (.ref p0), .val (.int (f 3)), .unset, .unset] [(.ref p0)])) rfl rfl (hb hby d1_48)) ?_
          show G T9 (mkF m 49 #[.val (.ref p0), .val (.int (1 : Int32)), .val (.ref b9), .val (.int (0 : Int32)), .val (.ref p0), .val (.int (f 3)), .unset, .unset] [(.int (4 : Int32))])
          refine hp (fun tq kq => XS.istore X9.here hx rfl (hb hby d1_49) rfl (l' := #[.val (.ref p0), .val (.int (1 : Int32)), .val (.ref b9), .val (.int (0 : Int32)), .val (.ref p0), .val (.int (4 : Int32)), .unset, .unset]) rfl kq) ?_
          show G T9 (mkF m 51 #[.val (.ref p0), .val (.int (1 : Int32)), .val (.ref b9), .val (.int (0 : Int32)), .val (.ref p0), .val (.int (4 : Int32)), .unset, .unset] [])
          refine hp (fun tq kq => XS.iconst X9.here hx rfl (hb hby d1_51) kq) ?_
          show G T9 (mkF m 52 #[.val (.ref p0), .val (.int (1 : Int32)), .val (.ref b9), .val (.int (0 : Int32)), .val (.ref p0), .val (.int (4 : Int32)), .unset, .unset] [(.int (0 : Int32))])
          refine hp (fun tq kq => XS.istore X9.here hx rfl (hb hby d1_52) rfl (l' := #[.val (.ref p0), .val (.int (1 : Int32)), .val (.ref b9), .val (.int (0 : Int32)), .val (.ref p0), .val (.int (4 : Int32)), .val (.int (0 : Int32)), .unset]) rfl kq) ?_
          show G T9 (mkF m 54 #[.val (.ref p0), .val (.int (1 : Int32)), .val (.ref b9), .val (.int (0 : Int32)), .val (.ref p0), .val (.int (4 : Int32)), .val (.int (0 : Int32)), .unset] [])
          refine hp (fun tq kq => XS.iload X9.here hx rfl (hb hby d1_54) rfl kq) ?_
          show G T9 (mkF m 56 #[.val (.ref p0), .val (.int (1 : Int32)), .val (.ref b9), .val (.int (0 : Int32)), .val (.ref p0), .val (.int (4 : Int32)), .val (.int (0 : Int32)), .unset] [(.int (0 : Int32))])
          refine hp (fun tq kq => XS.iload X9.here hx rfl (hb hby d1_56) rfl kq) ?_
          show G T9 (mkF m 58 #[.val (.ref p0), .val (.int (1 : Int32)), .val (.ref b9), .val (.int (0 : Int32)), .val (.ref p0), .val (.int (4 : Int32)), .val (.int (0 : Int32)), .unset] [(.int (4 : Int32)), (.int (0 : Int32))])
          refine hp (fun tq kq => XS.icmpNo X9.here hx rfl (hb hby d1_58) rfl (tlt (by decide)).2.1 kq) ?_
          show G T9 (mkF m 61 #[.val (.ref p0), .val (.int (1 : Int32)), .val (.ref b9), .val (.int (0 : Int32)), .val (.ref p0), .val (.int (4 : Int32)), .val (.int (0 : Int32)), .unset] [])
          refine hp (fun tq kq => XS.aload X9.here hx rfl (hb hby d1_61) rfl rfl kq) ?_
          show G T9 (mkF m 63 #[.val (.ref p0), .val (.int (1 : Int32)), .val (.ref b9), .val (.int (0 : Int32)), .val (.ref p0), .val (.int (4 : Int32)), .val (.int (0 : Int32)), .unset] [(.ref p0)])
          refine hp (fun tq kq => XS.iload X9.here hx rfl (hb hby d1_63) rfl kq) ?_
          show G T9 (mkF m 65 #[.val (.ref p0), .val (.int (1 : Int32)), .val (.ref b9), .val (.int (0 : Int32)), .val (.ref p0), .val (.int (4 : Int32)), .val (.int (0 : Int32)), .unset] [(.int (0 : Int32)), (.ref p0)])
          refine hp (own_ldI X9 hx hZ e9 V9_p0 (j := (0 : Int32)) 0 (by decide) (by decide) (by decide) (g := (mkF m 65 #[.val (.ref p0), .val (.int (1 : Int32)), .val (.ref b9), .val (.int (0 : Int32)), .val (.ref p0), .val (.int (4 : Int32)), .val (.int (0 : Int32)), .unset] [(.int (0 : Int32)), (.ref p0)])) rfl rfl (hb hby d1_65)) ?_
          show G T9 (mkF m 66 #[.val (.ref p0), .val (.int (1 : Int32)), .val (.ref b9), .val (.int (0 : Int32)), .val (.ref p0), .val (.int (4 : Int32)), .val (.int (0 : Int32)), .unset] [(.int (f 0))])
          refine hp (fun tq kq => XS.istore X9.here hx rfl (hb hby d1_66) rfl (l' := #[.val (.ref p0), .val (.int (1 : Int32)), .val (.ref b9), .val (.int (0 : Int32)), .val (.ref p0), .val (.int (4 : Int32)), .val (.int (0 : Int32)), .val (.int (f 0))]) rfl kq) ?_
          show G T9 (mkF m 68 #[.val (.ref p0), .val (.int (1 : Int32)), .val (.ref b9), .val (.int (0 : Int32)), .val (.ref p0), .val (.int (4 : Int32)), .val (.int (0 : Int32)), .val (.int (f 0))] [])
          refine hp (fun tq kq => XS.iload X9.here hx rfl (hb hby d1_68) rfl kq) ?_
          show G T9 (mkF m 70 #[.val (.ref p0), .val (.int (1 : Int32)), .val (.ref b9), .val (.int (0 : Int32)), .val (.ref p0), .val (.int (4 : Int32)), .val (.int (0 : Int32)), .val (.int (f 0))] [(.int (f 0))])
          refine hp (fun tq kq => XS.iconst X9.here hx rfl (hb hby d1_70) kq) ?_
          show G T9 (mkF m 71 #[.val (.ref p0), .val (.int (1 : Int32)), .val (.ref b9), .val (.int (0 : Int32)), .val (.ref p0), .val (.int (4 : Int32)), .val (.int (0 : Int32)), .val (.int (f 0))] [(.int (-1 : Int32)), (.int (f 0))])
          refine hp (fun tq kq => XS.icmpYes X9.here hx rfl (pc0 := 71) (pc' := 82) rfl (hb hby d1_71) rfl (teq hb1).1 (by decide) (by decide) kq) ?_
          show G T9 (mkF m 82 #[.val (.ref p0), .val (.int (1 : Int32)), .val (.ref b9), .val (.int (0 : Int32)), .val (.ref p0), .val (.int (4 : Int32)), .val (.int (0 : Int32)), .val (.int (f 0))] [])
          refine hp (fun tq kq => XS.iinc X9.here hx rfl (hb hby d1_82) rfl (l' := #[.val (.ref p0), .val (.int (1 : Int32)), .val (.ref b9), .val (.int (0 : Int32)), .val (.ref p0), .val (.int (4 : Int32)), .val (.int (1 : Int32)), .val (.int (f 0))]) rfl kq) ?_
          show G T9 (mkF m 85 #[.val (.ref p0), .val (.int (1 : Int32)), .val (.ref b9), .val (.int (0 : Int32)), .val (.ref p0), .val (.int (4 : Int32)), .val (.int (1 : Int32)), .val (.int (f 0))] [])
          refine hp (fun tq kq => XS.goto X9.here hx rfl (pc0 := 85) (pc' := 54) rfl (hb hby d1_85) (by decide) (by decide) kq) ?_
          show G T9 (mkF m 54 #[.val (.ref p0), .val (.int (1 : Int32)), .val (.ref b9), .val (.int (0 : Int32)), .val (.ref p0), .val (.int (4 : Int32)), .val (.int (1 : Int32)), .val (.int (f 0))] [])
          refine hp (fun tq kq => XS.iload X9.here hx rfl (hb hby d1_54) rfl kq) ?_
          show G T9 (mkF m 56 #[.val (.ref p0), .val (.int (1 : Int32)), .val (.ref b9), .val (.int (0 : Int32)), .val (.ref p0), .val (.int (4 : Int32)), .val (.int (1 : Int32)), .val (.int (f 0))] [(.int (1 : Int32))])
          refine hp (fun tq kq => XS.iload X9.here hx rfl (hb hby d1_56) rfl kq) ?_
          show G T9 (mkF m 58 #[.val (.ref p0), .val (.int (1 : Int32)), .val (.ref b9), .val (.int (0 : Int32)), .val (.ref p0), .val (.int (4 : Int32)), .val (.int (1 : Int32)), .val (.int (f 0))] [(.int (4 : Int32)), (.int (1 : Int32))])
          refine hp (fun tq kq => XS.icmpNo X9.here hx rfl (hb hby d1_58) rfl (tlt (by decide)).2.1 kq) ?_
          show G T9 (mkF m 61 #[.val (.ref p0), .val (.int (1 : Int32)), .val (.ref b9), .val (.int (0 : Int32)), .val (.ref p0), .val (.int (4 : Int32)), .val (.int (1 : Int32)), .val (.int (f 0))] [])
          refine hp (fun tq kq => XS.aload X9.here hx rfl (hb hby d1_61) rfl rfl kq) ?_
          show G T9 (mkF m 63 #[.val (.ref p0), .val (.int (1 : Int32)), .val (.ref b9), .val (.int (0 : Int32)), .val (.ref p0), .val (.int (4 : Int32)), .val (.int (1 : Int32)), .val (.int (f 0))] [(.ref p0)])
          refine hp (fun tq kq => XS.iload X9.here hx rfl (hb hby d1_63) rfl kq) ?_
          show G T9 (mkF m 65 #[.val (.ref p0), .val (.int (1 : Int32)), .val (.ref b9), .val (.int (0 : Int32)), .val (.ref p0), .val (.int (4 : Int32)), .val (.int (1 : Int32)), .val (.int (f 0))] [(.int (1 : Int32)), (.ref p0)])
          refine hp (own_ldI X9 hx hZ e9 V9_p0 (j := (1 : Int32)) 1 (by decide) (by decide) (by decide) (g := (mkF m 65 #[.val (.ref p0), .val (.int (1 : Int32)), .val (.ref b9), .val (.int (0 : Int32)), .val (.ref p0), .val (.int (4 : Int32)), .val (.int (1 : Int32)), .val (.int (f 0))] [(.int (1 : Int32)), (.ref p0)])) rfl rfl (hb hby d1_65)) ?_
          show G T9 (mkF m 66 #[.val (.ref p0), .val (.int (1 : Int32)), .val (.ref b9), .val (.int (0 : Int32)), .val (.ref p0), .val (.int (4 : Int32)), .val (.int (1 : Int32)), .val (.int (f 0))] [(.int (f 1))])
          refine hp (fun tq kq => XS.istore X9.here hx rfl (hb hby d1_66) rfl (l' := #[.val (.ref p0), .val (.int (1 : Int32)), .val (.ref b9), .val (.int (0 : Int32)), .val (.ref p0), .val (.int (4 : Int32)), .val (.int (1 : Int32)), .val (.int (f 1))]) rfl kq) ?_
          show G T9 (mkF m 68 #[.val (.ref p0), .val (.int (1 : Int32)), .val (.ref b9), .val (.int (0 : Int32)), .val (.ref p0), .val (.int (4 : Int32)), .val (.int (1 : Int32)), .val (.int (f 1))] [])
          refine hp (fun tq kq => XS.iload X9.here hx rfl (hb hby d1_68) rfl kq) ?_
          show G T9 (mkF m 70 #[.val (.ref p0), .val (.int (1 : Int32)), .val (.ref b9), .val (.int (0 : Int32)), .val (.ref p0), .val (.int (4 : Int32)), .val (.int (1 : Int32)), .val (.int (f 1))] [(.int (f 1))])
          refine hp (fun tq kq => XS.iconst X9.here hx rfl (hb hby d1_70) kq) ?_
          show G T9 (mkF m 71 #[.val (.ref p0), .val (.int (1 : Int32)), .val (.ref b9), .val (.int (0 : Int32)), .val (.ref p0), .val (.int (4 : Int32)), .val (.int (1 : Int32)), .val (.int (f 1))] [(.int (-1 : Int32)), (.int (f 1))])
          refine hp (fun tq kq => XS.icmpYes X9.here hx rfl (pc0 := 71) (pc' := 82) rfl (hb hby d1_71) rfl (teq hb2).1 (by decide) (by decide) kq) ?_
          show G T9 (mkF m 82 #[.val (.ref p0), .val (.int (1 : Int32)), .val (.ref b9), .val (.int (0 : Int32)), .val (.ref p0), .val (.int (4 : Int32)), .val (.int (1 : Int32)), .val (.int (f 1))] [])
          refine hp (fun tq kq => XS.iinc X9.here hx rfl (hb hby d1_82) rfl (l' := #[.val (.ref p0), .val (.int (1 : Int32)), .val (.ref b9), .val (.int (0 : Int32)), .val (.ref p0), .val (.int (4 : Int32)), .val (.int (2 : Int32)), .val (.int (f 1))]) rfl kq) ?_
          show G T9 (mkF m 85 #[.val (.ref p0), .val (.int (1 : Int32)), .val (.ref b9), .val (.int (0 : Int32)), .val (.ref p0), .val (.int (4 : Int32)), .val (.int (2 : Int32)), .val (.int (f 1))] [])
          refine hp (fun tq kq => XS.goto X9.here hx rfl (pc0 := 85) (pc' := 54) rfl (hb hby d1_85) (by decide) (by decide) kq) ?_
          show G T9 (mkF m 54 #[.val (.ref p0), .val (.int (1 : Int32)), .val (.ref b9), .val (.int (0 : Int32)), .val (.ref p0), .val (.int (4 : Int32)), .val (.int (2 : Int32)), .val (.int (f 1))] [])
          refine hp (fun tq kq => XS.iload X9.here hx rfl (hb hby d1_54) rfl kq) ?_
          show G T9 (mkF m 56 #[.val (.ref p0), .val (.int (1 : Int32)), .val (.ref b9), .val (.int (0 : Int32)), .val (.ref p0), .val (.int (4 : Int32)), .val (.int (2 : Int32)), .val (.int (f 1))] [(.int (2 : Int32))])
          refine hp (fun tq kq => XS.iload X9.here hx rfl (hb hby d1_56) rfl kq) ?_
          show G T9 (mkF m 58 #[.val (.ref p0), .val (.int (1 : Int32)), .val (.ref b9), .val (.int (0 : Int32)), .val (.ref p0), .val (.int (4 : Int32)), .val (.int (2 : Int32)), .val (.int (f 1))] [(.int (4 : Int32)), (.int (2 : Int32))])
          refine hp (fun tq kq => XS.icmpNo X9.here hx rfl (hb hby d1_58) rfl (tlt (by decide)).2.1 kq) ?_
          show G T9 (mkF m 61 #[.val (.ref p0), .val (.int (1 : Int32)), .val (.ref b9), .val (.int (0 : Int32)), .val (.ref p0), .val (.int (4 : Int32)), .val (.int (2 : Int32)), .val (.int (f 1))] [])
          refine hp (fun tq kq => XS.aload X9.here hx rfl (hb hby d1_61) rfl rfl kq) ?_
          show G T9 (mkF m 63 #[.val (.ref p0), .val (.int (1 : Int32)), .val (.ref b9), .val (.int (0 : Int32)), .val (.ref p0), .val (.int (4 : Int32)), .val (.int (2 : Int32)), .val (.int (f 1))] [(.ref p0)])
          refine hp (fun tq kq => XS.iload X9.here hx rfl (hb hby d1_63) rfl kq) ?_
          show G T9 (mkF m 65 #[.val (.ref p0), .val (.int (1 : Int32)), .val (.ref b9), .val (.int (0 : Int32)), .val (.ref p0), .val (.int (4 : Int32)), .val (.int (2 : Int32)), .val (.int (f 1))] [(.int (2 : Int32)), (.ref p0)])
          refine hp (own_ldI X9 hx hZ e9 V9_p0 (j := (2 : Int32)) 2 (by decide) (by decide) (by decide) (g := (mkF m 65 #[.val (.ref p0), .val (.int (1 : Int32)), .val (.ref b9), .val (.int (0 : Int32)), .val (.ref p0), .val (.int (4 : Int32)), .val (.int (2 : Int32)), .val (.int (f 1))] [(.int (2 : Int32)), (.ref p0)])) rfl rfl (hb hby d1_65)) ?_
          show G T9 (mkF m 66 #[.val (.ref p0), .val (.int (1 : Int32)), .val (.ref b9), .val (.int (0 : Int32)), .val (.ref p0), .val (.int (4 : Int32)), .val (.int (2 : Int32)), .val (.int (f 1))] [(.int (f 2))])
          refine hp (fun tq kq => XS.istore X9.here hx rfl (hb hby d1_66) rfl (l' := #[.val (.ref p0), .val (.int (1 : Int32)), .val (.ref b9), .val (.int (0 : Int32)), .val (.ref p0), .val (.int (4 : Int32)), .val (.int (2 : Int32)), .val (.int (f 2))]) rfl kq) ?_
          show G T9 (mkF m 68 #[.val (.ref p0), .val (.int (1 : Int32)), .val (.ref b9), .val (.int (0 : Int32)), .val (.ref p0), .val (.int (4 : Int32)), .val (.int (2 : Int32)), .val (.int (f 2))] [])
          refine hp (fun tq kq => XS.iload X9.here hx rfl (hb hby d1_68) rfl kq) ?_
          show G T9 (mkF m 70 #[.val (.ref p0), .val (.int (1 : Int32)), .val (.ref b9), .val (.int (0 : Int32)), .val (.ref p0), .val (.int (4 : Int32)), .val (.int (2 : Int32)), .val (.int (f 2))] [(.int (f 2))])
          refine hp (fun tq kq => XS.iconst X9.here hx rfl (hb hby d1_70) kq) ?_
          show G T9 (mkF m 71 #[.val (.ref p0), .val (.int (1 : Int32)), .val (.ref b9), .val (.int (0 : Int32)), .val (.ref p0), .val (.int (4 : Int32)), .val (.int (2 : Int32)), .val (.int (f 2))] [(.int (-1 : Int32)), (.int (f 2))])
          refine hp (fun tq kq => XS.icmpNo X9.here hx rfl (hb hby d1_71) rfl (feq hb3).1 kq) ?_
          show G T9 (mkF m 74 #[.val (.ref p0), .val (.int (1 : Int32)), .val (.ref b9), .val (.int (0 : Int32)), .val (.ref p0), .val (.int (4 : Int32)), .val (.int (2 : Int32)), .val (.int (f 2))] [])
          refine hp (fun tq kq => XS.aloadN X9.here hx rfl (hb hby d1_74) rfl rfl kq) ?_
          show G T9 (mkF m 75 #[.val (.ref p0), .val (.int (1 : Int32)), .val (.ref b9), .val (.int (0 : Int32)), .val (.ref p0), .val (.int (4 : Int32)), .val (.int (2 : Int32)), .val (.int (f 2))] [(.ref b9)])
          refine hp (fun tq kq => XS.iloadN X9.here hx rfl (hb hby d1_75) rfl kq) ?_
          show G T9 (mkF m 76 #[.val (.ref p0), .val (.int (1 : Int32)), .val (.ref b9), .val (.int (0 : Int32)), .val (.ref p0), .val (.int (4 : Int32)), .val (.int (2 : Int32)), .val (.int (f 2))] [(.int (0 : Int32)), (.ref b9)])
          refine hp (fun tq kq => XS.iload X9.here hx rfl (hb hby d1_76) rfl kq) ?_
          show G T9 (mkF m 78 #[.val (.ref p0), .val (.int (1 : Int32)), .val (.ref b9), .val (.int (0 : Int32)), .val (.ref p0), .val (.int (4 : Int32)), .val (.int (2 : Int32)), .val (.int (f 2))] [(.int (f 2)), (.int (0 : Int32)), (.ref b9)])
          obtain ⟨T10, h10, X10, e10, W10, V10_b9, st10⟩ := own_stI X9 hx hZ e9 V9_b9 (j := (0 : Int32)) 0 (by decide) (by decide) (by decide) (g := (mkF m 78 #[.val (.ref p0), .val (.int (1 : Int32)), .val (.ref b9), .val (.int (0 : Int32)), .val (.ref p0), .val (.int (4 : Int32)), .val (.int (2 : Int32)), .val (.int (f 2))] [(.int (f 2)), (.int (0 : Int32)), (.ref b9)])) rfl rfl (hb hby d1_78)
          have V10_p0 := V9_p0.other W10 ne9_p0
          have K10 := K9.wr W10 (Or.inr sz_b9)
          have N10 := Fr.snoc X10 N0 g_b9
          refine hp st10 ?_
          show G T10 (mkF m 79 #[.val (.ref p0), .val (.int (1 : Int32)), .val (.ref b9), .val (.int (0 : Int32)), .val (.ref p0), .val (.int (4 : Int32)), .val (.int (2 : Int32)), .val (.int (f 2))] [])
          refine hp (fun tq kq => XS.iinc X10.here hx rfl (hb hby d1_79) rfl (l' := #[.val (.ref p0), .val (.int (1 : Int32)), .val (.ref b9), .val (.int (1 : Int32)), .val (.ref p0), .val (.int (4 : Int32)), .val (.int (2 : Int32)), .val (.int (f 2))]) rfl kq) ?_
          show G T10 (mkF m 82 #[.val (.ref p0), .val (.int (1 : Int32)), .val (.ref b9), .val (.int (1 : Int32)), .val (.ref p0), .val (.int (4 : Int32)), .val (.int (2 : Int32)), .val (.int (f 2))] [])
          refine hp (fun tq kq => XS.iinc X10.here hx rfl (hb hby d1_82) rfl (l' := #[.val (.ref p0), .val (.int (1 : Int32)), .val (.ref b9), .val (.int (1 : Int32)), .val (.ref p0), .val (.int (4 : Int32)), .val (.int (3 : Int32)), .val (.int (f 2))]) rfl kq) ?_
          show G T10 (mkF m 85 #[.val (.ref p0), .val (.int (1 : Int32)), .val (.ref b9), .val (.int (1 : Int32)), .val (.ref p0), .val (.int (4 : Int32)), .val (.int (3 : Int32)), .val (.int (f 2))] [])
          refine hp (fun tq kq => XS.goto X10.here hx rfl (pc0 := 85) (pc' := 54) rfl (hb hby d1_85) (by decide) (by decide) kq) ?_
          show G T10 (mkF m 54 #[.val (.ref p0), .val (.int (1 : Int32)), .val (.ref b9), .val (.int (1 : Int32)), .val (.ref p0), .val (.int (4 : Int32)), .val (.int (3 : Int32)), .val (.int (f 2))] [])
          refine hp (fun tq kq => XS.iload X10.here hx rfl (hb hby d1_54) rfl kq) ?_
          show G T10 (mkF m 56 #[.val (.ref p0), .val (.int (1 : Int32)), .val (.ref b9), .val (.int (1 : Int32)), .val (.ref p0), .val (.int (4 : Int32)), .val (.int (3 : Int32)), .val (.int (f 2))] [(.int (3 : Int32))])
          refine hp (fun tq kq => XS.iload X10.here hx rfl (hb hby d1_56) rfl kq) ?_
          show G T10 (mkF m 58 #[.val (.ref p0), .val (.int (1 : Int32)), .val (.ref b9), .val (.int (1 : Int32)), .val (.ref p0), .val (.int (4 : Int32)), .val (.int (3 : Int32)), .val (.int (f 2))] [(.int (4 : Int32)), (.int (3 : Int32))])
          refine hp (fun tq kq => XS.icmpNo X10.here hx rfl (hb hby d1_58) rfl (tlt (by decide)).2.1 kq) ?_
          show G T10 (mkF m 61 #[.val (.ref p0), .val (.int (1 : Int32)), .val (.ref b9), .val (.int (1 : Int32)), .val (.ref p0), .val (.int (4 : Int32)), .val (.int (3 : Int32)), .val (.int (f 2))] [])
          refine hp (fun tq kq => XS.aload X10.here hx rfl (hb hby d1_61) rfl rfl kq) ?_
          show G T10 (mkF m 63 #[.val (.ref p0), .val (.int (1 : Int32)), .val (.ref b9), .val (.int (1 : Int32)), .val (.ref p0), .val (.int (4 : Int32)), .val (.int (3 : Int32)), .val (.int (f 2))] [(.ref p0)])
          refine hp (fun tq kq => XS.iload X10.here hx rfl (hb hby d1_63) rfl kq) ?_
          show G T10 (mkF m 65 #[.val (.ref p0), .val (.int (1 : Int32)), .val (.ref b9), .val (.int (1 : Int32)), .val (.ref p0), .val (.int (4 : Int32)), .val (.int (3 : Int32)), .val (.int (f 2))] [(.int (3 : Int32)), (.ref p0)])
          refine hp (own_ldI X10 hx hZ e10 V10_p0 (j := (3 : Int32)) 3 (by decide) (by decide) (by decide) (g := (mkF m 65 #[.val (.ref p0), .val (.int (1 : Int32)), .val (.ref b9), .val (.int (1 : Int32)), .val (.ref p0), .val (.int (4 : Int32)), .val (.int (3 : Int32)), .val (.int (f 2))] [(.int (3 : Int32)), (.ref p0)])) rfl rfl (hb hby d1_65)) ?_
          show G T10 (mkF m 66 #[.val (.ref p0), .val (.int (1 : Int32)), .val (.ref b9), .val (.int (1 : Int32)), .val (.ref p0), .val (.int (4 : Int32)), .val (.int (3 : Int32)), .val (.int (f 2))] [(.int (f 3))])
          refine hp (fun tq kq => XS.istore X10.here hx rfl (hb hby d1_66) rfl (l' := #[.val (.ref p0), .val (.int (1 : Int32)), .val (.ref b9), .val (.int (1 : Int32)), .val (.ref p0), .val (.int (4 : Int32)), .val (.int (3 : Int32)), .val (.int (f 3))]) rfl kq) ?_
          show G T10 (mkF m 68 #[.val (.ref p0), .val (.int (1 : Int32)), .val (.ref b9), .val (.int (1 : Int32)), .val (.ref p0), .val (.int (4 : Int32)), .val (.int (3 : Int32)), .val (.int (f 3))] [])
          refine hp (fun tq kq => XS.iload X10.here hx rfl (hb hby d1_68) rfl kq) ?_
          show G T10 (mkF m 70 #[.val (.ref p0), .val (.int (1 : Int32)), .val (.ref b9), .val (.int (1 : Int32)), .val (.ref p0), .val (.int (4 : Int32)), .val (.int (3 : Int32)), .val (.int (f 3))] [(.int (f 3))])
          refine hp (fun tq kq => XS.iconst X10.here hx rfl (hb hby d1_70) kq) ?_
          show G T10 (mkF m 71 #[.val (.ref p0), .val (.int (1 : Int32)), .val (.ref b9), .val (.int (1 : Int32)), .val (.ref p0), .val (.int (4 : Int32)), .val (.int (3 : Int32)), .val (.int (f 3))] [(.int (-1 : Int32)), (.int (f 3))])
          refine hp (fun tq kq => XS.icmpYes X10.here hx rfl (pc0 := 71) (pc' := 82) rfl (hb hby d1_71) rfl (teq hb8).1 (by decide) (by decide) kq) ?_
          show G T10 (mkF m 82 #[.val (.ref p0), .val (.int (1 : Int32)), .val (.ref b9), .val (.int (1 : Int32)), .val (.ref p0), .val (.int (4 : Int32)), .val (.int (3 : Int32)), .val (.int (f 3))] [])
          refine hp (fun tq kq => XS.iinc X10.here hx rfl (hb hby d1_82) rfl (l' := #[.val (.ref p0), .val (.int (1 : Int32)), .val (.ref b9), .val (.int (1 : Int32)), .val (.ref p0), .val (.int (4 : Int32)), .val (.int (4 : Int32)), .val (.int (f 3))]) rfl kq) ?_
          show G T10 (mkF m 85 #[.val (.ref p0), .val (.int (1 : Int32)), .val (.ref b9), .val (.int (1 : Int32)), .val (.ref p0), .val (.int (4 : Int32)), .val (.int (4 : Int32)), .val (.int (f 3))] [])
          refine hp (fun tq kq => XS.goto X10.here hx rfl (pc0 := 85) (pc' := 54) rfl (hb hby d1_85) (by decide) (by decide) kq) ?_
          show G T10 (mkF m 54 #[.val (.ref p0), .val (.int (1 : Int32)), .val (.ref b9), .val (.int (1 : Int32)), .val (.ref p0), .val (.int (4 : Int32)), .val (.int (4 : Int32)), .val (.int (f 3))] [])
          refine hp (fun tq kq => XS.iload X10.here hx rfl (hb hby d1_54) rfl kq) ?_
          show G T10 (mkF m 56 #[.val (.ref p0), .val (.int (1 : Int32)), .val (.ref b9), .val (.int (1 : Int32)), .val (.ref p0), .val (.int (4 : Int32)), .val (.int (4 : Int32)), .val (.int (f 3))] [(.int (4 : Int32))])
          refine hp (fun tq kq => XS.iload X10.here hx rfl (hb hby d1_56) rfl kq) ?_
          show G T10 (mkF m 58 #[.val (.ref p0), .val (.int (1 : Int32)), .val (.ref b9), .val (.int (1 : Int32)), .val (.ref p0), .val (.int (4 : Int32)), .val (.int (4 : Int32)), .val (.int (f 3))] [(.int (4 : Int32)), (.int (4 : Int32))])
          refine hp (fun tq kq => XS.icmpYes X10.here hx rfl (pc0 := 58) (pc' := 88) rfl (hb hby d1_58) rfl (flt (by decide)).2.1 (by decide) (by decide) kq) ?_
          show G T10 (mkF m 88 #[.val (.ref p0), .val (.int (1 : Int32)), .val (.ref b9), .val (.int (1 : Int32)), .val (.ref p0), .val (.int (4 : Int32)), .val (.int (4 : Int32)), .val (.int (f 3))] [])
          refine hp (fun tq kq => XS.aloadN X10.here hx rfl (hb hby d1_88) rfl rfl kq) ?_
          show G T10 (mkF m 89 #[.val (.ref p0), .val (.int (1 : Int32)), .val (.ref b9), .val (.int (1 : Int32)), .val (.ref p0), .val (.int (4 : Int32)), .val (.int (4 : Int32)), .val (.int (f 3))] [(.ref b9)])
          exact hR X10 (fun fs hl => own_retA X10 hx hret rfl (hb hby d1_89) hl) (fun q => by rw [hret] at q; cases q) (by rw [e10]; exact ⟨b9, 1, (own_up (fun _ => (0 : Int32)) 0 (f 2)), rfl, N10, K10, sz_b9, V10_b9, own_seld (l := [(f 2)]) (own_sel_of (a := []) (b := []) (c := [f 2]) (d := []) (if_pos hb1) (if_pos hb2) (if_neg hb3) (if_pos hb8)) rfl (own_pick1 rfl rfl)⟩) (by decide) (by decide)
        · refine hp (fun tq kq => XS.icmpNo X0.here hx rfl (hb hby d1_25) rfl (feq hb8).1 kq) ?_
          show G s₁ (mkF m 28 #[.val (.ref p0), .val (.int (1 : Int32)), .val (.ref p0), .val (.int (4 : Int32)), .val (.int (3 : Int32)), .val (.int (f 3)), .unset, .unset] [])
          refine hp (fun tq kq => XS.iinc X0.here hx rfl (hb hby d1_28) rfl (l' := #[.val (.ref p0), .val (.int (2 : Int32)), .val (.ref p0), .val (.int (4 : Int32)), .val (.int (3 : Int32)), .val (.int (f 3)), .unset, .unset]) rfl kq) ?_
          show G s₁ (mkF m 31 #[.val (.ref p0), .val (.int (2 : Int32)), .val (.ref p0), .val (.int (4 : Int32)), .val (.int (3 : Int32)), .val (.int (f 3)), .unset, .unset] [])
          refine hp (fun tq kq => XS.iinc X0.here hx rfl (hb hby d1_31) rfl (l' := #[.val (.ref p0), .val (.int (2 : Int32)), .val (.ref p0), .val (.int (4 : Int32)), .val (.int (4 : Int32)), .val (.int (f 3)), .unset, .unset]) rfl kq) ?_
          show G s₁ (mkF m 34 #[.val (.ref p0), .val (.int (2 : Int32)), .val (.ref p0), .val (.int (4 : Int32)), .val (.int (4 : Int32)), .val (.int (f 3)), .unset, .unset] [])
          refine hp (fun tq kq => XS.goto X0.here hx rfl (pc0 := 34) (pc' := 10) rfl (hb hby d1_34) (by decide) (by decide) kq) ?_
          show G s₁ (mkF m 10 #[.val (.ref p0), .val (.int (2 : Int32)), .val (.ref p0), .val (.int (4 : Int32)), .val (.int (4 : Int32)), .val (.int (f 3)), .unset, .unset] [])
          refine hp (fun tq kq => XS.iload X0.here hx rfl (hb hby d1_10) rfl kq) ?_
          show G s₁ (mkF m 12 #[.val (.ref p0), .val (.int (2 : Int32)), .val (.ref p0), .val (.int (4 : Int32)), .val (.int (4 : Int32)), .val (.int (f 3)), .unset, .unset] [(.int (4 : Int32))])
          refine hp (fun tq kq => XS.iloadN X0.here hx rfl (hb hby d1_12) rfl kq) ?_
          show G s₁ (mkF m 13 #[.val (.ref p0), .val (.int (2 : Int32)), .val (.ref p0), .val (.int (4 : Int32)), .val (.int (4 : Int32)), .val (.int (f 3)), .unset, .unset] [(.int (4 : Int32)), (.int (4 : Int32))])
          refine hp (fun tq kq => XS.icmpYes X0.here hx rfl (pc0 := 13) (pc' := 37) rfl (hb hby d1_13) rfl (flt (by decide)).2.1 (by decide) (by decide) kq) ?_
          show G s₁ (mkF m 37 #[.val (.ref p0), .val (.int (2 : Int32)), .val (.ref p0), .val (.int (4 : Int32)), .val (.int (4 : Int32)), .val (.int (f 3)), .unset, .unset] [])
          refine hp (fun tq kq => XS.iloadN X0.here hx rfl (hb hby d1_37) rfl kq) ?_
          show G s₁ (mkF m 38 #[.val (.ref p0), .val (.int (2 : Int32)), .val (.ref p0), .val (.int (4 : Int32)), .val (.int (4 : Int32)), .val (.int (f 3)), .unset, .unset] [(.int (2 : Int32))])
          obtain ⟨T11, h11, k11, X11, e11, E11, A11, st11⟩ := newP X0 hx hZ (hw _ (List.mem_of_getElem? (i := 1) rfl)) e0 (g := (mkF m 38 #[.val (.ref p0), .val (.int (2 : Int32)), .val (.ref p0), .val (.int (4 : Int32)), .val (.int (4 : Int32)), .val (.int (f 3)), .unset, .unset] [(.int (2 : Int32))])) rfl (hb hby d1_38) rfl (by decide) (cap := 2) (by decide) (by decide) (by decide) (by decide)
          obtain ⟨b11, g11⟩ : ∃ z, z = h0.size := ⟨_, rfl⟩
          rw [← g11] at A11 st11
          have ne11_p0 : p0 ≠ b11 := Nat.ne_of_lt (Nat.lt_of_lt_of_le V_p0.lt (Nat.le_of_eq g11.symm))
          have sz_b11 : h0.size ≤ b11 := Nat.le_trans K0.1 (Nat.le_of_eq g11.symm)
          have g_b11 : n0 ≤ b11 := Nat.le_trans Z0 sz_b11
          have V11_p0 := V_p0.ext E11
          have K11 := K0.ext E11
          have V11_b11 : own_AI Z h11 b11 .int 2 (fun _ => 0) := own_AI.new A11 (by decide) rfl 2 (by decide)
          refine hp st11 ?_
          show G T11 (mkF m 40 #[.val (.ref p0), .val (.int (2 : Int32)), .val (.ref p0), .val (.int (4 : Int32)), .val (.int (4 : Int32)), .val (.int (f 3)), .unset, .unset] [(.ref b11)])
          refine hp (fun tq kq => XS.astoreN X11.here hx rfl (hb hby d1_40) rfl rfl (l' := #[.val (.ref p0), .val (.int (2 : Int32)), .val (.ref b11), .val (.int (4 : Int32)), .val (.int (4 : Int32)), .val (.int (f 3)), .unset, .unset]) rfl kq) ?_
          show G T11 (mkF m 41 #[.val (.ref p0), .val (.int (2 : Int32)), .val (.ref b11), .val (.int (4 : Int32)), .val (.int (4 : Int32)), .val (.int (f 3)), .unset, .unset] [])
          refine hp (fun tq kq => XS.iconst X11.here hx rfl (hb hby d1_41) kq) ?_
          show G T11 (mkF m 42 #[.val (.ref p0), .val (.int (2 : Int32)), .val (.ref b11), .val (.int (4 : Int32)), .val (.int (4 : Int32)), .val (.int (f 3)), .unset, .unset] [(.int (0 : Int32))])
          refine hp (fun tq kq => XS.istoreN X11.here hx rfl (hb hby d1_42) rfl (l' := #[.val (.ref p0), .val (.int (2 : Int32)), .val (.ref b11), .val (.int (0 : Int32)), .val (.int (4 : Int32)), .val (.int (f 3)), .unset, .unset]) rfl kq) ?_
          show G T11 (mkF m 43 #[.val (.ref p0), .val (.int (2 : Int32)), .val (.ref b11), .val (.int (0 : Int32)), .val (.int (4 : Int32)), .val (.int (f 3)), .unset, .unset] [])
          refine hp (fun tq kq => XS.aloadN X11.here hx rfl (hb hby d1_43) rfl rfl kq) ?_
          show G T11 (mkF m 44 #[.val (.ref p0), .val (.int (2 : Int32)), .val (.ref b11), .val (.int (0 : Int32)), .val (.int (4 : Int32)), .val (.int (f 3)), .unset, .unset] [(.ref p0)])
          refine hp (fun tq kq => XS.astore X11.here hx rfl (hb hby d1_44) rfl rfl (l' := #[.val (.ref p0), .val (.int (2 : Int32)), .val (.ref b11), .val (.int (0 : Int32)), .val (.ref p0), .val (.int (f 3)), .unset, .unset]) rfl kq) ?_
          show G T11 (mkF m 46 #[.val (.ref p0), .val (.int (2 : Int32)), .val (.ref b11), .val (.int (0 : Int32)), .val (.ref p0), .val (.int (f 3)), .unset, .unset] [])
          refine hp (fun tq kq => XS.aload X11.here hx rfl (hb hby d1_46) rfl rfl kq) ?_
          show G T11 (mkF m 48 #[.val (.ref p0), .val (.int (2 : Int32)), .val (.ref b11), .val (.int (0 : Int32)), .val (.ref p0), .val (.int (f 3)), .unset, .unset] [(.ref p0)])
          refine hp (own_lenI X11 hx hZ e11 V11_p0 (4 : Int32) rfl (g := (mkF m 48 #[.val (.ref p0), .val (.int (2 : Int32)), .val (.ref b11), .val (.int (0 : Int32)), .val (.ref p0), .val (.int (f 3)), .unset, .unset] [(.ref p0)])) rfl rfl (hb hby d1_48)) ?_
          show G T11 (mkF m 49 #[.val (.ref p0), .val (.int (2 : Int32)), .val (.ref b11), .val (.int (0 : Int32)), .val (.ref p0), .val (.int (f 3)), .unset, .unset] [(.int (4 : Int32))])
          refine hp (fun tq kq => XS.istore X11.here hx rfl (hb hby d1_49) rfl (l' := #[.val (.ref p0), .val (.int (2 : Int32)), .val (.ref b11), .val (.int (0 : Int32)), .val (.ref p0), .val (.int (4 : Int32)), .unset, .unset]) rfl kq) ?_
          show G T11 (mkF m 51 #[.val (.ref p0), .val (.int (2 : Int32)), .val (.ref b11), .val (.int (0 : Int32)), .val (.ref p0), .val (.int (4 : Int32)), .unset, .unset] [])
          refine hp (fun tq kq => XS.iconst X11.here hx rfl (hb hby d1_51) kq) ?_
          show G T11 (mkF m 52 #[.val (.ref p0), .val (.int (2 : Int32)), .val (.ref b11), .val (.int (0 : Int32)), .val (.ref p0), .val (.int (4 : Int32)), .unset, .unset] [(.int (0 : Int32))])
          refine hp (fun tq kq => XS.istore X11.here hx rfl (hb hby d1_52) rfl (l' := #[.val (.ref p0), .val (.int (2 : Int32)), .val (.ref b11), .val (.int (0 : Int32)), .val (.ref p0), .val (.int (4 : Int32)), .val (.int (0 : Int32)), .unset]) rfl kq) ?_
          show G T11 (mkF m 54 #[.val (.ref p0), .val (.int (2 : Int32)), .val (.ref b11), .val (.int (0 : Int32)), .val (.ref p0), .val (.int (4 : Int32)), .val (.int (0 : Int32)), .unset] [])
          refine hp (fun tq kq => XS.iload X11.here hx rfl (hb hby d1_54) rfl kq) ?_
          show G T11 (mkF m 56 #[.val (.ref p0), .val (.int (2 : Int32)), .val (.ref b11), .val (.int (0 : Int32)), .val (.ref p0), .val (.int (4 : Int32)), .val (.int (0 : Int32)), .unset] [(.int (0 : Int32))])
          refine hp (fun tq kq => XS.iload X11.here hx rfl (hb hby d1_56) rfl kq) ?_
          show G T11 (mkF m 58 #[.val (.ref p0), .val (.int (2 : Int32)), .val (.ref b11), .val (.int (0 : Int32)), .val (.ref p0), .val (.int (4 : Int32)), .val (.int (0 : Int32)), .unset] [(.int (4 : Int32)), (.int (0 : Int32))])
          refine hp (fun tq kq => XS.icmpNo X11.here hx rfl (hb hby d1_58) rfl (tlt (by decide)).2.1 kq) ?_
          show G T11 (mkF m 61 #[.val (.ref p0), .val (.int (2 : Int32)), .val (.ref b11), .val (.int (0 : Int32)), .val (.ref p0), .val (.int (4 : Int32)), .val (.int (0 : Int32)), .unset] [])
          refine hp (fun tq kq => XS.aload X11.here hx rfl (hb hby d1_61) rfl rfl kq) ?_
          show G T11 (mkF m 63 #[.val (.ref p0), .val (.int (2 : Int32)), .val (.ref b11), .val (.int (0 : Int32)), .val (.ref p0), .val (.int (4 : Int32)), .val (.int (0 : Int32)), .unset] [(.ref p0)])
          refine hp (fun tq kq => XS.iload X11.here hx rfl (hb hby d1_63) rfl kq) ?_
          show G T11 (mkF m 65 #[.val (.ref p0), .val (.int (2 : Int32)), .val (.ref b11), .val (.int (0 : Int32)), .val (.ref p0), .val (.int (4 : Int32)), .val (.int (0 : Int32)), .unset] [(.int (0 : Int32)), (.ref p0)])
          refine hp (own_ldI X11 hx hZ e11 V11_p0 (j := (0 : Int32)) 0 (by decide) (by decide) (by decide) (g := (mkF m 65 #[.val (.ref p0), .val (.int (2 : Int32)), .val (.ref b11), .val (.int (0 : Int32)), .val (.ref p0), .val (.int (4 : Int32)), .val (.int (0 : Int32)), .unset] [(.int (0 : Int32)), (.ref p0)])) rfl rfl (hb hby d1_65)) ?_
          show G T11 (mkF m 66 #[.val (.ref p0), .val (.int (2 : Int32)), .val (.ref b11), .val (.int (0 : Int32)), .val (.ref p0), .val (.int (4 : Int32)), .val (.int (0 : Int32)), .unset] [(.int (f 0))])
          refine hp (fun tq kq => XS.istore X11.here hx rfl (hb hby d1_66) rfl (l' := #[.val (.ref p0), .val (.int (2 : Int32)), .val (.ref b11), .val (.int (0 : Int32)), .val (.ref p0), .val (.int (4 : Int32)), .val (.int (0 : Int32)), .val (.int (f 0))]) rfl kq) ?_
          show G T11 (mkF m 68 #[.val (.ref p0), .val (.int (2 : Int32)), .val (.ref b11), .val (.int (0 : Int32)), .val (.ref p0), .val (.int (4 : Int32)), .val (.int (0 : Int32)), .val (.int (f 0))] [])
          refine hp (fun tq kq => XS.iload X11.here hx rfl (hb hby d1_68) rfl kq) ?_
          show G T11 (mkF m 70 #[.val (.ref p0), .val (.int (2 : Int32)), .val (.ref b11), .val (.int (0 : Int32)), .val (.ref p0), .val (.int (4 : Int32)), .val (.int (0 : Int32)), .val (.int (f 0))] [(.int (f 0))])
          refine hp (fun tq kq => XS.iconst X11.here hx rfl (hb hby d1_70) kq) ?_
          show G T11 (mkF m 71 #[.val (.ref p0), .val (.int (2 : Int32)), .val (.ref b11), .val (.int (0 : Int32)), .val (.ref p0), .val (.int (4 : Int32)), .val (.int (0 : Int32)), .val (.int (f 0))] [(.int (-1 : Int32)), (.int (f 0))])
          refine hp (fun tq kq => XS.icmpYes X11.here hx rfl (pc0 := 71) (pc' := 82) rfl (hb hby d1_71) rfl (teq hb1).1 (by decide) (by decide) kq) ?_
          show G T11 (mkF m 82 #[.val (.ref p0), .val (.int (2 : Int32)), .val (.ref b11), .val (.int (0 : Int32)), .val (.ref p0), .val (.int (4 : Int32)), .val (.int (0 : Int32)), .val (.int (f 0))] [])
          refine hp (fun tq kq => XS.iinc X11.here hx rfl (hb hby d1_82) rfl (l' := #[.val (.ref p0), .val (.int (2 : Int32)), .val (.ref b11), .val (.int (0 : Int32)), .val (.ref p0), .val (.int (4 : Int32)), .val (.int (1 : Int32)), .val (.int (f 0))]) rfl kq) ?_
          show G T11 (mkF m 85 #[.val (.ref p0), .val (.int (2 : Int32)), .val (.ref b11), .val (.int (0 : Int32)), .val (.ref p0), .val (.int (4 : Int32)), .val (.int (1 : Int32)), .val (.int (f 0))] [])
          refine hp (fun tq kq => XS.goto X11.here hx rfl (pc0 := 85) (pc' := 54) rfl (hb hby d1_85) (by decide) (by decide) kq) ?_
          show G T11 (mkF m 54 #[.val (.ref p0), .val (.int (2 : Int32)), .val (.ref b11), .val (.int (0 : Int32)), .val (.ref p0), .val (.int (4 : Int32)), .val (.int (1 : Int32)), .val (.int (f 0))] [])
          refine hp (fun tq kq => XS.iload X11.here hx rfl (hb hby d1_54) rfl kq) ?_
          show G T11 (mkF m 56 #[.val (.ref p0), .val (.int (2 : Int32)), .val (.ref b11), .val (.int (0 : Int32)), .val (.ref p0), .val (.int (4 : Int32)), .val (.int (1 : Int32)), .val (.int (f 0))] [(.int (1 : Int32))])
          refine hp (fun tq kq => XS.iload X11.here hx rfl (hb hby d1_56) rfl kq) ?_
          show G T11 (mkF m 58 #[.val (.ref p0), .val (.int (2 : Int32)), .val (.ref b11), .val (.int (0 : Int32)), .val (.ref p0), .val (.int (4 : Int32)), .val (.int (1 : Int32)), .val (.int (f 0))] [(.int (4 : Int32)), (.int (1 : Int32))])
          refine hp (fun tq kq => XS.icmpNo X11.here hx rfl (hb hby d1_58) rfl (tlt (by decide)).2.1 kq) ?_
          show G T11 (mkF m 61 #[.val (.ref p0), .val (.int (2 : Int32)), .val (.ref b11), .val (.int (0 : Int32)), .val (.ref p0), .val (.int (4 : Int32)), .val (.int (1 : Int32)), .val (.int (f 0))] [])
          refine hp (fun tq kq => XS.aload X11.here hx rfl (hb hby d1_61) rfl rfl kq) ?_
          show G T11 (mkF m 63 #[.val (.ref p0), .val (.int (2 : Int32)), .val (.ref b11), .val (.int (0 : Int32)), .val (.ref p0), .val (.int (4 : Int32)), .val (.int (1 : Int32)), .val (.int (f 0))] [(.ref p0)])
          refine hp (fun tq kq => XS.iload X11.here hx rfl (hb hby d1_63) rfl kq) ?_
          show G T11 (mkF m 65 #[.val (.ref p0), .val (.int (2 : Int32)), .val (.ref b11), .val (.int (0 : Int32)), .val (.ref p0), .val (.int (4 : Int32)), .val (.int (1 : Int32)), .val (.int (f 0))] [(.int (1 : Int32)), (.ref p0)])
          refine hp (own_ldI X11 hx hZ e11 V11_p0 (j := (1 : Int32)) 1 (by decide) (by decide) (by decide) (g := (mkF m 65 #[.val (.ref p0), .val (.int (2 : Int32)), .val (.ref b11), .val (.int (0 : Int32)), .val (.ref p0), .val (.int (4 : Int32)), .val (.int (1 : Int32)), .val (.int (f 0))] [(.int (1 : Int32)), (.ref p0)])) rfl rfl (hb hby d1_65)) ?_
          show G T11 (mkF m 66 #[.val (.ref p0), .val (.int (2 : Int32)), .val (.ref b11), .val (.int (0 : Int32)), .val (.ref p0), .val (.int (4 : Int32)), .val (.int (1 : Int32)), .val (.int (f 0))] [(.int (f 1))])
          refine hp (fun tq kq => XS.istore X11.here hx rfl (hb hby d1_66) rfl (l' := #[.val (.ref p0), .val (.int (2 : Int32)), .val (.ref b11), .val (.int (0 : Int32)), .val (.ref p0), .val (.int (4 : Int32)), .val (.int (1 : Int32)), .val (.int (f 1))]) rfl kq) ?_
          show G T11 (mkF m 68 #[.val (.ref p0), .val (.int (2 : Int32)), .val (.ref b11), .val (.int (0 : Int32)), .val (.ref p0), .val (.int (4 : Int32)), .val (.int (1 : Int32)), .val (.int (f 1))] [])
          refine hp (fun tq kq => XS.iload X11.here hx rfl (hb hby d1_68) rfl kq) ?_
          show G T11 (mkF m 70 #[.val (.ref p0), .val (.int (2 : Int32)), .val (.ref b11), .val (.int (0 : Int32)), .val (.ref p0), .val (.int (4 : Int32)), .val (.int (1 : Int32)), .val (.int (f 1))] [(.int (f 1))])
          refine hp (fun tq kq => XS.iconst X11.here hx rfl (hb hby d1_70) kq) ?_
          show G T11 (mkF m 71 #[.val (.ref p0), .val (.int (2 : Int32)), .val (.ref b11), .val (.int (0 : Int32)), .val (.ref p0), .val (.int (4 : Int32)), .val (.int (1 : Int32)), .val (.int (f 1))] [(.int (-1 : Int32)), (.int (f 1))])
          refine hp (fun tq kq => XS.icmpYes X11.here hx rfl (pc0 := 71) (pc' := 82) rfl (hb hby d1_71) rfl (teq hb2).1 (by decide) (by decide) kq) ?_
          show G T11 (mkF m 82 #[.val (.ref p0), .val (.int (2 : Int32)), .val (.ref b11), .val (.int (0 : Int32)), .val (.ref p0), .val (.int (4 : Int32)), .val (.int (1 : Int32)), .val (.int (f 1))] [])
          refine hp (fun tq kq => XS.iinc X11.here hx rfl (hb hby d1_82) rfl (l' := #[.val (.ref p0), .val (.int (2 : Int32)), .val (.ref b11), .val (.int (0 : Int32)), .val (.ref p0), .val (.int (4 : Int32)), .val (.int (2 : Int32)), .val (.int (f 1))]) rfl kq) ?_
          show G T11 (mkF m 85 #[.val (.ref p0), .val (.int (2 : Int32)), .val (.ref b11), .val (.int (0 : Int32)), .val (.ref p0), .val (.int (4 : Int32)), .val (.int (2 : Int32)), .val (.int (f 1))] [])
          refine hp (fun tq kq => XS.goto X11.here hx rfl (pc0 := 85) (pc' := 54) rfl (hb hby d1_85) (by decide) (by decide) kq) ?_
          show G T11 (mkF m 54 #[.val (.ref p0), .val (.int (2 : Int32)), .val (.ref b11), .val (.int (0 : Int32)), .val (.ref p0), .val (.int (4 : Int32)), .val (.int (2 : Int32)), .val (.int (f 1))] [])
          refine hp (fun tq kq => XS.iload X11.here hx rfl (hb hby d1_54) rfl kq) ?_
          show G T11 (mkF m 56 #[.val (.ref p0), .val (.int (2 : Int32)), .val (.ref b11), .val (.int (0 : Int32)), .val (.ref p0), .val (.int (4 : Int32)), .val (.int (2 : Int32)), .val (.int (f 1))] [(.int (2 : Int32))])
          refine hp (fun tq kq => XS.iload X11.here hx rfl (hb hby d1_56) rfl kq) ?_
          show G T11 (mkF m 58 #[.val (.ref p0), .val (.int (2 : Int32)), .val (.ref b11), .val (.int (0 : Int32)), .val (.ref p0), .val (.int (4 : Int32)), .val (.int (2 : Int32)), .val (.int (f 1))] [(.int (4 : Int32)), (.int (2 : Int32))])
          refine hp (fun tq kq => XS.icmpNo X11.here hx rfl (hb hby d1_58) rfl (tlt (by decide)).2.1 kq) ?_
          show G T11 (mkF m 61 #[.val (.ref p0), .val (.int (2 : Int32)), .val (.ref b11), .val (.int (0 : Int32)), .val (.ref p0), .val (.int (4 : Int32)), .val (.int (2 : Int32)), .val (.int (f 1))] [])
          refine hp (fun tq kq => XS.aload X11.here hx rfl (hb hby d1_61) rfl rfl kq) ?_
          show G T11 (mkF m 63 #[.val (.ref p0), .val (.int (2 : Int32)), .val (.ref b11), .val (.int (0 : Int32)), .val (.ref p0), .val (.int (4 : Int32)), .val (.int (2 : Int32)), .val (.int (f 1))] [(.ref p0)])
          refine hp (fun tq kq => XS.iload X11.here hx rfl (hb hby d1_63) rfl kq) ?_
          show G T11 (mkF m 65 #[.val (.ref p0), .val (.int (2 : Int32)), .val (.ref b11), .val (.int (0 : Int32)), .val (.ref p0), .val (.int (4 : Int32)), .val (.int (2 : Int32)), .val (.int (f 1))] [(.int (2 : Int32)), (.ref p0)])
          refine hp (own_ldI X11 hx hZ e11 V11_p0 (j := (2 : Int32)) 2 (by decide) (by decide) (by decide) (g := (mkF m 65 #[.val (.ref p0), .val (.int (2 : Int32)), .val (.ref b11), .val (.int (0 : Int32)), .val (.ref p0), .val (.int (4 : Int32)), .val (.int (2 : Int32)), .val (.int (f 1))] [(.int (2 : Int32)), (.ref p0)])) rfl rfl (hb hby d1_65)) ?_
          show G T11 (mkF m 66 #[.val (.ref p0), .val (.int (2 : Int32)), .val (.ref b11), .val (.int (0 : Int32)), .val (.ref p0), .val (.int (4 : Int32)), .val (.int (2 : Int32)), .val (.int (f 1))] [(.int (f 2))])
          refine hp (fun tq kq => XS.istore X11.here hx rfl (hb hby d1_66) rfl (l' := #[.val (.ref p0), .val (.int (2 : Int32)), .val (.ref b11), .val (.int (0 : Int32)), .val (.ref p0), .val (.int (4 : Int32)), .val (.int (2 : Int32)), .val (.int (f 2))]) rfl kq) ?_
          show G T11 (mkF m 68 #[.val (.ref p0), .val (.int (2 : Int32)), .val (.ref b11), .val (.int (0 : Int32)), .val (.ref p0), .val (.int (4 : Int32)), .val (.int (2 : Int32)), .val (.int (f 2))] [])
          refine hp (fun tq kq => XS.iload X11.here hx rfl (hb hby d1_68) rfl kq) ?_
          show G T11 (mkF m 70 #[.val (.ref p0), .val (.int (2 : Int32)), .val (.ref b11), .val (.int (0 : Int32)), .val (.ref p0), .val (.int (4 : Int32)), .val (.int (2 : Int32)), .val (.int (f 2))] [(.int (f 2))])
          refine hp (fun tq kq => XS.iconst X11.here hx rfl (hb hby d1_70) kq) ?_
          show G T11 (mkF m 71 #[.val (.ref p0), .val (.int (2 : Int32)), .val (.ref b11), .val (.int (0 : Int32)), .val (.ref p0), .val (.int (4 : Int32)), .val (.int (2 : Int32)), .val (.int (f 2))] [(.int (-1 : Int32)), (.int (f 2))])
          refine hp (fun tq kq => XS.icmpNo X11.here hx rfl (hb hby d1_71) rfl (feq hb3).1 kq) ?_
          show G T11 (mkF m 74 #[.val (.ref p0), .val (.int (2 : Int32)), .val (.ref b11), .val (.int (0 : Int32)), .val (.ref p0), .val (.int (4 : Int32)), .val (.int (2 : Int32)), .val (.int (f 2))] [])
          refine hp (fun tq kq => XS.aloadN X11.here hx rfl (hb hby d1_74) rfl rfl kq) ?_
          show G T11 (mkF m 75 #[.val (.ref p0), .val (.int (2 : Int32)), .val (.ref b11), .val (.int (0 : Int32)), .val (.ref p0), .val (.int (4 : Int32)), .val (.int (2 : Int32)), .val (.int (f 2))] [(.ref b11)])
          refine hp (fun tq kq => XS.iloadN X11.here hx rfl (hb hby d1_75) rfl kq) ?_
          show G T11 (mkF m 76 #[.val (.ref p0), .val (.int (2 : Int32)), .val (.ref b11), .val (.int (0 : Int32)), .val (.ref p0), .val (.int (4 : Int32)), .val (.int (2 : Int32)), .val (.int (f 2))] [(.int (0 : Int32)), (.ref b11)])
          refine hp (fun tq kq => XS.iload X11.here hx rfl (hb hby d1_76) rfl kq) ?_
          show G T11 (mkF m 78 #[.val (.ref p0), .val (.int (2 : Int32)), .val (.ref b11), .val (.int (0 : Int32)), .val (.ref p0), .val (.int (4 : Int32)), .val (.int (2 : Int32)), .val (.int (f 2))] [(.int (f 2)), (.int (0 : Int32)), (.ref b11)])
          obtain ⟨T12, h12, X12, e12, W12, V12_b11, st12⟩ := own_stI X11 hx hZ e11 V11_b11 (j := (0 : Int32)) 0 (by decide) (by decide) (by decide) (g := (mkF m 78 #[.val (.ref p0), .val (.int (2 : Int32)), .val (.ref b11), .val (.int (0 : Int32)), .val (.ref p0), .val (.int (4 : Int32)), .val (.int (2 : Int32)), .val (.int (f 2))] [(.int (f 2)), (.int (0 : Int32)), (.ref b11)])) rfl rfl (hb hby d1_78)
          have V12_p0 := V11_p0.other W12 ne11_p0
          have K12 := K11.wr W12 (Or.inr sz_b11)
          have N12 := Fr.snoc X12 N0 g_b11
          refine hp st12 ?_
          show G T12 (mkF m 79 #[.val (.ref p0), .val (.int (2 : Int32)), .val (.ref b11), .val (.int (0 : Int32)), .val (.ref p0), .val (.int (4 : Int32)), .val (.int (2 : Int32)), .val (.int (f 2))] [])
          refine hp (fun tq kq => XS.iinc X12.here hx rfl (hb hby d1_79) rfl (l' := #[.val (.ref p0), .val (.int (2 : Int32)), .val (.ref b11), .val (.int (1 : Int32)), .val (.ref p0), .val (.int (4 : Int32)), .val (.int (2 : Int32)), .val (.int (f 2))]) rfl kq) ?_
          show G T12 (mkF m 82 #[.val (.ref p0), .val (.int (2 : Int32)), .val (.ref b11), .val (.int (1 : Int32)), .val (.ref p0), .val (.int (4 : Int32)), .val (.int (2 : Int32)), .val (.int (f 2))] [])
          refine hp (fun tq kq => XS.iinc X12.here hx rfl (hb hby d1_82) rfl (l' := #[.val (.ref p0), .val (.int (2 : Int32)), .val (.ref b11), .val (.int (1 : Int32)), .val (.ref p0), .val (.int (4 : Int32)), .val (.int (3 : Int32)), .val (.int (f 2))]) rfl kq) ?_
          show G T12 (mkF m 85 #[.val (.ref p0), .val (.int (2 : Int32)), .val (.ref b11), .val (.int (1 : Int32)), .val (.ref p0), .val (.int (4 : Int32)), .val (.int (3 : Int32)), .val (.int (f 2))] [])
          refine hp (fun tq kq => XS.goto X12.here hx rfl (pc0 := 85) (pc' := 54) rfl (hb hby d1_85) (by decide) (by decide) kq) ?_
          show G T12 (mkF m 54 #[.val (.ref p0), .val (.int (2 : Int32)), .val (.ref b11), .val (.int (1 : Int32)), .val (.ref p0), .val (.int (4 : Int32)), .val (.int (3 : Int32)), .val (.int (f 2))] [])
          refine hp (fun tq kq => XS.iload X12.here hx rfl (hb hby d1_54) rfl kq) ?_
          show G T12 (mkF m 56 #[.val (.ref p0), .val (.int (2 : Int32)), .val (.ref b11), .val (.int (1 : Int32)), .val (.ref p0), .val (.int (4 : Int32)), .val (.int (3 : Int32)), .val (.int (f 2))] [(.int (3 : Int32))])
          refine hp (fun tq kq => XS.iload X12.here hx rfl (hb hby d1_56) rfl kq) ?_
          show G T12 (mkF m 58 #[.val (.ref p0), .val (.int (2 : Int32)), .val (.ref b11), .val (.int (1 : Int32)), .val (.ref p0), .val (.int (4 : Int32)), .val (.int (3 : Int32)), .val (.int (f 2))] [(.int (4 : Int32)), (.int (3 : Int32))])
          refine hp (fun tq kq => XS.icmpNo X12.here hx rfl (hb hby d1_58) rfl (tlt (by decide)).2.1 kq) ?_
          show G T12 (mkF m 61 #[.val (.ref p0), .val (.int (2 : Int32)), .val (.ref b11), .val (.int (1 : Int32)), .val (.ref p0), .val (.int (4 : Int32)), .val (.int (3 : Int32)), .val (.int (f 2))] [])
          refine hp (fun tq kq => XS.aload X12.here hx rfl (hb hby d1_61) rfl rfl kq) ?_
          show G T12 (mkF m 63 #[.val (.ref p0), .val (.int (2 : Int32)), .val (.ref b11), .val (.int (1 : Int32)), .val (.ref p0), .val (.int (4 : Int32)), .val (.int (3 : Int32)), .val (.int (f 2))] [(.ref p0)])
          refine hp (fun tq kq => XS.iload X12.here hx rfl (hb hby d1_63) rfl kq) ?_
          show G T12 (mkF m 65 #[.val (.ref p0), .val (.int (2 : Int32)), .val (.ref b11), .val (.int (1 : Int32)), .val (.ref p0), .val (.int (4 : Int32)), .val (.int (3 : Int32)), .val (.int (f 2))] [(.int (3 : Int32)), (.ref p0)])
          refine hp (own_ldI X12 hx hZ e12 V12_p0 (j := (3 : Int32)) 3 (by decide) (by decide) (by decide) (g := (mkF m 65 #[.val (.ref p0), .val (.int (2 : Int32)), .val (.ref b11), .val (.int (1 : Int32)), .val (.ref p0), .val (.int (4 : Int32)), .val (.int (3 : Int32)), .val (.int (f 2))] [(.int (3 : Int32)), (.ref p0)])) rfl rfl (hb hby d1_65)) ?_
          show G T12 (mkF m 66 #[.val (.ref p0), .val (.int (2 : Int32)), .val (.ref b11), .val (.int (1 : Int32)), .val (.ref p0), .val (.int (4 : Int32)), .val (.int (3 : Int32)), .val (.int (f 2))] [(.int (f 3))])
          refine hp (fun tq kq => XS.istore X12.here hx rfl (hb hby d1_66) rfl (l' := #[.val (.ref p0), .val (.int (2 : Int32)), .val (.ref b11), .val (.int (1 : Int32)), .val (.ref p0), .val (.int (4 : Int32)), .val (.int (3 : Int32)), .val (.int (f 3))]) rfl kq) ?_
          show G T12 (mkF m 68 #[.val (.ref p0), .val (.int (2 : Int32)), .val (.ref b11), .val (.int (1 : Int32)), .val (.ref p0), .val (.int (4 : Int32)), .val (.int (3 : Int32)), .val (.int (f 3))] [])
          refine hp (fun tq kq => XS.iload X12.here hx rfl (hb hby d1_68) rfl kq) ?_
          show G T12 (mkF m 70 #[.val (.ref p0), .val (.int (2 : Int32)), .val (.ref b11), .val (.int (1 : Int32)), .val (.ref p0), .val (.int (4 : Int32)), .val (.int (3 : Int32)), .val (.int (f 3))] [(.int (f 3))])
          refine hp (fun tq kq => XS.iconst X12.here hx rfl (hb hby d1_70) kq) ?_
          show G T12 (mkF m 71 #[.val (.ref p0), .val (.int (2 : Int32)), .val (.ref b11), .val (.int (1 : Int32)), .val (.ref p0), .val (.int (4 : Int32)), .val (.int (3 : Int32)), .val (.int (f 3))] [(.int (-1 : Int32)), (.int (f 3))])
          refine hp (fun tq kq => XS.icmpNo X12.here hx rfl (hb hby d1_71) rfl (feq hb8).1 kq) ?_
          show G T12 (mkF m 74 #[.val (.ref p0), .val (.int (2 : Int32)), .val (.ref b11), .val (.int (1 : Int32)), .val (.ref p0), .val (.int (4 : Int32)), .val (.int (3 : Int32)), .val (.int (f 3))] [])
          refine hp (fun tq kq => XS.aloadN X12.here hx rfl (hb hby d1_74) rfl rfl kq) ?_
          show G T12 (mkF m 75 #[.val (.ref p0), .val (.int (2 : Int32)), .val (.ref b11), .val (.int (1 : Int32)), .val (.ref p0), .val (.int (4 : Int32)), .val (.int (3 : Int32)), .val (.int (f 3))] [(.ref b11)])
          refine hp (fun tq kq => XS.iloadN X12.here hx rfl (hb hby d1_75) rfl kq) ?_
          show G T12 (mkF m 76 #[.val (.ref p0), .val (.int (2 : Int32)), .val (.ref b11), .val (.int (1 : Int32)), .val (.ref p0), .val (.int (4 : Int32)), .val (.int (3 : Int32)), .val (.int (f 3))] [(.int (1 : Int32)), (.ref b11)])
          refine hp (fun tq kq => XS.iload X12.here hx rfl (hb hby d1_76) rfl kq) ?_
          show G T12 (mkF m 78 #[.val (.ref p0), .val (.int (2 : Int32)), .val (.ref b11), .val (.int (1 : Int32)), .val (.ref p0), .val (.int (4 : Int32)), .val (.int (3 : Int32)), .val (.int (f 3))] [(.int (f 3)), (.int (1 : Int32)), (.ref b11)])
          obtain ⟨T13, h13, X13, e13, W13, V13_b11, st13⟩ := own_stI X12 hx hZ e12 V12_b11 (j := (1 : Int32)) 1 (by decide) (by decide) (by decide) (g := (mkF m 78 #[.val (.ref p0), .val (.int (2 : Int32)), .val (.ref b11), .val (.int (1 : Int32)), .val (.ref p0), .val (.int (4 : Int32)), .val (.int (3 : Int32)), .val (.int (f 3))] [(.int (f 3)), (.int (1 : Int32)), (.ref b11)])) rfl rfl (hb hby d1_78)
          have V13_p0 := V12_p0.other W13 ne11_p0
          have K13 := K12.wr W13 (Or.inr sz_b11)
          have N13 := Fr.snoc X13 N12 g_b11
          refine hp st13 ?_
          show G T13 (mkF m 79 #[.val (.ref p0), .val (.int (2 : Int32)), .val (.ref b11), .val (.int (1 : Int32)), .val (.ref p0), .val (.int (4 : Int32)), .val (.int (3 : Int32)), .val (.int (f 3))] [])
          refine hp (fun tq kq => XS.iinc X13.here hx rfl (hb hby d1_79) rfl (l' := #[.val (.ref p0), .val (.int (2 : Int32)), .val (.ref b11), .val (.int (2 : Int32)), .val (.ref p0), .val (.int (4 : Int32)), .val (.int (3 : Int32)), .val (.int (f 3))]) rfl kq) ?_
          show G T13 (mkF m 82 #[.val (.ref p0), .val (.int (2 : Int32)), .val (.ref b11), .val (.int (2 : Int32)), .val (.ref p0), .val (.int (4 : Int32)), .val (.int (3 : Int32)), .val (.int (f 3))] [])
          refine hp (fun tq kq => XS.iinc X13.here hx rfl (hb hby d1_82) rfl (l' := #[.val (.ref p0), .val (.int (2 : Int32)), .val (.ref b11), .val (.int (2 : Int32)), .val (.ref p0), .val (.int (4 : Int32)), .val (.int (4 : Int32)), .val (.int (f 3))]) rfl kq) ?_
          show G T13 (mkF m 85 #[.val (.ref p0), .val (.int (2 : Int32)), .val (.ref b11), .val (.int (2 : Int32)), .val (.ref p0), .val (.int (4 : Int32)), .val (.int (4 : Int32)), .val (.int (f 3))] [])
          refine hp (fun tq kq => XS.goto X13.here hx rfl (pc0 := 85) (pc' := 54) rfl (hb hby d1_85) (by decide) (by decide) kq) ?_
          show G T13 (mkF m 54 #[.val (.ref p0), .val (.int (2 : Int32)), .val (.ref b11), .val (.int (2 : Int32)), .val (.ref p0), .val (.int (4 : Int32)), .val (.int (4 : Int32)), .val (.int (f 3))] [])
          refine hp (fun tq kq => XS.iload X13.here hx rfl (hb hby d1_54) rfl kq) ?_
          show G T13 (mkF m 56 #[.val (.ref p0), .val (.int (2 : Int32)), .val (.ref b11), .val (.int (2 : Int32)), .val (.ref p0), .val (.int (4 : Int32)), .val (.int (4 : Int32)), .val (.int (f 3))] [(.int (4 : Int32))])
          refine hp (fun tq kq => XS.iload X13.here hx rfl (hb hby d1_56) rfl kq) ?_
          show G T13 (mkF m 58 #[.val (.ref p0), .val (.int (2 : Int32)), .val (.ref b11), .val (.int (2 : Int32)), .val (.ref p0), .val (.int (4 : Int32)), .val (.int (4 : Int32)), .val (.int (f 3))] [(.int (4 : Int32)), (.int (4 : Int32))])
          refine hp (fun tq kq => XS.icmpYes X13.here hx rfl (pc0 := 58) (pc' := 88) rfl (hb hby d1_58) rfl (flt (by decide)).2.1 (by decide) (by decide) kq) ?_
          show G T13 (mkF m 88 #[.val (.ref p0), .val (.int (2 : Int32)), .val (.ref b11), .val (.int (2 : Int32)), .val (.ref p0), .val (.int (4 : Int32)), .val (.int (4 : Int32)), .val (.int (f 3))] [])
          refine hp (fun tq kq => XS.aloadN X13.here hx rfl (hb hby d1_88) rfl rfl kq) ?_
          show G T13 (mkF m 89 #[.val (.ref p0), .val (.int (2 : Int32)), .val (.ref b11), .val (.int (2 : Int32)), .val (.ref p0), .val (.int (4 : Int32)), .val (.int (4 : Int32)), .val (.int (f 3))] [(.ref b11)])
          exact hR X13 (fun fs hl => own_retA X13 hx hret rfl (hb hby d1_89) hl) (fun q => by rw [hret] at q; cases q) (by rw [e13]; exact ⟨b11, 2, (own_up (own_up (fun _ => (0 : Int32)) 0 (f 2)) 1 (f 3)), rfl, N13, K13, sz_b11, V13_b11, own_seld (l := [(f 2), (f 3)]) (own_sel_of (a := []) (b := []) (c := [f 2]) (d := [f 3]) (if_pos hb1) (if_pos hb2) (if_neg hb3) (if_neg hb8)) rfl (own_pick2 rfl rfl rfl)⟩) (by decide) (by decide)
    · refine hp (fun tq kq => XS.icmpNo X0.here hx rfl (hb hby d1_25) rfl (feq hb2).1 kq) ?_
      show G s₁ (mkF m 28 #[.val (.ref p0), .val (.int (0 : Int32)), .val (.ref p0), .val (.int (4 : Int32)), .val (.int (1 : Int32)), .val (.int (f 1)), .unset, .unset] [])
      refine hp (fun tq kq => XS.iinc X0.here hx rfl (hb hby d1_28) rfl (l' := #[.val (.ref p0), .val (.int (1 : Int32)), .val (.ref p0), .val (.int (4 : Int32)), .val (.int (1 : Int32)), .val (.int (f 1)), .unset, .unset]) rfl kq) ?_
      show G s₁ (mkF m 31 #[.val (.ref p0), .val (.int (1 : Int32)), .val (.ref p0), .val (.int (4 : Int32)), .val (.int (1 : Int32)), .val (.int (f 1)), .unset, .unset] [])
      refine hp (fun tq kq => XS.iinc X0.here hx rfl (hb hby d1_31) rfl (l' := #[.val (.ref p0), .val (.int (1 : Int32)), .val (.ref p0), .val (.int (4 : Int32)), .val (.int (2 : Int32)), .val (.int (f 1)), .unset, .unset]) rfl kq) ?_
      show G s₁ (mkF m 34 #[.val (.ref p0), .val (.int (1 : Int32)), .val (.ref p0), .val (.int (4 : Int32)), .val (.int (2 : Int32)), .val (.int (f 1)), .unset, .unset] [])
      refine hp (fun tq kq => XS.goto X0.here hx rfl (pc0 := 34) (pc' := 10) rfl (hb hby d1_34) (by decide) (by decide) kq) ?_
      show G s₁ (mkF m 10 #[.val (.ref p0), .val (.int (1 : Int32)), .val (.ref p0), .val (.int (4 : Int32)), .val (.int (2 : Int32)), .val (.int (f 1)), .unset, .unset] [])
      refine hp (fun tq kq => XS.iload X0.here hx rfl (hb hby d1_10) rfl kq) ?_
      show G s₁ (mkF m 12 #[.val (.ref p0), .val (.int (1 : Int32)), .val (.ref p0), .val (.int (4 : Int32)), .val (.int (2 : Int32)), .val (.int (f 1)), .unset, .unset] [(.int (2 : Int32))])
      refine hp (fun tq kq => XS.iloadN X0.here hx rfl (hb hby d1_12) rfl kq) ?_
      show G s₁ (mkF m 13 #[.val (.ref p0), .val (.int (1 : Int32)), .val (.ref p0), .val (.int (4 : Int32)), .val (.int (2 : Int32)), .val (.int (f 1)), .unset, .unset] [(.int (4 : Int32)), (.int (2 : Int32))])
      refine hp (fun tq kq => XS.icmpNo X0.here hx rfl (hb hby d1_13) rfl (tlt (by decide)).2.1 kq) ?_
      show G s₁ (mkF m 16 #[.val (.ref p0), .val (.int (1 : Int32)), .val (.ref p0), .val (.int (4 : Int32)), .val (.int (2 : Int32)), .val (.int (f 1)), .unset, .unset] [])
      refine hp (fun tq kq => XS.aloadN X0.here hx rfl (hb hby d1_16) rfl rfl kq) ?_
      show G s₁ (mkF m 17 #[.val (.ref p0), .val (.int (1 : Int32)), .val (.ref p0), .val (.int (4 : Int32)), .val (.int (2 : Int32)), .val (.int (f 1)), .unset, .unset] [(.ref p0)])
      refine hp (fun tq kq => XS.iload X0.here hx rfl (hb hby d1_17) rfl kq) ?_
      show G s₁ (mkF m 19 #[.val (.ref p0), .val (.int (1 : Int32)), .val (.ref p0), .val (.int (4 : Int32)), .val (.int (2 : Int32)), .val (.int (f 1)), .unset, .unset] [(.int (2 : Int32)), (.ref p0)])
      refine hp (own_ldI X0 hx hZ e0 V_p0 (j := (2 : Int32)) 2 (by decide) (by decide) (by decide) (g := (mkF m 19 #[.val (.ref p0), .val (.int (1 : Int32)), .val (.ref p0), .val (.int (4 : Int32)), .val (.int (2 : Int32)), .val (.int (f 1)), .unset, .unset] [(.int (2 : Int32)), (.ref p0)])) rfl rfl (hb hby d1_19)) ?_
      show G s₁ (mkF m 20 #[.val (.ref p0), .val (.int (1 : Int32)), .val (.ref p0), .val (.int (4 : Int32)), .val (.int (2 : Int32)), .val (.int (f 1)), .unset, .unset] [(.int (f 2))])
      refine hp (fun tq kq => XS.istore X0.here hx rfl (hb hby d1_20) rfl (l' := #[.val (.ref p0), .val (.int (1 : Int32)), .val (.ref p0), .val (.int (4 : Int32)), .val (.int (2 : Int32)), .val (.int (f 2)), .unset, .unset]) rfl kq) ?_
      show G s₁ (mkF m 22 #[.val (.ref p0), .val (.int (1 : Int32)), .val (.ref p0), .val (.int (4 : Int32)), .val (.int (2 : Int32)), .val (.int (f 2)), .unset, .unset] [])
      refine hp (fun tq kq => XS.iload X0.here hx rfl (hb hby d1_22) rfl kq) ?_
      show G s₁ (mkF m 24 #[.val (.ref p0), .val (.int (1 : Int32)), .val (.ref p0), .val (.int (4 : Int32)), .val (.int (2 : Int32)), .val (.int (f 2)), .unset, .unset] [(.int (f 2))])
      refine hp (fun tq kq => XS.iconst X0.here hx rfl (hb hby d1_24) kq) ?_
      show G s₁ (mkF m 25 #[.val (.ref p0), .val (.int (1 : Int32)), .val (.ref p0), .val (.int (4 : Int32)), .val (.int (2 : Int32)), .val (.int (f 2)), .unset, .unset] [(.int (-1 : Int32)), (.int (f 2))])
      by_cases hb14 : (f 2) = (-1 : Int32)
      · refine hp (fun tq kq => XS.icmpYes X0.here hx rfl (pc0 := 25) (pc' := 31) rfl (hb hby d1_25) rfl (teq hb14).1 (by decide) (by decide) kq) ?_
        show G s₁ (mkF m 31 #[.val (.ref p0), .val (.int (1 : Int32)), .val (.ref p0), .val (.int (4 : Int32)), .val (.int (2 : Int32)), .val (.int (f 2)), .unset, .unset] [])
        refine hp (fun tq kq => XS.iinc X0.here hx rfl (hb hby d1_31) rfl (l' := #[.val (.ref p0), .val (.int (1 : Int32)), .val (.ref p0), .val (.int (4 : Int32)), .val (.int (3 : Int32)), .val (.int (f 2)), .unset, .unset]) rfl kq) ?_
        show G s₁ (mkF m 34 #[.val (.ref p0), .val (.int (1 : Int32)), .val (.ref p0), .val (.int (4 : Int32)), .val (.int (3 : Int32)), .val (.int (f 2)), .unset, .unset] [])
        refine hp (fun tq kq => XS.goto X0.here hx rfl (pc0 := 34) (pc' := 10) rfl (hb hby d1_34) (by decide) (by decide) kq) ?_
        show G s₁ (mkF m 10 #[.val (.ref p0), .val (.int (1 : Int32)), .val (.ref p0), .val (.int (4 : Int32)), .val (.int (3 : Int32)), .val (.int (f 2)), .unset, .unset] [])
        refine hp (fun tq kq => XS.iload X0.here hx rfl (hb hby d1_10) rfl kq) ?_
        show G s₁ (mkF m 12 #[.val (.ref p0), .val (.int (1 : Int32)), .val (.ref p0), .val (.int (4 : Int32)), .val (.int (3 : Int32)), .val (.int (f 2)), .unset, .unset] [(.int (3 : Int32))])
        refine hp (fun tq kq => XS.iloadN X0.here hx rfl (hb hby d1_12) rfl kq) ?_
        show G s₁ (mkF m 13 #[.val (.ref p0), .val (.int (1 : Int32)), .val (.ref p0), .val (.int (4 : Int32)), .val (.int (3 : Int32)), .val (.int (f 2)), .unset, .unset] [(.int (4 : Int32)), (.int (3 : Int32))])
        refine hp (fun tq kq => XS.icmpNo X0.here hx rfl (hb hby d1_13) rfl (tlt (by decide)).2.1 kq) ?_
        show G s₁ (mkF m 16 #[.val (.ref p0), .val (.int (1 : Int32)), .val (.ref p0), .val (.int (4 : Int32)), .val (.int (3 : Int32)), .val (.int (f 2)), .unset, .unset] [])
        refine hp (fun tq kq => XS.aloadN X0.here hx rfl (hb hby d1_16) rfl rfl kq) ?_
        show G s₁ (mkF m 17 #[.val (.ref p0), .val (.int (1 : Int32)), .val (.ref p0), .val (.int (4 : Int32)), .val (.int (3 : Int32)), .val (.int (f 2)), .unset, .unset] [(.ref p0)])
        refine hp (fun tq kq => XS.iload X0.here hx rfl (hb hby d1_17) rfl kq) ?_
        show G s₁ (mkF m 19 #[.val (.ref p0), .val (.int (1 : Int32)), .val (.ref p0), .val (.int (4 : Int32)), .val (.int (3 : Int32)), .val (.int (f 2)), .unset, .unset] [(.int (3 : Int32)), (.ref p0)])
        refine hp (own_ldI X0 hx hZ e0 V_p0 (j := (3 : Int32)) 3 (by decide) (by decide) (by decide) (g := (mkF m 19 #[.val (.ref p0), .val (.int (1 : Int32)), .val (.ref p0), .val (.int (4 : Int32)), .val (.int (3 : Int32)), .val (.int (f 2)), .unset, .unset] [(.int (3 : Int32)), (.ref p0)])) rfl rfl (hb hby d1_19)) ?_
        show G s₁ (mkF m 20 #[.val (.ref p0), .val (.int (1 : Int32)), .val (.ref p0), .val (.int (4 : Int32)), .val (.int (3 : Int32)), .val (.int (f 2)), .unset, .unset] [(.int (f 3))])
        refine hp (fun tq kq => XS.istore X0.here hx rfl (hb hby d1_20) rfl (l' := #[.val (.ref p0), .val (.int (1 : Int32)), .val (.ref p0), .val (.int (4 : Int32)), .val (.int (3 : Int32)), .val (.int (f 3)), .unset, .unset]) rfl kq) ?_
        show G s₁ (mkF m 22 #[.val (.ref p0), .val (.int (1 : Int32)), .val (.ref p0), .val (.int (4 : Int32)), .val (.int (3 : Int32)), .val (.int (f 3)), .unset, .unset] [])
        refine hp (fun tq kq => XS.iload X0.here hx rfl (hb hby d1_22) rfl kq) ?_
        show G s₁ (mkF m 24 #[.val (.ref p0), .val (.int (1 : Int32)), .val (.ref p0), .val (.int (4 : Int32)), .val (.int (3 : Int32)), .val (.int (f 3)), .unset, .unset] [(.int (f 3))])
        refine hp (fun tq kq => XS.iconst X0.here hx rfl (hb hby d1_24) kq) ?_
        show G s₁ (mkF m 25 #[.val (.ref p0), .val (.int (1 : Int32)), .val (.ref p0), .val (.int (4 : Int32)), .val (.int (3 : Int32)), .val (.int (f 3)), .unset, .unset] [(.int (-1 : Int32)), (.int (f 3))])
        by_cases hb15 : (f 3) = (-1 : Int32)
        · refine hp (fun tq kq => XS.icmpYes X0.here hx rfl (pc0 := 25) (pc' := 31) rfl (hb hby d1_25) rfl (teq hb15).1 (by decide) (by decide) kq) ?_
          show G s₁ (mkF m 31 #[.val (.ref p0), .val (.int (1 : Int32)), .val (.ref p0), .val (.int (4 : Int32)), .val (.int (3 : Int32)), .val (.int (f 3)), .unset, .unset] [])
          refine hp (fun tq kq => XS.iinc X0.here hx rfl (hb hby d1_31) rfl (l' := #[.val (.ref p0), .val (.int (1 : Int32)), .val (.ref p0), .val (.int (4 : Int32)), .val (.int (4 : Int32)), .val (.int (f 3)), .unset, .unset]) rfl kq) ?_
          show G s₁ (mkF m 34 #[.val (.ref p0), .val (.int (1 : Int32)), .val (.ref p0), .val (.int (4 : Int32)), .val (.int (4 : Int32)), .val (.int (f 3)), .unset, .unset] [])
          refine hp (fun tq kq => XS.goto X0.here hx rfl (pc0 := 34) (pc' := 10) rfl (hb hby d1_34) (by decide) (by decide) kq) ?_
          show G s₁ (mkF m 10 #[.val (.ref p0), .val (.int (1 : Int32)), .val (.ref p0), .val (.int (4 : Int32)), .val (.int (4 : Int32)), .val (.int (f 3)), .unset, .unset] [])
          refine hp (fun tq kq => XS.iload X0.here hx rfl (hb hby d1_10) rfl kq) ?_
          show G s₁ (mkF m 12 #[.val (.ref p0), .val (.int (1 : Int32)), .val (.ref p0), .val (.int (4 : Int32)), .val (.int (4 : Int32)), .val (.int (f 3)), .unset, .unset] [(.int (4 : Int32))])
          refine hp (fun tq kq => XS.iloadN X0.here hx rfl (hb hby d1_12) rfl kq) ?_
          show G s₁ (mkF m 13 #[.val (.ref p0), .val (.int (1 : Int32)), .val (.ref p0), .val (.int (4 : Int32)), .val (.int (4 : Int32)), .val (.int (f 3)), .unset, .unset] [(.int (4 : Int32)), (.int (4 : Int32))])
          refine hp (fun tq kq => XS.icmpYes X0.here hx rfl (pc0 := 13) (pc' := 37) rfl (hb hby d1_13) rfl (flt (by decide)).2.1 (by decide) (by decide) kq) ?_
          show G s₁ (mkF m 37 #[.val (.ref p0), .val (.int (1 : Int32)), .val (.ref p0), .val (.int (4 : Int32)), .val (.int (4 : Int32)), .val (.int (f 3)), .unset, .unset] [])
          refine hp (fun tq kq => XS.iloadN X0.here hx rfl (hb hby d1_37) rfl kq) ?_
          show G s₁ (mkF m 38 #[.val (.ref p0), .val (.int (1 : Int32)), .val (.ref p0), .val (.int (4 : Int32)), .val (.int (4 : Int32)), .val (.int (f 3)), .unset, .unset] [(.int (1 : Int32))])
          obtain ⟨T16, h16, k16, X16, e16, E16, A16, st16⟩ := newP X0 hx hZ (hw _ (List.mem_of_getElem? (i := 1) rfl)) e0 (g := (mkF m 38 #[.val (.ref p0), .val (.int (1 : Int32)), .val (.ref p0), .val (.int (4 : Int32)), .val (.int (4 : Int32)), .val (.int (f 3)), .unset, .unset] [(.int (1 : Int32))])) rfl (hb hby d1_38) rfl (by decide) (cap := 1) (by decide) (by decide) (by decide) (by decide)
          obtain ⟨b16, g16⟩ : ∃ z, z = h0.size := ⟨_, rfl⟩
          rw [← g16] at A16 st16
          have ne16_p0 : p0 ≠ b16 := Nat.ne_of_lt (Nat.lt_of_lt_of_le V_p0.lt (Nat.le_of_eq g16.symm))
          have sz_b16 : h0.size ≤ b16 := Nat.le_trans K0.1 (Nat.le_of_eq g16.symm)
          have g_b16 : n0 ≤ b16 := Nat.le_trans Z0 sz_b16
          have V16_p0 := V_p0.ext E16
          have K16 := K0.ext E16
          have V16_b16 : own_AI Z h16 b16 .int 1 (fun _ => 0) := own_AI.new A16 (by decide) rfl 1 (by decide)
          refine hp st16 ?_
          show G T16 (mkF m 40 #[.val (.ref p0), .val (.int (1 : Int32)), .val (.ref p0), .val (.int (4 : Int32)), .val (.int (4 : Int32)), .val (.int (f 3)), .unset, .unset] [(.ref b16)])
          refine hp (fun tq kq => XS.astoreN X16.here hx rfl (hb hby d1_40) rfl rfl (l' := #[.val (.ref p0), .val (.int (1 : Int32)), .val (.ref b16), .val (.int (4 : Int32)), .val (.int (4 : Int32)), .val (.int (f 3)), .unset, .unset]) rfl kq) ?_
          show G T16 (mkF m 41 #[.val (.ref p0), .val (.int (1 : Int32)), .val (.ref b16), .val (.int (4 : Int32)), .val (.int (4 : Int32)), .val (.int (f 3)), .unset, .unset] [])
          refine hp (fun tq kq => XS.iconst X16.here hx rfl (hb hby d1_41) kq) ?_
          show G T16 (mkF m 42 #[.val (.ref p0), .val (.int (1 : Int32)), .val (.ref b16), .val (.int (4 : Int32)), .val (.int (4 : Int32)), .val (.int (f 3)), .unset, .unset] [(.int (0 : Int32))])
          refine hp (fun tq kq => XS.istoreN X16.here hx rfl (hb hby d1_42) rfl (l' := #[.val (.ref p0), .val (.int (1 : Int32)), .val (.ref b16), .val (.int (0 : Int32)), .val (.int (4 : Int32)), .val (.int (f 3)), .unset, .unset]) rfl kq) ?_
          show G T16 (mkF m 43 #[.val (.ref p0), .val (.int (1 : Int32)), .val (.ref b16), .val (.int (0 : Int32)), .val (.int (4 : Int32)), .val (.int (f 3)), .unset, .unset] [])
          refine hp (fun tq kq => XS.aloadN X16.here hx rfl (hb hby d1_43) rfl rfl kq) ?_
          show G T16 (mkF m 44 #[.val (.ref p0), .val (.int (1 : Int32)), .val (.ref b16), .val (.int (0 : Int32)), .val (.int (4 : Int32)), .val (.int (f 3)), .unset, .unset] [(.ref p0)])
          refine hp (fun tq kq => XS.astore X16.here hx rfl (hb hby d1_44) rfl rfl (l' := #[.val (.ref p0), .val (.int (1 : Int32)), .val (.ref b16), .val (.int (0 : Int32)), .val (.ref p0), .val (.int (f 3)), .unset, .unset]) rfl kq) ?_
          show G T16 (mkF m 46 #[.val (.ref p0), .val (.int (1 : Int32)), .val (.ref b16), .val (.int (0 : Int32)), .val (.ref p0), .val (.int (f 3)), .unset, .unset] [])
          refine hp (fun tq kq => XS.aload X16.here hx rfl (hb hby d1_46) rfl rfl kq) ?_
          show G T16 (mkF m 48 #[.val (.ref p0), .val (.int (1 : Int32)), .val (.ref b16), .val (.int (0 : Int32)), .val (.ref p0), .val (.int (f 3)), .unset, .unset] [(.ref p0)])
          refine hp (own_lenI X16 hx hZ e16 V16_p0 (4 : Int32) rfl (g := (mkF m 48 #[.val (.ref p0), .val (.int (1 : Int32)), .val (.ref b16), .val (.int (0 : Int32)), .val (.ref p0), .val (.int (f 3)), .unset, .unset] [(.ref p0)])) rfl rfl (hb hby d1_48)) ?_
          show G T16 (mkF m 49 #[.val (.ref p0), .val (.int (1 : Int32)), .val (.ref b16), .val (.int (0 : Int32)), .val (.ref p0), .val (.int (f 3)), .unset, .unset] [(.int (4 : Int32))])
          refine hp (fun tq kq => XS.istore X16.here hx rfl (hb hby d1_49) rfl (l' := #[.val (.ref p0), .val (.int (1 : Int32)), .val (.ref b16), .val (.int (0 : Int32)), .val (.ref p0), .val (.int (4 : Int32)), .unset, .unset]) rfl kq) ?_
          show G T16 (mkF m 51 #[.val (.ref p0), .val (.int (1 : Int32)), .val (.ref b16), .val (.int (0 : Int32)), .val (.ref p0), .val (.int (4 : Int32)), .unset, .unset] [])
          refine hp (fun tq kq => XS.iconst X16.here hx rfl (hb hby d1_51) kq) ?_
          show G T16 (mkF m 52 #[.val (.ref p0), .val (.int (1 : Int32)), .val (.ref b16), .val (.int (0 : Int32)), .val (.ref p0), .val (.int (4 : Int32)), .unset, .unset] [(.int (0 : Int32))])
          refine hp (fun tq kq => XS.istore X16.here hx rfl (hb hby d1_52) rfl (l' := #[.val (.ref p0), .val (.int (1 : Int32)), .val (.ref b16), .val (.int (0 : Int32)), .val (.ref p0), .val (.int (4 : Int32)), .val (.int (0 : Int32)), .unset]) rfl kq) ?_
          show G T16 (mkF m 54 #[.val (.ref p0), .val (.int (1 : Int32)), .val (.ref b16), .val (.int (0 : Int32)), .val (.ref p0), .val (.int (4 : Int32)), .val (.int (0 : Int32)), .unset] [])
          refine hp (fun tq kq => XS.iload X16.here hx rfl (hb hby d1_54) rfl kq) ?_
          show G T16 (mkF m 56 #[.val (.ref p0), .val (.int (1 : Int32)), .val (.ref b16), .val (.int (0 : Int32)), .val (.ref p0), .val (.int (4 : Int32)), .val (.int (0 : Int32)), .unset] [(.int (0 : Int32))])
          refine hp (fun tq kq => XS.iload X16.here hx rfl (hb hby d1_56) rfl kq) ?_
          show G T16 (mkF m 58 #[.val (.ref p0), .val (.int (1 : Int32)), .val (.ref b16), .val (.int (0 : Int32)), .val (.ref p0), .val (.int (4 : Int32)), .val (.int (0 : Int32)), .unset] [(.int (4 : Int32)), (.int (0 : Int32))])
          refine hp (fun tq kq => XS.icmpNo X16.here hx rfl (hb hby d1_58) rfl (tlt (by decide)).2.1 kq) ?_
          show G T16 (mkF m 61 #[.val (.ref p0), .val (.int (1 : Int32)), .val (.ref b16), .val (.int (0 : Int32)), .val (.ref p0), .val (.int (4 : Int32)), .val (.int (0 : Int32)), .unset] [])
          refine hp (fun tq kq => XS.aload X16.here hx rfl (hb hby d1_61) rfl rfl kq) ?_
          show G T16 (mkF m 63 #[.val (.ref p0), .val (.int (1 : Int32)), .val (.ref b16), .val (.int (0 : Int32)), .val (.ref p0), .val (.int (4 : Int32)), .val (.int (0 : Int32)), .unset] [(.ref p0)])
          refine hp (fun tq kq => XS.iload X16.here hx rfl (hb hby d1_63) rfl kq) ?_
          show G T16 (mkF m 65 #[.val (.ref p0), .val (.int (1 : Int32)), .val (.ref b16), .val (.int (0 : Int32)), .val (.ref p0), .val (.int (4 : Int32)), .val (.int (0 : Int32)), .unset] [(.int (0 : Int32)), (.ref p0)])
          refine hp (own_ldI X16 hx hZ e16 V16_p0 (j := (0 : Int32)) 0 (by decide) (by decide) (by decide) (g := (mkF m 65 #[.val (.ref p0), .val (.int (1 : Int32)), .val (.ref b16), .val (.int (0 : Int32)), .val (.ref p0), .val (.int (4 : Int32)), .val (.int (0 : Int32)), .unset] [(.int (0 : Int32)), (.ref p0)])) rfl rfl (hb hby d1_65)) ?_
          show G T16 (mkF m 66 #[.val (.ref p0), .val (.int (1 : Int32)), .val (.ref b16), .val (.int (0 : Int32)), .val (.ref p0), .val (.int (4 : Int32)), .val (.int (0 : Int32)), .unset] [(.int (f 0))])
          refine hp (fun tq kq => XS.istore X16.here hx rfl (hb hby d1_66) rfl (l' := #[.val (.ref p0), .val (.int (1 : Int32)), .val (.ref b16), .val (.int (0 : Int32)), .val (.ref p0), .val (.int (4 : Int32)), .val (.int (0 : Int32)), .val (.int (f 0))]) rfl kq) ?_
          show G T16 (mkF m 68 #[.val (.ref p0), .val (.int (1 : Int32)), .val (.ref b16), .val (.int (0 : Int32)), .val (.ref p0), .val (.int (4 : Int32)), .val (.int (0 : Int32)), .val (.int (f 0))] [])
          refine hp (fun tq kq => XS.iload X16.here hx rfl (hb hby d1_68) rfl kq) ?_
          show G T16 (mkF m 70 #[.val (.ref p0), .val (.int (1 : Int32)), .val (.ref b16), .val (.int (0 : Int32)), .val (.ref p0), .val (.int (4 : Int32)), .val (.int (0 : Int32)), .val (.int (f 0))] [(.int (f 0))])
          refine hp (fun tq kq => XS.iconst X16.here hx rfl (hb hby d1_70) kq) ?_
          show G T16 (mkF m 71 #[.val (.ref p0), .val (.int (1 : Int32)), .val (.ref b16), .val (.int (0 : Int32)), .val (.ref p0), .val (.int (4 : Int32)), .val (.int (0 : Int32)), .val (.int (f 0))] [(.int (-1 : Int32)), (.int (f 0))])
          refine hp (fun tq kq => XS.icmpYes X16.here hx rfl (pc0 := 71) (pc' := 82) rfl (hb hby d1_71) rfl (teq hb1).1 (by decide) (by decide) kq) ?_
          show G T16 (mkF m 82 #[.val (.ref p0), .val (.int (1 : Int32)), .val (.ref b16), .val (.int (0 : Int32)), .val (.ref p0), .val (.int (4 : Int32)), .val (.int (0 : Int32)), .val (.int (f 0))] [])
          refine hp (fun tq kq => XS.iinc X16.here hx rfl (hb hby d1_82) rfl (l' := #[.val (.ref p0), .val (.int (1 : Int32)), .val (.ref b16), .val (.int (0 : Int32)), .val (.ref p0), .val (.int (4 : Int32)), .val (.int (1 : Int32)), .val (.int (f 0))]) rfl kq) ?_
          show G T16 (mkF m 85 #[.val (.ref p0), .val (.int (1 : Int32)), .val (.ref b16), .val (.int (0 : Int32)), .val (.ref p0), .val (.int (4 : Int32)), .val (.int (1 : Int32)), .val (.int (f 0))] [])
          refine hp (fun tq kq => XS.goto X16.here hx rfl (pc0 := 85) (pc' := 54) rfl (hb hby d1_85) (by decide) (by decide) kq) ?_
          show G T16 (mkF m 54 #[.val (.ref p0), .val (.int (1 : Int32)), .val (.ref b16), .val (.int (0 : Int32)), .val (.ref p0), .val (.int (4 : Int32)), .val (.int (1 : Int32)), .val (.int (f 0))] [])
          refine hp (fun tq kq => XS.iload X16.here hx rfl (hb hby d1_54) rfl kq) ?_
          show G T16 (mkF m 56 #[.val (.ref p0), .val (.int (1 : Int32)), .val (.ref b16), .val (.int (0 : Int32)), .val (.ref p0), .val (.int (4 : Int32)), .val (.int (1 : Int32)), .val (.int (f 0))] [(.int (1 : Int32))])
          refine hp (fun tq kq => XS.iload X16.here hx rfl (hb hby d1_56) rfl kq) ?_
          show G T16 (mkF m 58 #[.val (.ref p0), .val (.int (1 : Int32)), .val (.ref b16), .val (.int (0 : Int32)), .val (.ref p0), .val (.int (4 : Int32)), .val (.int (1 : Int32)), .val (.int (f 0))] [(.int (4 : Int32)), (.int (1 : Int32))])
          refine hp (fun tq kq => XS.icmpNo X16.here hx rfl (hb hby d1_58) rfl (tlt (by decide)).2.1 kq) ?_
          show G T16 (mkF m 61 #[.val (.ref p0), .val (.int (1 : Int32)), .val (.ref b16), .val (.int (0 : Int32)), .val (.ref p0), .val (.int (4 : Int32)), .val (.int (1 : Int32)), .val (.int (f 0))] [])
          refine hp (fun tq kq => XS.aload X16.here hx rfl (hb hby d1_61) rfl rfl kq) ?_
          show G T16 (mkF m 63 #[.val (.ref p0), .val (.int (1 : Int32)), .val (.ref b16), .val (.int (0 : Int32)), .val (.ref p0), .val (.int (4 : Int32)), .val (.int (1 : Int32)), .val (.int (f 0))] [(.ref p0)])
          refine hp (fun tq kq => XS.iload X16.here hx rfl (hb hby d1_63) rfl kq) ?_
          show G T16 (mkF m 65 #[.val (.ref p0), .val (.int (1 : Int32)), .val (.ref b16), .val (.int (0 : Int32)), .val (.ref p0), .val (.int (4 : Int32)), .val (.int (1 : Int32)), .val (.int (f 0))] [(.int (1 : Int32)), (.ref p0)])
          refine hp (own_ldI X16 hx hZ e16 V16_p0 (j := (1 : Int32)) 1 (by decide) (by decide) (by decide) (g := (mkF m 65 #[.val (.ref p0), .val (.int (1 : Int32)), .val (.ref b16), .val (.int (0 : Int32)), .val (.ref p0), .val (.int (4 : Int32)), .val (.int (1 : Int32)), .val (.int (f 0))] [(.int (1 : Int32)), (.ref p0)])) rfl rfl (hb hby d1_65)) ?_
          show G T16 (mkF m 66 #[.val (.ref p0), .val (.int (1 : Int32)), .val (.ref b16), .val (.int (0 : Int32)), .val (.ref p0), .val (.int (4 : Int32)), .val (.int (1 : Int32)), .val (.int (f 0))] [(.int (f 1))])
          refine hp (fun tq kq => XS.istore X16.here hx rfl (hb hby d1_66) rfl (l' := #[.val (.ref p0), .val (.int (1 : Int32)), .val (.ref b16), .val (.int (0 : Int32)), .val (.ref p0), .val (.int (4 : Int32)), .val (.int (1 : Int32)), .val (.int (f 1))]) rfl kq) ?_
          show G T16 (mkF m 68 #[.val (.ref p0), .val (.int (1 : Int32)), .val (.ref b16), .val (.int (0 : Int32)), .val (.ref p0), .val (.int (4 : Int32)), .val (.int (1 : Int32)), .val (.int (f 1))] [])
          refine hp (fun tq kq => XS.iload X16.here hx rfl (hb hby d1_68) rfl kq) ?_
          show G T16 (mkF m 70 #[.val (.ref p0), .val (.int (1 : Int32)), .val (.ref b16), .val (.int (0 : Int32)), .val (.ref p0), .val (.int (4 : Int32)), .val (.int (1 : Int32)), .val (.int (f 1))] [(.int (f 1))])
          refine hp (fun tq kq => XS.iconst X16.here hx rfl (hb hby d1_70) kq) ?_
          show G T16 (mkF m 71 #[.val (.ref p0), .val (.int (1 : Int32)), .val (.ref b16), .val (.int (0 : Int32)), .val (.ref p0), .val (.int (4 : Int32)), .val (.int (1 : Int32)), .val (.int (f 1))] [(.int (-1 : Int32)), (.int (f 1))])
          refine hp (fun tq kq => XS.icmpNo X16.here hx rfl (hb hby d1_71) rfl (feq hb2).1 kq) ?_
          show G T16 (mkF m 74 #[.val (.ref p0), .val (.int (1 : Int32)), .val (.ref b16), .val (.int (0 : Int32)), .val (.ref p0), .val (.int (4 : Int32)), .val (.int (1 : Int32)), .val (.int (f 1))] [])
          refine hp (fun tq kq => XS.aloadN X16.here hx rfl (hb hby d1_74) rfl rfl kq) ?_
          show G T16 (mkF m 75 #[.val (.ref p0), .val (.int (1 : Int32)), .val (.ref b16), .val (.int (0 : Int32)), .val (.ref p0), .val (.int (4 : Int32)), .val (.int (1 : Int32)), .val (.int (f 1))] [(.ref b16)])
          refine hp (fun tq kq => XS.iloadN X16.here hx rfl (hb hby d1_75) rfl kq) ?_
          show G T16 (mkF m 76 #[.val (.ref p0), .val (.int (1 : Int32)), .val (.ref b16), .val (.int (0 : Int32)), .val (.ref p0), .val (.int (4 : Int32)), .val (.int (1 : Int32)), .val (.int (f 1))] [(.int (0 : Int32)), (.ref b16)])
          refine hp (fun tq kq => XS.iload X16.here hx rfl (hb hby d1_76) rfl kq) ?_
          show G T16 (mkF m 78 #[.val (.ref p0), .val (.int (1 : Int32)), .val (.ref b16), .val (.int (0 : Int32)), .val (.ref p0), .val (.int (4 : Int32)), .val (.int (1 : Int32)), .val (.int (f 1))] [(.int (f 1)), (.int (0 : Int32)), (.ref b16)])
          obtain ⟨T17, h17, X17, e17, W17, V17_b16, st17⟩ := own_stI X16 hx hZ e16 V16_b16 (j := (0 : Int32)) 0 (by decide) (by decide) (by decide) (g := (mkF m 78 #[.val (.ref p0), .val (.int (1 : Int32)), .val (.ref b16), .val (.int (0 : Int32)), .val (.ref p0), .val (.int (4 : Int32)), .val (.int (1 : Int32)), .val (.int (f 1))] [(.int (f 1)), (.int (0 : Int32)), (.ref b16)])) rfl rfl (hb hby d1_78)
          have V17_p0 := V16_p0.other W17 ne16_p0
          have K17 := K16.wr W17 (Or.inr sz_b16)
          have N17 := Fr.snoc X17 N0 g_b16
          refine hp st17 ?_
          show G T17 (mkF m 79 #[.val (.ref p0), .val (.int (1 : Int32)), .val (.ref b16), .val (.int (0 : Int32)), .val (.ref p0), .val (.int (4 : Int32)), .val (.int (1 : Int32)), .val (.int (f 1))] [])
          refine hp (fun tq kq => XS.iinc X17.here hx rfl (hb hby d1_79) rfl (l' := #[.val (.ref p0), .val (.int (1 : Int32)), .val (.ref b16), .val (.int (1 : Int32)), .val (.ref p0), .val (.int (4 : Int32)), .val (.int (1 : Int32)), .val (.int (f 1))]) rfl kq) ?_
          show G T17 (mkF m 82 #[.val (.ref p0), .val (.int (1 : Int32)), .val (.ref b16), .val (.int (1 : Int32)), .val (.ref p0), .val (.int (4 : Int32)), .val (.int (1 : Int32)), .val (.int (f 1))] [])
          refine hp (fun tq kq => XS.iinc X17.here hx rfl (hb hby d1_82) rfl (l' := #[.val (.ref p0), .val (.int (1 : Int32)), .val (.ref b16), .val (.int (1 : Int32)), .val (.ref p0), .val (.int (4 : Int32)), .val (.int (2 : Int32)), .val (.int (f 1))]) rfl kq) ?_
          show G T17 (mkF m 85 #[.val (.ref p0), .val (.int (1 : Int32)), .val (.ref b16), .val (.int (1 : Int32)), .val (.ref p0), .val (.int (4 : Int32)), .val (.int (2 : Int32)), .val (.int (f 1))] [])
          refine hp (fun tq kq => XS.goto X17.here hx rfl (pc0 := 85) (pc' := 54) rfl (hb hby d1_85) (by decide) (by decide) kq) ?_
          show G T17 (mkF m 54 #[.val (.ref p0), .val (.int (1 : Int32)), .val (.ref b16), .val (.int (1 : Int32)), .val (.ref p0), .val (.int (4 : Int32)), .val (.int (2 : Int32)), .val (.int (f 1))] [])
          refine hp (fun tq kq => XS.iload X17.here hx rfl (hb hby d1_54) rfl kq) ?_
          show G T17 (mkF m 56 #[.val (.ref p0), .val (.int (1 : Int32)), .val (.ref b16), .val (.int (1 : Int32)), .val (.ref p0), .val (.int (4 : Int32)), .val (.int (2 : Int32)), .val (.int (f 1))] [(.int (2 : Int32))])
          refine hp (fun tq kq => XS.iload X17.here hx rfl (hb hby d1_56) rfl kq) ?_
          show G T17 (mkF m 58 #[.val (.ref p0), .val (.int (1 : Int32)), .val (.ref b16), .val (.int (1 : Int32)), .val (.ref p0), .val (.int (4 : Int32)), .val (.int (2 : Int32)), .val (.int (f 1))] [(.int (4 : Int32)), (.int (2 : Int32))])
          refine hp (fun tq kq => XS.icmpNo X17.here hx rfl (hb hby d1_58) rfl (tlt (by decide)).2.1 kq) ?_
          show G T17 (mkF m 61 #[.val (.ref p0), .val (.int (1 : Int32)), .val (.ref b16), .val (.int (1 : Int32)), .val (.ref p0), .val (.int (4 : Int32)), .val (.int (2 : Int32)), .val (.int (f 1))] [])
          refine hp (fun tq kq => XS.aload X17.here hx rfl (hb hby d1_61) rfl rfl kq) ?_
          show G T17 (mkF m 63 #[.val (.ref p0), .val (.int (1 : Int32)), .val (.ref b16), .val (.int (1 : Int32)), .val (.ref p0), .val (.int (4 : Int32)), .val (.int (2 : Int32)), .val (.int (f 1))] [(.ref p0)])
          refine hp (fun tq kq => XS.iload X17.here hx rfl (hb hby d1_63) rfl kq) ?_
          show G T17 (mkF m 65 #[.val (.ref p0), .val (.int (1 : Int32)), .val (.ref b16), .val (.int (1 : Int32)), .val (.ref p0), .val (.int (4 : Int32)), .val (.int (2 : Int32)), .val (.int (f 1))] [(.int (2 : Int32)), (.ref p0)])
          refine hp (own_ldI X17 hx hZ e17 V17_p0 (j := (2 : Int32)) 2 (by decide) (by decide) (by decide) (g := (mkF m 65 #[.val (.ref p0), .val (.int (1 : Int32)), .val (.ref b16), .val (.int (1 : Int32)), .val (.ref p0), .val (.int (4 : Int32)), .val (.int (2 : Int32)), .val (.int (f 1))] [(.int (2 : Int32)), (.ref p0)])) rfl rfl (hb hby d1_65)) ?_
          show G T17 (mkF m 66 #[.val (.ref p0), .val (.int (1 : Int32)), .val (.ref b16), .val (.int (1 : Int32)), .val (.ref p0), .val (.int (4 : Int32)), .val (.int (2 : Int32)), .val (.int (f 1))] [(.int (f 2))])
          refine hp (fun tq kq => XS.istore X17.here hx rfl (hb hby d1_66) rfl (l' := #[.val (.ref p0), .val (.int (1 : Int32)), .val (.ref b16), .val (.int (1 : Int32)), .val (.ref p0), .val (.int (4 : Int32)), .val (.int (2 : Int32)), .val (.int (f 2))]) rfl kq) ?_
          show G T17 (mkF m 68 #[.val (.ref p0), .val (.int (1 : Int32)), .val (.ref b16), .val (.int (1 : Int32)), .val (.ref p0), .val (.int (4 : Int32)), .val (.int (2 : Int32)), .val (.int (f 2))] [])
          refine hp (fun tq kq => XS.iload X17.here hx rfl (hb hby d1_68) rfl kq) ?_
          show G T17 (mkF m 70 #[.val (.ref p0), .val (.int (1 : Int32)), .val (.ref b16), .val (.int (1 : Int32)), .val (.ref p0), .val (.int (4 : Int32)), .val (.int (2 : Int32)), .val (.int (f 2))] [(.int (f 2))])
          refine hp (fun tq kq => XS.iconst X17.here hx rfl (hb hby d1_70) kq) ?_
          show G T17 (mkF m 71 #[.val (.ref p0), .val (.int (1 : Int32)), .val (.ref b16), .val (.int (1 : Int32)), .val (.ref p0), .val (.int (4 : Int32)), .val (.int (2 : Int32)), .val (.int (f 2))] [(.int (-1 : Int32)), (.int (f 2))])
          refine hp (fun tq kq => XS.icmpYes X17.here hx rfl (pc0 := 71) (pc' := 82) rfl (hb hby d1_71) rfl (teq hb14).1 (by decide) (by decide) kq) ?_
          show G T17 (mkF m 82 #[.val (.ref p0), .val (.int (1 : Int32)), .val (.ref b16), .val (.int (1 : Int32)), .val (.ref p0), .val (.int (4 : Int32)), .val (.int (2 : Int32)), .val (.int (f 2))] [])
          refine hp (fun tq kq => XS.iinc X17.here hx rfl (hb hby d1_82) rfl (l' := #[.val (.ref p0), .val (.int (1 : Int32)), .val (.ref b16), .val (.int (1 : Int32)), .val (.ref p0), .val (.int (4 : Int32)), .val (.int (3 : Int32)), .val (.int (f 2))]) rfl kq) ?_
          show G T17 (mkF m 85 #[.val (.ref p0), .val (.int (1 : Int32)), .val (.ref b16), .val (.int (1 : Int32)), .val (.ref p0), .val (.int (4 : Int32)), .val (.int (3 : Int32)), .val (.int (f 2))] [])
          refine hp (fun tq kq => XS.goto X17.here hx rfl (pc0 := 85) (pc' := 54) rfl (hb hby d1_85) (by decide) (by decide) kq) ?_
          show G T17 (mkF m 54 #[.val (.ref p0), .val (.int (1 : Int32)), .val (.ref b16), .val (.int (1 : Int32)), .val (.ref p0), .val (.int (4 : Int32)), .val (.int (3 : Int32)), .val (.int (f 2))] [])
          refine hp (fun tq kq => XS.iload X17.here hx rfl (hb hby d1_54) rfl kq) ?_
          show G T17 (mkF m 56 #[.val (.ref p0), .val (.int (1 : Int32)), .val (.ref b16), .val (.int (1 : Int32)), .val (.ref p0), .val (.int (4 : Int32)), .val (.int (3 : Int32)), .val (.int (f 2))] [(.int (3 : Int32))])
          refine hp (fun tq kq => XS.iload X17.here hx rfl (hb hby d1_56) rfl kq) ?_
          show G T17 (mkF m 58 #[.val (.ref p0), .val (.int (1 : Int32)), .val (.ref b16), .val (.int (1 : Int32)), .val (.ref p0), .val (.int (4 : Int32)), .val (.int (3 : Int32)), .val (.int (f 2))] [(.int (4 : Int32)), (.int (3 : Int32))])
          refine hp (fun tq kq => XS.icmpNo X17.here hx rfl (hb hby d1_58) rfl (tlt (by decide)).2.1 kq) ?_
          show G T17 (mkF m 61 #[.val (.ref p0), .val (.int (1 : Int32)), .val (.ref b16), .val (.int (1 : Int32)), .val (.ref p0), .val (.int (4 : Int32)), .val (.int (3 : Int32)), .val (.int (f 2))] [])
          refine hp (fun tq kq => XS.aload X17.here hx rfl (hb hby d1_61) rfl rfl kq) ?_
          show G T17 (mkF m 63 #[.val (.ref p0), .val (.int (1 : Int32)), .val (.ref b16), .val (.int (1 : Int32)), .val (.ref p0), .val (.int (4 : Int32)), .val (.int (3 : Int32)), .val (.int (f 2))] [(.ref p0)])
          refine hp (fun tq kq => XS.iload X17.here hx rfl (hb hby d1_63) rfl kq) ?_
          show G T17 (mkF m 65 #[.val (.ref p0), .val (.int (1 : Int32)), .val (.ref b16), .val (.int (1 : Int32)), .val (.ref p0), .val (.int (4 : Int32)), .val (.int (3 : Int32)), .val (.int (f 2))] [(.int (3 : Int32)), (.ref p0)])
          refine hp (own_ldI X17 hx hZ e17 V17_p0 (j := (3 : Int32)) 3 (by decide) (by decide) (by decide) (g := (mkF m 65 #[.val (.ref p0), .val (.int (1 : Int32)), .val (.ref b16), .val (.int (1 : Int32)), .val (.ref p0), .val (.int (4 : Int32)), .val (.int (3 : Int32)), .val (.int (f 2))] [(.int (3 : Int32)), (.ref p0)])) rfl rfl (hb hby d1_65)) ?_
          show G T17 (mkF m 66 #[.val (.ref p0), .val (.int (1 : Int32)), .val (.ref b16), .val (.int (1 : Int32)), .val (.ref p0), .val (.int (4 : Int32)), .val (.int (3 : Int32)), .val (.int (f 2))] [(.int (f 3))])
          refine hp (fun tq kq => XS.istore X17.here hx rfl (hb hby d1_66) rfl (l' := #[.val (.ref p0), .val (.int (1 : Int32)), .val (.ref b16), .val (.int (1 : Int32)), .val (.ref p0), .val (.int (4 : Int32)), .val (.int (3 : Int32)), .val (.int (f 3))]) rfl kq) ?_
          show G T17 (mkF m 68 #[.val (.ref p0), .val (.int (1 : Int32)), .val (.ref b16), .val (.int (1 : Int32)), .val (.ref p0), .val (.int (4 : Int32)), .val (.int (3 : Int32)), .val (.int (f 3))] [])
          refine hp (fun tq kq => XS.iload X17.here hx rfl (hb hby d1_68) rfl kq) ?_
          show G T17 (mkF m 70 #[.val (.ref p0), .val (.int (1 : Int32)), .val (.ref b16), .val (.int (1 : Int32)), .val (.ref p0), .val (.int (4 : Int32)), .val (.int (3 : Int32)), .val (.int (f 3))] [(.int (f 3))])
          refine hp (fun tq kq => XS.iconst X17.here hx rfl (hb hby d1_70) kq) ?_
          show G T17 (mkF m 71 #[.val (.ref p0), .val (.int (1 : Int32)), .val (.ref b16), .val (.int (1 : Int32)), .val (.ref p0), .val (.int (4 : Int32)), .val (.int (3 : Int32)), .val (.int (f 3))] [(.int (-1 : Int32)), (.int (f 3))])
          refine hp (fun tq kq => XS.icmpYes X17.here hx rfl (pc0 := 71) (pc' := 82) rfl (hb hby d1_71) rfl (teq hb15).1 (by decide) (by decide) kq) ?_
          show G T17 (mkF m 82 #[.val (.ref p0), .val (.int (1 : Int32)), .val (.ref b16), .val (.int (1 : Int32)), .val (.ref p0), .val (.int (4 : Int32)), .val (.int (3 : Int32)), .val (.int (f 3))] [])
          refine hp (fun tq kq => XS.iinc X17.here hx rfl (hb hby d1_82) rfl (l' := #[.val (.ref p0), .val (.int (1 : Int32)), .val (.ref b16), .val (.int (1 : Int32)), .val (.ref p0), .val (.int (4 : Int32)), .val (.int (4 : Int32)), .val (.int (f 3))]) rfl kq) ?_
          show G T17 (mkF m 85 #[.val (.ref p0), .val (.int (1 : Int32)), .val (.ref b16), .val (.int (1 : Int32)), .val (.ref p0), .val (.int (4 : Int32)), .val (.int (4 : Int32)), .val (.int (f 3))] [])
          refine hp (fun tq kq => XS.goto X17.here hx rfl (pc0 := 85) (pc' := 54) rfl (hb hby d1_85) (by decide) (by decide) kq) ?_
          show G T17 (mkF m 54 #[.val (.ref p0), .val (.int (1 : Int32)), .val (.ref b16), .val (.int (1 : Int32)), .val (.ref p0), .val (.int (4 : Int32)), .val (.int (4 : Int32)), .val (.int (f 3))] [])
          refine hp (fun tq kq => XS.iload X17.here hx rfl (hb hby d1_54) rfl kq) ?_
          show G T17 (mkF m 56 #[.val (.ref p0), .val (.int (1 : Int32)), .val (.ref b16), .val (.int (1 : Int32)), .val (.ref p0), .val (.int (4 : Int32)), .val (.int (4 : Int32)), .val (.int (f 3))] [(.int (4 : Int32))])
          refine hp (fun tq kq => XS.iload X17.here hx rfl (hb hby d1_56) rfl kq) ?_
          show G T17 (mkF m 58 #[.val (.ref p0), .val (.int (1 : Int32)), .val (.ref b16), .val (.int (1 : Int32)), .val (.ref p0), .val (.int (4 : Int32)), .val (.int (4 : Int32)), .val (.int (f 3))] [(.int (4 : Int32)), (.int (4 : Int32))])
          refine hp (fun tq kq => XS.icmpYes X17.here hx rfl (pc0 := 58) (pc' := 88) rfl (hb hby d1_58) rfl (flt (by decide)).2.1 (by decide) (by decide) kq) ?_
          show G T17 (mkF m 88 #[.val (.ref p0), .val (.int (1 : Int32)), .val (.ref b16), .val (.int (1 : Int32)), .val (.ref p0), .val (.int (4 : Int32)), .val (.int (4 : Int32)), .val (.int (f 3))] [])
          refine hp (fun tq kq => XS.aloadN X17.here hx rfl (hb hby d1_88) rfl rfl kq) ?_
          show G T17 (mkF m 89 #[.val (.ref p0), .val (.int (1 : Int32)), .val (.ref b16), .val (.int (1 : Int32)), .val (.ref p0), .val (.int (4 : Int32)), .val (.int (4 : Int32)), .val (.int (f 3))] [(.ref b16)])
          exact hR X17 (fun fs hl => own_retA X17 hx hret rfl (hb hby d1_89) hl) (fun q => by rw [hret] at q; cases q) (by rw [e17]; exact ⟨b16, 1, (own_up (fun _ => (0 : Int32)) 0 (f 1)), rfl, N17, K17, sz_b16, V17_b16, own_seld (l := [(f 1)]) (own_sel_of (a := []) (b := [f 1]) (c := []) (d := []) (if_pos hb1) (if_neg hb2) (if_pos hb14) (if_pos hb15)) rfl (own_pick1 rfl rfl)⟩) (by decide) (by decide)
        · refine hp (fun tq kq => XS.icmpNo X0.here hx rfl (hb hby d1_25) rfl (feq hb15).1 kq) ?_
          show G s₁ (mkF m 28 #[.val (.ref p0), .val (.int (1 : Int32)), .val (.ref p0), .val (.int (4 : Int32)), .val (.int (3 : Int32)), .val (.int (f 3)), .unset, .unset] [])
          refine hp (fun tq kq => XS.iinc X0.here hx rfl (hb hby d1_28) rfl (l' := #[.val (.ref p0), .val (.int (2 : Int32)), .val (.ref p0), .val (.int (4 : Int32)), .val (.int (3 : Int32)), .val (.int (f 3)), .unset, .unset]) rfl kq) ?_
          show G s₁ (mkF m 31 #[.val (.ref p0), .val (.int (2 : Int32)), .val (.ref p0), .val (.int (4 : Int32)), .val (.int (3 : Int32)), .val (.int (f 3)), .unset, .unset] [])
          refine hp (fun tq kq => XS.iinc X0.here hx rfl (hb hby d1_31) rfl (l' := #[.val (.ref p0), .val (.int (2 : Int32)), .val (.ref p0), .val (.int (4 : Int32)), .val (.int (4 : Int32)), .val (.int (f 3)), .unset, .unset]) rfl kq) ?_
          show G s₁ (mkF m 34 #[.val (.ref p0), .val (.int (2 : Int32)), .val (.ref p0), .val (.int (4 : Int32)), .val (.int (4 : Int32)), .val (.int (f 3)), .unset, .unset] [])
          refine hp (fun tq kq => XS.goto X0.here hx rfl (pc0 := 34) (pc' := 10) rfl (hb hby d1_34) (by decide) (by decide) kq) ?_
          show G s₁ (mkF m 10 #[.val (.ref p0), .val (.int (2 : Int32)), .val (.ref p0), .val (.int (4 : Int32)), .val (.int (4 : Int32)), .val (.int (f 3)), .unset, .unset] [])
          refine hp (fun tq kq => XS.iload X0.here hx rfl (hb hby d1_10) rfl kq) ?_
          show G s₁ (mkF m 12 #[.val (.ref p0), .val (.int (2 : Int32)), .val (.ref p0), .val (.int (4 : Int32)), .val (.int (4 : Int32)), .val (.int (f 3)), .unset, .unset] [(.int (4 : Int32))])
          refine hp (fun tq kq => XS.iloadN X0.here hx rfl (hb hby d1_12) rfl kq) ?_
          show G s₁ (mkF m 13 #[.val (.ref p0), .val (.int (2 : Int32)), .val (.ref p0), .val (.int (4 : Int32)), .val (.int (4 : Int32)), .val (.int (f 3)), .unset, .unset] [(.int (4 : Int32)), (.int (4 : Int32))])
          refine hp (fun tq kq => XS.icmpYes X0.here hx rfl (pc0 := 13) (pc' := 37) rfl (hb hby d1_13) rfl (flt (by decide)).2.1 (by decide) (by decide) kq) ?_
          show G s₁ (mkF m 37 #[.val (.ref p0), .val (.int (2 : Int32)), .val (.ref p0), .val (.int (4 : Int32)), .val (.int (4 : Int32)), .val (.int (f 3)), .unset, .unset] [])
          refine hp (fun tq kq => XS.iloadN X0.here hx rfl (hb hby d1_37) rfl kq) ?_
          show G s₁ (mkF m 38 #[.val (.ref p0), .val (.int (2 : Int32)), .val (.ref p0), .val (.int (4 : Int32)), .val (.int (4 : Int32)), .val (.int (f 3)), .unset, .unset] [(.int (2 : Int32))])
          obtain ⟨T18, h18, k18, X18, e18, E18, A18, st18⟩ := newP X0 hx hZ (hw _ (List.mem_of_getElem? (i := 1) rfl)) e0 (g := (mkF m 38 #[.val (.ref p0), .val (.int (2 : Int32)), .val (.ref p0), .val (.int (4 : Int32)), .val (.int (4 : Int32)), .val (.int (f 3)), .unset, .unset] [(.int (2 : Int32))])) rfl (hb hby d1_38) rfl (by decide) (cap := 2) (by decide) (by decide) (by decide) (by decide)
          obtain ⟨b18, g18⟩ : ∃ z, z = h0.size := ⟨_, rfl⟩
          rw [← g18] at A18 st18
          have ne18_p0 : p0 ≠ b18 := Nat.ne_of_lt (Nat.lt_of_lt_of_le V_p0.lt (Nat.le_of_eq g18.symm))
          have sz_b18 : h0.size ≤ b18 := Nat.le_trans K0.1 (Nat.le_of_eq g18.symm)
          have g_b18 : n0 ≤ b18 := Nat.le_trans Z0 sz_b18
          have V18_p0 := V_p0.ext E18
          have K18 := K0.ext E18
          have V18_b18 : own_AI Z h18 b18 .int 2 (fun _ => 0) := own_AI.new A18 (by decide) rfl 2 (by decide)
          refine hp st18 ?_
          show G T18 (mkF m 40 #[.val (.ref p0), .val (.int (2 : Int32)), .val (.ref p0), .val (.int (4 : Int32)), .val (.int (4 : Int32)), .val (.int (f 3)), .unset, .unset] [(.ref b18)])
          refine hp (fun tq kq => XS.astoreN X18.here hx rfl (hb hby d1_40) rfl rfl (l' := #[.val (.ref p0), .val (.int (2 : Int32)), .val (.ref b18), .val (.int (4 : Int32)), .val (.int (4 : Int32)), .val (.int (f 3)), .unset, .unset]) rfl kq) ?_
          show G T18 (mkF m 41 #[.val (.ref p0), .val (.int (2 : Int32)), .val (.ref b18), .val (.int (4 : Int32)), .val (.int (4 : Int32)), .val (.int (f 3)), .unset, .unset] [])
          refine hp (fun tq kq => XS.iconst X18.here hx rfl (hb hby d1_41) kq) ?_
          show G T18 (mkF m 42 #[.val (.ref p0), .val (.int (2 : Int32)), .val (.ref b18), .val (.int (4 : Int32)), .val (.int (4 : Int32)), .val (.int (f 3)), .unset, .unset] [(.int (0 : Int32))])
          refine hp (fun tq kq => XS.istoreN X18.here hx rfl (hb hby d1_42) rfl (l' := #[.val (.ref p0), .val (.int (2 : Int32)), .val (.ref b18), .val (.int (0 : Int32)), .val (.int (4 : Int32)), .val (.int (f 3)), .unset, .unset]) rfl kq) ?_
          show G T18 (mkF m 43 #[.val (.ref p0), .val (.int (2 : Int32)), .val (.ref b18), .val (.int (0 : Int32)), .val (.int (4 : Int32)), .val (.int (f 3)), .unset, .unset] [])
          refine hp (fun tq kq => XS.aloadN X18.here hx rfl (hb hby d1_43) rfl rfl kq) ?_
          show G T18 (mkF m 44 #[.val (.ref p0), .val (.int (2 : Int32)), .val (.ref b18), .val (.int (0 : Int32)), .val (.int (4 : Int32)), .val (.int (f 3)), .unset, .unset] [(.ref p0)])
          refine hp (fun tq kq => XS.astore X18.here hx rfl (hb hby d1_44) rfl rfl (l' := #[.val (.ref p0), .val (.int (2 : Int32)), .val (.ref b18), .val (.int (0 : Int32)), .val (.ref p0), .val (.int (f 3)), .unset, .unset]) rfl kq) ?_
          show G T18 (mkF m 46 #[.val (.ref p0), .val (.int (2 : Int32)), .val (.ref b18), .val (.int (0 : Int32)), .val (.ref p0), .val (.int (f 3)), .unset, .unset] [])
          refine hp (fun tq kq => XS.aload X18.here hx rfl (hb hby d1_46) rfl rfl kq) ?_
          show G T18 (mkF m 48 #[.val (.ref p0), .val (.int (2 : Int32)), .val (.ref b18), .val (.int (0 : Int32)), .val (.ref p0), .val (.int (f 3)), .unset, .unset] [(.ref p0)])
          refine hp (own_lenI X18 hx hZ e18 V18_p0 (4 : Int32) rfl (g := (mkF m 48 #[.val (.ref p0), .val (.int (2 : Int32)), .val (.ref b18), .val (.int (0 : Int32)), .val (.ref p0), .val (.int (f 3)), .unset, .unset] [(.ref p0)])) rfl rfl (hb hby d1_48)) ?_
          show G T18 (mkF m 49 #[.val (.ref p0), .val (.int (2 : Int32)), .val (.ref b18), .val (.int (0 : Int32)), .val (.ref p0), .val (.int (f 3)), .unset, .unset] [(.int (4 : Int32))])
          refine hp (fun tq kq => XS.istore X18.here hx rfl (hb hby d1_49) rfl (l' := #[.val (.ref p0), .val (.int (2 : Int32)), .val (.ref b18), .val (.int (0 : Int32)), .val (.ref p0), .val (.int (4 : Int32)), .unset, .unset]) rfl kq) ?_
          show G T18 (mkF m 51 #[.val (.ref p0), .val (.int (2 : Int32)), .val (.ref b18), .val (.int (0 : Int32)), .val (.ref p0), .val (.int (4 : Int32)), .unset, .unset] [])
          refine hp (fun tq kq => XS.iconst X18.here hx rfl (hb hby d1_51) kq) ?_
          show G T18 (mkF m 52 #[.val (.ref p0), .val (.int (2 : Int32)), .val (.ref b18), .val (.int (0 : Int32)), .val (.ref p0), .val (.int (4 : Int32)), .unset, .unset] [(.int (0 : Int32))])
          refine hp (fun tq kq => XS.istore X18.here hx rfl (hb hby d1_52) rfl (l' := #[.val (.ref p0), .val (.int (2 : Int32)), .val (.ref b18), .val (.int (0 : Int32)), .val (.ref p0), .val (.int (4 : Int32)), .val (.int (0 : Int32)), .unset]) rfl kq) ?_
          show G T18 (mkF m 54 #[.val (.ref p0), .val (.int (2 : Int32)), .val (.ref b18), .val (.int (0 : Int32)), .val (.ref p0), .val (.int (4 : Int32)), .val (.int (0 : Int32)), .unset] [])
          refine hp (fun tq kq => XS.iload X18.here hx rfl (hb hby d1_54) rfl kq) ?_
          show G T18 (mkF m 56 #[.val (.ref p0), .val (.int (2 : Int32)), .val (.ref b18), .val (.int (0 : Int32)), .val (.ref p0), .val (.int (4 : Int32)), .val (.int (0 : Int32)), .unset] [(.int (0 : Int32))])
          refine hp (fun tq kq => XS.iload X18.here hx rfl (hb hby d1_56) rfl kq) ?_
          show G T18 (mkF m 58 #[.val (.ref p0), .val (.int (2 : Int32)), .val (.ref b18), .val (.int (0 : Int32)), .val (.ref p0), .val (.int (4 : Int32)), .val (.int (0 : Int32)), .unset] [(.int (4 : Int32)), (.int (0 : Int32))])
          refine hp (fun tq kq => XS.icmpNo X18.here hx rfl (hb hby d1_58) rfl (tlt (by decide)).2.1 kq) ?_
          show G T18 (mkF m 61 #[.val (.ref p0), .val (.int (2 : Int32)), .val (.ref b18), .val (.int (0 : Int32)), .val (.ref p0), .val (.int (4 : Int32)), .val (.int (0 : Int32)), .unset] [])
          refine hp (fun tq kq => XS.aload X18.here hx rfl (hb hby d1_61) rfl rfl kq) ?_
          show G T18 (mkF m 63 #[.val (.ref p0), .val (.int (2 : Int32)), .val (.ref b18), .val (.int (0 : Int32)), .val (.ref p0), .val (.int (4 : Int32)), .val (.int (0 : Int32)), .unset] [(.ref p0)])
          refine hp (fun tq kq => XS.iload X18.here hx rfl (hb hby d1_63) rfl kq) ?_
          show G T18 (mkF m 65 #[.val (.ref p0), .val (.int (2 : Int32)), .val (.ref b18), .val (.int (0 : Int32)), .val (.ref p0), .val (.int (4 : Int32)), .val (.int (0 : Int32)), .unset] [(.int (0 : Int32)), (.ref p0)])
          refine hp (own_ldI X18 hx hZ e18 V18_p0 (j := (0 : Int32)) 0 (by decide) (by decide) (by decide) (g := (mkF m 65 #[.val (.ref p0), .val (.int (2 : Int32)), .val (.ref b18), .val (.int (0 : Int32)), .val (.ref p0), .val (.int (4 : Int32)), .val (.int (0 : Int32)), .unset] [(.int (0 : Int32)), (.ref p0)])) rfl rfl (hb hby d1_65)) ?_
          show G T18 (mkF m 66 #[.val (.ref p0), .val (.int (2 : Int32)), .val (.ref b18), .val (.int (0 : Int32)), .val (.ref p0), .val (.int (4 : Int32)), .val (.int (0 : Int32)), .unset] [(.int (f 0))])
          refine hp (fun tq kq => XS.istore X18.here hx rfl (hb hby d1_66) rfl (l' := #[.val (.ref p0), .val (.int (2 : Int32)), .val (.ref b18), .val (.int (0 : Int32)), .val (.ref p0), .val (.int (4 : Int32)), .val (.int (0 : Int32)), .val (.int (f 0))]) rfl kq) ?_
          show G T18 (mkF m 68 #[.val (.ref p0), .val (.int (2 : Int32)), .val (.ref b18), .val (.int (0 : Int32)), .val (.ref p0), .val (.int (4 : Int32)), .val (.int (0 : Int32)), .val (.int (f 0))] [])
          refine hp (fun tq kq => XS.iload X18.here hx rfl (hb hby d1_68) rfl kq) ?_
          show G T18 (mkF m 70 #[.val (.ref p0), .val (.int (2 : Int32)), .val (.ref b18), .val (.int (0 : Int32)), .val (.ref p0), .val (.int (4 : Int32)), .val (.int (0 : Int32)), .val (.int (f 0))] [(.int (f 0))])
          refine hp (fun tq kq => XS.iconst X18.here hx rfl (hb hby d1_70) kq) ?_
          show G T18 (mkF m 71 #[.val (.ref p0), .val (.int (2 : Int32)), .val (.ref b18), .val (.int (0 : Int32)), .val (.ref p0), .val (.int (4 : Int32)), .val (.int (0 : Int32)), .val (.int (f 0))] [(.int (-1 : Int32)), (.int (f 0))])
          refine hp (fun tq kq => XS.icmpYes X18.here hx rfl (pc0 := 71) (pc' := 82) rfl (hb hby d1_71) rfl (teq hb1).1 (by decide) (by decide) kq) ?_
          show G T18 (mkF m 82 #[.val (.ref p0), .val (.int (2 : Int32)), .val (.ref b18), .val (.int (0 : Int32)), .val (.ref p0), .val (.int (4 : Int32)), .val (.int (0 : Int32)), .val (.int (f 0))] [])
          refine hp (fun tq kq => XS.iinc X18.here hx rfl (hb hby d1_82) rfl (l' := #[.val (.ref p0), .val (.int (2 : Int32)), .val (.ref b18), .val (.int (0 : Int32)), .val (.ref p0), .val (.int (4 : Int32)), .val (.int (1 : Int32)), .val (.int (f 0))]) rfl kq) ?_
          show G T18 (mkF m 85 #[.val (.ref p0), .val (.int (2 : Int32)), .val (.ref b18), .val (.int (0 : Int32)), .val (.ref p0), .val (.int (4 : Int32)), .val (.int (1 : Int32)), .val (.int (f 0))] [])
          refine hp (fun tq kq => XS.goto X18.here hx rfl (pc0 := 85) (pc' := 54) rfl (hb hby d1_85) (by decide) (by decide) kq) ?_
          show G T18 (mkF m 54 #[.val (.ref p0), .val (.int (2 : Int32)), .val (.ref b18), .val (.int (0 : Int32)), .val (.ref p0), .val (.int (4 : Int32)), .val (.int (1 : Int32)), .val (.int (f 0))] [])
          refine hp (fun tq kq => XS.iload X18.here hx rfl (hb hby d1_54) rfl kq) ?_
          show G T18 (mkF m 56 #[.val (.ref p0), .val (.int (2 : Int32)), .val (.ref b18), .val (.int (0 : Int32)), .val (.ref p0), .val (.int (4 : Int32)), .val (.int (1 : Int32)), .val (.int (f 0))] [(.int (1 : Int32))])
          refine hp (fun tq kq => XS.iload X18.here hx rfl (hb hby d1_56) rfl kq) ?_
          show G T18 (mkF m 58 #[.val (.ref p0), .val (.int (2 : Int32)), .val (.ref b18), .val (.int (0 : Int32)), .val (.ref p0), .val (.int (4 : Int32)), .val (.int (1 : Int32)), .val (.int (f 0))] [(.int (4 : Int32)), (.int (1 : Int32))])
          refine hp (fun tq kq => XS.icmpNo X18.here hx rfl (hb hby d1_58) rfl (tlt (by decide)).2.1 kq) ?_
          show G T18 (mkF m 61 #[.val (.ref p0), .val (.int (2 : Int32)), .val (.ref b18), .val (.int (0 : Int32)), .val (.ref p0), .val (.int (4 : Int32)), .val (.int (1 : Int32)), .val (.int (f 0))] [])
          refine hp (fun tq kq => XS.aload X18.here hx rfl (hb hby d1_61) rfl rfl kq) ?_
          show G T18 (mkF m 63 #[.val (.ref p0), .val (.int (2 : Int32)), .val (.ref b18), .val (.int (0 : Int32)), .val (.ref p0), .val (.int (4 : Int32)), .val (.int (1 : Int32)), .val (.int (f 0))] [(.ref p0)])
          refine hp (fun tq kq => XS.iload X18.here hx rfl (hb hby d1_63) rfl kq) ?_
          show G T18 (mkF m 65 #[.val (.ref p0), .val (.int (2 : Int32)), .val (.ref b18), .val (.int (0 : Int32)), .val (.ref p0), .val (.int (4 : Int32)), .val (.int (1 : Int32)), .val (.int (f 0))] [(.int (1 : Int32)), (.ref p0)])
          refine hp (own_ldI X18 hx hZ e18 V18_p0 (j := (1 : Int32)) 1 (by decide) (by decide) (by decide) (g := (mkF m 65 #[.val (.ref p0), .val (.int (2 : Int32)), .val (.ref b18), .val (.int (0 : Int32)), .val (.ref p0), .val (.int (4 : Int32)), .val (.int (1 : Int32)), .val (.int (f 0))] [(.int (1 : Int32)), (.ref p0)])) rfl rfl (hb hby d1_65)) ?_
          show G T18 (mkF m 66 #[.val (.ref p0), .val (.int (2 : Int32)), .val (.ref b18), .val (.int (0 : Int32)), .val (.ref p0), .val (.int (4 : Int32)), .val (.int (1 : Int32)), .val (.int (f 0))] [(.int (f 1))])
          refine hp (fun tq kq => XS.istore X18.here hx rfl (hb hby d1_66) rfl (l' := #[.val (.ref p0), .val (.int (2 : Int32)), .val (.ref b18), .val (.int (0 : Int32)), .val (.ref p0), .val (.int (4 : Int32)), .val (.int (1 : Int32)), .val (.int (f 1))]) rfl kq) ?_
          show G T18 (mkF m 68 #[.val (.ref p0), .val (.int (2 : Int32)), .val (.ref b18), .val (.int (0 : Int32)), .val (.ref p0), .val (.int (4 : Int32)), .val (.int (1 : Int32)), .val (.int (f 1))] [])
          refine hp (fun tq kq => XS.iload X18.here hx rfl (hb hby d1_68) rfl kq) ?_
          show G T18 (mkF m 70 #[.val (.ref p0), .val (.int (2 : Int32)), .val (.ref b18), .val (.int (0 : Int32)), .val (.ref p0), .val (.int (4 : Int32)), .val (.int (1 : Int32)), .val (.int (f 1))] [(.int (f 1))])
          refine hp (fun tq kq => XS.iconst X18.here hx rfl (hb hby d1_70) kq) ?_
          show G T18 (mkF m 71 #[.val (.ref p0), .val (.int (2 : Int32)), .val (.ref b18), .val (.int (0 : Int32)), .val (.ref p0), .val (.int (4 : Int32)), .val (.int (1 : Int32)), .val (.int (f 1))] [(.int (-1 : Int32)), (.int (f 1))])
          refine hp (fun tq kq => XS.icmpNo X18.here hx rfl (hb hby d1_71) rfl (feq hb2).1 kq) ?_
          show G T18 (mkF m 74 #[.val (.ref p0), .val (.int (2 : Int32)), .val (.ref b18), .val (.int (0 : Int32)), .val (.ref p0), .val (.int (4 : Int32)), .val (.int (1 : Int32)), .val (.int (f 1))] [])
          refine hp (fun tq kq => XS.aloadN X18.here hx rfl (hb hby d1_74) rfl rfl kq) ?_
          show G T18 (mkF m 75 #[.val (.ref p0), .val (.int (2 : Int32)), .val (.ref b18), .val (.int (0 : Int32)), .val (.ref p0), .val (.int (4 : Int32)), .val (.int (1 : Int32)), .val (.int (f 1))] [(.ref b18)])
          refine hp (fun tq kq => XS.iloadN X18.here hx rfl (hb hby d1_75) rfl kq) ?_
          show G T18 (mkF m 76 #[.val (.ref p0), .val (.int (2 : Int32)), .val (.ref b18), .val (.int (0 : Int32)), .val (.ref p0), .val (.int (4 : Int32)), .val (.int (1 : Int32)), .val (.int (f 1))] [(.int (0 : Int32)), (.ref b18)])
          refine hp (fun tq kq => XS.iload X18.here hx rfl (hb hby d1_76) rfl kq) ?_
          show G T18 (mkF m 78 #[.val (.ref p0), .val (.int (2 : Int32)), .val (.ref b18), .val (.int (0 : Int32)), .val (.ref p0), .val (.int (4 : Int32)), .val (.int (1 : Int32)), .val (.int (f 1))] [(.int (f 1)), (.int (0 : Int32)), (.ref b18)])
          obtain ⟨T19, h19, X19, e19, W19, V19_b18, st19⟩ := own_stI X18 hx hZ e18 V18_b18 (j := (0 : Int32)) 0 (by decide) (by decide) (by decide) (g := (mkF m 78 #[.val (.ref p0), .val (.int (2 : Int32)), .val (.ref b18), .val (.int (0 : Int32)), .val (.ref p0), .val (.int (4 : Int32)), .val (.int (1 : Int32)), .val (.int (f 1))] [(.int (f 1)), (.int (0 : Int32)), (.ref b18)])) rfl rfl (hb hby d1_78)
          have V19_p0 := V18_p0.other W19 ne18_p0
          have K19 := K18.wr W19 (Or.inr sz_b18)
          have N19 := Fr.snoc X19 N0 g_b18
          refine hp st19 ?_
          show G T19 (mkF m 79 #[.val (.ref p0), .val (.int (2 : Int32)), .val (.ref b18), .val (.int (0 : Int32)), .val (.ref p0), .val (.int (4 : Int32)), .val (.int (1 : Int32)), .val (.int (f 1))] [])
          refine hp (fun tq kq => XS.iinc X19.here hx rfl (hb hby d1_79) rfl (l' := #[.val (.ref p0), .val (.int (2 : Int32)), .val (.ref b18), .val (.int (1 : Int32)), .val (.ref p0), .val (.int (4 : Int32)), .val (.int (1 : Int32)), .val (.int (f 1))]) rfl kq) ?_
          show G T19 (mkF m 82 #[.val (.ref p0), .val (.int (2 : Int32)), .val (.ref b18), .val (.int (1 : Int32)), .val (.ref p0), .val (.int (4 : Int32)), .val (.int (1 : Int32)), .val (.int (f 1))] [])
          refine hp (fun tq kq => XS.iinc X19.here hx rfl (hb hby d1_82) rfl (l' := #[.val (.ref p0), .val (.int (2 : Int32)), .val (.ref b18), .val (.int (1 : Int32)), .val (.ref p0), .val (.int (4 : Int32)), .val (.int (2 : Int32)), .val (.int (f 1))]) rfl kq) ?_
          show G T19 (mkF m 85 #[.val (.ref p0), .val (.int (2 : Int32)), .val (.ref b18), .val (.int (1 : Int32)), .val (.ref p0), .val (.int (4 : Int32)), .val (.int (2 : Int32)), .val (.int (f 1))] [])
          refine hp (fun tq kq => XS.goto X19.here hx rfl (pc0 := 85) (pc' := 54) rfl (hb hby d1_85) (by decide) (by decide) kq) ?_
          show G T19 (mkF m 54 #[.val (.ref p0), .val (.int (2 : Int32)), .val (.ref b18), .val (.int (1 : Int32)), .val (.ref p0), .val (.int (4 : Int32)), .val (.int (2 : Int32)), .val (.int (f 1))] [])
          refine hp (fun tq kq => XS.iload X19.here hx rfl (hb hby d1_54) rfl kq) ?_
          show G T19 (mkF m 56 #[.val (.ref p0), .val (.int (2 : Int32)), .val (.ref b18), .val (.int (1 : Int32)), .val (.ref p0), .val (.int (4 : Int32)), .val (.int (2 : Int32)), .val (.int (f 1))] [(.int (2 : Int32))])
          refine hp (fun tq kq => XS.iload X19.here hx rfl (hb hby d1_56) rfl kq) ?_
          show G T19 (mkF m 58 #[.val (.ref p0), .val (.int (2 : Int32)), .val (.ref b18), .val (.int (1 : Int32)), .val (.ref p0), .val (.int (4 : Int32)), .val (.int (2 : Int32)), .val (.int (f 1))] [(.int (4 : Int32)), (.int (2 : Int32))])
          refine hp (fun tq kq => XS.icmpNo X19.here hx rfl (hb hby d1_58) rfl (tlt (by decide)).2.1 kq) ?_
          show G T19 (mkF m 61 #[.val (.ref p0), .val (.int (2 : Int32)), .val (.ref b18), .val (.int (1 : Int32)), .val (.ref p0), .val (.int (4 : Int32)), .val (.int (2 : Int32)), .val (.int (f 1))] [])
          refine hp (fun tq kq => XS.aload X19.here hx rfl (hb hby d1_61) rfl rfl kq) ?_
          show G T19 (mkF m 63 #[.val (.ref p0), .val (.int (2 : Int32)), .val (.ref b18), .val (.int (1 : Int32)), .val (.ref p0), .val (.int (4 : Int32)), .val (.int (2 : Int32)), .val (.int (f 1))] [(.ref p0)])
          refine hp (fun tq kq => XS.iload X19.here hx rfl (hb hby d1_63) rfl kq) ?_
          show G T19 (mkF m 65 #[.val (.ref p0), .val (.int (2 : Int32)), .val (.ref b18), .val (.int (1 : Int32)), .val (.ref p0), .val (.int (4 : Int32)), .val (.int (2 : Int32)), .val (.int (f 1))] [(.int (2 : Int32)), (.ref p0)])
          refine hp (own_ldI X19 hx hZ e19 V19_p0 (j := (2 : Int32)) 2 (by decide) (by decide) (by decide) (g := (mkF m 65 #[.val (.ref p0), .val (.int (2 : Int32)), .val (.ref b18), .val (.int (1 : Int32)), .val (.ref p0), .val (.int (4 : Int32)), .val (.int (2 : Int32)), .val (.int (f 1))] [(.int (2 : Int32)), (.ref p0)])) rfl rfl (hb hby d1_65)) ?_
          show G T19 (mkF m 66 #[.val (.ref p0), .val (.int (2 : Int32)), .val (.ref b18), .val (.int (1 : Int32)), .val (.ref p0), .val (.int (4 : Int32)), .val (.int (2 : Int32)), .val (.int (f 1))] [(.int (f 2))])
          refine hp (fun tq kq => XS.istore X19.here hx rfl (hb hby d1_66) rfl (l' := #[.val (.ref p0), .val (.int (2 : Int32)), .val (.ref b18), .val (.int (1 : Int32)), .val (.ref p0), .val (.int (4 : Int32)), .val (.int (2 : Int32)), .val (.int (f 2))]) rfl kq) ?_
          show G T19 (mkF m 68 #[.val (.ref p0), .val (.int (2 : Int32)), .val (.ref b18), .val (.int (1 : Int32)), .val (.ref p0), .val (.int (4 : Int32)), .val (.int (2 : Int32)), .val (.int (f 2))] [])
          refine hp (fun tq kq => XS.iload X19.here hx rfl (hb hby d1_68) rfl kq) ?_
          show G T19 (mkF m 70 #[.val (.ref p0), .val (.int (2 : Int32)), .val (.ref b18), .val (.int (1 : Int32)), .val (.ref p0), .val (.int (4 : Int32)), .val (.int (2 : Int32)), .val (.int (f 2))] [(.int (f 2))])
          refine hp (fun tq kq => XS.iconst X19.here hx rfl (hb hby d1_70) kq) ?_
          show G T19 (mkF m 71 #[.val (.ref p0), .val (.int (2 : Int32)), .val (.ref b18), .val (.int (1 : Int32)), .val (.ref p0), .val (.int (4 : Int32)), .val (.int (2 : Int32)), .val (.int (f 2))] [(.int (-1 : Int32)), (.int (f 2))])
          refine hp (fun tq kq => XS.icmpYes X19.here hx rfl (pc0 := 71) (pc' := 82) rfl (hb hby d1_71) rfl (teq hb14).1 (by decide) (by decide) kq) ?_
          show G T19 (mkF m 82 #[.val (.ref p0), .val (.int (2 : Int32)), .val (.ref b18), .val (.int (1 : Int32)), .val (.ref p0), .val (.int (4 : Int32)), .val (.int (2 : Int32)), .val (.int (f 2))] [])
          refine hp (fun tq kq => XS.iinc X19.here hx rfl (hb hby d1_82) rfl (l' := #[.val (.ref p0), .val (.int (2 : Int32)), .val (.ref b18), .val (.int (1 : Int32)), .val (.ref p0), .val (.int (4 : Int32)), .val (.int (3 : Int32)), .val (.int (f 2))]) rfl kq) ?_
          show G T19 (mkF m 85 #[.val (.ref p0), .val (.int (2 : Int32)), .val (.ref b18), .val (.int (1 : Int32)), .val (.ref p0), .val (.int (4 : Int32)), .val (.int (3 : Int32)), .val (.int (f 2))] [])
          refine hp (fun tq kq => XS.goto X19.here hx rfl (pc0 := 85) (pc' := 54) rfl (hb hby d1_85) (by decide) (by decide) kq) ?_
          show G T19 (mkF m 54 #[.val (.ref p0), .val (.int (2 : Int32)), .val (.ref b18), .val (.int (1 : Int32)), .val (.ref p0), .val (.int (4 : Int32)), .val (.int (3 : Int32)), .val (.int (f 2))] [])
          refine hp (fun tq kq => XS.iload X19.here hx rfl (hb hby d1_54) rfl kq) ?_
          show G T19 (mkF m 56 #[.val (.ref p0), .val (.int (2 : Int32)), .val (.ref b18), .val (.int (1 : Int32)), .val (.ref p0), .val (.int (4 : Int32)), .val (.int (3 : Int32)), .val (.int (f 2))] [(.int (3 : Int32))])
          refine hp (fun tq kq => XS.iload X19.here hx rfl (hb hby d1_56) rfl kq) ?_
          show G T19 (mkF m 58 #[.val (.ref p0), .val (.int (2 : Int32)), .val (.ref b18), .val (.int (1 : Int32)), .val (.ref p0), .val (.int (4 : Int32)), .val (.int (3 : Int32)), .val (.int (f 2))] [(.int (4 : Int32)), (.int (3 : Int32))])
          refine hp (fun tq kq => XS.icmpNo X19.here hx rfl (hb hby d1_58) rfl (tlt (by decide)).2.1 kq) ?_
          show G T19 (mkF m 61 #[.val (.ref p0), .val (.int (2 : Int32)), .val (.ref b18), .val (.int (1 : Int32)), .val (.ref p0), .val (.int (4 : Int32)), .val (.int (3 : Int32)), .val (.int (f 2))] [])
          refine hp (fun tq kq => XS.aload X19.here hx rfl (hb hby d1_61) rfl rfl kq) ?_
          show G T19 (mkF m 63 #[.val (.ref p0), .val (.int (2 : Int32)), .val (.ref b18), .val (.int (1 : Int32)), .val (.ref p0), .val (.int (4 : Int32)), .val (.int (3 : Int32)), .val (.int (f 2))] [(.ref p0)])
          refine hp (fun tq kq => XS.iload X19.here hx rfl (hb hby d1_63) rfl kq) ?_
          show G T19 (mkF m 65 #[.val (.ref p0), .val (.int (2 : Int32)), .val (.ref b18), .val (.int (1 : Int32)), .val (.ref p0), .val (.int (4 : Int32)), .val (.int (3 : Int32)), .val (.int (f 2))] [(.int (3 : Int32)), (.ref p0)])
          refine hp (own_ldI X19 hx hZ e19 V19_p0 (j := (3 : Int32)) 3 (by decide) (by decide) (by decide) (g := (mkF m 65 #[.val (.ref p0), .val (.int (2 : Int32)), .val (.ref b18), .val (.int (1 : Int32)), .val (.ref p0), .val (.int (4 : Int32)), .val (.int (3 : Int32)), .val (.int (f 2))] [(.int (3 : Int32)), (.ref p0)])) rfl rfl (hb hby d1_65)) ?_
          show G T19 (mkF m 66 #[.val (.ref p0), .val (.int (2 : Int32)), .val (.ref b18), .val (.int (1 : Int32)), .val (.ref p0), .val (.int (4 : Int32)), .val (.int (3 : Int32)), .val (.int (f 2))] [(.int (f 3))])
          refine hp (fun tq kq => XS.istore X19.here hx rfl (hb hby d1_66) rfl (l' := #[.val (.ref p0), .val (.int (2 : Int32)), .val (.ref b18), .val (.int (1 : Int32)), .val (.ref p0), .val (.int (4 : Int32)), .val (.int (3 : Int32)), .val (.int (f 3))]) rfl kq) ?_
          show G T19 (mkF m 68 #[.val (.ref p0), .val (.int (2 : Int32)), .val (.ref b18), .val (.int (1 : Int32)), .val (.ref p0), .val (.int (4 : Int32)), .val (.int (3 : Int32)), .val (.int (f 3))] [])
          refine hp (fun tq kq => XS.iload X19.here hx rfl (hb hby d1_68) rfl kq) ?_
          show G T19 (mkF m 70 #[.val (.ref p0), .val (.int (2 : Int32)), .val (.ref b18), .val (.int (1 : Int32)), .val (.ref p0), .val (.int (4 : Int32)), .val (.int (3 : Int32)), .val (.int (f 3))] [(.int (f 3))])
          refine hp (fun tq kq => XS.iconst X19.here hx rfl (hb hby d1_70) kq) ?_
          show G T19 (mkF m 71 #[.val (.ref p0), .val (.int (2 : Int32)), .val (.ref b18), .val (.int (1 : Int32)), .val (.ref p0), .val (.int (4 : Int32)), .val (.int (3 : Int32)), .val (.int (f 3))] [(.int (-1 : Int32)), (.int (f 3))])
          refine hp (fun tq kq => XS.icmpNo X19.here hx rfl (hb hby d1_71) rfl (feq hb15).1 kq) ?_
          show G T19 (mkF m 74 #[.val (.ref p0), .val (.int (2 : Int32)), .val (.ref b18), .val (.int (1 : Int32)), .val (.ref p0), .val (.int (4 : Int32)), .val (.int (3 : Int32)), .val (.int (f 3))] [])
          refine hp (fun tq kq => XS.aloadN X19.here hx rfl (hb hby d1_74) rfl rfl kq) ?_
          show G T19 (mkF m 75 #[.val (.ref p0), .val (.int (2 : Int32)), .val (.ref b18), .val (.int (1 : Int32)), .val (.ref p0), .val (.int (4 : Int32)), .val (.int (3 : Int32)), .val (.int (f 3))] [(.ref b18)])
          refine hp (fun tq kq => XS.iloadN X19.here hx rfl (hb hby d1_75) rfl kq) ?_
          show G T19 (mkF m 76 #[.val (.ref p0), .val (.int (2 : Int32)), .val (.ref b18), .val (.int (1 : Int32)), .val (.ref p0), .val (.int (4 : Int32)), .val (.int (3 : Int32)), .val (.int (f 3))] [(.int (1 : Int32)), (.ref b18)])
          refine hp (fun tq kq => XS.iload X19.here hx rfl (hb hby d1_76) rfl kq) ?_
          show G T19 (mkF m 78 #[.val (.ref p0), .val (.int (2 : Int32)), .val (.ref b18), .val (.int (1 : Int32)), .val (.ref p0), .val (.int (4 : Int32)), .val (.int (3 : Int32)), .val (.int (f 3))] [(.int (f 3)), (.int (1 : Int32)), (.ref b18)])
          obtain ⟨T20, h20, X20, e20, W20, V20_b18, st20⟩ := own_stI X19 hx hZ e19 V19_b18 (j := (1 : Int32)) 1 (by decide) (by decide) (by decide) (g := (mkF m 78 #[.val (.ref p0), .val (.int (2 : Int32)), .val (.ref b18), .val (.int (1 : Int32)), .val (.ref p0), .val (.int (4 : Int32)), .val (.int (3 : Int32)), .val (.int (f 3))] [(.int (f 3)), (.int (1 : Int32)), (.ref b18)])) rfl rfl (hb hby d1_78)
          have V20_p0 := V19_p0.other W20 ne18_p0
          have K20 := K19.wr W20 (Or.inr sz_b18)
          have N20 := Fr.snoc X20 N19 g_b18
          refine hp st20 ?_
          show G T20 (mkF m 79 #[.val (.ref p0), .val (.int (2 : Int32)), .val (.ref b18), .val (.int (1 : Int32)), .val (.ref p0), .val (.int (4 : Int32)), .val (.int (3 : Int32)), .val (.int (f 3))] [])
          refine hp (fun tq kq => XS.iinc X20.here hx rfl (hb hby d1_79) rfl (l' := #[.val (.ref p0), .val (.int (2 : Int32)), .val (.ref b18), .val (.int (2 : Int32)), .val (.ref p0), .val (.int (4 : Int32)), .val (.int (3 : Int32)), .val (.int (f 3))]) rfl kq) ?_
          show G T20 (mkF m 82 #[.val (.ref p0), .val (.int (2 : Int32)), .val (.ref b18), .val (.int (2 : Int32)), .val (.ref p0), .val (.int (4 : Int32)), .val (.int (3 : Int32)), .val (.int (f 3))] [])
          refine hp (fun tq kq => XS.iinc X20.here hx rfl (hb hby d1_82) rfl (l' := #[.val (.ref p0), .val (.int (2 : Int32)), .val (.ref b18), .val (.int (2 : Int32)), .val (.ref p0), .val (.int (4 : Int32)), .val (.int (4 : Int32)), .val (.int (f 3))]) rfl kq) ?_
          show G T20 (mkF m 85 #[.val (.ref p0), .val (.int (2 : Int32)), .val (.ref b18), .val (.int (2 : Int32)), .val (.ref p0), .val (.int (4 : Int32)), .val (.int (4 : Int32)), .val (.int (f 3))] [])
          refine hp (fun tq kq => XS.goto X20.here hx rfl (pc0 := 85) (pc' := 54) rfl (hb hby d1_85) (by decide) (by decide) kq) ?_
          show G T20 (mkF m 54 #[.val (.ref p0), .val (.int (2 : Int32)), .val (.ref b18), .val (.int (2 : Int32)), .val (.ref p0), .val (.int (4 : Int32)), .val (.int (4 : Int32)), .val (.int (f 3))] [])
          refine hp (fun tq kq => XS.iload X20.here hx rfl (hb hby d1_54) rfl kq) ?_
          show G T20 (mkF m 56 #[.val (.ref p0), .val (.int (2 : Int32)), .val (.ref b18), .val (.int (2 : Int32)), .val (.ref p0), .val (.int (4 : Int32)), .val (.int (4 : Int32)), .val (.int (f 3))] [(.int (4 : Int32))])
          refine hp (fun tq kq => XS.iload X20.here hx rfl (hb hby d1_56) rfl kq) ?_
          show G T20 (mkF m 58 #[.val (.ref p0), .val (.int (2 : Int32)), .val (.ref b18), .val (.int (2 : Int32)), .val (.ref p0), .val (.int (4 : Int32)), .val (.int (4 : Int32)), .val (.int (f 3))] [(.int (4 : Int32)), (.int (4 : Int32))])
          refine hp (fun tq kq => XS.icmpYes X20.here hx rfl (pc0 := 58) (pc' := 88) rfl (hb hby d1_58) rfl (flt (by decide)).2.1 (by decide) (by decide) kq) ?_
          show G T20 (mkF m 88 #[.val (.ref p0), .val (.int (2 : Int32)), .val (.ref b18), .val (.int (2 : Int32)), .val (.ref p0), .val (.int (4 : Int32)), .val (.int (4 : Int32)), .val (.int (f 3))] [])
          refine hp (fun tq kq => XS.aloadN X20.here hx rfl (hb hby d1_88) rfl rfl kq) ?_
          show G T20 (mkF m 89 #[.val (.ref p0), .val (.int (2 : Int32)), .val (.ref b18), .val (.int (2 : Int32)), .val (.ref p0), .val (.int (4 : Int32)), .val (.int (4 : Int32)), .val (.int (f 3))] [(.ref b18)])
          exact hR X20 (fun fs hl => own_retA X20 hx hret rfl (hb hby d1_89) hl) (fun q => by rw [hret] at q; cases q) (by rw [e20]; exact ⟨b18, 2, (own_up (own_up (fun _ => (0 : Int32)) 0 (f 1)) 1 (f 3)), rfl, N20, K20, sz_b18, V20_b18, own_seld (l := [(f 1), (f 3)]) (own_sel_of (a := []) (b := [f 1]) (c := []) (d := [f 3]) (if_pos hb1) (if_neg hb2) (if_pos hb14) (if_neg hb15)) rfl (own_pick2 rfl rfl rfl)⟩) (by decide) (by decide)
      · refine hp (fun tq kq => XS.icmpNo X0.here hx rfl (hb hby d1_25) rfl (feq hb14).1 kq) ?_
        show G s₁ (mkF m 28 #[.val (.ref p0), .val (.int (1 : Int32)), .val (.ref p0), .val (.int (4 : Int32)), .val (.int (2 : Int32)), .val (.int (f 2)), .unset, .unset] [])
        refine hp (fun tq kq => XS.iinc X0.here hx rfl (hb hby d1_28) rfl (l' := #[.val (.ref p0), .val (.int (2 : Int32)), .val (.ref p0), .val (.int (4 : Int32)), .val (.int (2 : Int32)), .val (.int (f 2)), .unset, .unset]) rfl kq) ?_
        show G s₁ (mkF m 31 #[.val (.ref p0), .val (.int (2 : Int32)), .val (.ref p0), .val (.int (4 : Int32)), .val (.int (2 : Int32)), .val (.int (f 2)), .unset, .unset] [])
        refine hp (fun tq kq => XS.iinc X0.here hx rfl (hb hby d1_31) rfl (l' := #[.val (.ref p0), .val (.int (2 : Int32)), .val (.ref p0), .val (.int (4 : Int32)), .val (.int (3 : Int32)), .val (.int (f 2)), .unset, .unset]) rfl kq) ?_
        show G s₁ (mkF m 34 #[.val (.ref p0), .val (.int (2 : Int32)), .val (.ref p0), .val (.int (4 : Int32)), .val (.int (3 : Int32)), .val (.int (f 2)), .unset, .unset] [])
        refine hp (fun tq kq => XS.goto X0.here hx rfl (pc0 := 34) (pc' := 10) rfl (hb hby d1_34) (by decide) (by decide) kq) ?_
        show G s₁ (mkF m 10 #[.val (.ref p0), .val (.int (2 : Int32)), .val (.ref p0), .val (.int (4 : Int32)), .val (.int (3 : Int32)), .val (.int (f 2)), .unset, .unset] [])
        refine hp (fun tq kq => XS.iload X0.here hx rfl (hb hby d1_10) rfl kq) ?_
        show G s₁ (mkF m 12 #[.val (.ref p0), .val (.int (2 : Int32)), .val (.ref p0), .val (.int (4 : Int32)), .val (.int (3 : Int32)), .val (.int (f 2)), .unset, .unset] [(.int (3 : Int32))])
        refine hp (fun tq kq => XS.iloadN X0.here hx rfl (hb hby d1_12) rfl kq) ?_
        show G s₁ (mkF m 13 #[.val (.ref p0), .val (.int (2 : Int32)), .val (.ref p0), .val (.int (4 : Int32)), .val (.int (3 : Int32)), .val (.int (f 2)), .unset, .unset] [(.int (4 : Int32)), (.int (3 : Int32))])
        refine hp (fun tq kq => XS.icmpNo X0.here hx rfl (hb hby d1_13) rfl (tlt (by decide)).2.1 kq) ?_
        show G s₁ (mkF m 16 #[.val (.ref p0), .val (.int (2 : Int32)), .val (.ref p0), .val (.int (4 : Int32)), .val (.int (3 : Int32)), .val (.int (f 2)), .unset, .unset] [])
        refine hp (fun tq kq => XS.aloadN X0.here hx rfl (hb hby d1_16) rfl rfl kq) ?_
        show G s₁ (mkF m 17 #[.val (.ref p0), .val (.int (2 : Int32)), .val (.ref p0), .val (.int (4 : Int32)), .val (.int (3 : Int32)), .val (.int (f 2)), .unset, .unset] [(.ref p0)])
        refine hp (fun tq kq => XS.iload X0.here hx rfl (hb hby d1_17) rfl kq) ?_
        show G s₁ (mkF m 19 #[.val (.ref p0), .val (.int (2 : Int32)), .val (.ref p0), .val (.int (4 : Int32)), .val (.int (3 : Int32)), .val (.int (f 2)), .unset, .unset] [(.int (3 : Int32)), (.ref p0)])
        refine hp (own_ldI X0 hx hZ e0 V_p0 (j := (3 : Int32)) 3 (by decide) (by decide) (by decide) (g := (mkF m 19 #[.val (.ref p0), .val (.int (2 : Int32)), .val (.ref p0), .val (.int (4 : Int32)), .val (.int (3 : Int32)), .val (.int (f 2)), .unset, .unset] [(.int (3 : Int32)), (.ref p0)])) rfl rfl (hb hby d1_19)) ?_
        show G s₁ (mkF m 20 #[.val (.ref p0), .val (.int (2 : Int32)), .val (.ref p0), .val (.int (4 : Int32)), .val (.int (3 : Int32)), .val (.int (f 2)), .unset, .unset] [(.int (f 3))])
        refine hp (fun tq kq => XS.istore X0.here hx rfl (hb hby d1_20) rfl (l' := #[.val (.ref p0), .val (.int (2 : Int32)), .val (.ref p0), .val (.int (4 : Int32)), .val (.int (3 : Int32)), .val (.int (f 3)), .unset, .unset]) rfl kq) ?_
        show G s₁ (mkF m 22 #[.val (.ref p0), .val (.int (2 : Int32)), .val (.ref p0), .val (.int (4 : Int32)), .val (.int (3 : Int32)), .val (.int (f 3)), .unset, .unset] [])
        refine hp (fun tq kq => XS.iload X0.here hx rfl (hb hby d1_22) rfl kq) ?_
        show G s₁ (mkF m 24 #[.val (.ref p0), .val (.int (2 : Int32)), .val (.ref p0), .val (.int (4 : Int32)), .val (.int (3 : Int32)), .val (.int (f 3)), .unset, .unset] [(.int (f 3))])
        refine hp (fun tq kq => XS.iconst X0.here hx rfl (hb hby d1_24) kq) ?_
        show G s₁ (mkF m 25 #[.val (.ref p0), .val (.int (2 : Int32)), .val (.ref p0), .val (.int (4 : Int32)), .val (.int (3 : Int32)), .val (.int (f 3)), .unset, .unset] [(.int (-1 : Int32)), (.int (f 3))])
        by_cases hb21 : (f 3) = (-1 : Int32)
        · refine hp (fun tq kq => XS.icmpYes X0.here hx rfl (pc0 := 25) (pc' := 31) rfl (hb hby d1_25) rfl (teq hb21).1 (by decide) (by decide) kq) ?_
          show G s₁ (mkF m 31 #[.val (.ref p0), .val (.int (2 : Int32)), .val (.ref p0), .val (.int (4 : Int32)), .val (.int (3 : Int32)), .val (.int (f 3)), .unset, .unset] [])
          refine hp (fun tq kq => XS.iinc X0.here hx rfl (hb hby d1_31) rfl (l' := #[.val (.ref p0), .val (.int (2 : Int32)), .val (.ref p0), .val (.int (4 : Int32)), .val (.int (4 : Int32)), .val (.int (f 3)), .unset, .unset]) rfl kq) ?_
          show G s₁ (mkF m 34 #[.val (.ref p0), .val (.int (2 : Int32)), .val (.ref p0), .val (.int (4 : Int32)), .val (.int (4 : Int32)), .val (.int (f 3)), .unset, .unset] [])
          refine hp (fun tq kq => XS.goto X0.here hx rfl (pc0 := 34) (pc' := 10) rfl (hb hby d1_34) (by decide) (by decide) kq) ?_
          show G s₁ (mkF m 10 #[.val (.ref p0), .val (.int (2 : Int32)), .val (.ref p0), .val (.int (4 : Int32)), .val (.int (4 : Int32)), .val (.int (f 3)), .unset, .unset] [])
          refine hp (fun tq kq => XS.iload X0.here hx rfl (hb hby d1_10) rfl kq) ?_
          show G s₁ (mkF m 12 #[.val (.ref p0), .val (.int (2 : Int32)), .val (.ref p0), .val (.int (4 : Int32)), .val (.int (4 : Int32)), .val (.int (f 3)), .unset, .unset] [(.int (4 : Int32))])
          refine hp (fun tq kq => XS.iloadN X0.here hx rfl (hb hby d1_12) rfl kq) ?_
          show G s₁ (mkF m 13 #[.val (.ref p0), .val (.int (2 : Int32)), .val (.ref p0), .val (.int (4 : Int32)), .val (.int (4 : Int32)), .val (.int (f 3)), .unset, .unset] [(.int (4 : Int32)), (.int (4 : Int32))])
          refine hp (fun tq kq => XS.icmpYes X0.here hx rfl (pc0 := 13) (pc' := 37) rfl (hb hby d1_13) rfl (flt (by decide)).2.1 (by decide) (by decide) kq) ?_
          show G s₁ (mkF m 37 #[.val (.ref p0), .val (.int (2 : Int32)), .val (.ref p0), .val (.int (4 : Int32)), .val (.int (4 : Int32)), .val (.int (f 3)), .unset, .unset] [])
          refine hp (fun tq kq => XS.iloadN X0.here hx rfl (hb hby d1_37) rfl kq) ?_
          show G s₁ (mkF m 38 #[.val (.ref p0), .val (.int (2 : Int32)), .val (.ref p0), .val (.int (4 : Int32)), .val (.int (4 : Int32)), .val (.int (f 3)), .unset, .unset] [(.int (2 : Int32))])
          obtain ⟨T22, h22, k22, X22, e22, E22, A22, st22⟩ := newP X0 hx hZ (hw _ (List.mem_of_getElem? (i := 1) rfl)) e0 (g := (mkF m 38 #[.val (.ref p0), .val (.int (2 : Int32)), .val (.ref p0), .val (.int (4 : Int32)), .val (.int (4 : Int32)), .val (.int (f 3)), .unset, .unset] [(.int (2 : Int32))])) rfl (hb hby d1_38) rfl (by decide) (cap := 2) (by decide) (by decide) (by decide) (by decide)
          obtain ⟨b22, g22⟩ : ∃ z, z = h0.size := ⟨_, rfl⟩
          rw [← g22] at A22 st22
          have ne22_p0 : p0 ≠ b22 := Nat.ne_of_lt (Nat.lt_of_lt_of_le V_p0.lt (Nat.le_of_eq g22.symm))
          have sz_b22 : h0.size ≤ b22 := Nat.le_trans K0.1 (Nat.le_of_eq g22.symm)
          have g_b22 : n0 ≤ b22 := Nat.le_trans Z0 sz_b22
          have V22_p0 := V_p0.ext E22
          have K22 := K0.ext E22
          have V22_b22 : own_AI Z h22 b22 .int 2 (fun _ => 0) := own_AI.new A22 (by decide) rfl 2 (by decide)
          refine hp st22 ?_
          show G T22 (mkF m 40 #[.val (.ref p0), .val (.int (2 : Int32)), .val (.ref p0), .val (.int (4 : Int32)), .val (.int (4 : Int32)), .val (.int (f 3)), .unset, .unset] [(.ref b22)])
          refine hp (fun tq kq => XS.astoreN X22.here hx rfl (hb hby d1_40) rfl rfl (l' := #[.val (.ref p0), .val (.int (2 : Int32)), .val (.ref b22), .val (.int (4 : Int32)), .val (.int (4 : Int32)), .val (.int (f 3)), .unset, .unset]) rfl kq) ?_
          show G T22 (mkF m 41 #[.val (.ref p0), .val (.int (2 : Int32)), .val (.ref b22), .val (.int (4 : Int32)), .val (.int (4 : Int32)), .val (.int (f 3)), .unset, .unset] [])
          refine hp (fun tq kq => XS.iconst X22.here hx rfl (hb hby d1_41) kq) ?_
          show G T22 (mkF m 42 #[.val (.ref p0), .val (.int (2 : Int32)), .val (.ref b22), .val (.int (4 : Int32)), .val (.int (4 : Int32)), .val (.int (f 3)), .unset, .unset] [(.int (0 : Int32))])
          refine hp (fun tq kq => XS.istoreN X22.here hx rfl (hb hby d1_42) rfl (l' := #[.val (.ref p0), .val (.int (2 : Int32)), .val (.ref b22), .val (.int (0 : Int32)), .val (.int (4 : Int32)), .val (.int (f 3)), .unset, .unset]) rfl kq) ?_
          show G T22 (mkF m 43 #[.val (.ref p0), .val (.int (2 : Int32)), .val (.ref b22), .val (.int (0 : Int32)), .val (.int (4 : Int32)), .val (.int (f 3)), .unset, .unset] [])
          refine hp (fun tq kq => XS.aloadN X22.here hx rfl (hb hby d1_43) rfl rfl kq) ?_
          show G T22 (mkF m 44 #[.val (.ref p0), .val (.int (2 : Int32)), .val (.ref b22), .val (.int (0 : Int32)), .val (.int (4 : Int32)), .val (.int (f 3)), .unset, .unset] [(.ref p0)])
          refine hp (fun tq kq => XS.astore X22.here hx rfl (hb hby d1_44) rfl rfl (l' := #[.val (.ref p0), .val (.int (2 : Int32)), .val (.ref b22), .val (.int (0 : Int32)), .val (.ref p0), .val (.int (f 3)), .unset, .unset]) rfl kq) ?_
          show G T22 (mkF m 46 #[.val (.ref p0), .val (.int (2 : Int32)), .val (.ref b22), .val (.int (0 : Int32)), .val (.ref p0), .val (.int (f 3)), .unset, .unset] [])
          refine hp (fun tq kq => XS.aload X22.here hx rfl (hb hby d1_46) rfl rfl kq) ?_
          show G T22 (mkF m 48 #[.val (.ref p0), .val (.int (2 : Int32)), .val (.ref b22), .val (.int (0 : Int32)), .val (.ref p0), .val (.int (f 3)), .unset, .unset] [(.ref p0)])
          refine hp (own_lenI X22 hx hZ e22 V22_p0 (4 : Int32) rfl (g := (mkF m 48 #[.val (.ref p0), .val (.int (2 : Int32)), .val (.ref b22), .val (.int (0 : Int32)), .val (.ref p0), .val (.int (f 3)), .unset, .unset] [(.ref p0)])) rfl rfl (hb hby d1_48)) ?_
          show G T22 (mkF m 49 #[.val (.ref p0), .val (.int (2 : Int32)), .val (.ref b22), .val (.int (0 : Int32)), .val (.ref p0), .val (.int (f 3)), .unset, .unset] [(.int (4 : Int32))])
          refine hp (fun tq kq => XS.istore X22.here hx rfl (hb hby d1_49) rfl (l' := #[.val (.ref p0), .val (.int (2 : Int32)), .val (.ref b22), .val (.int (0 : Int32)), .val (.ref p0), .val (.int (4 : Int32)), .unset, .unset]) rfl kq) ?_
          show G T22 (mkF m 51 #[.val (.ref p0), .val (.int (2 : Int32)), .val (.ref b22), .val (.int (0 : Int32)), .val (.ref p0), .val (.int (4 : Int32)), .unset, .unset] [])
          refine hp (fun tq kq => XS.iconst X22.here hx rfl (hb hby d1_51) kq) ?_
          show G T22 (mkF m 52 #[.val (.ref p0), .val (.int (2 : Int32)), .val (.ref b22), .val (.int (0 : Int32)), .val (.ref p0), .val (.int (4 : Int32)), .unset, .unset] [(.int (0 : Int32))])
          refine hp (fun tq kq => XS.istore X22.here hx rfl (hb hby d1_52) rfl (l' := #[.val (.ref p0), .val (.int (2 : Int32)), .val (.ref b22), .val (.int (0 : Int32)), .val (.ref p0), .val (.int (4 : Int32)), .val (.int (0 : Int32)), .unset]) rfl kq) ?_
          show G T22 (mkF m 54 #[.val (.ref p0), .val (.int (2 : Int32)), .val (.ref b22), .val (.int (0 : Int32)), .val (.ref p0), .val (.int (4 : Int32)), .val (.int (0 : Int32)), .unset] [])
          refine hp (fun tq kq => XS.iload X22.here hx rfl (hb hby d1_54) rfl kq) ?_
          show G T22 (mkF m 56 #[.val (.ref p0), .val (.int (2 : Int32)), .val (.ref b22), .val (.int (0 : Int32)), .val (.ref p0), .val (.int (4 : Int32)), .val (.int (0 : Int32)), .unset] [(.int (0 : Int32))])
          refine hp (fun tq kq => XS.iload X22.here hx rfl (hb hby d1_56) rfl kq) ?_
          show G T22 (mkF m 58 #[.val (.ref p0), .val (.int (2 : Int32)), .val (.ref b22), .val (.int (0 : Int32)), .val (.ref p0), .val (.int (4 : Int32)), .val (.int (0 : Int32)), .unset] [(.int (4 : Int32)), (.int (0 : Int32))])
          refine hp (fun tq kq => XS.icmpNo X22.here hx rfl (hb hby d1_58) rfl (tlt (by decide)).2.1 kq) ?_
          show G T22 (mkF m 61 #[.val (.ref p0), .val (.int (2 : Int32)), .val (.ref b22), .val (.int (0 : Int32)), .val (.ref p0), .val (.int (4 : Int32)), .val (.int (0 : Int32)), .unset] [])
          refine hp (fun tq kq => XS.aload X22.here hx rfl (hb hby d1_61) rfl rfl kq) ?_
          show G T22 (mkF m 63 #[.val (.ref p0), .val (.int (2 : Int32)), .val (.ref b22), .val (.int (0 : Int32)), .val (.ref p0), .val (.int (4 : Int32)), .val (.int (0 : Int32)), .unset] [(.ref p0)])
          refine hp (fun tq kq => XS.iload X22.here hx rfl (hb hby d1_63) rfl kq) ?_
          show G T22 (mkF m 65 #[.val (.ref p0), .val (.int (2 : Int32)), .val (.ref b22), .val (.int (0 : Int32)), .val (.ref p0), .val (.int (4 : Int32)), .val (.int (0 : Int32)), .unset] [(.int (0 : Int32)), (.ref p0)])
          refine hp (own_ldI X22 hx hZ e22 V22_p0 (j := (0 : Int32)) 0 (by decide) (by decide) (by decide) (g := (mkF m 65 #[.val (.ref p0), .val (.int (2 : Int32)), .val (.ref b22), .val (.int (0 : Int32)), .val (.ref p0), .val (.int (4 : Int32)), .val (.int (0 : Int32)), .unset] [(.int (0 : Int32)), (.ref p0)])) rfl rfl (hb hby d1_65)) ?_
          show G T22 (mkF m 66 #[.val (.ref p0), .val (.int (2 : Int32)), .val (.ref b22), .val (.int (0 : Int32)), .val (.ref p0), .val (.int (4 : Int32)), .val (.int (0 : Int32)), .unset] [(.int (f 0))])
          refine hp (fun tq kq => XS.istore X22.here hx rfl (hb hby d1_66) rfl (l' := #[.val (.ref p0), .val (.int (2 : Int32)), .val (.ref b22), .val (.int (0 : Int32)), .val (.ref p0), .val (.int (4 : Int32)), .val (.int (0 : Int32)), .val (.int (f 0))]) rfl kq) ?_
          show G T22 (mkF m 68 #[.val (.ref p0), .val (.int (2 : Int32)), .val (.ref b22), .val (.int (0 : Int32)), .val (.ref p0), .val (.int (4 : Int32)), .val (.int (0 : Int32)), .val (.int (f 0))] [])
          refine hp (fun tq kq => XS.iload X22.here hx rfl (hb hby d1_68) rfl kq) ?_
          show G T22 (mkF m 70 #[.val (.ref p0), .val (.int (2 : Int32)), .val (.ref b22), .val (.int (0 : Int32)), .val (.ref p0), .val (.int (4 : Int32)), .val (.int (0 : Int32)), .val (.int (f 0))] [(.int (f 0))])
          refine hp (fun tq kq => XS.iconst X22.here hx rfl (hb hby d1_70) kq) ?_
          show G T22 (mkF m 71 #[.val (.ref p0), .val (.int (2 : Int32)), .val (.ref b22), .val (.int (0 : Int32)), .val (.ref p0), .val (.int (4 : Int32)), .val (.int (0 : Int32)), .val (.int (f 0))] [(.int (-1 : Int32)), (.int (f 0))])
          refine hp (fun tq kq => XS.icmpYes X22.here hx rfl (pc0 := 71) (pc' := 82) rfl (hb hby d1_71) rfl (teq hb1).1 (by decide) (by decide) kq) ?_
          show G T22 (mkF m 82 #[.val (.ref p0), .val (.int (2 : Int32)), .val (.ref b22), .val (.int (0 : Int32)), .val (.ref p0), .val (.int (4 : Int32)), .val (.int (0 : Int32)), .val (.int (f 0))] [])
          refine hp (fun tq kq => XS.iinc X22.here hx rfl (hb hby d1_82) rfl (l' := #[.val (.ref p0), .val (.int (2 : Int32)), .val (.ref b22), .val (.int (0 : Int32)), .val (.ref p0), .val (.int (4 : Int32)), .val (.int (1 : Int32)), .val (.int (f 0))]) rfl kq) ?_
          show G T22 (mkF m 85 #[.val (.ref p0), .val (.int (2 : Int32)), .val (.ref b22), .val (.int (0 : Int32)), .val (.ref p0), .val (.int (4 : Int32)), .val (.int (1 : Int32)), .val (.int (f 0))] [])
          refine hp (fun tq kq => XS.goto X22.here hx rfl (pc0 := 85) (pc' := 54) rfl (hb hby d1_85) (by decide) (by decide) kq) ?_
          show G T22 (mkF m 54 #[.val (.ref p0), .val (.int (2 : Int32)), .val (.ref b22), .val (.int (0 : Int32)), .val (.ref p0), .val (.int (4 : Int32)), .val (.int (1 : Int32)), .val (.int (f 0))] [])
          refine hp (fun tq kq => XS.iload X22.here hx rfl (hb hby d1_54) rfl kq) ?_
          show G T22 (mkF m 56 #[.val (.ref p0), .val (.int (2 : Int32)), .val (.ref b22), .val (.int (0 : Int32)), .val (.ref p0), .val (.int (4 : Int32)), .val (.int (1 : Int32)), .val (.int (f 0))] [(.int (1 : Int32))])
          refine hp (fun tq kq => XS.iload X22.here hx rfl (hb hby d1_56) rfl kq) ?_
          show G T22 (mkF m 58 #[.val (.ref p0), .val (.int (2 : Int32)), .val (.ref b22), .val (.int (0 : Int32)), .val (.ref p0), .val (.int (4 : Int32)), .val (.int (1 : Int32)), .val (.int (f 0))] [(.int (4 : Int32)), (.int (1 : Int32))])
          refine hp (fun tq kq => XS.icmpNo X22.here hx rfl (hb hby d1_58) rfl (tlt (by decide)).2.1 kq) ?_
          show G T22 (mkF m 61 #[.val (.ref p0), .val (.int (2 : Int32)), .val (.ref b22), .val (.int (0 : Int32)), .val (.ref p0), .val (.int (4 : Int32)), .val (.int (1 : Int32)), .val (.int (f 0))] [])
          refine hp (fun tq kq => XS.aload X22.here hx rfl (hb hby d1_61) rfl rfl kq) ?_
          show G T22 (mkF m 63 #[.val (.ref p0), .val (.int (2 : Int32)), .val (.ref b22), .val (.int (0 : Int32)), .val (.ref p0), .val (.int (4 : Int32)), .val (.int (1 : Int32)), .val (.int (f 0))] [(.ref p0)])
          refine hp (fun tq kq => XS.iload X22.here hx rfl (hb hby d1_63) rfl kq) ?_
          show G T22 (mkF m 65 #[.val (.ref p0), .val (.int (2 : Int32)), .val (.ref b22), .val (.int (0 : Int32)), .val (.ref p0), .val (.int (4 : Int32)), .val (.int (1 : Int32)), .val (.int (f 0))] [(.int (1 : Int32)), (.ref p0)])
          refine hp (own_ldI X22 hx hZ e22 V22_p0 (j := (1 : Int32)) 1 (by decide) (by decide) (by decide) (g := (mkF m 65 #[.val (.ref p0), .val (.int (2 : Int32)), .val (.ref b22), .val (.int (0 : Int32)), .val (.ref p0), .val (.int (4 : Int32)), .val (.int (1 : Int32)), .val (.int (f 0))] [(.int (1 : Int32)), (.ref p0)])) rfl rfl (hb hby d1_65)) ?_
          show G T22 (mkF m 66 #[.val (.ref p0), .val (.int (2 : Int32)), .val (.ref b22), .val (.int (0 : Int32)), .val (.ref p0), .val (.int (4 : Int32)), .val (.int (1 : Int32)), .val (.int (f 0))] [(.int (f 1))])
          refine hp (fun tq kq => XS.istore X22.here hx rfl (hb hby d1_66) rfl (l' := #[.val (.ref p0), .val (.int (2 : Int32)), .val (.ref b22), .val (.int (0 : Int32)), .val (.ref p0), .val (.int (4 : Int32)), .val (.int (1 : Int32)), .val (.int (f 1))]) rfl kq) ?_
          show G T22 (mkF m 68 #[.val (.ref p0), .val (.int (2 : Int32)), .val (.ref b22), .val (.int (0 : Int32)), .val (.ref p0), .val (.int (4 : Int32)), .val (.int (1 : Int32)), .val (.int (f 1))] [])
          refine hp (fun tq kq => XS.iload X22.here hx rfl (hb hby d1_68) rfl kq) ?_
          show G T22 (mkF m 70 #[.val (.ref p0), .val (.int (2 : Int32)), .val (.ref b22), .val (.int (0 : Int32)), .val (.ref p0), .val (.int (4 : Int32)), .val (.int (1 : Int32)), .val (.int (f 1))] [(.int (f 1))])
          refine hp (fun tq kq => XS.iconst X22.here hx rfl (hb hby d1_70) kq) ?_
          show G T22 (mkF m 71 #[.val (.ref p0), .val (.int (2 : Int32)), .val (.ref b22), .val (.int (0 : Int32)), .val (.ref p0), .val (.int (4 : Int32)), .val (.int (1 : Int32)), .val (.int (f 1))] [(.int (-1 : Int32)), (.int (f 1))])
          refine hp (fun tq kq => XS.icmpNo X22.here hx rfl (hb hby d1_71) rfl (feq hb2).1 kq) ?_
          show G T22 (mkF m 74 #[.val (.ref p0), .val (.int (2 : Int32)), .val (.ref b22), .val (.int (0 : Int32)), .val (.ref p0), .val (.int (4 : Int32)), .val (.int (1 : Int32)), .val (.int (f 1))] [])
          refine hp (fun tq kq => XS.aloadN X22.here hx rfl (hb hby d1_74) rfl rfl kq) ?_
          show G T22 (mkF m 75 #[.val (.ref p0), .val (.int (2 : Int32)), .val (.ref b22), .val (.int (0 : Int32)), .val (.ref p0), .val (.int (4 : Int32)), .val (.int (1 : Int32)), .val (.int (f 1))] [(.ref b22)])
          refine hp (fun tq kq => XS.iloadN X22.here hx rfl (hb hby d1_75) rfl kq) ?_
          show G T22 (mkF m 76 #[.val (.ref p0), .val (.int (2 : Int32)), .val (.ref b22), .val (.int (0 : Int32)), .val (.ref p0), .val (.int (4 : Int32)), .val (.int (1 : Int32)), .val (.int (f 1))] [(.int (0 : Int32)), (.ref b22)])
          refine hp (fun tq kq => XS.iload X22.here hx rfl (hb hby d1_76) rfl kq) ?_
          show G T22 (mkF m 78 #[.val (.ref p0), .val (.int (2 : Int32)), .val (.ref b22), .val (.int (0 : Int32)), .val (.ref p0), .val (.int (4 : Int32)), .val (.int (1 : Int32)), .val (.int (f 1))] [(.int (f 1)), (.int (0 : Int32)), (.ref b22)])
          obtain ⟨T23, h23, X23, e23, W23, V23_b22, st23⟩ := own_stI X22 hx hZ e22 V22_b22 (j := (0 : Int32)) 0 (by decide) (by decide) (by decide) (g := (mkF m 78 #[.val (.ref p0), .val (.int (2 : Int32)), .val (.ref b22), .val (.int (0 : Int32)), .val (.ref p0), .val (.int (4 : Int32)), .val (.int (1 : Int32)), .val (.int (f 1))] [(.int (f 1)), (.int (0 : Int32)), (.ref b22)])) rfl rfl (hb hby d1_78)
          have V23_p0 := V22_p0.other W23 ne22_p0
          have K23 := K22.wr W23 (Or.inr sz_b22)
          have N23 := Fr.snoc X23 N0 g_b22
          refine hp st23 ?_
          show G T23 (mkF m 79 #[.val (.ref p0), .val (.int (2 : Int32)), .val (.ref b22), .val (.int (0 : Int32)), .val (.ref p0), .val (.int (4 : Int32)), .val (.int (1 : Int32)), .val (.int (f 1))] [])
          refine hp (fun tq kq => XS.iinc X23.here hx rfl (hb hby d1_79) rfl (l' := #[.val (.ref p0), .val (.int (2 : Int32)), .val (.ref b22), .val (.int (1 : Int32)), .val (.ref p0), .val (.int (4 : Int32)), .val (.int (1 : Int32)), .val (.int (f 1))]) rfl kq) ?_
          show G T23 (mkF m 82 #[.val (.ref p0), .val (.int (2 : Int32)), .val (.ref b22), .val (.int (1 : Int32)), .val (.ref p0), .val (.int (4 : Int32)), .val (.int (1 : Int32)), .val (.int (f 1))] [])
          refine hp (fun tq kq => XS.iinc X23.here hx rfl (hb hby d1_82) rfl (l' := #[.val (.ref p0), .val (.int (2 : Int32)), .val (.ref b22), .val (.int (1 : Int32)), .val (.ref p0), .val (.int (4 : Int32)), .val (.int (2 : Int32)), .val (.int (f 1))]) rfl kq) ?_
          show G T23 (mkF m 85 #[.val (.ref p0), .val (.int (2 : Int32)), .val (.ref b22), .val (.int (1 : Int32)), .val (.ref p0), .val (.int (4 : Int32)), .val (.int (2 : Int32)), .val (.int (f 1))] [])
          refine hp (fun tq kq => XS.goto X23.here hx rfl (pc0 := 85) (pc' := 54) rfl (hb hby d1_85) (by decide) (by decide) kq) ?_
          show G T23 (mkF m 54 #[.val (.ref p0), .val (.int (2 : Int32)), .val (.ref b22), .val (.int (1 : Int32)), .val (.ref p0), .val (.int (4 : Int32)), .val (.int (2 : Int32)), .val (.int (f 1))] [])
          refine hp (fun tq kq => XS.iload X23.here hx rfl (hb hby d1_54) rfl kq) ?_
          show G T23 (mkF m 56 #[.val (.ref p0), .val (.int (2 : Int32)), .val (.ref b22), .val (.int (1 : Int32)), .val (.ref p0), .val (.int (4 : Int32)), .val (.int (2 : Int32)), .val (.int (f 1))] [(.int (2 : Int32))])
          refine hp (fun tq kq => XS.iload X23.here hx rfl (hb hby d1_56) rfl kq) ?_
          show G T23 (mkF m 58 #[.val (.ref p0), .val (.int (2 : Int32)), .val (.ref b22), .val (.int (1 : Int32)), .val (.ref p0), .val (.int (4 : Int32)), .val (.int (2 : Int32)), .val (.int (f 1))] [(.int (4 : Int32)), (.int (2 : Int32))])
          refine hp (fun tq kq => XS.icmpNo X23.here hx rfl (hb hby d1_58) rfl (tlt (by decide)).2.1 kq) ?_
          show G T23 (mkF m 61 #[.val (.ref p0), .val (.int (2 : Int32)), .val (.ref b22), .val (.int (1 : Int32)), .val (.ref p0), .val (.int (4 : Int32)), .val (.int (2 : Int32)), .val (.int (f 1))] [])
          refine hp (fun tq kq => XS.aload X23.here hx rfl (hb hby d1_61) rfl rfl kq) ?_
          show G T23 (mkF m 63 #[.val (.ref p0), .val (.int (2 : Int32)), .val (.ref b22), .val (.int (1 : Int32)), .val (.ref p0), .val (.int (4 : Int32)), .val (.int (2 : Int32)), .val (.int (f 1))] [(.ref p0)])
          refine hp (fun tq kq => XS.iload X23.here hx rfl (hb hby d1_63) rfl kq) ?_
          show G T23 (mkF m 65 #[.val (.ref p0), .val (.int (2 : Int32)), .val (.ref b22), .val (.int (1 : Int32)), .val (.ref p0), .val (.int (4 : Int32)), .val (.int (2 : Int32)), .val (.int (f 1))] [(.int (2 : Int32)), (.ref p0)])
          refine hp (own_ldI X23 hx hZ e23 V23_p0 (j := (2 : Int32)) 2 (by decide) (by decide) (by decide) (g := (mkF m 65 #[.val (.ref p0), .val (.int (2 : Int32)), .val (.ref b22), .val (.int (1 : Int32)), .val (.ref p0), .val (.int (4 : Int32)), .val (.int (2 : Int32)), .val (.int (f 1))] [(.int (2 : Int32)), (.ref p0)])) rfl rfl (hb hby d1_65)) ?_
          show G T23 (mkF m 66 #[.val (.ref p0), .val (.int (2 : Int32)), .val (.ref b22), .val (.int (1 : Int32)), .val (.ref p0), .val (.int (4 : Int32)), .val (.int (2 : Int32)), .val (.int (f 1))] [(.int (f 2))])
          refine hp (fun tq kq => XS.istore X23.here hx rfl (hb hby d1_66) rfl (l' := #[.val (.ref p0), .val (.int (2 : Int32)), .val (.ref b22), .val (.int (1 : Int32)), .val (.ref p0), .val (.int (4 : Int32)), .val (.int (2 : Int32)), .val (.int (f 2))]) rfl kq) ?_
          show G T23 (mkF m 68 #[.val (.ref p0), .val (.int (2 : Int32)), .val (.ref b22), .val (.int (1 : Int32)), .val (.ref p0), .val (.int (4 : Int32)), .val (.int (2 : Int32)), .val (.int (f 2))] [])
          refine hp (fun tq kq => XS.iload X23.here hx rfl (hb hby d1_68) rfl kq) ?_
          show G T23 (mkF m 70 #[.val (.ref p0), .val (.int (2 : Int32)), .val (.ref b22), .val (.int (1 : Int32)), .val (.ref p0), .val (.int (4 : Int32)), .val (.int (2 : Int32)), .val (.int (f 2))] [(.int (f 2))])
          refine hp (fun tq kq => XS.iconst X23.here hx rfl (hb hby d1_70) kq) ?_
          show G T23 (mkF m 71 #[.val (.ref p0), .val (.int (2 : Int32)), .val (.ref b22), .val (.int (1 : Int32)), .val (.ref p0), .val (.int (4 : Int32)), .val (.int (2 : Int32)), .val (.int (f 2))] [(.int (-1 : Int32)), (.int (f 2))])
          refine hp (fun tq kq => XS.icmpNo X23.here hx rfl (hb hby d1_71) rfl (feq hb14).1 kq) ?_
          show G T23 (mkF m 74 #[.val (.ref p0), .val (.int (2 : Int32)), .val (.ref b22), .val (.int (1 : Int32)), .val (.ref p0), .val (.int (4 : Int32)), .val (.int (2 : Int32)), .val (.int (f 2))] [])
          refine hp (fun tq kq => XS.aloadN X23.here hx rfl (hb hby d1_74) rfl rfl kq) ?_
          show G T23 (mkF m 75 #[.val (.ref p0), .val (.int (2 : Int32)), .val (.ref b22), .val (.int (1 : Int32)), .val (.ref p0), .val (.int (4 : Int32)), .val (.int (2 : Int32)), .val (.int (f 2))] [(.ref b22)])
          refine hp (fun tq kq => XS.iloadN X23.here hx rfl (hb hby d1_75) rfl kq) ?_
          show G T23 (mkF m 76 #[.val (.ref p0), .val (.int (2 : Int32)), .val (.ref b22), .val (.int (1 : Int32)), .val (.ref p0), .val (.int (4 : Int32)), .val (.int (2 : Int32)), .val (.int (f 2))] [(.int (1 : Int32)), (.ref b22)])
          refine hp (fun tq kq => XS.iload X23.here hx rfl (hb hby d1_76) rfl kq) ?_
          show G T23 (mkF m 78 #[.val (.ref p0), .val (.int (2 : Int32)), .val (.ref b22), .val (.int (1 : Int32)), .val (.ref p0), .val (.int (4 : Int32)), .val (.int (2 : Int32)), .val (.int (f 2))] [(.int (f 2)), (.int (1 : Int32)), (.ref b22)])
          obtain ⟨T24, h24, X24, e24, W24, V24_b22, st24⟩ := own_stI X23 hx hZ e23 V23_b22 (j := (1 : Int32)) 1 (by decide) (by decide) (by decide) (g := (mkF m 78 #[.val (.ref p0), .val (.int (2 : Int32)), .val (.ref b22), .val (.int (1 : Int32)), .val (.ref p0), .val (.int (4 : Int32)), .val (.int (2 : Int32)), .val (.int (f 2))] [(.int (f 2)), (.int (1 : Int32)), (.ref b22)])) rfl rfl (hb hby d1_78)
          have V24_p0 := V23_p0.other W24 ne22_p0
          have K24 := K23.wr W24 (Or.inr sz_b22)
          have N24 := Fr.snoc X24 N23 g_b22
          refine hp st24 ?_
          show G T24 (mkF m 79 #[.val (.ref p0), .val (.int (2 : Int32)), .val (.ref b22), .val (.int (1 : Int32)), .val (.ref p0), .val (.int (4 : Int32)), .val (.int (2 : Int32)), .val (.int (f 2))] [])
          refine hp (fun tq kq => XS.iinc X24.here hx rfl (hb hby d1_79) rfl (l' := #[.val (.ref p0), .val (.int (2 : Int32)), .val (.ref b22), .val (.int (2 : Int32)), .val (.ref p0), .val (.int (4 : Int32)), .val (.int (2 : Int32)), .val (.int (f 2))]) rfl kq) ?_
          show G T24 (mkF m 82 #[.val (.ref p0), .val (.int (2 : Int32)), .val (.ref b22), .val (.int (2 : Int32)), .val (.ref p0), .val (.int (4 : Int32)), .val (.int (2 : Int32)), .val (.int (f 2))] [])
          refine hp (fun tq kq => XS.iinc X24.here hx rfl (hb hby d1_82) rfl (l' := #[.val (.ref p0), .val (.int (2 : Int32)), .val (.ref b22), .val (.int (2 : Int32)), .val (.ref p0), .val (.int (4 : Int32)), .val (.int (3 : Int32)), .val (.int (f 2))]) rfl kq) ?_
          show G T24 (mkF m 85 #[.val (.ref p0), .val (.int (2 : Int32)), .val (.ref b22), .val (.int (2 : Int32)), .val (.ref p0), .val (.int (4 : Int32)), .val (.int (3 : Int32)), .val (.int (f 2))] [])
          refine hp (fun tq kq => XS.goto X24.here hx rfl (pc0 := 85) (pc' := 54) rfl (hb hby d1_85) (by decide) (by decide) kq) ?_
          show G T24 (mkF m 54 #[.val (.ref p0), .val (.int (2 : Int32)), .val (.ref b22), .val (.int (2 : Int32)), .val (.ref p0), .val (.int (4 : Int32)), .val (.int (3 : Int32)), .val (.int (f 2))] [])
          refine hp (fun tq kq => XS.iload X24.here hx rfl (hb hby d1_54) rfl kq) ?_
          show G T24 (mkF m 56 #[.val (.ref p0), .val (.int (2 : Int32)), .val (.ref b22), .val (.int (2 : Int32)), .val (.ref p0), .val (.int (4 : Int32)), .val (.int (3 : Int32)), .val (.int (f 2))] [(.int (3 : Int32))])
          refine hp (fun tq kq => XS.iload X24.here hx rfl (hb hby d1_56) rfl kq) ?_
          show G T24 (mkF m 58 #[.val (.ref p0), .val (.int (2 : Int32)), .val (.ref b22), .val (.int (2 : Int32)), .val (.ref p0), .val (.int (4 : Int32)), .val (.int (3 : Int32)), .val (.int (f 2))] [(.int (4 : Int32)), (.int (3 : Int32))])
          refine hp (fun tq kq => XS.icmpNo X24.here hx rfl (hb hby d1_58) rfl (tlt (by decide)).2.1 kq) ?_
          show G T24 (mkF m 61 #[.val (.ref p0), .val (.int (2 : Int32)), .val (.ref b22), .val (.int (2 : Int32)), .val (.ref p0), .val (.int (4 : Int32)), .val (.int (3 : Int32)), .val (.int (f 2))] [])
          refine hp (fun tq kq => XS.aload X24.here hx rfl (hb hby d1_61) rfl rfl kq) ?_
          show G T24 (mkF m 63 #[.val (.ref p0), .val (.int (2 : Int32)), .val (.ref b22), .val (.int (2 : Int32)), .val (.ref p0), .val (.int (4 : Int32)), .val (.int (3 : Int32)), .val (.int (f 2))] [(.ref p0)])
          refine hp (fun tq kq => XS.iload X24.here hx rfl (hb hby d1_63) rfl kq) ?_
          show G T24 (mkF m 65 #[.val (.ref p0), .val (.int (2 : Int32)), .val (.ref b22), .val (.int (2 : Int32)), .val (.ref p0), .val (.int (4 : Int32)), .val (.int (3 : Int32)), .val (.int (f 2))] [(.int (3 : Int32)), (.ref p0)])
          refine hp (own_ldI X24 hx hZ e24 V24_p0 (j := (3 : Int32)) 3 (by decide) (by decide) (by decide) (g := (mkF m 65 #[.val (.ref p0), .val (.int (2 : Int32)), .val (.ref b22), .val (.int (2 : Int32)), .val (.ref p0), .val (.int (4 : Int32)), .val (.int (3 : Int32)), .val (.int (f 2))] [(.int (3 : Int32)), (.ref p0)])) rfl rfl (hb hby d1_65)) ?_
          show G T24 (mkF m 66 #[.val (.ref p0), .val (.int (2 : Int32)), .val (.ref b22), .val (.int (2 : Int32)), .val (.ref p0), .val (.int (4 : Int32)), .val (.int (3 : Int32)), .val (.int (f 2))] [(.int (f 3))])
          refine hp (fun tq kq => XS.istore X24.here hx rfl (hb hby d1_66) rfl (l' := #[.val (.ref p0), .val (.int (2 : Int32)), .val (.ref b22), .val (.int (2 : Int32)), .val (.ref p0), .val (.int (4 : Int32)), .val (.int (3 : Int32)), .val (.int (f 3))]) rfl kq) ?_
          show G T24 (mkF m 68 #[.val (.ref p0), .val (.int (2 : Int32)), .val (.ref b22), .val (.int (2 : Int32)), .val (.ref p0), .val (.int (4 : Int32)), .val (.int (3 : Int32)), .val (.int (f 3))] [])
          refine hp (fun tq kq => XS.iload X24.here hx rfl (hb hby d1_68) rfl kq) ?_
          show G T24 (mkF m 70 #[.val (.ref p0), .val (.int (2 : Int32)), .val (.ref b22), .val (.int (2 : Int32)), .val (.ref p0), .val (.int (4 : Int32)), .val (.int (3 : Int32)), .val (.int (f 3))] [(.int (f 3))])
          refine hp (fun tq kq => XS.iconst X24.here hx rfl (hb hby d1_70) kq) ?_
          show G T24 (mkF m 71 #[.val (.ref p0), .val (.int (2 : Int32)), .val (.ref b22), .val (.int (2 : Int32)), .val (.ref p0), .val (.int (4 : Int32)), .val (.int (3 : Int32)), .val (.int (f 3))] [(.int (-1 : Int32)), (.int (f 3))])
          refine hp (fun tq kq => XS.icmpYes X24.here hx rfl (pc0 := 71) (pc' := 82) rfl (hb hby d1_71) rfl (teq hb21).1 (by decide) (by decide) kq) ?_
          show G T24 (mkF m 82 #[.val (.ref p0), .val (.int (2 : Int32)), .val (.ref b22), .val (.int (2 : Int32)), .val (.ref p0), .val (.int (4 : Int32)), .val (.int (3 : Int32)), .val (.int (f 3))] [])
          refine hp (fun tq kq => XS.iinc X24.here hx rfl (hb hby d1_82) rfl (l' := #[.val (.ref p0), .val (.int (2 : Int32)), .val (.ref b22), .val (.int (2 : Int32)), .val (.ref p0), .val (.int (4 : Int32)), .val (.int (4 : Int32)), .val (.int (f 3))]) rfl kq) ?_
          show G T24 (mkF m 85 #[.val (.ref p0), .val (.int (2 : Int32)), .val (.ref b22), .val (.int (2 : Int32)), .val (.ref p0), .val (.int (4 : Int32)), .val (.int (4 : Int32)), .val (.int (f 3))] [])
          refine hp (fun tq kq => XS.goto X24.here hx rfl (pc0 := 85) (pc' := 54) rfl (hb hby d1_85) (by decide) (by decide) kq) ?_
          show G T24 (mkF m 54 #[.val (.ref p0), .val (.int (2 : Int32)), .val (.ref b22), .val (.int (2 : Int32)), .val (.ref p0), .val (.int (4 : Int32)), .val (.int (4 : Int32)), .val (.int (f 3))] [])
          refine hp (fun tq kq => XS.iload X24.here hx rfl (hb hby d1_54) rfl kq) ?_
          show G T24 (mkF m 56 #[.val (.ref p0), .val (.int (2 : Int32)), .val (.ref b22), .val (.int (2 : Int32)), .val (.ref p0), .val (.int (4 : Int32)), .val (.int (4 : Int32)), .val (.int (f 3))] [(.int (4 : Int32))])
          refine hp (fun tq kq => XS.iload X24.here hx rfl (hb hby d1_56) rfl kq) ?_
          show G T24 (mkF m 58 #[.val (.ref p0), .val (.int (2 : Int32)), .val (.ref b22), .val (.int (2 : Int32)), .val (.ref p0), .val (.int (4 : Int32)), .val (.int (4 : Int32)), .val (.int (f 3))] [(.int (4 : Int32)), (.int (4 : Int32))])
          refine hp (fun tq kq => XS.icmpYes X24.here hx rfl (pc0 := 58) (pc' := 88) rfl (hb hby d1_58) rfl (flt (by decide)).2.1 (by decide) (by decide) kq) ?_
          show G T24 (mkF m 88 #[.val (.ref p0), .val (.int (2 : Int32)), .val (.ref b22), .val (.int (2 : Int32)), .val (.ref p0), .val (.int (4 : Int32)), .val (.int (4 : Int32)), .val (.int (f 3))] [])
          refine hp (fun tq kq => XS.aloadN X24.here hx rfl (hb hby d1_88) rfl rfl kq) ?_
          show G T24 (mkF m 89 #[.val (.ref p0), .val (.int (2 : Int32)), .val (.ref b22), .val (.int (2 : Int32)), .val (.ref p0), .val (.int (4 : Int32)), .val (.int (4 : Int32)), .val (.int (f 3))] [(.ref b22)])
          exact hR X24 (fun fs hl => own_retA X24 hx hret rfl (hb hby d1_89) hl) (fun q => by rw [hret] at q; cases q) (by rw [e24]; exact ⟨b22, 2, (own_up (own_up (fun _ => (0 : Int32)) 0 (f 1)) 1 (f 2)), rfl, N24, K24, sz_b22, V24_b22, own_seld (l := [(f 1), (f 2)]) (own_sel_of (a := []) (b := [f 1]) (c := [f 2]) (d := []) (if_pos hb1) (if_neg hb2) (if_neg hb14) (if_pos hb21)) rfl (own_pick2 rfl rfl rfl)⟩) (by decide) (by decide)
        · refine hp (fun tq kq => XS.icmpNo X0.here hx rfl (hb hby d1_25) rfl (feq hb21).1 kq) ?_
          show G s₁ (mkF m 28 #[.val (.ref p0), .val (.int (2 : Int32)), .val (.ref p0), .val (.int (4 : Int32)), .val (.int (3 : Int32)), .val (.int (f 3)), .unset, .unset] [])
          refine hp (fun tq kq => XS.iinc X0.here hx rfl (hb hby d1_28) rfl (l' := #[.val (.ref p0), .val (.int (3 : Int32)), .val (.ref p0), .val (.int (4 : Int32)), .val (.int (3 : Int32)), .val (.int (f 3)), .unset, .unset]) rfl kq) ?_
          show G s₁ (mkF m 31 #[.val (.ref p0), .val (.int (3 : Int32)), .val (.ref p0), .val (.int (4 : Int32)), .val (.int (3 : Int32)), .val (.int (f 3)), .unset, .unset] [])
          refine hp (fun tq kq => XS.iinc X0.here hx rfl (hb hby d1_31) rfl (l' := #[.val (.ref p0), .val (.int (3 : Int32)), .val (.ref p0), .val (.int (4 : Int32)), .val (.int (4 : Int32)), .val (.int (f 3)), .unset, .unset]) rfl kq) ?_
          show G s₁ (mkF m 34 #[.val (.ref p0), .val (.int (3 : Int32)), .val (.ref p0), .val (.int (4 : Int32)), .val (.int (4 : Int32)), .val (.int (f 3)), .unset, .unset] [])
          refine hp (fun tq kq => XS.goto X0.here hx rfl (pc0 := 34) (pc' := 10) rfl (hb hby d1_34) (by decide) (by decide) kq) ?_
          show G s₁ (mkF m 10 #[.val (.ref p0), .val (.int (3 : Int32)), .val (.ref p0), .val (.int (4 : Int32)), .val (.int (4 : Int32)), .val (.int (f 3)), .unset, .unset] [])
          refine hp (fun tq kq => XS.iload X0.here hx rfl (hb hby d1_10) rfl kq) ?_
          show G s₁ (mkF m 12 #[.val (.ref p0), .val (.int (3 : Int32)), .val (.ref p0), .val (.int (4 : Int32)), .val (.int (4 : Int32)), .val (.int (f 3)), .unset, .unset] [(.int (4 : Int32))])
          refine hp (fun tq kq => XS.iloadN X0.here hx rfl (hb hby d1_12) rfl kq) ?_
          show G s₁ (mkF m 13 #[.val (.ref p0), .val (.int (3 : Int32)), .val (.ref p0), .val (.int (4 : Int32)), .val (.int (4 : Int32)), .val (.int (f 3)), .unset, .unset] [(.int (4 : Int32)), (.int (4 : Int32))])
          refine hp (fun tq kq => XS.icmpYes X0.here hx rfl (pc0 := 13) (pc' := 37) rfl (hb hby d1_13) rfl (flt (by decide)).2.1 (by decide) (by decide) kq) ?_
          show G s₁ (mkF m 37 #[.val (.ref p0), .val (.int (3 : Int32)), .val (.ref p0), .val (.int (4 : Int32)), .val (.int (4 : Int32)), .val (.int (f 3)), .unset, .unset] [])
          refine hp (fun tq kq => XS.iloadN X0.here hx rfl (hb hby d1_37) rfl kq) ?_
          show G s₁ (mkF m 38 #[.val (.ref p0), .val (.int (3 : Int32)), .val (.ref p0), .val (.int (4 : Int32)), .val (.int (4 : Int32)), .val (.int (f 3)), .unset, .unset] [(.int (3 : Int32))])
          obtain ⟨T25, h25, k25, X25, e25, E25, A25, st25⟩ := newP X0 hx hZ (hw _ (List.mem_of_getElem? (i := 1) rfl)) e0 (g := (mkF m 38 #[.val (.ref p0), .val (.int (3 : Int32)), .val (.ref p0), .val (.int (4 : Int32)), .val (.int (4 : Int32)), .val (.int (f 3)), .unset, .unset] [(.int (3 : Int32))])) rfl (hb hby d1_38) rfl (by decide) (cap := 3) (by decide) (by decide) (by decide) (by decide)
          obtain ⟨b25, g25⟩ : ∃ z, z = h0.size := ⟨_, rfl⟩
          rw [← g25] at A25 st25
          have ne25_p0 : p0 ≠ b25 := Nat.ne_of_lt (Nat.lt_of_lt_of_le V_p0.lt (Nat.le_of_eq g25.symm))
          have sz_b25 : h0.size ≤ b25 := Nat.le_trans K0.1 (Nat.le_of_eq g25.symm)
          have g_b25 : n0 ≤ b25 := Nat.le_trans Z0 sz_b25
          have V25_p0 := V_p0.ext E25
          have K25 := K0.ext E25
          have V25_b25 : own_AI Z h25 b25 .int 3 (fun _ => 0) := own_AI.new A25 (by decide) rfl 3 (by decide)
          refine hp st25 ?_
          show G T25 (mkF m 40 #[.val (.ref p0), .val (.int (3 : Int32)), .val (.ref p0), .val (.int (4 : Int32)), .val (.int (4 : Int32)), .val (.int (f 3)), .unset, .unset] [(.ref b25)])
          refine hp (fun tq kq => XS.astoreN X25.here hx rfl (hb hby d1_40) rfl rfl (l' := #[.val (.ref p0), .val (.int (3 : Int32)), .val (.ref b25), .val (.int (4 : Int32)), .val (.int (4 : Int32)), .val (.int (f 3)), .unset, .unset]) rfl kq) ?_
          show G T25 (mkF m 41 #[.val (.ref p0), .val (.int (3 : Int32)), .val (.ref b25), .val (.int (4 : Int32)), .val (.int (4 : Int32)), .val (.int (f 3)), .unset, .unset] [])
          refine hp (fun tq kq => XS.iconst X25.here hx rfl (hb hby d1_41) kq) ?_
          show G T25 (mkF m 42 #[.val (.ref p0), .val (.int (3 : Int32)), .val (.ref b25), .val (.int (4 : Int32)), .val (.int (4 : Int32)), .val (.int (f 3)), .unset, .unset] [(.int (0 : Int32))])
          refine hp (fun tq kq => XS.istoreN X25.here hx rfl (hb hby d1_42) rfl (l' := #[.val (.ref p0), .val (.int (3 : Int32)), .val (.ref b25), .val (.int (0 : Int32)), .val (.int (4 : Int32)), .val (.int (f 3)), .unset, .unset]) rfl kq) ?_
          show G T25 (mkF m 43 #[.val (.ref p0), .val (.int (3 : Int32)), .val (.ref b25), .val (.int (0 : Int32)), .val (.int (4 : Int32)), .val (.int (f 3)), .unset, .unset] [])
          refine hp (fun tq kq => XS.aloadN X25.here hx rfl (hb hby d1_43) rfl rfl kq) ?_
          show G T25 (mkF m 44 #[.val (.ref p0), .val (.int (3 : Int32)), .val (.ref b25), .val (.int (0 : Int32)), .val (.int (4 : Int32)), .val (.int (f 3)), .unset, .unset] [(.ref p0)])
          refine hp (fun tq kq => XS.astore X25.here hx rfl (hb hby d1_44) rfl rfl (l' := #[.val (.ref p0), .val (.int (3 : Int32)), .val (.ref b25), .val (.int (0 : Int32)), .val (.ref p0), .val (.int (f 3)), .unset, .unset]) rfl kq) ?_
          show G T25 (mkF m 46 #[.val (.ref p0), .val (.int (3 : Int32)), .val (.ref b25), .val (.int (0 : Int32)), .val (.ref p0), .val (.int (f 3)), .unset, .unset] [])
          refine hp (fun tq kq => XS.aload X25.here hx rfl (hb hby d1_46) rfl rfl kq) ?_
          show G T25 (mkF m 48 #[.val (.ref p0), .val (.int (3 : Int32)), .val (.ref b25), .val (.int (0 : Int32)), .val (.ref p0), .val (.int (f 3)), .unset, .unset] [(.ref p0)])
          refine hp (own_lenI X25 hx hZ e25 V25_p0 (4 : Int32) rfl (g := (mkF m 48 #[.val (.ref p0), .val (.int (3 : Int32)), .val (.ref b25), .val (.int (0 : Int32)), .val (.ref p0), .val (.int (f 3)), .unset, .unset] [(.ref p0)])) rfl rfl (hb hby d1_48)) ?_
          show G T25 (mkF m 49 #[.val (.ref p0), .val (.int (3 : Int32)), .val (.ref b25), .val (.int (0 : Int32)), .val (.ref p0), .val (.int (f 3)), .unset, .unset] [(.int (4 : Int32))])
          refine hp (fun tq kq => XS.istore X25.here hx rfl (hb hby d1_49) rfl (l' := #[.val (.ref p0), .val (.int (3 : Int32)), .val (.ref b25), .val (.int (0 : Int32)), .val (.ref p0), .val (.int (4 : Int32)), .unset, .unset]) rfl kq) ?_
          show G T25 (mkF m 51 #[.val (.ref p0), .val (.int (3 : Int32)), .val (.ref b25), .val (.int (0 : Int32)), .val (.ref p0), .val (.int (4 : Int32)), .unset, .unset] [])
          refine hp (fun tq kq => XS.iconst X25.here hx rfl (hb hby d1_51) kq) ?_
          show G T25 (mkF m 52 #[.val (.ref p0), .val (.int (3 : Int32)), .val (.ref b25), .val (.int (0 : Int32)), .val (.ref p0), .val (.int (4 : Int32)), .unset, .unset] [(.int (0 : Int32))])
          refine hp (fun tq kq => XS.istore X25.here hx rfl (hb hby d1_52) rfl (l' := #[.val (.ref p0), .val (.int (3 : Int32)), .val (.ref b25), .val (.int (0 : Int32)), .val (.ref p0), .val (.int (4 : Int32)), .val (.int (0 : Int32)), .unset]) rfl kq) ?_
          show G T25 (mkF m 54 #[.val (.ref p0), .val (.int (3 : Int32)), .val (.ref b25), .val (.int (0 : Int32)), .val (.ref p0), .val (.int (4 : Int32)), .val (.int (0 : Int32)), .unset] [])
          refine hp (fun tq kq => XS.iload X25.here hx rfl (hb hby d1_54) rfl kq) ?_
          show G T25 (mkF m 56 #[.val (.ref p0), .val (.int (3 : Int32)), .val (.ref b25), .val (.int (0 : Int32)), .val (.ref p0), .val (.int (4 : Int32)), .val (.int (0 : Int32)), .unset] [(.int (0 : Int32))])
          refine hp (fun tq kq => XS.iload X25.here hx rfl (hb hby d1_56) rfl kq) ?_
          show G T25 (mkF m 58 #[.val (.ref p0), .val (.int (3 : Int32)), .val (.ref b25), .val (.int (0 : Int32)), .val (.ref p0), .val (.int (4 : Int32)), .val (.int (0 : Int32)), .unset] [(.int (4 : Int32)), (.int (0 : Int32))])
          refine hp (fun tq kq => XS.icmpNo X25.here hx rfl (hb hby d1_58) rfl (tlt (by decide)).2.1 kq) ?_
          show G T25 (mkF m 61 #[.val (.ref p0), .val (.int (3 : Int32)), .val (.ref b25), .val (.int (0 : Int32)), .val (.ref p0), .val (.int (4 : Int32)), .val (.int (0 : Int32)), .unset] [])
          refine hp (fun tq kq => XS.aload X25.here hx rfl (hb hby d1_61) rfl rfl kq) ?_
          show G T25 (mkF m 63 #[.val (.ref p0), .val (.int (3 : Int32)), .val (.ref b25), .val (.int (0 : Int32)), .val (.ref p0), .val (.int (4 : Int32)), .val (.int (0 : Int32)), .unset] [(.ref p0)])
          refine hp (fun tq kq => XS.iload X25.here hx rfl (hb hby d1_63) rfl kq) ?_
          show G T25 (mkF m 65 #[.val (.ref p0), .val (.int (3 : Int32)), .val (.ref b25), .val (.int (0 : Int32)), .val (.ref p0), .val (.int (4 : Int32)), .val (.int (0 : Int32)), .unset] [(.int (0 : Int32)), (.ref p0)])
          refine hp (own_ldI X25 hx hZ e25 V25_p0 (j := (0 : Int32)) 0 (by decide) (by decide) (by decide) (g := (mkF m 65 #[.val (.ref p0), .val (.int (3 : Int32)), .val (.ref b25), .val (.int (0 : Int32)), .val (.ref p0), .val (.int (4 : Int32)), .val (.int (0 : Int32)), .unset] [(.int (0 : Int32)), (.ref p0)])) rfl rfl (hb hby d1_65)) ?_
          show G T25 (mkF m 66 #[.val (.ref p0), .val (.int (3 : Int32)), .val (.ref b25), .val (.int (0 : Int32)), .val (.ref p0), .val (.int (4 : Int32)), .val (.int (0 : Int32)), .unset] [(.int (f 0))])
          refine hp (fun tq kq => XS.istore X25.here hx rfl (hb hby d1_66) rfl (l' := #[.val (.ref p0), .val (.int (3 : Int32)), .val (.ref b25), .val (.int (0 : Int32)), .val (.ref p0), .val (.int (4 : Int32)), .val (.int (0 : Int32)), .val (.int (f 0))]) rfl kq) ?_
          show G T25 (mkF m 68 #[.val (.ref p0), .val (.int (3 : Int32)), .val (.ref b25), .val (.int (0 : Int32)), .val (.ref p0), .val (.int (4 : Int32)), .val (.int (0 : Int32)), .val (.int (f 0))] [])
          refine hp (fun tq kq => XS.iload X25.here hx rfl (hb hby d1_68) rfl kq) ?_
          show G T25 (mkF m 70 #[.val (.ref p0), .val (.int (3 : Int32)), .val (.ref b25), .val (.int (0 : Int32)), .val (.ref p0), .val (.int (4 : Int32)), .val (.int (0 : Int32)), .val (.int (f 0))] [(.int (f 0))])
          refine hp (fun tq kq => XS.iconst X25.here hx rfl (hb hby d1_70) kq) ?_
          show G T25 (mkF m 71 #[.val (.ref p0), .val (.int (3 : Int32)), .val (.ref b25), .val (.int (0 : Int32)), .val (.ref p0), .val (.int (4 : Int32)), .val (.int (0 : Int32)), .val (.int (f 0))] [(.int (-1 : Int32)), (.int (f 0))])
          refine hp (fun tq kq => XS.icmpYes X25.here hx rfl (pc0 := 71) (pc' := 82) rfl (hb hby d1_71) rfl (teq hb1).1 (by decide) (by decide) kq) ?_
          show G T25 (mkF m 82 #[.val (.ref p0), .val (.int (3 : Int32)), .val (.ref b25), .val (.int (0 : Int32)), .val (.ref p0), .val (.int (4 : Int32)), .val (.int (0 : Int32)), .val (.int (f 0))] [])
          refine hp (fun tq kq => XS.iinc X25.here hx rfl (hb hby d1_82) rfl (l' := #[.val (.ref p0), .val (.int (3 : Int32)), .val (.ref b25), .val (.int (0 : Int32)), .val (.ref p0), .val (.int (4 : Int32)), .val (.int (1 : Int32)), .val (.int (f 0))]) rfl kq) ?_
          show G T25 (mkF m 85 #[.val (.ref p0), .val (.int (3 : Int32)), .val (.ref b25), .val (.int (0 : Int32)), .val (.ref p0), .val (.int (4 : Int32)), .val (.int (1 : Int32)), .val (.int (f 0))] [])
          refine hp (fun tq kq => XS.goto X25.here hx rfl (pc0 := 85) (pc' := 54) rfl (hb hby d1_85) (by decide) (by decide) kq) ?_
          show G T25 (mkF m 54 #[.val (.ref p0), .val (.int (3 : Int32)), .val (.ref b25), .val (.int (0 : Int32)), .val (.ref p0), .val (.int (4 : Int32)), .val (.int (1 : Int32)), .val (.int (f 0))] [])
          refine hp (fun tq kq => XS.iload X25.here hx rfl (hb hby d1_54) rfl kq) ?_
          show G T25 (mkF m 56 #[.val (.ref p0), .val (.int (3 : Int32)), .val (.ref b25), .val (.int (0 : Int32)), .val (.ref p0), .val (.int (4 : Int32)), .val (.int (1 : Int32)), .val (.int (f 0))] [(.int (1 : Int32))])
          refine hp (fun tq kq => XS.iload X25.here hx rfl (hb hby d1_56) rfl kq) ?_
          show G T25 (mkF m 58 #[.val (.ref p0), .val (.int (3 : Int32)), .val (.ref b25), .val (.int (0 : Int32)), .val (.ref p0), .val (.int (4 : Int32)), .val (.int (1 : Int32)), .val (.int (f 0))] [(.int (4 : Int32)), (.int (1 : Int32))])
          refine hp (fun tq kq => XS.icmpNo X25.here hx rfl (hb hby d1_58) rfl (tlt (by decide)).2.1 kq) ?_
          show G T25 (mkF m 61 #[.val (.ref p0), .val (.int (3 : Int32)), .val (.ref b25), .val (.int (0 : Int32)), .val (.ref p0), .val (.int (4 : Int32)), .val (.int (1 : Int32)), .val (.int (f 0))] [])
          refine hp (fun tq kq => XS.aload X25.here hx rfl (hb hby d1_61) rfl rfl kq) ?_
          show G T25 (mkF m 63 #[.val (.ref p0), .val (.int (3 : Int32)), .val (.ref b25), .val (.int (0 : Int32)), .val (.ref p0), .val (.int (4 : Int32)), .val (.int (1 : Int32)), .val (.int (f 0))] [(.ref p0)])
          refine hp (fun tq kq => XS.iload X25.here hx rfl (hb hby d1_63) rfl kq) ?_
          show G T25 (mkF m 65 #[.val (.ref p0), .val (.int (3 : Int32)), .val (.ref b25), .val (.int (0 : Int32)), .val (.ref p0), .val (.int (4 : Int32)), .val (.int (1 : Int32)), .val (.int (f 0))] [(.int (1 : Int32)), (.ref p0)])
          refine hp (own_ldI X25 hx hZ e25 V25_p0 (j := (1 : Int32)) 1 (by decide) (by decide) (by decide) (g := (mkF m 65 #[.val (.ref p0), .val (.int (3 : Int32)), .val (.ref b25), .val (.int (0 : Int32)), .val (.ref p0), .val (.int (4 : Int32)), .val (.int (1 : Int32)), .val (.int (f 0))] [(.int (1 : Int32)), (.ref p0)])) rfl rfl (hb hby d1_65)) ?_
          show G T25 (mkF m 66 #[.val (.ref p0), .val (.int (3 : Int32)), .val (.ref b25), .val (.int (0 : Int32)), .val (.ref p0), .val (.int (4 : Int32)), .val (.int (1 : Int32)), .val (.int (f 0))] [(.int (f 1))])
          refine hp (fun tq kq => XS.istore X25.here hx rfl (hb hby d1_66) rfl (l' := #[.val (.ref p0), .val (.int (3 : Int32)), .val (.ref b25), .val (.int (0 : Int32)), .val (.ref p0), .val (.int (4 : Int32)), .val (.int (1 : Int32)), .val (.int (f 1))]) rfl kq) ?_
          show G T25 (mkF m 68 #[.val (.ref p0), .val (.int (3 : Int32)), .val (.ref b25), .val (.int (0 : Int32)), .val (.ref p0), .val (.int (4 : Int32)), .val (.int (1 : Int32)), .val (.int (f 1))] [])
          refine hp (fun tq kq => XS.iload X25.here hx rfl (hb hby d1_68) rfl kq) ?_
          show G T25 (mkF m 70 #[.val (.ref p0), .val (.int (3 : Int32)), .val (.ref b25), .val (.int (0 : Int32)), .val (.ref p0), .val (.int (4 : Int32)), .val (.int (1 : Int32)), .val (.int (f 1))] [(.int (f 1))])
          refine hp (fun tq kq => XS.iconst X25.here hx rfl (hb hby d1_70) kq) ?_
          show G T25 (mkF m 71 #[.val (.ref p0), .val (.int (3 : Int32)), .val (.ref b25), .val (.int (0 : Int32)), .val (.ref p0), .val (.int (4 : Int32)), .val (.int (1 : Int32)), .val (.int (f 1))] [(.int (-1 : Int32)), (.int (f 1))])
          refine hp (fun tq kq => XS.icmpNo X25.here hx rfl (hb hby d1_71) rfl (feq hb2).1 kq) ?_
          show G T25 (mkF m 74 #[.val (.ref p0), .val (.int (3 : Int32)), .val (.ref b25), .val (.int (0 : Int32)), .val (.ref p0), .val (.int (4 : Int32)), .val (.int (1 : Int32)), .val (.int (f 1))] [])
          refine hp (fun tq kq => XS.aloadN X25.here hx rfl (hb hby d1_74) rfl rfl kq) ?_
          show G T25 (mkF m 75 #[.val (.ref p0), .val (.int (3 : Int32)), .val (.ref b25), .val (.int (0 : Int32)), .val (.ref p0), .val (.int (4 : Int32)), .val (.int (1 : Int32)), .val (.int (f 1))] [(.ref b25)])
          refine hp (fun tq kq => XS.iloadN X25.here hx rfl (hb hby d1_75) rfl kq) ?_
          show G T25 (mkF m 76 #[.val (.ref p0), .val (.int (3 : Int32)), .val (.ref b25), .val (.int (0 : Int32)), .val (.ref p0), .val (.int (4 : Int32)), .val (.int (1 : Int32)), .val (.int (f 1))] [(.int (0 : Int32)), (.ref b25)])
          refine hp (fun tq kq => XS.iload X25.here hx rfl (hb hby d1_76) rfl kq) ?_
          show G T25 (mkF m 78 #[.val (.ref p0), .val (.int (3 : Int32)), .val (.ref b25), .val (.int (0 : Int32)), .val (.ref p0), .val (.int (4 : Int32)), .val (.int (1 : Int32)), .val (.int (f 1))] [(.int (f 1)), (.int (0 : Int32)), (.ref b25)])
          obtain ⟨T26, h26, X26, e26, W26, V26_b25, st26⟩ := own_stI X25 hx hZ e25 V25_b25 (j := (0 : Int32)) 0 (by decide) (by decide) (by decide) (g := (mkF m 78 #[.val (.ref p0), .val (.int (3 : Int32)), .val (.ref b25), .val (.int (0 : Int32)), .val (.ref p0), .val (.int (4 : Int32)), .val (.int (1 : Int32)), .val (.int (f 1))] [(.int (f 1)), (.int (0 : Int32)), (.ref b25)])) rfl rfl (hb hby d1_78)
          have V26_p0 := V25_p0.other W26 ne25_p0
          have K26 := K25.wr W26 (Or.inr sz_b25)
          have N26 := Fr.snoc X26 N0 g_b25
          refine hp st26 ?_
          show G T26 (mkF m 79 #[.val (.ref p0), .val (.int (3 : Int32)), .val (.ref b25), .val (.int (0 : Int32)), .val (.ref p0), .val (.int (4 : Int32)), .val (.int (1 : Int32)), .val (.int (f 1))] [])
          refine hp (fun tq kq => XS.iinc X26.here hx rfl (hb hby d1_79) rfl (l' := #[.val (.ref p0), .val (.int (3 : Int32)), .val (.ref b25), .val (.int (1 : Int32)), .val (.ref p0), .val (.int (4 : Int32)), .val (.int (1 : Int32)), .val (.int (f 1))]) rfl kq) ?_
          show G T26 (mkF m 82 #[.val (.ref p0), .val (.int (3 : Int32)), .val (.ref b25), .val (.int (1 : Int32)), .val (.ref p0), .val (.int (4 : Int32)), .val (.int (1 : Int32)), .val (.int (f 1))] [])
          refine hp (fun tq kq => XS.iinc X26.here hx rfl (hb hby d1_82) rfl (l' := #[.val (.ref p0), .val (.int (3 : Int32)), .val (.ref b25), .val (.int (1 : Int32)), .val (.ref p0), .val (.int (4 : Int32)), .val (.int (2 : Int32)), .val (.int (f 1))]) rfl kq) ?_
          show G T26 (mkF m 85 #[.val (.ref p0), .val (.int (3 : Int32)), .val (.ref b25), .val (.int (1 : Int32)), .val (.ref p0), .val (.int (4 : Int32)), .val (.int (2 : Int32)), .val (.int (f 1))] [])
          refine hp (fun tq kq => XS.goto X26.here hx rfl (pc0 := 85) (pc' := 54) rfl (hb hby d1_85) (by decide) (by decide) kq) ?_
          show G T26 (mkF m 54 #[.val (.ref p0), .val (.int (3 : Int32)), .val (.ref b25), .val (.int (1 : Int32)), .val (.ref p0), .val (.int (4 : Int32)), .val (.int (2 : Int32)), .val (.int (f 1))] [])
          refine hp (fun tq kq => XS.iload X26.here hx rfl (hb hby d1_54) rfl kq) ?_
          show G T26 (mkF m 56 #[.val (.ref p0), .val (.int (3 : Int32)), .val (.ref b25), .val (.int (1 : Int32)), .val (.ref p0), .val (.int (4 : Int32)), .val (.int (2 : Int32)), .val (.int (f 1))] [(.int (2 : Int32))])
          refine hp (fun tq kq => XS.iload X26.here hx rfl (hb hby d1_56) rfl kq) ?_
          show G T26 (mkF m 58 #[.val (.ref p0), .val (.int (3 : Int32)), .val (.ref b25), .val (.int (1 : Int32)), .val (.ref p0), .val (.int (4 : Int32)), .val (.int (2 : Int32)), .val (.int (f 1))] [(.int (4 : Int32)), (.int (2 : Int32))])
          refine hp (fun tq kq => XS.icmpNo X26.here hx rfl (hb hby d1_58) rfl (tlt (by decide)).2.1 kq) ?_
          show G T26 (mkF m 61 #[.val (.ref p0), .val (.int (3 : Int32)), .val (.ref b25), .val (.int (1 : Int32)), .val (.ref p0), .val (.int (4 : Int32)), .val (.int (2 : Int32)), .val (.int (f 1))] [])
          refine hp (fun tq kq => XS.aload X26.here hx rfl (hb hby d1_61) rfl rfl kq) ?_
          show G T26 (mkF m 63 #[.val (.ref p0), .val (.int (3 : Int32)), .val (.ref b25), .val (.int (1 : Int32)), .val (.ref p0), .val (.int (4 : Int32)), .val (.int (2 : Int32)), .val (.int (f 1))] [(.ref p0)])
          refine hp (fun tq kq => XS.iload X26.here hx rfl (hb hby d1_63) rfl kq) ?_
          show G T26 (mkF m 65 #[.val (.ref p0), .val (.int (3 : Int32)), .val (.ref b25), .val (.int (1 : Int32)), .val (.ref p0), .val (.int (4 : Int32)), .val (.int (2 : Int32)), .val (.int (f 1))] [(.int (2 : Int32)), (.ref p0)])
          refine hp (own_ldI X26 hx hZ e26 V26_p0 (j := (2 : Int32)) 2 (by decide) (by decide) (by decide) (g := (mkF m 65 #[.val (.ref p0), .val (.int (3 : Int32)), .val (.ref b25), .val (.int (1 : Int32)), .val (.ref p0), .val (.int (4 : Int32)), .val (.int (2 : Int32)), .val (.int (f 1))] [(.int (2 : Int32)), (.ref p0)])) rfl rfl (hb hby d1_65)) ?_
          show G T26 (mkF m 66 #[.val (.ref p0), .val (.int (3 : Int32)), .val (.ref b25), .val (.int (1 : Int32)), .val (.ref p0), .val (.int (4 : Int32)), .val (.int (2 : Int32)), .val (.int (f 1))] [(.int (f 2))])
          refine hp (fun tq kq => XS.istore X26.here hx rfl (hb hby d1_66) rfl (l' := #[.val (.ref p0), .val (.int (3 : Int32)), .val (.ref b25), .val (.int (1 : Int32)), .val (.ref p0), .val (.int (4 : Int32)), .val (.int (2 : Int32)), .val (.int (f 2))]) rfl kq) ?_
          show G T26 (mkF m 68 #[.val (.ref p0), .val (.int (3 : Int32)), .val (.ref b25), .val (.int (1 : Int32)), .val (.ref p0), .val (.int (4 : Int32)), .val (.int (2 : Int32)), .val (.int (f 2))] [])
          refine hp (fun tq kq => XS.iload X26.here hx rfl (hb hby d1_68) rfl kq) ?_
          show G T26 (mkF m 70 #[.val (.ref p0), .val (.int (3 : Int32)), .val (.ref b25), .val (.int (1 : Int32)), .val (.ref p0), .val (.int (4 : Int32)), .val (.int (2 : Int32)), .val (.int (f 2))] [(.int (f 2))])
          refine hp (fun tq kq => XS.iconst X26.here hx rfl (hb hby d1_70) kq) ?_
          show G T26 (mkF m 71 #[.val (.ref p0), .val (.int (3 : Int32)), .val (.ref b25), .val (.int (1 : Int32)), .val (.ref p0), .val (.int (4 : Int32)), .val (.int (2 : Int32)), .val (.int (f 2))] [(.int (-1 : Int32)), (.int (f 2))])
          refine hp (fun tq kq => XS.icmpNo X26.here hx rfl (hb hby d1_71) rfl (feq hb14).1 kq) ?_
          show G T26 (mkF m 74 #[.val (.ref p0), .val (.int (3 : Int32)), .val (.ref b25), .val (.int (1 : Int32)), .val (.ref p0), .val (.int (4 : Int32)), .val (.int (2 : Int32)), .val (.int (f 2))] [])
          refine hp (fun tq kq => XS.aloadN X26.here hx rfl (hb hby d1_74) rfl rfl kq) ?_
          show G T26 (mkF m 75 #[.val (.ref p0), .val (.int (3 : Int32)), .val (.ref b25), .val (.int (1 : Int32)), .val (.ref p0), .val (.int (4 : Int32)), .val (.int (2 : Int32)), .val (.int (f 2))] [(.ref b25)])
          refine hp (fun tq kq => XS.iloadN X26.here hx rfl (hb hby d1_75) rfl kq) ?_
          show G T26 (mkF m 76 #[.val (.ref p0), .val (.int (3 : Int32)), .val (.ref b25), .val (.int (1 : Int32)), .val (.ref p0), .val (.int (4 : Int32)), .val (.int (2 : Int32)), .val (.int (f 2))] [(.int (1 : Int32)), (.ref b25)])
          refine hp (fun tq kq => XS.iload X26.here hx rfl (hb hby d1_76) rfl kq) ?_
          show G T26 (mkF m 78 #[.val (.ref p0), .val (.int (3 : Int32)), .val (.ref b25), .val (.int (1 : Int32)), .val (.ref p0), .val (.int (4 : Int32)), .val (.int (2 : Int32)), .val (.int (f 2))] [(.int (f 2)), (.int (1 : Int32)), (.ref b25)])
          obtain ⟨T27, h27, X27, e27, W27, V27_b25, st27⟩ := own_stI X26 hx hZ e26 V26_b25 (j := (1 : Int32)) 1 (by decide) (by decide) (by decide) (g := (mkF m 78 #[.val (.ref p0), .val (.int (3 : Int32)), .val (.ref b25), .val (.int (1 : Int32)), .val (.ref p0), .val (.int (4 : Int32)), .val (.int (2 : Int32)), .val (.int (f 2))] [(.int (f 2)), (.int (1 : Int32)), (.ref b25)])) rfl rfl (hb hby d1_78)
          have V27_p0 := V26_p0.other W27 ne25_p0
          have K27 := K26.wr W27 (Or.inr sz_b25)
          have N27 := Fr.snoc X27 N26 g_b25
          refine hp st27 ?_
          show G T27 (mkF m 79 #[.val (.ref p0), .val (.int (3 : Int32)), .val (.ref b25), .val (.int (1 : Int32)), .val (.ref p0), .val (.int (4 : Int32)), .val (.int (2 : Int32)), .val (.int (f 2))] [])
          refine hp (fun tq kq => XS.iinc X27.here hx rfl (hb hby d1_79) rfl (l' := #[.val (.ref p0), .val (.int (3 : Int32)), .val (.ref b25), .val (.int (2 : Int32)), .val (.ref p0), .val (.int (4 : Int32)), .val (.int (2 : Int32)), .val (.int (f 2))]) rfl kq) ?_
          show G T27 (mkF m 82 #[.val (.ref p0), .val (.int (3 : Int32)), .val (.ref b25), .val (.int (2 : Int32)), .val (.ref p0), .val (.int (4 : Int32)), .val (.int (2 : Int32)), .val (.int (f 2))] [])
          refine hp (fun tq kq => XS.iinc X27.here hx rfl (hb hby d1_82) rfl (l' := #[.val (.ref p0), .val (.int (3 : Int32)), .val (.ref b25), .val (.int (2 : Int32)), .val (.ref p0), .val (.int (4 : Int32)), .val (.int (3 : Int32)), .val (.int (f 2))]) rfl kq) ?_
          show G T27 (mkF m 85 #[.val (.ref p0), .val (.int (3 : Int32)), .val (.ref b25), .val (.int (2 : Int32)), .val (.ref p0), .val (.int (4 : Int32)), .val (.int (3 : Int32)), .val (.int (f 2))] [])
          refine hp (fun tq kq => XS.goto X27.here hx rfl (pc0 := 85) (pc' := 54) rfl (hb hby d1_85) (by decide) (by decide) kq) ?_
          show G T27 (mkF m 54 #[.val (.ref p0), .val (.int (3 : Int32)), .val (.ref b25), .val (.int (2 : Int32)), .val (.ref p0), .val (.int (4 : Int32)), .val (.int (3 : Int32)), .val (.int (f 2))] [])
          refine hp (fun tq kq => XS.iload X27.here hx rfl (hb hby d1_54) rfl kq) ?_
          show G T27 (mkF m 56 #[.val (.ref p0), .val (.int (3 : Int32)), .val (.ref b25), .val (.int (2 : Int32)), .val (.ref p0), .val (.int (4 : Int32)), .val (.int (3 : Int32)), .val (.int (f 2))] [(.int (3 : Int32))])
          refine hp (fun tq kq => XS.iload X27.here hx rfl (hb hby d1_56) rfl kq) ?_
          show G T27 (mkF m 58 #[.val (.ref p0), .val (.int (3 : Int32)), .val (.ref b25), .val (.int (2 : Int32)), .val (.ref p0), .val (.int (4 : Int32)), .val (.int (3 : Int32)), .val (.int (f 2))] [(.int (4 : Int32)), (.int (3 : Int32))])
          refine hp (fun tq kq => XS.icmpNo X27.here hx rfl (hb hby d1_58) rfl (tlt (by decide)).2.1 kq) ?_
          show G T27 (mkF m 61 #[.val (.ref p0), .val (.int (3 : Int32)), .val (.ref b25), .val (.int (2 : Int32)), .val (.ref p0), .val (.int (4 : Int32)), .val (.int (3 : Int32)), .val (.int (f 2))] [])
          refine hp (fun tq kq => XS.aload X27.here hx rfl (hb hby d1_61) rfl rfl kq) ?_
          show G T27 (mkF m 63 #[.val (.ref p0), .val (.int (3 : Int32)), .val (.ref b25), .val (.int (2 : Int32)), .val (.ref p0), .val (.int (4 : Int32)), .val (.int (3 : Int32)), .val (.int (f 2))] [(.ref p0)])
          refine hp (fun tq kq => XS.iload X27.here hx rfl (hb hby d1_63) rfl kq) ?_
          show G T27 (mkF m 65 #[.val (.ref p0), .val (.int (3 : Int32)), .val (.ref b25), .val (.int (2 : Int32)), .val (.ref p0), .val (.int (4 : Int32)), .val (.int (3 : Int32)), .val (.int (f 2))] [(.int (3 : Int32)), (.ref p0)])
          refine hp (own_ldI X27 hx hZ e27 V27_p0 (j := (3 : Int32)) 3 (by decide) (by decide) (by decide) (g := (mkF m 65 #[.val (.ref p0), .val (.int (3 : Int32)), .val (.ref b25), .val (.int (2 : Int32)), .val (.ref p0), .val (.int (4 : Int32)), .val (.int (3 : Int32)), .val (.int (f 2))] [(.int (3 : Int32)), (.ref p0)])) rfl rfl (hb hby d1_65)) ?_
          show G T27 (mkF m 66 #[.val (.ref p0), .val (.int (3 : Int32)), .val (.ref b25), .val (.int (2 : Int32)), .val (.ref p0), .val (.int (4 : Int32)), .val (.int (3 : Int32)), .val (.int (f 2))] [(.int (f 3))])
          refine hp (fun tq kq => XS.istore X27.here hx rfl (hb hby d1_66) rfl (l' := #[.val (.ref p0), .val (.int (3 : Int32)), .val (.ref b25), .val (.int (2 : Int32)), .val (.ref p0), .val (.int (4 : Int32)), .val (.int (3 : Int32)), .val (.int (f 3))]) rfl kq) ?_
          show G T27 (mkF m 68 #[.val (.ref p0), .val (.int (3 : Int32)), .val (.ref b25), .val (.int (2 : Int32)), .val (.ref p0), .val (.int (4 : Int32)), .val (.int (3 : Int32)), .val (.int (f 3))] [])
          refine hp (fun tq kq => XS.iload X27.here hx rfl (hb hby d1_68) rfl kq) ?_
          show G T27 (mkF m 70 #[.val (.ref p0), .val (.int (3 : Int32)), .val (.ref b25), .val (.int (2 : Int32)), .val (.ref p0), .val (.int (4 : Int32)), .val (.int (3 : Int32)), .val (.int (f 3))] [(.int (f 3))])
          refine hp (fun tq kq => XS.iconst X27.here hx rfl (hb hby d1_70) kq) ?_
          show G T27 (mkF m 71 #[.val (.ref p0), .val (.int (3 : Int32)), .val (.ref b25), .val (.int (2 : Int32)), .val (.ref p0), .val (.int (4 : Int32)), .val (.int (3 : Int32)), .val (.int (f 3))] [(.int (-1 : Int32)), (.int (f 3))])
          refine hp (fun tq kq => XS.icmpNo X27.here hx rfl (hb hby d1_71) rfl (feq hb21).1 kq) ?_
          show G T27 (mkF m 74 #[.val (.ref p0), .val (.int (3 : Int32)), .val (.ref b25), .val (.int (2 : Int32)), .val (.ref p0), .val (.int (4 : Int32)), .val (.int (3 : Int32)), .val (.int (f 3))] [])
          refine hp (fun tq kq => XS.aloadN X27.here hx rfl (hb hby d1_74) rfl rfl kq) ?_
          show G T27 (mkF m 75 #[.val (.ref p0), .val (.int (3 : Int32)), .val (.ref b25), .val (.int (2 : Int32)), .val (.ref p0), .val (.int (4 : Int32)), .val (.int (3 : Int32)), .val (.int (f 3))] [(.ref b25)])
          refine hp (fun tq kq => XS.iloadN X27.here hx rfl (hb hby d1_75) rfl kq) ?_
          show G T27 (mkF m 76 #[.val (.ref p0), .val (.int (3 : Int32)), .val (.ref b25), .val (.int (2 : Int32)), .val (.ref p0), .val (.int (4 : Int32)), .val (.int (3 : Int32)), .val (.int (f 3))] [(.int (2 : Int32)), (.ref b25)])
          refine hp (fun tq kq => XS.iload X27.here hx rfl (hb hby d1_76) rfl kq) ?_
          show G T27 (mkF m 78 #[.val (.ref p0), .val (.int (3 : Int32)), .val (.ref b25), .val (.int (2 : Int32)), .val (.ref p0), .val (.int (4 : Int32)), .val (.int (3 : Int32)), .val (.int (f 3))] [(.int (f 3)), (.int (2 : Int32)), (.ref b25)])
          obtain ⟨T28, h28, X28, e28, W28, V28_b25, st28⟩ := own_stI X27 hx hZ e27 V27_b25 (j := (2 : Int32)) 2 (by decide) (by decide) (by decide) (g := (mkF m 78 #[.val (.ref p0), .val (.int (3 : Int32)), .val (.ref b25), .val (.int (2 : Int32)), .val (.ref p0), .val (.int (4 : Int32)), .val (.int (3 : Int32)), .val (.int (f 3))] [(.int (f 3)), (.int (2 : Int32)), (.ref b25)])) rfl rfl (hb hby d1_78)
          have V28_p0 := V27_p0.other W28 ne25_p0
          have K28 := K27.wr W28 (Or.inr sz_b25)
          have N28 := Fr.snoc X28 N27 g_b25
          refine hp st28 ?_
          show G T28 (mkF m 79 #[.val (.ref p0), .val (.int (3 : Int32)), .val (.ref b25), .val (.int (2 : Int32)), .val (.ref p0), .val (.int (4 : Int32)), .val (.int (3 : Int32)), .val (.int (f 3))] [])
          refine hp (fun tq kq => XS.iinc X28.here hx rfl (hb hby d1_79) rfl (l' := #[.val (.ref p0), .val (.int (3 : Int32)), .val (.ref b25), .val (.int (3 : Int32)), .val (.ref p0), .val (.int (4 : Int32)), .val (.int (3 : Int32)), .val (.int (f 3))]) rfl kq) ?_
          show G T28 (mkF m 82 #[.val (.ref p0), .val (.int (3 : Int32)), .val (.ref b25), .val (.int (3 : Int32)), .val (.ref p0), .val (.int (4 : Int32)), .val (.int (3 : Int32)), .val (.int (f 3))] [])
          refine hp (fun tq kq => XS.iinc X28.here hx rfl (hb hby d1_82) rfl (l' := #[.val (.ref p0), .val (.int (3 : Int32)), .val (.ref b25), .val (.int (3 : Int32)), .val (.ref p0), .val (.int (4 : Int32)), .val (.int (4 : Int32)), .val (.int (f 3))]) rfl kq) ?_
          show G T28 (mkF m 85 #[.val (.ref p0), .val (.int (3 : Int32)), .val (.ref b25), .val (.int (3 : Int32)), .val (.ref p0), .val (.int (4 : Int32)), .val (.int (4 : Int32)), .val (.int (f 3))] [])
          refine hp (fun tq kq => XS.goto X28.here hx rfl (pc0 := 85) (pc' := 54) rfl (hb hby d1_85) (by decide) (by decide) kq) ?_
          show G T28 (mkF m 54 #[.val (.ref p0), .val (.int (3 : Int32)), .val (.ref b25), .val (.int (3 : Int32)), .val (.ref p0), .val (.int (4 : Int32)), .val (.int (4 : Int32)), .val (.int (f 3))] [])
          refine hp (fun tq kq => XS.iload X28.here hx rfl (hb hby d1_54) rfl kq) ?_
          show G T28 (mkF m 56 #[.val (.ref p0), .val (.int (3 : Int32)), .val (.ref b25), .val (.int (3 : Int32)), .val (.ref p0), .val (.int (4 : Int32)), .val (.int (4 : Int32)), .val (.int (f 3))] [(.int (4 : Int32))])
          refine hp (fun tq kq => XS.iload X28.here hx rfl (hb hby d1_56) rfl kq) ?_
          show G T28 (mkF m 58 #[.val (.ref p0), .val (.int (3 : Int32)), .val (.ref b25), .val (.int (3 : Int32)), .val (.ref p0), .val (.int (4 : Int32)), .val (.int (4 : Int32)), .val (.int (f 3))] [(.int (4 : Int32)), (.int (4 : Int32))])
          refine hp (fun tq kq => XS.icmpYes X28.here hx rfl (pc0 := 58) (pc' := 88) rfl (hb hby d1_58) rfl (flt (by decide)).2.1 (by decide) (by decide) kq) ?_
          show G T28 (mkF m 88 #[.val (.ref p0), .val (.int (3 : Int32)), .val (.ref b25), .val (.int (3 : Int32)), .val (.ref p0), .val (.int (4 : Int32)), .val (.int (4 : Int32)), .val (.int (f 3))] [])
          refine hp (fun tq kq => XS.aloadN X28.here hx rfl (hb hby d1_88) rfl rfl kq) ?_
          show G T28 (mkF m 89 #[.val (.ref p0), .val (.int (3 : Int32)), .val (.ref b25), .val (.int (3 : Int32)), .val (.ref p0), .val (.int (4 : Int32)), .val (.int (4 : Int32)), .val (.int (f 3))] [(.ref b25)])
          exact hR X28 (fun fs hl => own_retA X28 hx hret rfl (hb hby d1_89) hl) (fun q => by rw [hret] at q; cases q) (by rw [e28]; exact ⟨b25, 3, (own_up (own_up (own_up (fun _ => (0 : Int32)) 0 (f 1)) 1 (f 2)) 2 (f 3)), rfl, N28, K28, sz_b25, V28_b25, own_seld (l := [(f 1), (f 2), (f 3)]) (own_sel_of (a := []) (b := [f 1]) (c := [f 2]) (d := [f 3]) (if_pos hb1) (if_neg hb2) (if_neg hb14) (if_neg hb21)) rfl (own_pick3 rfl rfl rfl rfl)⟩) (by decide) (by decide)
  · refine hp (fun tq kq => XS.icmpNo X0.here hx rfl (hb hby d1_25) rfl (feq hb1).1 kq) ?_
    show G s₁ (mkF m 28 #[.val (.ref p0), .val (.int (0 : Int32)), .val (.ref p0), .val (.int (4 : Int32)), .val (.int (0 : Int32)), .val (.int (f 0)), .unset, .unset] [])
    refine hp (fun tq kq => XS.iinc X0.here hx rfl (hb hby d1_28) rfl (l' := #[.val (.ref p0), .val (.int (1 : Int32)), .val (.ref p0), .val (.int (4 : Int32)), .val (.int (0 : Int32)), .val (.int (f 0)), .unset, .unset]) rfl kq) ?_
    show G s₁ (mkF m 31 #[.val (.ref p0), .val (.int (1 : Int32)), .val (.ref p0), .val (.int (4 : Int32)), .val (.int (0 : Int32)), .val (.int (f 0)), .unset, .unset] [])
    refine hp (fun tq kq => XS.iinc X0.here hx rfl (hb hby d1_31) rfl (l' := #[.val (.ref p0), .val (.int (1 : Int32)), .val (.ref p0), .val (.int (4 : Int32)), .val (.int (1 : Int32)), .val (.int (f 0)), .unset, .unset]) rfl kq) ?_
    show G s₁ (mkF m 34 #[.val (.ref p0), .val (.int (1 : Int32)), .val (.ref p0), .val (.int (4 : Int32)), .val (.int (1 : Int32)), .val (.int (f 0)), .unset, .unset] [])
    refine hp (fun tq kq => XS.goto X0.here hx rfl (pc0 := 34) (pc' := 10) rfl (hb hby d1_34) (by decide) (by decide) kq) ?_
    show G s₁ (mkF m 10 #[.val (.ref p0), .val (.int (1 : Int32)), .val (.ref p0), .val (.int (4 : Int32)), .val (.int (1 : Int32)), .val (.int (f 0)), .unset, .unset] [])
    refine hp (fun tq kq => XS.iload X0.here hx rfl (hb hby d1_10) rfl kq) ?_
    show G s₁ (mkF m 12 #[.val (.ref p0), .val (.int (1 : Int32)), .val (.ref p0), .val (.int (4 : Int32)), .val (.int (1 : Int32)), .val (.int (f 0)), .unset, .unset] [(.int (1 : Int32))])
    refine hp (fun tq kq => XS.iloadN X0.here hx rfl (hb hby d1_12) rfl kq) ?_
    show G s₁ (mkF m 13 #[.val (.ref p0), .val (.int (1 : Int32)), .val (.ref p0), .val (.int (4 : Int32)), .val (.int (1 : Int32)), .val (.int (f 0)), .unset, .unset] [(.int (4 : Int32)), (.int (1 : Int32))])
    refine hp (fun tq kq => XS.icmpNo X0.here hx rfl (hb hby d1_13) rfl (tlt (by decide)).2.1 kq) ?_
    show G s₁ (mkF m 16 #[.val (.ref p0), .val (.int (1 : Int32)), .val (.ref p0), .val (.int (4 : Int32)), .val (.int (1 : Int32)), .val (.int (f 0)), .unset, .unset] [])
    refine hp (fun tq kq => XS.aloadN X0.here hx rfl (hb hby d1_16) rfl rfl kq) ?_
    show G s₁ (mkF m 17 #[.val (.ref p0), .val (.int (1 : Int32)), .val (.ref p0), .val (.int (4 : Int32)), .val (.int (1 : Int32)), .val (.int (f 0)), .unset, .unset] [(.ref p0)])
    refine hp (fun tq kq => XS.iload X0.here hx rfl (hb hby d1_17) rfl kq) ?_
    show G s₁ (mkF m 19 #[.val (.ref p0), .val (.int (1 : Int32)), .val (.ref p0), .val (.int (4 : Int32)), .val (.int (1 : Int32)), .val (.int (f 0)), .unset, .unset] [(.int (1 : Int32)), (.ref p0)])
    refine hp (own_ldI X0 hx hZ e0 V_p0 (j := (1 : Int32)) 1 (by decide) (by decide) (by decide) (g := (mkF m 19 #[.val (.ref p0), .val (.int (1 : Int32)), .val (.ref p0), .val (.int (4 : Int32)), .val (.int (1 : Int32)), .val (.int (f 0)), .unset, .unset] [(.int (1 : Int32)), (.ref p0)])) rfl rfl (hb hby d1_19)) ?_
    show G s₁ (mkF m 20 #[.val (.ref p0), .val (.int (1 : Int32)), .val (.ref p0), .val (.int (4 : Int32)), .val (.int (1 : Int32)), .val (.int (f 0)), .unset, .unset] [(.int (f 1))])
    refine hp (fun tq kq => XS.istore X0.here hx rfl (hb hby d1_20) rfl (l' := #[.val (.ref p0), .val (.int (1 : Int32)), .val (.ref p0), .val (.int (4 : Int32)), .val (.int (1 : Int32)), .val (.int (f 1)), .unset, .unset]) rfl kq) ?_
    show G s₁ (mkF m 22 #[.val (.ref p0), .val (.int (1 : Int32)), .val (.ref p0), .val (.int (4 : Int32)), .val (.int (1 : Int32)), .val (.int (f 1)), .unset, .unset] [])
    refine hp (fun tq kq => XS.iload X0.here hx rfl (hb hby d1_22) rfl kq) ?_
    show G s₁ (mkF m 24 #[.val (.ref p0), .val (.int (1 : Int32)), .val (.ref p0), .val (.int (4 : Int32)), .val (.int (1 : Int32)), .val (.int (f 1)), .unset, .unset] [(.int (f 1))])
    refine hp (fun tq kq => XS.iconst X0.here hx rfl (hb hby d1_24) kq) ?_
    show G s₁ (mkF m 25 #[.val (.ref p0), .val (.int (1 : Int32)), .val (.ref p0), .val (.int (4 : Int32)), .val (.int (1 : Int32)), .val (.int (f 1)), .unset, .unset] [(.int (-1 : Int32)), (.int (f 1))])
    by_cases hb29 : (f 1) = (-1 : Int32)
    · refine hp (fun tq kq => XS.icmpYes X0.here hx rfl (pc0 := 25) (pc' := 31) rfl (hb hby d1_25) rfl (teq hb29).1 (by decide) (by decide) kq) ?_
      show G s₁ (mkF m 31 #[.val (.ref p0), .val (.int (1 : Int32)), .val (.ref p0), .val (.int (4 : Int32)), .val (.int (1 : Int32)), .val (.int (f 1)), .unset, .unset] [])
      refine hp (fun tq kq => XS.iinc X0.here hx rfl (hb hby d1_31) rfl (l' := #[.val (.ref p0), .val (.int (1 : Int32)), .val (.ref p0), .val (.int (4 : Int32)), .val (.int (2 : Int32)), .val (.int (f 1)), .unset, .unset]) rfl kq) ?_
      show G s₁ (mkF m 34 #[.val (.ref p0), .val (.int (1 : Int32)), .val (.ref p0), .val (.int (4 : Int32)), .val (.int (2 : Int32)), .val (.int (f 1)), .unset, .unset] [])
      refine hp (fun tq kq => XS.goto X0.here hx rfl (pc0 := 34) (pc' := 10) rfl (hb hby d1_34) (by decide) (by decide) kq) ?_
      show G s₁ (mkF m 10 #[.val (.ref p0), .val (.int (1 : Int32)), .val (.ref p0), .val (.int (4 : Int32)), .val (.int (2 : Int32)), .val (.int (f 1)), .unset, .unset] [])
      refine hp (fun tq kq => XS.iload X0.here hx rfl (hb hby d1_10) rfl kq) ?_
      show G s₁ (mkF m 12 #[.val (.ref p0), .val (.int (1 : Int32)), .val (.ref p0), .val (.int (4 : Int32)), .val (.int (2 : Int32)), .val (.int (f 1)), .unset, .unset] [(.int (2 : Int32))])
      refine hp (fun tq kq => XS.iloadN X0.here hx rfl (hb hby d1_12) rfl kq) ?_
      show G s₁ (mkF m 13 #[.val (.ref p0), .val (.int (1 : Int32)), .val (.ref p0), .val (.int (4 : Int32)), .val (.int (2 : Int32)), .val (.int (f 1)), .unset, .unset] [(.int (4 : Int32)), (.int (2 : Int32))])
      refine hp (fun tq kq => XS.icmpNo X0.here hx rfl (hb hby d1_13) rfl (tlt (by decide)).2.1 kq) ?_
      show G s₁ (mkF m 16 #[.val (.ref p0), .val (.int (1 : Int32)), .val (.ref p0), .val (.int (4 : Int32)), .val (.int (2 : Int32)), .val (.int (f 1)), .unset, .unset] [])
      refine hp (fun tq kq => XS.aloadN X0.here hx rfl (hb hby d1_16) rfl rfl kq) ?_
      show G s₁ (mkF m 17 #[.val (.ref p0), .val (.int (1 : Int32)), .val (.ref p0), .val (.int (4 : Int32)), .val (.int (2 : Int32)), .val (.int (f 1)), .unset, .unset] [(.ref p0)])
      refine hp (fun tq kq => XS.iload X0.here hx rfl (hb hby d1_17) rfl kq) ?_
      show G s₁ (mkF m 19 #[.val (.ref p0), .val (.int (1 : Int32)), .val (.ref p0), .val (.int (4 : Int32)), .val (.int (2 : Int32)), .val (.int (f 1)), .unset, .unset] [(.int (2 : Int32)), (.ref p0)])
      refine hp (own_ldI X0 hx hZ e0 V_p0 (j := (2 : Int32)) 2 (by decide) (by decide) (by decide) (g := (mkF m 19 #[.val (.ref p0), .val (.int (1 : Int32)), .val (.ref p0), .val (.int (4 : Int32)), .val (.int (2 : Int32)), .val (.int (f 1)), .unset, .unset] [(.int (2 : Int32)), (.ref p0)])) rfl rfl (hb hby d1_19)) ?_
      show G s₁ (mkF m 20 #[.val (.ref p0), .val (.int (1 : Int32)), .val (.ref p0), .val (.int (4 : Int32)), .val (.int (2 : Int32)), .val (.int (f 1)), .unset, .unset] [(.int (f 2))])
      refine hp (fun tq kq => XS.istore X0.here hx rfl (hb hby d1_20) rfl (l' := #[.val (.ref p0), .val (.int (1 : Int32)), .val (.ref p0), .val (.int (4 : Int32)), .val (.int (2 : Int32)), .val (.int (f 2)), .unset, .unset]) rfl kq) ?_
      show G s₁ (mkF m 22 #[.val (.ref p0), .val (.int (1 : Int32)), .val (.ref p0), .val (.int (4 : Int32)), .val (.int (2 : Int32)), .val (.int (f 2)), .unset, .unset] [])
      refine hp (fun tq kq => XS.iload X0.here hx rfl (hb hby d1_22) rfl kq) ?_
      show G s₁ (mkF m 24 #[.val (.ref p0), .val (.int (1 : Int32)), .val (.ref p0), .val (.int (4 : Int32)), .val (.int (2 : Int32)), .val (.int (f 2)), .unset, .unset] [(.int (f 2))])
      refine hp (fun tq kq => XS.iconst X0.here hx rfl (hb hby d1_24) kq) ?_
      show G s₁ (mkF m 25 #[.val (.ref p0), .val (.int (1 : Int32)), .val (.ref p0), .val (.int (4 : Int32)), .val (.int (2 : Int32)), .val (.int (f 2)), .unset, .unset] [(.int (-1 : Int32)), (.int (f 2))])
      by_cases hb30 : (f 2) = (-1 : Int32)
      · refine hp (fun tq kq => XS.icmpYes X0.here hx rfl (pc0 := 25) (pc' := 31) rfl (hb hby d1_25) rfl (teq hb30).1 (by decide) (by decide) kq) ?_
        show G s₁ (mkF m 31 #[.val (.ref p0), .val (.int (1 : Int32)), .val (.ref p0), .val (.int (4 : Int32)), .val (.int (2 : Int32)), .val (.int (f 2)), .unset, .unset] [])
        refine hp (fun tq kq => XS.iinc X0.here hx rfl (hb hby d1_31) rfl (l' := #[.val (.ref p0), .val (.int (1 : Int32)), .val (.ref p0), .val (.int (4 : Int32)), .val (.int (3 : Int32)), .val (.int (f 2)), .unset, .unset]) rfl kq) ?_
        show G s₁ (mkF m 34 #[.val (.ref p0), .val (.int (1 : Int32)), .val (.ref p0), .val (.int (4 : Int32)), .val (.int (3 : Int32)), .val (.int (f 2)), .unset, .unset] [])
        refine hp (fun tq kq => XS.goto X0.here hx rfl (pc0 := 34) (pc' := 10) rfl (hb hby d1_34) (by decide) (by decide) kq) ?_
        show G s₁ (mkF m 10 #[.val (.ref p0), .val (.int (1 : Int32)), .val (.ref p0), .val (.int (4 : Int32)), .val (.int (3 : Int32)), .val (.int (f 2)), .unset, .unset] [])
        refine hp (fun tq kq => XS.iload X0.here hx rfl (hb hby d1_10) rfl kq) ?_
        show G s₁ (mkF m 12 #[.val (.ref p0), .val (.int (1 : Int32)), .val (.ref p0), .val (.int (4 : Int32)), .val (.int (3 : Int32)), .val (.int (f 2)), .unset, .unset] [(.int (3 : Int32))])
        refine hp (fun tq kq => XS.iloadN X0.here hx rfl (hb hby d1_12) rfl kq) ?_
        show G s₁ (mkF m 13 #[.val (.ref p0), .val (.int (1 : Int32)), .val (.ref p0), .val (.int (4 : Int32)), .val (.int (3 : Int32)), .val (.int (f 2)), .unset, .unset] [(.int (4 : Int32)), (.int (3 : Int32))])
        refine hp (fun tq kq => XS.icmpNo X0.here hx rfl (hb hby d1_13) rfl (tlt (by decide)).2.1 kq) ?_
        show G s₁ (mkF m 16 #[.val (.ref p0), .val (.int (1 : Int32)), .val (.ref p0), .val (.int (4 : Int32)), .val (.int (3 : Int32)), .val (.int (f 2)), .unset, .unset] [])
        refine hp (fun tq kq => XS.aloadN X0.here hx rfl (hb hby d1_16) rfl rfl kq) ?_
        show G s₁ (mkF m 17 #[.val (.ref p0), .val (.int (1 : Int32)), .val (.ref p0), .val (.int (4 : Int32)), .val (.int (3 : Int32)), .val (.int (f 2)), .unset, .unset] [(.ref p0)])
        refine hp (fun tq kq => XS.iload X0.here hx rfl (hb hby d1_17) rfl kq) ?_
        show G s₁ (mkF m 19 #[.val (.ref p0), .val (.int (1 : Int32)), .val (.ref p0), .val (.int (4 : Int32)), .val (.int (3 : Int32)), .val (.int (f 2)), .unset, .unset] [(.int (3 : Int32)), (.ref p0)])
        refine hp (own_ldI X0 hx hZ e0 V_p0 (j := (3 : Int32)) 3 (by decide) (by decide) (by decide) (g := (mkF m 19 #[.val (.ref p0), .val (.int (1 : Int32)), .val (.ref p0), .val (.int (4 : Int32)), .val (.int (3 : Int32)), .val (.int (f 2)), .unset, .unset] [(.int (3 : Int32)), (.ref p0)])) rfl rfl (hb hby d1_19)) ?_
        show G s₁ (mkF m 20 #[.val (.ref p0), .val (.int (1 : Int32)), .val (.ref p0), .val (.int (4 : Int32)), .val (.int (3 : Int32)), .val (.int (f 2)), .unset, .unset] [(.int (f 3))])
        refine hp (fun tq kq => XS.istore X0.here hx rfl (hb hby d1_20) rfl (l' := #[.val (.ref p0), .val (.int (1 : Int32)), .val (.ref p0), .val (.int (4 : Int32)), .val (.int (3 : Int32)), .val (.int (f 3)), .unset, .unset]) rfl kq) ?_
        show G s₁ (mkF m 22 #[.val (.ref p0), .val (.int (1 : Int32)), .val (.ref p0), .val (.int (4 : Int32)), .val (.int (3 : Int32)), .val (.int (f 3)), .unset, .unset] [])
        refine hp (fun tq kq => XS.iload X0.here hx rfl (hb hby d1_22) rfl kq) ?_
        show G s₁ (mkF m 24 #[.val (.ref p0), .val (.int (1 : Int32)), .val (.ref p0), .val (.int (4 : Int32)), .val (.int (3 : Int32)), .val (.int (f 3)), .unset, .unset] [(.int (f 3))])
        refine hp (fun tq kq => XS.iconst X0.here hx rfl (hb hby d1_24) kq) ?_
        show G s₁ (mkF m 25 #[.val (.ref p0), .val (.int (1 : Int32)), .val (.ref p0), .val (.int (4 : Int32)), .val (.int (3 : Int32)), .val (.int (f 3)), .unset, .unset] [(.int (-1 : Int32)), (.int (f 3))])
        by_cases hb31 : (f 3) = (-1 : Int32)
        · refine hp (fun tq kq => XS.icmpYes X0.here hx rfl (pc0 := 25) (pc' := 31) rfl (hb hby d1_25) rfl (teq hb31).1 (by decide) (by decide) kq) ?_
          show G s₁ (mkF m 31 #[.val (.ref p0), .val (.int (1 : Int32)), .val (.ref p0), .val (.int (4 : Int32)), .val (.int (3 : Int32)), .val (.int (f 3)), .unset, .unset] [])
          refine hp (fun tq kq => XS.iinc X0.here hx rfl (hb hby d1_31) rfl (l' := #[.val (.ref p0), .val (.int (1 : Int32)), .val (.ref p0), .val (.int (4 : Int32)), .val (.int (4 : Int32)), .val (.int (f 3)), .unset, .unset]) rfl kq) ?_
          show G s₁ (mkF m 34 #[.val (.ref p0), .val (.int (1 : Int32)), .val (.ref p0), .val (.int (4 : Int32)), .val (.int (4 : Int32)), .val (.int (f 3)), .unset, .unset] [])
          refine hp (fun tq kq => XS.goto X0.here hx rfl (pc0 := 34) (pc' := 10) rfl (hb hby d1_34) (by decide) (by decide) kq) ?_
          show G s₁ (mkF m 10 #[.val (.ref p0), .val (.int (1 : Int32)), .val (.ref p0), .val (.int (4 : Int32)), .val (.int (4 : Int32)), .val (.int (f 3)), .unset, .unset] [])
          refine hp (fun tq kq => XS.iload X0.here hx rfl (hb hby d1_10) rfl kq) ?_
          show G s₁ (mkF m 12 #[.val (.ref p0), .val (.int (1 : Int32)), .val (.ref p0), .val (.int (4 : Int32)), .val (.int (4 : Int32)), .val (.int (f 3)), .unset, .unset] [(.int (4 : Int32))])
          refine hp (fun tq kq => XS.iloadN X0.here hx rfl (hb hby d1_12) rfl kq) ?_
          show G s₁ (mkF m 13 #[.val (.ref p0), .val (.int (1 : Int32)), .val (.ref p0), .val (.int (4 : Int32)), .val (.int (4 : Int32)), .val (.int (f 3)), .unset, .unset] [(.int (4 : Int32)), (.int (4 : Int32))])
          refine hp (fun tq kq => XS.icmpYes X0.here hx rfl (pc0 := 13) (pc' := 37) rfl (hb hby d1_13) rfl (flt (by decide)).2.1 (by decide) (by decide) kq) ?_
          show G s₁ (mkF m 37 #[.val (.ref p0), .val (.int (1 : Int32)), .val (.ref p0), .val (.int (4 : Int32)), .val (.int (4 : Int32)), .val (.int (f 3)), .unset, .unset] [])
          refine hp (fun tq kq => XS.iloadN X0.here hx rfl (hb hby d1_37) rfl kq) ?_
          show G s₁ (mkF m 38 #[.val (.ref p0), .val (.int (1 : Int32)), .val (.ref p0), .val (.int (4 : Int32)), .val (.int (4 : Int32)), .val (.int (f 3)), .unset, .unset] [(.int (1 : Int32))])
          obtain ⟨T32, h32, k32, X32, e32, E32, A32, st32⟩ := newP X0 hx hZ (hw _ (List.mem_of_getElem? (i := 1) rfl)) e0 (g := (mkF m 38 #[.val (.ref p0), .val (.int (1 : Int32)), .val (.ref p0), .val (.int (4 : Int32)), .val (.int (4 : Int32)), .val (.int (f 3)), .unset, .unset] [(.int (1 : Int32))])) rfl (hb hby d1_38) rfl (by decide) (cap := 1) (by decide) (by decide) (by decide) (by decide)
          obtain ⟨b32, g32⟩ : ∃ z, z = h0.size := ⟨_, rfl⟩
          rw [← g32] at A32 st32
          have ne32_p0 : p0 ≠ b32 := Nat.ne_of_lt (Nat.lt_of_lt_of_le V_p0.lt (Nat.le_of_eq g32.symm))
          have sz_b32 : h0.size ≤ b32 := Nat.le_trans K0.1 (Nat.le_of_eq g32.symm)
          have g_b32 : n0 ≤ b32 := Nat.le_trans Z0 sz_b32
          have V32_p0 := V_p0.ext E32
          have K32 := K0.ext E32
          have V32_b32 : own_AI Z h32 b32 .int 1 (fun _ => 0) := own_AI.new A32 (by decide) rfl 1 (by decide)
          refine hp st32 ?_
          show G T32 (mkF m 40 #[.val (.ref p0), .val (.int (1 : Int32)), .val (.ref p0), .val (.int (4 : Int32)), .val (.int (4 : Int32)), .val (.int (f 3)), .unset, .unset] [(.ref b32)])
          refine hp (fun tq kq => XS.astoreN X32.here hx rfl (hb hby d1_40) rfl rfl (l' := #[.val (.ref p0), .val (.int (1 : Int32)), .val (.ref b32), .val (.int (4 : Int32)), .val (.int (4 : Int32)), .val (.int (f 3)), .unset, .unset]) rfl kq) ?_
          show G T32 (mkF m 41 #[.val (.ref p0), .val (.int (1 : Int32)), .val (.ref b32), .val (.int (4 : Int32)), .val (.int (4 : Int32)), .val (.int (f 3)), .unset, .unset] [])
          refine hp (fun tq kq => XS.iconst X32.here hx rfl (hb hby d1_41) kq) ?_
          show G T32 (mkF m 42 #[.val (.ref p0), .val (.int (1 : Int32)), .val (.ref b32), .val (.int (4 : Int32)), .val (.int (4 : Int32)), .val (.int (f 3)), .unset, .unset] [(.int (0 : Int32))])
          refine hp (fun tq kq => XS.istoreN X32.here hx rfl (hb hby d1_42) rfl (l' := #[.val (.ref p0), .val (.int (1 : Int32)), .val (.ref b32), .val (.int (0 : Int32)), .val (.int (4 : Int32)), .val (.int (f 3)), .unset, .unset]) rfl kq) ?_
          show G T32 (mkF m 43 #[.val (.ref p0), .val (.int (1 : Int32)), .val (.ref b32), .val (.int (0 : Int32)), .val (.int (4 : Int32)), .val (.int (f 3)), .unset, .unset] [])
          refine hp (fun tq kq => XS.aloadN X32.here hx rfl (hb hby d1_43) rfl rfl kq) ?_
          show G T32 (mkF m 44 #[.val (.ref p0), .val (.int (1 : Int32)), .val (.ref b32), .val (.int (0 : Int32)), .val (.int (4 : Int32)), .val (.int (f 3)), .unset, .unset] [(.ref p0)])
          refine hp (fun tq kq => XS.astore X32.here hx rfl (hb hby d1_44) rfl rfl (l' := #[.val (.ref p0), .val (.int (1 : Int32)), .val (.ref b32), .val (.int (0 : Int32)), .val (.ref p0), .val (.int (f 3)), .unset, .unset]) rfl kq) ?_
          show G T32 (mkF m 46 #[.val (.ref p0), .val (.int (1 : Int32)), .val (.ref b32), .val (.int (0 : Int32)), .val (.ref p0), .val (.int (f 3)), .unset, .unset] [])
          refine hp (fun tq kq => XS.aload X32.here hx rfl (hb hby d1_46) rfl rfl kq) ?_
          show G T32 (mkF m 48 #[.val (.ref p0), .val (.int (1 : Int32)), .val (.ref b32), .val (.int (0 : Int32)), .val (.ref p0), .val (.int (f 3)), .unset, .unset] [(.ref p0)])
          refine hp (own_lenI X32 hx hZ e32 V32_p0 (4 : Int32) rfl (g := (mkF m 48 #[.val (.ref p0), .val (.int (1 : Int32)), .val (.ref b32), .val (.int (0 : Int32)), .val (.ref p0), .val (.int (f 3)), .unset, .unset] [(.ref p0)])) rfl rfl (hb hby d1_48)) ?_
          show G T32 (mkF m 49 #[.val (.ref p0), .val (.int (1 : Int32)), .val (.ref b32), .val (.int (0 : Int32)), .val (.ref p0), .val (.int (f 3)), .unset, .unset] [(.int (4 : Int32))])
          refine hp (fun tq kq => XS.istore X32.here hx rfl (hb hby d1_49) rfl (l' := #[.val (.ref p0), .val (.int (1 : Int32)), .val (.ref b32), .val (.int (0 : Int32)), .val (.ref p0), .val (.int (4 : Int32)), .unset, .unset]) rfl kq) ?_
          show G T32 (mkF m 51 #[.val (.ref p0), .val (.int (1 : Int32)), .val (.ref b32), .val (.int (0 : Int32)), .val (.ref p0), .val (.int (4 : Int32)), .unset, .unset] [])
          refine hp (fun tq kq => XS.iconst X32.here hx rfl (hb hby d1_51) kq) ?_
          show G T32 (mkF m 52 #[.val (.ref p0), .val (.int (1 : Int32)), .val (.ref b32), .val (.int (0 : Int32)), .val (.ref p0), .val (.int (4 : Int32)), .unset, .unset] [(.int (0 : Int32))])
          refine hp (fun tq kq => XS.istore X32.here hx rfl (hb hby d1_52) rfl (l' := #[.val (.ref p0), .val (.int (1 : Int32)), .val (.ref b32), .val (.int (0 : Int32)), .val (.ref p0), .val (.int (4 : Int32)), .val (.int (0 : Int32)), .unset]) rfl kq) ?_
          show G T32 (mkF m 54 #[.val (.ref p0), .val (.int (1 : Int32)), .val (.ref b32), .val (.int (0 : Int32)), .val (.ref p0), .val (.int (4 : Int32)), .val (.int (0 : Int32)), .unset] [])
          refine hp (fun tq kq => XS.iload X32.here hx rfl (hb hby d1_54) rfl kq) ?_
          show G T32 (mkF m 56 #[.val (.ref p0), .val (.int (1 : Int32)), .val (.ref b32), .val (.int (0 : Int32)), .val (.ref p0), .val (.int (4 : Int32)), .val (.int (0 : Int32)), .unset] [(.int (0 : Int32))])
          refine hp (fun tq kq => XS.iload X32.here hx rfl (hb hby d1_56) rfl kq) ?_
          show G T32 (mkF m 58 #[.val (.ref p0), .val (.int (1 : Int32)), .val (.ref b32), .val (.int (0 : Int32)), .val (.ref p0), .val (.int (4 : Int32)), .val (.int (0 : Int32)), .unset] [(.int (4 : Int32)), (.int (0 : Int32))])
          refine hp (fun tq kq => XS.icmpNo X32.here hx rfl (hb hby d1_58) rfl (tlt (by decide)).2.1 kq) ?_
          show G T32 (mkF m 61 #[.val (.ref p0), .val (.int (1 : Int32)), .val (.ref b32), .val (.int (0 : Int32)), .val (.ref p0), .val (.int (4 : Int32)), .val (.int (0 : Int32)), .unset] [])
          refine hp (fun tq kq => XS.aload X32.here hx rfl (hb hby d1_61) rfl rfl kq) ?_
          show G T32 (mkF m 63 #[.val (.ref p0), .val (.int (1 : Int32)), .val (.ref b32), .val (.int (0 : Int32)), .val (.ref p0), .val (.int (4 : Int32)), .val (.int (0 : Int32)), .unset] [(.ref p0)])
          refine hp (fun tq kq => XS.iload X32.here hx rfl (hb hby d1_63) rfl kq) ?_
          show G T32 (mkF m 65 #[.val (.ref p0), .val (.int (1 : Int32)), .val (.ref b32), .val (.int (0 : Int32)), .val (.ref p0), .val (.int (4 : Int32)), .val (.int (0 : Int32)), .unset] [(.int (0 : Int32)), (.ref p0)])
          refine hp (own_ldI X32 hx hZ e32 V32_p0 (j := (0 : Int32)) 0 (by decide) (by decide) (by decide) (g := (mkF m 65 #[.val (.ref p0), .val (.int (1 : Int32)), .val (.ref b32), .val (.int (0 : Int32)), .val (.ref p0), .val (.int (4 : Int32)), .val (.int (0 : Int32)), .unset] [(.int (0 : Int32)), (.ref p0)])) rfl rfl (hb hby d1_65)) ?_
          show G T32 (mkF m 66 #[.val (.ref p0), .val (.int (1 : Int32)), .val (.ref b32), .val (.int (0 : Int32)), .val (.ref p0), .val (.int (4 : Int32)), .val (.int (0 : Int32)), .unset] [(.int (f 0))])
          refine hp (fun tq kq => XS.istore X32.here hx rfl (hb hby d1_66) rfl (l' := #[.val (.ref p0), .val (.int (1 : Int32)), .val (.ref b32), .val (.int (0 : Int32)), .val (.ref p0), .val (.int (4 : Int32)), .val (.int (0 : Int32)), .val (.int (f 0))]) rfl kq) ?_
          show G T32 (mkF m 68 #[.val (.ref p0), .val (.int (1 : Int32)), .val (.ref b32), .val (.int (0 : Int32)), .val (.ref p0), .val (.int (4 : Int32)), .val (.int (0 : Int32)), .val (.int (f 0))] [])
          refine hp (fun tq kq => XS.iload X32.here hx rfl (hb hby d1_68) rfl kq) ?_
          show G T32 (mkF m 70 #[.val (.ref p0), .val (.int (1 : Int32)), .val (.ref b32), .val (.int (0 : Int32)), .val (.ref p0), .val (.int (4 : Int32)), .val (.int (0 : Int32)), .val (.int (f 0))] [(.int (f 0))])
          refine hp (fun tq kq => XS.iconst X32.here hx rfl (hb hby d1_70) kq) ?_
          show G T32 (mkF m 71 #[.val (.ref p0), .val (.int (1 : Int32)), .val (.ref b32), .val (.int (0 : Int32)), .val (.ref p0), .val (.int (4 : Int32)), .val (.int (0 : Int32)), .val (.int (f 0))] [(.int (-1 : Int32)), (.int (f 0))])
          refine hp (fun tq kq => XS.icmpNo X32.here hx rfl (hb hby d1_71) rfl (feq hb1).1 kq) ?_
          show G T32 (mkF m 74 #[.val (.ref p0), .val (.int (1 : Int32)), .val (.ref b32), .val (.int (0 : Int32)), .val (.ref p0), .val (.int (4 : Int32)), .val (.int (0 : Int32)), .val (.int (f 0))] [])
          refine hp (fun tq kq => XS.aloadN X32.here hx rfl (hb hby d1_74) rfl rfl kq) ?_
          show G T32 (mkF m 75 #[.val (.ref p0), .val (.int (1 : Int32)), .val (.ref b32), .val (.int (0 : Int32)), .val (.ref p0), .val (.int (4 : Int32)), .val (.int (0 : Int32)), .val (.int (f 0))] [(.ref b32)])
          refine hp (fun tq kq => XS.iloadN X32.here hx rfl (hb hby d1_75) rfl kq) ?_
          show G T32 (mkF m 76 #[.val (.ref p0), .val (.int (1 : Int32)), .val (.ref b32), .val (.int (0 : Int32)), .val (.ref p0), .val (.int (4 : Int32)), .val (.int (0 : Int32)), .val (.int (f 0))] [(.int (0 : Int32)), (.ref b32)])
          refine hp (fun tq kq => XS.iload X32.here hx rfl (hb hby d1_76) rfl kq) ?_
          show G T32 (mkF m 78 #[.val (.ref p0), .val (.int (1 : Int32)), .val (.ref b32), .val (.int (0 : Int32)), .val (.ref p0), .val (.int (4 : Int32)), .val (.int (0 : Int32)), .val (.int (f 0))] [(.int (f 0)), (.int (0 : Int32)), (.ref b32)])
          obtain ⟨T33, h33, X33, e33, W33, V33_b32, st33⟩ := own_stI X32 hx hZ e32 V32_b32 (j := (0 : Int32)) 0 (by decide) (by decide) (by decide) (g := (mkF m 78 #[.val (.ref p0), .val (.int (1 : Int32)), .val (.ref b32), .val (.int (0 : Int32)), .val (.ref p0), .val (.int (4 : Int32)), .val (.int (0 : Int32)), .val (.int (f 0))] [(.int (f 0)), (.int (0 : Int32)), (.ref b32)])) rfl rfl (hb hby d1_78)
          have V33_p0 := V32_p0.other W33 ne32_p0
          have K33 := K32.wr W33 (Or.inr sz_b32)
          have N33 := Fr.snoc X33 N0 g_b32
          refine hp st33 ?_
          show G T33 (mkF m 79 #[.val (.ref p0), .val (.int (1 : Int32)), .val (.ref b32), .val (.int (0 : Int32)), .val (.ref p0), .val (.int (4 : Int32)), .val (.int (0 : Int32)), .val (.int (f 0))] [])
          refine hp (fun tq kq => XS.iinc X33.here hx rfl (hb hby d1_79) rfl (l' := #[.val (.ref p0), .val (.int (1 : Int32)), .val (.ref b32), .val (.int (1 : Int32)), .val (.ref p0), .val (.int (4 : Int32)), .val (.int (0 : Int32)), .val (.int (f 0))]) rfl kq) ?_
          show G T33 (mkF m 82 #[.val (.ref p0), .val (.int (1 : Int32)), .val (.ref b32), .val (.int (1 : Int32)), .val (.ref p0), .val (.int (4 : Int32)), .val (.int (0 : Int32)), .val (.int (f 0))] [])
          refine hp (fun tq kq => XS.iinc X33.here hx rfl (hb hby d1_82) rfl (l' := #[.val (.ref p0), .val (.int (1 : Int32)), .val (.ref b32), .val (.int (1 : Int32)), .val (.ref p0), .val (.int (4 : Int32)), .val (.int (1 : Int32)), .val (.int (f 0))]) rfl kq) ?_
          show G T33 (mkF m 85 #[.val (.ref p0), .val (.int (1 : Int32)), .val (.ref b32), .val (.int (1 : Int32)), .val (.ref p0), .val (.int (4 : Int32)), .val (.int (1 : Int32)), .val (.int (f 0))] [])
          refine hp (fun tq kq => XS.goto X33.here hx rfl (pc0 := 85) (pc' := 54) rfl (hb hby d1_85) (by decide) (by decide) kq) ?_
          show G T33 (mkF m 54 #[.val (.ref p0), .val (.int (1 : Int32)), .val (.ref b32), .val (.int (1 : Int32)), .val (.ref p0), .val (.int (4 : Int32)), .val (.int (1 : Int32)), .val (.int (f 0))] [])
          refine hp (fun tq kq => XS.iload X33.here hx rfl (hb hby d1_54) rfl kq) ?_
          show G T33 (mkF m 56 #[.val (.ref p0), .val (.int (1 : Int32)), .val (.ref b32), .val (.int (1 : Int32)), .val (.ref p0), .val (.int (4 : Int32)), .val (.int (1 : Int32)), .val (.int (f 0))] [(.int (1 : Int32))])
          refine hp (fun tq kq => XS.iload X33.here hx rfl (hb hby d1_56) rfl kq) ?_
          show G T33 (mkF m 58 #[.val (.ref p0), .val (.int (1 : Int32)), .val (.ref b32), .val (.int (1 : Int32)), .val (.ref p0), .val (.int (4 : Int32)), .val (.int (1 : Int32)), .val (.int (f 0))] [(.int (4 : Int32)), (.int (1 : Int32))])
          refine hp (fun tq kq => XS.icmpNo X33.here hx rfl (hb hby d1_58) rfl (tlt (by decide)).2.1 kq) ?_
          show G T33 (mkF m 61 #[.val (.ref p0), .val (.int (1 : Int32)), .val (.ref b32), .val (.int (1 : Int32)), .val (.ref p0), .val (.int (4 : Int32)), .val (.int (1 : Int32)), .val (.int (f 0))] [])
          refine hp (fun tq kq => XS.aload X33.here hx rfl (hb hby d1_61) rfl rfl kq) ?_
          show G T33 (mkF m 63 #[.val (.ref p0), .val (.int (1 : Int32)), .val (.ref b32), .val (.int (1 : Int32)), .val (.ref p0), .val (.int (4 : Int32)), .val (.int (1 : Int32)), .val (.int (f 0))] [(.ref p0)])
          refine hp (fun tq kq => XS.iload X33.here hx rfl (hb hby d1_63) rfl kq) ?_
          show G T33 (mkF m 65 #[.val (.ref p0), .val (.int (1 : Int32)), .val (.ref b32), .val (.int (1 : Int32)), .val (.ref p0), .val (.int (4 : Int32)), .val (.int (1 : Int32)), .val (.int (f 0))] [(.int (1 : Int32)), (.ref p0)])
          refine hp (own_ldI X33 hx hZ e33 V33_p0 (j := (1 : Int32)) 1 (by decide) (by decide) (by decide) (g := (mkF m 65 #[.val (.ref p0), .val (.int (1 : Int32)), .val (.ref b32), .val (.int (1 : Int32)), .val (.ref p0), .val (.int (4 : Int32)), .val (.int (1 : Int32)), .val (.int (f 0))] [(.int (1 : Int32)), (.ref p0)])) rfl rfl (hb hby d1_65)) ?_
          show G T33 (mkF m 66 #[.val (.ref p0), .val (.int (1 : Int32)), .val (.ref b32), .val (.int (1 : Int32)), .val (.ref p0), .val (.int (4 : Int32)), .val (.int (1 : Int32)), .val (.int (f 0))] [(.int (f 1))])
          refine hp (fun tq kq => XS.istore X33.here hx rfl (hb hby d1_66) rfl (l' := #[.val (.ref p0), .val (.int (1 : Int32)), .val (.ref b32), .val (.int (1 : Int32)), .val (.ref p0), .val (.int (4 : Int32)), .val (.int (1 : Int32)), .val (.int (f 1))]) rfl kq) ?_
          show G T33 (mkF m 68 #[.val (.ref p0), .val (.int (1 : Int32)), .val (.ref b32), .val (.int (1 : Int32)), .val (.ref p0), .val (.int (4 : Int32)), .val (.int (1 : Int32)), .val (.int (f 1))] [])
          refine hp (fun tq kq => XS.iload X33.here hx rfl (hb hby d1_68) rfl kq) ?_
          show G T33 (mkF m 70 #[.val (.ref p0), .val (.int (1 : Int32)), .val (.ref b32), .val (.int (1 : Int32)), .val (.ref p0), .val (.int (4 : Int32)), .val (.int (1 : Int32)), .val (.int (f 1))] [(.int (f 1))])
          refine hp (fun tq kq => XS.iconst X33.here hx rfl (hb hby d1_70) kq) ?_
          show G T33 (mkF m 71 #[.val (.ref p0), .val (.int (1 : Int32)), .val (.ref b32), .val (.int (1 : Int32)), .val (.ref p0), .val (.int (4 : Int32)), .val (.int (1 : Int32)), .val (.int (f 1))] [(.int (-1 : Int32)), (.int (f 1))])
          refine hp (fun tq kq => XS.icmpYes X33.here hx rfl (pc0 := 71) (pc' := 82) rfl (hb hby d1_71) rfl (teq hb29).1 (by decide) (by decide) kq) ?_
          show G T33 (mkF m 82 #[.val (.ref p0), .val (.int (1 : Int32)), .val (.ref b32), .val (.int (1 : Int32)), .val (.ref p0), .val (.int (4 : Int32)), .val (.int (1 : Int32)), .val (.int (f 1))] [])
          refine hp (fun tq kq => XS.iinc X33.here hx rfl (hb hby d1_82) rfl (l' := #[.val (.ref p0), .val (.int (1 : Int32)), .val (.ref b32), .val (.int (1 : Int32)), .val (.ref p0), .val (.int (4 : Int32)), .val (.int (2 : Int32)), .val (.int (f 1))]) rfl kq) ?_
          show G T33 (mkF m 85 #[.val (.ref p0), .val (.int (1 : Int32)), .val (.ref b32), .val (.int (1 : Int32)), .val (.ref p0), .val (.int (4 : Int32)), .val (.int (2 : Int32)), .val (.int (f 1))] [])
          refine hp (fun tq kq => XS.goto X33.here hx rfl (pc0 := 85) (pc' := 54) rfl (hb hby d1_85) (by decide) (by decide) kq) ?_
          show G T33 (mkF m 54 #[.val (.ref p0), .val (.int (1 : Int32)), .val (.ref b32), .val (.int (1 : Int32)), .val (.ref p0), .val (.int (4 : Int32)), .val (.int (2 : Int32)), .val (.int (f 1))] [])
          refine hp (fun tq kq => XS.iload X33.here hx rfl (hb hby d1_54) rfl kq) ?_
          show G T33 (mkF m 56 #[.val (.ref p0), .val (.int (1 : Int32)), .val (.ref b32), .val (.int (1 : Int32)), .val (.ref p0), .val (.int (4 : Int32)), .val (.int (2 : Int32)), .val (.int (f 1))] [(.int (2 : Int32))])
          refine hp (fun tq kq => XS.iload X33.here hx rfl (hb hby d1_56) rfl kq) ?_
          show G T33 (mkF m 58 #[.val (.ref p0), .val (.int (1 : Int32)), .val (.ref b32), .val (.int (1 : Int32)), .val (.ref p0), .val (.int (4 : Int32)), .val (.int (2 : Int32)), .val (.int (f 1))] [(.int (4 : Int32)), (.int (2 : Int32))])
          refine hp (fun tq kq => XS.icmpNo X33.here hx rfl (hb hby d1_58) rfl (tlt (by decide)).2.1 kq) ?_
          show G T33 (mkF m 61 #[.val (.ref p0), .val (.int (1 : Int32)), .val (.ref b32), .val (.int (1 : Int32)), .val (.ref p0), .val (.int (4 : Int32)), .val (.int (2 : Int32)), .val (.int (f 1))] [])
          refine hp (fun tq kq => XS.aload X33.here hx rfl (hb hby d1_61) rfl rfl kq) ?_
          show G T33 (mkF m 63 #[.val (.ref p0), .val (.int (1 : Int32)), .val (.ref b32), .val (.int (1 : Int32)), .val (.ref p0), .val (.int (4 : Int32)), .val (.int (2 : Int32)), .val (.int (f 1))] [(.ref p0)])
          refine hp (fun tq kq => XS.iload X33.here hx rfl (hb hby d1_63) rfl kq) ?_
          show G T33 (mkF m 65 #[.val (.ref p0), .val (.int (1 : Int32)), .val (.ref b32), .val (.int (1 : Int32)), .val (.ref p0), .val (.int (4 : Int32)), .val (.int (2 : Int32)), .val (.int (f 1))] [(.int (2 : Int32)), (.ref p0)])
          refine hp (own_ldI X33 hx hZ e33 V33_p0 (j := (2 : Int32)) 2 (by decide) (by decide) (by decide) (g := (mkF m 65 #[.val (.ref p0), .val (.int (1 : Int32)), .val (.ref b32), .val (.int (1 : Int32)), .val (.ref p0), .val (.int (4 : Int32)), .val (.int (2 : Int32)), .val (.int (f 1))] [(.int (2 : Int32)), (.ref p0)])) rfl rfl (hb hby d1_65)) ?_
          show G T33 (mkF m 66 #[.val (.ref p0), .val (.int (1 : Int32)), .val (.ref b32), .val (.int (1 : Int32)), .val (.ref p0), .val (.int (4 : Int32)), .val (.int (2 : Int32)), .val (.int (f 1))] [(.int (f 2))])
          refine hp (fun tq kq => XS.istore X33.here hx rfl (hb hby d1_66) rfl (l' := #[.val (.ref p0), .val (.int (1 : Int32)), .val (.ref b32), .val (.int (1 : Int32)), .val (.ref p0), .val (.int (4 : Int32)), .val (.int (2 : Int32)), .val (.int (f 2))]) rfl kq) ?_
          show G T33 (mkF m 68 #[.val (.ref p0), .val (.int (1 : Int32)), .val (.ref b32), .val (.int (1 : Int32)), .val (.ref p0), .val (.int (4 : Int32)), .val (.int (2 : Int32)), .val (.int (f 2))] [])
          refine hp (fun tq kq => XS.iload X33.here hx rfl (hb hby d1_68) rfl kq) ?_
          show G T33 (mkF m 70 #[.val (.ref p0), .val (.int (1 : Int32)), .val (.ref b32), .val (.int (1 : Int32)), .val (.ref p0), .val (.int (4 : Int32)), .val (.int (2 : Int32)), .val (.int (f 2))] [(.int (f 2))])
          refine hp (fun tq kq => XS.iconst X33.here hx rfl (hb hby d1_70) kq) ?_
          show G T33 (mkF m 71 #[.val (.ref p0), .val (.int (1 : Int32)), .val (.ref b32), .val (.int (1 : Int32)), .val (.ref p0), .val (.int (4 : Int32)), .val (.int (2 : Int32)), .val (.int (f 2))] [(.int (-1 : Int32)), (.int (f 2))])
          refine hp (fun tq kq => XS.icmpYes X33.here hx rfl (pc0 := 71) (pc' := 82) rfl (hb hby d1_71) rfl (teq hb30).1 (by decide) (by decide) kq) ?_
          show G T33 (mkF m 82 #[.val (.ref p0), .val (.int (1 : Int32)), .val (.ref b32), .val (.int (1 : Int32)), .val (.ref p0), .val (.int (4 : Int32)), .val (.int (2 : Int32)), .val (.int (f 2))] [])
          refine hp (fun tq kq => XS.iinc X33.here hx rfl (hb hby d1_82) rfl (l' := #[.val (.ref p0), .val (.int (1 : Int32)), .val (.ref b32), .val (.int (1 : Int32)), .val (.ref p0), .val (.int (4 : Int32)), .val (.int (3 : Int32)), .val (.int (f 2))]) rfl kq) ?_
          show G T33 (mkF m 85 #[.val (.ref p0), .val (.int (1 : Int32)), .val (.ref b32), .val (.int (1 : Int32)), .val (.ref p0), .val (.int (4 : Int32)), .val (.int (3 : Int32)), .val (.int (f 2))] [])
          refine hp (fun tq kq => XS.goto X33.here hx rfl (pc0 := 85) (pc' := 54) rfl (hb hby d1_85) (by decide) (by decide) kq) ?_
          show G T33 (mkF m 54 #[.val (.ref p0), .val (.int (1 : Int32)), .val (.ref b32), .val (.int (1 : Int32)), .val (.ref p0), .val (.int (4 : Int32)), .val (.int (3 : Int32)), .val (.int (f 2))] [])
          refine hp (fun tq kq => XS.iload X33.here hx rfl (hb hby d1_54) rfl kq) ?_
          show G T33 (mkF m 56 #[.val (.ref p0), .val (.int (1 : Int32)), .val (.ref b32), .val (.int (1 : Int32)), .val (.ref p0), .val (.int (4 : Int32)), .val (.int (3 : Int32)), .val (.int (f 2))] [(.int (3 : Int32))])
          refine hp (fun tq kq => XS.iload X33.here hx rfl (hb hby d1_56) rfl kq) ?_
          show G T33 (mkF m 58 #[.val (.ref p0), .val (.int (1 : Int32)), .val (.ref b32), .val (.int (1 : Int32)), .val (.ref p0), .val (.int (4 : Int32)), .val (.int (3 : Int32)), .val (.int (f 2))] [(.int (4 : Int32)), (.int (3 : Int32))])
          refine hp (fun tq kq => XS.icmpNo X33.here hx rfl (hb hby d1_58) rfl (tlt (by decide)).2.1 kq) ?_
          show G T33 (mkF m 61 #[.val (.ref p0), .val (.int (1 : Int32)), .val (.ref b32), .val (.int (1 : Int32)), .val (.ref p0), .val (.int (4 : Int32)), .val (.int (3 : Int32)), .val (.int (f 2))] [])
          refine hp (fun tq kq => XS.aload X33.here hx rfl (hb hby d1_61) rfl rfl kq) ?_
          show G T33 (mkF m 63 #[.val (.ref p0), .val (.int (1 : Int32)), .val (.ref b32), .val (.int (1 : Int32)), .val (.ref p0), .val (.int (4 : Int32)), .val (.int (3 : Int32)), .val (.int (f 2))] [(.ref p0)])
          refine hp (fun tq kq => XS.iload X33.here hx rfl (hb hby d1_63) rfl kq) ?_
          show G T33 (mkF m 65 #[.val (.ref p0), .val (.int (1 : Int32)), .val (.ref b32), .val (.int (1 : Int32)), .val (.ref p0), .val (.int (4 : Int32)), .val (.int (3 : Int32)), .val (.int (f 2))] [(.int (3 : Int32)), (.ref p0)])
          refine hp (own_ldI X33 hx hZ e33 V33_p0 (j := (3 : Int32)) 3 (by decide) (by decide) (by decide) (g := (mkF m 65 #[.val (.ref p0), .val (.int (1 : Int32)), .val (.ref b32), .val (.int (1 : Int32)), .val (.ref p0), .val (.int (4 : Int32)), .val (.int (3 : Int32)), .val (.int (f 2))] [(.int (3 : Int32)), (.ref p0)])) rfl rfl (hb hby d1_65)) ?_
          show G T33 (mkF m 66 #[.val (.ref p0), .val (.int (1 : Int32)), .val (.ref b32), .val (.int (1 : Int32)), .val (.ref p0), .val (.int (4 : Int32)), .val (.int (3 : Int32)), .val (.int (f 2))] [(.int (f 3))])
          refine hp (fun tq kq => XS.istore X33.here hx rfl (hb hby d1_66) rfl (l' := #[.val (.ref p0), .val (.int (1 : Int32)), .val (.ref b32), .val (.int (1 : Int32)), .val (.ref p0), .val (.int (4 : Int32)), .val (.int (3 : Int32)), .val (.int (f 3))]) rfl kq) ?_
          show G T33 (mkF m 68 #[.val (.ref p0), .val (.int (1 : Int32)), .val (.ref b32), .val (.int (1 : Int32)), .val (.ref p0), .val (.int (4 : Int32)), .val (.int (3 : Int32)), .val (.int (f 3))] [])
          refine hp (fun tq kq => XS.iload X33.here hx rfl (hb hby d1_68) rfl kq) ?_
          show G T33 (mkF m 70 #[.val (.ref p0), .val (.int (1 : Int32)), .val (.ref b32), .val (.int (1 : Int32)), .val (.ref p0), .val (.int (4 : Int32)), .val (.int (3 : Int32)), .val (.int (f 3))] [(.int (f 3))])
          refine hp (fun tq kq => XS.iconst X33.here hx rfl (hb hby d1_70) kq) ?_
          show G T33 (mkF m 71 #[.val (.ref p0), .val (.int (1 : Int32)), .val (.ref b32), .val (.int (1 : Int32)), .val (.ref p0), .val (.int (4 : Int32)), .val (.int (3 : Int32)), .val (.int (f 3))] [(.int (-1 : Int32)), (.int (f 3))])
          refine hp (fun tq kq => XS.icmpYes X33.here hx rfl (pc0 := 71) (pc' := 82) rfl (hb hby d1_71) rfl (teq hb31).1 (by decide) (by decide) kq) ?_
          show G T33 (mkF m 82 #[.val (.ref p0), .val (.int (1 : Int32)), .val (.ref b32), .val (.int (1 : Int32)), .val (.ref p0), .val (.int (4 : Int32)), .val (.int (3 : Int32)), .val (.int (f 3))] [])
          refine hp (fun tq kq => XS.iinc X33.here hx rfl (hb hby d1_82) rfl (l' := #[.val (.ref p0), .val (.int (1 : Int32)), .val (.ref b32), .val (.int (1 : Int32)), .val (.ref p0), .val (.int (4 : Int32)), .val (.int (4 : Int32)), .val (.int (f 3))]) rfl kq) ?_
          show G T33 (mkF m 85 #[.val (.ref p0), .val (.int (1 : Int32)), .val (.ref b32), .val (.int (1 : Int32)), .val (.ref p0), .val (.int (4 : Int32)), .val (.int (4 : Int32)), .val (.int (f 3))] [])
          refine hp (fun tq kq => XS.goto X33.here hx rfl (pc0 := 85) (pc' := 54) rfl (hb hby d1_85) (by decide) (by decide) kq) ?_
          show G T33 (mkF m 54 #[.val (.ref p0), .val (.int (1 : Int32)), .val (.ref b32), .val (.int (1 : Int32)), .val (.ref p0), .val (.int (4 : Int32)), .val (.int (4 : Int32)), .val (.int (f 3))] [])
          refine hp (fun tq kq => XS.iload X33.here hx rfl (hb hby d1_54) rfl kq) ?_
          show G T33 (mkF m 56 #[.val (.ref p0), .val (.int (1 : Int32)), .val (.ref b32), .val (.int (1 : Int32)), .val (.ref p0), .val (.int (4 : Int32)), .val (.int (4 : Int32)), .val (.int (f 3))] [(.int (4 : Int32))])
          refine hp (fun tq kq => XS.iload X33.here hx rfl (hb hby d1_56) rfl kq) ?_
          show G T33 (mkF m 58 #[.val (.ref p0), .val (.int (1 : Int32)), .val (.ref b32), .val (.int (1 : Int32)), .val (.ref p0), .val (.int (4 : Int32)), .val (.int (4 : Int32)), .val (.int (f 3))] [(.int (4 : Int32)), (.int (4 : Int32))])
          refine hp (fun tq kq => XS.icmpYes X33.here hx rfl (pc0 := 58) (pc' := 88) rfl (hb hby d1_58) rfl (flt (by decide)).2.1 (by decide) (by decide) kq) ?_
          show G T33 (mkF m 88 #[.val (.ref p0), .val (.int (1 : Int32)), .val (.ref b32), .val (.int (1 : Int32)), .val (.ref p0), .val (.int (4 : Int32)), .val (.int (4 : Int32)), .val (.int (f 3))] [])
          refine hp (fun tq kq => XS.aloadN X33.here hx rfl (hb hby d1_88) rfl rfl kq) ?_
          show G T33 (mkF m 89 #[.val (.ref p0), .val (.int (1 : Int32)), .val (.ref b32), .val (.int (1 : Int32)), .val (.ref p0), .val (.int (4 : Int32)), .val (.int (4 : Int32)), .val (.int (f 3))] [(.ref b32)])
          exact hR X33 (fun fs hl => own_retA X33 hx hret rfl (hb hby d1_89) hl) (fun q => by rw [hret] at q; cases q) (by rw [e33]; exact ⟨b32, 1, (own_up (fun _ => (0 : Int32)) 0 (f 0)), rfl, N33, K33, sz_b32, V33_b32, own_seld (l := [(f 0)]) (own_sel_of (a := [f 0]) (b := []) (c := []) (d := []) (if_neg hb1) (if_pos hb29) (if_pos hb30) (if_pos hb31)) rfl (own_pick1 rfl rfl)⟩) (by decide) (by decide)
        · refine hp (fun tq kq => XS.icmpNo X0.here hx rfl (hb hby d1_25) rfl (feq hb31).1 kq) ?_
          show G s₁ (mkF m 28 #[.val (.ref p0), .val (.int (1 : Int32)), .val (.ref p0), .val (.int (4 : Int32)), .val (.int (3 : Int32)), .val (.int (f 3)), .unset, .unset] [])
          refine hp (fun tq kq => XS.iinc X0.here hx rfl (hb hby d1_28) rfl (l' := #[.val (.ref p0), .val (.int (2 : Int32)), .val (.ref p0), .val (.int (4 : Int32)), .val (.int (3 : Int32)), .val (.int (f 3)), .unset, .unset]) rfl kq) ?_
          show G s₁ (mkF m 31 #[.val (.ref p0), .val (.int (2 : Int32)), .val (.ref p0), .val (.int (4 : Int32)), .val (.int (3 : Int32)), .val (.int (f 3)), .unset, .unset] [])
          refine hp (fun tq kq => XS.iinc X0.here hx rfl (hb hby d1_31) rfl (l' := #[.val (.ref p0), .val (.int (2 : Int32)), .val (.ref p0), .val (.int (4 : Int32)), .val (.int (4 : Int32)), .val (.int (f 3)), .unset, .unset]) rfl kq) ?_
          show G s₁ (mkF m 34 #[.val (.ref p0), .val (.int (2 : Int32)), .val (.ref p0), .val (.int (4 : Int32)), .val (.int (4 : Int32)), .val (.int (f 3)), .unset, .unset] [])
          refine hp (fun tq kq => XS.goto X0.here hx rfl (pc0 := 34) (pc' := 10) rfl (hb hby d1_34) (by decide) (by decide) kq) ?_
          show G s₁ (mkF m 10 #[.val (.ref p0), .val (.int (2 : Int32)), .val (.ref p0), .val (.int (4 : Int32)), .val (.int (4 : Int32)), .val (.int (f 3)), .unset, .unset] [])
          refine hp (fun tq kq => XS.iload X0.here hx rfl (hb hby d1_10) rfl kq) ?_
          show G s₁ (mkF m 12 #[.val (.ref p0), .val (.int (2 : Int32)), .val (.ref p0), .val (.int (4 : Int32)), .val (.int (4 : Int32)), .val (.int (f 3)), .unset, .unset] [(.int (4 : Int32))])
          refine hp (fun tq kq => XS.iloadN X0.here hx rfl (hb hby d1_12) rfl kq) ?_
          show G s₁ (mkF m 13 #[.val (.ref p0), .val (.int (2 : Int32)), .val (.ref p0), .val (.int (4 : Int32)), .val (.int (4 : Int32)), .val (.int (f 3)), .unset, .unset] [(.int (4 : Int32)), (.int (4 : Int32))])
          refine hp (fun tq kq => XS.icmpYes X0.here hx rfl (pc0 := 13) (pc' := 37) rfl (hb hby d1_13) rfl (flt (by decide)).2.1 (by decide) (by decide) kq) ?_
          show G s₁ (mkF m 37 #[.val (.ref p0), .val (.int (2 : Int32)), .val (.ref p0), .val (.int (4 : Int32)), .val (.int (4 : Int32)), .val (.int (f 3)), .unset, .unset] [])
          refine hp (fun tq kq => XS.iloadN X0.here hx rfl (hb hby d1_37) rfl kq) ?_
          show G s₁ (mkF m 38 #[.val (.ref p0), .val (.int (2 : Int32)), .val (.ref p0), .val (.int (4 : Int32)), .val (.int (4 : Int32)), .val (.int (f 3)), .unset, .unset] [(.int (2 : Int32))])
          obtain ⟨T34, h34, k34, X34, e34, E34, A34, st34⟩ := newP X0 hx hZ (hw _ (List.mem_of_getElem? (i := 1) rfl)) e0 (g := (mkF m 38 #[.val (.ref p0), .val (.int (2 : Int32)), .val (.ref p0), .val (.int (4 : Int32)), .val (.int (4 : Int32)), .val (.int (f 3)), .unset, .unset] [(.int (2 : Int32))])) rfl (hb hby d1_38) rfl (by decide) (cap := 2) (by decide) (by decide) (by decide) (by decide)
          obtain ⟨b34, g34⟩ : ∃ z, z = h0.size := ⟨_, rfl⟩
          rw [← g34] at A34 st34
          have ne34_p0 : p0 ≠ b34 := Nat.ne_of_lt (Nat.lt_of_lt_of_le V_p0.lt (Nat.le_of_eq g34.symm))
          have sz_b34 : h0.size ≤ b34 := Nat.le_trans K0.1 (Nat.le_of_eq g34.symm)
          have g_b34 : n0 ≤ b34 := Nat.le_trans Z0 sz_b34
          have V34_p0 := V_p0.ext E34
          have K34 := K0.ext E34
          have V34_b34 : own_AI Z h34 b34 .int 2 (fun _ => 0) := own_AI.new A34 (by decide) rfl 2 (by decide)
          refine hp st34 ?_
          show G T34 (mkF m 40 #[.val (.ref p0), .val (.int (2 : Int32)), .val (.ref p0), .val (.int (4 : Int32)), .val (.int (4 : Int32)), .val (.int (f 3)), .unset, .unset] [(.ref b34)])
          refine hp (fun tq kq => XS.astoreN X34.here hx rfl (hb hby d1_40) rfl rfl (l' := #[.val (.ref p0), .val (.int (2 : Int32)), .val (.ref b34), .val (.int (4 : Int32)), .val (.int (4 : Int32)), .val (.int (f 3)), .unset, .unset]) rfl kq) ?_
          show G T34 (mkF m 41 #[.val (.ref p0), .val (.int (2 : Int32)), .val (.ref b34), .val (.int (4 : Int32)), .val (.int (4 : Int32)), .val (.int (f 3)), .unset, .unset] [])
          refine hp (fun tq kq => XS.iconst X34.here hx rfl (hb hby d1_41) kq) ?_
          show G T34 (mkF m 42 #[.val (.ref p0), .val (.int (2 : Int32)), .val (.ref b34), .val (.int (4 : Int32)), .val (.int (4 : Int32)), .val (.int (f 3)), .unset, .unset] [(.int (0 : Int32))])
          refine hp (fun tq kq => XS.istoreN X34.here hx rfl (hb hby d1_42) rfl (l' := #[.val (.ref p0), .val (.int (2 : Int32)), .val (.ref b34), .val (.int (0 : Int32)), .val (.int (4 : Int32)), .val (.int (f 3)), .unset, .unset]) rfl kq) ?_
          show G T34 (mkF m 43 #[.val (.ref p0), .val (.int (2 : Int32)), .val (.ref b34), .val (.int (0 : Int32)), .val (.int (4 : Int32)), .val (.int (f 3)), .unset, .unset] [])
          refine hp (fun tq kq => XS.aloadN X34.here hx rfl (hb hby d1_43) rfl rfl kq) ?_
          show G T34 (mkF m 44 #[.val (.ref p0), .val (.int (2 : Int32)), .val (.ref b34), .val (.int (0 : Int32)), .val (.int (4 : Int32)), .val (.int (f 3)), .unset, .unset] [(.ref p0)])
          refine hp (fun tq kq => XS.astore X34.here hx rfl (hb hby d1_44) rfl rfl (l' := #[.val (.ref p0), .val (.int (2 : Int32)), .val (.ref b34), .val (.int (0 : Int32)), .val (.ref p0), .val (.int (f 3)), .unset, .unset]) rfl kq) ?_
          show G T34 (mkF m 46 #[.val (.ref p0), .val (.int (2 : Int32)), .val (.ref b34), .val (.int (0 : Int32)), .val (.ref p0), .val (.int (f 3)), .unset, .unset] [])
          refine hp (fun tq kq => XS.aload X34.here hx rfl (hb hby d1_46) rfl rfl kq) ?_
          show G T34 (mkF m 48 #[.val (.ref p0), .val (.int (2 : Int32)), .val (.ref b34), .val (.int (0 : Int32)), .val (.ref p0), .val (.int (f 3)), .unset, .unset] [(.ref p0)])
          refine hp (own_lenI X34 hx hZ e34 V34_p0 (4 : Int32) rfl (g := (mkF m 48 #[.val (.ref p0), .val (.int (2 : Int32)), .val (.ref b34), .val (.int (0 : Int32)), .val (.ref p0), .val (.int (f 3)), .unset, .unset] [(.ref p0)])) rfl rfl (hb hby d1_48)) ?_
          show G T34 (mkF m 49 #[.val (.ref p0), .val (.int (2 : Int32)), .val (.ref b34), .val (.int (0 : Int32)), .val (.ref p0), .val (.int (f 3)), .unset, .unset] [(.int (4 : Int32))])
          refine hp (fun tq kq => XS.istore X34.here hx rfl (hb hby d1_49) rfl (l' := #[.val (.ref p0), .val (.int (2 : Int32)), .val (.ref b34), .val (.int (0 : Int32)), .val (.ref p0), .val (.int (4 : Int32)), .unset, .unset]) rfl kq) ?_
          show G T34 (mkF m 51 #[.val (.ref p0), .val (.int (2 : Int32)), .val (.ref b34), .val (.int (0 : Int32)), .val (.ref p0), .val (.int (4 : Int32)), .unset, .unset] [])
          refine hp (fun tq kq => XS.iconst X34.here hx rfl (hb hby d1_51) kq) ?_
          show G T34 (mkF m 52 #[.val (.ref p0), .val (.int (2 : Int32)), .val (.ref b34), .val (.int (0 : Int32)), .val (.ref p0), .val (.int (4 : Int32)), .unset, .unset] [(.int (0 : Int32))])
          refine hp (fun tq kq => XS.istore X34.here hx rfl (hb hby d1_52) rfl (l' := #[.val (.ref p0), .val (.int (2 : Int32)), .val (.ref b34), .val (.int (0 : Int32)), .val (.ref p0), .val (.int (4 : Int32)), .val (.int (0 : Int32)), .unset]) rfl kq) ?_
          show G T34 (mkF m 54 #[.val (.ref p0), .val (.int (2 : Int32)), .val (.ref b34), .val (.int (0 : Int32)), .val (.ref p0), .val (.int (4 : Int32)), .val (.int (0 : Int32)), .unset] [])
          refine hp (fun tq kq => XS.iload X34.here hx rfl (hb hby d1_54) rfl kq) ?_
          show G T34 (mkF m 56 #[.val (.ref p0), .val (.int (2 : Int32)), .val (.ref b34), .val (.int (0 : Int32)), .val (.ref p0), .val (.int (4 : Int32)), .val (.int (0 : Int32)), .unset] [(.int (0 : Int32))])
          refine hp (fun tq kq => XS.iload X34.here hx rfl (hb hby d1_56) rfl kq) ?_
          show G T34 (mkF m 58 #[.val (.ref p0), .val (.int (2 : Int32)), .val (.ref b34), .val (.int (0 : Int32)), .val (.ref p0), .val (.int (4 : Int32)), .val (.int (0 : Int32)), .unset] [(.int (4 : Int32)), (.int (0 : Int32))])
          refine hp (fun tq kq => XS.icmpNo X34.here hx rfl (hb hby d1_58) rfl (tlt (by decide)).2.1 kq) ?_
          show G T34 (mkF m 61 #[.val (.ref p0), .val (.int (2 : Int32)), .val (.ref b34), .val (.int (0 : Int32)), .val (.ref p0), .val (.int (4 : Int32)), .val (.int (0 : Int32)), .unset] [])
          refine hp (fun tq kq => XS.aload X34.here hx rfl (hb hby d1_61) rfl rfl kq) ?_
          show G T34 (mkF m 63 #[.val (.ref p0), .val (.int (2 : Int32)), .val (.ref b34), .val (.int (0 : Int32)), .val (.ref p0), .val (.int (4 : Int32)), .val (.int (0 : Int32)), .unset] [(.ref p0)])
          refine hp (fun tq kq => XS.iload X34.here hx rfl (hb hby d1_63) rfl kq) ?_
          show G T34 (mkF m 65 #[.val (.ref p0), .val (.int (2 : Int32)), .val (.ref b34), .val (.int (0 : Int32)), .val (.ref p0), .val (.int (4 : Int32)), .val (.int (0 : Int32)), .unset] [(.int (0 : Int32)), (.ref p0)])
          refine hp (own_ldI X34 hx hZ e34 V34_p0 (j := (0 : Int32)) 0 (by decide) (by decide) (by decide) (g := (mkF m 65 #[.val (.ref p0), .val (.int (2 : Int32)), .val (.ref b34), .val (.int (0 : Int32)), .val (.ref p0), .val (.int (4 : Int32)), .val (.int (0 : Int32)), .unset] [(.int (0 : Int32)), (.ref p0)])) rfl rfl (hb hby d1_65)) ?_
          show G T34 (mkF m 66 #[.val (.ref p0), .val (.int (2 : Int32)), .val (.ref b34), .val (.int (0 : Int32)), .val (.ref p0), .val (.int (4 : Int32)), .val (.int (0 : Int32)), .unset] [(.int (f 0))])
          refine hp (fun tq kq => XS.istore X34.here hx rfl (hb hby d1_66) rfl (l' := #[.val (.ref p0), .val (.int (2 : Int32)), .val (.ref b34), .val (.int (0 : Int32)), .val (.ref p0), .val (.int (4 : Int32)), .val (.int (0 : Int32)), .val (.int (f 0))]) rfl kq) ?_
          show G T34 (mkF m 68 #[.val (.ref p0), .val (.int (2 : Int32)), .val (.ref b34), .val (.int (0 : Int32)), .val (.ref p0), .val (.int (4 : Int32)), .val (.int (0 : Int32)), .val (.int (f 0))] [])
          refine hp (fun tq kq => XS.iload X34.here hx rfl (hb hby d1_68) rfl kq) ?_
          show G T34 (mkF m 70 #[.val (.ref p0), .val (.int (2 : Int32)), .val (.ref b34), .val (.int (0 : Int32)), .val (.ref p0), .val (.int (4 : Int32)), .val (.int (0 : Int32)), .val (.int (f 0))] [(.int (f 0))])
          refine hp (fun tq kq => XS.iconst X34.here hx rfl (hb hby d1_70) kq) ?_
          show G T34 (mkF m 71 #[.val (.ref p0), .val (.int (2 : Int32)), .val (.ref b34), .val (.int (0 : Int32)), .val (.ref p0), .val (.int (4 : Int32)), .val (.int (0 : Int32)), .val (.int (f 0))] [(.int (-1 : Int32)), (.int (f 0))])
          refine hp (fun tq kq => XS.icmpNo X34.here hx rfl (hb hby d1_71) rfl (feq hb1).1 kq) ?_
          show G T34 (mkF m 74 #[.val (.ref p0), .val (.int (2 : Int32)), .val (.ref b34), .val (.int (0 : Int32)), .val (.ref p0), .val (.int (4 : Int32)), .val (.int (0 : Int32)), .val (.int (f 0))] [])
          refine hp (fun tq kq => XS.aloadN X34.here hx rfl (hb hby d1_74) rfl rfl kq) ?_
          show G T34 (mkF m 75 #[.val (.ref p0), .val (.int (2 : Int32)), .val (.ref b34), .val (.int (0 : Int32)), .val (.ref p0), .val (.int (4 : Int32)), .val (.int (0 : Int32)), .val (.int (f 0))] [(.ref b34)])
          refine hp (fun tq kq => XS.iloadN X34.here hx rfl (hb hby d1_75) rfl kq) ?_
          show G T34 (mkF m 76 #[.val (.ref p0), .val (.int (2 : Int32)), .val (.ref b34), .val (.int (0 : Int32)), .val (.ref p0), .val (.int (4 : Int32)), .val (.int (0 : Int32)), .val (.int (f 0))] [(.int (0 : Int32)), (.ref b34)])
          refine hp (fun tq kq => XS.iload X34.here hx rfl (hb hby d1_76) rfl kq) ?_
          show G T34 (mkF m 78 #[.val (.ref p0), .val (.int (2 : Int32)), .val (.ref b34), .val (.int (0 : Int32)), .val (.ref p0), .val (.int (4 : Int32)), .val (.int (0 : Int32)), .val (.int (f 0))] [(.int (f 0)), (.int (0 : Int32)), (.ref b34)])
          obtain ⟨T35, h35, X35, e35, W35, V35_b34, st35⟩ := own_stI X34 hx hZ e34 V34_b34 (j := (0 : Int32)) 0 (by decide) (by decide) (by decide) (g := (mkF m 78 #[.val (.ref p0), .val (.int (2 : Int32)), .val (.ref b34), .val (.int (0 : Int32)), .val (.ref p0), .val (.int (4 : Int32)), .val (.int (0 : Int32)), .val (.int (f 0))] [(.int (f 0)), (.int (0 : Int32)), (.ref b34)])) rfl rfl (hb hby d1_78)
          have V35_p0 := V34_p0.other W35 ne34_p0
          have K35 := K34.wr W35 (Or.inr sz_b34)
          have N35 := Fr.snoc X35 N0 g_b34
          refine hp st35 ?_
          show G T35 (mkF m 79 #[.val (.ref p0), .val (.int (2 : Int32)), .val (.ref b34), .val (.int (0 : Int32)), .val (.ref p0), .val (.int (4 : Int32)), .val (.int (0 : Int32)), .val (.int (f 0))] [])
          refine hp (fun tq kq => XS.iinc X35.here hx rfl (hb hby d1_79) rfl (l' := #[.val (.ref p0), .val (.int (2 : Int32)), .val (.ref b34), .val (.int (1 : Int32)), .val (.ref p0), .val (.int (4 : Int32)), .val (.int (0 : Int32)), .val (.int (f 0))]) rfl kq) ?_
          show G T35 (mkF m 82 #[.val (.ref p0), .val (.int (2 : Int32)), .val (.ref b34), .val (.int (1 : Int32)), .val (.ref p0), .val (.int (4 : Int32)), .val (.int (0 : Int32)), .val (.int (f 0))] [])
          refine hp (fun tq kq => XS.iinc X35.here hx rfl (hb hby d1_82) rfl (l' := #[.val (.ref p0), .val (.int (2 : Int32)), .val (.ref b34), .val (.int (1 : Int32)), .val (.ref p0), .val (.int (4 : Int32)), .val (.int (1 : Int32)), .val (.int (f 0))]) rfl kq) ?_
          show G T35 (mkF m 85 #[.val (.ref p0), .val (.int (2 : Int32)), .val (.ref b34), .val (.int (1 : Int32)), .val (.ref p0), .val (.int (4 : Int32)), .val (.int (1 : Int32)), .val (.int (f 0))] [])
          refine hp (fun tq kq => XS.goto X35.here hx rfl (pc0 := 85) (pc' := 54) rfl (hb hby d1_85) (by decide) (by decide) kq) ?_
          show G T35 (mkF m 54 #[.val (.ref p0), .val (.int (2 : Int32)), .val (.ref b34), .val (.int (1 : Int32)), .val (.ref p0), .val (.int (4 : Int32)), .val (.int (1 : Int32)), .val (.int (f 0))] [])
          refine hp (fun tq kq => XS.iload X35.here hx rfl (hb hby d1_54) rfl kq) ?_
          show G T35 (mkF m 56 #[.val (.ref p0), .val (.int (2 : Int32)), .val (.ref b34), .val (.int (1 : Int32)), .val (.ref p0), .val (.int (4 : Int32)), .val (.int (1 : Int32)), .val (.int (f 0))] [(.int (1 : Int32))])
          refine hp (fun tq kq => XS.iload X35.here hx rfl (hb hby d1_56) rfl kq) ?_
          show G T35 (mkF m 58 #[.val (.ref p0), .val (.int (2 : Int32)), .val (.ref b34), .val (.int (1 : Int32)), .val (.ref p0), .val (.int (4 : Int32)), .val (.int (1 : Int32)), .val (.int (f 0))] [(.int (4 : Int32)), (.int (1 : Int32))])
          refine hp (fun tq kq => XS.icmpNo X35.here hx rfl (hb hby d1_58) rfl (tlt (by decide)).2.1 kq) ?_
          show G T35 (mkF m 61 #[.val (.ref p0), .val (.int (2 : Int32)), .val (.ref b34), .val (.int (1 : Int32)), .val (.ref p0), .val (.int (4 : Int32)), .val (.int (1 : Int32)), .val (.int (f 0))] [])
          refine hp (fun tq kq => XS.aload X35.here hx rfl (hb hby d1_61) rfl rfl kq) ?_
          show G T35 (mkF m 63 #[.val (.ref p0), .val (.int (2 : Int32)), .val (.ref b34), .val (.int (1 : Int32)), .val (.ref p0), .val (.int (4 : Int32)), .val (.int (1 : Int32)), .val (.int (f 0))] [(.ref p0)])
          refine hp (fun tq kq => XS.iload X35.here hx rfl (hb hby d1_63) rfl kq) ?_
          show G T35 (mkF m 65 #[.val (.ref p0), .val (.int (2 : Int32)), .val (.ref b34), .val (.int (1 : Int32)), .val (.ref p0), .val (.int (4 : Int32)), .val (.int (1 : Int32)), .val (.int (f 0))] [(.int (1 : Int32)), (.ref p0)])
          refine hp (own_ldI X35 hx hZ e35 V35_p0 (j := (1 : Int32)) 1 (by decide) (by decide) (by decide) (g := (mkF m 65 #[.val (.ref p0), .val (.int (2 : Int32)), .val (.ref b34), .val (.int (1 : Int32)), .val (.ref p0), .val (.int (4 : Int32)), .val (.int (1 : Int32)), .val (.int (f 0))] [(.int (1 : Int32)), (.ref p0)])) rfl rfl (hb hby d1_65)) ?_
          show G T35 (mkF m 66 #[.val (.ref p0), .val (.int (2 : Int32)), .val (.ref b34), .val (.int (1 : Int32)), .val (.ref p0), .val (.int (4 : Int32)), .val (.int (1 : Int32)), .val (.int (f 0))] [(.int (f 1))])
          refine hp (fun tq kq => XS.istore X35.here hx rfl (hb hby d1_66) rfl (l' := #[.val (.ref p0), .val (.int (2 : Int32)), .val (.ref b34), .val (.int (1 : Int32)), .val (.ref p0), .val (.int (4 : Int32)), .val (.int (1 : Int32)), .val (.int (f 1))]) rfl kq) ?_
          show G T35 (mkF m 68 #[.val (.ref p0), .val (.int (2 : Int32)), .val (.ref b34), .val (.int (1 : Int32)), .val (.ref p0), .val (.int (4 : Int32)), .val (.int (1 : Int32)), .val (.int (f 1))] [])
          refine hp (fun tq kq => XS.iload X35.here hx rfl (hb hby d1_68) rfl kq) ?_
          show G T35 (mkF m 70 #[.val (.ref p0), .val (.int (2 : Int32)), .val (.ref b34), .val (.int (1 : Int32)), .val (.ref p0), .val (.int (4 : Int32)), .val (.int (1 : Int32)), .val (.int (f 1))] [(.int (f 1))])
          refine hp (fun tq kq => XS.iconst X35.here hx rfl (hb hby d1_70) kq) ?_
          show G T35 (mkF m 71 #[.val (.ref p0), .val (.int (2 : Int32)), .val (.ref b34), .val (.int (1 : Int32)), .val (.ref p0), .val (.int (4 : Int32)), .val (.int (1 : Int32)), .val (.int (f 1))] [(.int (-1 : Int32)), (.int (f 1))])
          refine hp (fun tq kq => XS.icmpYes X35.here hx rfl (pc0 := 71) (pc' := 82) rfl (hb hby d1_71) rfl (teq hb29).1 (by decide) (by decide) kq) ?_
          show G T35 (mkF m 82 #[.val (.ref p0), .val (.int (2 : Int32)), .val (.ref b34), .val (.int (1 : Int32)), .val (.ref p0), .val (.int (4 : Int32)), .val (.int (1 : Int32)), .val (.int (f 1))] [])
          refine hp (fun tq kq => XS.iinc X35.here hx rfl (hb hby d1_82) rfl (l' := #[.val (.ref p0), .val (.int (2 : Int32)), .val (.ref b34), .val (.int (1 : Int32)), .val (.ref p0), .val (.int (4 : Int32)), .val (.int (2 : Int32)), .val (.int (f 1))]) rfl kq) ?_
          show G T35 (mkF m 85 #[.val (.ref p0), .val (.int (2 : Int32)), .val (.ref b34), .val (.int (1 : Int32)), .val (.ref p0), .val (.int (4 : Int32)), .val (.int (2 : Int32)), .val (.int (f 1))] [])
          refine hp (fun tq kq => XS.goto X35.here hx rfl (pc0 := 85) (pc' := 54) rfl (hb hby d1_85) (by decide) (by decide) kq) ?_
          show G T35 (mkF m 54 #[.val (.ref p0), .val (.int (2 : Int32)), .val (.ref b34), .val (.int (1 : Int32)), .val (.ref p0), .val (.int (4 : Int32)), .val (.int (2 : Int32)), .val (.int (f 1))] [])
          refine hp (fun tq kq => XS.iload X35.here hx rfl (hb hby d1_54) rfl kq) ?_
          show G T35 (mkF m 56 #[.val (.ref p0), .val (.int (2 : Int32)), .val (.ref b34), .val (.int (1 : Int32)), .val (.ref p0), .val (.int (4 : Int32)), .val (.int (2 : Int32)), .val (.int (f 1))] [(.int (2 : Int32))])
          refine hp (fun tq kq => XS.iload X35.here hx rfl (hb hby d1_56) rfl kq) ?_
          show G T35 (mkF m 58 #[.val (.ref p0), .val (.int (2 : Int32)), .val (.ref b34), .val (.int (1 : Int32)), .val (.ref p0), .val (.int (4 : Int32)), .val (.int (2 : Int32)), .val (.int (f 1))] [(.int (4 : Int32)), (.int (2 : Int32))])
          refine hp (fun tq kq => XS.icmpNo X35.here hx rfl (hb hby d1_58) rfl (tlt (by decide)).2.1 kq) ?_
          show G T35 (mkF m 61 #[.val (.ref p0), .val (.int (2 : Int32)), .val (.ref b34), .val (.int (1 : Int32)), .val (.ref p0), .val (.int (4 : Int32)), .val (.int (2 : Int32)), .val (.int (f 1))] [])
          refine hp (fun tq kq => XS.aload X35.here hx rfl (hb hby d1_61) rfl rfl kq) ?_
          show G T35 (mkF m 63 #[.val (.ref p0), .val (.int (2 : Int32)), .val (.ref b34), .val (.int (1 : Int32)), .val (.ref p0), .val (.int (4 : Int32)), .val (.int (2 : Int32)), .val (.int (f 1))] [(.ref p0)])
          refine hp (fun tq kq => XS.iload X35.here hx rfl (hb hby d1_63) rfl kq) ?_
          show G T35 (mkF m 65 #[.val (.ref p0), .val (.int (2 : Int32)), .val (.ref b34), .val (.int (1 : Int32)), .val (.ref p0), .val (.int (4 : Int32)), .val (.int (2 : Int32)), .val (.int (f 1))] [(.int (2 : Int32)), (.ref p0)])
          refine hp (own_ldI X35 hx hZ e35 V35_p0 (j := (2 : Int32)) 2 (by decide) (by decide) (by decide) (g := (mkF m 65 #[.val (.ref p0), .val (.int (2 : Int32)), .val (.ref b34), .val (.int (1 : Int32)), .val (.ref p0), .val (.int (4 : Int32)), .val (.int (2 : Int32)), .val (.int (f 1))] [(.int (2 : Int32)), (.ref p0)])) rfl rfl (hb hby d1_65)) ?_
          show G T35 (mkF m 66 #[.val (.ref p0), .val (.int (2 : Int32)), .val (.ref b34), .val (.int (1 : Int32)), .val (.ref p0), .val (.int (4 : Int32)), .val (.int (2 : Int32)), .val (.int (f 1))] [(.int (f 2))])
          refine hp (fun tq kq => XS.istore X35.here hx rfl (hb hby d1_66) rfl (l' := #[.val (.ref p0), .val (.int (2 : Int32)), .val (.ref b34), .val (.int (1 : Int32)), .val (.ref p0), .val (.int (4 : Int32)), .val (.int (2 : Int32)), .val (.int (f 2))]) rfl kq) ?_
          show G T35 (mkF m 68 #[.val (.ref p0), .val (.int (2 : Int32)), .val (.ref b34), .val (.int (1 : Int32)), .val (.ref p0), .val (.int (4 : Int32)), .val (.int (2 : Int32)), .val (.int (f 2))] [])
          refine hp (fun tq kq => XS.iload X35.here hx rfl (hb hby d1_68) rfl kq) ?_
          show G T35 (mkF m 70 #[.val (.ref p0), .val (.int (2 : Int32)), .val (.ref b34), .val (.int (1 : Int32)), .val (.ref p0), .val (.int (4 : Int32)), .val (.int (2 : Int32)), .val (.int (f 2))] [(.int (f 2))])
          refine hp (fun tq kq => XS.iconst X35.here hx rfl (hb hby d1_70) kq) ?_
          show G T35 (mkF m 71 #[.val (.ref p0), .val (.int (2 : Int32)), .val (.ref b34), .val (.int (1 : Int32)), .val (.ref p0), .val (.int (4 : Int32)), .val (.int (2 : Int32)), .val (.int (f 2))] [(.int (-1 : Int32)), (.int (f 2))])
          refine hp (fun tq kq => XS.icmpYes X35.here hx rfl (pc0 := 71) (pc' := 82) rfl (hb hby d1_71) rfl (teq hb30).1 (by decide) (by decide) kq) ?_
          show G T35 (mkF m 82 #[.val (.ref p0), .val (.int (2 : Int32)), .val (.ref b34), .val (.int (1 : Int32)), .val (.ref p0), .val (.int (4 : Int32)), .val (.int (2 : Int32)), .val (.int (f 2))] [])
          refine hp (fun tq kq => XS.iinc X35.here hx rfl (hb hby d1_82) rfl (l' := #[.val (.ref p0), .val (.int (2 : Int32)), .val (.ref b34), .val (.int (1 : Int32)), .val (.ref p0), .val (.int (4 : Int32)), .val (.int (3 : Int32)), .val (.int (f 2))]) rfl kq) ?_
          show G T35 (mkF m 85 #[.val (.ref p0), .val (.int (2 : Int32)), .val (.ref b34), .val (.int (1 : Int32)), .val (.ref p0), .val (.int (4 : Int32)), .val (.int (3 : Int32)), .val (.int (f 2))] [])
          refine hp (fun tq kq => XS.goto X35.here hx rfl (pc0 := 85) (pc' := 54) rfl (hb hby d1_85) (by decide) (by decide) kq) ?_
          show G T35 (mkF m 54 #[.val (.ref p0), .val (.int (2 : Int32)), .val (.ref b34), .val (.int (1 : Int32)), .val (.ref p0), .val (.int (4 : Int32)), .val (.int (3 : Int32)), .val (.int (f 2))] [])
          refine hp (fun tq kq => XS.iload X35.here hx rfl (hb hby d1_54) rfl kq) ?_
          show G T35 (mkF m 56 #[.val (.ref p0), .val (.int (2 : Int32)), .val (.ref b34), .val (.int (1 : Int32)), .val (.ref p0), .val (.int (4 : Int32)), .val (.int (3 : Int32)), .val (.int (f 2))] [(.int (3 : Int32))])
          refine hp (fun tq kq => XS.iload X35.here hx rfl (hb hby d1_56) rfl kq) ?_
          show G T35 (mkF m 58 #[.val (.ref p0), .val (.int (2 : Int32)), .val (.ref b34), .val (.int (1 : Int32)), .val (.ref p0), .val (.int (4 : Int32)), .val (.int (3 : Int32)), .val (.int (f 2))] [(.int (4 : Int32)), (.int (3 : Int32))])
          refine hp (fun tq kq => XS.icmpNo X35.here hx rfl (hb hby d1_58) rfl (tlt (by decide)).2.1 kq) ?_
          show G T35 (mkF m 61 #[.val (.ref p0), .val (.int (2 : Int32)), .val (.ref b34), .val (.int (1 : Int32)), .val (.ref p0), .val (.int (4 : Int32)), .val (.int (3 : Int32)), .val (.int (f 2))] [])
          refine hp (fun tq kq => XS.aload X35.here hx rfl (hb hby d1_61) rfl rfl kq) ?_
          show G T35 (mkF m 63 #[.val (.ref p0), .val (.int (2 : Int32)), .val (.ref b34), .val (.int (1 : Int32)), .val (.ref p0), .val (.int (4 : Int32)), .val (.int (3 : Int32)), .val (.int (f 2))] [(.ref p0)])
          refine hp (fun tq kq => XS.iload X35.here hx rfl (hb hby d1_63) rfl kq) ?_
          show G T35 (mkF m 65 #[.val (.ref p0), .val (.int (2 : Int32)), .val (.ref b34), .val (.int (1 : Int32)), .val (.ref p0), .val (.int (4 : Int32)), .val (.int (3 : Int32)), .val (.int (f 2))] [(.int (3 : Int32)), (.ref p0)])
          refine hp (own_ldI X35 hx hZ e35 V35_p0 (j := (3 : Int32)) 3 (by decide) (by decide) (by decide) (g := (mkF m 65 #[.val (.ref p0), .val (.int (2 : Int32)), .val (.ref b34), .val (.int (1 : Int32)), .val (.ref p0), .val (.int (4 : Int32)), .val (.int (3 : Int32)), .val (.int (f 2))] [(.int (3 : Int32)), (.ref p0)])) rfl rfl (hb hby d1_65)) ?_
          show G T35 (mkF m 66 #[.val (.ref p0), .val (.int (2 : Int32)), .val (.ref b34), .val (.int (1 : Int32)), .val (.ref p0), .val (.int (4 : Int32)), .val (.int (3 : Int32)), .val (.int (f 2))] [(.int (f 3))])
          refine hp (fun tq kq => XS.istore X35.here hx rfl (hb hby d1_66) rfl (l' := #[.val (.ref p0), .val (.int (2 : Int32)), .val (.ref b34), .val (.int (1 : Int32)), .val (.ref p0), .val (.int (4 : Int32)), .val (.int (3 : Int32)), .val (.int (f 3))]) rfl kq) ?_
          show G T35 (mkF m 68 #[.val (.ref p0), .val (.int (2 : Int32)), .val (.ref b34), .val (.int (1 : Int32)), .val (.ref p0), .val (.int (4 : Int32)), .val (.int (3 : Int32)), .val (.int (f 3))] [])
          refine hp (fun tq kq => XS.iload X35.here hx rfl (hb hby d1_68) rfl kq) ?_
          show G T35 (mkF m 70 #[.val (.ref p0), .val (.int (2 : Int32)), .val (.ref b34), .val (.int (1 : Int32)), .val (.ref p0), .val (.int (4 : Int32)), .val (.int (3 : Int32)), .val (.int (f 3))] [(.int (f 3))])
          refine hp (fun tq kq => XS.iconst X35.here hx rfl (hb hby d1_70) kq) ?_
          show G T35 (mkF m 71 #[.val (.ref p0), .val (.int (2 : Int32)), .val (.ref b34), .val (.int (1 : Int32)), .val (.ref p0), .val (.int (4 : Int32)), .val (.int (3 : Int32)), .val (.int (f 3))] [(.int (-1 : Int32)), (.int (f 3))])
          refine hp (fun tq kq => XS.icmpNo X35.here hx rfl (hb hby d1_71) rfl (feq hb31).1 kq) ?_
          show G T35 (mkF m 74 #[.val (.ref p0), .val (.int (2 : Int32)), .val (.ref b34), .val (.int (1 : Int32)), .val (.ref p0), .val (.int (4 : Int32)), .val (.int (3 : Int32)), .val (.int (f 3))] [])
          refine hp (fun tq kq => XS.aloadN X35.here hx rfl (hb hby d1_74) rfl rfl kq) ?_
          show G T35 (mkF m 75 #[.val (.ref p0), .val (.int (2 : Int32)), .val (.ref b34), .val (.int (1 : Int32)), .val (.ref p0), .val (.int (4 : Int32)), .val (.int (3 : Int32)), .val (.int (f 3))] [(.ref b34)])
          refine hp (fun tq kq => XS.iloadN X35.here hx rfl (hb hby d1_75) rfl kq) ?_
          show G T35 (mkF m 76 #[.val (.ref p0), .val (.int (2 : Int32)), .val (.ref b34), .val (.int (1 : Int32)), .val (.ref p0), .val (.int (4 : Int32)), .val (.int (3 : Int32)), .val (.int (f 3))] [(.int (1 : Int32)), (.ref b34)])
          refine hp (fun tq kq => XS.iload X35.here hx rfl (hb hby d1_76) rfl kq) ?_
          show G T35 (mkF m 78 #[.val (.ref p0), .val (.int (2 : Int32)), .val (.ref b34), .val (.int (1 : Int32)), .val (.ref p0), .val (.int (4 : Int32)), .val (.int (3 : Int32)), .val (.int (f 3))] [(.int (f 3)), (.int (1 : Int32)), (.ref b34)])
          obtain ⟨T36, h36, X36, e36, W36, V36_b34, st36⟩ := own_stI X35 hx hZ e35 V35_b34 (j := (1 : Int32)) 1 (by decide) (by decide) (by decide) (g := (mkF m 78 #[.val (.ref p0), .val (.int (2 : Int32)), .val (.ref b34), .val (.int (1 : Int32)), .val (.ref p0), .val (.int (4 : Int32)), .val (.int (3 : Int32)), .val (.int (f 3))] [(.int (f 3)), (.int (1 : Int32)), (.ref b34)])) rfl rfl (hb hby d1_78)
          have V36_p0 := V35_p0.other W36 ne34_p0
          have K36 := K35.wr W36 (Or.inr sz_b34)
          have N36 := Fr.snoc X36 N35 g_b34
          refine hp st36 ?_
          show G T36 (mkF m 79 #[.val (.ref p0), .val (.int (2 : Int32)), .val (.ref b34), .val (.int (1 : Int32)), .val (.ref p0), .val (.int (4 : Int32)), .val (.int (3 : Int32)), .val (.int (f 3))] [])
          refine hp (fun tq kq => XS.iinc X36.here hx rfl (hb hby d1_79) rfl (l' := #[.val (.ref p0), .val (.int (2 : Int32)), .val (.ref b34), .val (.int (2 : Int32)), .val (.ref p0), .val (.int (4 : Int32)), .val (.int (3 : Int32)), .val (.int (f 3))]) rfl kq) ?_
          show G T36 (mkF m 82 #[.val (.ref p0), .val (.int (2 : Int32)), .val (.ref b34), .val (.int (2 : Int32)), .val (.ref p0), .val (.int (4 : Int32)), .val (.int (3 : Int32)), .val (.int (f 3))] [])
          refine hp (fun tq kq => XS.iinc X36.here hx rfl (hb hby d1_82) rfl (l' := #[.val (.ref p0), .val (.int (2 : Int32)), .val (.ref b34), .val (.int (2 : Int32)), .val (.ref p0), .val (.int (4 : Int32)), .val (.int (4 : Int32)), .val (.int (f 3))]) rfl kq) ?_
          show G T36 (mkF m 85 #[.val (.ref p0), .val (.int (2 : Int32)), .val (.ref b34), .val (.int (2 : Int32)), .val (.ref p0), .val (.int (4 : Int32)), .val (.int (4 : Int32)), .val (.int (f 3))] [])
          refine hp (fun tq kq => XS.goto X36.here hx rfl (pc0 := 85) (pc' := 54) rfl (hb hby d1_85) (by decide) (by decide) kq) ?_
          show G T36 (mkF m 54 #[.val (.ref p0), .val (.int (2 : Int32)), .val (.ref b34), .val (.int (2 : Int32)), .val (.ref p0), .val (.int (4 : Int32)), .val (.int (4 : Int32)), .val (.int (f 3))] [])
          refine hp (fun tq kq => XS.iload X36.here hx rfl (hb hby d1_54) rfl kq) ?_
          show G T36 (mkF m 56 #[.val (.ref p0), .val (.int (2 : Int32)), .val (.ref b34), .val (.int (2 : Int32)), .val (.ref p0), .val (.int (4 : Int32)), .val (.int (4 : Int32)), .val (.int (f 3))] [(.int (4 : Int32))])
          refine hp (fun tq kq => XS.iload X36.here hx rfl (hb hby d1_56) rfl kq) ?_
          show G T36 (mkF m 58 #[.val (.ref p0), .val (.int (2 : Int32)), .val (.ref b34), .val (.int (2 : Int32)), .val (.ref p0), .val (.int (4 : Int32)), .val (.int (4 : Int32)), .val (.int (f 3))] [(.int (4 : Int32)), (.int (4 : Int32))])
          refine hp (fun tq kq => XS.icmpYes X36.here hx rfl (pc0 := 58) (pc' := 88) rfl (hb hby d1_58) rfl (flt (by decide)).2.1 (by decide) (by decide) kq) ?_
          show G T36 (mkF m 88 #[.val (.ref p0), .val (.int (2 : Int32)), .val (.ref b34), .val (.int (2 : Int32)), .val (.ref p0), .val (.int (4 : Int32)), .val (.int (4 : Int32)), .val (.int (f 3))] [])
          refine hp (fun tq kq => XS.aloadN X36.here hx rfl (hb hby d1_88) rfl rfl kq) ?_
          show G T36 (mkF m 89 #[.val (.ref p0), .val (.int (2 : Int32)), .val (.ref b34), .val (.int (2 : Int32)), .val (.ref p0), .val (.int (4 : Int32)), .val (.int (4 : Int32)), .val (.int (f 3))] [(.ref b34)])
          exact hR X36 (fun fs hl => own_retA X36 hx hret rfl (hb hby d1_89) hl) (fun q => by rw [hret] at q; cases q) (by rw [e36]; exact ⟨b34, 2, (own_up (own_up (fun _ => (0 : Int32)) 0 (f 0)) 1 (f 3)), rfl, N36, K36, sz_b34, V36_b34, own_seld (l := [(f 0), (f 3)]) (own_sel_of (a := [f 0]) (b := []) (c := []) (d := [f 3]) (if_neg hb1) (if_pos hb29) (if_pos hb30) (if_neg hb31)) rfl (own_pick2 rfl rfl rfl)⟩) (by decide) (by decide)
      · refine hp (fun tq kq => XS.icmpNo X0.here hx rfl (hb hby d1_25) rfl (feq hb30).1 kq) ?_
        show G s₁ (mkF m 28 #[.val (.ref p0), .val (.int (1 : Int32)), .val (.ref p0), .val (.int (4 : Int32)), .val (.int (2 : Int32)), .val (.int (f 2)), .unset, .unset] [])
        refine hp (fun tq kq => XS.iinc X0.here hx rfl (hb hby d1_28) rfl (l' := #[.val (.ref p0), .val (.int (2 : Int32)), .val (.ref p0), .val (.int (4 : Int32)), .val (.int (2 : Int32)), .val (.int (f 2)), .unset, .unset]) rfl kq) ?_
        show G s₁ (mkF m 31 #[.val (.ref p0), .val (.int (2 : Int32)), .val (.ref p0), .val (.int (4 : Int32)), .val (.int (2 : Int32)), .val (.int (f 2)), .unset, .unset] [])
        refine hp (fun tq kq => XS.iinc X0.here hx rfl (hb hby d1_31) rfl (l' := #[.val (.ref p0), .val (.int (2 : Int32)), .val (.ref p0), .val (.int (4 : Int32)), .val (.int (3 : Int32)), .val (.int (f 2)), .unset, .unset]) rfl kq) ?_
        show G s₁ (mkF m 34 #[.val (.ref p0), .val (.int (2 : Int32)), .val (.ref p0), .val (.int (4 : Int32)), .val (.int (3 : Int32)), .val (.int (f 2)), .unset, .unset] [])
        refine hp (fun tq kq => XS.goto X0.here hx rfl (pc0 := 34) (pc' := 10) rfl (hb hby d1_34) (by decide) (by decide) kq) ?_
        show G s₁ (mkF m 10 #[.val (.ref p0), .val (.int (2 : Int32)), .val (.ref p0), .val (.int (4 : Int32)), .val (.int (3 : Int32)), .val (.int (f 2)), .unset, .unset] [])
        refine hp (fun tq kq => XS.iload X0.here hx rfl (hb hby d1_10) rfl kq) ?_
        show G s₁ (mkF m 12 #[.val (.ref p0), .val (.int (2 : Int32)), .val (.ref p0), .val (.int (4 : Int32)), .val (.int (3 : Int32)), .val (.int (f 2)), .unset, .unset] [(.int (3 : Int32))])
        refine hp (fun tq kq => XS.iloadN X0.here hx rfl (hb hby d1_12) rfl kq) ?_
        show G s₁ (mkF m 13 #[.val (.ref p0), .val (.int (2 : Int32)), .val (.ref p0), .val (.int (4 : Int32)), .val (.int (3 : Int32)), .val (.int (f 2)), .unset, .unset] [(.int (4 : Int32)), (.int (3 : Int32))])
        refine hp (fun tq kq => XS.icmpNo X0.here hx rfl (hb hby d1_13) rfl (tlt (by decide)).2.1 kq) ?_
        show G s₁ (mkF m 16 #[.val (.ref p0), .val (.int (2 : Int32)), .val (.ref p0), .val (.int (4 : Int32)), .val (.int (3 : Int32)), .val (.int (f 2)), .unset, .unset] [])
        refine hp (fun tq kq => XS.aloadN X0.here hx rfl (hb hby d1_16) rfl rfl kq) ?_
        show G s₁ (mkF m 17 #[.val (.ref p0), .val (.int (2 : Int32)), .val (.ref p0), .val (.int (4 : Int32)), .val (.int (3 : Int32)), .val (.int (f 2)), .unset, .unset] [(.ref p0)])
        refine hp (fun tq kq => XS.iload X0.here hx rfl (hb hby d1_17) rfl kq) ?_
        show G s₁ (mkF m 19 #[.val (.ref p0), .val (.int (2 : Int32)), .val (.ref p0), .val (.int (4 : Int32)), .val (.int (3 : Int32)), .val (.int (f 2)), .unset, .unset] [(.int (3 : Int32)), (.ref p0)])
        refine hp (own_ldI X0 hx hZ e0 V_p0 (j := (3 : Int32)) 3 (by decide) (by decide) (by decide) (g := (mkF m 19 #[.val (.ref p0), .val (.int (2 : Int32)), .val (.ref p0), .val (.int (4 : Int32)), .val (.int (3 : Int32)), .val (.int (f 2)), .unset, .unset] [(.int (3 : Int32)), (.ref p0)])) rfl rfl (hb hby d1_19)) ?_
        show G s₁ (mkF m 20 #[.val (.ref p0), .val (.int (2 : Int32)), .val (.ref p0), .val (.int (4 : Int32)), .val (.int (3 : Int32)), .val (.int (f 2)), .unset, .unset] [(.int (f 3))])
        refine hp (fun tq kq => XS.istore X0.here hx rfl (hb hby d1_20) rfl (l' := #[.val (.ref p0), .val (.int (2 : Int32)), .val (.ref p0), .val (.int (4 : Int32)), .val (.int (3 : Int32)), .val (.int (f 3)), .unset, .unset]) rfl kq) ?_
        show G s₁ (mkF m 22 #[.val (.ref p0), .val (.int (2 : Int32)), .val (.ref p0), .val (.int (4 : Int32)), .val (.int (3 : Int32)), .val (.int (f 3)), .unset, .unset] [])
        refine hp (fun tq kq => XS.iload X0.here hx rfl (hb hby d1_22) rfl kq) ?_
        show G s₁ (mkF m 24 #[.val (.ref p0), .val (.int (2 : Int32)), .val (.ref p0), .val (.int (4 : Int32)), .val (.int (3 : Int32)), .val (.int (f 3)), .unset, .unset] [(.int (f 3))])
        refine hp (fun tq kq => XS.iconst X0.here hx rfl (hb hby d1_24) kq) ?_
        show G s₁ (mkF m 25 #[.val (.ref p0), .val (.int (2 : Int32)), .val (.ref p0), .val (.int (4 : Int32)), .val (.int (3 : Int32)), .val (.int (f 3)), .unset, .unset] [(.int (-1 : Int32)), (.int (f 3))])
        by_cases hb37 : (f 3) = (-1 : Int32)
        · refine hp (fun tq kq => XS.icmpYes X0.here hx rfl (pc0 := 25) (pc' := 31) rfl (hb hby d1_25) rfl (teq hb37).1 (by decide) (by decide) kq) ?_
          show G s₁ (mkF m 31 #[.val (.ref p0), .val (.int (2 : Int32)), .val (.ref p0), .val (.int (4 : Int32)), .val (.int (3 : Int32)), .val (.int (f 3)), .unset, .unset] [])
          refine hp (fun tq kq => XS.iinc X0.here hx rfl (hb hby d1_31) rfl (l' := #[.val (.ref p0), .val (.int (2 : Int32)), .val (.ref p0), .val (.int (4 : Int32)), .val (.int (4 : Int32)), .val (.int (f 3)), .unset, .unset]) rfl kq) ?_
          show G s₁ (mkF m 34 #[.val (.ref p0), .val (.int (2 : Int32)), .val (.ref p0), .val (.int (4 : Int32)), .val (.int (4 : Int32)), .val (.int (f 3)), .unset, .unset] [])
          refine hp (fun tq kq => XS.goto X0.here hx rfl (pc0 := 34) (pc' := 10) rfl (hb hby d1_34) (by decide) (by decide) kq) ?_
          show G s₁ (mkF m 10 #[.val (.ref p0), .val (.int (2 : Int32)), .val (.ref p0), .val (.int (4 : Int32)), .val (.int (4 : Int32)), .val (.int (f 3)), .unset, .unset] [])
          refine hp (fun tq kq => XS.iload X0.here hx rfl (hb hby d1_10) rfl kq) ?_
          show G s₁ (mkF m 12 #[.val (.ref p0), .val (.int (2 : Int32)), .val (.ref p0), .val (.int (4 : Int32)), .val (.int (4 : Int32)), .val (.int (f 3)), .unset, .unset] [(.int (4 : Int32))])
          refine hp (fun tq kq => XS.iloadN X0.here hx rfl (hb hby d1_12) rfl kq) ?_
          show G s₁ (mkF m 13 #[.val (.ref p0), .val (.int (2 : Int32)), .val (.ref p0), .val (.int (4 : Int32)), .val (.int (4 : Int32)), .val (.int (f 3)), .unset, .unset] [(.int (4 : Int32)), (.int (4 : Int32))])
          refine hp (fun tq kq => XS.icmpYes X0.here hx rfl (pc0 := 13) (pc' := 37) rfl (hb hby d1_13) rfl (flt (by decide)).2.1 (by decide) (by decide) kq) ?_
          show G s₁ (mkF m 37 #[.val (.ref p0), .val (.int (2 : Int32)), .val (.ref p0), .val (.int (4 : Int32)), .val (.int (4 : Int32)), .val (.int (f 3)), .unset, .unset] [])
          refine hp (fun tq kq => XS.iloadN X0.here hx rfl (hb hby d1_37) rfl kq) ?_
          show G s₁ (mkF m 38 #[.val (.ref p0), .val (.int (2 : Int32)), .val (.ref p0), .val (.int (4 : Int32)), .val (.int (4 : Int32)), .val (.int (f 3)), .unset, .unset] [(.int (2 : Int32))])
          obtain ⟨T38, h38, k38, X38, e38, E38, A38, st38⟩ := newP X0 hx hZ (hw _ (List.mem_of_getElem? (i := 1) rfl)) e0 (g := (mkF m 38 #[.val (.ref p0), .val (.int (2 : Int32)), .val (.ref p0), .val (.int (4 : Int32)), .val (.int (4 : Int32)), .val (.int (f 3)), .unset, .unset] [(.int (2 : Int32))])) rfl (hb hby d1_38) rfl (by decide) (cap := 2) (by decide) (by decide) (by decide) (by decide)
          obtain ⟨b38, g38⟩ : ∃ z, z = h0.size := ⟨_, rfl⟩
          rw [← g38] at A38 st38
          have ne38_p0 : p0 ≠ b38 := Nat.ne_of_lt (Nat.lt_of_lt_of_le V_p0.lt (Nat.le_of_eq g38.symm))
          have sz_b38 : h0.size ≤ b38 := Nat.le_trans K0.1 (Nat.le_of_eq g38.symm)
          have g_b38 : n0 ≤ b38 := Nat.le_trans Z0 sz_b38
          have V38_p0 := V_p0.ext E38
          have K38 := K0.ext E38
          have V38_b38 : own_AI Z h38 b38 .int 2 (fun _ => 0) := own_AI.new A38 (by decide) rfl 2 (by decide)
          refine hp st38 ?_
          show G T38 (mkF m 40 #[.val (.ref p0), .val (.int (2 : Int32)), .val (.ref p0), .val (.int (4 : Int32)), .val (.int (4 : Int32)), .val (.int (f 3)), .unset, .unset] [(.ref b38)])
          refine hp (fun tq kq => XS.astoreN X38.here hx rfl (hb hby d1_40) rfl rfl (l' := #[.val (.ref p0), .val (.int (2 : Int32)), .val (.ref b38), .val (.int (4 : Int32)), .val (.int (4 : Int32)), .val (.int (f 3)), .unset, .unset]) rfl kq) ?_
          show G T38 (mkF m 41 #[.val (.ref p0), .val (.int (2 : Int32)), .val (.ref b38), .val (.int (4 : Int32)), .val (.int (4 : Int32)), .val (.int (f 3)), .unset, .unset] [])
          refine hp (fun tq kq => XS.iconst X38.here hx rfl (hb hby d1_41) kq) ?_
          show G T38 (mkF m 42 #[.val (.ref p0), .val (.int (2 : Int32)), .val (.ref b38), .val (.int (4 : Int32)), .val (.int (4 : Int32)), .val (.int (f 3)), .unset, .unset] [(.int (0 : Int32))])
          refine hp (fun tq kq => XS.istoreN X38.here hx rfl (hb hby d1_42) rfl (l' := #[.val (.ref p0), .val (.int (2 : Int32)), .val (.ref b38), .val (.int (0 : Int32)), .val (.int (4 : Int32)), .val (.int (f 3)), .unset, .unset]) rfl kq) ?_
          show G T38 (mkF m 43 #[.val (.ref p0), .val (.int (2 : Int32)), .val (.ref b38), .val (.int (0 : Int32)), .val (.int (4 : Int32)), .val (.int (f 3)), .unset, .unset] [])
          refine hp (fun tq kq => XS.aloadN X38.here hx rfl (hb hby d1_43) rfl rfl kq) ?_
          show G T38 (mkF m 44 #[.val (.ref p0), .val (.int (2 : Int32)), .val (.ref b38), .val (.int (0 : Int32)), .val (.int (4 : Int32)), .val (.int (f 3)), .unset, .unset] [(.ref p0)])
          refine hp (fun tq kq => XS.astore X38.here hx rfl (hb hby d1_44) rfl rfl (l' := #[.val (.ref p0), .val (.int (2 : Int32)), .val (.ref b38), .val (.int (0 : Int32)), .val (.ref p0), .val (.int (f 3)), .unset, .unset]) rfl kq) ?_
          show G T38 (mkF m 46 #[.val (.ref p0), .val (.int (2 : Int32)), .val (.ref b38), .val (.int (0 : Int32)), .val (.ref p0), .val (.int (f 3)), .unset, .unset] [])
          refine hp (fun tq kq => XS.aload X38.here hx rfl (hb hby d1_46) rfl rfl kq) ?_
          show G T38 (mkF m 48 #[.val (.ref p0), .val (.int (2 : Int32)), .val (.ref b38), .val (.int (0 : Int32)), .val (.ref p0), .val (.int (f 3)), .unset, .unset] [(.ref p0)])
          refine hp (own_lenI X38 hx hZ e38 V38_p0 (4 : Int32) rfl (g := (mkF m 48 #[.val (.ref p0), .val (.int (2 : Int32)), .val (.ref b38), .val (.int (0 : Int32)), .val (.ref p0), .val (.int (f 3)), .unset, .unset] [(.ref p0)])) rfl rfl (hb hby d1_48)) ?_
          show G T38 (mkF m 49 #[.val (.ref p0), .val (.int (2 : Int32)), .val (.ref b38), .val (.int (0 : Int32)), .val (.ref p0), .val (.int (f 3)), .unset, .unset] [(.int (4 : Int32))])
          refine hp (fun tq kq => XS.istore X38.here hx rfl (hb hby d1_49) rfl (l' := #[.val (.ref p0), .val (.int (2 : Int32)), .val (.ref b38), .val (.int (0 : Int32)), .val (.ref p0), .val (.int (4 : Int32)), .unset, .unset]) rfl kq) ?_
          show G T38 (mkF m 51 #[.val (.ref p0), .val (.int (2 : Int32)), .val (.ref b38), .val (.int (0 : Int32)), .val (.ref p0), .val (.int (4 : Int32)), .unset, .unset] [])
          refine hp (fun tq kq => XS.iconst X38.here hx rfl (hb hby d1_51) kq) ?_
          show G T38 (mkF m 52 #[.val (.ref p0), .val (.int (2 : Int32)), .val (.ref b38), .val (.int (0 : Int32)), .val (.ref p0), .val (.int (4 : Int32)), .unset, .unset] [(.int (0 : Int32))])
          refine hp (fun tq kq => XS.istore X38.here hx rfl (hb hby d1_52) rfl (l' := #[.val (.ref p0), .val (.int (2 : Int32)), .val (.ref b38), .val (.int (0 : Int32)), .val (.ref p0), .val (.int (4 : Int32)), .val (.int (0 : Int32)), .unset]) rfl kq) ?_
          show G T38 (mkF m 54 #[.val (.ref p0), .val (.int (2 : Int32)), .val (.ref b38), .val (.int (0 : Int32)), .val (.ref p0), .val (.int (4 : Int32)), .val (.int (0 : Int32)), .unset] [])
          refine hp (fun tq kq => XS.iload X38.here hx rfl (hb hby d1_54) rfl kq) ?_
          show G T38 (mkF m 56 #[.val (.ref p0), .val (.int (2 : Int32)), .val (.ref b38), .val (.int (0 : Int32)), .val (.ref p0), .val (.int (4 : Int32)), .val (.int (0 : Int32)), .unset] [(.int (0 : Int32))])
          refine hp (fun tq kq => XS.iload X38.here hx rfl (hb hby d1_56) rfl kq) ?_
          show G T38 (mkF m 58 #[.val (.ref p0), .val (.int (2 : Int32)), .val (.ref b38), .val (.int (0 : Int32)), .val (.ref p0), .val (.int (4 : Int32)), .val (.int (0 : Int32)), .unset] [(.int (4 : Int32)), (.int (0 : Int32))])
          refine hp (fun tq kq => XS.icmpNo X38.here hx rfl (hb hby d1_58) rfl (tlt (by decide)).2.1 kq) ?_
          show G T38 (mkF m 61 #[.val (.ref p0), .val (.int (2 : Int32)), .val (.ref b38), .val (.int (0 : Int32)), .val (.ref p0), .val (.int (4 : Int32)), .val (.int (0 : Int32)), .unset] [])
          refine hp (fun tq kq => XS.aload X38.here hx rfl (hb hby d1_61) rfl rfl kq) ?_
          show G T38 (mkF m 63 #[.val (.ref p0), .val (.int (2 : Int32)), .val (.ref b38), .val (.int (0 : Int32)), .val (.ref p0), .val (.int (4 : Int32)), .val (.int (0 : Int32)), .unset] [(.ref p0)])
          refine hp (fun tq kq => XS.iload X38.here hx rfl (hb hby d1_63) rfl kq) ?_
          show G T38 (mkF m 65 #[.val (.ref p0), .val (.int (2 : Int32)), .val (.ref b38), .val (.int (0 : Int32)), .val (.ref p0), .val (.int (4 : Int32)), .val (.int (0 : Int32)), .unset] [(.int (0 : Int32)), (.ref p0)])
          refine hp (own_ldI X38 hx hZ e38 V38_p0 (j := (0 : Int32)) 0 (by decide) (by decide) (by decide) (g := (mkF m 65 #[.val (.ref p0), .val (.int (2 : Int32)), .val (.ref b38), .val (.int (0 : Int32)), .val (.ref p0), .val (.int (4 : Int32)), .val (.int (0 : Int32)), .unset] [(.int (0 : Int32)), (.ref p0)])) rfl rfl (hb hby d1_65)) ?_
          show G T38 (mkF m 66 #[.val (.ref p0), .val (.int (2 : Int32)), .val (.ref b38), .val (.int (0 : Int32)), .val (.ref p0), .val (.int (4 : Int32)), .val (.int (0 : Int32)), .unset] [(.int (f 0))])
          refine hp (fun tq kq => XS.istore X38.here hx rfl (hb hby d1_66) rfl (l' := #[.val (.ref p0), .val (.int (2 : Int32)), .val (.ref b38), .val (.int (0 : Int32)), .val (.ref p0), .val (.int (4 : Int32)), .val (.int (0 : Int32)), .val (.int (f 0))]) rfl kq) ?_
          show G T38 (mkF m 68 #[.val (.ref p0), .val (.int (2 : Int32)), .val (.ref b38), .val (.int (0 : Int32)), .val (.ref p0), .val (.int (4 : Int32)), .val (.int (0 : Int32)), .val (.int (f 0))] [])
          refine hp (fun tq kq => XS.iload X38.here hx rfl (hb hby d1_68) rfl kq) ?_
          show G T38 (mkF m 70 #[.val (.ref p0), .val (.int (2 : Int32)), .val (.ref b38), .val (.int (0 : Int32)), .val (.ref p0), .val (.int (4 : Int32)), .val (.int (0 : Int32)), .val (.int (f 0))] [(.int (f 0))])
          refine hp (fun tq kq => XS.iconst X38.here hx rfl (hb hby d1_70) kq) ?_
          show G T38 (mkF m 71 #[.val (.ref p0), .val (.int (2 : Int32)), .val (.ref b38), .val (.int (0 : Int32)), .val (.ref p0), .val (.int (4 : Int32)), .val (.int (0 : Int32)), .val (.int (f 0))] [(.int (-1 : Int32)), (.int (f 0))])
          refine hp (fun tq kq => XS.icmpNo X38.here hx rfl (hb hby d1_71) rfl (feq hb1).1 kq) ?_
          show G T38 (mkF m 74 #[.val (.ref p0), .val (.int (2 : Int32)), .val (.ref b38), .val (.int (0 : Int32)), .val (.ref p0), .val (.int (4 : Int32)), .val (.int (0 : Int32)), .val (.int (f 0))] [])
          refine hp (fun tq kq => XS.aloadN X38.here hx rfl (hb hby d1_74) rfl rfl kq) ?_
          show G T38 (mkF m 75 #[.val (.ref p0), .val (.int (2 : Int32)), .val (.ref b38), .val (.int (0 : Int32)), .val (.ref p0), .val (.int (4 : Int32)), .val (.int (0 : Int32)), .val (.int (f 0))] [(.ref b38)])
          refine hp (fun tq kq => XS.iloadN X38.here hx rfl (hb hby d1_75) rfl kq) ?_
          show G T38 (mkF m 76 #[.val (.ref p0), .val (.int (2 : Int32)), .val (.ref b38), .val (.int (0 : Int32)), .val (.ref p0), .val (.int (4 : Int32)), .val (.int (0 : Int32)), .val (.int (f 0))] [(.int (0 : Int32)), (.ref b38)])
          refine hp (fun tq kq => XS.iload X38.here hx rfl (hb hby d1_76) rfl kq) ?_
          show G T38 (mkF m 78 #[.val (.ref p0), .val (.int (2 : Int32)), .val (.ref b38), .val (.int (0 : Int32)), .val (.ref p0), .val (.int (4 : Int32)), .val (.int (0 : Int32)), .val (.int (f 0))] [(.int (f 0)), (.int (0 : Int32)), (.ref b38)])
          obtain ⟨T39, h39, X39, e39, W39, V39_b38, st39⟩ := own_stI X38 hx hZ e38 V38_b38 (j := (0 : Int32)) 0 (by decide) (by decide) (by decide) (g := (mkF m 78 #[.val (.ref p0), .val (.int (2 : Int32)), .val (.ref b38), .val (.int (0 : Int32)), .val (.ref p0), .val (.int (4 : Int32)), .val (.int (0 : Int32)), .val (.int (f 0))] [(.int (f 0)), (.int (0 : Int32)), (.ref b38)])) rfl rfl (hb hby d1_78)
          have V39_p0 := V38_p0.other W39 ne38_p0
          have K39 := K38.wr W39 (Or.inr sz_b38)
          have N39 := Fr.snoc X39 N0 g_b38
          refine hp st39 ?_
          show G T39 (mkF m 79 #[.val (.ref p0), .val (.int (2 : Int32)), .val (.ref b38), .val (.int (0 : Int32)), .val (.ref p0), .val (.int (4 : Int32)), .val (.int (0 : Int32)), .val (.int (f 0))] [])
          refine hp (fun tq kq => XS.iinc X39.here hx rfl (hb hby d1_79) rfl (l' := #[.val (.ref p0), .val (.int (2 : Int32)), .val (.ref b38), .val (.int (1 : Int32)), .val (.ref p0), .val (.int (4 : Int32)), .val (.int (0 : Int32)), .val (.int (f 0))]) rfl kq) ?_
          show G T39 (mkF m 82 #[.val (.ref p0), .val (.int (2 : Int32)), .val (.ref b38), .val (.int (1 : Int32)), .val (.ref p0), .val (.int (4 : Int32)), .val (.int (0 : Int32)), .val (.int (f 0))] [])
          refine hp (fun tq kq => XS.iinc X39.here hx rfl (hb hby d1_82) rfl (l' := #[.val (.ref p0), .val (.int (2 : Int32)), .val (.ref b38), .val (.int (1 : Int32)), .val (.ref p0), .val (.int (4 : Int32)), .val (.int (1 : Int32)), .val (.int (f 0))]) rfl kq) ?_
          show G T39 (mkF m 85 #[.val (.ref p0), .val (.int (2 : Int32)), .val (.ref b38), .val (.int (1 : Int32)), .val (.ref p0), .val (.int (4 : Int32)), .val (.int (1 : Int32)), .val (.int (f 0))] [])
          refine hp (fun tq kq => XS.goto X39.here hx rfl (pc0 := 85) (pc' := 54) rfl (hb hby d1_85) (by decide) (by decide) kq) ?_
          show G T39 (mkF m 54 #[.val (.ref p0), .val (.int (2 : Int32)), .val (.ref b38), .val (.int (1 : Int32)), .val (.ref p0), .val (.int (4 : Int32)), .val (.int (1 : Int32)), .val (.int (f 0))] [])
          refine hp (fun tq kq => XS.iload X39.here hx rfl (hb hby d1_54) rfl kq) ?_
          show G T39 (mkF m 56 #[.val (.ref p0), .val (.int (2 : Int32)), .val (.ref b38), .val (.int (1 : Int32)), .val (.ref p0), .val (.int (4 : Int32)), .val (.int (1 : Int32)), .val (.int (f 0))] [(.int (1 : Int32))])
          refine hp (fun tq kq => XS.iload X39.here hx rfl (hb hby d1_56) rfl kq) ?_
          show G T39 (mkF m 58 #[.val (.ref p0), .val (.int (2 : Int32)), .val (.ref b38), .val (.int (1 : Int32)), .val (.ref p0), .val (.int (4 : Int32)), .val (.int (1 : Int32)), .val (.int (f 0))] [(.int (4 : Int32)), (.int (1 : Int32))])
          refine hp (fun tq kq => XS.icmpNo X39.here hx rfl (hb hby d1_58) rfl (tlt (by decide)).2.1 kq) ?_
          show G T39 (mkF m 61 #[.val (.ref p0), .val (.int (2 : Int32)), .val (.ref b38), .val (.int (1 : Int32)), .val (.ref p0), .val (.int (4 : Int32)), .val (.int (1 : Int32)), .val (.int (f 0))] [])
          refine hp (fun tq kq => XS.aload X39.here hx rfl (hb hby d1_61) rfl rfl kq) ?_
          show G T39 (mkF m 63 #[.val (.ref p0), .val (.int (2 : Int32)), .val (.ref b38), .val (.int (1 : Int32)), .val (.ref p0), .val (.int (4 : Int32)), .val (.int (1 : Int32)), .val (.int (f 0))] [(.ref p0)])
          refine hp (fun tq kq => XS.iload X39.here hx rfl (hb hby d1_63) rfl kq) ?_
          show G T39 (mkF m 65 #[.val (.ref p0), .val (.int (2 : Int32)), .val (.ref b38), .val (.int (1 : Int32)), .val (.ref p0), .val (.int (4 : Int32)), .val (.int (1 : Int32)), .val (.int (f 0))] [(.int (1 : Int32)), (.ref p0)])
          refine hp (own_ldI X39 hx hZ e39 V39_p0 (j := (1 : Int32)) 1 (by decide) (by decide) (by decide) (g := (mkF m 65 #[.val (.ref p0), .val (.int (2 : Int32)), .val (.ref b38), .val (.int (1 : Int32)), .val (.ref p0), .val (.int (4 : Int32)), .val (.int (1 : Int32)), .val (.int (f 0))] [(.int (1 : Int32)), (.ref p0)])) rfl rfl (hb hby d1_65)) ?_
          show G T39 (mkF m 66 #[.val (.ref p0), .val (.int (2 : Int32)), .val (.ref b38), .val (.int (1 : Int32)), .val (.ref p0), .val (.int (4 : Int32)), .val (.int (1 : Int32)), .val (.int (f 0))] [(.int (f 1))])
          refine hp (fun tq kq => XS.istore X39.here hx rfl (hb hby d1_66) rfl (l' := #[.val (.ref p0), .val (.int (2 : Int32)), .val (.ref b38), .val (.int (1 : Int32)), .val (.ref p0), .val (.int (4 : Int32)), .val (.int (1 : Int32)), .val (.int (f 1))]) rfl kq) ?_
          show G T39 (mkF m 68 #[.val (.ref p0), .val (.int (2 : Int32)), .val (.ref b38), .val (.int (1 : Int32)), .val (.ref p0), .val (.int (4 : Int32)), .val (.int (1 : Int32)), .val (.int (f 1))] [])
          refine hp (fun tq kq => XS.iload X39.here hx rfl (hb hby d1_68) rfl kq) ?_
          show G T39 (mkF m 70 #[.val (.ref p0), .val (.int (2 : Int32)), .val (.ref b38), .val (.int (1 : Int32)), .val (.ref p0), .val (.int (4 : Int32)), .val (.int (1 : Int32)), .val (.int (f 1))] [(.int (f 1))])
          refine hp (fun tq kq => XS.iconst X39.here hx rfl (hb hby d1_70) kq) ?_
          show G T39 (mkF m 71 #[.val (.ref p0), .val (.int (2 : Int32)), .val (.ref b38), .val (.int (1 : Int32)), .val (.ref p0), .val (.int (4 : Int32)), .val (.int (1 : Int32)), .val (.int (f 1))] [(.int (-1 : Int32)), (.int (f 1))])
          refine hp (fun tq kq => XS.icmpYes X39.here hx rfl (pc0 := 71) (pc' := 82) rfl (hb hby d1_71) rfl (teq hb29).1 (by decide) (by decide) kq) ?_
          show G T39 (mkF m 82 #[.val (.ref p0), .val (.int (2 : Int32)), .val (.ref b38), .val (.int (1 : Int32)), .val (.ref p0), .val (.int (4 : Int32)), .val (.int (1 : Int32)), .val (.int (f 1))] [])
          refine hp (fun tq kq => XS.iinc X39.here hx rfl (hb hby d1_82) rfl (l' := #[.val (.ref p0), .val (.int (2 : Int32)), .val (.ref b38), .val (.int (1 : Int32)), .val (.ref p0), .val (.int (4 : Int32)), .val (.int (2 : Int32)), .val (.int (f 1))]) rfl kq) ?_
          show G T39 (mkF m 85 #[.val (.ref p0), .val (.int (2 : Int32)), .val (.ref b38), .val (.int (1 : Int32)), .val (.ref p0), .val (.int (4 : Int32)), .val (.int (2 : Int32)), .val (.int (f 1))] [])
          refine hp (fun tq kq => XS.goto X39.here hx rfl (pc0 := 85) (pc' := 54) rfl (hb hby d1_85) (by decide) (by decide) kq) ?_
          show G T39 (mkF m 54 #[.val (.ref p0), .val (.int (2 : Int32)), .val (.ref b38), .val (.int (1 : Int32)), .val (.ref p0), .val (.int (4 : Int32)), .val (.int (2 : Int32)), .val (.int (f 1))] [])
          refine hp (fun tq kq => XS.iload X39.here hx rfl (hb hby d1_54) rfl kq) ?_
          show G T39 (mkF m 56 #[.val (.ref p0), .val (.int (2 : Int32)), .val (.ref b38), .val (.int (1 : Int32)), .val (.ref p0), .val (.int (4 : Int32)), .val (.int (2 : Int32)), .val (.int (f 1))] [(.int (2 : Int32))])
          refine hp (fun tq kq => XS.iload X39.here hx rfl (hb hby d1_56) rfl kq) ?_
          show G T39 (mkF m 58 #[.val (.ref p0), .val (.int (2 : Int32)), .val (.ref b38), .val (.int (1 : Int32)), .val (.ref p0), .val (.int (4 : Int32)), .val (.int (2 : Int32)), .val (.int (f 1))] [(.int (4 : Int32)), (.int (2 : Int32))])
          refine hp (fun tq kq => XS.icmpNo X39.here hx rfl (hb hby d1_58) rfl (tlt (by decide)).2.1 kq) ?_
          show G T39 (mkF m 61 #[.val (.ref p0), .val (.int (2 : Int32)), .val (.ref b38), .val (.int (1 : Int32)), .val (.ref p0), .val (.int (4 : Int32)), .val (.int (2 : Int32)), .val (.int (f 1))] [])
          refine hp (fun tq kq => XS.aload X39.here hx rfl (hb hby d1_61) rfl rfl kq) ?_
          show G T39 (mkF m 63 #[.val (.ref p0), .val (.int (2 : Int32)), .val (.ref b38), .val (.int (1 : Int32)), .val (.ref p0), .val (.int (4 : Int32)), .val (.int (2 : Int32)), .val (.int (f 1))] [(.ref p0)])
          refine hp (fun tq kq => XS.iload X39.here hx rfl (hb hby d1_63) rfl kq) ?_
          show G T39 (mkF m 65 #[.val (.ref p0), .val (.int (2 : Int32)), .val (.ref b38), .val (.int (1 : Int32)), .val (.ref p0), .val (.int (4 : Int32)), .val (.int (2 : Int32)), .val (.int (f 1))] [(.int (2 : Int32)), (.ref p0)])
          refine hp (own_ldI X39 hx hZ e39 V39_p0 (j := (2 : Int32)) 2 (by decide) (by decide) (by decide) (g := (mkF m 65 #[.val (.ref p0), .val (.int (2 : Int32)), .val (.ref b38), .val (.int (1 : Int32)), .val (.ref p0), .val (.int (4 : Int32)), .val (.int (2 : Int32)), .val (.int (f 1))] [(.int (2 : Int32)), (.ref p0)])) rfl rfl (hb hby d1_65)) ?_
          show G T39 (mkF m 66 #[.val (.ref p0), .val (.int (2 : Int32)), .val (.ref b38), .val (.int (1 : Int32)), .val (.ref p0), .val (.int (4 : Int32)), .val (.int (2 : Int32)), .val (.int (f 1))] [(.int (f 2))])
          refine hp (fun tq kq => XS.istore X39.here hx rfl (hb hby d1_66) rfl (l' := #[.val (.ref p0), .val (.int (2 : Int32)), .val (.ref b38), .val (.int (1 : Int32)), .val (.ref p0), .val (.int (4 : Int32)), .val (.int (2 : Int32)), .val (.int (f 2))]) rfl kq) ?_
          show G T39 (mkF m 68 #[.val (.ref p0), .val (.int (2 : Int32)), .val (.ref b38), .val (.int (1 : Int32)), .val (.ref p0), .val (.int (4 : Int32)), .val (.int (2 : Int32)), .val (.int (f 2))] [])
          refine hp (fun tq kq => XS.iload X39.here hx rfl (hb hby d1_68) rfl kq) ?_
          show G T39 (mkF m 70 #[.val (.ref p0), .val (.int (2 : Int32)), .val (.ref b38), .val (.int (1 : Int32)), .val (.ref p0), .val (.int (4 : Int32)), .val (.int (2 : Int32)), .val (.int (f 2))] [(.int (f 2))])
          refine hp (fun tq kq => XS.iconst X39.here hx rfl (hb hby d1_70) kq) ?_
          show G T39 (mkF m 71 #[.val (.ref p0), .val (.int (2 : Int32)), .val (.ref b38), .val (.int (1 : Int32)), .val (.ref p0), .val (.int (4 : Int32)), .val (.int (2 : Int32)), .val (.int (f 2))] [(.int (-1 : Int32)), (.int (f 2))])
          refine hp (fun tq kq => XS.icmpNo X39.here hx rfl (hb hby d1_71) rfl (feq hb30).1 kq) ?_
          show G T39 (mkF m 74 #[.val (.ref p0), .val (.int (2 : Int32)), .val (.ref b38), .val (.int (1 : Int32)), .val (.ref p0), .val (.int (4 : Int32)), .val (.int (2 : Int32)), .val (.int (f 2))] [])
          refine hp (fun tq kq => XS.aloadN X39.here hx rfl (hb hby d1_74) rfl rfl kq) ?_
          show G T39 (mkF m 75 #[.val (.ref p0), .val (.int (2 : Int32)), .val (.ref b38), .val (.int (1 : Int32)), .val (.ref p0), .val (.int (4 : Int32)), .val (.int (2 : Int32)), .val (.int (f 2))] [(.ref b38)])
          refine hp (fun tq kq => XS.iloadN X39.here hx rfl (hb hby d1_75) rfl kq) ?_
          show G T39 (mkF m 76 #[.val (.ref p0), .val (.int (2 : Int32)), .val (.ref b38), .val (.int (1 : Int32)), .val (.ref p0), .val (.int (4 : Int32)), .val (.int (2 : Int32)), .val (.int (f 2))] [(.int (1 : Int32)), (.ref b38)])
          refine hp (fun tq kq => XS.iload X39.here hx rfl (hb hby d1_76) rfl kq) ?_
          show G T39 (mkF m 78 #[.val (.ref p0), .val (.int (2 : Int32)), .val (.ref b38), .val (.int (1 : Int32)), .val (.ref p0), .val (.int (4 : Int32)), .val (.int (2 : Int32)), .val (.int (f 2))] [(.int (f 2)), (.int (1 : Int32)), (.ref b38)])
          obtain ⟨T40, h40, X40, e40, W40, V40_b38, st40⟩ := own_stI X39 hx hZ e39 V39_b38 (j := (1 : Int32)) 1 (by decide) (by decide) (by decide) (g := (mkF m 78 #[.val (.ref p0), .val (.int (2 : Int32)), .val (.ref b38), .val (.int (1 : Int32)), .val (.ref p0), .val (.int (4 : Int32)), .val (.int (2 : Int32)), .val (.int (f 2))] [(.int (f 2)), (.int (1 : Int32)), (.ref b38)])) rfl rfl (hb hby d1_78)
          have V40_p0 := V39_p0.other W40 ne38_p0
          have K40 := K39.wr W40 (Or.inr sz_b38)
          have N40 := Fr.snoc X40 N39 g_b38
          refine hp st40 ?_
          show G T40 (mkF m 79 #[.val (.ref p0), .val (.int (2 : Int32)), .val (.ref b38), .val (.int (1 : Int32)), .val (.ref p0), .val (.int (4 : Int32)), .val (.int (2 : Int32)), .val (.int (f 2))] [])
          refine hp (fun tq kq => XS.iinc X40.here hx rfl (hb hby d1_79) rfl (l' := #[.val (.ref p0), .val (.int (2 : Int32)), .val (.ref b38), .val (.int (2 : Int32)), .val (.ref p0), .val (.int (4 : Int32)), .val (.int (2 : Int32)), .val (.int (f 2))]) rfl kq) ?_
          show G T40 (mkF m 82 #[.val (.ref p0), .val (.int (2 : Int32)), .val (.ref b38), .val (.int (2 : Int32)), .val (.ref p0), .val (.int (4 : Int32)), .val (.int (2 : Int32)), .val (.int (f 2))] [])
          refine hp (fun tq kq => XS.iinc X40.here hx rfl (hb hby d1_82) rfl (l' := #[.val (.ref p0), .val (.int (2 : Int32)), .val (.ref b38), .val (.int (2 : Int32)), .val (.ref p0), .val (.int (4 : Int32)), .val (.int (3 : Int32)), .val (.int (f 2))]) rfl kq) ?_
          show G T40 (mkF m 85 #[.val (.ref p0), .val (.int (2 : Int32)), .val (.ref b38), .val (.int (2 : Int32)), .val (.ref p0), .val (.int (4 : Int32)), .val (.int (3 : Int32)), .val (.int (f 2))] [])
          refine hp (fun tq kq => XS.goto X40.here hx rfl (pc0 := 85) (pc' := 54) rfl (hb hby d1_85) (by decide) (by decide) kq) ?_
          show G T40 (mkF m 54 #[.val (.ref p0), .val (.int (2 : Int32)), .val (.ref b38), .val (.int (2 : Int32)), .val (.ref p0), .val (.int (4 : Int32)), .val (.int (3 : Int32)), .val (.int (f 2))] [])
          refine hp (fun tq kq => XS.iload X40.here hx rfl (hb hby d1_54) rfl kq) ?_
          show G T40 (mkF m 56 #[.val (.ref p0), .val (.int (2 : Int32)), .val (.ref b38), .val (.int (2 : Int32)), .val (.ref p0), .val (.int (4 : Int32)), .val (.int (3 : Int32)), .val (.int (f 2))] [(.int (3 : Int32))])
          refine hp (fun tq kq => XS.iload X40.here hx rfl (hb hby d1_56) rfl kq) ?_
          show G T40 (mkF m 58 #[.val (.ref p0), .val (.int (2 : Int32)), .val (.ref b38), .val (.int (2 : Int32)), .val (.ref p0), .val (.int (4 : Int32)), .val (.int (3 : Int32)), .val (.int (f 2))] [(.int (4 : Int32)), (.int (3 : Int32))])
          refine hp (fun tq kq => XS.icmpNo X40.here hx rfl (hb hby d1_58) rfl (tlt (by decide)).2.1 kq) ?_
          show G T40 (mkF m 61 #[.val (.ref p0), .val (.int (2 : Int32)), .val (.ref b38), .val (.int (2 : Int32)), .val (.ref p0), .val (.int (4 : Int32)), .val (.int (3 : Int32)), .val (.int (f 2))] [])
          refine hp (fun tq kq => XS.aload X40.here hx rfl (hb hby d1_61) rfl rfl kq) ?_
          show G T40 (mkF m 63 #[.val (.ref p0), .val (.int (2 : Int32)), .val (.ref b38), .val (.int (2 : Int32)), .val (.ref p0), .val (.int (4 : Int32)), .val (.int (3 : Int32)), .val (.int (f 2))] [(.ref p0)])
          refine hp (fun tq kq => XS.iload X40.here hx rfl (hb hby d1_63) rfl kq) ?_
          show G T40 (mkF m 65 #[.val (.ref p0), .val (.int (2 : Int32)), .val (.ref b38), .val (.int (2 : Int32)), .val (.ref p0), .val (.int (4 : Int32)), .val (.int (3 : Int32)), .val (.int (f 2))] [(.int (3 : Int32)), (.ref p0)])
          refine hp (own_ldI X40 hx hZ e40 V40_p0 (j := (3 : Int32)) 3 (by decide) (by decide) (by decide) (g := (mkF m 65 #[.val (.ref p0), .val (.int (2 : Int32)), .val (.ref b38), .val (.int (2 : Int32)), .val (.ref p0), .val (.int (4 : Int32)), .val (.int (3 : Int32)), .val (.int (f 2))] [(.int (3 : Int32)), (.ref p0)])) rfl rfl (hb hby d1_65)) ?_
          show G T40 (mkF m 66 #[.val (.ref p0), .val (.int (2 : Int32)), .val (.ref b38), .val (.int (2 : Int32)), .val (.ref p0), .val (.int (4 : Int32)), .val (.int (3 : Int32)), .val (.int (f 2))] [(.int (f 3))])
          refine hp (fun tq kq => XS.istore X40.here hx rfl (hb hby d1_66) rfl (l' := #[.val (.ref p0), .val (.int (2 : Int32)), .val (.ref b38), .val (.int (2 : Int32)), .val (.ref p0), .val (.int (4 : Int32)), .val (.int (3 : Int32)), .val (.int (f 3))]) rfl kq) ?_
          show G T40 (mkF m 68 #[.val (.ref p0), .val (.int (2 : Int32)), .val (.ref b38), .val (.int (2 : Int32)), .val (.ref p0), .val (.int (4 : Int32)), .val (.int (3 : Int32)), .val (.int (f 3))] [])
          refine hp (fun tq kq => XS.iload X40.here hx rfl (hb hby d1_68) rfl kq) ?_
          show G T40 (mkF m 70 #[.val (.ref p0), .val (.int (2 : Int32)), .val (.ref b38), .val (.int (2 : Int32)), .val (.ref p0), .val (.int (4 : Int32)), .val (.int (3 : Int32)), .val (.int (f 3))] [(.int (f 3))])
          refine hp (fun tq kq => XS.iconst X40.here hx rfl (hb hby d1_70) kq) ?_
          show G T40 (mkF m 71 #[.val (.ref p0), .val (.int (2 : Int32)), .val (.ref b38), .val (.int (2 : Int32)), .val (.ref p0), .val (.int (4 : Int32)), .val (.int (3 : Int32)), .val (.int (f 3))] [(.int (-1 : Int32)), (.int (f 3))])
          refine hp (fun tq kq => XS.icmpYes X40.here hx rfl (pc0 := 71) (pc' := 82) rfl (hb hby d1_71) rfl (teq hb37).1 (by decide) (by decide) kq) ?_
          show G T40 (mkF m 82 #[.val (.ref p0), .val (.int (2 : Int32)), .val (.ref b38), .val (.int (2 : Int32)), .val (.ref p0), .val (.int (4 : Int32)), .val (.int (3 : Int32)), .val (.int (f 3))] [])
          refine hp (fun tq kq => XS.iinc X40.here hx rfl (hb hby d1_82) rfl (l' := #[.val (.ref p0), .val (.int (2 : Int32)), .val (.ref b38), .val (.int (2 : Int32)), .val (.ref p0), .val (.int (4 : Int32)), .val (.int (4 : Int32)), .val (.int (f 3))]) rfl kq) ?_
          show G T40 (mkF m 85 #[.val (.ref p0), .val (.int (2 : Int32)), .val (.ref b38), .val (.int (2 : Int32)), .val (.ref p0), .val (.int (4 : Int32)), .val (.int (4 : Int32)), .val (.int (f 3))] [])
          refine hp (fun tq kq => XS.goto X40.here hx rfl (pc0 := 85) (pc' := 54) rfl (hb hby d1_85) (by decide) (by decide) kq) ?_
          show G T40 (mkF m 54 #[.val (.ref p0), .val (.int (2 : Int32)), .val (.ref b38), .val (.int (2 : Int32)), .val (.ref p0), .val (.int (4 : Int32)), .val (.int (4 : Int32)), .val (.int (f 3))] [])
          refine hp (fun tq kq => XS.iload X40.here hx rfl (hb hby d1_54) rfl kq) ?_
          show G T40 (mkF m 56 #[.val (.ref p0), .val (.int (2 : Int32)), .val (.ref b38), .val (.int (2 : Int32)), .val (.ref p0), .val (.int (4 : Int32)), .val (.int (4 : Int32)), .val (.int (f 3))] [(.int (4 : Int32))])
          refine hp (fun tq kq => XS.iload X40.here hx rfl (hb hby d1_56) rfl kq) ?_
          show G T40 (mkF m 58 #[.val (.ref p0), .val (.int (2 : Int32)), .val (.ref b38), .val (.int (2 : Int32)), .val (.ref p0), .val (.int (4 : Int32)), .val (.int (4 : Int32)), .val (.int (f 3))] [(.int (4 : Int32)), (.int (4 : Int32))])
          refine hp (fun tq kq => XS.icmpYes X40.here hx rfl (pc0 := 58) (pc' := 88) rfl (hb hby d1_58) rfl (flt (by decide)).2.1 (by decide) (by decide) kq) ?_
          show G T40 (mkF m 88 #[.val (.ref p0), .val (.int (2 : Int32)), .val (.ref b38), .val (.int (2 : Int32)), .val (.ref p0), .val (.int (4 : Int32)), .val (.int (4 : Int32)), .val (.int (f 3))] [])
          refine hp (fun tq kq => XS.aloadN X40.here hx rfl (hb hby d1_88) rfl rfl kq) ?_
          show G T40 (mkF m 89 #[.val (.ref p0), .val (.int (2 : Int32)), .val (.ref b38), .val (.int (2 : Int32)), .val (.ref p0), .val (.int (4 : Int32)), .val (.int (4 : Int32)), .val (.int (f 3))] [(.ref b38)])
          exact hR X40 (fun fs hl => own_retA X40 hx hret rfl (hb hby d1_89) hl) (fun q => by rw [hret] at q; cases q) (by rw [e40]; exact ⟨b38, 2, (own_up (own_up (fun _ => (0 : Int32)) 0 (f 0)) 1 (f 2)), rfl, N40, K40, sz_b38, V40_b38, own_seld (l := [(f 0), (f 2)]) (own_sel_of (a := [f 0]) (b := []) (c := [f 2]) (d := []) (if_neg hb1) (if_pos hb29) (if_neg hb30) (if_pos hb37)) rfl (own_pick2 rfl rfl rfl)⟩) (by decide) (by decide)
        · refine hp (fun tq kq => XS.icmpNo X0.here hx rfl (hb hby d1_25) rfl (feq hb37).1 kq) ?_
          show G s₁ (mkF m 28 #[.val (.ref p0), .val (.int (2 : Int32)), .val (.ref p0), .val (.int (4 : Int32)), .val (.int (3 : Int32)), .val (.int (f 3)), .unset, .unset] [])
          refine hp (fun tq kq => XS.iinc X0.here hx rfl (hb hby d1_28) rfl (l' := #[.val (.ref p0), .val (.int (3 : Int32)), .val (.ref p0), .val (.int (4 : Int32)), .val (.int (3 : Int32)), .val (.int (f 3)), .unset, .unset]) rfl kq) ?_
          show G s₁ (mkF m 31 #[.val (.ref p0), .val (.int (3 : Int32)), .val (.ref p0), .val (.int (4 : Int32)), .val (.int (3 : Int32)), .val (.int (f 3)), .unset, .unset] [])
          refine hp (fun tq kq => XS.iinc X0.here hx rfl (hb hby d1_31) rfl (l' := #[.val (.ref p0), .val (.int (3 : Int32)), .val (.ref p0), .val (.int (4 : Int32)), .val (.int (4 : Int32)), .val (.int (f 3)), .unset, .unset]) rfl kq) ?_
          show G s₁ (mkF m 34 #[.val (.ref p0), .val (.int (3 : Int32)), .val (.ref p0), .val (.int (4 : Int32)), .val (.int (4 : Int32)), .val (.int (f 3)), .unset, .unset] [])
          refine hp (fun tq kq => XS.goto X0.here hx rfl (pc0 := 34) (pc' := 10) rfl (hb hby d1_34) (by decide) (by decide) kq) ?_
          show G s₁ (mkF m 10 #[.val (.ref p0), .val (.int (3 : Int32)), .val (.ref p0), .val (.int (4 : Int32)), .val (.int (4 : Int32)), .val (.int (f 3)), .unset, .unset] [])
          refine hp (fun tq kq => XS.iload X0.here hx rfl (hb hby d1_10) rfl kq) ?_
          show G s₁ (mkF m 12 #[.val (.ref p0), .val (.int (3 : Int32)), .val (.ref p0), .val (.int (4 : Int32)), .val (.int (4 : Int32)), .val (.int (f 3)), .unset, .unset] [(.int (4 : Int32))])
          refine hp (fun tq kq => XS.iloadN X0.here hx rfl (hb hby d1_12) rfl kq) ?_
          show G s₁ (mkF m 13 #[.val (.ref p0), .val (.int (3 : Int32)), .val (.ref p0), .val (.int (4 : Int32)), .val (.int (4 : Int32)), .val (.int (f 3)), .unset, .unset] [(.int (4 : Int32)), (.int (4 : Int32))])
          refine hp (fun tq kq => XS.icmpYes X0.here hx rfl (pc0 := 13) (pc' := 37) rfl (hb hby d1_13) rfl (flt (by decide)).2.1 (by decide) (by decide) kq) ?_
          show G s₁ (mkF m 37 #[.val (.ref p0), .val (.int (3 : Int32)), .val (.ref p0), .val (.int (4 : Int32)), .val (.int (4 : Int32)), .val (.int (f 3)), .unset, .unset] [])
          refine hp (fun tq kq => XS.iloadN X0.here hx rfl (hb hby d1_37) rfl kq) ?_
          show G s₁ (mkF m 38 #[.val (.ref p0), .val (.int (3 : Int32)), .val (.ref p0), .val (.int (4 : Int32)), .val (.int (4 : Int32)), .val (.int (f 3)), .unset, .unset] [(.int (3 : Int32))])
          obtain ⟨T41, h41, k41, X41, e41, E41, A41, st41⟩ := newP X0 hx hZ (hw _ (List.mem_of_getElem? (i := 1) rfl)) e0 (g := (mkF m 38 #[.val (.ref p0), .val (.int (3 : Int32)), .val (.ref p0), .val (.int (4 : Int32)), .val (.int (4 : Int32)), .val (.int (f 3)), .unset, .unset] [(.int (3 : Int32))])) rfl (hb hby d1_38) rfl (by decide) (cap := 3) (by decide) (by decide) (by decide) (by decide)
          obtain ⟨b41, g41⟩ : ∃ z, z = h0.size := ⟨_, rfl⟩
          rw [← g41] at A41 st41
          have ne41_p0 : p0 ≠ b41 := Nat.ne_of_lt (Nat.lt_of_lt_of_le V_p0.lt (Nat.le_of_eq g41.symm))
          have sz_b41 : h0.size ≤ b41 := Nat.le_trans K0.1 (Nat.le_of_eq g41.symm)
          have g_b41 : n0 ≤ b41 := Nat.le_trans Z0 sz_b41
          have V41_p0 := V_p0.ext E41
          have K41 := K0.ext E41
          have V41_b41 : own_AI Z h41 b41 .int 3 (fun _ => 0) := own_AI.new A41 (by decide) rfl 3 (by decide)
          refine hp st41 ?_
          show G T41 (mkF m 40 #[.val (.ref p0), .val (.int (3 : Int32)), .val (.ref p0), .val (.int (4 : Int32)), .val (.int (4 : Int32)), .val (.int (f 3)), .unset, .unset] [(.ref b41)])
          refine hp (fun tq kq => XS.astoreN X41.here hx rfl (hb hby d1_40) rfl rfl (l' := #[.val (.ref p0), .val (.int (3 : Int32)), .val (.ref b41), .val (.int (4 : Int32)), .val (.int (4 : Int32)), .val (.int (f 3)), .unset, .unset]) rfl kq) ?_
          show G T41 (mkF m 41 #[.val (.ref p0), .val (.int (3 : Int32)), .val (.ref b41), .val (.int (4 : Int32)), .val (.int (4 : Int32)), .val (.int (f 3)), .unset, .unset] [])
          refine hp (fun tq kq => XS.iconst X41.here hx rfl (hb hby d1_41) kq) ?_
          show G T41 (mkF m 42 #[.val (.ref p0), .val (.int (3 : Int32)), .val (.ref b41), .val (.int (4 : Int32)), .val (.int (4 : Int32)), .val (.int (f 3)), .unset, .unset] [(.int (0 : Int32))])
          refine hp (fun tq kq => XS.istoreN X41.here hx rfl (hb hby d1_42) rfl (l' := #[.val (.ref p0), .val (.int (3 : Int32)), .val (.ref b41), .val (.int (0 : Int32)), .val (.int (4 : Int32)), .val (.int (f 3)), .unset, .unset]) rfl kq) ?_
          show G T41 (mkF m 43 #[.val (.ref p0), .val (.int (3 : Int32)), .val (.ref b41), .val (.int (0 : Int32)), .val (.int (4 : Int32)), .val (.int (f 3)), .unset, .unset] [])
          refine hp (fun tq kq => XS.aloadN X41.here hx rfl (hb hby d1_43) rfl rfl kq) ?_
          show G T41 (mkF m 44 #[.val (.ref p0), .val (.int (3 : Int32)), .val (.ref b41), .val (.int (0 : Int32)), .val (.int (4 : Int32)), .val (.int (f 3)), .unset, .unset] [(.ref p0)])
          refine hp (fun tq kq => XS.astore X41.here hx rfl (hb hby d1_44) rfl rfl (l' := #[.val (.ref p0), .val (.int (3 : Int32)), .val (.ref b41), .val (.int (0 : Int32)), .val (.ref p0), .val (.int (f 3)), .unset, .unset]) rfl kq) ?_
          show G T41 (mkF m 46 #[.val (.ref p0), .val (.int (3 : Int32)), .val (.ref b41), .val (.int (0 : Int32)), .val (.ref p0), .val (.int (f 3)), .unset, .unset] [])
          refine hp (fun tq kq => XS.aload X41.here hx rfl (hb hby d1_46) rfl rfl kq) ?_
          show G T41 (mkF m 48 #[.val (.ref p0), .val (.int (3 : Int32)), .val (.ref b41), .val (.int (0 : Int32)), .val (.ref p0), .val (.int (f 3)), .unset, .unset] [(.ref p0)])
          refine hp (own_lenI X41 hx hZ e41 V41_p0 (4 : Int32) rfl (g := (mkF m 48 #[.val (.ref p0), .val (.int (3 : Int32)), .val (.ref b41), .val (.int (0 : Int32)), .val (.ref p0), .val (.int (f 3)), .unset, .unset] [(.ref p0)])) rfl rfl (hb hby d1_48)) ?_
          show G T41 (mkF m 49 #[.val (.ref p0), .val (.int (3 : Int32)), .val (.ref b41), .val (.int (0 : Int32)), .val (.ref p0), .val (.int (f 3)), .unset, .unset] [(.int (4 : Int32))])
          refine hp (fun tq kq => XS.istore X41.here hx rfl (hb hby d1_49) rfl (l' := #[.val (.ref p0), .val (.int (3 : Int32)), .val (.ref b41), .val (.int (0 : Int32)), .val (.ref p0), .val (.int (4 : Int32)), .unset, .unset]) rfl kq) ?_
          show G T41 (mkF m 51 #[.val (.ref p0), .val (.int (3 : Int32)), .val (.ref b41), .val (.int (0 : Int32)), .val (.ref p0), .val (.int (4 : Int32)), .unset, .unset] [])
          refine hp (fun tq kq => XS.iconst X41.here hx rfl (hb hby d1_51) kq) ?_
          show G T41 (mkF m 52 #[.val (.ref p0), .val (.int (3 : Int32)), .val (.ref b41), .val (.int (0 : Int32)), .val (.ref p0), .val (.int (4 : Int32)), .unset, .unset] [(.int (0 : Int32))])
          refine hp (fun tq kq => XS.istore X41.here hx rfl (hb hby d1_52) rfl (l' := #[.val (.ref p0), .val (.int (3 : Int32)), .val (.ref b41), .val (.int (0 : Int32)), .val (.ref p0), .val (.int (4 : Int32)), .val (.int (0 : Int32)), .unset]) rfl kq) ?_
          show G T41 (mkF m 54 #[.val (.ref p0), .val (.int (3 : Int32)), .val (.ref b41), .val (.int (0 : Int32)), .val (.ref p0), .val (.int (4 : Int32)), .val (.int (0 : Int32)), .unset] [])
          refine hp (fun tq kq => XS.iload X41.here hx rfl (hb hby d1_54) rfl kq) ?_
          show G T41 (mkF m 56 #[.val (.ref p0), .val (.int (3 : Int32)), .val (.ref b41), .val (.int (0 : Int32)), .val (.ref p0), .val (.int (4 : Int32)), .val (.int (0 : Int32)), .unset] [(.int (0 : Int32))])
          refine hp (fun tq kq => XS.iload X41.here hx rfl (hb hby d1_56) rfl kq) ?_
          show G T41 (mkF m 58 #[.val (.ref p0), .val (.int (3 : Int32)), .val (.ref b41), .val (.int (0 : Int32)), .val (.ref p0), .val (.int (4 : Int32)), .val (.int (0 : Int32)), .unset] [(.int (4 : Int32)), (.int (0 : Int32))])
          refine hp (fun tq kq => XS.icmpNo X41.here hx rfl (hb hby d1_58) rfl (tlt (by decide)).2.1 kq) ?_
          show G T41 (mkF m 61 #[.val (.ref p0), .val (.int (3 : Int32)), .val (.ref b41), .val (.int (0 : Int32)), .val (.ref p0), .val (.int (4 : Int32)), .val (.int (0 : Int32)), .unset] [])
          refine hp (fun tq kq => XS.aload X41.here hx rfl (hb hby d1_61) rfl rfl kq) ?_
          show G T41 (mkF m 63 #[.val (.ref p0), .val (.int (3 : Int32)), .val (.ref b41), .val (.int (0 : Int32)), .val (.ref p0), .val (.int (4 : Int32)), .val (.int (0 : Int32)), .unset] [(.ref p0)])
          refine hp (fun tq kq => XS.iload X41.here hx rfl (hb hby d1_63) rfl kq) ?_
          show G T41 (mkF m 65 #[.val (.ref p0), .val (.int (3 : Int32)), .val (.ref b41), .val (.int (0 : Int32)), .val (.ref p0), .val (.int (4 : Int32)), .val (.int (0 : Int32)), .unset] [(.int (0 : Int32)), (.ref p0)])
          refine hp (own_ldI X41 hx hZ e41 V41_p0 (j := (0 : Int32)) 0 (by decide) (by decide) (by decide) (g := (mkF m 65 #[.val (.ref p0), .val (.int (3 : Int32)), .val (.ref b41), .val (.int (0 : Int32)), .val (.ref p0), .val (.int (4 : Int32)), .val (.int (0 : Int32)), .unset] [(.int (0 : Int32)), (.ref p0)])) rfl rfl (hb hby d1_65)) ?_
          show G T41 (mkF m 66 #[.val (.ref p0), .val (.int (3 : Int32)), .val (.ref b41), .val (.int (0 : Int32)), .val (.ref p0), .val (.int (4 : Int32)), .val (.int (0 : Int32)), .unset] [(.int (f 0))])
          refine hp (fun tq kq => XS.istore X41.here hx rfl (hb hby d1_66) rfl (l' := #[.val (.ref p0), .val (.int (3 : Int32)), .val (.ref b41), .val (.int (0 : Int32)), .val (.ref p0), .val (.int (4 : Int32)), .val (.int (0 : Int32)), .val (.int (f 0))]) rfl kq) ?_
          show G T41 (mkF m 68 #[.val (.ref p0), .val (.int (3 : Int32)), .val (.ref b41), .val (.int (0 : Int32)), .val (.ref p0), .val (.int (4 : Int32)), .val (.int (0 : Int32)), .val (.int (f 0))] [])
          refine hp (fun tq kq => XS.iload X41.here hx rfl (hb hby d1_68) rfl kq) ?_
          show G T41 (mkF m 70 #[.val (.ref p0), .val (.int (3 : Int32)), .val (.ref b41), .val (.int (0 : Int32)), .val (.ref p0), .val (.int (4 : Int32)), .val (.int (0 : Int32)), .val (.int (f 0))] [(.int (f 0))])
          refine hp (fun tq kq => XS.iconst X41.here hx rfl (hb hby d1_70) kq) ?_
          show G T41 (mkF m 71 #[.val (.ref p0), .val (.int (3 : Int32)), .val (.ref b41), .val (.int (0 : Int32)), .val (.ref p0), .val (.int (4 : Int32)), .val (.int (0 : Int32)), .val (.int (f 0))] [(.int (-1 : Int32)), (.int (f 0))])
          refine hp (fun tq kq => XS.icmpNo X41.here hx rfl (hb hby d1_71) rfl (feq hb1).1 kq) ?_
          show G T41 (mkF m 74 #[.val (.ref p0), .val (.int (3 : Int32)), .val (.ref b41), .val (.int (0 : Int32)), .val (.ref p0), .val (.int (4 : Int32)), .val (.int (0 : Int32)), .val (.int (f 0))] [])
          refine hp (fun tq kq => XS.aloadN X41.here hx rfl (hb hby d1_74) rfl rfl kq) ?_
          show G T41 (mkF m 75 #[.val (.ref p0), .val (.int (3 : Int32)), .val (.ref b41), .val (.int (0 : Int32)), .val (.ref p0), .val (.int (4 : Int32)), .val (.int (0 : Int32)), .val (.int (f 0))] [(.ref b41)])
          refine hp (fun tq kq => XS.iloadN X41.here hx rfl (hb hby d1_75) rfl kq) ?_
          show G T41 (mkF m 76 #[.val (.ref p0), .val (.int (3 : Int32)), .val (.ref b41), .val (.int (0 : Int32)), .val (.ref p0), .val (.int (4 : Int32)), .val (.int (0 : Int32)), .val (.int (f 0))] [(.int (0 : Int32)), (.ref b41)])
          refine hp (fun tq kq => XS.iload X41.here hx rfl (hb hby d1_76) rfl kq) ?_
          show G T41 (mkF m 78 #[.val (.ref p0), .val (.int (3 : Int32)), .val (.ref b41), .val (.int (0 : Int32)), .val (.ref p0), .val (.int (4 : Int32)), .val (.int (0 : Int32)), .val (.int (f 0))] [(.int (f 0)), (.int (0 : Int32)), (.ref b41)])
          obtain ⟨T42, h42, X42, e42, W42, V42_b41, st42⟩ := own_stI X41 hx hZ e41 V41_b41 (j := (0 : Int32)) 0 (by decide) (by decide) (by decide) (g := (mkF m 78 #[.val (.ref p0), .val (.int (3 : Int32)), .val (.ref b41), .val (.int (0 : Int32)), .val (.ref p0), .val (.int (4 : Int32)), .val (.int (0 : Int32)), .val (.int (f 0))] [(.int (f 0)), (.int (0 : Int32)), (.ref b41)])) rfl rfl (hb hby d1_78)
          have V42_p0 := V41_p0.other W42 ne41_p0
          have K42 := K41.wr W42 (Or.inr sz_b41)
          have N42 := Fr.snoc X42 N0 g_b41
          refine hp st42 ?_
          show G T42 (mkF m 79 #[.val (.ref p0), .val (.int (3 : Int32)), .val (.ref b41), .val (.int (0 : Int32)), .val (.ref p0), .val (.int (4 : Int32)), .val (.int (0 : Int32)), .val (.int (f 0))] [])
          refine hp (fun tq kq => XS.iinc X42.here hx rfl (hb hby d1_79) rfl (l' := #[.val (.ref p0), .val (.int (3 : Int32)), .val (.ref b41), .val (.int (1 : Int32)), .val (.ref p0), .val (.int (4 : Int32)), .val (.int (0 : Int32)), .val (.int (f 0))]) rfl kq) ?_
          show G T42 (mkF m 82 #[.val (.ref p0), .val (.int (3 : Int32)), .val (.ref b41), .val (.int (1 : Int32)), .val (.ref p0), .val (.int (4 : Int32)), .val (.int (0 : Int32)), .val (.int (f 0))] [])
          refine hp (fun tq kq => XS.iinc X42.here hx rfl (hb hby d1_82) rfl (l' := #[.val (.ref p0), .val (.int (3 : Int32)), .val (.ref b41), .val (.int (1 : Int32)), .val (.ref p0), .val (.int (4 : Int32)), .val (.int (1 : Int32)), .val (.int (f 0))]) rfl kq) ?_
          show G T42 (mkF m 85 #[.val (.ref p0), .val (.int (3 : Int32)), .val (.ref b41), .val (.int (1 : Int32)), .val (.ref p0), .val (.int (4 : Int32)), .val (.int (1 : Int32)), .val (.int (f 0))] [])
          refine hp (fun tq kq => XS.goto X42.here hx rfl (pc0 := 85) (pc' := 54) rfl (hb hby d1_85) (by decide) (by decide) kq) ?_
          show G T42 (mkF m 54 #[.val (.ref p0), .val (.int (3 : Int32)), .val (.ref b41), .val (.int (1 : Int32)), .val (.ref p0), .val (.int (4 : Int32)), .val (.int (1 : Int32)), .val (.int (f 0))] [])
          refine hp (fun tq kq => XS.iload X42.here hx rfl (hb hby d1_54) rfl kq) ?_
          show G T42 (mkF m 56 #[.val (.ref p0), .val (.int (3 : Int32)), .val (.ref b41), .val (.int (1 : Int32)), .val (.ref p0), .val (.int (4 : Int32)), .val (.int (1 : Int32)), .val (.int (f 0))] [(.int (1 : Int32))])
          refine hp (fun tq kq => XS.iload X42.here hx rfl (hb hby d1_56) rfl kq) ?_
          show G T42 (mkF m 58 #[.val (.ref p0), .val (.int (3 : Int32)), .val (.ref b41), .val (.int (1 : Int32)), .val (.ref p0), .val (.int (4 : Int32)), .val (.int (1 : Int32)), .val (.int (f 0))] [(.int (4 : Int32)), (.int (1 : Int32))])
          refine hp (fun tq kq => XS.icmpNo X42.here hx rfl (hb hby d1_58) rfl (tlt (by decide)).2.1 kq) ?_
          show G T42 (mkF m 61 #[.val (.ref p0), .val (.int (3 : Int32)), .val (.ref b41), .val (.int (1 : Int32)), .val (.ref p0), .val (.int (4 : Int32)), .val (.int (1 : Int32)), .val (.int (f 0))] [])
          refine hp (fun tq kq => XS.aload X42.here hx rfl (hb hby d1_61) rfl rfl kq) ?_
          show G T42 (mkF m 63 #[.val (.ref p0), .val (.int (3 : Int32)), .val (.ref b41), .val (.int (1 : Int32)), .val (.ref p0), .val (.int (4 : Int32)), .val (.int (1 : Int32)), .val (.int (f 0))] [(.ref p0)])
          refine hp (fun tq kq => XS.iload X42.here hx rfl (hb hby d1_63) rfl kq) ?_
          show G T42 (mkF m 65 #[.val (.ref p0), .val (.int (3 : Int32)), .val (.ref b41), .val (.int (1 : Int32)), .val (.ref p0), .val (.int (4 : Int32)), .val (.int (1 : Int32)), .val (.int (f 0))] [(.int (1 : Int32)), (.ref p0)])
          refine hp (own_ldI X42 hx hZ e42 V42_p0 (j := (1 : Int32)) 1 (by decide) (by decide) (by decide) (g := (mkF m 65 #[.val (.ref p0), .val (.int (3 : Int32)), .val (.ref b41), .val (.int (1 : Int32)), .val (.ref p0), .val (.int (4 : Int32)), .val (.int (1 : Int32)), .val (.int (f 0))] [(.int (1 : Int32)), (.ref p0)])) rfl rfl (hb hby d1_65)) ?_
          show G T42 (mkF m 66 #[.val (.ref p0), .val (.int (3 : Int32)), .val (.ref b41), .val (.int (1 : Int32)), .val (.ref p0), .val (.int (4 : Int32)), .val (.int (1 : Int32)), .val (.int (f 0))] [(.int (f 1))])
          refine hp (fun tq kq => XS.istore X42.here hx rfl (hb hby d1_66) rfl (l' := #[.val (.ref p0), .val (.int (3 : Int32)), .val (.ref b41), .val (.int (1 : Int32)), .val (.ref p0), .val (.int (4 : Int32)), .val (.int (1 : Int32)), .val (.int (f 1))]) rfl kq) ?_
          show G T42 (mkF m 68 #[.val (.ref p0), .val (.int (3 : Int32)), .val (.ref b41), .val (.int (1 : Int32)), .val (.ref p0), .val (.int (4 : Int32)), .val (.int (1 : Int32)), .val (.int (f 1))] [])
          refine hp (fun tq kq => XS.iload X42.here hx rfl (hb hby d1_68) rfl kq) ?_
          show G T42 (mkF m 70 #[.val (.ref p0), .val (.int (3 : Int32)), .val (.ref b41), .val (.int (1 : Int32)), .val (.ref p0), .val (.int (4 : Int32)), .val (.int (1 : Int32)), .val (.int (f 1))] [(.int (f 1))])
          refine hp (fun tq kq => XS.iconst X42.here hx rfl (hb hby d1_70) kq) ?_
          show G T42 (mkF m 71 #[.val (.ref p0), .val (.int (3 : Int32)), .val (.ref b41), .val (.int (1 : Int32)), .val (.ref p0), .val (.int (4 : Int32)), .val (.int (1 : Int32)), .val (.int (f 1))] [(.int (-1 : Int32)), (.int (f 1))])
          refine hp (fun tq kq => XS.icmpYes X42.here hx rfl (pc0 := 71) (pc' := 82) rfl (hb hby d1_71) rfl (teq hb29).1 (by decide) (by decide) kq) ?_
          show G T42 (mkF m 82 #[.val (.ref p0), .val (.int (3 : Int32)), .val (.ref b41), .val (.int (1 : Int32)), .val (.ref p0), .val (.int (4 : Int32)), .val (.int (1 : Int32)), .val (.int (f 1))] [])
          refine hp (fun tq kq => XS.iinc X42.here hx rfl (hb hby d1_82) rfl (l' := #[.val (.ref p0), .val (.int (3 : Int32)), .val (.ref b41), .val (.int (1 : Int32)), .val (.ref p0), .val (.int (4 : Int32)), .val (.int (2 : Int32)), .val (.int (f 1))]) rfl kq) ?_
          show G T42 (mkF m 85 #[.val (.ref p0), .val (.int (3 : Int32)), .val (.ref b41), .val (.int (1 : Int32)), .val (.ref p0), .val (.int (4 : Int32)), .val (.int (2 : Int32)), .val (.int (f 1))] [])
          refine hp (fun tq kq => XS.goto X42.here hx rfl (pc0 := 85) (pc' := 54) rfl (hb hby d1_85) (by decide) (by decide) kq) ?_
          show G T42 (mkF m 54 #[.val (.ref p0), .val (.int (3 : Int32)), .val (.ref b41), .val (.int (1 : Int32)), .val (.ref p0), .val (.int (4 : Int32)), .val (.int (2 : Int32)), .val (.int (f 1))] [])
          refine hp (fun tq kq => XS.iload X42.here hx rfl (hb hby d1_54) rfl kq) ?_
          show G T42 (mkF m 56 #[.val (.ref p0), .val (.int (3 : Int32)), .val (.ref b41), .val (.int (1 : Int32)), .val (.ref p0), .val (.int (4 : Int32)), .val (.int (2 : Int32)), .val (.int (f 1))] [(.int (2 : Int32))])
          refine hp (fun tq kq => XS.iload X42.here hx rfl (hb hby d1_56) rfl kq) ?_
          show G T42 (mkF m 58 #[.val (.ref p0), .val (.int (3 : Int32)), .val (.ref b41), .val (.int (1 : Int32)), .val (.ref p0), .val (.int (4 : Int32)), .val (.int (2 : Int32)), .val (.int (f 1))] [(.int (4 : Int32)), (.int (2 : Int32))])
          refine hp (fun tq kq => XS.icmpNo X42.here hx rfl (hb hby d1_58) rfl (tlt (by decide)).2.1 kq) ?_
          show G T42 (mkF m 61 #[.val (.ref p0), .val (.int (3 : Int32)), .val (.ref b41), .val (.int (1 : Int32)), .val (.ref p0), .val (.int (4 : Int32)), .val (.int (2 : Int32)), .val (.int (f 1))] [])
          refine hp (fun tq kq => XS.aload X42.here hx rfl (hb hby d1_61) rfl rfl kq) ?_
          show G T42 (mkF m 63 #[.val (.ref p0), .val (.int (3 : Int32)), .val (.ref b41), .val (.int (1 : Int32)), .val (.ref p0), .val (.int (4 : Int32)), .val (.int (2 : Int32)), .val (.int (f 1))] [(.ref p0)])
          refine hp (fun tq kq => XS.iload X42.here hx rfl (hb hby d1_63) rfl kq) ?_
          show G T42 (mkF m 65 #[.val (.ref p0), .val (.int (3 : Int32)), .val (.ref b41), .val (.int (1 : Int32)), .val (.ref p0), .val (.int (4 : Int32)), .val (.int (2 : Int32)), .val (.int (f 1))] [(.int (2 : Int32)), (.ref p0)])
          refine hp (own_ldI X42 hx hZ e42 V42_p0 (j := (2 : Int32)) 2 (by decide) (by decide) (by decide) (g := (mkF m 65 #[.val (.ref p0), .val (.int (3 : Int32)), .val (.ref b41), .val (.int (1 : Int32)), .val (.ref p0), .val (.int (4 : Int32)), .val (.int (2 : Int32)), .val (.int (f 1))] [(.int (2 : Int32)), (.ref p0)])) rfl rfl (hb hby d1_65)) ?_
          show G T42 (mkF m 66 #[.val (.ref p0), .val (.int (3 : Int32)), .val (.ref b41), .val (.int (1 : Int32)), .val (.ref p0), .val (.int (4 : Int32)), .val (.int (2 : Int32)), .val (.int (f 1))] [(.int (f 2))])
          refine hp (fun tq kq => XS.istore X42.here hx rfl (hb hby d1_66) rfl (l' := #[.val (.ref p0), .val (.int (3 : Int32)), .val (.ref b41), .val (.int (1 : Int32)), .val (.ref p0), .val (.int (4 : Int32)), .val (.int (2 : Int32)), .val (.int (f 2))]) rfl kq) ?_
          show G T42 (mkF m 68 #[.val (.ref p0), .val (.int (3 : Int32)), .val (.ref b41), .val (.int (1 : Int32)), .val (.ref p0), .val (.int (4 : Int32)), .val (.int (2 : Int32)), .val (.int (f 2))] [])
          refine hp (fun tq kq => XS.iload X42.here hx rfl (hb hby d1_68) rfl kq) ?_
          show G T42 (mkF m 70 #[.val (.ref p0), .val (.int (3 : Int32)), .val (.ref b41), .val (.int (1 : Int32)), .val (.ref p0), .val (.int (4 : Int32)), .val (.int (2 : Int32)), .val (.int (f 2))] [(.int (f 2))])
          refine hp (fun tq kq => XS.iconst X42.here hx rfl (hb hby d1_70) kq) ?_
          show G T42 (mkF m 71 #[.val (.ref p0), .val (.int (3 : Int32)), .val (.ref b41), .val (.int (1 : Int32)), .val (.ref p0), .val (.int (4 : Int32)), .val (.int (2 : Int32)), .val (.int (f 2))] [(.int (-1 : Int32)), (.int (f 2))])
          refine hp (fun tq kq => XS.icmpNo X42.here hx rfl (hb hby d1_71) rfl (feq hb30).1 kq) ?_
          show G T42 (mkF m 74 #[.val (.ref p0), .val (.int (3 : Int32)), .val (.ref b41), .val (.int (1 : Int32)), .val (.ref p0), .val (.int (4 : Int32)), .val (.int (2 : Int32)), .val (.int (f 2))] [])
          refine hp (fun tq kq => XS.aloadN X42.here hx rfl (hb hby d1_74) rfl rfl kq) ?_
          show G T42 (mkF m 75 #[.val (.ref p0), .val (.int (3 : Int32)), .val (.ref b41), .val (.int (1 : Int32)), .val (.ref p0), .val (.int (4 : Int32)), .val (.int (2 : Int32)), .val (.int (f 2))] [(.ref b41)])
          refine hp (fun tq kq => XS.iloadN X42.here hx rfl (hb hby d1_75) rfl kq) ?_
          show G T42 (mkF m 76 #[.val (.ref p0), .val (.int (3 : Int32)), .val (.ref b41), .val (.int (1 : Int32)), .val (.ref p0), .val (.int (4 : Int32)), .val (.int (2 : Int32)), .val (.int (f 2))] [(.int (1 : Int32)), (.ref b41)])
          refine hp (fun tq kq => XS.iload X42.here hx rfl (hb hby d1_76) rfl kq) ?_
          show G T42 (mkF m 78 #[.val (.ref p0), .val (.int (3 : Int32)), .val (.ref b41), .val (.int (1 : Int32)), .val (.ref p0), .val (.int (4 : Int32)), .val (.int (2 : Int32)), .val (.int (f 2))] [(.int (f 2)), (.int (1 : Int32)), (.ref b41)])
          obtain ⟨T43, h43, X43, e43, W43, V43_b41, st43⟩ := own_stI X42 hx hZ e42 V42_b41 (j := (1 : Int32)) 1 (by decide) (by decide) (by decide) (g := (mkF m 78 #[.val (.ref p0), .val (.int (3 : Int32)), .val (.ref b41), .val (.int (1 : Int32)), .val (.ref p0), .val (.int (4 : Int32)), .val (.int (2 : Int32)), .val (.int (f 2))] [(.int (f 2)), (.int (1 : Int32)), (.ref b41)])) rfl rfl (hb hby d1_78)
          have V43_p0 := V42_p0.other W43 ne41_p0
          have K43 := K42.wr W43 (Or.inr sz_b41)
          have N43 := Fr.snoc X43 N42 g_b41
          refine hp st43 ?_
          show G T43 (mkF m 79 #[.val (.ref p0), .val (.int (3 : Int32)), .val (.ref b41), .val (.int (1 : Int32)), .val (.ref p0), .val (.int (4 : Int32)), .val (.int (2 : Int32)), .val (.int (f 2))] [])
          refine hp (fun tq kq => XS.iinc X43.here hx rfl (hb hby d1_79) rfl (l' := #[.val (.ref p0), .val (.int (3 : Int32)), .val (.ref b41), .val (.int (2 : Int32)), .val (.ref p0), .val (.int (4 : Int32)), .val (.int (2 : Int32)), .val (.int (f 2))]) rfl kq) ?_
          show G T43 (mkF m 82 #[.val (.ref p0), .val (.int (3 : Int32)), .val (.ref b41), .val (.int (2 : Int32)), .val (.ref p0), .val (.int (4 : Int32)), .val (.int (2 : Int32)), .val (.int (f 2))] [])
          refine hp (fun tq kq => XS.iinc X43.here hx rfl (hb hby d1_82) rfl (l' := #[.val (.ref p0), .val (.int (3 : Int32)), .val (.ref b41), .val (.int (2 : Int32)), .val (.ref p0), .val (.int (4 : Int32)), .val (.int (3 : Int32)), .val (.int (f 2))]) rfl kq) ?_
          show G T43 (mkF m 85 #[.val (.ref p0), .val (.int (3 : Int32)), .val (.ref b41), .val (.int (2 : Int32)), .val (.ref p0), .val (.int (4 : Int32)), .val (.int (3 : Int32)), .val (.int (f 2))] [])
          refine hp (fun tq kq => XS.goto X43.here hx rfl (pc0 := 85) (pc' := 54) rfl (hb hby d1_85) (by decide) (by decide) kq) ?_
          show G T43 (mkF m 54 #[.val (.ref p0), .val (.int (3 : Int32)), .val (.ref b41), .val (.int (2 : Int32)), .val (.ref p0), .val (.int (4 : Int32)), .val (.int (3 : Int32)), .val (.int (f 2))] [])
          refine hp (fun tq kq => XS.iload X43.here hx rfl (hb hby d1_54) rfl kq) ?_
          show G T43 (mkF m 56 #[.val (.ref p0), .val (.int (3 : Int32)), .val (.ref b41), .val (.int (2 : Int32)), .val (.ref p0), .val (.int (4 : Int32)), .val (.int (3 : Int32)), .val (.int (f 2))] [(.int (3 : Int32))])
          refine hp (fun tq kq => XS.iload X43.here hx rfl (hb hby d1_56) rfl kq) ?_
          show G T43 (mkF m 58 #[.val (.ref p0), .val (.int (3 : Int32)), .val (.ref b41), .val (.int (2 : Int32)), .val (.ref p0), .val (.int (4 : Int32)), .val (.int (3 : Int32)), .val (.int (f 2))] [(.int (4 : Int32)), (.int (3 : Int32))])
          refine hp (fun tq kq => XS.icmpNo X43.here hx rfl (hb hby d1_58) rfl (tlt (by decide)).2.1 kq) ?_
          show G T43 (mkF m 61 #[.val (.ref p0), .val (.int (3 : Int32)), .val (.ref b41), .val (.int (2 : Int32)), .val (.ref p0), .val (.int (4 : Int32)), .val (.int (3 : Int32)), .val (.int (f 2))] [])
          refine hp (fun tq kq => XS.aload X43.here hx rfl (hb hby d1_61) rfl rfl kq) ?_
          show G T43 (mkF m 63 #[.val (.ref p0), .val (.int (3 : Int32)), .val (.ref b41), .val (.int (2 : Int32)), .val (.ref p0), .val (.int (4 : Int32)), .val (.int (3 : Int32)), .val (.int (f 2))] [(.ref p0)])
          refine hp (fun tq kq => XS.iload X43.here hx rfl (hb hby d1_63) rfl kq) ?_
          show G T43 (mkF m 65 #[.val (.ref p0), .val (.int (3 : Int32)), .val (.ref b41), .val (.int (2 : Int32)), .val (.ref p0), .val (.int (4 : Int32)), .val (.int (3 : Int32)), .val (.int (f 2))] [(.int (3 : Int32)), (.ref p0)])
          refine hp (own_ldI X43 hx hZ e43 V43_p0 (j := (3 : Int32)) 3 (by decide) (by decide) (by decide) (g := (mkF m 65 #[.val (.ref p0), .val (.int (3 : Int32)), .val (.ref b41), .val (.int (2 : Int32)), .val (.ref p0), .val (.int (4 : Int32)), .val (.int (3 : Int32)), .val (.int (f 2))] [(.int (3 : Int32)), (.ref p0)])) rfl rfl (hb hby d1_65)) ?_
          show G T43 (mkF m 66 #[.val (.ref p0), .val (.int (3 : Int32)), .val (.ref b41), .val (.int (2 : Int32)), .val (.ref p0), .val (.int (4 : Int32)), .val (.int (3 : Int32)), .val (.int (f 2))] [(.int (f 3))])
          refine hp (fun tq kq => XS.istore X43.here hx rfl (hb hby d1_66) rfl (l' := #[.val (.ref p0), .val (.int (3 : Int32)), .val (.ref b41), .val (.int (2 : Int32)), .val (.ref p0), .val (.int (4 : Int32)), .val (.int (3 : Int32)), .val (.int (f 3))]) rfl kq) ?_
          show G T43 (mkF m 68 #[.val (.ref p0), .val (.int (3 : Int32)), .val (.ref b41), .val (.int (2 : Int32)), .val (.ref p0), .val (.int (4 : Int32)), .val (.int (3 : Int32)), .val (.int (f 3))] [])
          refine hp (fun tq kq => XS.iload X43.here hx rfl (hb hby d1_68) rfl kq) ?_
          show G T43 (mkF m 70 #[.val (.ref p0), .val (.int (3 : Int32)), .val (.ref b41), .val (.int (2 : Int32)), .val (.ref p0), .val (.int (4 : Int32)), .val (.int (3 : Int32)), .val (.int (f 3))] [(.int (f 3))])
          refine hp (fun tq kq => XS.iconst X43.here hx rfl (hb hby d1_70) kq) ?_
          show G T43 (mkF m 71 #[.val (.ref p0), .val (.int (3 : Int32)), .val (.ref b41), .val (.int (2 : Int32)), .val (.ref p0), .val (.int (4 : Int32)), .val (.int (3 : Int32)), .val (.int (f 3))] [(.int (-1 : Int32)), (.int (f 3))])
          refine hp (fun tq kq => XS.icmpNo X43.here hx rfl (hb hby d1_71) rfl (feq hb37).1 kq) ?_
          show G T43 (mkF m 74 #[.val (.ref p0), .val (.int (3 : Int32)), .val (.ref b41), .val (.int (2 : Int32)), .val (.ref p0), .val (.int (4 : Int32)), .val (.int (3 : Int32)), .val (.int (f 3))] [])
          refine hp (fun tq kq => XS.aloadN X43.here hx rfl (hb hby d1_74) rfl rfl kq) ?_
          show G T43 (mkF m 75 #[.val (.ref p0), .val (.int (3 : Int32)), .val (.ref b41), .val (.int (2 : Int32)), .val (.ref p0), .val (.int (4 : Int32)), .val (.int (3 : Int32)), .val (.int (f 3))] [(.ref b41)])
          refine hp (fun tq kq => XS.iloadN X43.here hx rfl (hb hby d1_75) rfl kq) ?_
          show G T43 (mkF m 76 #[.val (.ref p0), .val (.int (3 : Int32)), .val (.ref b41), .val (.int (2 : Int32)), .val (.ref p0), .val (.int (4 : Int32)), .val (.int (3 : Int32)), .val (.int (f 3))] [(.int (2 : Int32)), (.ref b41)])
          refine hp (fun tq kq => XS.iload X43.here hx rfl (hb hby d1_76) rfl kq) ?_
          show G T43 (mkF m 78 #[.val (.ref p0), .val (.int (3 : Int32)), .val (.ref b41), .val (.int (2 : Int32)), .val (.ref p0), .val (.int (4 : Int32)), .val (.int (3 : Int32)), .val (.int (f 3))] [(.int (f 3)), (.int (2 : Int32)), (.ref b41)])
          obtain ⟨T44, h44, X44, e44, W44, V44_b41, st44⟩ := own_stI X43 hx hZ e43 V43_b41 (j := (2 : Int32)) 2 (by decide) (by decide) (by decide) (g := (mkF m 78 #[.val (.ref p0), .val (.int (3 : Int32)), .val (.ref b41), .val (.int (2 : Int32)), .val (.ref p0), .val (.int (4 : Int32)), .val (.int (3 : Int32)), .val (.int (f 3))] [(.int (f 3)), (.int (2 : Int32)), (.ref b41)])) rfl rfl (hb hby d1_78)
          have V44_p0 := V43_p0.other W44 ne41_p0
          have K44 := K43.wr W44 (Or.inr sz_b41)
          have N44 := Fr.snoc X44 N43 g_b41
          refine hp st44 ?_
          show G T44 (mkF m 79 #[.val (.ref p0), .val (.int (3 : Int32)), .val (.ref b41), .val (.int (2 : Int32)), .val (.ref p0), .val (.int (4 : Int32)), .val (.int (3 : Int32)), .val (.int (f 3))] [])
          refine hp (fun tq kq => XS.iinc X44.here hx rfl (hb hby d1_79) rfl (l' := #[.val (.ref p0), .val (.int (3 : Int32)), .val (.ref b41), .val (.int (3 : Int32)), .val (.ref p0), .val (.int (4 : Int32)), .val (.int (3 : Int32)), .val (.int (f 3))]) rfl kq) ?_
          show G T44 (mkF m 82 #[.val (.ref p0), .val (.int (3 : Int32)), .val (.ref b41), .val (.int (3 : Int32)), .val (.ref p0), .val (.int (4 : Int32)), .val (.int (3 : Int32)), .val (.int (f 3))] [])
          refine hp (fun tq kq => XS.iinc X44.here hx rfl (hb hby d1_82) rfl (l' := #[.val (.ref p0), .val (.int (3 : Int32)), .val (.ref b41), .val (.int (3 : Int32)), .val (.ref p0), .val (.int (4 : Int32)), .val (.int (4 : Int32)), .val (.int (f 3))]) rfl kq) ?_
          show G T44 (mkF m 85 #[.val (.ref p0), .val (.int (3 : Int32)), .val (.ref b41), .val (.int (3 : Int32)), .val (.ref p0), .val (.int (4 : Int32)), .val (.int (4 : Int32)), .val (.int (f 3))] [])
          refine hp (fun tq kq => XS.goto X44.here hx rfl (pc0 := 85) (pc' := 54) rfl (hb hby d1_85) (by decide) (by decide) kq) ?_
          show G T44 (mkF m 54 #[.val (.ref p0), .val (.int (3 : Int32)), .val (.ref b41), .val (.int (3 : Int32)), .val (.ref p0), .val (.int (4 : Int32)), .val (.int (4 : Int32)), .val (.int (f 3))] [])
          refine hp (fun tq kq => XS.iload X44.here hx rfl (hb hby d1_54) rfl kq) ?_
          show G T44 (mkF m 56 #[.val (.ref p0), .val (.int (3 : Int32)), .val (.ref b41), .val (.int (3 : Int32)), .val (.ref p0), .val (.int (4 : Int32)), .val (.int (4 : Int32)), .val (.int (f 3))] [(.int (4 : Int32))])
          refine hp (fun tq kq => XS.iload X44.here hx rfl (hb hby d1_56) rfl kq) ?_
          show G T44 (mkF m 58 #[.val (.ref p0), .val (.int (3 : Int32)), .val (.ref b41), .val (.int (3 : Int32)), .val (.ref p0), .val (.int (4 : Int32)), .val (.int (4 : Int32)), .val (.int (f 3))] [(.int (4 : Int32)), (.int (4 : Int32))])
          refine hp (fun tq kq => XS.icmpYes X44.here hx rfl (pc0 := 58) (pc' := 88) rfl (hb hby d1_58) rfl (flt (by decide)).2.1 (by decide) (by decide) kq) ?_
          show G T44 (mkF m 88 #[.val (.ref p0), .val (.int (3 : Int32)), .val (.ref b41), .val (.int (3 : Int32)), .val (.ref p0), .val (.int (4 : Int32)), .val (.int (4 : Int32)), .val (.int (f 3))] [])
          refine hp (fun tq kq => XS.aloadN X44.here hx rfl (hb hby d1_88) rfl rfl kq) ?_
          show G T44 (mkF m 89 #[.val (.ref p0), .val (.int (3 : Int32)), .val (.ref b41), .val (.int (3 : Int32)), .val (.ref p0), .val (.int (4 : Int32)), .val (.int (4 : Int32)), .val (.int (f 3))] [(.ref b41)])
          exact hR X44 (fun fs hl => own_retA X44 hx hret rfl (hb hby d1_89) hl) (fun q => by rw [hret] at q; cases q) (by rw [e44]; exact ⟨b41, 3, (own_up (own_up (own_up (fun _ => (0 : Int32)) 0 (f 0)) 1 (f 2)) 2 (f 3)), rfl, N44, K44, sz_b41, V44_b41, own_seld (l := [(f 0), (f 2), (f 3)]) (own_sel_of (a := [f 0]) (b := []) (c := [f 2]) (d := [f 3]) (if_neg hb1) (if_pos hb29) (if_neg hb30) (if_neg hb37)) rfl (own_pick3 rfl rfl rfl rfl)⟩) (by decide) (by decide)
    · refine hp (fun tq kq => XS.icmpNo X0.here hx rfl (hb hby d1_25) rfl (feq hb29).1 kq) ?_
      show G s₁ (mkF m 28 #[.val (.ref p0), .val (.int (1 : Int32)), .val (.ref p0), .val (.int (4 : Int32)), .val (.int (1 : Int32)), .val (.int (f 1)), .unset, .unset] [])
      refine hp (fun tq kq => XS.iinc X0.here hx rfl (hb hby d1_28) rfl (l' := #[.val (.ref p0), .val (.int (2 : Int32)), .val (.ref p0), .val (.int (4 : Int32)), .val (.int (1 : Int32)), .val (.int (f 1)), .unset, .unset]) rfl kq) ?_
      show G s₁ (mkF m 31 #[.val (.ref p0), .val (.int (2 : Int32)), .val (.ref p0), .val (.int (4 : Int32)), .val (.int (1 : Int32)), .val (.int (f 1)), .unset, .unset] [])
      refine hp (fun tq kq => XS.iinc X0.here hx rfl (hb hby d1_31) rfl (l' := #[.val (.ref p0), .val (.int (2 : Int32)), .val (.ref p0), .val (.int (4 : Int32)), .val (.int (2 : Int32)), .val (.int (f 1)), .unset, .unset]) rfl kq) ?_
      show G s₁ (mkF m 34 #[.val (.ref p0), .val (.int (2 : Int32)), .val (.ref p0), .val (.int (4 : Int32)), .val (.int (2 : Int32)), .val (.int (f 1)), .unset, .unset] [])
      refine hp (fun tq kq => XS.goto X0.here hx rfl (pc0 := 34) (pc' := 10) rfl (hb hby d1_34) (by decide) (by decide) kq) ?_
      show G s₁ (mkF m 10 #[.val (.ref p0), .val (.int (2 : Int32)), .val (.ref p0), .val (.int (4 : Int32)), .val (.int (2 : Int32)), .val (.int (f 1)), .unset, .unset] [])
      refine hp (fun tq kq => XS.iload X0.here hx rfl (hb hby d1_10) rfl kq) ?_
      show G s₁ (mkF m 12 #[.val (.ref p0), .val (.int (2 : Int32)), .val (.ref p0), .val (.int (4 : Int32)), .val (.int (2 : Int32)), .val (.int (f 1)), .unset, .unset] [(.int (2 : Int32))])
      refine hp (fun tq kq => XS.iloadN X0.here hx rfl (hb hby d1_12) rfl kq) ?_
      show G s₁ (mkF m 13 #[.val (.ref p0), .val (.int (2 : Int32)), .val (.ref p0), .val (.int (4 : Int32)), .val (.int (2 : Int32)), .val (.int (f 1)), .unset, .unset] [(.int (4 : Int32)), (.int (2 : Int32))])
      refine hp (fun tq kq => XS.icmpNo X0.here hx rfl (hb hby d1_13) rfl (tlt (by decide)).2.1 kq) ?_
      show G s₁ (mkF m 16 #[.val (.ref p0), .val (.int (2 : Int32)), .val (.ref p0), .val (.int (4 : Int32)), .val (.int (2 : Int32)), .val (.int (f 1)), .unset, .unset] [])
      refine hp (fun tq kq => XS.aloadN X0.here hx rfl (hb hby d1_16) rfl rfl kq) ?_
      show G s₁ (mkF m 17 #[.val (.ref p0), .val (.int (2 : Int32)), .val (.ref p0), .val (.int (4 : Int32)), .val (.int (2 : Int32)), .val (.int (f 1)), .unset, .unset] [(.ref p0)])
      refine hp (fun tq kq => XS.iload X0.here hx rfl (hb hby d1_17) rfl kq) ?_
      show G s₁ (mkF m 19 #[.val (.ref p0), .val (.int (2 : Int32)), .val (.ref p0), .val (.int (4 : Int32)), .val (.int (2 : Int32)), .val (.int (f 1)), .unset, .unset] [(.int (2 : Int32)), (.ref p0)])
      refine hp (own_ldI X0 hx hZ e0 V_p0 (j := (2 : Int32)) 2 (by decide) (by decide) (by decide) (g := (mkF m 19 #[.val (.ref p0), .val (.int (2 : Int32)), .val (.ref p0), .val (.int (4 : Int32)), .val (.int (2 : Int32)), .val (.int (f 1)), .unset, .unset] [(.int (2 : Int32)), (.ref p0)])) rfl rfl (hb hby d1_19)) ?_
      show G s₁ (mkF m 20 #[.val (.ref p0), .val (.int (2 : Int32)), .val (.ref p0), .val (.int (4 : Int32)), .val (.int (2 : Int32)), .val (.int (f 1)), .unset, .unset] [(.int (f 2))])
      refine hp (fun tq kq => XS.istore X0.here hx rfl (hb hby d1_20) rfl (l' := #[.val (.ref p0), .val (.int (2 : Int32)), .val (.ref p0), .val (.int (4 : Int32)), .val (.int (2 : Int32)), .val (.int (f 2)), .unset, .unset]) rfl kq) ?_
      show G s₁ (mkF m 22 #[.val (.ref p0), .val (.int (2 : Int32)), .val (.ref p0), .val (.int (4 : Int32)), .val (.int (2 : Int32)), .val (.int (f 2)), .unset, .unset] [])
      refine hp (fun tq kq => XS.iload X0.here hx rfl (hb hby d1_22) rfl kq) ?_
      show G s₁ (mkF m 24 #[.val (.ref p0), .val (.int (2 : Int32)), .val (.ref p0), .val (.int (4 : Int32)), .val (.int (2 : Int32)), .val (.int (f 2)), .unset, .unset] [(.int (f 2))])
      refine hp (fun tq kq => XS.iconst X0.here hx rfl (hb hby d1_24) kq) ?_
      show G s₁ (mkF m 25 #[.val (.ref p0), .val (.int (2 : Int32)), .val (.ref p0), .val (.int (4 : Int32)), .val (.int (2 : Int32)), .val (.int (f 2)), .unset, .unset] [(.int (-1 : Int32)), (.int (f 2))])
      by_cases hb45 : (f 2) = (-1 : Int32)
      · refine hp (fun tq kq => XS.icmpYes X0.here hx rfl (pc0 := 25) (pc' := 31) rfl (hb hby d1_25) rfl (teq hb45).1 (by decide) (by decide) kq) ?_
        show G s₁ (mkF m 31 #[.val (.ref p0), .val (.int (2 : Int32)), .val (.ref p0), .val (.int (4 : Int32)), .val (.int (2 : Int32)), .val (.int (f 2)), .unset, .unset] [])
        refine hp (fun tq kq => XS.iinc X0.here hx rfl (hb hby d1_31) rfl (l' := #[.val (.ref p0), .val (.int (2 : Int32)), .val (.ref p0), .val (.int (4 : Int32)), .val (.int (3 : Int32)), .val (.int (f 2)), .unset, .unset]) rfl kq) ?_
        show G s₁ (mkF m 34 #[.val (.ref p0), .val (.int (2 : Int32)), .val (.ref p0), .val (.int (4 : Int32)), .val (.int (3 : Int32)), .val (.int (f 2)), .unset, .unset] [])
        refine hp (fun tq kq => XS.goto X0.here hx rfl (pc0 := 34) (pc' := 10) rfl (hb hby d1_34) (by decide) (by decide) kq) ?_
        show G s₁ (mkF m 10 #[.val (.ref p0), .val (.int (2 : Int32)), .val (.ref p0), .val (.int (4 : Int32)), .val (.int (3 : Int32)), .val (.int (f 2)), .unset, .unset] [])
        refine hp (fun tq kq => XS.iload X0.here hx rfl (hb hby d1_10) rfl kq) ?_
        show G s₁ (mkF m 12 #[.val (.ref p0), .val (.int (2 : Int32)), .val (.ref p0), .val (.int (4 : Int32)), .val (.int (3 : Int32)), .val (.int (f 2)), .unset, .unset] [(.int (3 : Int32))])
        refine hp (fun tq kq => XS.iloadN X0.here hx rfl (hb hby d1_12) rfl kq) ?_
        show G s₁ (mkF m 13 #[.val (.ref p0), .val (.int (2 : Int32)), .val (.ref p0), .val (.int (4 : Int32)), .val (.int (3 : Int32)), .val (.int (f 2)), .unset, .unset] [(.int (4 : Int32)), (.int (3 : Int32))])
        refine hp (fun tq kq => XS.icmpNo X0.here hx rfl (hb hby d1_13) rfl (tlt (by decide)).2.1 kq) ?_
        show G s₁ (mkF m 16 #[.val (.ref p0), .val (.int (2 : Int32)), .val (.ref p0), .val (.int (4 : Int32)), .val (.int (3 : Int32)), .val (.int (f 2)), .unset, .unset] [])
        refine hp (fun tq kq => XS.aloadN X0.here hx rfl (hb hby d1_16) rfl rfl kq) ?_
        show G s₁ (mkF m 17 #[.val (.ref p0), .val (.int (2 : Int32)), .val (.ref p0), .val (.int (4 : Int32)), .val (.int (3 : Int32)), .val (.int (f 2)), .unset, .unset] [(.ref p0)])
        refine hp (fun tq kq => XS.iload X0.here hx rfl (hb hby d1_17) rfl kq) ?_
        show G s₁ (mkF m 19 #[.val (.ref p0), .val (.int (2 : Int32)), .val (.ref p0), .val (.int (4 : Int32)), .val (.int (3 : Int32)), .val (.int (f 2)), .unset, .unset] [(.int (3 : Int32)), (.ref p0)])
        refine hp (own_ldI X0 hx hZ e0 V_p0 (j := (3 : Int32)) 3 (by decide) (by decide) (by decide) (g := (mkF m 19 #[.val (.ref p0), .val (.int (2 : Int32)), .val (.ref p0), .val (.int (4 : Int32)), .val (.int (3 : Int32)), .val (.int (f 2)), .unset, .unset] [(.int (3 : Int32)), (.ref p0)])) rfl rfl (hb hby d1_19)) ?_
        show G s₁ (mkF m 20 #[.val (.ref p0), .val (.int (2 : Int32)), .val (.ref p0), .val (.int (4 : Int32)), .val (.int (3 : Int32)), .val (.int (f 2)), .unset, .unset] [(.int (f 3))])
        refine hp (fun tq kq => XS.istore X0.here hx rfl (hb hby d1_20) rfl (l' := #[.val (.ref p0), .val (.int (2 : Int32)), .val (.ref p0), .val (.int (4 : Int32)), .val (.int (3 : Int32)), .val (.int (f 3)), .unset, .unset]) rfl kq) ?_
        show G s₁ (mkF m 22 #[.val (.ref p0), .val (.int (2 : Int32)), .val (.ref p0), .val (.int (4 : Int32)), .val (.int (3 : Int32)), .val (.int (f 3)), .unset, .unset] [])
        refine hp (fun tq kq => XS.iload X0.here hx rfl (hb hby d1_22) rfl kq) ?_
        show G s₁ (mkF m 24 #[.val (.ref p0), .val (.int (2 : Int32)), .val (.ref p0), .val (.int (4 : Int32)), .val (.int (3 : Int32)), .val (.int (f 3)), .unset, .unset] [(.int (f 3))])
        refine hp (fun tq kq => XS.iconst X0.here hx rfl (hb hby d1_24) kq) ?_
        show G s₁ (mkF m 25 #[.val (.ref p0), .val (.int (2 : Int32)), .val (.ref p0), .val (.int (4 : Int32)), .val (.int (3 : Int32)), .val (.int (f 3)), .unset, .unset] [(.int (-1 : Int32)), (.int (f 3))])
        by_cases hb46 : (f 3) = (-1 : Int32)
        · refine hp (fun tq kq => XS.icmpYes X0.here hx rfl (pc0 := 25) (pc' := 31) rfl (hb hby d1_25) rfl (teq hb46).1 (by decide) (by decide) kq) ?_
          show G s₁ (mkF m 31 #[.val (.ref p0), .val (.int (2 : Int32)), .val (.ref p0), .val (.int (4 : Int32)), .val (.int (3 : Int32)), .val (.int (f 3)), .unset, .unset] [])
          refine hp (fun tq kq => XS.iinc X0.here hx rfl (hb hby d1_31) rfl (l' := #[.val (.ref p0), .val (.int (2 : Int32)), .val (.ref p0), .val (.int (4 : Int32)), .val (.int (4 : Int32)), .val (.int (f 3)), .unset, .unset]) rfl kq) ?_
          show G s₁ (mkF m 34 #[.val (.ref p0), .val (.int (2 : Int32)), .val (.ref p0), .val (.int (4 : Int32)), .val (.int (4 : Int32)), .val (.int (f 3)), .unset, .unset] [])
          refine hp (fun tq kq => XS.goto X0.here hx rfl (pc0 := 34) (pc' := 10) rfl (hb hby d1_34) (by decide) (by decide) kq) ?_
          show G s₁ (mkF m 10 #[.val (.ref p0), .val (.int (2 : Int32)), .val (.ref p0), .val (.int (4 : Int32)), .val (.int (4 : Int32)), .val (.int (f 3)), .unset, .unset] [])
          refine hp (fun tq kq => XS.iload X0.here hx rfl (hb hby d1_10) rfl kq) ?_
          show G s₁ (mkF m 12 #[.val (.ref p0), .val (.int (2 : Int32)), .val (.ref p0), .val (.int (4 : Int32)), .val (.int (4 : Int32)), .val (.int (f 3)), .unset, .unset] [(.int (4 : Int32))])
          refine hp (fun tq kq => XS.iloadN X0.here hx rfl (hb hby d1_12) rfl kq) ?_
          show G s₁ (mkF m 13 #[.val (.ref p0), .val (.int (2 : Int32)), .val (.ref p0), .val (.int (4 : Int32)), .val (.int (4 : Int32)), .val (.int (f 3)), .unset, .unset] [(.int (4 : Int32)), (.int (4 : Int32))])
          refine hp (fun tq kq => XS.icmpYes X0.here hx rfl (pc0 := 13) (pc' := 37) rfl (hb hby d1_13) rfl (flt (by decide)).2.1 (by decide) (by decide) kq) ?_
          show G s₁ (mkF m 37 #[.val (.ref p0), .val (.int (2 : Int32)), .val (.ref p0), .val (.int (4 : Int32)), .val (.int (4 : Int32)), .val (.int (f 3)), .unset, .unset] [])
          refine hp (fun tq kq => XS.iloadN X0.here hx rfl (hb hby d1_37) rfl kq) ?_
          show G s₁ (mkF m 38 #[.val (.ref p0), .val (.int (2 : Int32)), .val (.ref p0), .val (.int (4 : Int32)), .val (.int (4 : Int32)), .val (.int (f 3)), .unset, .unset] [(.int (2 : Int32))])
          obtain ⟨T47, h47, k47, X47, e47, E47, A47, st47⟩ := newP X0 hx hZ (hw _ (List.mem_of_getElem? (i := 1) rfl)) e0 (g := (mkF m 38 #[.val (.ref p0), .val (.int (2 : Int32)), .val (.ref p0), .val (.int (4 : Int32)), .val (.int (4 : Int32)), .val (.int (f 3)), .unset, .unset] [(.int (2 : Int32))])) rfl (hb hby d1_38) rfl (by decide) (cap := 2) (by decide) (by decide) (by decide) (by decide)
          obtain ⟨b47, g47⟩ : ∃ z, z = h0.size := ⟨_, rfl⟩
          rw [← g47] at A47 st47
          have ne47_p0 : p0 ≠ b47 := Nat.ne_of_lt (Nat.lt_of_lt_of_le V_p0.lt (Nat.le_of_eq g47.symm))
          have sz_b47 : h0.size ≤ b47 := Nat.le_trans K0.1 (Nat.le_of_eq g47.symm)
          have g_b47 : n0 ≤ b47 := Nat.le_trans Z0 sz_b47
          have V47_p0 := V_p0.ext E47
          have K47 := K0.ext E47
          have V47_b47 : own_AI Z h47 b47 .int 2 (fun _ => 0) := own_AI.new A47 (by decide) rfl 2 (by decide)
          refine hp st47 ?_
          show G T47 (mkF m 40 #[.val (.ref p0), .val (.int (2 : Int32)), .val (.ref p0), .val (.int (4 : Int32)), .val (.int (4 : Int32)), .val (.int (f 3)), .unset, .unset] [(.ref b47)])
          refine hp (fun tq kq => XS.astoreN X47.here hx rfl (hb hby d1_40) rfl rfl (l' := #[.val (.ref p0), .val (.int (2 : Int32)), .val (.ref b47), .val (.int (4 : Int32)), .val (.int (4 : Int32)), .val (.int (f 3)), .unset, .unset]) rfl kq) ?_
          show G T47 (mkF m 41 #[.val (.ref p0), .val (.int (2 : Int32)), .val (.ref b47), .val (.int (4 : Int32)), .val (.int (4 : Int32)), .val (.int (f 3)), .unset, .unset] [])
          refine hp (fun tq kq => XS.iconst X47.here hx rfl (hb hby d1_41) kq) ?_
          show G T47 (mkF m 42 #[.val (.ref p0), .val (.int (2 : Int32)), .val (.ref b47), .val (.int (4 : Int32)), .val (.int (4 : Int32)), .val (.int (f 3)), .unset, .unset] [(.int (0 : Int32))])
          refine hp (fun tq kq => XS.istoreN X47.here hx rfl (hb hby d1_42) rfl (l' := #[.val (.ref p0), .val (.int (2 : Int32)), .val (.ref b47), .val (.int (0 : Int32)), .val (.int (4 : Int32)), .val (.int (f 3)), .unset, .unset]) rfl kq) ?_
          show G T47 (mkF m 43 #[.val (.ref p0), .val (.int (2 : Int32)), .val (.ref b47), .val (.int (0 : Int32)), .val (.int (4 : Int32)), .val (.int (f 3)), .unset, .unset] [])
          refine hp (fun tq kq => XS.aloadN X47.here hx rfl (hb hby d1_43) rfl rfl kq) ?_
          show G T47 (mkF m 44 #[.val (.ref p0), .val (.int (2 : Int32)), .val (.ref b47), .val (.int (0 : Int32)), .val (.int (4 : Int32)), .val (.int (f 3)), .unset, .unset] [(.ref p0)])
          refine hp (fun tq kq => XS.astore X47.here hx rfl (hb hby d1_44) rfl rfl (l' := #[.val (.ref p0), .val (.int (2 : Int32)), .val (.ref b47), .val (.int (0 : Int32)), .val (.ref p0), .val (.int (f 3)), .unset, .unset]) rfl kq) ?_
          show G T47 (mkF m 46 #[.val (.ref p0), .val (.int (2 : Int32)), .val (.ref b47), .val (.int (0 : Int32)), .val (.ref p0), .val (.int (f 3)), .unset, .unset] [])
          refine hp (fun tq kq => XS.aload X47.here hx rfl (hb hby d1_46) rfl rfl kq) ?_
          show G T47 (mkF m 48 #[.val (.ref p0), .val (.int (2 : Int32)), .val (.ref b47), .val (.int (0 : Int32)), .val (.ref p0), .val (.int (f 3)), .unset, .unset] [(.ref p0)])
          refine hp (own_lenI X47 hx hZ e47 V47_p0 (4 : Int32) rfl (g := (mkF m 48 #[.val (.ref p0), .val (.int (2 : Int32)), .val (.ref b47), .val (.int (0 : Int32)), .val (.ref p0), .val (.int (f 3)), .unset, .unset] [(.ref p0)])) rfl rfl (hb hby d1_48)) ?_
          show G T47 (mkF m 49 #[.val (.ref p0), .val (.int (2 : Int32)), .val (.ref b47), .val (.int (0 : Int32)), .val (.ref p0), .val (.int (f 3)), .unset, .unset] [(.int (4 : Int32))])
          refine hp (fun tq kq => XS.istore X47.here hx rfl (hb hby d1_49) rfl (l' := #[.val (.ref p0), .val (.int (2 : Int32)), .val (.ref b47), .val (.int (0 : Int32)), .val (.ref p0), .val (.int (4 : Int32)), .unset, .unset]) rfl kq) ?_
          show G T47 (mkF m 51 #[.val (.ref p0), .val (.int (2 : Int32)), .val (.ref b47), .val (.int (0 : Int32)), .val (.ref p0), .val (.int (4 : Int32)), .unset, .unset] [])
          refine hp (fun tq kq => XS.iconst X47.here hx rfl (hb hby d1_51) kq) ?_
          show G T47 (mkF m 52 #[.val (.ref p0), .val (.int (2 : Int32)), .val (.ref b47), .val (.int (0 : Int32)), .val (.ref p0), .val (.int (4 : Int32)), .unset, .unset] [(.int (0 : Int32))])
          refine hp (fun tq kq => XS.istore X47.here hx rfl (hb hby d1_52) rfl (l' := #[.val (.ref p0), .val (.int (2 : Int32)), .val (.ref b47), .val (.int (0 : Int32)), .val (.ref p0), .val (.int (4 : Int32)), .val (.int (0 : Int32)), .unset]) rfl kq) ?_
          show G T47 (mkF m 54 #[.val (.ref p0), .val (.int (2 : Int32)), .val (.ref b47), .val (.int (0 : Int32)), .val (.ref p0), .val (.int (4 : Int32)), .val (.int (0 : Int32)), .unset] [])
          refine hp (fun tq kq => XS.iload X47.here hx rfl (hb hby d1_54) rfl kq) ?_
          show G T47 (mkF m 56 #[.val (.ref p0), .val (.int (2 : Int32)), .val (.ref b47), .val (.int (0 : Int32)), .val (.ref p0), .val (.int (4 : Int32)), .val (.int (0 : Int32)), .unset] [(.int (0 : Int32))])
          refine hp (fun tq kq => XS.iload X47.here hx rfl (hb hby d1_56) rfl kq) ?_
          show G T47 (mkF m 58 #[.val (.ref p0), .val (.int (2 : Int32)), .val (.ref b47), .val (.int (0 : Int32)), .val (.ref p0), .val (.int (4 : Int32)), .val (.int (0 : Int32)), .unset] [(.int (4 : Int32)), (.int (0 : Int32))])
          refine hp (fun tq kq => XS.icmpNo X47.here hx rfl (hb hby d1_58) rfl (tlt (by decide)).2.1 kq) ?_
          show G T47 (mkF m 61 #[.val (.ref p0), .val (.int (2 : Int32)), .val (.ref b47), .val (.int (0 : Int32)), .val (.ref p0), .val (.int (4 : Int32)), .val (.int (0 : Int32)), .unset] [])
          refine hp (fun tq kq => XS.aload X47.here hx rfl (hb hby d1_61) rfl rfl kq) ?_
          show G T47 (mkF m 63 #[.val (.ref p0), .val (.int (2 : Int32)), .val (.ref b47), .val (.int (0 : Int32)), .val (.ref p0), .val (.int (4 : Int32)), .val (.int (0 : Int32)), .unset] [(.ref p0)])
          refine hp (fun tq kq => XS.iload X47.here hx rfl (hb hby d1_63) rfl kq) ?_
          show G T47 (mkF m 65 #[.val (.ref p0), .val (.int (2 : Int32)), .val (.ref b47), .val (.int (0 : Int32)), .val (.ref p0), .val (.int (4 : Int32)), .val (.int (0 : Int32)), .unset] [(.int (0 : Int32)), (.ref p0)])
          refine hp (own_ldI X47 hx hZ e47 V47_p0 (j := (0 : Int32)) 0 (by decide) (by decide) (by decide) (g := (mkF m 65 #[.val (.ref p0), .val (.int (2 : Int32)), .val (.ref b47), .val (.int (0 : Int32)), .val (.ref p0), .val (.int (4 : Int32)), .val (.int (0 : Int32)), .unset] [(.int (0 : Int32)), (.ref p0)])) rfl rfl (hb hby d1_65)) ?_
          show G T47 (mkF m 66 #[.val (.ref p0), .val (.int (2 : Int32)), .val (.ref b47), .val (.int (0 : Int32)), .val (.ref p0), .val (.int (4 : Int32)), .val (.int (0 : Int32)), .unset] [(.int (f 0))])
          refine hp (fun tq kq => XS.istore X47.here hx rfl (hb hby d1_66) rfl (l' := #[.val (.ref p0), .val (.int (2 : Int32)), .val (.ref b47), .val (.int (0 : Int32)), .val (.ref p0), .val (.int (4 : Int32)), .val (.int (0 : Int32)), .val (.int (f 0))]) rfl kq) ?_
          show G T47 (mkF m 68 #[.val (.ref p0), .val (.int (2 : Int32)), .val (.ref b47), .val (.int (0 : Int32)), .val (.ref p0), .val (.int (4 : Int32)), .val (.int (0 : Int32)), .val (.int (f 0))] [])
          refine hp (fun tq kq => XS.iload X47.here hx rfl (hb hby d1_68) rfl kq) ?_
          show G T47 (mkF m 70 #[.val (.ref p0), .val (.int (2 : Int32)), .val (.ref b47), .val (.int (0 : Int32)), .val (.ref p0), .val (.int (4 : Int32)), .val (.int (0 : Int32)), .val (.int (f 0))] [(.int (f 0))])
          refine hp (fun tq kq => XS.iconst X47.here hx rfl (hb hby d1_70) kq) ?_
          show G T47 (mkF m 71 #[.val (.ref p0), .val (.int (2 : Int32)), .val (.ref b47), .val (.int (0 : Int32)), .val (.ref p0), .val (.int (4 : Int32)), .val (.int (0 : Int32)), .val (.int (f 0))] [(.int (-1 : Int32)), (.int (f 0))])
          refine hp (fun tq kq => XS.icmpNo X47.here hx rfl (hb hby d1_71) rfl (feq hb1).1 kq) ?_
          show G T47 (mkF m 74 #[.val (.ref p0), .val (.int (2 : Int32)), .val (.ref b47), .val (.int (0 : Int32)), .val (.ref p0), .val (.int (4 : Int32)), .val (.int (0 : Int32)), .val (.int (f 0))] [])
          refine hp (fun tq kq => XS.aloadN X47.here hx rfl (hb hby d1_74) rfl rfl kq) ?_
          show G T47 (mkF m 75 #[.val (.ref p0), .val (.int (2 : Int32)), .val (.ref b47), .val (.int (0 : Int32)), .val (.ref p0), .val (.int (4 : Int32)), .val (.int (0 : Int32)), .val (.int (f 0))] [(.ref b47)])
          refine hp (fun tq kq => XS.iloadN X47.here hx rfl (hb hby d1_75) rfl kq) ?_
          show G T47 (mkF m 76 #[.val (.ref p0), .val (.int (2 : Int32)), .val (.ref b47), .val (.int (0 : Int32)), .val (.ref p0), .val (.int (4 : Int32)), .val (.int (0 : Int32)), .val (.int (f 0))] [(.int (0 : Int32)), (.ref b47)])
          refine hp (fun tq kq => XS.iload X47.here hx rfl (hb hby d1_76) rfl kq) ?_
          show G T47 (mkF m 78 #[.val (.ref p0), .val (.int (2 : Int32)), .val (.ref b47), .val (.int (0 : Int32)), .val (.ref p0), .val (.int (4 : Int32)), .val (.int (0 : Int32)), .val (.int (f 0))] [(.int (f 0)), (.int (0 : Int32)), (.ref b47)])
          obtain ⟨T48, h48, X48, e48, W48, V48_b47, st48⟩ := own_stI X47 hx hZ e47 V47_b47 (j := (0 : Int32)) 0 (by decide) (by decide) (by decide) (g := (mkF m 78 #[.val (.ref p0), .val (.int (2 : Int32)), .val (.ref b47), .val (.int (0 : Int32)), .val (.ref p0), .val (.int (4 : Int32)), .val (.int (0 : Int32)), .val (.int (f 0))] [(.int (f 0)), (.int (0 : Int32)), (.ref b47)])) rfl rfl (hb hby d1_78)
          have V48_p0 := V47_p0.other W48 ne47_p0
          have K48 := K47.wr W48 (Or.inr sz_b47)
          have N48 := Fr.snoc X48 N0 g_b47
          refine hp st48 ?_
          show G T48 (mkF m 79 #[.val (.ref p0), .val (.int (2 : Int32)), .val (.ref b47), .val (.int (0 : Int32)), .val (.ref p0), .val (.int (4 : Int32)), .val (.int (0 : Int32)), .val (.int (f 0))] [])
          refine hp (fun tq kq => XS.iinc X48.here hx rfl (hb hby d1_79) rfl (l' := #[.val (.ref p0), .val (.int (2 : Int32)), .val (.ref b47), .val (.int (1 : Int32)), .val (.ref p0), .val (.int (4 : Int32)), .val (.int (0 : Int32)), .val (.int (f 0))]) rfl kq) ?_
          show G T48 (mkF m 82 #[.val (.ref p0), .val (.int (2 : Int32)), .val (.ref b47), .val (.int (1 : Int32)), .val (.ref p0), .val (.int (4 : Int32)), .val (.int (0 : Int32)), .val (.int (f 0))] [])
          refine hp (fun tq kq => XS.iinc X48.here hx rfl (hb hby d1_82) rfl (l' := #[.val (.ref p0), .val (.int (2 : Int32)), .val (.ref b47), .val (.int (1 : Int32)), .val (.ref p0), .val (.int (4 : Int32)), .val (.int (1 : Int32)), .val (.int (f 0))]) rfl kq) ?_
          show G T48 (mkF m 85 #[.val (.ref p0), .val (.int (2 : Int32)), .val (.ref b47), .val (.int (1 : Int32)), .val (.ref p0), .val (.int (4 : Int32)), .val (.int (1 : Int32)), .val (.int (f 0))] [])
          refine hp (fun tq kq => XS.goto X48.here hx rfl (pc0 := 85) (pc' := 54) rfl (hb hby d1_85) (by decide) (by decide) kq) ?_
          show G T48 (mkF m 54 #[.val (.ref p0), .val (.int (2 : Int32)), .val (.ref b47), .val (.int (1 : Int32)), .val (.ref p0), .val (.int (4 : Int32)), .val (.int (1 : Int32)), .val (.int (f 0))] [])
          refine hp (fun tq kq => XS.iload X48.here hx rfl (hb hby d1_54) rfl kq) ?_
          show G T48 (mkF m 56 #[.val (.ref p0), .val (.int (2 : Int32)), .val (.ref b47), .val (.int (1 : Int32)), .val (.ref p0), .val (.int (4 : Int32)), .val (.int (1 : Int32)), .val (.int (f 0))] [(.int (1 : Int32))])
          refine hp (fun tq kq => XS.iload X48.here hx rfl (hb hby d1_56) rfl kq) ?_
          show G T48 (mkF m 58 #[.val (.ref p0), .val (.int (2 : Int32)), .val (.ref b47), .val (.int (1 : Int32)), .val (.ref p0), .val (.int (4 : Int32)), .val (.int (1 : Int32)), .val (.int (f 0))] [(.int (4 : Int32)), (.int (1 : Int32))])
          refine hp (fun tq kq => XS.icmpNo X48.here hx rfl (hb hby d1_58) rfl (tlt (by decide)).2.1 kq) ?_
          show G T48 (mkF m 61 #[.val (.ref p0), .val (.int (2 : Int32)), .val (.ref b47), .val (.int (1 : Int32)), .val (.ref p0), .val (.int (4 : Int32)), .val (.int (1 : Int32)), .val (.int (f 0))] [])
          refine hp (fun tq kq => XS.aload X48.here hx rfl (hb hby d1_61) rfl rfl kq) ?_
          show G T48 (mkF m 63 #[.val (.ref p0), .val (.int (2 : Int32)), .val (.ref b47), .val (.int (1 : Int32)), .val (.ref p0), .val (.int (4 : Int32)), .val (.int (1 : Int32)), .val (.int (f 0))] [(.ref p0)])
          refine hp (fun tq kq => XS.iload X48.here hx rfl (hb hby d1_63) rfl kq) ?_
          show G T48 (mkF m 65 #[.val (.ref p0), .val (.int (2 : Int32)), .val (.ref b47), .val (.int (1 : Int32)), .val (.ref p0), .val (.int (4 : Int32)), .val (.int (1 : Int32)), .val (.int (f 0))] [(.int (1 : Int32)), (.ref p0)])
          refine hp (own_ldI X48 hx hZ e48 V48_p0 (j := (1 : Int32)) 1 (by decide) (by decide) (by decide) (g := (mkF m 65 #[.val (.ref p0), .val (.int (2 : Int32)), .val (.ref b47), .val (.int (1 : Int32)), .val (.ref p0), .val (.int (4 : Int32)), .val (.int (1 : Int32)), .val (.int (f 0))] [(.int (1 : Int32)), (.ref p0)])) rfl rfl (hb hby d1_65)) ?_
          show G T48 (mkF m 66 #[.val (.ref p0), .val (.int (2 : Int32)), .val (.ref b47), .val (.int (1 : Int32)), .val (.ref p0), .val (.int (4 : Int32)), .val (.int (1 : Int32)), .val (.int (f 0))] [(.int (f 1))])
          refine hp (fun tq kq => XS.istore X48.here hx rfl (hb hby d1_66) rfl (l' := #[.val (.ref p0), .val (.int (2 : Int32)), .val (.ref b47), .val (.int (1 : Int32)), .val (.ref p0), .val (.int (4 : Int32)), .val (.int (1 : Int32)), .val (.int (f 1))]) rfl kq) ?_
          show G T48 (mkF m 68 #[.val (.ref p0), .val (.int (2 : Int32)), .val (.ref b47), .val (.int (1 : Int32)), .val (.ref p0), .val (.int (4 : Int32)), .val (.int (1 : Int32)), .val (.int (f 1))] [])
          refine hp (fun tq kq => XS.iload X48.here hx rfl (hb hby d1_68) rfl kq) ?_
          show G T48 (mkF m 70 #[.val (.ref p0), .val (.int (2 : Int32)), .val (.ref b47), .val (.int (1 : Int32)), .val (.ref p0), .val (.int (4 : Int32)), .val (.int (1 : Int32)), .val (.int (f 1))] [(.int (f 1))])
          refine hp (fun tq kq => XS.iconst X48.here hx rfl (hb hby d1_70) kq) ?_
          show G T48 (mkF m 71 #[.val (.ref p0), .val (.int (2 : Int32)), .val (.ref b47), .val (.int (1 : Int32)), .val (.ref p0), .val (.int (4 : Int32)), .val (.int (1 : Int32)), .val (.int (f 1))] [(.int (-1 : Int32)), (.int (f 1))])
          refine hp (fun tq kq => XS.icmpNo X48.here hx rfl (hb hby d1_71) rfl (feq hb29).1 kq) ?_
          show G T48 (mkF m 74 #[.val (.ref p0), .val (.int (2 : Int32)), .val (.ref b47), .val (.int (1 : Int32)), .val (.ref p0), .val (.int (4 : Int32)), .val (.int (1 : Int32)), .val (.int (f 1))] [])
          refine hp (fun tq kq => XS.aloadN X48.here hx rfl (hb hby d1_74) rfl rfl kq) ?_
          show G T48 (mkF m 75 #[.val (.ref p0), .val (.int (2 : Int32)), .val (.ref b47), .val (.int (1 : Int32)), .val (.ref p0), .val (.int (4 : Int32)), .val (.int (1 : Int32)), .val (.int (f 1))] [(.ref b47)])
          refine hp (fun tq kq => XS.iloadN X48.here hx rfl (hb hby d1_75) rfl kq) ?_
          show G T48 (mkF m 76 #[.val (.ref p0), .val (.int (2 : Int32)), .val (.ref b47), .val (.int (1 : Int32)), .val (.ref p0), .val (.int (4 : Int32)), .val (.int (1 : Int32)), .val (.int (f 1))] [(.int (1 : Int32)), (.ref b47)])
          refine hp (fun tq kq => XS.iload X48.here hx rfl (hb hby d1_76) rfl kq) ?_
          show G T48 (mkF m 78 #[.val (.ref p0), .val (.int (2 : Int32)), .val (.ref b47), .val (.int (1 : Int32)), .val (.ref p0), .val (.int (4 : Int32)), .val (.int (1 : Int32)), .val (.int (f 1))] [(.int (f 1)), (.int (1 : Int32)), (.ref b47)])
          obtain ⟨T49, h49, X49, e49, W49, V49_b47, st49⟩ := own_stI X48 hx hZ e48 V48_b47 (j := (1 : Int32)) 1 (by decide) (by decide) (by decide) (g := (mkF m 78 #[.val (.ref p0), .val (.int (2 : Int32)), .val (.ref b47), .val (.int (1 : Int32)), .val (.ref p0), .val (.int (4 : Int32)), .val (.int (1 : Int32)), .val (.int (f 1))] [(.int (f 1)), (.int (1 : Int32)), (.ref b47)])) rfl rfl (hb hby d1_78)
          have V49_p0 := V48_p0.other W49 ne47_p0
          have K49 := K48.wr W49 (Or.inr sz_b47)
          have N49 := Fr.snoc X49 N48 g_b47
          refine hp st49 ?_
          show G T49 (mkF m 79 #[.val (.ref p0), .val (.int (2 : Int32)), .val (.ref b47), .val (.int (1 : Int32)), .val (.ref p0), .val (.int (4 : Int32)), .val (.int (1 : Int32)), .val (.int (f 1))] [])
          refine hp (fun tq kq => XS.iinc X49.here hx rfl (hb hby d1_79) rfl (l' := #[.val (.ref p0), .val (.int (2 : Int32)), .val (.ref b47), .val (.int (2 : Int32)), .val (.ref p0), .val (.int (4 : Int32)), .val (.int (1 : Int32)), .val (.int (f 1))]) rfl kq) ?_
          show G T49 (mkF m 82 #[.val (.ref p0), .val (.int (2 : Int32)), .val (.ref b47), .val (.int (2 : Int32)), .val (.ref p0), .val (.int (4 : Int32)), .val (.int (1 : Int32)), .val (.int (f 1))] [])
          refine hp (fun tq kq => XS.iinc X49.here hx rfl (hb hby d1_82) rfl (l' := #[.val (.ref p0), .val (.int (2 : Int32)), .val (.ref b47), .val (.int (2 : Int32)), .val (.ref p0), .val (.int (4 : Int32)), .val (.int (2 : Int32)), .val (.int (f 1))]) rfl kq) ?_
          show G T49 (mkF m 85 #[.val (.ref p0), .val (.int (2 : Int32)), .val (.ref b47), .val (.int (2 : Int32)), .val (.ref p0), .val (.int (4 : Int32)), .val (.int (2 : Int32)), .val (.int (f 1))] [])
          refine hp (fun tq kq => XS.goto X49.here hx rfl (pc0 := 85) (pc' := 54) rfl (hb hby d1_85) (by decide) (by decide) kq) ?_
          show G T49 (mkF m 54 #[.val (.ref p0), .val (.int (2 : Int32)), .val (.ref b47), .val (.int (2 : Int32)), .val (.ref p0), .val (.int (4 : Int32)), .val (.int (2 : Int32)), .val (.int (f 1))] [])
          refine hp (fun tq kq => XS.iload X49.here hx rfl (hb hby d1_54) rfl kq) ?_
          show G T49 (mkF m 56 #[.val (.ref p0), .val (.int (2 : Int32)), .val (.ref b47), .val (.int (2 : Int32)), .val (.ref p0), .val (.int (4 : Int32)), .val (.int (2 : Int32)), .val (.int (f 1))] [(.int (2 : Int32))])
          refine hp (fun tq kq => XS.iload X49.here hx rfl (hb hby d1_56) rfl kq) ?_
          show G T49 (mkF m 58 #[.val (.ref p0), .val (.int (2 : Int32)), .val (.ref b47), .val (.int (2 : Int32)), .val (.ref p0), .val (.int (4 : Int32)), .val (.int (2 : Int32)), .val (.int (f 1))] [(.int (4 : Int32)), (.int (2 : Int32))])
          refine hp (fun tq kq => XS.icmpNo X49.here hx rfl (hb hby d1_58) rfl (tlt (by decide)).2.1 kq) ?_
          show G T49 (mkF m 61 #[.val (.ref p0), .val (.int (2 : Int32)), .val (.ref b47), .val (.int (2 : Int32)), .val (.ref p0), .val (.int (4 : Int32)), .val (.int (2 : Int32)), .val (.int (f 1))] [])
          refine hp (fun tq kq => XS.aload X49.here hx rfl (hb hby d1_61) rfl rfl kq) ?_
          show G T49 (mkF m 63 #[.val (.ref p0), .val (.int (2 : Int32)), .val (.ref b47), .val (.int (2 : Int32)), .val (.ref p0), .val (.int (4 : Int32)), .val (.int (2 : Int32)), .val (.int (f 1))] [(.ref p0)])
          refine hp (fun tq kq => XS.iload X49.here hx rfl (hb hby d1_63) rfl kq) ?_
          show G T49 (mkF m 65 #[.val (.ref p0), .val (.int (2 : Int32)), .val (.ref b47), .val (.int (2 : Int32)), .val (.ref p0), .val (.int (4 : Int32)), .val (.int (2 : Int32)), .val (.int (f 1))] [(.int (2 : Int32)), (.ref p0)])
          refine hp (own_ldI X49 hx hZ e49 V49_p0 (j := (2 : Int32)) 2 (by decide) (by decide) (by decide) (g := (mkF m 65 #[.val (.ref p0), .val (.int (2 : Int32)), .val (.ref b47), .val (.int (2 : Int32)), .val (.ref p0), .val (.int (4 : Int32)), .val (.int (2 : Int32)), .val (.int (f 1))] [(.int (2 : Int32)), (.ref p0)])) rfl rfl (hb hby d1_65)) ?_
          show G T49 (mkF m 66 #[.val (.ref p0), .val (.int (2 : Int32)), .val (.ref b47), .val (.int (2 : Int32)), .val (.ref p0), .val (.int (4 : Int32)), .val (.int (2 : Int32)), .val (.int (f 1))] [(.int (f 2))])
          refine hp (fun tq kq => XS.istore X49.here hx rfl (hb hby d1_66) rfl (l' := #[.val (.ref p0), .val (.int (2 : Int32)), .val (.ref b47), .val (.int (2 : Int32)), .val (.ref p0), .val (.int (4 : Int32)), .val (.int (2 : Int32)), .val (.int (f 2))]) rfl kq) ?_
          show G T49 (mkF m 68 #[.val (.ref p0), .val (.int (2 : Int32)), .val (.ref b47), .val (.int (2 : Int32)), .val (.ref p0), .val (.int (4 : Int32)), .val (.int (2 : Int32)), .val (.int (f 2))] [])
          refine hp (fun tq kq => XS.iload X49.here hx rfl (hb hby d1_68) rfl kq) ?_
          show G T49 (mkF m 70 #[.val (.ref p0), .val (.int (2 : Int32)), .val (.ref b47), .val (.int (2 : Int32)), .val (.ref p0), .val (.int (4 : Int32)), .val (.int (2 : Int32)), .val (.int (f 2))] [(.int (f 2))])
          refine hp (fun tq kq => XS.iconst X49.here hx rfl (hb hby d1_70) kq) ?_
          show G T49 (mkF m 71 #[.val (.ref p0), .val (.int (2 : Int32)), .val (.ref b47), .val (.int (2 : Int32)), .val (.ref p0), .val (.int (4 : Int32)), .val (.int (2 : Int32)), .val (.int (f 2))] [(.int (-1 : Int32)), (.int (f 2))])
          refine hp (fun tq kq => XS.icmpYes X49.here hx rfl (pc0 := 71) (pc' := 82) rfl (hb hby d1_71) rfl (teq hb45).1 (by decide) (by decide) kq) ?_
          show G T49 (mkF m 82 #[.val (.ref p0), .val (.int (2 : Int32)), .val (.ref b47), .val (.int (2 : Int32)), .val (.ref p0), .val (.int (4 : Int32)), .val (.int (2 : Int32)), .val (.int (f 2))] [])
          refine hp (fun tq kq => XS.iinc X49.here hx rfl (hb hby d1_82) rfl (l' := #[.val (.ref p0), .val (.int (2 : Int32)), .val (.ref b47), .val (.int (2 : Int32)), .val (.ref p0), .val (.int (4 : Int32)), .val (.int (3 : Int32)), .val (.int (f 2))]) rfl kq) ?_
          show G T49 (mkF m 85 #[.val (.ref p0), .val (.int (2 : Int32)), .val (.ref b47), .val (.int (2 : Int32)), .val (.ref p0), .val (.int (4 : Int32)), .val (.int (3 : Int32)), .val (.int (f 2))] [])
          refine hp (fun tq kq => XS.goto X49.here hx rfl (pc0 := 85) (pc' := 54) rfl (hb hby d1_85) (by decide) (by decide) kq) ?_
          show G T49 (mkF m 54 #[.val (.ref p0), .val (.int (2 : Int32)), .val (.ref b47), .val (.int (2 : Int32)), .val (.ref p0), .val (.int (4 : Int32)), .val (.int (3 : Int32)), .val (.int (f 2))] [])
          refine hp (fun tq kq => XS.iload X49.here hx rfl (hb hby d1_54) rfl kq) ?_
          show G T49 (mkF m 56 #[.val (.ref p0), .val (.int (2 : Int32)), .val (.ref b47), .val (.int (2 : Int32)), .val (.ref p0), .val (.int (4 : Int32)), .val (.int (3 : Int32)), .val (.int (f 2))] [(.int (3 : Int32))])
          refine hp (fun tq kq => XS.iload X49.here hx rfl (hb hby d1_56) rfl kq) ?_
          show G T49 (mkF m 58 #[.val (.ref p0), .val (.int (2 : Int32)), .val (.ref b47), .val (.int (2 : Int32)), .val (.ref p0), .val (.int (4 : Int32)), .val (.int (3 : Int32)), .val (.int (f 2))] [(.int (4 : Int32)), (.int (3 : Int32))])
          refine hp (fun tq kq => XS.icmpNo X49.here hx rfl (hb hby d1_58) rfl (tlt (by decide)).2.1 kq) ?_
          show G T49 (mkF m 61 #[.val (.ref p0), .val (.int (2 : Int32)), .val (.ref b47), .val (.int (2 : Int32)), .val (.ref p0), .val (.int (4 : Int32)), .val (.int (3 : Int32)), .val (.int (f 2))] [])
          refine hp (fun tq kq => XS.aload X49.here hx rfl (hb hby d1_61) rfl rfl kq) ?_
          show G T49 (mkF m 63 #[.val (.ref p0), .val (.int (2 : Int32)), .val (.ref b47), .val (.int (2 : Int32)), .val (.ref p0), .val (.int (4 : Int32)), .val (.int (3 : Int32)), .val (.int (f 2))] [(.ref p0)])
          refine hp (fun tq kq => XS.iload X49.here hx rfl (hb hby d1_63) rfl kq) ?_
          show G T49 (mkF m 65 #[.val (.ref p0), .val (.int (2 : Int32)), .val (.ref b47), .val (.int (2 : Int32)), .val (.ref p0), .val (.int (4 : Int32)), .val (.int (3 : Int32)), .val (.int (f 2))] [(.int (3 : Int32)), (.ref p0)])
          refine hp (own_ldI X49 hx hZ e49 V49_p0 (j := (3 : Int32)) 3 (by decide) (by decide) (by decide) (g := (mkF m 65 #[.val (.ref p0), .val (.int (2 : Int32)), .val (.ref b47), .val (.int (2 : Int32)), .val (.ref p0), .val (.int (4 : Int32)), .val (.int (3 : Int32)), .val (.int (f 2))] [(.int (3 : Int32)), (.ref p0)])) rfl rfl (hb hby d1_65)) ?_
          show G T49 (mkF m 66 #[.val (.ref p0), .val (.int (2 : Int32)), .val (.ref b47), .val (.int (2 : Int32)), .val (.ref p0), .val (.int (4 : Int32)), .val (.int (3 : Int32)), .val (.int (f 2))] [(.int (f 3))])
          refine hp (fun tq kq => XS.istore X49.here hx rfl (hb hby d1_66) rfl (l' := #[.val (.ref p0), .val (.int (2 : Int32)), .val (.ref b47), .val (.int (2 : Int32)), .val (.ref p0), .val (.int (4 : Int32)), .val (.int (3 : Int32)), .val (.int (f 3))]) rfl kq) ?_
          show G T49 (mkF m 68 #[.val (.ref p0), .val (.int (2 : Int32)), .val (.ref b47), .val (.int (2 : Int32)), .val (.ref p0), .val (.int (4 : Int32)), .val (.int (3 : Int32)), .val (.int (f 3))] [])
          refine hp (fun tq kq => XS.iload X49.here hx rfl (hb hby d1_68) rfl kq) ?_
          show G T49 (mkF m 70 #[.val (.ref p0), .val (.int (2 : Int32)), .val (.ref b47), .val (.int (2 : Int32)), .val (.ref p0), .val (.int (4 : Int32)), .val (.int (3 : Int32)), .val (.int (f 3))] [(.int (f 3))])
          refine hp (fun tq kq => XS.iconst X49.here hx rfl (hb hby d1_70) kq) ?_
          show G T49 (mkF m 71 #[.val (.ref p0), .val (.int (2 : Int32)), .val (.ref b47), .val (.int (2 : Int32)), .val (.ref p0), .val (.int (4 : Int32)), .val (.int (3 : Int32)), .val (.int (f 3))] [(.int (-1 : Int32)), (.int (f 3))])
          refine hp (fun tq kq => XS.icmpYes X49.here hx rfl (pc0 := 71) (pc' := 82) rfl (hb hby d1_71) rfl (teq hb46).1 (by decide) (by decide) kq) ?_
          show G T49 (mkF m 82 #[.val (.ref p0), .val (.int (2 : Int32)), .val (.ref b47), .val (.int (2 : Int32)), .val (.ref p0), .val (.int (4 : Int32)), .val (.int (3 : Int32)), .val (.int (f 3))] [])
          refine hp (fun tq kq => XS.iinc X49.here hx rfl (hb hby d1_82) rfl (l' := #[.val (.ref p0), .val (.int (2 : Int32)), .val (.ref b47), .val (.int (2 : Int32)), .val (.ref p0), .val (.int (4 : Int32)), .val (.int (4 : Int32)), .val (.int (f 3))]) rfl kq) ?_
          show G T49 (mkF m 85 #[.val (.ref p0), .val (.int (2 : Int32)), .val (.ref b47), .val (.int (2 : Int32)), .val (.ref p0), .val (.int (4 : Int32)), .val (.int (4 : Int32)), .val (.int (f 3))] [])
          refine hp (fun tq kq => XS.goto X49.here hx rfl (pc0 := 85) (pc' := 54) rfl (hb hby d1_85) (by decide) (by decide) kq) ?_
          show G T49 (mkF m 54 #[.val (.ref p0), .val (.int (2 : Int32)), .val (.ref b47), .val (.int (2 : Int32)), .val (.ref p0), .val (.int (4 : Int32)), .val (.int (4 : Int32)), .val (.int (f 3))] [])
          refine hp (fun tq kq => XS.iload X49.here hx rfl (hb hby d1_54) rfl kq) ?_
          show G T49 (mkF m 56 #[.val (.ref p0), .val (.int (2 : Int32)), .val (.ref b47), .val (.int (2 : Int32)), .val (.ref p0), .val (.int (4 : Int32)), .val (.int (4 : Int32)), .val (.int (f 3))] [(.int (4 : Int32))])
          refine hp (fun tq kq => XS.iload X49.here hx rfl (hb hby d1_56) rfl kq) ?_
          show G T49 (mkF m 58 #[.val (.ref p0), .val (.int (2 : Int32)), .val (.ref b47), .val (.int (2 : Int32)), .val (.ref p0), .val (.int (4 : Int32)), .val (.int (4 : Int32)), .val (.int (f 3))] [(.int (4 : Int32)), (.int (4 : Int32))])
          refine hp (fun tq kq => XS.icmpYes X49.here hx rfl (pc0 := 58) (pc' := 88) rfl (hb hby d1_58) rfl (flt (by decide)).2.1 (by decide) (by decide) kq) ?_
          show G T49 (mkF m 88 #[.val (.ref p0), .val (.int (2 : Int32)), .val (.ref b47), .val (.int (2 : Int32)), .val (.ref p0), .val (.int (4 : Int32)), .val (.int (4 : Int32)), .val (.int (f 3))] [])
          refine hp (fun tq kq => XS.aloadN X49.here hx rfl (hb hby d1_88) rfl rfl kq) ?_
          show G T49 (mkF m 89 #[.val (.ref p0), .val (.int (2 : Int32)), .val (.ref b47), .val (.int (2 : Int32)), .val (.ref p0), .val (.int (4 : Int32)), .val (.int (4 : Int32)), .val (.int (f 3))] [(.ref b47)])
          exact hR X49 (fun fs hl => own_retA X49 hx hret rfl (hb hby d1_89) hl) (fun q => by rw [hret] at q; cases q) (by rw [e49]; exact ⟨b47, 2, (own_up (own_up (fun _ => (0 : Int32)) 0 (f 0)) 1 (f 1)), rfl, N49, K49, sz_b47, V49_b47, own_seld (l := [(f 0), (f 1)]) (own_sel_of (a := [f 0]) (b := [f 1]) (c := []) (d := []) (if_neg hb1) (if_neg hb29) (if_pos hb45) (if_pos hb46)) rfl (own_pick2 rfl rfl rfl)⟩) (by decide) (by decide)
        · refine hp (fun tq kq => XS.icmpNo X0.here hx rfl (hb hby d1_25) rfl (feq hb46).1 kq) ?_
          show G s₁ (mkF m 28 #[.val (.ref p0), .val (.int (2 : Int32)), .val (.ref p0), .val (.int (4 : Int32)), .val (.int (3 : Int32)), .val (.int (f 3)), .unset, .unset] [])
          refine hp (fun tq kq => XS.iinc X0.here hx rfl (hb hby d1_28) rfl (l' := #[.val (.ref p0), .val (.int (3 : Int32)), .val (.ref p0), .val (.int (4 : Int32)), .val (.int (3 : Int32)), .val (.int (f 3)), .unset, .unset]) rfl kq) ?_
          show G s₁ (mkF m 31 #[.val (.ref p0), .val (.int (3 : Int32)), .val (.ref p0), .val (.int (4 : Int32)), .val (.int (3 : Int32)), .val (.int (f 3)), .unset, .unset] [])
          refine hp (fun tq kq => XS.iinc X0.here hx rfl (hb hby d1_31) rfl (l' := #[.val (.ref p0), .val (.int (3 : Int32)), .val (.ref p0), .val (.int (4 : Int32)), .val (.int (4 : Int32)), .val (.int (f 3)), .unset, .unset]) rfl kq) ?_
          show G s₁ (mkF m 34 #[.val (.ref p0), .val (.int (3 : Int32)), .val (.ref p0), .val (.int (4 : Int32)), .val (.int (4 : Int32)), .val (.int (f 3)), .unset, .unset] [])
          refine hp (fun tq kq => XS.goto X0.here hx rfl (pc0 := 34) (pc' := 10) rfl (hb hby d1_34) (by decide) (by decide) kq) ?_
          show G s₁ (mkF m 10 #[.val (.ref p0), .val (.int (3 : Int32)), .val (.ref p0), .val (.int (4 : Int32)), .val (.int (4 : Int32)), .val (.int (f 3)), .unset, .unset] [])
          refine hp (fun tq kq => XS.iload X0.here hx rfl (hb hby d1_10) rfl kq) ?_
          show G s₁ (mkF m 12 #[.val (.ref p0), .val (.int (3 : Int32)), .val (.ref p0), .val (.int (4 : Int32)), .val (.int (4 : Int32)), .val (.int (f 3)), .unset, .unset] [(.int (4 : Int32))])
          refine hp (fun tq kq => XS.iloadN X0.here hx rfl (hb hby d1_12) rfl kq) ?_
          show G s₁ (mkF m 13 #[.val (.ref p0), .val (.int (3 : Int32)), .val (.ref p0), .val (.int (4 : Int32)), .val (.int (4 : Int32)), .val (.int (f 3)), .unset, .unset] [(.int (4 : Int32)), (.int (4 : Int32))])
          refine hp (fun tq kq => XS.icmpYes X0.here hx rfl (pc0 := 13) (pc' := 37) rfl (hb hby d1_13) rfl (flt (by decide)).2.1 (by decide) (by decide) kq) ?_
          show G s₁ (mkF m 37 #[.val (.ref p0), .val (.int (3 : Int32)), .val (.ref p0), .val (.int (4 : Int32)), .val (.int (4 : Int32)), .val (.int (f 3)), .unset, .unset] [])
          refine hp (fun tq kq => XS.iloadN X0.here hx rfl (hb hby d1_37) rfl kq) ?_
          show G s₁ (mkF m 38 #[.val (.ref p0), .val (.int (3 : Int32)), .val (.ref p0), .val (.int (4 : Int32)), .val (.int (4 : Int32)), .val (.int (f 3)), .unset, .unset] [(.int (3 : Int32))])
          obtain ⟨T50, h50, k50, X50, e50, E50, A50, st50⟩ := newP X0 hx hZ (hw _ (List.mem_of_getElem? (i := 1) rfl)) e0 (g := (mkF m 38 #[.val (.ref p0), .val (.int (3 : Int32)), .val (.ref p0), .val (.int (4 : Int32)), .val (.int (4 : Int32)), .val (.int (f 3)), .unset, .unset] [(.int (3 : Int32))])) rfl (hb hby d1_38) rfl (by decide) (cap := 3) (by decide) (by decide) (by decide) (by decide)
          obtain ⟨b50, g50⟩ : ∃ z, z = h0.size := ⟨_, rfl⟩
          rw [← g50] at A50 st50
          have ne50_p0 : p0 ≠ b50 := Nat.ne_of_lt (Nat.lt_of_lt_of_le V_p0.lt (Nat.le_of_eq g50.symm))
          have sz_b50 : h0.size ≤ b50 := Nat.le_trans K0.1 (Nat.le_of_eq g50.symm)
          have g_b50 : n0 ≤ b50 := Nat.le_trans Z0 sz_b50
          have V50_p0 := V_p0.ext E50
          have K50 := K0.ext E50
          have V50_b50 : own_AI Z h50 b50 .int 3 (fun _ => 0) := own_AI.new A50 (by decide) rfl 3 (by decide)
          refine hp st50 ?_
          show G T50 (mkF m 40 #[.val (.ref p0), .val (.int (3 : Int32)), .val (.ref p0), .val (.int (4 : Int32)), .val (.int (4 : Int32)), .val (.int (f 3)), .unset, .unset] [(.ref b50)])
          refine hp (fun tq kq => XS.astoreN X50.here hx rfl (hb hby d1_40) rfl rfl (l' := #[.val (.ref p0), .val (.int (3 : Int32)), .val (.ref b50), .val (.int (4 : Int32)), .val (.int (4 : Int32)), .val (.int (f 3)), .unset, .unset]) rfl kq) ?_
          show G T50 (mkF m 41 #[.val (.ref p0), .val (.int (3 : Int32)), .val (.ref b50), .val (.int (4 : Int32)), .val (.int (4 : Int32)), .val (.int (f 3)), .unset, .unset] [])
          refine hp (fun tq kq => XS.iconst X50.here hx rfl (hb hby d1_41) kq) ?_
          show G T50 (mkF m 42 #[.val (.ref p0), .val (.int (3 : Int32)), .val (.ref b50), .val (.int (4 : Int32)), .val (.int (4 : Int32)), .val (.int (f 3)), .unset, .unset] [(.int (0 : Int32))])
          refine hp (fun tq kq => XS.istoreN X50.here hx rfl (hb hby d1_42) rfl (l' := #[.val (.ref p0), .val (.int (3 : Int32)), .val (.ref b50), .val (.int (0 : Int32)), .val (.int (4 : Int32)), .val (.int (f 3)), .unset, .unset]) rfl kq) ?_
          show G T50 (mkF m 43 #[.val (.ref p0), .val (.int (3 : Int32)), .val (.ref b50), .val (.int (0 : Int32)), .val (.int (4 : Int32)), .val (.int (f 3)), .unset, .unset] [])
          refine hp (fun tq kq => XS.aloadN X50.here hx rfl (hb hby d1_43) rfl rfl kq) ?_
          show G T50 (mkF m 44 #[.val (.ref p0), .val (.int (3 : Int32)), .val (.ref b50), .val (.int (0 : Int32)), .val (.int (4 : Int32)), .val (.int (f 3)), .unset, .unset] [(.ref p0)])
          refine hp (fun tq kq => XS.astore X50.here hx rfl (hb hby d1_44) rfl rfl (l' := #[.val (.ref p0), .val (.int (3 : Int32)), .val (.ref b50), .val (.int (0 : Int32)), .val (.ref p0), .val (.int (f 3)), .unset, .unset]) rfl kq) ?_
          show G T50 (mkF m 46 #[.val (.ref p0), .val (.int (3 : Int32)), .val (.ref b50), .val (.int (0 : Int32)), .val (.ref p0), .val (.int (f 3)), .unset, .unset] [])
          refine hp (fun tq kq => XS.aload X50.here hx rfl (hb hby d1_46) rfl rfl kq) ?_
          show G T50 (mkF m 48 #[.val (.ref p0), .val (.int (3 : Int32)), .val (.ref b50), .val (.int (0 : Int32)), .val (.ref p0), .val (.int (f 3)), .unset, .unset] [(.ref p0)])
          refine hp (own_lenI X50 hx hZ e50 V50_p0 (4 : Int32) rfl (g := (mkF m 48 #[.val (.ref p0), .val (.int (3 : Int32)), .val (.ref b50), .val (.int (0 : Int32)), .val (.ref p0), .val (.int (f 3)), .unset, .unset] [(.ref p0)])) rfl rfl (hb hby d1_48)) ?_
          show G T50 (mkF m 49 #[.val (.ref p0), .val (.int (3 : Int32)), .val (.ref b50), .val (.int (0 : Int32)), .val (.ref p0), .val (.int (f 3)), .unset, .unset] [(.int (4 : Int32))])
          refine hp (fun tq kq => XS.istore X50.here hx rfl (hb hby d1_49) rfl (l' := #[.val (.ref p0), .val (.int (3 : Int32)), .val (.ref b50), .val (.int (0 : Int32)), .val (.ref p0), .val (.int (4 : Int32)), .unset, .unset]) rfl kq) ?_
          show G T50 (mkF m 51 #[.val (.ref p0), .val (.int (3 : Int32)), .val (.ref b50), .val (.int (0 : Int32)), .val (.ref p0), .val (.int (4 : Int32)), .unset, .unset] [])
          refine hp (fun tq kq => XS.iconst X50.here hx rfl (hb hby d1_51) kq) ?_
          show G T50 (mkF m 52 #[.val (.ref p0), .val (.int (3 : Int32)), .val (.ref b50), .val (.int (0 : Int32)), .val (.ref p0), .val (.int (4 : Int32)), .unset, .unset] [(.int (0 : Int32))])
          refine hp (fun tq kq => XS.istore X50.here hx rfl (hb hby d1_52) rfl (l' := #[.val (.ref p0), .val (.int (3 : Int32)), .val (.ref b50), .val (.int (0 : Int32)), .val (.ref p0), .val (.int (4 : Int32)), .val (.int (0 : Int32)), .unset]) rfl kq) ?_
          show G T50 (mkF m 54 #[.val (.ref p0), .val (.int (3 : Int32)), .val (.ref b50), .val (.int (0 : Int32)), .val (.ref p0), .val (.int (4 : Int32)), .val (.int (0 : Int32)), .unset] [])
          refine hp (fun tq kq => XS.iload X50.here hx rfl (hb hby d1_54) rfl kq) ?_
          show G T50 (mkF m 56 #[.val (.ref p0), .val (.int (3 : Int32)), .val (.ref b50), .val (.int (0 : Int32)), .val (.ref p0), .val (.int (4 : Int32)), .val (.int (0 : Int32)), .unset] [(.int (0 : Int32))])
          refine hp (fun tq kq => XS.iload X50.here hx rfl (hb hby d1_56) rfl kq) ?_
          show G T50 (mkF m 58 #[.val (.ref p0), .val (.int (3 : Int32)), .val (.ref b50), .val (.int (0 : Int32)), .val (.ref p0), .val (.int (4 : Int32)), .val (.int (0 : Int32)), .unset] [(.int (4 : Int32)), (.int (0 : Int32))])
          refine hp (fun tq kq => XS.icmpNo X50.here hx rfl (hb hby d1_58) rfl (tlt (by decide)).2.1 kq) ?_
          show G T50 (mkF m 61 #[.val (.ref p0), .val (.int (3 : Int32)), .val (.ref b50), .val (.int (0 : Int32)), .val (.ref p0), .val (.int (4 : Int32)), .val (.int (0 : Int32)), .unset] [])
          refine hp (fun tq kq => XS.aload X50.here hx rfl (hb hby d1_61) rfl rfl kq) ?_
          show G T50 (mkF m 63 #[.val (.ref p0), .val (.int (3 : Int32)), .val (.ref b50), .val (.int (0 : Int32)), .val (.ref p0), .val (.int (4 : Int32)), .val (.int (0 : Int32)), .unset] [(.ref p0)])
          refine hp (fun tq kq => XS.iload X50.here hx rfl (hb hby d1_63) rfl kq) ?_
          show G T50 (mkF m 65 #[.val (.ref p0), .val (.int (3 : Int32)), .val (.ref b50), .val (.int (0 : Int32)), .val (.ref p0), .val (.int (4 : Int32)), .val (.int (0 : Int32)), .unset] [(.int (0 : Int32)), (.ref p0)])
          refine hp (own_ldI X50 hx hZ e50 V50_p0 (j := (0 : Int32)) 0 (by decide) (by decide) (by decide) (g := (mkF m 65 #[.val (.ref p0), .val (.int (3 : Int32)), .val (.ref b50), .val (.int (0 : Int32)), .val (.ref p0), .val (.int (4 : Int32)), .val (.int (0 : Int32)), .unset] [(.int (0 : Int32)), (.ref p0)])) rfl rfl (hb hby d1_65)) ?_
          show G T50 (mkF m 66 #[.val (.ref p0), .val (.int (3 : Int32)), .val (.ref b50), .val (.int (0 : Int32)), .val (.ref p0), .val (.int (4 : Int32)), .val (.int (0 : Int32)), .unset] [(.int (f 0))])
          refine hp (fun tq kq => XS.istore X50.here hx rfl (hb hby d1_66) rfl (l' := #[.val (.ref p0), .val (.int (3 : Int32)), .val (.ref b50), .val (.int (0 : Int32)), .val (.ref p0), .val (.int (4 : Int32)), .val (.int (0 : Int32)), .val (.int (f 0))]) rfl kq) ?_
          show G T50 (mkF m 68 #[.val (.ref p0), .val (.int (3 : Int32)), .val (.ref b50), .val (.int (0 : Int32)), .val (.ref p0), .val (.int (4 : Int32)), .val (.int (0 : Int32)), .val (.int (f 0))] [])
          refine hp (fun tq kq => XS.iload X50.here hx rfl (hb hby d1_68) rfl kq) ?_
          show G T50 (mkF m 70 #[.val (.ref p0), .val (.int (3 : Int32)), .val (.ref b50), .val (.int (0 : Int32)), .val (.ref p0), .val (.int (4 : Int32)), .val (.int (0 : Int32)), .val (.int (f 0))] [(.int (f 0))])
          refine hp (fun tq kq => XS.iconst X50.here hx rfl (hb hby d1_70) kq) ?_
          show G T50 (mkF m 71 #[.val (.ref p0), .val (.int (3 : Int32)), .val (.ref b50), .val (.int (0 : Int32)), .val (.ref p0), .val (.int (4 : Int32)), .val (.int (0 : Int32)), .val (.int (f 0))] [(.int (-1 : Int32)), (.int (f 0))])
          refine hp (fun tq kq => XS.icmpNo X50.here hx rfl (hb hby d1_71) rfl (feq hb1).1 kq) ?_
          show G T50 (mkF m 74 #[.val (.ref p0), .val (.int (3 : Int32)), .val (.ref b50), .val (.int (0 : Int32)), .val (.ref p0), .val (.int (4 : Int32)), .val (.int (0 : Int32)), .val (.int (f 0))] [])
          refine hp (fun tq kq => XS.aloadN X50.here hx rfl (hb hby d1_74) rfl rfl kq) ?_
          show G T50 (mkF m 75 #[.val (.ref p0), .val (.int (3 : Int32)), .val (.ref b50), .val (.int (0 : Int32)), .val (.ref p0), .val (.int (4 : Int32)), .val (.int (0 : Int32)), .val (.int (f 0))] [(.ref b50)])
          refine hp (fun tq kq => XS.iloadN X50.here hx rfl (hb hby d1_75) rfl kq) ?_
          show G T50 (mkF m 76 #[.val (.ref p0), .val (.int (3 : Int32)), .val (.ref b50), .val (.int (0 : Int32)), .val (.ref p0), .val (.int (4 : Int32)), .val (.int (0 : Int32)), .val (.int (f 0))] [(.int (0 : Int32)), (.ref b50)])
          refine hp (fun tq kq => XS.iload X50.here hx rfl (hb hby d1_76) rfl kq) ?_
          show G T50 (mkF m 78 #[.val (.ref p0), .val (.int (3 : Int32)), .val (.ref b50), .val (.int (0 : Int32)), .val (.ref p0), .val (.int (4 : Int32)), .val (.int (0 : Int32)), .val (.int (f 0))] [(.int (f 0)), (.int (0 : Int32)), (.ref b50)])
          obtain ⟨T51, h51, X51, e51, W51, V51_b50, st51⟩ := own_stI X50 hx hZ e50 V50_b50 (j := (0 : Int32)) 0 (by decide) (by decide) (by decide) (g := (mkF m 78 #[.val (.ref p0), .val (.int (3 : Int32)), .val (.ref b50), .val (.int (0 : Int32)), .val (.ref p0), .val (.int (4 : Int32)), .val (.int (0 : Int32)), .val (.int (f 0))] [(.int (f 0)), (.int (0 : Int32)), (.ref b50)])) rfl rfl (hb hby d1_78)
          have V51_p0 := V50_p0.other W51 ne50_p0
          have K51 := K50.wr W51 (Or.inr sz_b50)
          have N51 := Fr.snoc X51 N0 g_b50
          refine hp st51 ?_
          show G T51 (mkF m 79 #[.val (.ref p0), .val (.int (3 : Int32)), .val (.ref b50), .val (.int (0 : Int32)), .val (.ref p0), .val (.int (4 : Int32)), .val (.int (0 : Int32)), .val (.int (f 0))] [])
          refine hp (fun tq kq => XS.iinc X51.here hx rfl (hb hby d1_79) rfl (l' := #[.val (.ref p0), .val (.int (3 : Int32)), .val (.ref b50), .val (.int (1 : Int32)), .val (.ref p0), .val (.int (4 : Int32)), .val (.int (0 : Int32)), .val (.int (f 0))]) rfl kq) ?_
          show G T51 (mkF m 82 #[.val (.ref p0), .val (.int (3 : Int32)), .val (.ref b50), .val (.int (1 : Int32)), .val (.ref p0), .val (.int (4 : Int32)), .val (.int (0 : Int32)), .val (.int (f 0))] [])
          refine hp (fun tq kq => XS.iinc X51.here hx rfl (hb hby d1_82) rfl (l' := #[.val (.ref p0), .val (.int (3 : Int32)), .val (.ref b50), .val (.int (1 : Int32)), .val (.ref p0), .val (.int (4 : Int32)), .val (.int (1 : Int32)), .val (.int (f 0))]) rfl kq) ?_
          show G T51 (mkF m 85 #[.val (.ref p0), .val (.int (3 : Int32)), .val (.ref b50), .val (.int (1 : Int32)), .val (.ref p0), .val (.int (4 : Int32)), .val (.int (1 : Int32)), .val (.int (f 0))] [])
          refine hp (fun tq kq => XS.goto X51.here hx rfl (pc0 := 85) (pc' := 54) rfl (hb hby d1_85) (by decide) (by decide) kq) ?_
          show G T51 (mkF m 54 #[.val (.ref p0), .val (.int (3 : Int32)), .val (.ref b50), .val (.int (1 : Int32)), .val (.ref p0), .val (.int (4 : Int32)), .val (.int (1 : Int32)), .val (.int (f 0))] [])
          refine hp (fun tq kq => XS.iload X51.here hx rfl (hb hby d1_54) rfl kq) ?_
          show G T51 (mkF m 56 #[.val (.ref p0), .val (.int (3 : Int32)), .val (.ref b50), .val (.int (1 : Int32)), .val (.ref p0), .val (.int (4 : Int32)), .val (.int (1 : Int32)), .val (.int (f 0))] [(.int (1 : Int32))])
          refine hp (fun tq kq => XS.iload X51.here hx rfl (hb hby d1_56) rfl kq) ?_
          show G T51 (mkF m 58 #[.val (.ref p0), .val (.int (3 : Int32)), .val (.ref b50), .val (.int (1 : Int32)), .val (.ref p0), .val (.int (4 : Int32)), .val (.int (1 : Int32)), .val (.int (f 0))] [(.int (4 : Int32)), (.int (1 : Int32))])
          refine hp (fun tq kq => XS.icmpNo X51.here hx rfl (hb hby d1_58) rfl (tlt (by decide)).2.1 kq) ?_
          show G T51 (mkF m 61 #[.val (.ref p0), .val (.int (3 : Int32)), .val (.ref b50), .val (.int (1 : Int32)), .val (.ref p0), .val (.int (4 : Int32)), .val (.int (1 : Int32)), .val (.int (f 0))] [])
          refine hp (fun tq kq => XS.aload X51.here hx rfl (hb hby d1_61) rfl rfl kq) ?_
          show G T51 (mkF m 63 #[.val (.ref p0), .val (.int (3 : Int32)), .val (.ref b50), .val (.int (1 : Int32)), .val (.ref p0), .val (.int (4 : Int32)), .val (.int (1 : Int32)), .val (.int (f 0))] [(.ref p0)])
          refine hp (fun tq kq => XS.iload X51.here hx rfl (hb hby d1_63) rfl kq) ?_
          show G T51 (mkF m 65 #[.val (.ref p0), .val (.int (3 : Int32)), .val (.ref b50), .val (.int (1 : Int32)), .val (.ref p0), .val (.int (4 : Int32)), .val (.int (1 : Int32)), .val (.int (f 0))] [(.int (1 : Int32)), (.ref p0)])
          refine hp (own_ldI X51 hx hZ e51 V51_p0 (j := (1 : Int32)) 1 (by decide) (by decide) (by decide) (g := (mkF m 65 #[.val (.ref p0), .val (.int (3 : Int32)), .val (.ref b50), .val (.int (1 : Int32)), .val (.ref p0), .val (.int (4 : Int32)), .val (.int (1 : Int32)), .val (.int (f 0))] [(.int (1 : Int32)), (.ref p0)])) rfl rfl (hb hby d1_65)) ?_
          show G T51 (mkF m 66 #[.val (.ref p0), .val (.int (3 : Int32)), .val (.ref b50), .val (.int (1 : Int32)), .val (.ref p0), .val (.int (4 : Int32)), .val (.int (1 : Int32)), .val (.int (f 0))] [(.int (f 1))])
          refine hp (fun tq kq => XS.istore X51.here hx rfl (hb hby d1_66) rfl (l' := #[.val (.ref p0), .val (.int (3 : Int32)), .val (.ref b50), .val (.int (1 : Int32)), .val (.ref p0), .val (.int (4 : Int32)), .val (.int (1 : Int32)), .val (.int (f 1))]) rfl kq) ?_
          show G T51 (mkF m 68 #[.val (.ref p0), .val (.int (3 : Int32)), .val (.ref b50), .val (.int (1 : Int32)), .val (.ref p0), .val (.int (4 : Int32)), .val (.int (1 : Int32)), .val (.int (f 1))] [])
          refine hp (fun tq kq => XS.iload X51.here hx rfl (hb hby d1_68) rfl kq) ?_
          show G T51 (mkF m 70 #[.val (.ref p0), .val (.int (3 : Int32)), .val (.ref b50), .val (.int (1 : Int32)), .val (.ref p0), .val (.int (4 : Int32)), .val (.int (1 : Int32)), .val (.int (f 1))] [(.int (f 1))])
          refine hp (fun tq kq => XS.iconst X51.here hx rfl (hb hby d1_70) kq) ?_
          show G T51 (mkF m 71 #[.val (.ref p0), .val (.int (3 : Int32)), .val (.ref b50), .val (.int (1 : Int32)), .val (.ref p0), .val (.int (4 : Int32)), .val (.int (1 : Int32)), .val (.int (f 1))] [(.int (-1 : Int32)), (.int (f 1))])
          refine hp (fun tq kq => XS.icmpNo X51.here hx rfl (hb hby d1_71) rfl (feq hb29).1 kq) ?_
          show G T51 (mkF m 74 #[.val (.ref p0), .val (.int (3 : Int32)), .val (.ref b50), .val (.int (1 : Int32)), .val (.ref p0), .val (.int (4 : Int32)), .val (.int (1 : Int32)), .val (.int (f 1))] [])
          refine hp (fun tq kq => XS.aloadN X51.here hx rfl (hb hby d1_74) rfl rfl kq) ?_
          show G T51 (mkF m 75 #[.val (.ref p0), .val (.int (3 : Int32)), .val (.ref b50), .val (.int (1 : Int32)), .val (.ref p0), .val (.int (4 : Int32)), .val (.int (1 : Int32)), .val (.int (f 1))] [(.ref b50)])
          refine hp (fun tq kq => XS.iloadN X51.here hx rfl (hb hby d1_75) rfl kq) ?_
          show G T51 (mkF m 76 #[.val (.ref p0), .val (.int (3 : Int32)), .val (.ref b50), .val (.int (1 : Int32)), .val (.ref p0), .val (.int (4 : Int32)), .val (.int (1 : Int32)), .val (.int (f 1))] [(.int (1 : Int32)), (.ref b50)])
          refine hp (fun tq kq => XS.iload X51.here hx rfl (hb hby d1_76) rfl kq) ?_
          show G T51 (mkF m 78 #[.val (.ref p0), .val (.int (3 : Int32)), .val (.ref b50), .val (.int (1 : Int32)), .val (.ref p0), .val (.int (4 : Int32)), .val (.int (1 : Int32)), .val (.int (f 1))] [(.int (f 1)), (.int (1 : Int32)), (.ref b50)])
          obtain ⟨T52, h52, X52, e52, W52, V52_b50, st52⟩ := own_stI X51 hx hZ e51 V51_b50 (j := (1 : Int32)) 1 (by decide) (by decide) (by decide) (g := (mkF m 78 #[.val (.ref p0), .val (.int (3 : Int32)), .val (.ref b50), .val (.int (1 : Int32)), .val (.ref p0), .val (.int (4 : Int32)), .val (.int (1 : Int32)), .val (.int (f 1))] [(.int (f 1)), (.int (1 : Int32)), (.ref b50)])) rfl rfl (hb hby d1_78)
          have V52_p0 := V51_p0.other W52 ne50_p0
          have K52 := K51.wr W52 (Or.inr sz_b50)
          have N52 := Fr.snoc X52 N51 g_b50
          refine hp st52 ?_
          show G T52 (mkF m 79 #[.val (.ref p0), .val (.int (3 : Int32)), .val (.ref b50), .val (.int (1 : Int32)), .val (.ref p0), .val (.int (4 : Int32)), .val (.int (1 : Int32)), .val (.int (f 1))] [])
          refine hp (fun tq kq => XS.iinc X52.here hx rfl (hb hby d1_79) rfl (l' := #[.val (.ref p0), .val (.int (3 : Int32)), .val (.ref b50), .val (.int (2 : Int32)), .val (.ref p0), .val (.int (4 : Int32)), .val (.int (1 : Int32)), .val (.int (f 1))]) rfl kq) ?_
          show G T52 (mkF m 82 #[.val (.ref p0), .val (.int (3 : Int32)), .val (.ref b50), .val (.int (2 : Int32)), .val (.ref p0), .val (.int (4 : Int32)), .val (.int (1 : Int32)), .val (.int (f 1))] [])
          refine hp (fun tq kq => XS.iinc X52.here hx rfl (hb hby d1_82) rfl (l' := #[.val (.ref p0), .val (.int (3 : Int32)), .val (.ref b50), .val (.int (2 : Int32)), .val (.ref p0), .val (.int (4 : Int32)), .val (.int (2 : Int32)), .val (.int (f 1))]) rfl kq) ?_
          show G T52 (mkF m 85 #[.val (.ref p0), .val (.int (3 : Int32)), .val (.ref b50), .val (.int (2 : Int32)), .val (.ref p0), .val (.int (4 : Int32)), .val (.int (2 : Int32)), .val (.int (f 1))] [])
          refine hp (fun tq kq => XS.goto X52.here hx rfl (pc0 := 85) (pc' := 54) rfl (hb hby d1_85) (by decide) (by decide) kq) ?_
          show G T52 (mkF m 54 #[.val (.ref p0), .val (.int (3 : Int32)), .val (.ref b50), .val (.int (2 : Int32)), .val (.ref p0), .val (.int (4 : Int32)), .val (.int (2 : Int32)), .val (.int (f 1))] [])
          refine hp (fun tq kq => XS.iload X52.here hx rfl (hb hby d1_54) rfl kq) ?_
          show G T52 (mkF m 56 #[.val (.ref p0), .val (.int (3 : Int32)), .val (.ref b50), .val (.int (2 : Int32)), .val (.ref p0), .val (.int (4 : Int32)), .val (.int (2 : Int32)), .val (.int (f 1))] [(.int (2 : Int32))])
          refine hp (fun tq kq => XS.iload X52.here hx rfl (hb hby d1_56) rfl kq) ?_
          show G T52 (mkF m 58 #[.val (.ref p0), .val (.int (3 : Int32)), .val (.ref b50), .val (.int (2 : Int32)), .val (.ref p0), .val (.int (4 : Int32)), .val (.int (2 : Int32)), .val (.int (f 1))] [(.int (4 : Int32)), (.int (2 : Int32))])
          refine hp (fun tq kq => XS.icmpNo X52.here hx rfl (hb hby d1_58) rfl (tlt (by decide)).2.1 kq) ?_
          show G T52 (mkF m 61 #[.val (.ref p0), .val (.int (3 : Int32)), .val (.ref b50), .val (.int (2 : Int32)), .val (.ref p0), .val (.int (4 : Int32)), .val (.int (2 : Int32)), .val (.int (f 1))] [])
          refine hp (fun tq kq => XS.aload X52.here hx rfl (hb hby d1_61) rfl rfl kq) ?_
          show G T52 (mkF m 63 #[.val (.ref p0), .val (.int (3 : Int32)), .val (.ref b50), .val (.int (2 : Int32)), .val (.ref p0), .val (.int (4 : Int32)), .val (.int (2 : Int32)), .val (.int (f 1))] [(.ref p0)])
          refine hp (fun tq kq => XS.iload X52.here hx rfl (hb hby d1_63) rfl kq) ?_
          show G T52 (mkF m 65 #[.val (.ref p0), .val (.int (3 : Int32)), .val (.ref b50), .val (.int (2 : Int32)), .val (.ref p0), .val (.int (4 : Int32)), .val (.int (2 : Int32)), .val (.int (f 1))] [(.int (2 : Int32)), (.ref p0)])
          refine hp (own_ldI X52 hx hZ e52 V52_p0 (j := (2 : Int32)) 2 (by decide) (by decide) (by decide) (g := (mkF m 65 #[.val (.ref p0), .val (.int (3 : Int32)), .val (.ref b50), .val (.int (2 : Int32)), .val (.ref p0), .val (.int (4 : Int32)), .val (.int (2 : Int32)), .val (.int (f 1))] [(.int (2 : Int32)), (.ref p0)])) rfl rfl (hb hby d1_65)) ?_
          show G T52 (mkF m 66 #[.val (.ref p0), .val (.int (3 : Int32)), .val (.ref b50), .val (.int (2 : Int32)), .val (.ref p0), .val (.int (4 : Int32)), .val (.int (2 : Int32)), .val (.int (f 1))] [(.int (f 2))])
          refine hp (fun tq kq => XS.istore X52.here hx rfl (hb hby d1_66) rfl (l' := #[.val (.ref p0), .val (.int (3 : Int32)), .val (.ref b50), .val (.int (2 : Int32)), .val (.ref p0), .val (.int (4 : Int32)), .val (.int (2 : Int32)), .val (.int (f 2))]) rfl kq) ?_
          show G T52 (mkF m 68 #[.val (.ref p0), .val (.int (3 : Int32)), .val (.ref b50), .val (.int (2 : Int32)), .val (.ref p0), .val (.int (4 : Int32)), .val (.int (2 : Int32)), .val (.int (f 2))] [])
          refine hp (fun tq kq => XS.iload X52.here hx rfl (hb hby d1_68) rfl kq) ?_
          show G T52 (mkF m 70 #[.val (.ref p0), .val (.int (3 : Int32)), .val (.ref b50), .val (.int (2 : Int32)), .val (.ref p0), .val (.int (4 : Int32)), .val (.int (2 : Int32)), .val (.int (f 2))] [(.int (f 2))])
          refine hp (fun tq kq => XS.iconst X52.here hx rfl (hb hby d1_70) kq) ?_
          show G T52 (mkF m 71 #[.val (.ref p0), .val (.int (3 : Int32)), .val (.ref b50), .val (.int (2 : Int32)), .val (.ref p0), .val (.int (4 : Int32)), .val (.int (2 : Int32)), .val (.int (f 2))] [(.int (-1 : Int32)), (.int (f 2))])
          refine hp (fun tq kq => XS.icmpYes X52.here hx rfl (pc0 := 71) (pc' := 82) rfl (hb hby d1_71) rfl (teq hb45).1 (by decide) (by decide) kq) ?_
          show G T52 (mkF m 82 #[.val (.ref p0), .val (.int (3 : Int32)), .val (.ref b50), .val (.int (2 : Int32)), .val (.ref p0), .val (.int (4 : Int32)), .val (.int (2 : Int32)), .val (.int (f 2))] [])
          refine hp (fun tq kq => XS.iinc X52.here hx rfl (hb hby d1_82) rfl (l' := #[.val (.ref p0), .val (.int (3 : Int32)), .val (.ref b50), .val (.int (2 : Int32)), .val (.ref p0), .val (.int (4 : Int32)), .val (.int (3 : Int32)), .val (.int (f 2))]) rfl kq) ?_
          show G T52 (mkF m 85 #[.val (.ref p0), .val (.int (3 : Int32)), .val (.ref b50), .val (.int (2 : Int32)), .val (.ref p0), .val (.int (4 : Int32)), .val (.int (3 : Int32)), .val (.int (f 2))] [])
          refine hp (fun tq kq => XS.goto X52.here hx rfl (pc0 := 85) (pc' := 54) rfl (hb hby d1_85) (by decide) (by decide) kq) ?_
          show G T52 (mkF m 54 #[.val (.ref p0), .val (.int (3 : Int32)), .val (.ref b50), .val (.int (2 : Int32)), .val (.ref p0), .val (.int (4 : Int32)), .val (.int (3 : Int32)), .val (.int (f 2))] [])
          refine hp (fun tq kq => XS.iload X52.here hx rfl (hb hby d1_54) rfl kq) ?_
          show G T52 (mkF m 56 #[.val (.ref p0), .val (.int (3 : Int32)), .val (.ref b50), .val (.int (2 : Int32)), .val (.ref p0), .val (.int (4 : Int32)), .val (.int (3 : Int32)), .val (.int (f 2))] [(.int (3 : Int32))])
          refine hp (fun tq kq => XS.iload X52.here hx rfl (hb hby d1_56) rfl kq) ?_
          show G T52 (mkF m 58 #[.val (.ref p0), .val (.int (3 : Int32)), .val (.ref b50), .val (.int (2 : Int32)), .val (.ref p0), .val (.int (4 : Int32)), .val (.int (3 : Int32)), .val (.int (f 2))] [(.int (4 : Int32)), (.int (3 : Int32))])
          refine hp (fun tq kq => XS.icmpNo X52.here hx rfl (hb hby d1_58) rfl (tlt (by decide)).2.1 kq) ?_
          show G T52 (mkF m 61 #[.val (.ref p0), .val (.int (3 : Int32)), .val (.ref b50), .val (.int (2 : Int32)), .val (.ref p0), .val (.int (4 : Int32)), .val (.int (3 : Int32)), .val (.int (f 2))] [])
          refine hp (fun tq kq => XS.aload X52.here hx rfl (hb hby d1_61) rfl rfl kq) ?_
          show G T52 (mkF m 63 #[.val (.ref p0), .val (.int (3 : Int32)), .val (.ref b50), .val (.int (2 : Int32)), .val (.ref p0), .val (.int (4 : Int32)), .val (.int (3 : Int32)), .val (.int (f 2))] [(.ref p0)])
          refine hp (fun tq kq => XS.iload X52.here hx rfl (hb hby d1_63) rfl kq) ?_
          show G T52 (mkF m 65 #[.val (.ref p0), .val (.int (3 : Int32)), .val (.ref b50), .val (.int (2 : Int32)), .val (.ref p0), .val (.int (4 : Int32)), .val (.int (3 : Int32)), .val (.int (f 2))] [(.int (3 : Int32)), (.ref p0)])
          refine hp (own_ldI X52 hx hZ e52 V52_p0 (j := (3 : Int32)) 3 (by decide) (by decide) (by decide) (g := (mkF m 65 #[.val (.ref p0), .val (.int (3 : Int32)), .val (.ref b50), .val (.int (2 : Int32)), .val (.ref p0), .val (.int (4 : Int32)), .val (.int (3 : Int32)), .val (.int (f 2))] [(.int (3 : Int32)), (.ref p0)])) rfl rfl (hb hby d1_65)) ?_
          show G T52 (mkF m 66 #[.val (.ref p0), .val (.int (3 : Int32)), .val (.ref b50), .val (.int (2 : Int32)), .val (.ref p0), .val (.int (4 : Int32)), .val (.int (3 : Int32)), .val (.int (f 2))] [(.int (f 3))])
          refine hp (fun tq kq => XS.istore X52.here hx rfl (hb hby d1_66) rfl (l' := #[.val (.ref p0), .val (.int (3 : Int32)), .val (.ref b50), .val (.int (2 : Int32)), .val (.ref p0), .val (.int (4 : Int32)), .val (.int (3 : Int32)), .val (.int (f 3))]) rfl kq) ?_
          show G T52 (mkF m 68 #[.val (.ref p0), .val (.int (3 : Int32)), .val (.ref b50), .val (.int (2 : Int32)), .val (.ref p0), .val (.int (4 : Int32)), .val (.int (3 : Int32)), .val (.int (f 3))] [])
          refine hp (fun tq kq => XS.iload X52.here hx rfl (hb hby d1_68) rfl kq) ?_
          show G T52 (mkF m 70 #[.val (.ref p0), .val (.int (3 : Int32)), .val (.ref b50), .val (.int (2 : Int32)), .val (.ref p0), .val (.int (4 : Int32)), .val (.int (3 : Int32)), .val (.int (f 3))] [(.int (f 3))])
          refine hp (fun tq kq => XS.iconst X52.here hx rfl (hb hby d1_70) kq) ?_
          show G T52 (mkF m 71 #[.val (.ref p0), .val (.int (3 : Int32)), .val (.ref b50), .val (.int (2 : Int32)), .val (.ref p0), .val (.int (4 : Int32)), .val (.int (3 : Int32)), .val (.int (f 3))] [(.int (-1 : Int32)), (.int (f 3))])
          refine hp (fun tq kq => XS.icmpNo X52.here hx rfl (hb hby d1_71) rfl (feq hb46).1 kq) ?_
          show G T52 (mkF m 74 #[.val (.ref p0), .val (.int (3 : Int32)), .val (.ref b50), .val (.int (2 : Int32)), .val (.ref p0), .val (.int (4 : Int32)), .val (.int (3 : Int32)), .val (.int (f 3))] [])
          refine hp (fun tq kq => XS.aloadN X52.here hx rfl (hb hby d1_74) rfl rfl kq) ?_
          show G T52 (mkF m 75 #[.val (.ref p0), .val (.int (3 : Int32)), .val (.ref b50), .val (.int (2 : Int32)), .val (.ref p0), .val (.int (4 : Int32)), .val (.int (3 : Int32)), .val (.int (f 3))] [(.ref b50)])
          refine hp (fun tq kq => XS.iloadN X52.here hx rfl (hb hby d1_75) rfl kq) ?_
          show G T52 (mkF m 76 #[.val (.ref p0), .val (.int (3 : Int32)), .val (.ref b50), .val (.int (2 : Int32)), .val (.ref p0), .val (.int (4 : Int32)), .val (.int (3 : Int32)), .val (.int (f 3))] [(.int (2 : Int32)), (.ref b50)])
          refine hp (fun tq kq => XS.iload X52.here hx rfl (hb hby d1_76) rfl kq) ?_
          show G T52 (mkF m 78 #[.val (.ref p0), .val (.int (3 : Int32)), .val (.ref b50), .val (.int (2 : Int32)), .val (.ref p0), .val (.int (4 : Int32)), .val (.int (3 : Int32)), .val (.int (f 3))] [(.int (f 3)), (.int (2 : Int32)), (.ref b50)])
          obtain ⟨T53, h53, X53, e53, W53, V53_b50, st53⟩ := own_stI X52 hx hZ e52 V52_b50 (j := (2 : Int32)) 2 (by decide) (by decide) (by decide) (g := (mkF m 78 #[.val (.ref p0), .val (.int (3 : Int32)), .val (.ref b50), .val (.int (2 : Int32)), .val (.ref p0), .val (.int (4 : Int32)), .val (.int (3 : Int32)), .val (.int (f 3))] [(.int (f 3)), (.int (2 : Int32)), (.ref b50)])) rfl rfl (hb hby d1_78)
          have V53_p0 := V52_p0.other W53 ne50_p0
          have K53 := K52.wr W53 (Or.inr sz_b50)
          have N53 := Fr.snoc X53 N52 g_b50
          refine hp st53 ?_
          show G T53 (mkF m 79 #[.val (.ref p0), .val (.int (3 : Int32)), .val (.ref b50), .val (.int (2 : Int32)), .val (.ref p0), .val (.int (4 : Int32)), .val (.int (3 : Int32)), .val (.int (f 3))] [])
          refine hp (fun tq kq => XS.iinc X53.here hx rfl (hb hby d1_79) rfl (l' := #[.val (.ref p0), .val (.int (3 : Int32)), .val (.ref b50), .val (.int (3 : Int32)), .val (.ref p0), .val (.int (4 : Int32)), .val (.int (3 : Int32)), .val (.int (f 3))]) rfl kq) ?_
          show G T53 (mkF m 82 #[.val (.ref p0), .val (.int (3 : Int32)), .val (.ref b50), .val (.int (3 : Int32)), .val (.ref p0), .val (.int (4 : Int32)), .val (.int (3 : Int32)), .val (.int (f 3))] [])
          refine hp (fun tq kq => XS.iinc X53.here hx rfl (hb hby d1_82) rfl (l' := #[.val (.ref p0), .val (.int (3 : Int32)), .val (.ref b50), .val (.int (3 : Int32)), .val (.ref p0), .val (.int (4 : Int32)), .val (.int (4 : Int32)), .val (.int (f 3))]) rfl kq) ?_
          show G T53 (mkF m 85 #[.val (.ref p0), .val (.int (3 : Int32)), .val (.ref b50), .val (.int (3 : Int32)), .val (.ref p0), .val (.int (4 : Int32)), .val (.int (4 : Int32)), .val (.int (f 3))] [])
          refine hp (fun tq kq => XS.goto X53.here hx rfl (pc0 := 85) (pc' := 54) rfl (hb hby d1_85) (by decide) (by decide) kq) ?_
          show G T53 (mkF m 54 #[.val (.ref p0), .val (.int (3 : Int32)), .val (.ref b50), .val (.int (3 : Int32)), .val (.ref p0), .val (.int (4 : Int32)), .val (.int (4 : Int32)), .val (.int (f 3))] [])
          refine hp (fun tq kq => XS.iload X53.here hx rfl (hb hby d1_54) rfl kq) ?_
          show G T53 (mkF m 56 #[.val (.ref p0), .val (.int (3 : Int32)), .val (.ref b50), .val (.int (3 : Int32)), .val (.ref p0), .val (.int (4 : Int32)), .val (.int (4 : Int32)), .val (.int (f 3))] [(.int (4 : Int32))])
          refine hp (fun tq kq => XS.iload X53.here hx rfl (hb hby d1_56) rfl kq) ?_
          show G T53 (mkF m 58 #[.val (.ref p0), .val (.int (3 : Int32)), .val (.ref b50), .val (.int (3 : Int32)), .val (.ref p0), .val (.int (4 : Int32)), .val (.int (4 : Int32)), .val (.int (f 3))] [(.int (4 : Int32)), (.int (4 : Int32))])
          refine hp (fun tq kq => XS.icmpYes X53.here hx rfl (pc0 := 58) (pc' := 88) rfl (hb hby d1_58) rfl (flt (by decide)).2.1 (by decide) (by decide) kq) ?_
          show G T53 (mkF m 88 #[.val (.ref p0), .val (.int (3 : Int32)), .val (.ref b50), .val (.int (3 : Int32)), .val (.ref p0), .val (.int (4 : Int32)), .val (.int (4 : Int32)), .val (.int (f 3))] [])
          refine hp (fun tq kq => XS.aloadN X53.here hx rfl (hb hby d1_88) rfl rfl kq) ?_
          show G T53 (mkF m 89 #[.val (.ref p0), .val (.int (3 : Int32)), .val (.ref b50), .val (.int (3 : Int32)), .val (.ref p0), .val (.int (4 : Int32)), .val (.int (4 : Int32)), .val (.int (f 3))] [(.ref b50)])
          exact hR X53 (fun fs hl => own_retA X53 hx hret rfl (hb hby d1_89) hl) (fun q => by rw [hret] at q; cases q) (by rw [e53]; exact ⟨b50, 3, (own_up (own_up (own_up (fun _ => (0 : Int32)) 0 (f 0)) 1 (f 1)) 2 (f 3)), rfl, N53, K53, sz_b50, V53_b50, own_seld (l := [(f 0), (f 1), (f 3)]) (own_sel_of (a := [f 0]) (b := [f 1]) (c := []) (d := [f 3]) (if_neg hb1) (if_neg hb29) (if_pos hb45) (if_neg hb46)) rfl (own_pick3 rfl rfl rfl rfl)⟩) (by decide) (by decide)
      · refine hp (fun tq kq => XS.icmpNo X0.here hx rfl (hb hby d1_25) rfl (feq hb45).1 kq) ?_
        show G s₁ (mkF m 28 #[.val (.ref p0), .val (.int (2 : Int32)), .val (.ref p0), .val (.int (4 : Int32)), .val (.int (2 : Int32)), .val (.int (f 2)), .unset, .unset] [])
        refine hp (fun tq kq => XS.iinc X0.here hx rfl (hb hby d1_28) rfl (l' := #[.val (.ref p0), .val (.int (3 : Int32)), .val (.ref p0), .val (.int (4 : Int32)), .val (.int (2 : Int32)), .val (.int (f 2)), .unset, .unset]) rfl kq) ?_
        show G s₁ (mkF m 31 #[.val (.ref p0), .val (.int (3 : Int32)), .val (.ref p0), .val (.int (4 : Int32)), .val (.int (2 : Int32)), .val (.int (f 2)), .unset, .unset] [])
        refine hp (fun tq kq => XS.iinc X0.here hx rfl (hb hby d1_31) rfl (l' := #[.val (.ref p0), .val (.int (3 : Int32)), .val (.ref p0), .val (.int (4 : Int32)), .val (.int (3 : Int32)), .val (.int (f 2)), .unset, .unset]) rfl kq) ?_
        show G s₁ (mkF m 34 #[.val (.ref p0), .val (.int (3 : Int32)), .val (.ref p0), .val (.int (4 : Int32)), .val (.int (3 : Int32)), .val (.int (f 2)), .unset, .unset] [])
        refine hp (fun tq kq => XS.goto X0.here hx rfl (pc0 := 34) (pc' := 10) rfl (hb hby d1_34) (by decide) (by decide) kq) ?_
        show G s₁ (mkF m 10 #[.val (.ref p0), .val (.int (3 : Int32)), .val (.ref p0), .val (.int (4 : Int32)), .val (.int (3 : Int32)), .val (.int (f 2)), .unset, .unset] [])
        refine hp (fun tq kq => XS.iload X0.here hx rfl (hb hby d1_10) rfl kq) ?_
        show G s₁ (mkF m 12 #[.val (.ref p0), .val (.int (3 : Int32)), .val (.ref p0), .val (.int (4 : Int32)), .val (.int (3 : Int32)), .val (.int (f 2)), .unset, .unset] [(.int (3 : Int32))])
        refine hp (fun tq kq => XS.iloadN X0.here hx rfl (hb hby d1_12) rfl kq) ?_
        show G s₁ (mkF m 13 #[.val (.ref p0), .val (.int (3 : Int32)), .val (.ref p0), .val (.int (4 : Int32)), .val (.int (3 : Int32)), .val (.int (f 2)), .unset, .unset] [(.int (4 : Int32)), (.int (3 : Int32))])
        refine hp (fun tq kq => XS.icmpNo X0.here hx rfl (hb hby d1_13) rfl (tlt (by decide)).2.1 kq) ?_
        show G s₁ (mkF m 16 #[.val (.ref p0), .val (.int (3 : Int32)), .val (.ref p0), .val (.int (4 : Int32)), .val (.int (3 : Int32)), .val (.int (f 2)), .unset, .unset] [])
        refine hp (fun tq kq => XS.aloadN X0.here hx rfl (hb hby d1_16) rfl rfl kq) ?_
        show G s₁ (mkF m 17 #[.val (.ref p0), .val (.int (3 : Int32)), .val (.ref p0), .val (.int (4 : Int32)), .val (.int (3 : Int32)), .val (.int (f 2)), .unset, .unset] [(.ref p0)])
        refine hp (fun tq kq => XS.iload X0.here hx rfl (hb hby d1_17) rfl kq) ?_
        show G s₁ (mkF m 19 #[.val (.ref p0), .val (.int (3 : Int32)), .val (.ref p0), .val (.int (4 : Int32)), .val (.int (3 : Int32)), .val (.int (f 2)), .unset, .unset] [(.int (3 : Int32)), (.ref p0)])
        refine hp (own_ldI X0 hx hZ e0 V_p0 (j := (3 : Int32)) 3 (by decide) (by decide) (by decide) (g := (mkF m 19 #[.val (.ref p0), .val (.int (3 : Int32)), .val (.ref p0), .val (.int (4 : Int32)), .val (.int (3 : Int32)), .val (.int (f 2)), .unset, .unset] [(.int (3 : Int32)), (.ref p0)])) rfl rfl (hb hby d1_19)) ?_
        show G s₁ (mkF m 20 #[.val (.ref p0), .val (.int (3 : Int32)), .val (.ref p0), .val (.int (4 : Int32)), .val (.int (3 : Int32)), .val (.int (f 2)), .unset, .unset] [(.int (f 3))])
        refine hp (fun tq kq => XS.istore X0.here hx rfl (hb hby d1_20) rfl (l' := #[.val (.ref p0), .val (.int (3 : Int32)), .val (.ref p0), .val (.int (4 : Int32)), .val (.int (3 : Int32)), .val (.int (f 3)), .unset, .unset]) rfl kq) ?_
        show G s₁ (mkF m 22 #[.val (.ref p0), .val (.int (3 : Int32)), .val (.ref p0), .val (.int (4 : Int32)), .val (.int (3 : Int32)), .val (.int (f 3)), .unset, .unset] [])
        refine hp (fun tq kq => XS.iload X0.here hx rfl (hb hby d1_22) rfl kq) ?_
        show G s₁ (mkF m 24 #[.val (.ref p0), .val (.int (3 : Int32)), .val (.ref p0), .val (.int (4 : Int32)), .val (.int (3 : Int32)), .val (.int (f 3)), .unset, .unset] [(.int (f 3))])
        refine hp (fun tq kq => XS.iconst X0.here hx rfl (hb hby d1_24) kq) ?_
        show G s₁ (mkF m 25 #[.val (.ref p0), .val (.int (3 : Int32)), .val (.ref p0), .val (.int (4 : Int32)), .val (.int (3 : Int32)), .val (.int (f 3)), .unset, .unset] [(.int (-1 : Int32)), (.int (f 3))])
        by_cases hb54 : (f 3) = (-1 : Int32)
        · refine hp (fun tq kq => XS.icmpYes X0.here hx rfl (pc0 := 25) (pc' := 31) rfl (hb hby d1_25) rfl (teq hb54).1 (by decide) (by decide) kq) ?_
          show G s₁ (mkF m 31 #[.val (.ref p0), .val (.int (3 : Int32)), .val (.ref p0), .val (.int (4 : Int32)), .val (.int (3 : Int32)), .val (.int (f 3)), .unset, .unset] [])
          refine hp (fun tq kq => XS.iinc X0.here hx rfl (hb hby d1_31) rfl (l' := #[.val (.ref p0), .val (.int (3 : Int32)), .val (.ref p0), .val (.int (4 : Int32)), .val (.int (4 : Int32)), .val (.int (f 3)), .unset, .unset]) rfl kq) ?_
          show G s₁ (mkF m 34 #[.val (.ref p0), .val (.int (3 : Int32)), .val (.ref p0), .val (.int (4 : Int32)), .val (.int (4 : Int32)), .val (.int (f 3)), .unset, .unset] [])
          refine hp (fun tq kq => XS.goto X0.here hx rfl (pc0 := 34) (pc' := 10) rfl (hb hby d1_34) (by decide) (by decide) kq) ?_
          show G s₁ (mkF m 10 #[.val (.ref p0), .val (.int (3 : Int32)), .val (.ref p0), .val (.int (4 : Int32)), .val (.int (4 : Int32)), .val (.int (f 3)), .unset, .unset] [])
          refine hp (fun tq kq => XS.iload X0.here hx rfl (hb hby d1_10) rfl kq) ?_
          show G s₁ (mkF m 12 #[.val (.ref p0), .val (.int (3 : Int32)), .val (.ref p0), .val (.int (4 : Int32)), .val (.int (4 : Int32)), .val (.int (f 3)), .unset, .unset] [(.int (4 : Int32))])
          refine hp (fun tq kq => XS.iloadN X0.here hx rfl (hb hby d1_12) rfl kq) ?_
          show G s₁ (mkF m 13 #[.val (.ref p0), .val (.int (3 : Int32)), .val (.ref p0), .val (.int (4 : Int32)), .val (.int (4 : Int32)), .val (.int (f 3)), .unset, .unset] [(.int (4 : Int32)), (.int (4 : Int32))])
          refine hp (fun tq kq => XS.icmpYes X0.here hx rfl (pc0 := 13) (pc' := 37) rfl (hb hby d1_13) rfl (flt (by decide)).2.1 (by decide) (by decide) kq) ?_
          show G s₁ (mkF m 37 #[.val (.ref p0), .val (.int (3 : Int32)), .val (.ref p0), .val (.int (4 : Int32)), .val (.int (4 : Int32)), .val (.int (f 3)), .unset, .unset] [])
          refine hp (fun tq kq => XS.iloadN X0.here hx rfl (hb hby d1_37) rfl kq) ?_
          show G s₁ (mkF m 38 #[.val (.ref p0), .val (.int (3 : Int32)), .val (.ref p0), .val (.int (4 : Int32)), .val (.int (4 : Int32)), .val (.int (f 3)), .unset, .unset] [(.int (3 : Int32))])
          obtain ⟨T55, h55, k55, X55, e55, E55, A55, st55⟩ := newP X0 hx hZ (hw _ (List.mem_of_getElem? (i := 1) rfl)) e0 (g := (mkF m 38 #[.val (.ref p0), .val (.int (3 : Int32)), .val (.ref p0), .val (.int (4 : Int32)), .val (.int (4 : Int32)), .val (.int (f 3)), .unset, .unset] [(.int (3 : Int32))])) rfl (hb hby d1_38) rfl (by decide) (cap := 3) (by decide) (by decide) (by decide) (by decide)
          obtain ⟨b55, g55⟩ : ∃ z, z = h0.size := ⟨_, rfl⟩
          rw [← g55] at A55 st55
          have ne55_p0 : p0 ≠ b55 := Nat.ne_of_lt (Nat.lt_of_lt_of_le V_p0.lt (Nat.le_of_eq g55.symm))
          have sz_b55 : h0.size ≤ b55 := Nat.le_trans K0.1 (Nat.le_of_eq g55.symm)
          have g_b55 : n0 ≤ b55 := Nat.le_trans Z0 sz_b55
          have V55_p0 := V_p0.ext E55
          have K55 := K0.ext E55
          have V55_b55 : own_AI Z h55 b55 .int 3 (fun _ => 0) := own_AI.new A55 (by decide) rfl 3 (by decide)
          refine hp st55 ?_
          show G T55 (mkF m 40 #[.val (.ref p0), .val (.int (3 : Int32)), .val (.ref p0), .val (.int (4 : Int32)), .val (.int (4 : Int32)), .val (.int (f 3)), .unset, .unset] [(.ref b55)])
          refine hp (fun tq kq => XS.astoreN X55.here hx rfl (hb hby d1_40) rfl rfl (l' := #[.val (.ref p0), .val (.int (3 : Int32)), .val (.ref b55), .val (.int (4 : Int32)), .val (.int (4 : Int32)), .val (.int (f 3)), .unset, .unset]) rfl kq) ?_
          show G T55 (mkF m 41 #[.val (.ref p0), .val (.int (3 : Int32)), .val (.ref b55), .val (.int (4 : Int32)), .val (.int (4 : Int32)), .val (.int (f 3)), .unset, .unset] [])
          refine hp (fun tq kq => XS.iconst X55.here hx rfl (hb hby d1_41) kq) ?_
          show G T55 (mkF m 42 #[.val (.ref p0), .val (.int (3 : Int32)), .val (.ref b55), .val (.int (4 : Int32)), .val (.int (4 : Int32)), .val (.int (f 3)), .unset, .unset] [(.int (0 : Int32))])
          refine hp (fun tq kq => XS.istoreN X55.here hx rfl (hb hby d1_42) rfl (l' := #[.val (.ref p0), .val (.int (3 : Int32)), .val (.ref b55), .val (.int (0 : Int32)), .val (.int (4 : Int32)), .val (.int (f 3)), .unset, .unset]) rfl kq) ?_
          show G T55 (mkF m 43 #[.val (.ref p0), .val (.int (3 : Int32)), .val (.ref b55), .val (.int (0 : Int32)), .val (.int (4 : Int32)), .val (.int (f 3)), .unset, .unset] [])
          refine hp (fun tq kq => XS.aloadN X55.here hx rfl (hb hby d1_43) rfl rfl kq) ?_
          show G T55 (mkF m 44 #[.val (.ref p0), .val (.int (3 : Int32)), .val (.ref b55), .val (.int (0 : Int32)), .val (.int (4 : Int32)), .val (.int (f 3)), .unset, .unset] [(.ref p0)])
          refine hp (fun tq kq => XS.astore X55.here hx rfl (hb hby d1_44) rfl rfl (l' := #[.val (.ref p0), .val (.int (3 : Int32)), .val (.ref b55), .val (.int (0 : Int32)), .val (.ref p0), .val (.int (f 3)), .unset, .unset]) rfl kq) ?_
          show G T55 (mkF m 46 #[.val (.ref p0), .val (.int (3 : Int32)), .val (.ref b55), .val (.int (0 : Int32)), .val (.ref p0), .val (.int (f 3)), .unset, .unset] [])
          refine hp (fun tq kq => XS.aload X55.here hx rfl (hb hby d1_46) rfl rfl kq) ?_
          show G T55 (mkF m 48 #[.val (.ref p0), .val (.int (3 : Int32)), .val (.ref b55), .val (.int (0 : Int32)), .val (.ref p0), .val (.int (f 3)), .unset, .unset] [(.ref p0)])
          refine hp (own_lenI X55 hx hZ e55 V55_p0 (4 : Int32) rfl (g := (mkF m 48 #[.val (.ref p0), .val (.int (3 : Int32)), .val (.ref b55), .val (.int (0 : Int32)), .val (.ref p0), .val (.int (f 3)), .unset, .unset] [(.ref p0)])) rfl rfl (hb hby d1_48)) ?_
          show G T55 (mkF m 49 #[.val (.ref p0), .val (.int (3 : Int32)), .val (.ref b55), .val (.int (0 : Int32)), .val (.ref p0), .val (.int (f 3)), .unset, .unset] [(.int (4 : Int32))])
          refine hp (fun tq kq => XS.istore X55.here hx rfl (hb hby d1_49) rfl (l' := #[.val (.ref p0), .val (.int (3 : Int32)), .val (.ref b55), .val (.int (0 : Int32)), .val (.ref p0), .val (.int (4 : Int32)), .unset, .unset]) rfl kq) ?_
          show G T55 (mkF m 51 #[.val (.ref p0), .val (.int (3 : Int32)), .val (.ref b55), .val (.int (0 : Int32)), .val (.ref p0), .val (.int (4 : Int32)), .unset, .unset] [])
          refine hp (fun tq kq => XS.iconst X55.here hx rfl (hb hby d1_51) kq) ?_
          show G T55 (mkF m 52 #[.val (.ref p0), .val (.int (3 : Int32)), .val (.ref b55), .val (.int (0 : Int32)), .val (.ref p0), .val (.int (4 : Int32)), .unset, .unset] [(.int (0 : Int32))])
          refine hp (fun tq kq => XS.istore X55.here hx rfl (hb hby d1_52) rfl (l' := #[.val (.ref p0), .val (.int (3 : Int32)), .val (.ref b55), .val (.int (0 : Int32)), .val (.ref p0), .val (.int (4 : Int32)), .val (.int (0 : Int32)), .unset]) rfl kq) ?_
          show G T55 (mkF m 54 #[.val (.ref p0), .val (.int (3 : Int32)), .val (.ref b55), .val (.int (0 : Int32)), .val (.ref p0), .val (.int (4 : Int32)), .val (.int (0 : Int32)), .unset] [])
          refine hp (fun tq kq => XS.iload X55.here hx rfl (hb hby d1_54) rfl kq) ?_
          show G T55 (mkF m 56 #[.val (.ref p0), .val (.int (3 : Int32)), .val (.ref b55), .val (.int (0 : Int32)), .val (.ref p0), .val (.int (4 : Int32)), .val (.int (0 : Int32)), .unset] [(.int (0 : Int32))])
          refine hp (fun tq kq => XS.iload X55.here hx rfl (hb hby d1_56) rfl kq) ?_
          show G T55 (mkF m 58 #[.val (.ref p0), .val (.int (3 : Int32)), .val (.ref b55), .val (.int (0 : Int32)), .val (.ref p0), .val (.int (4 : Int32)), .val (.int (0 : Int32)), .unset] [(.int (4 : Int32)), (.int (0 : Int32))])
          refine hp (fun tq kq => XS.icmpNo X55.here hx rfl (hb hby d1_58) rfl (tlt (by decide)).2.1 kq) ?_
          show G T55 (mkF m 61 #[.val (.ref p0), .val (.int (3 : Int32)), .val (.ref b55), .val (.int (0 : Int32)), .val (.ref p0), .val (.int (4 : Int32)), .val (.int (0 : Int32)), .unset] [])
          refine hp (fun tq kq => XS.aload X55.here hx rfl (hb hby d1_61) rfl rfl kq) ?_
          show G T55 (mkF m 63 #[.val (.ref p0), .val (.int (3 : Int32)), .val (.ref b55), .val (.int (0 : Int32)), .val (.ref p0), .val (.int (4 : Int32)), .val (.int (0 : Int32)), .unset] [(.ref p0)])
          refine hp (fun tq kq => XS.iload X55.here hx rfl (hb hby d1_63) rfl kq) ?_
          show G T55 (mkF m 65 #[.val (.ref p0), .val (.int (3 : Int32)), .val (.ref b55), .val (.int (0 : Int32)), .val (.ref p0), .val (.int (4 : Int32)), .val (.int (0 : Int32)), .unset] [(.int (0 : Int32)), (.ref p0)])
          refine hp (own_ldI X55 hx hZ e55 V55_p0 (j := (0 : Int32)) 0 (by decide) (by decide) (by decide) (g := (mkF m 65 #[.val (.ref p0), .val (.int (3 : Int32)), .val (.ref b55), .val (.int (0 : Int32)), .val (.ref p0), .val (.int (4 : Int32)), .val (.int (0 : Int32)), .unset] [(.int (0 : Int32)), (.ref p0)])) rfl rfl (hb hby d1_65)) ?_
          show G T55 (mkF m 66 #[.val (.ref p0), .val (.int (3 : Int32)), .val (.ref b55), .val (.int (0 : Int32)), .val (.ref p0), .val (.int (4 : Int32)), .val (.int (0 : Int32)), .unset] [(.int (f 0))])
          refine hp (fun tq kq => XS.istore X55.here hx rfl (hb hby d1_66) rfl (l' := #[.val (.ref p0), .val (.int (3 : Int32)), .val (.ref b55), .val (.int (0 : Int32)), .val (.ref p0), .val (.int (4 : Int32)), .val (.int (0 : Int32)), .val (.int (f 0))]) rfl kq) ?_
          show G T55 (mkF m 68 #[.val (.ref p0), .val (.int (3 : Int32)), .val (.ref b55), .val (.int (0 : Int32)), .val (.ref p0), .val (.int (4 : Int32)), .val (.int (0 : Int32)), .val (.int (f 0))] [])
          refine hp (fun tq kq => XS.iload X55.here hx rfl (hb hby d1_68) rfl kq) ?_
          show G T55 (mkF m 70 #[.val (.ref p0), .val (.int (3 : Int32)), .val (.ref b55), .val (.int (0 : Int32)), .val (.ref p0), .val (.int (4 : Int32)), .val (.int (0 : Int32)), .val (.int (f 0))] [(.int (f 0))])
          refine hp (fun tq kq => XS.iconst X55.here hx rfl (hb hby d1_70) kq) ?_
          show G T55 (mkF m 71 #[.val (.ref p0), .val (.int (3 : Int32)), .val (.ref b55), .val (.int (0 : Int32)), .val (.ref p0), .val (.int (4 : Int32)), .val (.int (0 : Int32)), .val (.int (f 0))] [(.int (-1 : Int32)), (.int (f 0))])
          refine hp (fun tq kq => XS.icmpNo X55.here hx rfl (hb hby d1_71) rfl (feq hb1).1 kq) ?_
          show G T55 (mkF m 74 #[.val (.ref p0), .val (.int (3 : Int32)), .val (.ref b55), .val (.int (0 : Int32)), .val (.ref p0), .val (.int (4 : Int32)), .val (.int (0 : Int32)), .val (.int (f 0))] [])
          refine hp (fun tq kq => XS.aloadN X55.here hx rfl (hb hby d1_74) rfl rfl kq) ?_
          show G T55 (mkF m 75 #[.val (.ref p0), .val (.int (3 : Int32)), .val (.ref b55), .val (.int (0 : Int32)), .val (.ref p0), .val (.int (4 : Int32)), .val (.int (0 : Int32)), .val (.int (f 0))] [(.ref b55)])
          refine hp (fun tq kq => XS.iloadN X55.here hx rfl (hb hby d1_75) rfl kq) ?_
          show G T55 (mkF m 76 #[.val (.ref p0), .val (.int (3 : Int32)), .val (.ref b55), .val (.int (0 : Int32)), .val (.ref p0), .val (.int (4 : Int32)), .val (.int (0 : Int32)), .val (.int (f 0))] [(.int (0 : Int32)), (.ref b55)])
          refine hp (fun tq kq => XS.iload X55.here hx rfl (hb hby d1_76) rfl kq) ?_
          show G T55 (mkF m 78 #[.val (.ref p0), .val (.int (3 : Int32)), .val (.ref b55), .val (.int (0 : Int32)), .val (.ref p0), .val (.int (4 : Int32)), .val (.int (0 : Int32)), .val (.int (f 0))] [(.int (f 0)), (.int (0 : Int32)), (.ref b55)])
          obtain ⟨T56, h56, X56, e56, W56, V56_b55, st56⟩ := own_stI X55 hx hZ e55 V55_b55 (j := (0 : Int32)) 0 (by decide) (by decide) (by decide) (g := (mkF m 78 #[.val (.ref p0), .val (.int (3 : Int32)), .val (.ref b55), .val (.int (0 : Int32)), .val (.ref p0), .val (.int (4 : Int32)), .val (.int (0 : Int32)), .val (.int (f 0))] [(.int (f 0)), (.int (0 : Int32)), (.ref b55)])) rfl rfl (hb hby d1_78)
          have V56_p0 := V55_p0.other W56 ne55_p0
          have K56 := K55.wr W56 (Or.inr sz_b55)
          have N56 := Fr.snoc X56 N0 g_b55
          refine hp st56 ?_
          show G T56 (mkF m 79 #[.val (.ref p0), .val (.int (3 : Int32)), .val (.ref b55), .val (.int (0 : Int32)), .val (.ref p0), .val (.int (4 : Int32)), .val (.int (0 : Int32)), .val (.int (f 0))] [])
          refine hp (fun tq kq => XS.iinc X56.here hx rfl (hb hby d1_79) rfl (l' := #[.val (.ref p0), .val (.int (3 : Int32)), .val (.ref b55), .val (.int (1 : Int32)), .val (.ref p0), .val (.int (4 : Int32)), .val (.int (0 : Int32)), .val (.int (f 0))]) rfl kq) ?_
          show G T56 (mkF m 82 #[.val (.ref p0), .val (.int (3 : Int32)), .val (.ref b55), .val (.int (1 : Int32)), .val (.ref p0), .val (.int (4 : Int32)), .val (.int (0 : Int32)), .val (.int (f 0))] [])
          refine hp (fun tq kq => XS.iinc X56.here hx rfl (hb hby d1_82) rfl (l' := #[.val (.ref p0), .val (.int (3 : Int32)), .val (.ref b55), .val (.int (1 : Int32)), .val (.ref p0), .val (.int (4 : Int32)), .val (.int (1 : Int32)), .val (.int (f 0))]) rfl kq) ?_
          show G T56 (mkF m 85 #[.val (.ref p0), .val (.int (3 : Int32)), .val (.ref b55), .val (.int (1 : Int32)), .val (.ref p0), .val (.int (4 : Int32)), .val (.int (1 : Int32)), .val (.int (f 0))] [])
          refine hp (fun tq kq => XS.goto X56.here hx rfl (pc0 := 85) (pc' := 54) rfl (hb hby d1_85) (by decide) (by decide) kq) ?_
          show G T56 (mkF m 54 #[.val (.ref p0), .val (.int (3 : Int32)), .val (.ref b55), .val (.int (1 : Int32)), .val (.ref p0), .val (.int (4 : Int32)), .val (.int (1 : Int32)), .val (.int (f 0))] [])
          refine hp (fun tq kq => XS.iload X56.here hx rfl (hb hby d1_54) rfl kq) ?_
          show G T56 (mkF m 56 #[.val (.ref p0), .val (.int (3 : Int32)), .val (.ref b55), .val (.int (1 : Int32)), .val (.ref p0), .val (.int (4 : Int32)), .val (.int (1 : Int32)), .val (.int (f 0))] [(.int (1 : Int32))])
          refine hp (fun tq kq => XS.iload X56.here hx rfl (hb hby d1_56) rfl kq) ?_
          show G T56 (mkF m 58 #[.val (.ref p0), .val (.int (3 : Int32)), .val (.ref b55), .val (.int (1 : Int32)), .val (.ref p0), .val (.int (4 : Int32)), .val (.int (1 : Int32)), .val (.int (f 0))] [(.int (4 : Int32)), (.int (1 : Int32))])
          refine hp (fun tq kq => XS.icmpNo X56.here hx rfl (hb hby d1_58) rfl (tlt (by decide)).2.1 kq) ?_
          show G T56 (mkF m 61 #[.val (.ref p0), .val (.int (3 : Int32)), .val (.ref b55), .val (.int (1 : Int32)), .val (.ref p0), .val (.int (4 : Int32)), .val (.int (1 : Int32)), .val (.int (f 0))] [])
          refine hp (fun tq kq => XS.aload X56.here hx rfl (hb hby d1_61) rfl rfl kq) ?_
          show G T56 (mkF m 63 #[.val (.ref p0), .val (.int (3 : Int32)), .val (.ref b55), .val (.int (1 : Int32)), .val (.ref p0), .val (.int (4 : Int32)), .val (.int (1 : Int32)), .val (.int (f 0))] [(.ref p0)])
          refine hp (fun tq kq => XS.iload X56.here hx rfl (hb hby d1_63) rfl kq) ?_
          show G T56 (mkF m 65 #[.val (.ref p0), .val (.int (3 : Int32)), .val (.ref b55), .val (.int (1 : Int32)), .val (.ref p0), .val (.int (4 : Int32)), .val (.int (1 : Int32)), .val (.int (f 0))] [(.int (1 : Int32)), (.ref p0)])
          refine hp (own_ldI X56 hx hZ e56 V56_p0 (j := (1 : Int32)) 1 (by decide) (by decide) (by decide) (g := (mkF m 65 #[.val (.ref p0), .val (.int (3 : Int32)), .val (.ref b55), .val (.int (1 : Int32)), .val (.ref p0), .val (.int (4 : Int32)), .val (.int (1 : Int32)), .val (.int (f 0))] [(.int (1 : Int32)), (.ref p0)])) rfl rfl (hb hby d1_65)) ?_
          show G T56 (mkF m 66 #[.val (.ref p0), .val (.int (3 : Int32)), .val (.ref b55), .val (.int (1 : Int32)), .val (.ref p0), .val (.int (4 : Int32)), .val (.int (1 : Int32)), .val (.int (f 0))] [(.int (f 1))])
          refine hp (fun tq kq => XS.istore X56.here hx rfl (hb hby d1_66) rfl (l' := #[.val (.ref p0), .val (.int (3 : Int32)), .val (.ref b55), .val (.int (1 : Int32)), .val (.ref p0), .val (.int (4 : Int32)), .val (.int (1 : Int32)), .val (.int (f 1))]) rfl kq) ?_
          show G T56 (mkF m 68 #[.val (.ref p0), .val (.int (3 : Int32)), .val (.ref b55), .val (.int (1 : Int32)), .val (.ref p0), .val (.int (4 : Int32)), .val (.int (1 : Int32)), .val (.int (f 1))] [])
          refine hp (fun tq kq => XS.iload X56.here hx rfl (hb hby d1_68) rfl kq) ?_
          show G T56 (mkF m 70 #[.val (.ref p0), .val (.int (3 : Int32)), .val (.ref b55), .val (.int (1 : Int32)), .val (.ref p0), .val (.int (4 : Int32)), .val (.int (1 : Int32)), .val (.int (f 1))] [(.int (f 1))])
          refine hp (fun tq kq => XS.iconst X56.here hx rfl (hb hby d1_70) kq) ?_
          show G T56 (mkF m 71 #[.val (.ref p0), .val (.int (3 : Int32)), .val (.ref b55), .val (.int (1 : Int32)), .val (.ref p0), .val (.int (4 : Int32)), .val (.int (1 : Int32)), .val (.int (f 1))] [(.int (-1 : Int32)), (.int (f 1))])
          refine hp (fun tq kq => XS.icmpNo X56.here hx rfl (hb hby d1_71) rfl (feq hb29).1 kq) ?_
          show G T56 (mkF m 74 #[.val (.ref p0), .val (.int (3 : Int32)), .val (.ref b55), .val (.int (1 : Int32)), .val (.ref p0), .val (.int (4 : Int32)), .val (.int (1 : Int32)), .val (.int (f 1))] [])
          refine hp (fun tq kq => XS.aloadN X56.here hx rfl (hb hby d1_74) rfl rfl kq) ?_
          show G T56 (mkF m 75 #[.val (.ref p0), .val (.int (3 : Int32)), .val (.ref b55), .val (.int (1 : Int32)), .val (.ref p0), .val (.int (4 : Int32)), .val (.int (1 : Int32)), .val (.int (f 1))] [(.ref b55)])
          refine hp (fun tq kq => XS.iloadN X56.here hx rfl (hb hby d1_75) rfl kq) ?_
          show G T56 (mkF m 76 #[.val (.ref p0), .val (.int (3 : Int32)), .val (.ref b55), .val (.int (1 : Int32)), .val (.ref p0), .val (.int (4 : Int32)), .val (.int (1 : Int32)), .val (.int (f 1))] [(.int (1 : Int32)), (.ref b55)])
          refine hp (fun tq kq => XS.iload X56.here hx rfl (hb hby d1_76) rfl kq) ?_
          show G T56 (mkF m 78 #[.val (.ref p0), .val (.int (3 : Int32)), .val (.ref b55), .val (.int (1 : Int32)), .val (.ref p0), .val (.int (4 : Int32)), .val (.int (1 : Int32)), .val (.int (f 1))] [(.int (f 1)), (.int (1 : Int32)), (.ref b55)])
          obtain ⟨T57, h57, X57, e57, W57, V57_b55, st57⟩ := own_stI X56 hx hZ e56 V56_b55 (j := (1 : Int32)) 1 (by decide) (by decide) (by decide) (g := (mkF m 78 #[.val (.ref p0), .val (.int (3 : Int32)), .val (.ref b55), .val (.int (1 : Int32)), .val (.ref p0), .val (.int (4 : Int32)), .val (.int (1 : Int32)), .val (.int (f 1))] [(.int (f 1)), (.int (1 : Int32)), (.ref b55)])) rfl rfl (hb hby d1_78)
          have V57_p0 := V56_p0.other W57 ne55_p0
          have K57 := K56.wr W57 (Or.inr sz_b55)
          have N57 := Fr.snoc X57 N56 g_b55
          refine hp st57 ?_
          show G T57 (mkF m 79 #[.val (.ref p0), .val (.int (3 : Int32)), .val (.ref b55), .val (.int (1 : Int32)), .val (.ref p0), .val (.int (4 : Int32)), .val (.int (1 : Int32)), .val (.int (f 1))] [])
          refine hp (fun tq kq => XS.iinc X57.here hx rfl (hb hby d1_79) rfl (l' := #[.val (.ref p0), .val (.int (3 : Int32)), .val (.ref b55), .val (.int (2 : Int32)), .val (.ref p0), .val (.int (4 : Int32)), .val (.int (1 : Int32)), .val (.int (f 1))]) rfl kq) ?_
          show G T57 (mkF m 82 #[.val (.ref p0), .val (.int (3 : Int32)), .val (.ref b55), .val (.int (2 : Int32)), .val (.ref p0), .val (.int (4 : Int32)), .val (.int (1 : Int32)), .val (.int (f 1))] [])
          refine hp (fun tq kq => XS.iinc X57.here hx rfl (hb hby d1_82) rfl (l' := #[.val (.ref p0), .val (.int (3 : Int32)), .val (.ref b55), .val (.int (2 : Int32)), .val (.ref p0), .val (.int (4 : Int32)), .val (.int (2 : Int32)), .val (.int (f 1))]) rfl kq) ?_
          show G T57 (mkF m 85 #[.val (.ref p0), .val (.int (3 : Int32)), .val (.ref b55), .val (.int (2 : Int32)), .val (.ref p0), .val (.int (4 : Int32)), .val (.int (2 : Int32)), .val (.int (f 1))] [])
          refine hp (fun tq kq => XS.goto X57.here hx rfl (pc0 := 85) (pc' := 54) rfl (hb hby d1_85) (by decide) (by decide) kq) ?_
          show G T57 (mkF m 54 #[.val (.ref p0), .val (.int (3 : Int32)), .val (.ref b55), .val (.int (2 : Int32)), .val (.ref p0), .val (.int (4 : Int32)), .val (.int (2 : Int32)), .val (.int (f 1))] [])
          refine hp (fun tq kq => XS.iload X57.here hx rfl (hb hby d1_54) rfl kq) ?_
          show G T57 (mkF m 56 #[.val (.ref p0), .val (.int (3 : Int32)), .val (.ref b55), .val (.int (2 : Int32)), .val (.ref p0), .val (.int (4 : Int32)), .val (.int (2 : Int32)), .val (.int (f 1))] [(.int (2 : Int32))])
          refine hp (fun tq kq => XS.iload X57.here hx rfl (hb hby d1_56) rfl kq) ?_
          show G T57 (mkF m 58 #[.val (.ref p0), .val (.int (3 : Int32)), .val (.ref b55), .val (.int (2 : Int32)), .val (.ref p0), .val (.int (4 : Int32)), .val (.int (2 : Int32)), .val (.int (f 1))] [(.int (4 : Int32)), (.int (2 : Int32))])
          refine hp (fun tq kq => XS.icmpNo X57.here hx rfl (hb hby d1_58) rfl (tlt (by decide)).2.1 kq) ?_
          show G T57 (mkF m 61 #[.val (.ref p0), .val (.int (3 : Int32)), .val (.ref b55), .val (.int (2 : Int32)), .val (.ref p0), .val (.int (4 : Int32)), .val (.int (2 : Int32)), .val (.int (f 1))] [])
          refine hp (fun tq kq => XS.aload X57.here hx rfl (hb hby d1_61) rfl rfl kq) ?_
          show G T57 (mkF m 63 #[.val (.ref p0), .val (.int (3 : Int32)), .val (.ref b55), .val (.int (2 : Int32)), .val (.ref p0), .val (.int (4 : Int32)), .val (.int (2 : Int32)), .val (.int (f 1))] [(.ref p0)])
          refine hp (fun tq kq => XS.iload X57.here hx rfl (hb hby d1_63) rfl kq) ?_
          show G T57 (mkF m 65 #[.val (.ref p0), .val (.int (3 : Int32)), .val (.ref b55), .val (.int (2 : Int32)), .val (.ref p0), .val (.int (4 : Int32)), .val (.int (2 : Int32)), .val (.int (f 1))] [(.int (2 : Int32)), (.ref p0)])
          refine hp (own_ldI X57 hx hZ e57 V57_p0 (j := (2 : Int32)) 2 (by decide) (by decide) (by decide) (g := (mkF m 65 #[.val (.ref p0), .val (.int (3 : Int32)), .val (.ref b55), .val (.int (2 : Int32)), .val (.ref p0), .val (.int (4 : Int32)), .val (.int (2 : Int32)), .val (.int (f 1))] [(.int (2 : Int32)), (.ref p0)])) rfl rfl (hb hby d1_65)) ?_
          show G T57 (mkF m 66 #[.val (.ref p0), .val (.int (3 : Int32)), .val (.ref b55), .val (.int (2 : Int32)), .val (.ref p0), .val (.int (4 : Int32)), .val (.int (2 : Int32)), .val (.int (f 1))] [(.int (f 2))])
          refine hp (fun tq kq => XS.istore X57.here hx rfl (hb hby d1_66) rfl (l' := #[.val (.ref p0), .val (.int (3 : Int32)), .val (.ref b55), .val (.int (2 : Int32)), .val (.ref p0), .val (.int (4 : Int32)), .val (.int (2 : Int32)), .val (.int (f 2))]) rfl kq) ?_
          show G T57 (mkF m 68 #[.val (.ref p0), .val (.int (3 : Int32)), .val (.ref b55), .val (.int (2 : Int32)), .val (.ref p0), .val (.int (4 : Int32)), .val (.int (2 : Int32)), .val (.int (f 2))] [])
          refine hp (fun tq kq => XS.iload X57.here hx rfl (hb hby d1_68) rfl kq) ?_
          show G T57 (mkF m 70 #[.val (.ref p0), .val (.int (3 : Int32)), .val (.ref b55), .val (.int (2 : Int32)), .val (.ref p0), .val (.int (4 : Int32)), .val (.int (2 : Int32)), .val (.int (f 2))] [(.int (f 2))])
          refine hp (fun tq kq => XS.iconst X57.here hx rfl (hb hby d1_70) kq) ?_
          show G T57 (mkF m 71 #[.val (.ref p0), .val (.int (3 : Int32)), .val (.ref b55), .val (.int (2 : Int32)), .val (.ref p0), .val (.int (4 : Int32)), .val (.int (2 : Int32)), .val (.int (f 2))] [(.int (-1 : Int32)), (.int (f 2))])
          refine hp (fun tq kq => XS.icmpNo X57.here hx rfl (hb hby d1_71) rfl (feq hb45).1 kq) ?_
          show G T57 (mkF m 74 #[.val (.ref p0), .val (.int (3 : Int32)), .val (.ref b55), .val (.int (2 : Int32)), .val (.ref p0), .val (.int (4 : Int32)), .val (.int (2 : Int32)), .val (.int (f 2))] [])
          refine hp (fun tq kq => XS.aloadN X57.here hx rfl (hb hby d1_74) rfl rfl kq) ?_
          show G T57 (mkF m 75 #[.val (.ref p0), .val (.int (3 : Int32)), .val (.ref b55), .val (.int (2 : Int32)), .val (.ref p0), .val (.int (4 : Int32)), .val (.int (2 : Int32)), .val (.int (f 2))] [(.ref b55)])
          refine hp (fun tq kq => XS.iloadN X57.here hx rfl (hb hby d1_75) rfl kq) ?_
          show G T57 (mkF m 76 #[.val (.ref p0), .val (.int (3 : Int32)), .val (.ref b55), .val (.int (2 : Int32)), .val (.ref p0), .val (.int (4 : Int32)), .val (.int (2 : Int32)), .val (.int (f 2))] [(.int (2 : Int32)), (.ref b55)])
          refine hp (fun tq kq => XS.iload X57.here hx rfl (hb hby d1_76) rfl kq) ?_
          show G T57 (mkF m 78 #[.val (.ref p0), .val (.int (3 : Int32)), .val (.ref b55), .val (.int (2 : Int32)), .val (.ref p0), .val (.int (4 : Int32)), .val (.int (2 : Int32)), .val (.int (f 2))] [(.int (f 2)), (.int (2 : Int32)), (.ref b55)])
          obtain ⟨T58, h58, X58, e58, W58, V58_b55, st58⟩ := own_stI X57 hx hZ e57 V57_b55 (j := (2 : Int32)) 2 (by decide) (by decide) (by decide) (g := (mkF m 78 #[.val (.ref p0), .val (.int (3 : Int32)), .val (.ref b55), .val (.int (2 : Int32)), .val (.ref p0), .val (.int (4 : Int32)), .val (.int (2 : Int32)), .val (.int (f 2))] [(.int (f 2)), (.int (2 : Int32)), (.ref b55)])) rfl rfl (hb hby d1_78)
          have V58_p0 := V57_p0.other W58 ne55_p0
          have K58 := K57.wr W58 (Or.inr sz_b55)
          have N58 := Fr.snoc X58 N57 g_b55
          refine hp st58 ?_
          show G T58 (mkF m 79 #[.val (.ref p0), .val (.int (3 : Int32)), .val (.ref b55), .val (.int (2 : Int32)), .val (.ref p0), .val (.int (4 : Int32)), .val (.int (2 : Int32)), .val (.int (f 2))] [])
          refine hp (fun tq kq => XS.iinc X58.here hx rfl (hb hby d1_79) rfl (l' := #[.val (.ref p0), .val (.int (3 : Int32)), .val (.ref b55), .val (.int (3 : Int32)), .val (.ref p0), .val (.int (4 : Int32)), .val (.int (2 : Int32)), .val (.int (f 2))]) rfl kq) ?_
          show G T58 (mkF m 82 #[.val (.ref p0), .val (.int (3 : Int32)), .val (.ref b55), .val (.int (3 : Int32)), .val (.ref p0), .val (.int (4 : Int32)), .val (.int (2 : Int32)), .val (.int (f 2))] [])
          refine hp (fun tq kq => XS.iinc X58.here hx rfl (hb hby d1_82) rfl (l' := #[.val (.ref p0), .val (.int (3 : Int32)), .val (.ref b55), .val (.int (3 : Int32)), .val (.ref p0), .val (.int (4 : Int32)), .val (.int (3 : Int32)), .val (.int (f 2))]) rfl kq) ?_
          show G T58 (mkF m 85 #[.val (.ref p0), .val (.int (3 : Int32)), .val (.ref b55), .val (.int (3 : Int32)), .val (.ref p0), .val (.int (4 : Int32)), .val (.int (3 : Int32)), .val (.int (f 2))] [])
          refine hp (fun tq kq => XS.goto X58.here hx rfl (pc0 := 85) (pc' := 54) rfl (hb hby d1_85) (by decide) (by decide) kq) ?_
          show G T58 (mkF m 54 #[.val (.ref p0), .val (.int (3 : Int32)), .val (.ref b55), .val (.int (3 : Int32)), .val (.ref p0), .val (.int (4 : Int32)), .val (.int (3 : Int32)), .val (.int (f 2))] [])
          refine hp (fun tq kq => XS.iload X58.here hx rfl (hb hby d1_54) rfl kq) ?_
          show G T58 (mkF m 56 #[.val (.ref p0), .val (.int (3 : Int32)), .val (.ref b55), .val (.int (3 : Int32)), .val (.ref p0), .val (.int (4 : Int32)), .val (.int (3 : Int32)), .val (.int (f 2))] [(.int (3 : Int32))])
          refine hp (fun tq kq => XS.iload X58.here hx rfl (hb hby d1_56) rfl kq) ?_
          show G T58 (mkF m 58 #[.val (.ref p0), .val (.int (3 : Int32)), .val (.ref b55), .val (.int (3 : Int32)), .val (.ref p0), .val (.int (4 : Int32)), .val (.int (3 : Int32)), .val (.int (f 2))] [(.int (4 : Int32)), (.int (3 : Int32))])
          refine hp (fun tq kq => XS.icmpNo X58.here hx rfl (hb hby d1_58) rfl (tlt (by decide)).2.1 kq) ?_
          show G T58 (mkF m 61 #[.val (.ref p0), .val (.int (3 : Int32)), .val (.ref b55), .val (.int (3 : Int32)), .val (.ref p0), .val (.int (4 : Int32)), .val (.int (3 : Int32)), .val (.int (f 2))] [])
          refine hp (fun tq kq => XS.aload X58.here hx rfl (hb hby d1_61) rfl rfl kq) ?_
          show G T58 (mkF m 63 #[.val (.ref p0), .val (.int (3 : Int32)), .val (.ref b55), .val (.int (3 : Int32)), .val (.ref p0), .val (.int (4 : Int32)), .val (.int (3 : Int32)), .val (.int (f 2))] [(.ref p0)])
          refine hp (fun tq kq => XS.iload X58.here hx rfl (hb hby d1_63) rfl kq) ?_
          show G T58 (mkF m 65 #[.val (.ref p0), .val (.int (3 : Int32)), .val (.ref b55), .val (.int (3 : Int32)), .val (.ref p0), .val (.int (4 : Int32)), .val (.int (3 : Int32)), .val (.int (f 2))] [(.int (3 : Int32)), (.ref p0)])
          refine hp (own_ldI X58 hx hZ e58 V58_p0 (j := (3 : Int32)) 3 (by decide) (by decide) (by decide) (g := (mkF m 65 #[.val (.ref p0), .val (.int (3 : Int32)), .val (.ref b55), .val (.int (3 : Int32)), .val (.ref p0), .val (.int (4 : Int32)), .val (.int (3 : Int32)), .val (.int (f 2))] [(.int (3 : Int32)), (.ref p0)])) rfl rfl (hb hby d1_65)) ?_
          show G T58 (mkF m 66 #[.val (.ref p0), .val (.int (3 : Int32)), .val (.ref b55), .val (.int (3 : Int32)), .val (.ref p0), .val (.int (4 : Int32)), .val (.int (3 : Int32)), .val (.int (f 2))] [(.int (f 3))])
          refine hp (fun tq kq => XS.istore X58.here hx rfl (hb hby d1_66) rfl (l' := #[.val (.ref p0), .val (.int (3 : Int32)), .val (.ref b55), .val (.int (3 : Int32)), .val (.ref p0), .val (.int (4 : Int32)), .val (.int (3 : Int32)), .val (.int (f 3))]) rfl kq) ?_
          show G T58 (mkF m 68 #[.val (.ref p0), .val (.int (3 : Int32)), .val (.ref b55), .val (.int (3 : Int32)), .val (.ref p0), .val (.int (4 : Int32)), .val (.int (3 : Int32)), .val (.int (f 3))] [])
          refine hp (fun tq kq => XS.iload X58.here hx rfl (hb hby d1_68) rfl kq) ?_
          show G T58 (mkF m 70 #[.val (.ref p0), .val (.int (3 : Int32)), .val (.ref b55), .val (.int (3 : Int32)), .val (.ref p0), .val (.int (4 : Int32)), .val (.int (3 : Int32)), .val (.int (f 3))] [(.int (f 3))])
          refine hp (fun tq kq => XS.iconst X58.here hx rfl (hb hby d1_70) kq) ?_
          show G T58 (mkF m 71 #[.val (.ref p0), .val (.int (3 : Int32)), .val (.ref b55), .val (.int (3 : Int32)), .val (.ref p0), .val (.int (4 : Int32)), .val (.int (3 : Int32)), .val (.int (f 3))] [(.int (-1 : Int32)), (.int (f 3))])
          refine hp (fun tq kq => XS.icmpYes X58.here hx rfl (pc0 := 71) (pc' := 82) rfl (hb hby d1_71) rfl (teq hb54).1 (by decide) (by decide) kq) ?_
          show G T58 (mkF m 82 #[.val (.ref p0), .val (.int (3 : Int32)), .val (.ref b55), .val (.int (3 : Int32)), .val (.ref p0), .val (.int (4 : Int32)), .val (.int (3 : Int32)), .val (.int (f 3))] [])
          refine hp (fun tq kq => XS.iinc X58.here hx rfl (hb hby d1_82) rfl (l' := #[.val (.ref p0), .val (.int (3 : Int32)), .val (.ref b55), .val (.int (3 : Int32)), .val (.ref p0), .val (.int (4 : Int32)), .val (.int (4 : Int32)), .val (.int (f 3))]) rfl kq) ?_
          show G T58 (mkF m 85 #[.val (.ref p0), .val (.int (3 : Int32)), .val (.ref b55), .val (.int (3 : Int32)), .val (.ref p0), .val (.int (4 : Int32)), .val (.int (4 : Int32)), .val (.int (f 3))] [])
          refine hp (fun tq kq => XS.goto X58.here hx rfl (pc0 := 85) (pc' := 54) rfl (hb hby d1_85) (by decide) (by decide) kq) ?_
          show G T58 (mkF m 54 #[.val (.ref p0), .val (.int (3 : Int32)), .val (.ref b55), .val (.int (3 : Int32)), .val (.ref p0), .val (.int (4 : Int32)), .val (.int (4 : Int32)), .val (.int (f 3))] [])
          refine hp (fun tq kq => XS.iload X58.here hx rfl (hb hby d1_54) rfl kq) ?_
          show G T58 (mkF m 56 #[.val (.ref p0), .val (.int (3 : Int32)), .val (.ref b55), .val (.int (3 : Int32)), .val (.ref p0), .val (.int (4 : Int32)), .val (.int (4 : Int32)), .val (.int (f 3))] [(.int (4 : Int32))])
          refine hp (fun tq kq => XS.iload X58.here hx rfl (hb hby d1_56) rfl kq) ?_
          show G T58 (mkF m 58 #[.val (.ref p0), .val (.int (3 : Int32)), .val (.ref b55), .val (.int (3 : Int32)), .val (.ref p0), .val (.int (4 : Int32)), .val (.int (4 : Int32)), .val (.int (f 3))] [(.int (4 : Int32)), (.int (4 : Int32))])
          refine hp (fun tq kq => XS.icmpYes X58.here hx rfl (pc0 := 58) (pc' := 88) rfl (hb hby d1_58) rfl (flt (by decide)).2.1 (by decide) (by decide) kq) ?_
          show G T58 (mkF m 88 #[.val (.ref p0), .val (.int (3 : Int32)), .val (.ref b55), .val (.int (3 : Int32)), .val (.ref p0), .val (.int (4 : Int32)), .val (.int (4 : Int32)), .val (.int (f 3))] [])
          refine hp (fun tq kq => XS.aloadN X58.here hx rfl (hb hby d1_88) rfl rfl kq) ?_
          show G T58 (mkF m 89 #[.val (.ref p0), .val (.int (3 : Int32)), .val (.ref b55), .val (.int (3 : Int32)), .val (.ref p0), .val (.int (4 : Int32)), .val (.int (4 : Int32)), .val (.int (f 3))] [(.ref b55)])
          exact hR X58 (fun fs hl => own_retA X58 hx hret rfl (hb hby d1_89) hl) (fun q => by rw [hret] at q; cases q) (by rw [e58]; exact ⟨b55, 3, (own_up (own_up (own_up (fun _ => (0 : Int32)) 0 (f 0)) 1 (f 1)) 2 (f 2)), rfl, N58, K58, sz_b55, V58_b55, own_seld (l := [(f 0), (f 1), (f 2)]) (own_sel_of (a := [f 0]) (b := [f 1]) (c := [f 2]) (d := []) (if_neg hb1) (if_neg hb29) (if_neg hb45) (if_pos hb54)) rfl (own_pick3 rfl rfl rfl rfl)⟩) (by decide) (by decide)
        · refine hp (fun tq kq => XS.icmpNo X0.here hx rfl (hb hby d1_25) rfl (feq hb54).1 kq) ?_
          show G s₁ (mkF m 28 #[.val (.ref p0), .val (.int (3 : Int32)), .val (.ref p0), .val (.int (4 : Int32)), .val (.int (3 : Int32)), .val (.int (f 3)), .unset, .unset] [])
          refine hp (fun tq kq => XS.iinc X0.here hx rfl (hb hby d1_28) rfl (l' := #[.val (.ref p0), .val (.int (4 : Int32)), .val (.ref p0), .val (.int (4 : Int32)), .val (.int (3 : Int32)), .val (.int (f 3)), .unset, .unset]) rfl kq) ?_
          show G s₁ (mkF m 31 #[.val (.ref p0), .val (.int (4 : Int32)), .val (.ref p0), .val (.int (4 : Int32)), .val (.int (3 : Int32)), .val (.int (f 3)), .unset, .unset] [])
          refine hp (fun tq kq => XS.iinc X0.here hx rfl (hb hby d1_31) rfl (l' := #[.val (.ref p0), .val (.int (4 : Int32)), .val (.ref p0), .val (.int (4 : Int32)), .val (.int (4 : Int32)), .val (.int (f 3)), .unset, .unset]) rfl kq) ?_
          show G s₁ (mkF m 34 #[.val (.ref p0), .val (.int (4 : Int32)), .val (.ref p0), .val (.int (4 : Int32)), .val (.int (4 : Int32)), .val (.int (f 3)), .unset, .unset] [])
          refine hp (fun tq kq => XS.goto X0.here hx rfl (pc0 := 34) (pc' := 10) rfl (hb hby d1_34) (by decide) (by decide) kq) ?_
          show G s₁ (mkF m 10 #[.val (.ref p0), .val (.int (4 : Int32)), .val (.ref p0), .val (.int (4 : Int32)), .val (.int (4 : Int32)), .val (.int (f 3)), .unset, .unset] [])
          refine hp (fun tq kq => XS.iload X0.here hx rfl (hb hby d1_10) rfl kq) ?_
          show G s₁ (mkF m 12 #[.val (.ref p0), .val (.int (4 : Int32)), .val (.ref p0), .val (.int (4 : Int32)), .val (.int (4 : Int32)), .val (.int (f 3)), .unset, .unset] [(.int (4 : Int32))])
          refine hp (fun tq kq => XS.iloadN X0.here hx rfl (hb hby d1_12) rfl kq) ?_
          show G s₁ (mkF m 13 #[.val (.ref p0), .val (.int (4 : Int32)), .val (.ref p0), .val (.int (4 : Int32)), .val (.int (4 : Int32)), .val (.int (f 3)), .unset, .unset] [(.int (4 : Int32)), (.int (4 : Int32))])
          refine hp (fun tq kq => XS.icmpYes X0.here hx rfl (pc0 := 13) (pc' := 37) rfl (hb hby d1_13) rfl (flt (by decide)).2.1 (by decide) (by decide) kq) ?_
          show G s₁ (mkF m 37 #[.val (.ref p0), .val (.int (4 : Int32)), .val (.ref p0), .val (.int (4 : Int32)), .val (.int (4 : Int32)), .val (.int (f 3)), .unset, .unset] [])
          refine hp (fun tq kq => XS.iloadN X0.here hx rfl (hb hby d1_37) rfl kq) ?_
          show G s₁ (mkF m 38 #[.val (.ref p0), .val (.int (4 : Int32)), .val (.ref p0), .val (.int (4 : Int32)), .val (.int (4 : Int32)), .val (.int (f 3)), .unset, .unset] [(.int (4 : Int32))])
          obtain ⟨T59, h59, k59, X59, e59, E59, A59, st59⟩ := newP X0 hx hZ (hw _ (List.mem_of_getElem? (i := 1) rfl)) e0 (g := (mkF m 38 #[.val (.ref p0), .val (.int (4 : Int32)), .val (.ref p0), .val (.int (4 : Int32)), .val (.int (4 : Int32)), .val (.int (f 3)), .unset, .unset] [(.int (4 : Int32))])) rfl (hb hby d1_38) rfl (by decide) (cap := 4) (by decide) (by decide) (by decide) (by decide)
          obtain ⟨b59, g59⟩ : ∃ z, z = h0.size := ⟨_, rfl⟩
          rw [← g59] at A59 st59
          have ne59_p0 : p0 ≠ b59 := Nat.ne_of_lt (Nat.lt_of_lt_of_le V_p0.lt (Nat.le_of_eq g59.symm))
          have sz_b59 : h0.size ≤ b59 := Nat.le_trans K0.1 (Nat.le_of_eq g59.symm)
          have g_b59 : n0 ≤ b59 := Nat.le_trans Z0 sz_b59
          have V59_p0 := V_p0.ext E59
          have K59 := K0.ext E59
          have V59_b59 : own_AI Z h59 b59 .int 4 (fun _ => 0) := own_AI.new A59 (by decide) rfl 4 (by decide)
          refine hp st59 ?_
          show G T59 (mkF m 40 #[.val (.ref p0), .val (.int (4 : Int32)), .val (.ref p0), .val (.int (4 : Int32)), .val (.int (4 : Int32)), .val (.int (f 3)), .unset, .unset] [(.ref b59)])
          refine hp (fun tq kq => XS.astoreN X59.here hx rfl (hb hby d1_40) rfl rfl (l' := #[.val (.ref p0), .val (.int (4 : Int32)), .val (.ref b59), .val (.int (4 : Int32)), .val (.int (4 : Int32)), .val (.int (f 3)), .unset, .unset]) rfl kq) ?_
          show G T59 (mkF m 41 #[.val (.ref p0), .val (.int (4 : Int32)), .val (.ref b59), .val (.int (4 : Int32)), .val (.int (4 : Int32)), .val (.int (f 3)), .unset, .unset] [])
          refine hp (fun tq kq => XS.iconst X59.here hx rfl (hb hby d1_41) kq) ?_
          show G T59 (mkF m 42 #[.val (.ref p0), .val (.int (4 : Int32)), .val (.ref b59), .val (.int (4 : Int32)), .val (.int (4 : Int32)), .val (.int (f 3)), .unset, .unset] [(.int (0 : Int32))])
          refine hp (fun tq kq => XS.istoreN X59.here hx rfl (hb hby d1_42) rfl (l' := #[.val (.ref p0), .val (.int (4 : Int32)), .val (.ref b59), .val (.int (0 : Int32)), .val (.int (4 : Int32)), .val (.int (f 3)), .unset, .unset]) rfl kq) ?_
          show G T59 (mkF m 43 #[.val (.ref p0), .val (.int (4 : Int32)), .val (.ref b59), .val (.int (0 : Int32)), .val (.int (4 : Int32)), .val (.int (f 3)), .unset, .unset] [])
          refine hp (fun tq kq => XS.aloadN X59.here hx rfl (hb hby d1_43) rfl rfl kq) ?_
          show G T59 (mkF m 44 #[.val (.ref p0), .val (.int (4 : Int32)), .val (.ref b59), .val (.int (0 : Int32)), .val (.int (4 : Int32)), .val (.int (f 3)), .unset, .unset] [(.ref p0)])
          refine hp (fun tq kq => XS.astore X59.here hx rfl (hb hby d1_44) rfl rfl (l' := #[.val (.ref p0), .val (.int (4 : Int32)), .val (.ref b59), .val (.int (0 : Int32)), .val (.ref p0), .val (.int (f 3)), .unset, .unset]) rfl kq) ?_
          show G T59 (mkF m 46 #[.val (.ref p0), .val (.int (4 : Int32)), .val (.ref b59), .val (.int (0 : Int32)), .val (.ref p0), .val (.int (f 3)), .unset, .unset] [])
          refine hp (fun tq kq => XS.aload X59.here hx rfl (hb hby d1_46) rfl rfl kq) ?_
          show G T59 (mkF m 48 #[.val (.ref p0), .val (.int (4 : Int32)), .val (.ref b59), .val (.int (0 : Int32)), .val (.ref p0), .val (.int (f 3)), .unset, .unset] [(.ref p0)])
          refine hp (own_lenI X59 hx hZ e59 V59_p0 (4 : Int32) rfl (g := (mkF m 48 #[.val (.ref p0), .val (.int (4 : Int32)), .val (.ref b59), .val (.int (0 : Int32)), .val (.ref p0), .val (.int (f 3)), .unset, .unset] [(.ref p0)])) rfl rfl (hb hby d1_48)) ?_
          show G T59 (mkF m 49 #[.val (.ref p0), .val (.int (4 : Int32)), .val (.ref b59), .val (.int (0 : Int32)), .val (.ref p0), .val (.int (f 3)), .unset, .unset] [(.int (4 : Int32))])
          refine hp (fun tq kq => XS.istore X59.here hx rfl (hb hby d1_49) rfl (l' := #[.val (.ref p0), .val (.int (4 : Int32)), .val (.ref b59), .val (.int (0 : Int32)), .val (.ref p0), .val (.int (4 : Int32)), .unset, .unset]) rfl kq) ?_
          show G T59 (mkF m 51 #[.val (.ref p0), .val (.int (4 : Int32)), .val (.ref b59), .val (.int (0 : Int32)), .val (.ref p0), .val (.int (4 : Int32)), .unset, .unset] [])
          refine hp (fun tq kq => XS.iconst X59.here hx rfl (hb hby d1_51) kq) ?_
          show G T59 (mkF m 52 #[.val (.ref p0), .val (.int (4 : Int32)), .val (.ref b59), .val (.int (0 : Int32)), .val (.ref p0), .val (.int (4 : Int32)), .unset, .unset] [(.int (0 : Int32))])
          refine hp (fun tq kq => XS.istore X59.here hx rfl (hb hby d1_52) rfl (l' := #[.val (.ref p0), .val (.int (4 : Int32)), .val (.ref b59), .val (.int (0 : Int32)), .val (.ref p0), .val (.int (4 : Int32)), .val (.int (0 : Int32)), .unset]) rfl kq) ?_
          show G T59 (mkF m 54 #[.val (.ref p0), .val (.int (4 : Int32)), .val (.ref b59), .val (.int (0 : Int32)), .val (.ref p0), .val (.int (4 : Int32)), .val (.int (0 : Int32)), .unset] [])
          refine hp (fun tq kq => XS.iload X59.here hx rfl (hb hby d1_54) rfl kq) ?_
          show G T59 (mkF m 56 #[.val (.ref p0), .val (.int (4 : Int32)), .val (.ref b59), .val (.int (0 : Int32)), .val (.ref p0), .val (.int (4 : Int32)), .val (.int (0 : Int32)), .unset] [(.int (0 : Int32))])
          refine hp (fun tq kq => XS.iload X59.here hx rfl (hb hby d1_56) rfl kq) ?_
          show G T59 (mkF m 58 #[.val (.ref p0), .val (.int (4 : Int32)), .val (.ref b59), .val (.int (0 : Int32)), .val (.ref p0), .val (.int (4 : Int32)), .val (.int (0 : Int32)), .unset] [(.int (4 : Int32)), (.int (0 : Int32))])
          refine hp (fun tq kq => XS.icmpNo X59.here hx rfl (hb hby d1_58) rfl (tlt (by decide)).2.1 kq) ?_
          show G T59 (mkF m 61 #[.val (.ref p0), .val (.int (4 : Int32)), .val (.ref b59), .val (.int (0 : Int32)), .val (.ref p0), .val (.int (4 : Int32)), .val (.int (0 : Int32)), .unset] [])
          refine hp (fun tq kq => XS.aload X59.here hx rfl (hb hby d1_61) rfl rfl kq) ?_
          show G T59 (mkF m 63 #[.val (.ref p0), .val (.int (4 : Int32)), .val (.ref b59), .val (.int (0 : Int32)), .val (.ref p0), .val (.int (4 : Int32)), .val (.int (0 : Int32)), .unset] [(.ref p0)])
          refine hp (fun tq kq => XS.iload X59.here hx rfl (hb hby d1_63) rfl kq) ?_
          show G T59 (mkF m 65 #[.val (.ref p0), .val (.int (4 : Int32)), .val (.ref b59), .val (.int (0 : Int32)), .val (.ref p0), .val (.int (4 : Int32)), .val (.int (0 : Int32)), .unset] [(.int (0 : Int32)), (.ref p0)])
          refine hp (own_ldI X59 hx hZ e59 V59_p0 (j := (0 : Int32)) 0 (by decide) (by decide) (by decide) (g := (mkF m 65 #[.val (.ref p0), .val (.int (4 : Int32)), .val (.ref b59), .val (.int (0 : Int32)), .val (.ref p0), .val (.int (4 : Int32)), .val (.int (0 : Int32)), .unset] [(.int (0 : Int32)), (.ref p0)])) rfl rfl (hb hby d1_65)) ?_
          show G T59 (mkF m 66 #[.val (.ref p0), .val (.int (4 : Int32)), .val (.ref b59), .val (.int (0 : Int32)), .val (.ref p0), .val (.int (4 : Int32)), .val (.int (0 : Int32)), .unset] [(.int (f 0))])
          refine hp (fun tq kq => XS.istore X59.here hx rfl (hb hby d1_66) rfl (l' := #[.val (.ref p0), .val (.int (4 : Int32)), .val (.ref b59), .val (.int (0 : Int32)), .val (.ref p0), .val (.int (4 : Int32)), .val (.int (0 : Int32)), .val (.int (f 0))]) rfl kq) ?_
          show G T59 (mkF m 68 #[.val (.ref p0), .val (.int (4 : Int32)), .val (.ref b59), .val (.int (0 : Int32)), .val (.ref p0), .val (.int (4 : Int32)), .val (.int (0 : Int32)), .val (.int (f 0))] [])
          refine hp (fun tq kq => XS.iload X59.here hx rfl (hb hby d1_68) rfl kq) ?_
          show G T59 (mkF m 70 #[.val (.ref p0), .val (.int (4 : Int32)), .val (.ref b59), .val (.int (0 : Int32)), .val (.ref p0), .val (.int (4 : Int32)), .val (.int (0 : Int32)), .val (.int (f 0))] [(.int (f 0))])
          refine hp (fun tq kq => XS.iconst X59.here hx rfl (hb hby d1_70) kq) ?_
          show G T59 (mkF m 71 #[.val (.ref p0), .val (.int (4 : Int32)), .val (.ref b59), .val (.int (0 : Int32)), .val (.ref p0), .val (.int (4 : Int32)), .val (.int (0 : Int32)), .val (.int (f 0))] [(.int (-1 : Int32)), (.int (f 0))])
          refine hp (fun tq kq => XS.icmpNo X59.here hx rfl (hb hby d1_71) rfl (feq hb1).1 kq) ?_
          show G T59 (mkF m 74 #[.val (.ref p0), .val (.int (4 : Int32)), .val (.ref b59), .val (.int (0 : Int32)), .val (.ref p0), .val (.int (4 : Int32)), .val (.int (0 : Int32)), .val (.int (f 0))] [])
          refine hp (fun tq kq => XS.aloadN X59.here hx rfl (hb hby d1_74) rfl rfl kq) ?_
          show G T59 (mkF m 75 #[.val (.ref p0), .val (.int (4 : Int32)), .val (.ref b59), .val (.int (0 : Int32)), .val (.ref p0), .val (.int (4 : Int32)), .val (.int (0 : Int32)), .val (.int (f 0))] [(.ref b59)])
          refine hp (fun tq kq => XS.iloadN X59.here hx rfl (hb hby d1_75) rfl kq) ?_
          show G T59 (mkF m 76 #[.val (.ref p0), .val (.int (4 : Int32)), .val (.ref b59), .val (.int (0 : Int32)), .val (.ref p0), .val (.int (4 : Int32)), .val (.int (0 : Int32)), .val (.int (f 0))] [(.int (0 : Int32)), (.ref b59)])
          refine hp (fun tq kq => XS.iload X59.here hx rfl (hb hby d1_76) rfl kq) ?_
          show G T59 (mkF m 78 #[.val (.ref p0), .val (.int (4 : Int32)), .val (.ref b59), .val (.int (0 : Int32)), .val (.ref p0), .val (.int (4 : Int32)), .val (.int (0 : Int32)), .val (.int (f 0))] [(.int (f 0)), (.int (0 : Int32)), (.ref b59)])
          obtain ⟨T60, h60, X60, e60, W60, V60_b59, st60⟩ := own_stI X59 hx hZ e59 V59_b59 (j := (0 : Int32)) 0 (by decide) (by decide) (by decide) (g := (mkF m 78 #[.val (.ref p0), .val (.int (4 : Int32)), .val (.ref b59), .val (.int (0 : Int32)), .val (.ref p0), .val (.int (4 : Int32)), .val (.int (0 : Int32)), .val (.int (f 0))] [(.int (f 0)), (.int (0 : Int32)), (.ref b59)])) rfl rfl (hb hby d1_78)
          have V60_p0 := V59_p0.other W60 ne59_p0
          have K60 := K59.wr W60 (Or.inr sz_b59)
          have N60 := Fr.snoc X60 N0 g_b59
          refine hp st60 ?_
          show G T60 (mkF m 79 #[.val (.ref p0), .val (.int (4 : Int32)), .val (.ref b59), .val (.int (0 : Int32)), .val (.ref p0), .val (.int (4 : Int32)), .val (.int (0 : Int32)), .val (.int (f 0))] [])
          refine hp (fun tq kq => XS.iinc X60.here hx rfl (hb hby d1_79) rfl (l' := #[.val (.ref p0), .val (.int (4 : Int32)), .val (.ref b59), .val (.int (1 : Int32)), .val (.ref p0), .val (.int (4 : Int32)), .val (.int (0 : Int32)), .val (.int (f 0))]) rfl kq) ?_
          show G T60 (mkF m 82 #[.val (.ref p0), .val (.int (4 : Int32)), .val (.ref b59), .val (.int (1 : Int32)), .val (.ref p0), .val (.int (4 : Int32)), .val (.int (0 : Int32)), .val (.int (f 0))] [])
          refine hp (fun tq kq => XS.iinc X60.here hx rfl (hb hby d1_82) rfl (l' := #[.val (.ref p0), .val (.int (4 : Int32)), .val (.ref b59), .val (.int (1 : Int32)), .val (.ref p0), .val (.int (4 : Int32)), .val (.int (1 : Int32)), .val (.int (f 0))]) rfl kq) ?_
          show G T60 (mkF m 85 #[.val (.ref p0), .val (.int (4 : Int32)), .val (.ref b59), .val (.int (1 : Int32)), .val (.ref p0), .val (.int (4 : Int32)), .val (.int (1 : Int32)), .val (.int (f 0))] [])
          refine hp (fun tq kq => XS.goto X60.here hx rfl (pc0 := 85) (pc' := 54) rfl (hb hby d1_85) (by decide) (by decide) kq) ?_
          show G T60 (mkF m 54 #[.val (.ref p0), .val (.int (4 : Int32)), .val (.ref b59), .val (.int (1 : Int32)), .val (.ref p0), .val (.int (4 : Int32)), .val (.int (1 : Int32)), .val (.int (f 0))] [])
          refine hp (fun tq kq => XS.iload X60.here hx rfl (hb hby d1_54) rfl kq) ?_
          show G T60 (mkF m 56 #[.val (.ref p0), .val (.int (4 : Int32)), .val (.ref b59), .val (.int (1 : Int32)), .val (.ref p0), .val (.int (4 : Int32)), .val (.int (1 : Int32)), .val (.int (f 0))] [(.int (1 : Int32))])
          refine hp (fun tq kq => XS.iload X60.here hx rfl (hb hby d1_56) rfl kq) ?_
          show G T60 (mkF m 58 #[.val (.ref p0), .val (.int (4 : Int32)), .val (.ref b59), .val (.int (1 : Int32)), .val (.ref p0), .val (.int (4 : Int32)), .val (.int (1 : Int32)), .val (.int (f 0))] [(.int (4 : Int32)), (.int (1 : Int32))])
          refine hp (fun tq kq => XS.icmpNo X60.here hx rfl (hb hby d1_58) rfl (tlt (by decide)).2.1 kq) ?_
          show G T60 (mkF m 61 #[.val (.ref p0), .val (.int (4 : Int32)), .val (.ref b59), .val (.int (1 : Int32)), .val (.ref p0), .val (.int (4 : Int32)), .val (.int (1 : Int32)), .val (.int (f 0))] [])
          refine hp (fun tq kq => XS.aload X60.here hx rfl (hb hby d1_61) rfl rfl kq) ?_
          show G T60 (mkF m 63 #[.val (.ref p0), .val (.int (4 : Int32)), .val (.ref b59), .val (.int (1 : Int32)), .val (.ref p0), .val (.int (4 : Int32)), .val (.int (1 : Int32)), .val (.int (f 0))] [(.ref p0)])
          refine hp (fun tq kq => XS.iload X60.here hx rfl (hb hby d1_63) rfl kq) ?_
          show G T60 (mkF m 65 #[.val (.ref p0), .val (.int (4 : Int32)), .val (.ref b59), .val (.int (1 : Int32)), .val (.ref p0), .val (.int (4 : Int32)), .val (.int (1 : Int32)), .val (.int (f 0))] [(.int (1 : Int32)), (.ref p0)])
          refine hp (own_ldI X60 hx hZ e60 V60_p0 (j := (1 : Int32)) 1 (by decide) (by decide) (by decide) (g := (mkF m 65 #[.val (.ref p0), .val (.int (4 : Int32)), .val (.ref b59), .val (.int (1 : Int32)), .val (.ref p0), .val (.int (4 : Int32)), .val (.int (1 : Int32)), .val (.int (f 0))] [(.int (1 : Int32)), (.ref p0)])) rfl rfl (hb hby d1_65)) ?_
          show G T60 (mkF m 66 #[.val (.ref p0), .val (.int (4 : Int32)), .val (.ref b59), .val (.int (1 : Int32)), .val (.ref p0), .val (.int (4 : Int32)), .val (.int (1 : Int32)), .val (.int (f 0))] [(.int (f 1))])
          refine hp (fun tq kq => XS.istore X60.here hx rfl (hb hby d1_66) rfl (l' := #[.val (.ref p0), .val (.int (4 : Int32)), .val (.ref b59), .val (.int (1 : Int32)), .val (.ref p0), .val (.int (4 : Int32)), .val (.int (1 : Int32)), .val (.int (f 1))]) rfl kq) ?_
          show G T60 (mkF m 68 #[.val (.ref p0), .val (.int (4 : Int32)), .val (.ref b59), .val (.int (1 : Int32)), .val (.ref p0), .val (.int (4 : Int32)), .val (.int (1 : Int32)), .val (.int (f 1))] [])
          refine hp (fun tq kq => XS.iload X60.here hx rfl (hb hby d1_68) rfl kq) ?_
          show G T60 (mkF m 70 #[.val (.ref p0), .val (.int (4 : Int32)), .val (.ref b59), .val (.int (1 : Int32)), .val (.ref p0), .val (.int (4 : Int32)), .val (.int (1 : Int32)), .val (.int (f 1))] [(.int (f 1))])
          refine hp (fun tq kq => XS.iconst X60.here hx rfl (hb hby d1_70) kq) ?_
          show G T60 (mkF m 71 #[.val (.ref p0), .val (.int (4 : Int32)), .val (.ref b59), .val (.int (1 : Int32)), .val (.ref p0), .val (.int (4 : Int32)), .val (.int (1 : Int32)), .val (.int (f 1))] [(.int (-1 : Int32)), (.int (f 1))])
          refine hp (fun tq kq => XS.icmpNo X60.here hx rfl (hb hby d1_71) rfl (feq hb29).1 kq) ?_
          show G T60 (mkF m 74 #[.val (.ref p0), .val (.int (4 : Int32)), .val (.ref b59), .val (.int (1 : Int32)), .val (.ref p0), .val (.int (4 : Int32)), .val (.int (1 : Int32)), .val (.int (f 1))] [])
          refine hp (fun tq kq => XS.aloadN X60.here hx rfl (hb hby d1_74) rfl rfl kq) ?_
          show G T60 (mkF m 75 #[.val (.ref p0), .val (.int (4 : Int32)), .val (.ref b59), .val (.int (1 : Int32)), .val (.ref p0), .val (.int (4 : Int32)), .val (.int (1 : Int32)), .val (.int (f 1))] [(.ref b59)])
          refine hp (fun tq kq => XS.iloadN X60.here hx rfl (hb hby d1_75) rfl kq) ?_
          show G T60 (mkF m 76 #[.val (.ref p0), .val (.int (4 : Int32)), .val (.ref b59), .val (.int (1 : Int32)), .val (.ref p0), .val (.int (4 : Int32)), .val (.int (1 : Int32)), .val (.int (f 1))] [(.int (1 : Int32)), (.ref b59)])
          refine hp (fun tq kq => XS.iload X60.here hx rfl (hb hby d1_76) rfl kq) ?_
          show G T60 (mkF m 78 #[.val (.ref p0), .val (.int (4 : Int32)), .val (.ref b59), .val (.int (1 : Int32)), .val (.ref p0), .val (.int (4 : Int32)), .val (.int (1 : Int32)), .val (.int (f 1))] [(.int (f 1)), (.int (1 : Int32)), (.ref b59)])
          obtain ⟨T61, h61, X61, e61, W61, V61_b59, st61⟩ := own_stI X60 hx hZ e60 V60_b59 (j := (1 : Int32)) 1 (by decide) (by decide) (by decide) (g := (mkF m 78 #[.val (.ref p0), .val (.int (4 : Int32)), .val (.ref b59), .val (.int (1 : Int32)), .val (.ref p0), .val (.int (4 : Int32)), .val (.int (1 : Int32)), .val (.int (f 1))] [(.int (f 1)), (.int (1 : Int32)), (.ref b59)])) rfl rfl (hb hby d1_78)
          have V61_p0 := V60_p0.other W61 ne59_p0
          have K61 := K60.wr W61 (Or.inr sz_b59)
          have N61 := Fr.snoc X61 N60 g_b59
          refine hp st61 ?_
          show G T61 (mkF m 79 #[.val (.ref p0), .val (.int (4 : Int32)), .val (.ref b59), .val (.int (1 : Int32)), .val (.ref p0), .val (.int (4 : Int32)), .val (.int (1 : Int32)), .val (.int (f 1))] [])
          refine hp (fun tq kq => XS.iinc X61.here hx rfl (hb hby d1_79) rfl (l' := #[.val (.ref p0), .val (.int (4 : Int32)), .val (.ref b59), .val (.int (2 : Int32)), .val (.ref p0), .val (.int (4 : Int32)), .val (.int (1 : Int32)), .val (.int (f 1))]) rfl kq) ?_
          show G T61 (mkF m 82 #[.val (.ref p0), .val (.int (4 : Int32)), .val (.ref b59), .val (.int (2 : Int32)), .val (.ref p0), .val (.int (4 : Int32)), .val (.int (1 : Int32)), .val (.int (f 1))] [])
          refine hp (fun tq kq => XS.iinc X61.here hx rfl (hb hby d1_82) rfl (l' := #[.val (.ref p0), .val (.int (4 : Int32)), .val (.ref b59), .val (.int (2 : Int32)), .val (.ref p0), .val (.int (4 : Int32)), .val (.int (2 : Int32)), .val (.int (f 1))]) rfl kq) ?_
          show G T61 (mkF m 85 #[.val (.ref p0), .val (.int (4 : Int32)), .val (.ref b59), .val (.int (2 : Int32)), .val (.ref p0), .val (.int (4 : Int32)), .val (.int (2 : Int32)), .val (.int (f 1))] [])
          refine hp (fun tq kq => XS.goto X61.here hx rfl (pc0 := 85) (pc' := 54) rfl (hb hby d1_85) (by decide) (by decide) kq) ?_
          show G T61 (mkF m 54 #[.val (.ref p0), .val (.int (4 : Int32)), .val (.ref b59), .val (.int (2 : Int32)), .val (.ref p0), .val (.int (4 : Int32)), .val (.int (2 : Int32)), .val (.int (f 1))] [])
          refine hp (fun tq kq => XS.iload X61.here hx rfl (hb hby d1_54) rfl kq) ?_
          show G T61 (mkF m 56 #[.val (.ref p0), .val (.int (4 : Int32)), .val (.ref b59), .val (.int (2 : Int32)), .val (.ref p0), .val (.int (4 : Int32)), .val (.int (2 : Int32)), .val (.int (f 1))] [(.int (2 : Int32))])
          refine hp (fun tq kq => XS.iload X61.here hx rfl (hb hby d1_56) rfl kq) ?_
          show G T61 (mkF m 58 #[.val (.ref p0), .val (.int (4 : Int32)), .val (.ref b59), .val (.int (2 : Int32)), .val (.ref p0), .val (.int (4 : Int32)), .val (.int (2 : Int32)), .val (.int (f 1))] [(.int (4 : Int32)), (.int (2 : Int32))])
          refine hp (fun tq kq => XS.icmpNo X61.here hx rfl (hb hby d1_58) rfl (tlt (by decide)).2.1 kq) ?_
          show G T61 (mkF m 61 #[.val (.ref p0), .val (.int (4 : Int32)), .val (.ref b59), .val (.int (2 : Int32)), .val (.ref p0), .val (.int (4 : Int32)), .val (.int (2 : Int32)), .val (.int (f 1))] [])
          refine hp (fun tq kq => XS.aload X61.here hx rfl (hb hby d1_61) rfl rfl kq) ?_
          show G T61 (mkF m 63 #[.val (.ref p0), .val (.int (4 : Int32)), .val (.ref b59), .val (.int (2 : Int32)), .val (.ref p0), .val (.int (4 : Int32)), .val (.int (2 : Int32)), .val (.int (f 1))] [(.ref p0)])
          refine hp (fun tq kq => XS.iload X61.here hx rfl (hb hby d1_63) rfl kq) ?_
          show G T61 (mkF m 65 #[.val (.ref p0), .val (.int (4 : Int32)), .val (.ref b59), .val (.int (2 : Int32)), .val (.ref p0), .val (.int (4 : Int32)), .val (.int (2 : Int32)), .val (.int (f 1))] [(.int (2 : Int32)), (.ref p0)])
          refine hp (own_ldI X61 hx hZ e61 V61_p0 (j := (2 : Int32)) 2 (by decide) (by decide) (by decide) (g := (mkF m 65 #[.val (.ref p0), .val (.int (4 : Int32)), .val (.ref b59), .val (.int (2 : Int32)), .val (.ref p0), .val (.int (4 : Int32)), .val (.int (2 : Int32)), .val (.int (f 1))] [(.int (2 : Int32)), (.ref p0)])) rfl rfl (hb hby d1_65)) ?_
          show G T61 (mkF m 66 #[.val (.ref p0), .val (.int (4 : Int32)), .val (.ref b59), .val (.int (2 : Int32)), .val (.ref p0), .val (.int (4 : Int32)), .val (.int (2 : Int32)), .val (.int (f 1))] [(.int (f 2))])
          refine hp (fun tq kq => XS.istore X61.here hx rfl (hb hby d1_66) rfl (l' := #[.val (.ref p0), .val (.int (4 : Int32)), .val (.ref b59), .val (.int (2 : Int32)), .val (.ref p0), .val (.int (4 : Int32)), .val (.int (2 : Int32)), .val (.int (f 2))]) rfl kq) ?_
          show G T61 (mkF m 68 #[.val (.ref p0), .val (.int (4 : Int32)), .val (.ref b59), .val (.int (2 : Int32)), .val (.ref p0), .val (.int (4 : Int32)), .val (.int (2 : Int32)), .val (.int (f 2))] [])
          refine hp (fun tq kq => XS.iload X61.here hx rfl (hb hby d1_68) rfl kq) ?_
          show G T61 (mkF m 70 #[.val (.ref p0), .val (.int (4 : Int32)), .val (.ref b59), .val (.int (2 : Int32)), .val (.ref p0), .val (.int (4 : Int32)), .val (.int (2 : Int32)), .val (.int (f 2))] [(.int (f 2))])
          refine hp (fun tq kq => XS.iconst X61.here hx rfl (hb hby d1_70) kq) ?_
          show G T61 (mkF m 71 #[.val (.ref p0), .val (.int (4 : Int32)), .val (.ref b59), .val (.int (2 : Int32)), .val (.ref p0), .val (.int (4 : Int32)), .val (.int (2 : Int32)), .val (.int (f 2))] [(.int (-1 : Int32)), (.int (f 2))])
          refine hp (fun tq kq => XS.icmpNo X61.here hx rfl (hb hby d1_71) rfl (feq hb45).1 kq) ?_
          show G T61 (mkF m 74 #[.val (.ref p0), .val (.int (4 : Int32)), .val (.ref b59), .val (.int (2 : Int32)), .val (.ref p0), .val (.int (4 : Int32)), .val (.int (2 : Int32)), .val (.int (f 2))] [])
          refine hp (fun tq kq => XS.aloadN X61.here hx rfl (hb hby d1_74) rfl rfl kq) ?_
          show G T61 (mkF m 75 #[.val (.ref p0), .val (.int (4 : Int32)), .val (.ref b59), .val (.int (2 : Int32)), .val (.ref p0), .val (.int (4 : Int32)), .val (.int (2 : Int32)), .val (.int (f 2))] [(.ref b59)])
          refine hp (fun tq kq => XS.iloadN X61.here hx rfl (hb hby d1_75) rfl kq) ?_
          show G T61 (mkF m 76 #[.val (.ref p0), .val (.int (4 : Int32)), .val (.ref b59), .val (.int (2 : Int32)), .val (.ref p0), .val (.int (4 : Int32)), .val (.int (2 : Int32)), .val (.int (f 2))] [(.int (2 : Int32)), (.ref b59)])
          refine hp (fun tq kq => XS.iload X61.here hx rfl (hb hby d1_76) rfl kq) ?_
          show G T61 (mkF m 78 #[.val (.ref p0), .val (.int (4 : Int32)), .val (.ref b59), .val (.int (2 : Int32)), .val (.ref p0), .val (.int (4 : Int32)), .val (.int (2 : Int32)), .val (.int (f 2))] [(.int (f 2)), (.int (2 : Int32)), (.ref b59)])
          obtain ⟨T62, h62, X62, e62, W62, V62_b59, st62⟩ := own_stI X61 hx hZ e61 V61_b59 (j := (2 : Int32)) 2 (by decide) (by decide) (by decide) (g := (mkF m 78 #[.val (.ref p0), .val (.int (4 : Int32)), .val (.ref b59), .val (.int (2 : Int32)), .val (.ref p0), .val (.int (4 : Int32)), .val (.int (2 : Int32)), .val (.int (f 2))] [(.int (f 2)), (.int (2 : Int32)), (.ref b59)])) rfl rfl (hb hby d1_78)
          have V62_p0 := V61_p0.other W62 ne59_p0
          have K62 := K61.wr W62 (Or.inr sz_b59)
          have N62 := Fr.snoc X62 N61 g_b59
          refine hp st62 ?_
          show G T62 (mkF m 79 #[.val (.ref p0), .val (.int (4 : Int32)), .val (.ref b59), .val (.int (2 : Int32)), .val (.ref p0), .val (.int (4 : Int32)), .val (.int (2 : Int32)), .val (.int (f 2))] [])
          refine hp (fun tq kq => XS.iinc X62.here hx rfl (hb hby d1_79) rfl (l' := #[.val (.ref p0), .val (.int (4 : Int32)), .val (.ref b59), .val (.int (3 : Int32)), .val (.ref p0), .val (.int (4 : Int32)), .val (.int (2 : Int32)), .val (.int (f 2))]) rfl kq) ?_
          show G T62 (mkF m 82 #[.val (.ref p0), .val (.int (4 : Int32)), .val (.ref b59), .val (.int (3 : Int32)), .val (.ref p0), .val (.int (4 : Int32)), .val (.int (2 : Int32)), .val (.int (f 2))] [])
          refine hp (fun tq kq => XS.iinc X62.here hx rfl (hb hby d1_82) rfl (l' := #[.val (.ref p0), .val (.int (4 : Int32)), .val (.ref b59), .val (.int (3 : Int32)), .val (.ref p0), .val (.int (4 : Int32)), .val (.int (3 : Int32)), .val (.int (f 2))]) rfl kq) ?_
          show G T62 (mkF m 85 #[.val (.ref p0), .val (.int (4 : Int32)), .val (.ref b59), .val (.int (3 : Int32)), .val (.ref p0), .val (.int (4 : Int32)), .val (.int (3 : Int32)), .val (.int (f 2))] [])
          refine hp (fun tq kq => XS.goto X62.here hx rfl (pc0 := 85) (pc' := 54) rfl (hb hby d1_85) (by decide) (by decide) kq) ?_
          show G T62 (mkF m 54 #[.val (.ref p0), .val (.int (4 : Int32)), .val (.ref b59), .val (.int (3 : Int32)), .val (.ref p0), .val (.int (4 : Int32)), .val (.int (3 : Int32)), .val (.int (f 2))] [])
          refine hp (fun tq kq => XS.iload X62.here hx rfl (hb hby d1_54) rfl kq) ?_
          show G T62 (mkF m 56 #[.val (.ref p0), .val (.int (4 : Int32)), .val (.ref b59), .val (.int (3 : Int32)), .val (.ref p0), .val (.int (4 : Int32)), .val (.int (3 : Int32)), .val (.int (f 2))] [(.int (3 : Int32))])
          refine hp (fun tq kq => XS.iload X62.here hx rfl (hb hby d1_56) rfl kq) ?_
          show G T62 (mkF m 58 #[.val (.ref p0), .val (.int (4 : Int32)), .val (.ref b59), .val (.int (3 : Int32)), .val (.ref p0), .val (.int (4 : Int32)), .val (.int (3 : Int32)), .val (.int (f 2))] [(.int (4 : Int32)), (.int (3 : Int32))])
          refine hp (fun tq kq => XS.icmpNo X62.here hx rfl (hb hby d1_58) rfl (tlt (by decide)).2.1 kq) ?_
          show G T62 (mkF m 61 #[.val (.ref p0), .val (.int (4 : Int32)), .val (.ref b59), .val (.int (3 : Int32)), .val (.ref p0), .val (.int (4 : Int32)), .val (.int (3 : Int32)), .val (.int (f 2))] [])
          refine hp (fun tq kq => XS.aload X62.here hx rfl (hb hby d1_61) rfl rfl kq) ?_
          show G T62 (mkF m 63 #[.val (.ref p0), .val (.int (4 : Int32)), .val (.ref b59), .val (.int (3 : Int32)), .val (.ref p0), .val (.int (4 : Int32)), .val (.int (3 : Int32)), .val (.int (f 2))] [(.ref p0)])
          refine hp (fun tq kq => XS.iload X62.here hx rfl (hb hby d1_63) rfl kq) ?_
          show G T62 (mkF m 65 #[.val (.ref p0), .val (.int (4 : Int32)), .val (.ref b59), .val (.int (3 : Int32)), .val (.ref p0), .val (.int (4 : Int32)), .val (.int (3 : Int32)), .val (.int (f 2))] [(.int (3 : Int32)), (.ref p0)])
          refine hp (own_ldI X62 hx hZ e62 V62_p0 (j := (3 : Int32)) 3 (by decide) (by decide) (by decide) (g := (mkF m 65 #[.val (.ref p0), .val (.int (4 : Int32)), .val (.ref b59), .val (.int (3 : Int32)), .val (.ref p0), .val (.int (4 : Int32)), .val (.int (3 : Int32)), .val (.int (f 2))] [(.int (3 : Int32)), (.ref p0)])) rfl rfl (hb hby d1_65)) ?_
          show G T62 (mkF m 66 #[.val (.ref p0), .val (.int (4 : Int32)), .val (.ref b59), .val (.int (3 : Int32)), .val (.ref p0), .val (.int (4 : Int32)), .val (.int (3 : Int32)), .val (.int (f 2))] [(.int (f 3))])
          refine hp (fun tq kq => XS.istore X62.here hx rfl (hb hby d1_66) rfl (l' := #[.val (.ref p0), .val (.int (4 : Int32)), .val (.ref b59), .val (.int (3 : Int32)), .val (.ref p0), .val (.int (4 : Int32)), .val (.int (3 : Int32)), .val (.int (f 3))]) rfl kq) ?_
          show G T62 (mkF m 68 #[.val (.ref p0), .val (.int (4 : Int32)), .val (.ref b59), .val (.int (3 : Int32)), .val (.ref p0), .val (.int (4 : Int32)), .val (.int (3 : Int32)), .val (.int (f 3))] [])
          refine hp (fun tq kq => XS.iload X62.here hx rfl (hb hby d1_68) rfl kq) ?_
          show G T62 (mkF m 70 #[.val (.ref p0), .val (.int (4 : Int32)), .val (.ref b59), .val (.int (3 : Int32)), .val (.ref p0), .val (.int (4 : Int32)), .val (.int (3 : Int32)), .val (.int (f 3))] [(.int (f 3))])
          refine hp (fun tq kq => XS.iconst X62.here hx rfl (hb hby d1_70) kq) ?_
          show G T62 (mkF m 71 #[.val (.ref p0), .val (.int (4 : Int32)), .val (.ref b59), .val (.int (3 : Int32)), .val (.ref p0), .val (.int (4 : Int32)), .val (.int (3 : Int32)), .val (.int (f 3))] [(.int (-1 : Int32)), (.int (f 3))])
          refine hp (fun tq kq => XS.icmpNo X62.here hx rfl (hb hby d1_71) rfl (feq hb54).1 kq) ?_
          show G T62 (mkF m 74 #[.val (.ref p0), .val (.int (4 : Int32)), .val (.ref b59), .val (.int (3 : Int32)), .val (.ref p0), .val (.int (4 : Int32)), .val (.int (3 : Int32)), .val (.int (f 3))] [])
          refine hp (fun tq kq => XS.aloadN X62.here hx rfl (hb hby d1_74) rfl rfl kq) ?_
          show G T62 (mkF m 75 #[.val (.ref p0), .val (.int (4 : Int32)), .val (.ref b59), .val (.int (3 : Int32)), .val (.ref p0), .val (.int (4 : Int32)), .val (.int (3 : Int32)), .val (.int (f 3))] [(.ref b59)])
          refine hp (fun tq kq => XS.iloadN X62.here hx rfl (hb hby d1_75) rfl kq) ?_
          show G T62 (mkF m 76 #[.val (.ref p0), .val (.int (4 : Int32)), .val (.ref b59), .val (.int (3 : Int32)), .val (.ref p0), .val (.int (4 : Int32)), .val (.int (3 : Int32)), .val (.int (f 3))] [(.int (3 : Int32)), (.ref b59)])
          refine hp (fun tq kq => XS.iload X62.here hx rfl (hb hby d1_76) rfl kq) ?_
          show G T62 (mkF m 78 #[.val (.ref p0), .val (.int (4 : Int32)), .val (.ref b59), .val (.int (3 : Int32)), .val (.ref p0), .val (.int (4 : Int32)), .val (.int (3 : Int32)), .val (.int (f 3))] [(.int (f 3)), (.int (3 : Int32)), (.ref b59)])
          obtain ⟨T63, h63, X63, e63, W63, V63_b59, st63⟩ := own_stI X62 hx hZ e62 V62_b59 (j := (3 : Int32)) 3 (by decide) (by decide) (by decide) (g := (mkF m 78 #[.val (.ref p0), .val (.int (4 : Int32)), .val (.ref b59), .val (.int (3 : Int32)), .val (.ref p0), .val (.int (4 : Int32)), .val (.int (3 : Int32)), .val (.int (f 3))] [(.int (f 3)), (.int (3 : Int32)), (.ref b59)])) rfl rfl (hb hby d1_78)
          have V63_p0 := V62_p0.other W63 ne59_p0
          have K63 := K62.wr W63 (Or.inr sz_b59)
          have N63 := Fr.snoc X63 N62 g_b59
          refine hp st63 ?_
          show G T63 (mkF m 79 #[.val (.ref p0), .val (.int (4 : Int32)), .val (.ref b59), .val (.int (3 : Int32)), .val (.ref p0), .val (.int (4 : Int32)), .val (.int (3 : Int32)), .val (.int (f 3))] [])
          refine hp (fun tq kq => XS.iinc X63.here hx rfl (hb hby d1_79) rfl (l' := #[.val (.ref p0), .val (.int (4 : Int32)), .val (.ref b59), .val (.int (4 : Int32)), .val (.ref p0), .val (.int (4 : Int32)), .val (.int (3 : Int32)), .val (.int (f 3))]) rfl kq) ?_
          show G T63 (mkF m 82 #[.val (.ref p0), .val (.int (4 : Int32)), .val (.ref b59), .val (.int (4 : Int32)), .val (.ref p0), .val (.int (4 : Int32)), .val (.int (3 : Int32)), .val (.int (f 3))] [])
          refine hp (fun tq kq => XS.iinc X63.here hx rfl (hb hby d1_82) rfl (l' := #[.val (.ref p0), .val (.int (4 : Int32)), .val (.ref b59), .val (.int (4 : Int32)), .val (.ref p0), .val (.int (4 : Int32)), .val (.int (4 : Int32)), .val (.int (f 3))]) rfl kq) ?_
          show G T63 (mkF m 85 #[.val (.ref p0), .val (.int (4 : Int32)), .val (.ref b59), .val (.int (4 : Int32)), .val (.ref p0), .val (.int (4 : Int32)), .val (.int (4 : Int32)), .val (.int (f 3))] [])
          refine hp (fun tq kq => XS.goto X63.here hx rfl (pc0 := 85) (pc' := 54) rfl (hb hby d1_85) (by decide) (by decide) kq) ?_
          show G T63 (mkF m 54 #[.val (.ref p0), .val (.int (4 : Int32)), .val (.ref b59), .val (.int (4 : Int32)), .val (.ref p0), .val (.int (4 : Int32)), .val (.int (4 : Int32)), .val (.int (f 3))] [])
          refine hp (fun tq kq => XS.iload X63.here hx rfl (hb hby d1_54) rfl kq) ?_
          show G T63 (mkF m 56 #[.val (.ref p0), .val (.int (4 : Int32)), .val (.ref b59), .val (.int (4 : Int32)), .val (.ref p0), .val (.int (4 : Int32)), .val (.int (4 : Int32)), .val (.int (f 3))] [(.int (4 : Int32))])
          refine hp (fun tq kq => XS.iload X63.here hx rfl (hb hby d1_56) rfl kq) ?_
          show G T63 (mkF m 58 #[.val (.ref p0), .val (.int (4 : Int32)), .val (.ref b59), .val (.int (4 : Int32)), .val (.ref p0), .val (.int (4 : Int32)), .val (.int (4 : Int32)), .val (.int (f 3))] [(.int (4 : Int32)), (.int (4 : Int32))])
          refine hp (fun tq kq => XS.icmpYes X63.here hx rfl (pc0 := 58) (pc' := 88) rfl (hb hby d1_58) rfl (flt (by decide)).2.1 (by decide) (by decide) kq) ?_
          show G T63 (mkF m 88 #[.val (.ref p0), .val (.int (4 : Int32)), .val (.ref b59), .val (.int (4 : Int32)), .val (.ref p0), .val (.int (4 : Int32)), .val (.int (4 : Int32)), .val (.int (f 3))] [])
          refine hp (fun tq kq => XS.aloadN X63.here hx rfl (hb hby d1_88) rfl rfl kq) ?_
          show G T63 (mkF m 89 #[.val (.ref p0), .val (.int (4 : Int32)), .val (.ref b59), .val (.int (4 : Int32)), .val (.ref p0), .val (.int (4 : Int32)), .val (.int (4 : Int32)), .val (.int (f 3))] [(.ref b59)])
          exact hR X63 (fun fs hl => own_retA X63 hx hret rfl (hb hby d1_89) hl) (fun q => by rw [hret] at q; cases q) (by rw [e63]; exact ⟨b59, 4, (own_up (own_up (own_up (own_up (fun _ => (0 : Int32)) 0 (f 0)) 1 (f 1)) 2 (f 2)) 3 (f 3)), rfl, N63, K63, sz_b59, V63_b59, own_seld (l := [(f 0), (f 1), (f 2), (f 3)]) (own_sel_of (a := [f 0]) (b := [f 1]) (c := [f 2]) (d := [f 3]) (if_neg hb1) (if_neg hb29) (if_neg hb45) (if_neg hb54)) rfl (own_pick4 rfl rfl rfl rfl rfl)⟩) (by decide) (by decide)
theorem own_v {p z v : Int32} (hv : v = (if z = (0 : Int32) then (p &&& (2147483647 : Int32)) else (-1 : Int32))) : (z = (0 : Int32) → ¬ v = (-1 : Int32)) ∧ (¬ z = (0 : Int32) → v = (-1 : Int32)) := ⟨fun h => by rw [hv, if_pos h]; exact own_nn p, fun h => by rw [hv, if_neg h]⟩
theorem own_kk {kk : Int32} {cnt : Nat} (h : kk.toInt = (cnt : Int)) : cnt.toInt32 = kk := by
  have r := rng32 kk
  apply Int32.toInt_inj.mp
  show (Int32.ofNat cnt).toInt = _
  rw [Int32.toInt_ofNat_of_lt (by omega), h]
theorem own_gt {kk : Int32} {cnt i : Nat} (h : kk.toInt = (cnt : Int)) (hi : Int32.ofNat i < kk) (h4 : i < 8 := by decide) : i < cnt := by
  rw [Int32.lt_iff_toInt_lt, Int32.toInt_ofNat_of_lt (by omega), h] at hi
  omega
theorem own_eqs {f g r : Nat → Int32} {n cnt i : Nat} (h1 : own_Is (own_sel f) n r) (h2 : own_Is (own_sel f) cnt g) (hi : i < cnt) : r i = g i := by
  have q := h2.1
  rw [h1.2 i (by omega), h2.2 i (by omega)]
theorem own_ef0 (m : MethodId) (p0 : Int32) (p1 : Int32) (p2 : Int32) (p3 : Int32) (p4 : Int32) : entryFrame m #[(.int p0), (.int p1), (.int p2), (.int p3), (.int p4)] maxLocals = mkF m 0 #[.val (.int p0), .val (.int p1), .val (.int p2), .val (.int p3), .val (.int p4), .unset, .unset, .unset, .unset, .unset, .unset, .unset, .unset, .unset, .unset, .unset, .unset] [] := by first | (simp [entryFrame, mkF, argsToLocals, Value.category, maxLocals]; done) | rfl
abbrev own_Q0 (n0 : Nat) (v : Option Value) (h : Heap) (L : List Loc) : Prop := v = some (.int 1) ∧ Fr n0 L
theorem own_pn0 : plainName "com/example/referent/referent/solver/IntTablesNumbersPinLaw" = true := by first | (simp [plainName, overriddenIn]; done) | decide +kernel
set_option maxRecDepth 65536 in
set_option maxHeartbeats 40000000 in
theorem rm0 (l : Launch) (Z : State) (a0 : Array Value) (hw : ∀ d ∈ tables_1, d.before a0 Z = true) (ws : List Jvm.Cond) (p0 : Int32) (p1 : Int32) (p2 : Int32) (p3 : Int32) (p4 : Int32) (h0 : Heap) (n0 : Nat) (Z0 : n0 ≤ h0.size) :
    MetFree l x (head1 (Jvm.Cond.code x code maxLocals ret :: ws) room_1) (fun a U => a = #[(.int p0), (.int p1), (.int p2), (.int p3), (.int p4)] ∧ Z.Warmed39 U.vm ∧ U.heap = h0) (fun _ _ _ _ _ => True) (fun _ U o U' => ∃ v L, o = .returned v ∧ own_Q0 n0 v U'.heap L ∧ FrameEnd U o U' L room_1.cells room_1.slots) := by
  refine own_contract (plainFor_of_name own_pn0) (fun m => own_ef0 m p0 p1 p2 p3 p4) ?_
  intro p e s m below meth c s₁ G hx hby hml0 hown0 hnm hret hZ X0 e0 hp hR
  have hml : c.maxLocals = 17 := hml0
  have hown : s.vm.findClass "com/example/referent/referent/solver/IntTablesNumbersPinLaw" = some m.cls := hown0
  have N0 := Fr.nil n0
  show G s₁ (mkF m 0 #[.val (.int p0), .val (.int p1), .val (.int p2), .val (.int p3), .val (.int p4), .unset, .unset, .unset, .unset, .unset, .unset, .unset, .unset, .unset, .unset, .unset, .unset] [])
  have K0 : Keep h0 h0 [] := Keep.refl _ _
  refine hp (fun tq kq => XS.iload X0.here hx rfl (hb hby at_0) rfl kq) ?_
  show G s₁ (mkF m 2 #[.val (.int p0), .val (.int p1), .val (.int p2), .val (.int p3), .val (.int p4), .unset, .unset, .unset, .unset, .unset, .unset, .unset, .unset, .unset, .unset, .unset, .unset] [(.int p4)])
  refine hp (fun tq kq => XS.iconst X0.here hx rfl (hb hby at_2) kq) ?_
  show G s₁ (mkF m 3 #[.val (.int p0), .val (.int p1), .val (.int p2), .val (.int p3), .val (.int p4), .unset, .unset, .unset, .unset, .unset, .unset, .unset, .unset, .unset, .unset, .unset, .unset] [(.int (1 : Int32)), (.int p4)])
  refine hp (fun tq kq => XS.iand X0.here hx rfl (hb hby at_3) rfl kq) ?_
  show G s₁ (mkF m 4 #[.val (.int p0), .val (.int p1), .val (.int p2), .val (.int p3), .val (.int p4), .unset, .unset, .unset, .unset, .unset, .unset, .unset, .unset, .unset, .unset, .unset, .unset] [(.int (p4 &&& (1 : Int32)))])
  have j1 : ∀ (z2 : Int32), z2 = (if (p4 &&& (1 : Int32)) = (0 : Int32) then (0 : Int32) else (1 : Int32)) → G s₁ (mkF m 12 #[.val (.int p0), .val (.int p1), .val (.int p2), .val (.int p3), .val (.int p4), .unset, .unset, .unset, .unset, .unset, .unset, .unset, .unset, .unset, .unset, .unset, .unset] [(.int z2)]) := by
    intro z2 hz2
    refine hp (fun tq kq => XS.istore X0.here hx rfl (hb hby at_12) rfl (l' := #[.val (.int p0), .val (.int p1), .val (.int p2), .val (.int p3), .val (.int p4), .val (.int z2), .unset, .unset, .unset, .unset, .unset, .unset, .unset, .unset, .unset, .unset, .unset]) rfl kq) ?_
    show G s₁ (mkF m 14 #[.val (.int p0), .val (.int p1), .val (.int p2), .val (.int p3), .val (.int p4), .val (.int z2), .unset, .unset, .unset, .unset, .unset, .unset, .unset, .unset, .unset, .unset, .unset] [])
    refine hp (fun tq kq => XS.iload X0.here hx rfl (hb hby at_14) rfl kq) ?_
    show G s₁ (mkF m 16 #[.val (.int p0), .val (.int p1), .val (.int p2), .val (.int p3), .val (.int p4), .val (.int z2), .unset, .unset, .unset, .unset, .unset, .unset, .unset, .unset, .unset, .unset, .unset] [(.int p4)])
    refine hp (fun tq kq => XS.iconst X0.here hx rfl (hb hby at_16) kq) ?_
    show G s₁ (mkF m 17 #[.val (.int p0), .val (.int p1), .val (.int p2), .val (.int p3), .val (.int p4), .val (.int z2), .unset, .unset, .unset, .unset, .unset, .unset, .unset, .unset, .unset, .unset, .unset] [(.int (2 : Int32)), (.int p4)])
    refine hp (fun tq kq => XS.iand X0.here hx rfl (hb hby at_17) rfl kq) ?_
    show G s₁ (mkF m 18 #[.val (.int p0), .val (.int p1), .val (.int p2), .val (.int p3), .val (.int p4), .val (.int z2), .unset, .unset, .unset, .unset, .unset, .unset, .unset, .unset, .unset, .unset, .unset] [(.int (p4 &&& (2 : Int32)))])
    have j3 : ∀ (z4 : Int32), z4 = (if (p4 &&& (2 : Int32)) = (0 : Int32) then (0 : Int32) else (1 : Int32)) → G s₁ (mkF m 26 #[.val (.int p0), .val (.int p1), .val (.int p2), .val (.int p3), .val (.int p4), .val (.int z2), .unset, .unset, .unset, .unset, .unset, .unset, .unset, .unset, .unset, .unset, .unset] [(.int z4)]) := by
      intro z4 hz4
      refine hp (fun tq kq => XS.istore X0.here hx rfl (hb hby at_26) rfl (l' := #[.val (.int p0), .val (.int p1), .val (.int p2), .val (.int p3), .val (.int p4), .val (.int z2), .val (.int z4), .unset, .unset, .unset, .unset, .unset, .unset, .unset, .unset, .unset, .unset]) rfl kq) ?_
      show G s₁ (mkF m 28 #[.val (.int p0), .val (.int p1), .val (.int p2), .val (.int p3), .val (.int p4), .val (.int z2), .val (.int z4), .unset, .unset, .unset, .unset, .unset, .unset, .unset, .unset, .unset, .unset] [])
      refine hp (fun tq kq => XS.iload X0.here hx rfl (hb hby at_28) rfl kq) ?_
      show G s₁ (mkF m 30 #[.val (.int p0), .val (.int p1), .val (.int p2), .val (.int p3), .val (.int p4), .val (.int z2), .val (.int z4), .unset, .unset, .unset, .unset, .unset, .unset, .unset, .unset, .unset, .unset] [(.int p4)])
      refine hp (fun tq kq => XS.iconst X0.here hx rfl (hb hby at_30) kq) ?_
      show G s₁ (mkF m 31 #[.val (.int p0), .val (.int p1), .val (.int p2), .val (.int p3), .val (.int p4), .val (.int z2), .val (.int z4), .unset, .unset, .unset, .unset, .unset, .unset, .unset, .unset, .unset, .unset] [(.int (4 : Int32)), (.int p4)])
      refine hp (fun tq kq => XS.iand X0.here hx rfl (hb hby at_31) rfl kq) ?_
      show G s₁ (mkF m 32 #[.val (.int p0), .val (.int p1), .val (.int p2), .val (.int p3), .val (.int p4), .val (.int z2), .val (.int z4), .unset, .unset, .unset, .unset, .unset, .unset, .unset, .unset, .unset, .unset] [(.int (p4 &&& (4 : Int32)))])
      have j5 : ∀ (z6 : Int32), z6 = (if (p4 &&& (4 : Int32)) = (0 : Int32) then (0 : Int32) else (1 : Int32)) → G s₁ (mkF m 40 #[.val (.int p0), .val (.int p1), .val (.int p2), .val (.int p3), .val (.int p4), .val (.int z2), .val (.int z4), .unset, .unset, .unset, .unset, .unset, .unset, .unset, .unset, .unset, .unset] [(.int z6)]) := by
        intro z6 hz6
        refine hp (fun tq kq => XS.istore X0.here hx rfl (hb hby at_40) rfl (l' := #[.val (.int p0), .val (.int p1), .val (.int p2), .val (.int p3), .val (.int p4), .val (.int z2), .val (.int z4), .val (.int z6), .unset, .unset, .unset, .unset, .unset, .unset, .unset, .unset, .unset]) rfl kq) ?_
        show G s₁ (mkF m 42 #[.val (.int p0), .val (.int p1), .val (.int p2), .val (.int p3), .val (.int p4), .val (.int z2), .val (.int z4), .val (.int z6), .unset, .unset, .unset, .unset, .unset, .unset, .unset, .unset, .unset] [])
        refine hp (fun tq kq => XS.iload X0.here hx rfl (hb hby at_42) rfl kq) ?_
        show G s₁ (mkF m 44 #[.val (.int p0), .val (.int p1), .val (.int p2), .val (.int p3), .val (.int p4), .val (.int z2), .val (.int z4), .val (.int z6), .unset, .unset, .unset, .unset, .unset, .unset, .unset, .unset, .unset] [(.int p4)])
        refine hp (fun tq kq => XS.bipush X0.here hx rfl (hb hby at_44) kq) ?_
        show G s₁ (mkF m 46 #[.val (.int p0), .val (.int p1), .val (.int p2), .val (.int p3), .val (.int p4), .val (.int z2), .val (.int z4), .val (.int z6), .unset, .unset, .unset, .unset, .unset, .unset, .unset, .unset, .unset] [(.int (8 : Int32)), (.int p4)])
        refine hp (fun tq kq => XS.iand X0.here hx rfl (hb hby at_46) rfl kq) ?_
        show G s₁ (mkF m 47 #[.val (.int p0), .val (.int p1), .val (.int p2), .val (.int p3), .val (.int p4), .val (.int z2), .val (.int z4), .val (.int z6), .unset, .unset, .unset, .unset, .unset, .unset, .unset, .unset, .unset] [(.int (p4 &&& (8 : Int32)))])
        have j7 : ∀ (z8 : Int32), z8 = (if (p4 &&& (8 : Int32)) = (0 : Int32) then (0 : Int32) else (1 : Int32)) → G s₁ (mkF m 55 #[.val (.int p0), .val (.int p1), .val (.int p2), .val (.int p3), .val (.int p4), .val (.int z2), .val (.int z4), .val (.int z6), .unset, .unset, .unset, .unset, .unset, .unset, .unset, .unset, .unset] [(.int z8)]) := by
          intro z8 hz8
          refine hp (fun tq kq => XS.istore X0.here hx rfl (hb hby at_55) rfl (l' := #[.val (.int p0), .val (.int p1), .val (.int p2), .val (.int p3), .val (.int p4), .val (.int z2), .val (.int z4), .val (.int z6), .val (.int z8), .unset, .unset, .unset, .unset, .unset, .unset, .unset, .unset]) rfl kq) ?_
          show G s₁ (mkF m 57 #[.val (.int p0), .val (.int p1), .val (.int p2), .val (.int p3), .val (.int p4), .val (.int z2), .val (.int z4), .val (.int z6), .val (.int z8), .unset, .unset, .unset, .unset, .unset, .unset, .unset, .unset] [])
          refine hp (fun tq kq => XS.iload X0.here hx rfl (hb hby at_57) rfl kq) ?_
          show G s₁ (mkF m 59 #[.val (.int p0), .val (.int p1), .val (.int p2), .val (.int p3), .val (.int p4), .val (.int z2), .val (.int z4), .val (.int z6), .val (.int z8), .unset, .unset, .unset, .unset, .unset, .unset, .unset, .unset] [(.int z2)])
          have j9 : ∀ (z10 : Int32), z10 = (if z2 = (0 : Int32) then (p0 &&& (2147483647 : Int32)) else (-1 : Int32)) → G s₁ (mkF m 70 #[.val (.int p0), .val (.int p1), .val (.int p2), .val (.int p3), .val (.int p4), .val (.int z2), .val (.int z4), .val (.int z6), .val (.int z8), .unset, .unset, .unset, .unset, .unset, .unset, .unset, .unset] [(.int z10)]) := by
            intro z10 hz10
            refine hp (fun tq kq => XS.istore X0.here hx rfl (hb hby at_70) rfl (l' := #[.val (.int p0), .val (.int p1), .val (.int p2), .val (.int p3), .val (.int p4), .val (.int z2), .val (.int z4), .val (.int z6), .val (.int z8), .val (.int z10), .unset, .unset, .unset, .unset, .unset, .unset, .unset]) rfl kq) ?_
            show G s₁ (mkF m 72 #[.val (.int p0), .val (.int p1), .val (.int p2), .val (.int p3), .val (.int p4), .val (.int z2), .val (.int z4), .val (.int z6), .val (.int z8), .val (.int z10), .unset, .unset, .unset, .unset, .unset, .unset, .unset] [])
            refine hp (fun tq kq => XS.iload X0.here hx rfl (hb hby at_72) rfl kq) ?_
            show G s₁ (mkF m 74 #[.val (.int p0), .val (.int p1), .val (.int p2), .val (.int p3), .val (.int p4), .val (.int z2), .val (.int z4), .val (.int z6), .val (.int z8), .val (.int z10), .unset, .unset, .unset, .unset, .unset, .unset, .unset] [(.int z4)])
            have j11 : ∀ (z12 : Int32), z12 = (if z4 = (0 : Int32) then (p1 &&& (2147483647 : Int32)) else (-1 : Int32)) → G s₁ (mkF m 85 #[.val (.int p0), .val (.int p1), .val (.int p2), .val (.int p3), .val (.int p4), .val (.int z2), .val (.int z4), .val (.int z6), .val (.int z8), .val (.int z10), .unset, .unset, .unset, .unset, .unset, .unset, .unset] [(.int z12)]) := by
              intro z12 hz12
              refine hp (fun tq kq => XS.istore X0.here hx rfl (hb hby at_85) rfl (l' := #[.val (.int p0), .val (.int p1), .val (.int p2), .val (.int p3), .val (.int p4), .val (.int z2), .val (.int z4), .val (.int z6), .val (.int z8), .val (.int z10), .val (.int z12), .unset, .unset, .unset, .unset, .unset, .unset]) rfl kq) ?_
              show G s₁ (mkF m 87 #[.val (.int p0), .val (.int p1), .val (.int p2), .val (.int p3), .val (.int p4), .val (.int z2), .val (.int z4), .val (.int z6), .val (.int z8), .val (.int z10), .val (.int z12), .unset, .unset, .unset, .unset, .unset, .unset] [])
              refine hp (fun tq kq => XS.iload X0.here hx rfl (hb hby at_87) rfl kq) ?_
              show G s₁ (mkF m 89 #[.val (.int p0), .val (.int p1), .val (.int p2), .val (.int p3), .val (.int p4), .val (.int z2), .val (.int z4), .val (.int z6), .val (.int z8), .val (.int z10), .val (.int z12), .unset, .unset, .unset, .unset, .unset, .unset] [(.int z6)])
              have j13 : ∀ (z14 : Int32), z14 = (if z6 = (0 : Int32) then (p2 &&& (2147483647 : Int32)) else (-1 : Int32)) → G s₁ (mkF m 100 #[.val (.int p0), .val (.int p1), .val (.int p2), .val (.int p3), .val (.int p4), .val (.int z2), .val (.int z4), .val (.int z6), .val (.int z8), .val (.int z10), .val (.int z12), .unset, .unset, .unset, .unset, .unset, .unset] [(.int z14)]) := by
                intro z14 hz14
                refine hp (fun tq kq => XS.istore X0.here hx rfl (hb hby at_100) rfl (l' := #[.val (.int p0), .val (.int p1), .val (.int p2), .val (.int p3), .val (.int p4), .val (.int z2), .val (.int z4), .val (.int z6), .val (.int z8), .val (.int z10), .val (.int z12), .val (.int z14), .unset, .unset, .unset, .unset, .unset]) rfl kq) ?_
                show G s₁ (mkF m 102 #[.val (.int p0), .val (.int p1), .val (.int p2), .val (.int p3), .val (.int p4), .val (.int z2), .val (.int z4), .val (.int z6), .val (.int z8), .val (.int z10), .val (.int z12), .val (.int z14), .unset, .unset, .unset, .unset, .unset] [])
                refine hp (fun tq kq => XS.iload X0.here hx rfl (hb hby at_102) rfl kq) ?_
                show G s₁ (mkF m 104 #[.val (.int p0), .val (.int p1), .val (.int p2), .val (.int p3), .val (.int p4), .val (.int z2), .val (.int z4), .val (.int z6), .val (.int z8), .val (.int z10), .val (.int z12), .val (.int z14), .unset, .unset, .unset, .unset, .unset] [(.int z8)])
                have j15 : ∀ (z16 : Int32), z16 = (if z8 = (0 : Int32) then (p3 &&& (2147483647 : Int32)) else (-1 : Int32)) → G s₁ (mkF m 115 #[.val (.int p0), .val (.int p1), .val (.int p2), .val (.int p3), .val (.int p4), .val (.int z2), .val (.int z4), .val (.int z6), .val (.int z8), .val (.int z10), .val (.int z12), .val (.int z14), .unset, .unset, .unset, .unset, .unset] [(.int z16)]) := by
                  intro z16 hz16
                  refine hp (fun tq kq => XS.istore X0.here hx rfl (hb hby at_115) rfl (l' := #[.val (.int p0), .val (.int p1), .val (.int p2), .val (.int p3), .val (.int p4), .val (.int z2), .val (.int z4), .val (.int z6), .val (.int z8), .val (.int z10), .val (.int z12), .val (.int z14), .val (.int z16), .unset, .unset, .unset, .unset]) rfl kq) ?_
                  show G s₁ (mkF m 117 #[.val (.int p0), .val (.int p1), .val (.int p2), .val (.int p3), .val (.int p4), .val (.int z2), .val (.int z4), .val (.int z6), .val (.int z8), .val (.int z10), .val (.int z12), .val (.int z14), .val (.int z16), .unset, .unset, .unset, .unset] [])
                  refine hp (fun tq kq => XS.iconst X0.here hx rfl (hb hby at_117) kq) ?_
                  show G s₁ (mkF m 118 #[.val (.int p0), .val (.int p1), .val (.int p2), .val (.int p3), .val (.int p4), .val (.int z2), .val (.int z4), .val (.int z6), .val (.int z8), .val (.int z10), .val (.int z12), .val (.int z14), .val (.int z16), .unset, .unset, .unset, .unset] [(.int (4 : Int32))])
                  obtain ⟨T17, h17, k17, X17, e17, E17, A17, st17⟩ := newP X0 hx hZ (hw _ (List.mem_of_getElem? (i := 1) rfl)) e0 (g := (mkF m 118 #[.val (.int p0), .val (.int p1), .val (.int p2), .val (.int p3), .val (.int p4), .val (.int z2), .val (.int z4), .val (.int z6), .val (.int z8), .val (.int z10), .val (.int z12), .val (.int z14), .val (.int z16), .unset, .unset, .unset, .unset] [(.int (4 : Int32))])) rfl (hb hby at_118) rfl (by decide) (cap := 4) (by decide) (by decide) (by decide) (by decide)
                  obtain ⟨b17, g17⟩ : ∃ z, z = h0.size := ⟨_, rfl⟩
                  rw [← g17] at A17 st17
                  have sz_b17 : h0.size ≤ b17 := Nat.le_trans K0.1 (Nat.le_of_eq g17.symm)
                  have g_b17 : n0 ≤ b17 := Nat.le_trans Z0 sz_b17
                  have K17 := K0.ext E17
                  have V17_b17 : own_AI Z h17 b17 .int 4 (fun _ => 0) := own_AI.new A17 (by decide) rfl 4 (by decide)
                  refine hp st17 ?_
                  show G T17 (mkF m 120 #[.val (.int p0), .val (.int p1), .val (.int p2), .val (.int p3), .val (.int p4), .val (.int z2), .val (.int z4), .val (.int z6), .val (.int z8), .val (.int z10), .val (.int z12), .val (.int z14), .val (.int z16), .unset, .unset, .unset, .unset] [(.ref b17)])
                  refine hp (fun tq kq => XS.dup X17.here hx rfl (hb hby at_120) rfl rfl kq) ?_
                  show G T17 (mkF m 121 #[.val (.int p0), .val (.int p1), .val (.int p2), .val (.int p3), .val (.int p4), .val (.int z2), .val (.int z4), .val (.int z6), .val (.int z8), .val (.int z10), .val (.int z12), .val (.int z14), .val (.int z16), .unset, .unset, .unset, .unset] [(.ref b17), (.ref b17)])
                  refine hp (fun tq kq => XS.iconst X17.here hx rfl (hb hby at_121) kq) ?_
                  show G T17 (mkF m 122 #[.val (.int p0), .val (.int p1), .val (.int p2), .val (.int p3), .val (.int p4), .val (.int z2), .val (.int z4), .val (.int z6), .val (.int z8), .val (.int z10), .val (.int z12), .val (.int z14), .val (.int z16), .unset, .unset, .unset, .unset] [(.int (0 : Int32)), (.ref b17), (.ref b17)])
                  refine hp (fun tq kq => XS.iload X17.here hx rfl (hb hby at_122) rfl kq) ?_
                  show G T17 (mkF m 124 #[.val (.int p0), .val (.int p1), .val (.int p2), .val (.int p3), .val (.int p4), .val (.int z2), .val (.int z4), .val (.int z6), .val (.int z8), .val (.int z10), .val (.int z12), .val (.int z14), .val (.int z16), .unset, .unset, .unset, .unset] [(.int z10), (.int (0 : Int32)), (.ref b17), (.ref b17)])
                  obtain ⟨T18, h18, X18, e18, W18, V18_b17, st18⟩ := own_stI X17 hx hZ e17 V17_b17 (j := (0 : Int32)) 0 (by decide) (by decide) (by decide) (g := (mkF m 124 #[.val (.int p0), .val (.int p1), .val (.int p2), .val (.int p3), .val (.int p4), .val (.int z2), .val (.int z4), .val (.int z6), .val (.int z8), .val (.int z10), .val (.int z12), .val (.int z14), .val (.int z16), .unset, .unset, .unset, .unset] [(.int z10), (.int (0 : Int32)), (.ref b17), (.ref b17)])) rfl rfl (hb hby at_124)
                  have K18 := K17.wr W18 (Or.inr sz_b17)
                  have N18 := Fr.snoc X18 N0 g_b17
                  refine hp st18 ?_
                  show G T18 (mkF m 125 #[.val (.int p0), .val (.int p1), .val (.int p2), .val (.int p3), .val (.int p4), .val (.int z2), .val (.int z4), .val (.int z6), .val (.int z8), .val (.int z10), .val (.int z12), .val (.int z14), .val (.int z16), .unset, .unset, .unset, .unset] [(.ref b17)])
                  refine hp (fun tq kq => XS.dup X18.here hx rfl (hb hby at_125) rfl rfl kq) ?_
                  show G T18 (mkF m 126 #[.val (.int p0), .val (.int p1), .val (.int p2), .val (.int p3), .val (.int p4), .val (.int z2), .val (.int z4), .val (.int z6), .val (.int z8), .val (.int z10), .val (.int z12), .val (.int z14), .val (.int z16), .unset, .unset, .unset, .unset] [(.ref b17), (.ref b17)])
                  refine hp (fun tq kq => XS.iconst X18.here hx rfl (hb hby at_126) kq) ?_
                  show G T18 (mkF m 127 #[.val (.int p0), .val (.int p1), .val (.int p2), .val (.int p3), .val (.int p4), .val (.int z2), .val (.int z4), .val (.int z6), .val (.int z8), .val (.int z10), .val (.int z12), .val (.int z14), .val (.int z16), .unset, .unset, .unset, .unset] [(.int (1 : Int32)), (.ref b17), (.ref b17)])
                  refine hp (fun tq kq => XS.iload X18.here hx rfl (hb hby at_127) rfl kq) ?_
                  show G T18 (mkF m 129 #[.val (.int p0), .val (.int p1), .val (.int p2), .val (.int p3), .val (.int p4), .val (.int z2), .val (.int z4), .val (.int z6), .val (.int z8), .val (.int z10), .val (.int z12), .val (.int z14), .val (.int z16), .unset, .unset, .unset, .unset] [(.int z12), (.int (1 : Int32)), (.ref b17), (.ref b17)])
                  obtain ⟨T19, h19, X19, e19, W19, V19_b17, st19⟩ := own_stI X18 hx hZ e18 V18_b17 (j := (1 : Int32)) 1 (by decide) (by decide) (by decide) (g := (mkF m 129 #[.val (.int p0), .val (.int p1), .val (.int p2), .val (.int p3), .val (.int p4), .val (.int z2), .val (.int z4), .val (.int z6), .val (.int z8), .val (.int z10), .val (.int z12), .val (.int z14), .val (.int z16), .unset, .unset, .unset, .unset] [(.int z12), (.int (1 : Int32)), (.ref b17), (.ref b17)])) rfl rfl (hb hby at_129)
                  have K19 := K18.wr W19 (Or.inr sz_b17)
                  have N19 := Fr.snoc X19 N18 g_b17
                  refine hp st19 ?_
                  show G T19 (mkF m 130 #[.val (.int p0), .val (.int p1), .val (.int p2), .val (.int p3), .val (.int p4), .val (.int z2), .val (.int z4), .val (.int z6), .val (.int z8), .val (.int z10), .val (.int z12), .val (.int z14), .val (.int z16), .unset, .unset, .unset, .unset] [(.ref b17)])
                  refine hp (fun tq kq => XS.dup X19.here hx rfl (hb hby at_130) rfl rfl kq) ?_
                  show G T19 (mkF m 131 #[.val (.int p0), .val (.int p1), .val (.int p2), .val (.int p3), .val (.int p4), .val (.int z2), .val (.int z4), .val (.int z6), .val (.int z8), .val (.int z10), .val (.int z12), .val (.int z14), .val (.int z16), .unset, .unset, .unset, .unset] [(.ref b17), (.ref b17)])
                  refine hp (fun tq kq => XS.iconst X19.here hx rfl (hb hby at_131) kq) ?_
                  show G T19 (mkF m 132 #[.val (.int p0), .val (.int p1), .val (.int p2), .val (.int p3), .val (.int p4), .val (.int z2), .val (.int z4), .val (.int z6), .val (.int z8), .val (.int z10), .val (.int z12), .val (.int z14), .val (.int z16), .unset, .unset, .unset, .unset] [(.int (2 : Int32)), (.ref b17), (.ref b17)])
                  refine hp (fun tq kq => XS.iload X19.here hx rfl (hb hby at_132) rfl kq) ?_
                  show G T19 (mkF m 134 #[.val (.int p0), .val (.int p1), .val (.int p2), .val (.int p3), .val (.int p4), .val (.int z2), .val (.int z4), .val (.int z6), .val (.int z8), .val (.int z10), .val (.int z12), .val (.int z14), .val (.int z16), .unset, .unset, .unset, .unset] [(.int z14), (.int (2 : Int32)), (.ref b17), (.ref b17)])
                  obtain ⟨T20, h20, X20, e20, W20, V20_b17, st20⟩ := own_stI X19 hx hZ e19 V19_b17 (j := (2 : Int32)) 2 (by decide) (by decide) (by decide) (g := (mkF m 134 #[.val (.int p0), .val (.int p1), .val (.int p2), .val (.int p3), .val (.int p4), .val (.int z2), .val (.int z4), .val (.int z6), .val (.int z8), .val (.int z10), .val (.int z12), .val (.int z14), .val (.int z16), .unset, .unset, .unset, .unset] [(.int z14), (.int (2 : Int32)), (.ref b17), (.ref b17)])) rfl rfl (hb hby at_134)
                  have K20 := K19.wr W20 (Or.inr sz_b17)
                  have N20 := Fr.snoc X20 N19 g_b17
                  refine hp st20 ?_
                  show G T20 (mkF m 135 #[.val (.int p0), .val (.int p1), .val (.int p2), .val (.int p3), .val (.int p4), .val (.int z2), .val (.int z4), .val (.int z6), .val (.int z8), .val (.int z10), .val (.int z12), .val (.int z14), .val (.int z16), .unset, .unset, .unset, .unset] [(.ref b17)])
                  refine hp (fun tq kq => XS.dup X20.here hx rfl (hb hby at_135) rfl rfl kq) ?_
                  show G T20 (mkF m 136 #[.val (.int p0), .val (.int p1), .val (.int p2), .val (.int p3), .val (.int p4), .val (.int z2), .val (.int z4), .val (.int z6), .val (.int z8), .val (.int z10), .val (.int z12), .val (.int z14), .val (.int z16), .unset, .unset, .unset, .unset] [(.ref b17), (.ref b17)])
                  refine hp (fun tq kq => XS.iconst X20.here hx rfl (hb hby at_136) kq) ?_
                  show G T20 (mkF m 137 #[.val (.int p0), .val (.int p1), .val (.int p2), .val (.int p3), .val (.int p4), .val (.int z2), .val (.int z4), .val (.int z6), .val (.int z8), .val (.int z10), .val (.int z12), .val (.int z14), .val (.int z16), .unset, .unset, .unset, .unset] [(.int (3 : Int32)), (.ref b17), (.ref b17)])
                  refine hp (fun tq kq => XS.iload X20.here hx rfl (hb hby at_137) rfl kq) ?_
                  show G T20 (mkF m 139 #[.val (.int p0), .val (.int p1), .val (.int p2), .val (.int p3), .val (.int p4), .val (.int z2), .val (.int z4), .val (.int z6), .val (.int z8), .val (.int z10), .val (.int z12), .val (.int z14), .val (.int z16), .unset, .unset, .unset, .unset] [(.int z16), (.int (3 : Int32)), (.ref b17), (.ref b17)])
                  obtain ⟨T21, h21, X21, e21, W21, V21_b17, st21⟩ := own_stI X20 hx hZ e20 V20_b17 (j := (3 : Int32)) 3 (by decide) (by decide) (by decide) (g := (mkF m 139 #[.val (.int p0), .val (.int p1), .val (.int p2), .val (.int p3), .val (.int p4), .val (.int z2), .val (.int z4), .val (.int z6), .val (.int z8), .val (.int z10), .val (.int z12), .val (.int z14), .val (.int z16), .unset, .unset, .unset, .unset] [(.int z16), (.int (3 : Int32)), (.ref b17), (.ref b17)])) rfl rfl (hb hby at_139)
                  have K21 := K20.wr W21 (Or.inr sz_b17)
                  have N21 := Fr.snoc X21 N20 g_b17
                  refine hp st21 ?_
                  show G T21 (mkF m 140 #[.val (.int p0), .val (.int p1), .val (.int p2), .val (.int p3), .val (.int p4), .val (.int z2), .val (.int z4), .val (.int z6), .val (.int z8), .val (.int z10), .val (.int z12), .val (.int z14), .val (.int z16), .unset, .unset, .unset, .unset] [(.ref b17)])
                  refine hp (fun tq kq => XS.astore X21.here hx rfl (hb hby at_140) rfl rfl (l' := #[.val (.int p0), .val (.int p1), .val (.int p2), .val (.int p3), .val (.int p4), .val (.int z2), .val (.int z4), .val (.int z6), .val (.int z8), .val (.int z10), .val (.int z12), .val (.int z14), .val (.int z16), .val (.ref b17), .unset, .unset, .unset]) rfl kq) ?_
                  show G T21 (mkF m 142 #[.val (.int p0), .val (.int p1), .val (.int p2), .val (.int p3), .val (.int p4), .val (.int z2), .val (.int z4), .val (.int z6), .val (.int z8), .val (.int z10), .val (.int z12), .val (.int z14), .val (.int z16), .val (.ref b17), .unset, .unset, .unset] [])
                  refine hp (fun tq kq => XS.iconst X21.here hx rfl (hb hby at_142) kq) ?_
                  show G T21 (mkF m 143 #[.val (.int p0), .val (.int p1), .val (.int p2), .val (.int p3), .val (.int p4), .val (.int z2), .val (.int z4), .val (.int z6), .val (.int z8), .val (.int z10), .val (.int z12), .val (.int z14), .val (.int z16), .val (.ref b17), .unset, .unset, .unset] [(.int (4 : Int32))])
                  obtain ⟨T22, h22, k22, X22, e22, E22, A22, st22⟩ := newP X21 hx hZ (hw _ (List.mem_of_getElem? (i := 1) rfl)) e21 (g := (mkF m 143 #[.val (.int p0), .val (.int p1), .val (.int p2), .val (.int p3), .val (.int p4), .val (.int z2), .val (.int z4), .val (.int z6), .val (.int z8), .val (.int z10), .val (.int z12), .val (.int z14), .val (.int z16), .val (.ref b17), .unset, .unset, .unset] [(.int (4 : Int32))])) rfl (hb hby at_143) rfl (by decide) (cap := 4) (by decide) (by decide) (by decide) (by decide)
                  obtain ⟨b22, g22⟩ : ∃ z, z = h21.size := ⟨_, rfl⟩
                  rw [← g22] at A22 st22
                  have ne22_b17 : b17 ≠ b22 := Nat.ne_of_lt (Nat.lt_of_lt_of_le V21_b17.lt (Nat.le_of_eq g22.symm))
                  have sz_b22 : h0.size ≤ b22 := Nat.le_trans K21.1 (Nat.le_of_eq g22.symm)
                  have g_b22 : n0 ≤ b22 := Nat.le_trans Z0 sz_b22
                  have V22_b17 := V21_b17.ext E22
                  have K22 := K21.ext E22
                  have V22_b22 : own_AI Z h22 b22 .int 4 (fun _ => 0) := own_AI.new A22 (by decide) rfl 4 (by decide)
                  refine hp st22 ?_
                  show G T22 (mkF m 145 #[.val (.int p0), .val (.int p1), .val (.int p2), .val (.int p3), .val (.int p4), .val (.int z2), .val (.int z4), .val (.int z6), .val (.int z8), .val (.int z10), .val (.int z12), .val (.int z14), .val (.int z16), .val (.ref b17), .unset, .unset, .unset] [(.ref b22)])
                  refine hp (fun tq kq => XS.astore X22.here hx rfl (hb hby at_145) rfl rfl (l' := #[.val (.int p0), .val (.int p1), .val (.int p2), .val (.int p3), .val (.int p4), .val (.int z2), .val (.int z4), .val (.int z6), .val (.int z8), .val (.int z10), .val (.int z12), .val (.int z14), .val (.int z16), .val (.ref b17), .val (.ref b22), .unset, .unset]) rfl kq) ?_
                  show G T22 (mkF m 147 #[.val (.int p0), .val (.int p1), .val (.int p2), .val (.int p3), .val (.int p4), .val (.int z2), .val (.int z4), .val (.int z6), .val (.int z8), .val (.int z10), .val (.int z12), .val (.int z14), .val (.int z16), .val (.ref b17), .val (.ref b22), .unset, .unset] [])
                  refine hp (fun tq kq => XS.iconst X22.here hx rfl (hb hby at_147) kq) ?_
                  show G T22 (mkF m 148 #[.val (.int p0), .val (.int p1), .val (.int p2), .val (.int p3), .val (.int p4), .val (.int z2), .val (.int z4), .val (.int z6), .val (.int z8), .val (.int z10), .val (.int z12), .val (.int z14), .val (.int z16), .val (.ref b17), .val (.ref b22), .unset, .unset] [(.int (0 : Int32))])
                  refine hp (fun tq kq => XS.istore X22.here hx rfl (hb hby at_148) rfl (l' := #[.val (.int p0), .val (.int p1), .val (.int p2), .val (.int p3), .val (.int p4), .val (.int z2), .val (.int z4), .val (.int z6), .val (.int z8), .val (.int z10), .val (.int z12), .val (.int z14), .val (.int z16), .val (.ref b17), .val (.ref b22), .val (.int (0 : Int32)), .unset]) rfl kq) ?_
                  show G T22 (mkF m 150 #[.val (.int p0), .val (.int p1), .val (.int p2), .val (.int p3), .val (.int p4), .val (.int z2), .val (.int z4), .val (.int z6), .val (.int z8), .val (.int z10), .val (.int z12), .val (.int z14), .val (.int z16), .val (.ref b17), .val (.ref b22), .val (.int (0 : Int32)), .unset] [])
                  have j210 : ∀ (T9 : State) (locs9 : List Loc) (h9 : Heap) (g : Nat → Int32) (kk : Int32) (cnt : Nat), Stand p l e room_1 s m #[(.int p0), (.int p1), (.int p2), (.int p3), (.int p4)] below meth c T9 locs9 2 8 → T9.heap = h9 → Keep h0 h9 [] → Fr n0 locs9 → own_AI Z h9 b17 .int 4 (own_up (own_up (own_up (own_up (fun _ => (0 : Int32)) 0 z10) 1 z12) 2 z14) 3 z16) → own_AI Z h9 b22 .int 4 g → kk.toInt = (cnt : Int) → own_Is (own_sel (own_up (own_up (own_up (own_up (fun _ => (0 : Int32)) 0 z10) 1 z12) 2 z14) 3 z16)) cnt g → G T9 (mkF m 210 #[.val (.int p0), .val (.int p1), .val (.int p2), .val (.int p3), .val (.int p4), .val (.int z2), .val (.int z4), .val (.int z6), .val (.int z8), .val (.int z10), .val (.int z12), .val (.int z14), .val (.int z16), .val (.ref b17), .val (.ref b22), .val (.int kk), .unset] []) := by
                    intro T9 locs9 h9 g kk cnt X9 e9 K9 N9 Vt9 Ve9 hkk hcnt
                    show G T9 (mkF m 210 #[.val (.int p0), .val (.int p1), .val (.int p2), .val (.int p3), .val (.int p4), .val (.int z2), .val (.int z4), .val (.int z6), .val (.int z8), .val (.int z10), .val (.int z12), .val (.int z14), .val (.int z16), .val (.ref b17), .val (.ref b22), .val (.int kk), .unset] [])
                    refine hp (fun tq kq => XS.aload X9.here hx rfl (hb hby at_210) rfl rfl kq) ?_
                    show G T9 (mkF m 212 #[.val (.int p0), .val (.int p1), .val (.int p2), .val (.int p3), .val (.int p4), .val (.int z2), .val (.int z4), .val (.int z6), .val (.int z8), .val (.int z10), .val (.int z12), .val (.int z14), .val (.int z16), .val (.ref b17), .val (.ref b22), .val (.int kk), .unset] [(.ref b17)])
                    obtain ⟨v23, T23, L23, X23, hQ23, st23⟩ := own_callS X9 hx hZ (y := (⟨"com/example/referent/referent/solver/IntTables", "numbers", "([I)[I"⟩ : MethodName)) (rm := ({ frames := 0, cells := 1, slots := 4, locals := 0 } : Room)) 0 hown (hw _ (List.mem_of_getElem? (i := 2) rfl)) (hw _ (List.mem_of_getElem? (i := 3) rfl)) (hw _ (List.mem_of_getElem? (i := 4) rfl)) (hw _ (List.mem_of_getElem? (i := 5) rfl)) (by decide) (rm1 l Z a0 hw [] b17 (own_up (own_up (own_up (own_up (fun _ => (0 : Int32)) 0 z10) 1 z12) 2 z14) 3 z16) h9 n0 (Nat.le_trans Z0 K9.1) Vt9) e9 (by decide) (by decide) (g := (mkF m 212 #[.val (.int p0), .val (.int p1), .val (.int p2), .val (.int p3), .val (.int p4), .val (.int z2), .val (.int z4), .val (.int z6), .val (.int z8), .val (.int z10), .val (.int z12), .val (.int z14), .val (.int z16), .val (.ref b17), .val (.ref b22), .val (.int kk), .unset] [(.ref b17)])) rfl (by rw [hml]; rfl) [(.ref b17)] [] own_pd0 rfl rfl (by show 2 * 0 + _ ≤ _; exact Nat.le_of_eq rfl) (hb hby at_212) rfl (by decide) (by decide)
                    obtain ⟨b23, n23, r23, rfl, N23, Kc23, s23, V23_b23, hsel23⟩ := hQ23
                    have N23b := Fr.app N9 N23
                    obtain rfl : n23 = cnt := hsel23.1.trans hcnt.1.symm
                    have ne23_b17 : b17 ≠ b23 := Nat.ne_of_lt (Nat.lt_of_lt_of_le Vt9.lt s23)
                    have ne23_b22 : b22 ≠ b23 := Nat.ne_of_lt (Nat.lt_of_lt_of_le Ve9.lt s23)
                    have V23_b17 := Vt9.keep Kc23 nin0
                    have V23_b22 := Ve9.keep Kc23 nin0
                    have sz_b23 : h0.size ≤ b23 := Nat.le_trans K9.1 s23
                    have K23 := K9.trans Kc23 all0
                    refine hp st23 ?_
                    show G T23 (mkF m 215 #[.val (.int p0), .val (.int p1), .val (.int p2), .val (.int p3), .val (.int p4), .val (.int z2), .val (.int z4), .val (.int z6), .val (.int z8), .val (.int z10), .val (.int z12), .val (.int z14), .val (.int z16), .val (.ref b17), .val (.ref b22), .val (.int kk), .unset] [(.ref b23)])
                    refine hp (fun tq kq => XS.astore X23.here hx rfl (hb hby at_215) rfl rfl (l' := #[.val (.int p0), .val (.int p1), .val (.int p2), .val (.int p3), .val (.int p4), .val (.int z2), .val (.int z4), .val (.int z6), .val (.int z8), .val (.int z10), .val (.int z12), .val (.int z14), .val (.int z16), .val (.ref b17), .val (.ref b22), .val (.int kk), .val (.ref b23)]) rfl kq) ?_
                    show G T23 (mkF m 217 #[.val (.int p0), .val (.int p1), .val (.int p2), .val (.int p3), .val (.int p4), .val (.int z2), .val (.int z4), .val (.int z6), .val (.int z8), .val (.int z10), .val (.int z12), .val (.int z14), .val (.int z16), .val (.ref b17), .val (.ref b22), .val (.int kk), .val (.ref b23)] [])
                    refine hp (fun tq kq => XS.aload X23.here hx rfl (hb hby at_217) rfl rfl kq) ?_
                    show G T23 (mkF m 219 #[.val (.int p0), .val (.int p1), .val (.int p2), .val (.int p3), .val (.int p4), .val (.int z2), .val (.int z4), .val (.int z6), .val (.int z8), .val (.int z10), .val (.int z12), .val (.int z14), .val (.int z16), .val (.ref b17), .val (.ref b22), .val (.int kk), .val (.ref b23)] [(.ref b23)])
                    refine hp (fun tq kq => XS.aload X23.here hx rfl (hb hby at_219) rfl rfl kq) ?_
                    show G T23 (mkF m 221 #[.val (.int p0), .val (.int p1), .val (.int p2), .val (.int p3), .val (.int p4), .val (.int z2), .val (.int z4), .val (.int z6), .val (.int z8), .val (.int z10), .val (.int z12), .val (.int z14), .val (.int z16), .val (.ref b17), .val (.ref b22), .val (.int kk), .val (.ref b23)] [(.ref b17), (.ref b23)])
                    refine hp (fun tq kq => Jvm.RoadKit.acmp (g := (mkF m 221 #[.val (.int p0), .val (.int p1), .val (.int p2), .val (.int p3), .val (.int p4), .val (.int z2), .val (.int z4), .val (.int z6), .val (.int z8), .val (.int z10), .val (.int z12), .val (.int z14), .val (.int z16), .val (.ref b17), .val (.ref b22), .val (.int kk), .val (.ref b23)] [(.ref b17), (.ref b23)])) X23 hx rfl rfl rfl (pc0 := 221) (pc' := 226) (same := false) rfl (hb hby at_221) rfl (decide_eq_false fun q => (Ne.symm ne23_b17) (Value.ref.inj q)) (by decide) (by decide) kq) ?_
                    show G T23 (mkF m 226 #[.val (.int p0), .val (.int p1), .val (.int p2), .val (.int p3), .val (.int p4), .val (.int z2), .val (.int z4), .val (.int z6), .val (.int z8), .val (.int z10), .val (.int z12), .val (.int z14), .val (.int z16), .val (.ref b17), .val (.ref b22), .val (.int kk), .val (.ref b23)] [])
                    refine hp (fun tq kq => XS.aload X23.here hx rfl (hb hby at_226) rfl rfl kq) ?_
                    show G T23 (mkF m 228 #[.val (.int p0), .val (.int p1), .val (.int p2), .val (.int p3), .val (.int p4), .val (.int z2), .val (.int z4), .val (.int z6), .val (.int z8), .val (.int z10), .val (.int z12), .val (.int z14), .val (.int z16), .val (.ref b17), .val (.ref b22), .val (.int kk), .val (.ref b23)] [(.ref b23)])
                    refine hp (own_lenI X23 hx hZ rfl V23_b23 kk (own_kk hkk) (g := (mkF m 228 #[.val (.int p0), .val (.int p1), .val (.int p2), .val (.int p3), .val (.int p4), .val (.int z2), .val (.int z4), .val (.int z6), .val (.int z8), .val (.int z10), .val (.int z12), .val (.int z14), .val (.int z16), .val (.ref b17), .val (.ref b22), .val (.int kk), .val (.ref b23)] [(.ref b23)])) rfl rfl (hb hby at_228)) ?_
                    show G T23 (mkF m 229 #[.val (.int p0), .val (.int p1), .val (.int p2), .val (.int p3), .val (.int p4), .val (.int z2), .val (.int z4), .val (.int z6), .val (.int z8), .val (.int z10), .val (.int z12), .val (.int z14), .val (.int z16), .val (.ref b17), .val (.ref b22), .val (.int kk), .val (.ref b23)] [(.int kk)])
                    refine hp (fun tq kq => XS.iload X23.here hx rfl (hb hby at_229) rfl kq) ?_
                    show G T23 (mkF m 231 #[.val (.int p0), .val (.int p1), .val (.int p2), .val (.int p3), .val (.int p4), .val (.int z2), .val (.int z4), .val (.int z6), .val (.int z8), .val (.int z10), .val (.int z12), .val (.int z14), .val (.int z16), .val (.ref b17), .val (.ref b22), .val (.int kk), .val (.ref b23)] [(.int kk), (.int kk)])
                    refine hp (fun tq kq => XS.icmpYes X23.here hx rfl (pc0 := 231) (pc' := 236) rfl (hb hby at_231) rfl (teq rfl).1 (by decide) (by decide) kq) ?_
                    show G T23 (mkF m 236 #[.val (.int p0), .val (.int p1), .val (.int p2), .val (.int p3), .val (.int p4), .val (.int z2), .val (.int z4), .val (.int z6), .val (.int z8), .val (.int z10), .val (.int z12), .val (.int z14), .val (.int z16), .val (.ref b17), .val (.ref b22), .val (.int kk), .val (.ref b23)] [])
                    refine hp (fun tq kq => XS.iload X23.here hx rfl (hb hby at_236) rfl kq) ?_
                    show G T23 (mkF m 238 #[.val (.int p0), .val (.int p1), .val (.int p2), .val (.int p3), .val (.int p4), .val (.int z2), .val (.int z4), .val (.int z6), .val (.int z8), .val (.int z10), .val (.int z12), .val (.int z14), .val (.int z16), .val (.ref b17), .val (.ref b22), .val (.int kk), .val (.ref b23)] [(.int kk)])
                    have j24 : G T23 (mkF m 254 #[.val (.int p0), .val (.int p1), .val (.int p2), .val (.int p3), .val (.int p4), .val (.int z2), .val (.int z4), .val (.int z6), .val (.int z8), .val (.int z10), .val (.int z12), .val (.int z14), .val (.int z16), .val (.ref b17), .val (.ref b22), .val (.int kk), .val (.ref b23)] []) := by
                      refine hp (fun tq kq => XS.iload X23.here hx rfl (hb hby at_254) rfl kq) ?_
                      show G T23 (mkF m 256 #[.val (.int p0), .val (.int p1), .val (.int p2), .val (.int p3), .val (.int p4), .val (.int z2), .val (.int z4), .val (.int z6), .val (.int z8), .val (.int z10), .val (.int z12), .val (.int z14), .val (.int z16), .val (.ref b17), .val (.ref b22), .val (.int kk), .val (.ref b23)] [(.int kk)])
                      refine hp (fun tq kq => XS.iconst X23.here hx rfl (hb hby at_256) kq) ?_
                      show G T23 (mkF m 257 #[.val (.int p0), .val (.int p1), .val (.int p2), .val (.int p3), .val (.int p4), .val (.int z2), .val (.int z4), .val (.int z6), .val (.int z8), .val (.int z10), .val (.int z12), .val (.int z14), .val (.int z16), .val (.ref b17), .val (.ref b22), .val (.int kk), .val (.ref b23)] [(.int (1 : Int32)), (.int kk)])
                      have j25 : G T23 (mkF m 273 #[.val (.int p0), .val (.int p1), .val (.int p2), .val (.int p3), .val (.int p4), .val (.int z2), .val (.int z4), .val (.int z6), .val (.int z8), .val (.int z10), .val (.int z12), .val (.int z14), .val (.int z16), .val (.ref b17), .val (.ref b22), .val (.int kk), .val (.ref b23)] []) := by
                        refine hp (fun tq kq => XS.iload X23.here hx rfl (hb hby at_273) rfl kq) ?_
                        show G T23 (mkF m 275 #[.val (.int p0), .val (.int p1), .val (.int p2), .val (.int p3), .val (.int p4), .val (.int z2), .val (.int z4), .val (.int z6), .val (.int z8), .val (.int z10), .val (.int z12), .val (.int z14), .val (.int z16), .val (.ref b17), .val (.ref b22), .val (.int kk), .val (.ref b23)] [(.int kk)])
                        refine hp (fun tq kq => XS.iconst X23.here hx rfl (hb hby at_275) kq) ?_
                        show G T23 (mkF m 276 #[.val (.int p0), .val (.int p1), .val (.int p2), .val (.int p3), .val (.int p4), .val (.int z2), .val (.int z4), .val (.int z6), .val (.int z8), .val (.int z10), .val (.int z12), .val (.int z14), .val (.int z16), .val (.ref b17), .val (.ref b22), .val (.int kk), .val (.ref b23)] [(.int (2 : Int32)), (.int kk)])
                        have j26 : G T23 (mkF m 292 #[.val (.int p0), .val (.int p1), .val (.int p2), .val (.int p3), .val (.int p4), .val (.int z2), .val (.int z4), .val (.int z6), .val (.int z8), .val (.int z10), .val (.int z12), .val (.int z14), .val (.int z16), .val (.ref b17), .val (.ref b22), .val (.int kk), .val (.ref b23)] []) := by
                          refine hp (fun tq kq => XS.iload X23.here hx rfl (hb hby at_292) rfl kq) ?_
                          show G T23 (mkF m 294 #[.val (.int p0), .val (.int p1), .val (.int p2), .val (.int p3), .val (.int p4), .val (.int z2), .val (.int z4), .val (.int z6), .val (.int z8), .val (.int z10), .val (.int z12), .val (.int z14), .val (.int z16), .val (.ref b17), .val (.ref b22), .val (.int kk), .val (.ref b23)] [(.int kk)])
                          refine hp (fun tq kq => XS.iconst X23.here hx rfl (hb hby at_294) kq) ?_
                          show G T23 (mkF m 295 #[.val (.int p0), .val (.int p1), .val (.int p2), .val (.int p3), .val (.int p4), .val (.int z2), .val (.int z4), .val (.int z6), .val (.int z8), .val (.int z10), .val (.int z12), .val (.int z14), .val (.int z16), .val (.ref b17), .val (.ref b22), .val (.int kk), .val (.ref b23)] [(.int (3 : Int32)), (.int kk)])
                          have j27 : G T23 (mkF m 311 #[.val (.int p0), .val (.int p1), .val (.int p2), .val (.int p3), .val (.int p4), .val (.int z2), .val (.int z4), .val (.int z6), .val (.int z8), .val (.int z10), .val (.int z12), .val (.int z14), .val (.int z16), .val (.ref b17), .val (.ref b22), .val (.int kk), .val (.ref b23)] []) := by
                            refine hp (fun tq kq => XS.aload X23.here hx rfl (hb hby at_311) rfl rfl kq) ?_
                            show G T23 (mkF m 313 #[.val (.int p0), .val (.int p1), .val (.int p2), .val (.int p3), .val (.int p4), .val (.int z2), .val (.int z4), .val (.int z6), .val (.int z8), .val (.int z10), .val (.int z12), .val (.int z14), .val (.int z16), .val (.ref b17), .val (.ref b22), .val (.int kk), .val (.ref b23)] [(.ref b17)])
                            refine hp (fun tq kq => XS.iconst X23.here hx rfl (hb hby at_313) kq) ?_
                            show G T23 (mkF m 314 #[.val (.int p0), .val (.int p1), .val (.int p2), .val (.int p3), .val (.int p4), .val (.int z2), .val (.int z4), .val (.int z6), .val (.int z8), .val (.int z10), .val (.int z12), .val (.int z14), .val (.int z16), .val (.ref b17), .val (.ref b22), .val (.int kk), .val (.ref b23)] [(.int (0 : Int32)), (.ref b17)])
                            refine hp (own_ldI X23 hx hZ rfl V23_b17 (j := (0 : Int32)) 0 (by decide) (by decide) (by decide) (g := (mkF m 314 #[.val (.int p0), .val (.int p1), .val (.int p2), .val (.int p3), .val (.int p4), .val (.int z2), .val (.int z4), .val (.int z6), .val (.int z8), .val (.int z10), .val (.int z12), .val (.int z14), .val (.int z16), .val (.ref b17), .val (.ref b22), .val (.int kk), .val (.ref b23)] [(.int (0 : Int32)), (.ref b17)])) rfl rfl (hb hby at_314)) ?_
                            show G T23 (mkF m 315 #[.val (.int p0), .val (.int p1), .val (.int p2), .val (.int p3), .val (.int p4), .val (.int z2), .val (.int z4), .val (.int z6), .val (.int z8), .val (.int z10), .val (.int z12), .val (.int z14), .val (.int z16), .val (.ref b17), .val (.ref b22), .val (.int kk), .val (.ref b23)] [(.int ((own_up (own_up (own_up (own_up (fun _ => (0 : Int32)) 0 z10) 1 z12) 2 z14) 3 z16) 0))])
                            refine hp (fun tq kq => XS.iload X23.here hx rfl (hb hby at_315) rfl kq) ?_
                            show G T23 (mkF m 317 #[.val (.int p0), .val (.int p1), .val (.int p2), .val (.int p3), .val (.int p4), .val (.int z2), .val (.int z4), .val (.int z6), .val (.int z8), .val (.int z10), .val (.int z12), .val (.int z14), .val (.int z16), .val (.ref b17), .val (.ref b22), .val (.int kk), .val (.ref b23)] [(.int z10), (.int ((own_up (own_up (own_up (own_up (fun _ => (0 : Int32)) 0 z10) 1 z12) 2 z14) 3 z16) 0))])
                            refine hp (fun tq kq => XS.icmpNo X23.here hx rfl (hb hby at_317) rfl (teq rfl).2 kq) ?_
                            show G T23 (mkF m 320 #[.val (.int p0), .val (.int p1), .val (.int p2), .val (.int p3), .val (.int p4), .val (.int z2), .val (.int z4), .val (.int z6), .val (.int z8), .val (.int z10), .val (.int z12), .val (.int z14), .val (.int z16), .val (.ref b17), .val (.ref b22), .val (.int kk), .val (.ref b23)] [])
                            refine hp (fun tq kq => XS.aload X23.here hx rfl (hb hby at_320) rfl rfl kq) ?_
                            show G T23 (mkF m 322 #[.val (.int p0), .val (.int p1), .val (.int p2), .val (.int p3), .val (.int p4), .val (.int z2), .val (.int z4), .val (.int z6), .val (.int z8), .val (.int z10), .val (.int z12), .val (.int z14), .val (.int z16), .val (.ref b17), .val (.ref b22), .val (.int kk), .val (.ref b23)] [(.ref b17)])
                            refine hp (fun tq kq => XS.iconst X23.here hx rfl (hb hby at_322) kq) ?_
                            show G T23 (mkF m 323 #[.val (.int p0), .val (.int p1), .val (.int p2), .val (.int p3), .val (.int p4), .val (.int z2), .val (.int z4), .val (.int z6), .val (.int z8), .val (.int z10), .val (.int z12), .val (.int z14), .val (.int z16), .val (.ref b17), .val (.ref b22), .val (.int kk), .val (.ref b23)] [(.int (1 : Int32)), (.ref b17)])
                            refine hp (own_ldI X23 hx hZ rfl V23_b17 (j := (1 : Int32)) 1 (by decide) (by decide) (by decide) (g := (mkF m 323 #[.val (.int p0), .val (.int p1), .val (.int p2), .val (.int p3), .val (.int p4), .val (.int z2), .val (.int z4), .val (.int z6), .val (.int z8), .val (.int z10), .val (.int z12), .val (.int z14), .val (.int z16), .val (.ref b17), .val (.ref b22), .val (.int kk), .val (.ref b23)] [(.int (1 : Int32)), (.ref b17)])) rfl rfl (hb hby at_323)) ?_
                            show G T23 (mkF m 324 #[.val (.int p0), .val (.int p1), .val (.int p2), .val (.int p3), .val (.int p4), .val (.int z2), .val (.int z4), .val (.int z6), .val (.int z8), .val (.int z10), .val (.int z12), .val (.int z14), .val (.int z16), .val (.ref b17), .val (.ref b22), .val (.int kk), .val (.ref b23)] [(.int ((own_up (own_up (own_up (own_up (fun _ => (0 : Int32)) 0 z10) 1 z12) 2 z14) 3 z16) 1))])
                            refine hp (fun tq kq => XS.iload X23.here hx rfl (hb hby at_324) rfl kq) ?_
                            show G T23 (mkF m 326 #[.val (.int p0), .val (.int p1), .val (.int p2), .val (.int p3), .val (.int p4), .val (.int z2), .val (.int z4), .val (.int z6), .val (.int z8), .val (.int z10), .val (.int z12), .val (.int z14), .val (.int z16), .val (.ref b17), .val (.ref b22), .val (.int kk), .val (.ref b23)] [(.int z12), (.int ((own_up (own_up (own_up (own_up (fun _ => (0 : Int32)) 0 z10) 1 z12) 2 z14) 3 z16) 1))])
                            refine hp (fun tq kq => XS.icmpNo X23.here hx rfl (hb hby at_326) rfl (teq rfl).2 kq) ?_
                            show G T23 (mkF m 329 #[.val (.int p0), .val (.int p1), .val (.int p2), .val (.int p3), .val (.int p4), .val (.int z2), .val (.int z4), .val (.int z6), .val (.int z8), .val (.int z10), .val (.int z12), .val (.int z14), .val (.int z16), .val (.ref b17), .val (.ref b22), .val (.int kk), .val (.ref b23)] [])
                            refine hp (fun tq kq => XS.aload X23.here hx rfl (hb hby at_329) rfl rfl kq) ?_
                            show G T23 (mkF m 331 #[.val (.int p0), .val (.int p1), .val (.int p2), .val (.int p3), .val (.int p4), .val (.int z2), .val (.int z4), .val (.int z6), .val (.int z8), .val (.int z10), .val (.int z12), .val (.int z14), .val (.int z16), .val (.ref b17), .val (.ref b22), .val (.int kk), .val (.ref b23)] [(.ref b17)])
                            refine hp (fun tq kq => XS.iconst X23.here hx rfl (hb hby at_331) kq) ?_
                            show G T23 (mkF m 332 #[.val (.int p0), .val (.int p1), .val (.int p2), .val (.int p3), .val (.int p4), .val (.int z2), .val (.int z4), .val (.int z6), .val (.int z8), .val (.int z10), .val (.int z12), .val (.int z14), .val (.int z16), .val (.ref b17), .val (.ref b22), .val (.int kk), .val (.ref b23)] [(.int (2 : Int32)), (.ref b17)])
                            refine hp (own_ldI X23 hx hZ rfl V23_b17 (j := (2 : Int32)) 2 (by decide) (by decide) (by decide) (g := (mkF m 332 #[.val (.int p0), .val (.int p1), .val (.int p2), .val (.int p3), .val (.int p4), .val (.int z2), .val (.int z4), .val (.int z6), .val (.int z8), .val (.int z10), .val (.int z12), .val (.int z14), .val (.int z16), .val (.ref b17), .val (.ref b22), .val (.int kk), .val (.ref b23)] [(.int (2 : Int32)), (.ref b17)])) rfl rfl (hb hby at_332)) ?_
                            show G T23 (mkF m 333 #[.val (.int p0), .val (.int p1), .val (.int p2), .val (.int p3), .val (.int p4), .val (.int z2), .val (.int z4), .val (.int z6), .val (.int z8), .val (.int z10), .val (.int z12), .val (.int z14), .val (.int z16), .val (.ref b17), .val (.ref b22), .val (.int kk), .val (.ref b23)] [(.int ((own_up (own_up (own_up (own_up (fun _ => (0 : Int32)) 0 z10) 1 z12) 2 z14) 3 z16) 2))])
                            refine hp (fun tq kq => XS.iload X23.here hx rfl (hb hby at_333) rfl kq) ?_
                            show G T23 (mkF m 335 #[.val (.int p0), .val (.int p1), .val (.int p2), .val (.int p3), .val (.int p4), .val (.int z2), .val (.int z4), .val (.int z6), .val (.int z8), .val (.int z10), .val (.int z12), .val (.int z14), .val (.int z16), .val (.ref b17), .val (.ref b22), .val (.int kk), .val (.ref b23)] [(.int z14), (.int ((own_up (own_up (own_up (own_up (fun _ => (0 : Int32)) 0 z10) 1 z12) 2 z14) 3 z16) 2))])
                            refine hp (fun tq kq => XS.icmpNo X23.here hx rfl (hb hby at_335) rfl (teq rfl).2 kq) ?_
                            show G T23 (mkF m 338 #[.val (.int p0), .val (.int p1), .val (.int p2), .val (.int p3), .val (.int p4), .val (.int z2), .val (.int z4), .val (.int z6), .val (.int z8), .val (.int z10), .val (.int z12), .val (.int z14), .val (.int z16), .val (.ref b17), .val (.ref b22), .val (.int kk), .val (.ref b23)] [])
                            refine hp (fun tq kq => XS.aload X23.here hx rfl (hb hby at_338) rfl rfl kq) ?_
                            show G T23 (mkF m 340 #[.val (.int p0), .val (.int p1), .val (.int p2), .val (.int p3), .val (.int p4), .val (.int z2), .val (.int z4), .val (.int z6), .val (.int z8), .val (.int z10), .val (.int z12), .val (.int z14), .val (.int z16), .val (.ref b17), .val (.ref b22), .val (.int kk), .val (.ref b23)] [(.ref b17)])
                            refine hp (fun tq kq => XS.iconst X23.here hx rfl (hb hby at_340) kq) ?_
                            show G T23 (mkF m 341 #[.val (.int p0), .val (.int p1), .val (.int p2), .val (.int p3), .val (.int p4), .val (.int z2), .val (.int z4), .val (.int z6), .val (.int z8), .val (.int z10), .val (.int z12), .val (.int z14), .val (.int z16), .val (.ref b17), .val (.ref b22), .val (.int kk), .val (.ref b23)] [(.int (3 : Int32)), (.ref b17)])
                            refine hp (own_ldI X23 hx hZ rfl V23_b17 (j := (3 : Int32)) 3 (by decide) (by decide) (by decide) (g := (mkF m 341 #[.val (.int p0), .val (.int p1), .val (.int p2), .val (.int p3), .val (.int p4), .val (.int z2), .val (.int z4), .val (.int z6), .val (.int z8), .val (.int z10), .val (.int z12), .val (.int z14), .val (.int z16), .val (.ref b17), .val (.ref b22), .val (.int kk), .val (.ref b23)] [(.int (3 : Int32)), (.ref b17)])) rfl rfl (hb hby at_341)) ?_
                            show G T23 (mkF m 342 #[.val (.int p0), .val (.int p1), .val (.int p2), .val (.int p3), .val (.int p4), .val (.int z2), .val (.int z4), .val (.int z6), .val (.int z8), .val (.int z10), .val (.int z12), .val (.int z14), .val (.int z16), .val (.ref b17), .val (.ref b22), .val (.int kk), .val (.ref b23)] [(.int ((own_up (own_up (own_up (own_up (fun _ => (0 : Int32)) 0 z10) 1 z12) 2 z14) 3 z16) 3))])
                            refine hp (fun tq kq => XS.iload X23.here hx rfl (hb hby at_342) rfl kq) ?_
                            show G T23 (mkF m 344 #[.val (.int p0), .val (.int p1), .val (.int p2), .val (.int p3), .val (.int p4), .val (.int z2), .val (.int z4), .val (.int z6), .val (.int z8), .val (.int z10), .val (.int z12), .val (.int z14), .val (.int z16), .val (.ref b17), .val (.ref b22), .val (.int kk), .val (.ref b23)] [(.int z16), (.int ((own_up (own_up (own_up (own_up (fun _ => (0 : Int32)) 0 z10) 1 z12) 2 z14) 3 z16) 3))])
                            refine hp (fun tq kq => XS.icmpNo X23.here hx rfl (hb hby at_344) rfl (teq rfl).2 kq) ?_
                            show G T23 (mkF m 347 #[.val (.int p0), .val (.int p1), .val (.int p2), .val (.int p3), .val (.int p4), .val (.int z2), .val (.int z4), .val (.int z6), .val (.int z8), .val (.int z10), .val (.int z12), .val (.int z14), .val (.int z16), .val (.ref b17), .val (.ref b22), .val (.int kk), .val (.ref b23)] [])
                            refine hp (fun tq kq => XS.iconst X23.here hx rfl (hb hby at_347) kq) ?_
                            show G T23 (mkF m 348 #[.val (.int p0), .val (.int p1), .val (.int p2), .val (.int p3), .val (.int p4), .val (.int z2), .val (.int z4), .val (.int z6), .val (.int z8), .val (.int z10), .val (.int z12), .val (.int z14), .val (.int z16), .val (.ref b17), .val (.ref b22), .val (.int kk), .val (.ref b23)] [(.int (1 : Int32))])
                            refine hp (fun tq kq => XS.goto X23.here hx rfl (pc0 := 348) (pc' := 352) rfl (hb hby at_348) (by decide) (by decide) kq) ?_
                            show G T23 (mkF m 352 #[.val (.int p0), .val (.int p1), .val (.int p2), .val (.int p3), .val (.int p4), .val (.int z2), .val (.int z4), .val (.int z6), .val (.int z8), .val (.int z10), .val (.int z12), .val (.int z14), .val (.int z16), .val (.ref b17), .val (.ref b22), .val (.int kk), .val (.ref b23)] [(.int (1 : Int32))])
                            exact hR X23 (fun fs hl => retN X23 hx (t := .boolean) hret (by simp) (hb hby at_352) hl) (fun q => by rw [hret] at q; cases q) ⟨rfl, N23b⟩ (by decide) (by decide)
                          by_cases hb28 : (3 : Int32) < kk
                          · refine hp (fun tq kq => XS.icmpNo X23.here hx rfl (hb hby at_295) rfl (tlt hb28).2.2.2 kq) ?_
                            show G T23 (mkF m 298 #[.val (.int p0), .val (.int p1), .val (.int p2), .val (.int p3), .val (.int p4), .val (.int z2), .val (.int z4), .val (.int z6), .val (.int z8), .val (.int z10), .val (.int z12), .val (.int z14), .val (.int z16), .val (.ref b17), .val (.ref b22), .val (.int kk), .val (.ref b23)] [])
                            refine hp (fun tq kq => XS.aload X23.here hx rfl (hb hby at_298) rfl rfl kq) ?_
                            show G T23 (mkF m 300 #[.val (.int p0), .val (.int p1), .val (.int p2), .val (.int p3), .val (.int p4), .val (.int z2), .val (.int z4), .val (.int z6), .val (.int z8), .val (.int z10), .val (.int z12), .val (.int z14), .val (.int z16), .val (.ref b17), .val (.ref b22), .val (.int kk), .val (.ref b23)] [(.ref b23)])
                            refine hp (fun tq kq => XS.iconst X23.here hx rfl (hb hby at_300) kq) ?_
                            show G T23 (mkF m 301 #[.val (.int p0), .val (.int p1), .val (.int p2), .val (.int p3), .val (.int p4), .val (.int z2), .val (.int z4), .val (.int z6), .val (.int z8), .val (.int z10), .val (.int z12), .val (.int z14), .val (.int z16), .val (.ref b17), .val (.ref b22), .val (.int kk), .val (.ref b23)] [(.int (3 : Int32)), (.ref b23)])
                            refine hp (own_ldI X23 hx hZ rfl V23_b23 (j := (3 : Int32)) 3 (by decide) (by decide) (own_gt hkk hb28) (g := (mkF m 301 #[.val (.int p0), .val (.int p1), .val (.int p2), .val (.int p3), .val (.int p4), .val (.int z2), .val (.int z4), .val (.int z6), .val (.int z8), .val (.int z10), .val (.int z12), .val (.int z14), .val (.int z16), .val (.ref b17), .val (.ref b22), .val (.int kk), .val (.ref b23)] [(.int (3 : Int32)), (.ref b23)])) rfl rfl (hb hby at_301)) ?_
                            show G T23 (mkF m 302 #[.val (.int p0), .val (.int p1), .val (.int p2), .val (.int p3), .val (.int p4), .val (.int z2), .val (.int z4), .val (.int z6), .val (.int z8), .val (.int z10), .val (.int z12), .val (.int z14), .val (.int z16), .val (.ref b17), .val (.ref b22), .val (.int kk), .val (.ref b23)] [(.int (r23 3))])
                            refine hp (fun tq kq => XS.aload X23.here hx rfl (hb hby at_302) rfl rfl kq) ?_
                            show G T23 (mkF m 304 #[.val (.int p0), .val (.int p1), .val (.int p2), .val (.int p3), .val (.int p4), .val (.int z2), .val (.int z4), .val (.int z6), .val (.int z8), .val (.int z10), .val (.int z12), .val (.int z14), .val (.int z16), .val (.ref b17), .val (.ref b22), .val (.int kk), .val (.ref b23)] [(.ref b22), (.int (r23 3))])
                            refine hp (fun tq kq => XS.iconst X23.here hx rfl (hb hby at_304) kq) ?_
                            show G T23 (mkF m 305 #[.val (.int p0), .val (.int p1), .val (.int p2), .val (.int p3), .val (.int p4), .val (.int z2), .val (.int z4), .val (.int z6), .val (.int z8), .val (.int z10), .val (.int z12), .val (.int z14), .val (.int z16), .val (.ref b17), .val (.ref b22), .val (.int kk), .val (.ref b23)] [(.int (3 : Int32)), (.ref b22), (.int (r23 3))])
                            refine hp (own_ldI X23 hx hZ rfl V23_b22 (j := (3 : Int32)) 3 (by decide) (by decide) (by decide) (g := (mkF m 305 #[.val (.int p0), .val (.int p1), .val (.int p2), .val (.int p3), .val (.int p4), .val (.int z2), .val (.int z4), .val (.int z6), .val (.int z8), .val (.int z10), .val (.int z12), .val (.int z14), .val (.int z16), .val (.ref b17), .val (.ref b22), .val (.int kk), .val (.ref b23)] [(.int (3 : Int32)), (.ref b22), (.int (r23 3))])) rfl rfl (hb hby at_305)) ?_
                            show G T23 (mkF m 306 #[.val (.int p0), .val (.int p1), .val (.int p2), .val (.int p3), .val (.int p4), .val (.int z2), .val (.int z4), .val (.int z6), .val (.int z8), .val (.int z10), .val (.int z12), .val (.int z14), .val (.int z16), .val (.ref b17), .val (.ref b22), .val (.int kk), .val (.ref b23)] [(.int (g 3)), (.int (r23 3))])
                            refine hp (fun tq kq => XS.icmpYes X23.here hx rfl (pc0 := 306) (pc' := 311) rfl (hb hby at_306) rfl (teq (own_eqs hsel23 hcnt (own_gt hkk hb28))).1 (by decide) (by decide) kq) ?_
                            show G T23 (mkF m 311 #[.val (.int p0), .val (.int p1), .val (.int p2), .val (.int p3), .val (.int p4), .val (.int z2), .val (.int z4), .val (.int z6), .val (.int z8), .val (.int z10), .val (.int z12), .val (.int z14), .val (.int z16), .val (.ref b17), .val (.ref b22), .val (.int kk), .val (.ref b23)] [])
                            exact j27
                          · refine hp (fun tq kq => XS.icmpYes X23.here hx rfl (pc0 := 295) (pc' := 311) rfl (hb hby at_295) rfl (flt hb28).2.2.2 (by decide) (by decide) kq) ?_
                            show G T23 (mkF m 311 #[.val (.int p0), .val (.int p1), .val (.int p2), .val (.int p3), .val (.int p4), .val (.int z2), .val (.int z4), .val (.int z6), .val (.int z8), .val (.int z10), .val (.int z12), .val (.int z14), .val (.int z16), .val (.ref b17), .val (.ref b22), .val (.int kk), .val (.ref b23)] [])
                            exact j27
                        by_cases hb29 : (2 : Int32) < kk
                        · refine hp (fun tq kq => XS.icmpNo X23.here hx rfl (hb hby at_276) rfl (tlt hb29).2.2.2 kq) ?_
                          show G T23 (mkF m 279 #[.val (.int p0), .val (.int p1), .val (.int p2), .val (.int p3), .val (.int p4), .val (.int z2), .val (.int z4), .val (.int z6), .val (.int z8), .val (.int z10), .val (.int z12), .val (.int z14), .val (.int z16), .val (.ref b17), .val (.ref b22), .val (.int kk), .val (.ref b23)] [])
                          refine hp (fun tq kq => XS.aload X23.here hx rfl (hb hby at_279) rfl rfl kq) ?_
                          show G T23 (mkF m 281 #[.val (.int p0), .val (.int p1), .val (.int p2), .val (.int p3), .val (.int p4), .val (.int z2), .val (.int z4), .val (.int z6), .val (.int z8), .val (.int z10), .val (.int z12), .val (.int z14), .val (.int z16), .val (.ref b17), .val (.ref b22), .val (.int kk), .val (.ref b23)] [(.ref b23)])
                          refine hp (fun tq kq => XS.iconst X23.here hx rfl (hb hby at_281) kq) ?_
                          show G T23 (mkF m 282 #[.val (.int p0), .val (.int p1), .val (.int p2), .val (.int p3), .val (.int p4), .val (.int z2), .val (.int z4), .val (.int z6), .val (.int z8), .val (.int z10), .val (.int z12), .val (.int z14), .val (.int z16), .val (.ref b17), .val (.ref b22), .val (.int kk), .val (.ref b23)] [(.int (2 : Int32)), (.ref b23)])
                          refine hp (own_ldI X23 hx hZ rfl V23_b23 (j := (2 : Int32)) 2 (by decide) (by decide) (own_gt hkk hb29) (g := (mkF m 282 #[.val (.int p0), .val (.int p1), .val (.int p2), .val (.int p3), .val (.int p4), .val (.int z2), .val (.int z4), .val (.int z6), .val (.int z8), .val (.int z10), .val (.int z12), .val (.int z14), .val (.int z16), .val (.ref b17), .val (.ref b22), .val (.int kk), .val (.ref b23)] [(.int (2 : Int32)), (.ref b23)])) rfl rfl (hb hby at_282)) ?_
                          show G T23 (mkF m 283 #[.val (.int p0), .val (.int p1), .val (.int p2), .val (.int p3), .val (.int p4), .val (.int z2), .val (.int z4), .val (.int z6), .val (.int z8), .val (.int z10), .val (.int z12), .val (.int z14), .val (.int z16), .val (.ref b17), .val (.ref b22), .val (.int kk), .val (.ref b23)] [(.int (r23 2))])
                          refine hp (fun tq kq => XS.aload X23.here hx rfl (hb hby at_283) rfl rfl kq) ?_
                          show G T23 (mkF m 285 #[.val (.int p0), .val (.int p1), .val (.int p2), .val (.int p3), .val (.int p4), .val (.int z2), .val (.int z4), .val (.int z6), .val (.int z8), .val (.int z10), .val (.int z12), .val (.int z14), .val (.int z16), .val (.ref b17), .val (.ref b22), .val (.int kk), .val (.ref b23)] [(.ref b22), (.int (r23 2))])
                          refine hp (fun tq kq => XS.iconst X23.here hx rfl (hb hby at_285) kq) ?_
                          show G T23 (mkF m 286 #[.val (.int p0), .val (.int p1), .val (.int p2), .val (.int p3), .val (.int p4), .val (.int z2), .val (.int z4), .val (.int z6), .val (.int z8), .val (.int z10), .val (.int z12), .val (.int z14), .val (.int z16), .val (.ref b17), .val (.ref b22), .val (.int kk), .val (.ref b23)] [(.int (2 : Int32)), (.ref b22), (.int (r23 2))])
                          refine hp (own_ldI X23 hx hZ rfl V23_b22 (j := (2 : Int32)) 2 (by decide) (by decide) (by decide) (g := (mkF m 286 #[.val (.int p0), .val (.int p1), .val (.int p2), .val (.int p3), .val (.int p4), .val (.int z2), .val (.int z4), .val (.int z6), .val (.int z8), .val (.int z10), .val (.int z12), .val (.int z14), .val (.int z16), .val (.ref b17), .val (.ref b22), .val (.int kk), .val (.ref b23)] [(.int (2 : Int32)), (.ref b22), (.int (r23 2))])) rfl rfl (hb hby at_286)) ?_
                          show G T23 (mkF m 287 #[.val (.int p0), .val (.int p1), .val (.int p2), .val (.int p3), .val (.int p4), .val (.int z2), .val (.int z4), .val (.int z6), .val (.int z8), .val (.int z10), .val (.int z12), .val (.int z14), .val (.int z16), .val (.ref b17), .val (.ref b22), .val (.int kk), .val (.ref b23)] [(.int (g 2)), (.int (r23 2))])
                          refine hp (fun tq kq => XS.icmpYes X23.here hx rfl (pc0 := 287) (pc' := 292) rfl (hb hby at_287) rfl (teq (own_eqs hsel23 hcnt (own_gt hkk hb29))).1 (by decide) (by decide) kq) ?_
                          show G T23 (mkF m 292 #[.val (.int p0), .val (.int p1), .val (.int p2), .val (.int p3), .val (.int p4), .val (.int z2), .val (.int z4), .val (.int z6), .val (.int z8), .val (.int z10), .val (.int z12), .val (.int z14), .val (.int z16), .val (.ref b17), .val (.ref b22), .val (.int kk), .val (.ref b23)] [])
                          exact j26
                        · refine hp (fun tq kq => XS.icmpYes X23.here hx rfl (pc0 := 276) (pc' := 292) rfl (hb hby at_276) rfl (flt hb29).2.2.2 (by decide) (by decide) kq) ?_
                          show G T23 (mkF m 292 #[.val (.int p0), .val (.int p1), .val (.int p2), .val (.int p3), .val (.int p4), .val (.int z2), .val (.int z4), .val (.int z6), .val (.int z8), .val (.int z10), .val (.int z12), .val (.int z14), .val (.int z16), .val (.ref b17), .val (.ref b22), .val (.int kk), .val (.ref b23)] [])
                          exact j26
                      by_cases hb30 : (1 : Int32) < kk
                      · refine hp (fun tq kq => XS.icmpNo X23.here hx rfl (hb hby at_257) rfl (tlt hb30).2.2.2 kq) ?_
                        show G T23 (mkF m 260 #[.val (.int p0), .val (.int p1), .val (.int p2), .val (.int p3), .val (.int p4), .val (.int z2), .val (.int z4), .val (.int z6), .val (.int z8), .val (.int z10), .val (.int z12), .val (.int z14), .val (.int z16), .val (.ref b17), .val (.ref b22), .val (.int kk), .val (.ref b23)] [])
                        refine hp (fun tq kq => XS.aload X23.here hx rfl (hb hby at_260) rfl rfl kq) ?_
                        show G T23 (mkF m 262 #[.val (.int p0), .val (.int p1), .val (.int p2), .val (.int p3), .val (.int p4), .val (.int z2), .val (.int z4), .val (.int z6), .val (.int z8), .val (.int z10), .val (.int z12), .val (.int z14), .val (.int z16), .val (.ref b17), .val (.ref b22), .val (.int kk), .val (.ref b23)] [(.ref b23)])
                        refine hp (fun tq kq => XS.iconst X23.here hx rfl (hb hby at_262) kq) ?_
                        show G T23 (mkF m 263 #[.val (.int p0), .val (.int p1), .val (.int p2), .val (.int p3), .val (.int p4), .val (.int z2), .val (.int z4), .val (.int z6), .val (.int z8), .val (.int z10), .val (.int z12), .val (.int z14), .val (.int z16), .val (.ref b17), .val (.ref b22), .val (.int kk), .val (.ref b23)] [(.int (1 : Int32)), (.ref b23)])
                        refine hp (own_ldI X23 hx hZ rfl V23_b23 (j := (1 : Int32)) 1 (by decide) (by decide) (own_gt hkk hb30) (g := (mkF m 263 #[.val (.int p0), .val (.int p1), .val (.int p2), .val (.int p3), .val (.int p4), .val (.int z2), .val (.int z4), .val (.int z6), .val (.int z8), .val (.int z10), .val (.int z12), .val (.int z14), .val (.int z16), .val (.ref b17), .val (.ref b22), .val (.int kk), .val (.ref b23)] [(.int (1 : Int32)), (.ref b23)])) rfl rfl (hb hby at_263)) ?_
                        show G T23 (mkF m 264 #[.val (.int p0), .val (.int p1), .val (.int p2), .val (.int p3), .val (.int p4), .val (.int z2), .val (.int z4), .val (.int z6), .val (.int z8), .val (.int z10), .val (.int z12), .val (.int z14), .val (.int z16), .val (.ref b17), .val (.ref b22), .val (.int kk), .val (.ref b23)] [(.int (r23 1))])
                        refine hp (fun tq kq => XS.aload X23.here hx rfl (hb hby at_264) rfl rfl kq) ?_
                        show G T23 (mkF m 266 #[.val (.int p0), .val (.int p1), .val (.int p2), .val (.int p3), .val (.int p4), .val (.int z2), .val (.int z4), .val (.int z6), .val (.int z8), .val (.int z10), .val (.int z12), .val (.int z14), .val (.int z16), .val (.ref b17), .val (.ref b22), .val (.int kk), .val (.ref b23)] [(.ref b22), (.int (r23 1))])
                        refine hp (fun tq kq => XS.iconst X23.here hx rfl (hb hby at_266) kq) ?_
                        show G T23 (mkF m 267 #[.val (.int p0), .val (.int p1), .val (.int p2), .val (.int p3), .val (.int p4), .val (.int z2), .val (.int z4), .val (.int z6), .val (.int z8), .val (.int z10), .val (.int z12), .val (.int z14), .val (.int z16), .val (.ref b17), .val (.ref b22), .val (.int kk), .val (.ref b23)] [(.int (1 : Int32)), (.ref b22), (.int (r23 1))])
                        refine hp (own_ldI X23 hx hZ rfl V23_b22 (j := (1 : Int32)) 1 (by decide) (by decide) (by decide) (g := (mkF m 267 #[.val (.int p0), .val (.int p1), .val (.int p2), .val (.int p3), .val (.int p4), .val (.int z2), .val (.int z4), .val (.int z6), .val (.int z8), .val (.int z10), .val (.int z12), .val (.int z14), .val (.int z16), .val (.ref b17), .val (.ref b22), .val (.int kk), .val (.ref b23)] [(.int (1 : Int32)), (.ref b22), (.int (r23 1))])) rfl rfl (hb hby at_267)) ?_
                        show G T23 (mkF m 268 #[.val (.int p0), .val (.int p1), .val (.int p2), .val (.int p3), .val (.int p4), .val (.int z2), .val (.int z4), .val (.int z6), .val (.int z8), .val (.int z10), .val (.int z12), .val (.int z14), .val (.int z16), .val (.ref b17), .val (.ref b22), .val (.int kk), .val (.ref b23)] [(.int (g 1)), (.int (r23 1))])
                        refine hp (fun tq kq => XS.icmpYes X23.here hx rfl (pc0 := 268) (pc' := 273) rfl (hb hby at_268) rfl (teq (own_eqs hsel23 hcnt (own_gt hkk hb30))).1 (by decide) (by decide) kq) ?_
                        show G T23 (mkF m 273 #[.val (.int p0), .val (.int p1), .val (.int p2), .val (.int p3), .val (.int p4), .val (.int z2), .val (.int z4), .val (.int z6), .val (.int z8), .val (.int z10), .val (.int z12), .val (.int z14), .val (.int z16), .val (.ref b17), .val (.ref b22), .val (.int kk), .val (.ref b23)] [])
                        exact j25
                      · refine hp (fun tq kq => XS.icmpYes X23.here hx rfl (pc0 := 257) (pc' := 273) rfl (hb hby at_257) rfl (flt hb30).2.2.2 (by decide) (by decide) kq) ?_
                        show G T23 (mkF m 273 #[.val (.int p0), .val (.int p1), .val (.int p2), .val (.int p3), .val (.int p4), .val (.int z2), .val (.int z4), .val (.int z6), .val (.int z8), .val (.int z10), .val (.int z12), .val (.int z14), .val (.int z16), .val (.ref b17), .val (.ref b22), .val (.int kk), .val (.ref b23)] [])
                        exact j25
                    by_cases hb31 : (0 : Int32) < kk
                    · refine hp (fun tq kq => XS.ifNo X23.here hx rfl (hb hby at_238) rfl ((if0 _ _).trans (tlt hb31).2.2.2) kq) ?_
                      show G T23 (mkF m 241 #[.val (.int p0), .val (.int p1), .val (.int p2), .val (.int p3), .val (.int p4), .val (.int z2), .val (.int z4), .val (.int z6), .val (.int z8), .val (.int z10), .val (.int z12), .val (.int z14), .val (.int z16), .val (.ref b17), .val (.ref b22), .val (.int kk), .val (.ref b23)] [])
                      refine hp (fun tq kq => XS.aload X23.here hx rfl (hb hby at_241) rfl rfl kq) ?_
                      show G T23 (mkF m 243 #[.val (.int p0), .val (.int p1), .val (.int p2), .val (.int p3), .val (.int p4), .val (.int z2), .val (.int z4), .val (.int z6), .val (.int z8), .val (.int z10), .val (.int z12), .val (.int z14), .val (.int z16), .val (.ref b17), .val (.ref b22), .val (.int kk), .val (.ref b23)] [(.ref b23)])
                      refine hp (fun tq kq => XS.iconst X23.here hx rfl (hb hby at_243) kq) ?_
                      show G T23 (mkF m 244 #[.val (.int p0), .val (.int p1), .val (.int p2), .val (.int p3), .val (.int p4), .val (.int z2), .val (.int z4), .val (.int z6), .val (.int z8), .val (.int z10), .val (.int z12), .val (.int z14), .val (.int z16), .val (.ref b17), .val (.ref b22), .val (.int kk), .val (.ref b23)] [(.int (0 : Int32)), (.ref b23)])
                      refine hp (own_ldI X23 hx hZ rfl V23_b23 (j := (0 : Int32)) 0 (by decide) (by decide) (own_gt hkk hb31) (g := (mkF m 244 #[.val (.int p0), .val (.int p1), .val (.int p2), .val (.int p3), .val (.int p4), .val (.int z2), .val (.int z4), .val (.int z6), .val (.int z8), .val (.int z10), .val (.int z12), .val (.int z14), .val (.int z16), .val (.ref b17), .val (.ref b22), .val (.int kk), .val (.ref b23)] [(.int (0 : Int32)), (.ref b23)])) rfl rfl (hb hby at_244)) ?_
                      show G T23 (mkF m 245 #[.val (.int p0), .val (.int p1), .val (.int p2), .val (.int p3), .val (.int p4), .val (.int z2), .val (.int z4), .val (.int z6), .val (.int z8), .val (.int z10), .val (.int z12), .val (.int z14), .val (.int z16), .val (.ref b17), .val (.ref b22), .val (.int kk), .val (.ref b23)] [(.int (r23 0))])
                      refine hp (fun tq kq => XS.aload X23.here hx rfl (hb hby at_245) rfl rfl kq) ?_
                      show G T23 (mkF m 247 #[.val (.int p0), .val (.int p1), .val (.int p2), .val (.int p3), .val (.int p4), .val (.int z2), .val (.int z4), .val (.int z6), .val (.int z8), .val (.int z10), .val (.int z12), .val (.int z14), .val (.int z16), .val (.ref b17), .val (.ref b22), .val (.int kk), .val (.ref b23)] [(.ref b22), (.int (r23 0))])
                      refine hp (fun tq kq => XS.iconst X23.here hx rfl (hb hby at_247) kq) ?_
                      show G T23 (mkF m 248 #[.val (.int p0), .val (.int p1), .val (.int p2), .val (.int p3), .val (.int p4), .val (.int z2), .val (.int z4), .val (.int z6), .val (.int z8), .val (.int z10), .val (.int z12), .val (.int z14), .val (.int z16), .val (.ref b17), .val (.ref b22), .val (.int kk), .val (.ref b23)] [(.int (0 : Int32)), (.ref b22), (.int (r23 0))])
                      refine hp (own_ldI X23 hx hZ rfl V23_b22 (j := (0 : Int32)) 0 (by decide) (by decide) (by decide) (g := (mkF m 248 #[.val (.int p0), .val (.int p1), .val (.int p2), .val (.int p3), .val (.int p4), .val (.int z2), .val (.int z4), .val (.int z6), .val (.int z8), .val (.int z10), .val (.int z12), .val (.int z14), .val (.int z16), .val (.ref b17), .val (.ref b22), .val (.int kk), .val (.ref b23)] [(.int (0 : Int32)), (.ref b22), (.int (r23 0))])) rfl rfl (hb hby at_248)) ?_
                      show G T23 (mkF m 249 #[.val (.int p0), .val (.int p1), .val (.int p2), .val (.int p3), .val (.int p4), .val (.int z2), .val (.int z4), .val (.int z6), .val (.int z8), .val (.int z10), .val (.int z12), .val (.int z14), .val (.int z16), .val (.ref b17), .val (.ref b22), .val (.int kk), .val (.ref b23)] [(.int (g 0)), (.int (r23 0))])
                      refine hp (fun tq kq => XS.icmpYes X23.here hx rfl (pc0 := 249) (pc' := 254) rfl (hb hby at_249) rfl (teq (own_eqs hsel23 hcnt (own_gt hkk hb31))).1 (by decide) (by decide) kq) ?_
                      show G T23 (mkF m 254 #[.val (.int p0), .val (.int p1), .val (.int p2), .val (.int p3), .val (.int p4), .val (.int z2), .val (.int z4), .val (.int z6), .val (.int z8), .val (.int z10), .val (.int z12), .val (.int z14), .val (.int z16), .val (.ref b17), .val (.ref b22), .val (.int kk), .val (.ref b23)] [])
                      exact j24
                    · refine hp (fun tq kq => XS.ifYes X23.here hx rfl (pc0 := 238) (pc' := 254) rfl (hb hby at_238) rfl ((if0 _ _).trans (flt hb31).2.2.2) (by decide) (by decide) kq) ?_
                      show G T23 (mkF m 254 #[.val (.int p0), .val (.int p1), .val (.int p2), .val (.int p3), .val (.int p4), .val (.int z2), .val (.int z4), .val (.int z6), .val (.int z8), .val (.int z10), .val (.int z12), .val (.int z14), .val (.int z16), .val (.ref b17), .val (.ref b22), .val (.int kk), .val (.ref b23)] [])
                      exact j24
                  refine hp (fun tq kq => XS.iload X22.here hx rfl (hb hby at_150) rfl kq) ?_
                  show G T22 (mkF m 152 #[.val (.int p0), .val (.int p1), .val (.int p2), .val (.int p3), .val (.int p4), .val (.int z2), .val (.int z4), .val (.int z6), .val (.int z8), .val (.int z10), .val (.int z12), .val (.int z14), .val (.int z16), .val (.ref b17), .val (.ref b22), .val (.int (0 : Int32)), .unset] [(.int z2)])
                  by_cases hb32 : z2 = (0 : Int32)
                  · refine hp (fun tq kq => XS.ifNo X22.here hx rfl (hb hby at_152) rfl ((if0 _ _).trans (teq hb32).2) kq) ?_
                    show G T22 (mkF m 155 #[.val (.int p0), .val (.int p1), .val (.int p2), .val (.int p3), .val (.int p4), .val (.int z2), .val (.int z4), .val (.int z6), .val (.int z8), .val (.int z10), .val (.int z12), .val (.int z14), .val (.int z16), .val (.ref b17), .val (.ref b22), .val (.int (0 : Int32)), .unset] [])
                    refine hp (fun tq kq => XS.aload X22.here hx rfl (hb hby at_155) rfl rfl kq) ?_
                    show G T22 (mkF m 157 #[.val (.int p0), .val (.int p1), .val (.int p2), .val (.int p3), .val (.int p4), .val (.int z2), .val (.int z4), .val (.int z6), .val (.int z8), .val (.int z10), .val (.int z12), .val (.int z14), .val (.int z16), .val (.ref b17), .val (.ref b22), .val (.int (0 : Int32)), .unset] [(.ref b22)])
                    refine hp (fun tq kq => XS.iload X22.here hx rfl (hb hby at_157) rfl kq) ?_
                    show G T22 (mkF m 159 #[.val (.int p0), .val (.int p1), .val (.int p2), .val (.int p3), .val (.int p4), .val (.int z2), .val (.int z4), .val (.int z6), .val (.int z8), .val (.int z10), .val (.int z12), .val (.int z14), .val (.int z16), .val (.ref b17), .val (.ref b22), .val (.int (0 : Int32)), .unset] [(.int (0 : Int32)), (.ref b22)])
                    refine hp (fun tq kq => XS.iload X22.here hx rfl (hb hby at_159) rfl kq) ?_
                    show G T22 (mkF m 161 #[.val (.int p0), .val (.int p1), .val (.int p2), .val (.int p3), .val (.int p4), .val (.int z2), .val (.int z4), .val (.int z6), .val (.int z8), .val (.int z10), .val (.int z12), .val (.int z14), .val (.int z16), .val (.ref b17), .val (.ref b22), .val (.int (0 : Int32)), .unset] [(.int z10), (.int (0 : Int32)), (.ref b22)])
                    obtain ⟨T33, h33, X33, e33, W33, V33_b22, st33⟩ := own_stI X22 hx hZ e22 V22_b22 (j := (0 : Int32)) 0 (by decide) (by decide) (by decide) (g := (mkF m 161 #[.val (.int p0), .val (.int p1), .val (.int p2), .val (.int p3), .val (.int p4), .val (.int z2), .val (.int z4), .val (.int z6), .val (.int z8), .val (.int z10), .val (.int z12), .val (.int z14), .val (.int z16), .val (.ref b17), .val (.ref b22), .val (.int (0 : Int32)), .unset] [(.int z10), (.int (0 : Int32)), (.ref b22)])) rfl rfl (hb hby at_161)
                    have V33_b17 := V22_b17.other W33 ne22_b17
                    have K33 := K22.wr W33 (Or.inr sz_b22)
                    have N33 := Fr.snoc X33 N21 g_b22
                    refine hp st33 ?_
                    show G T33 (mkF m 162 #[.val (.int p0), .val (.int p1), .val (.int p2), .val (.int p3), .val (.int p4), .val (.int z2), .val (.int z4), .val (.int z6), .val (.int z8), .val (.int z10), .val (.int z12), .val (.int z14), .val (.int z16), .val (.ref b17), .val (.ref b22), .val (.int (0 : Int32)), .unset] [])
                    refine hp (fun tq kq => XS.iinc X33.here hx rfl (hb hby at_162) rfl (l' := #[.val (.int p0), .val (.int p1), .val (.int p2), .val (.int p3), .val (.int p4), .val (.int z2), .val (.int z4), .val (.int z6), .val (.int z8), .val (.int z10), .val (.int z12), .val (.int z14), .val (.int z16), .val (.ref b17), .val (.ref b22), .val (.int (1 : Int32)), .unset]) rfl kq) ?_
                    show G T33 (mkF m 165 #[.val (.int p0), .val (.int p1), .val (.int p2), .val (.int p3), .val (.int p4), .val (.int z2), .val (.int z4), .val (.int z6), .val (.int z8), .val (.int z10), .val (.int z12), .val (.int z14), .val (.int z16), .val (.ref b17), .val (.ref b22), .val (.int (1 : Int32)), .unset] [])
                    refine hp (fun tq kq => XS.iload X33.here hx rfl (hb hby at_165) rfl kq) ?_
                    show G T33 (mkF m 167 #[.val (.int p0), .val (.int p1), .val (.int p2), .val (.int p3), .val (.int p4), .val (.int z2), .val (.int z4), .val (.int z6), .val (.int z8), .val (.int z10), .val (.int z12), .val (.int z14), .val (.int z16), .val (.ref b17), .val (.ref b22), .val (.int (1 : Int32)), .unset] [(.int z4)])
                    by_cases hb34 : z4 = (0 : Int32)
                    · refine hp (fun tq kq => XS.ifNo X33.here hx rfl (hb hby at_167) rfl ((if0 _ _).trans (teq hb34).2) kq) ?_
                      show G T33 (mkF m 170 #[.val (.int p0), .val (.int p1), .val (.int p2), .val (.int p3), .val (.int p4), .val (.int z2), .val (.int z4), .val (.int z6), .val (.int z8), .val (.int z10), .val (.int z12), .val (.int z14), .val (.int z16), .val (.ref b17), .val (.ref b22), .val (.int (1 : Int32)), .unset] [])
                      refine hp (fun tq kq => XS.aload X33.here hx rfl (hb hby at_170) rfl rfl kq) ?_
                      show G T33 (mkF m 172 #[.val (.int p0), .val (.int p1), .val (.int p2), .val (.int p3), .val (.int p4), .val (.int z2), .val (.int z4), .val (.int z6), .val (.int z8), .val (.int z10), .val (.int z12), .val (.int z14), .val (.int z16), .val (.ref b17), .val (.ref b22), .val (.int (1 : Int32)), .unset] [(.ref b22)])
                      refine hp (fun tq kq => XS.iload X33.here hx rfl (hb hby at_172) rfl kq) ?_
                      show G T33 (mkF m 174 #[.val (.int p0), .val (.int p1), .val (.int p2), .val (.int p3), .val (.int p4), .val (.int z2), .val (.int z4), .val (.int z6), .val (.int z8), .val (.int z10), .val (.int z12), .val (.int z14), .val (.int z16), .val (.ref b17), .val (.ref b22), .val (.int (1 : Int32)), .unset] [(.int (1 : Int32)), (.ref b22)])
                      refine hp (fun tq kq => XS.iload X33.here hx rfl (hb hby at_174) rfl kq) ?_
                      show G T33 (mkF m 176 #[.val (.int p0), .val (.int p1), .val (.int p2), .val (.int p3), .val (.int p4), .val (.int z2), .val (.int z4), .val (.int z6), .val (.int z8), .val (.int z10), .val (.int z12), .val (.int z14), .val (.int z16), .val (.ref b17), .val (.ref b22), .val (.int (1 : Int32)), .unset] [(.int z12), (.int (1 : Int32)), (.ref b22)])
                      obtain ⟨T35, h35, X35, e35, W35, V35_b22, st35⟩ := own_stI X33 hx hZ e33 V33_b22 (j := (1 : Int32)) 1 (by decide) (by decide) (by decide) (g := (mkF m 176 #[.val (.int p0), .val (.int p1), .val (.int p2), .val (.int p3), .val (.int p4), .val (.int z2), .val (.int z4), .val (.int z6), .val (.int z8), .val (.int z10), .val (.int z12), .val (.int z14), .val (.int z16), .val (.ref b17), .val (.ref b22), .val (.int (1 : Int32)), .unset] [(.int z12), (.int (1 : Int32)), (.ref b22)])) rfl rfl (hb hby at_176)
                      have V35_b17 := V33_b17.other W35 ne22_b17
                      have K35 := K33.wr W35 (Or.inr sz_b22)
                      have N35 := Fr.snoc X35 N33 g_b22
                      refine hp st35 ?_
                      show G T35 (mkF m 177 #[.val (.int p0), .val (.int p1), .val (.int p2), .val (.int p3), .val (.int p4), .val (.int z2), .val (.int z4), .val (.int z6), .val (.int z8), .val (.int z10), .val (.int z12), .val (.int z14), .val (.int z16), .val (.ref b17), .val (.ref b22), .val (.int (1 : Int32)), .unset] [])
                      refine hp (fun tq kq => XS.iinc X35.here hx rfl (hb hby at_177) rfl (l' := #[.val (.int p0), .val (.int p1), .val (.int p2), .val (.int p3), .val (.int p4), .val (.int z2), .val (.int z4), .val (.int z6), .val (.int z8), .val (.int z10), .val (.int z12), .val (.int z14), .val (.int z16), .val (.ref b17), .val (.ref b22), .val (.int (2 : Int32)), .unset]) rfl kq) ?_
                      show G T35 (mkF m 180 #[.val (.int p0), .val (.int p1), .val (.int p2), .val (.int p3), .val (.int p4), .val (.int z2), .val (.int z4), .val (.int z6), .val (.int z8), .val (.int z10), .val (.int z12), .val (.int z14), .val (.int z16), .val (.ref b17), .val (.ref b22), .val (.int (2 : Int32)), .unset] [])
                      refine hp (fun tq kq => XS.iload X35.here hx rfl (hb hby at_180) rfl kq) ?_
                      show G T35 (mkF m 182 #[.val (.int p0), .val (.int p1), .val (.int p2), .val (.int p3), .val (.int p4), .val (.int z2), .val (.int z4), .val (.int z6), .val (.int z8), .val (.int z10), .val (.int z12), .val (.int z14), .val (.int z16), .val (.ref b17), .val (.ref b22), .val (.int (2 : Int32)), .unset] [(.int z6)])
                      by_cases hb36 : z6 = (0 : Int32)
                      · refine hp (fun tq kq => XS.ifNo X35.here hx rfl (hb hby at_182) rfl ((if0 _ _).trans (teq hb36).2) kq) ?_
                        show G T35 (mkF m 185 #[.val (.int p0), .val (.int p1), .val (.int p2), .val (.int p3), .val (.int p4), .val (.int z2), .val (.int z4), .val (.int z6), .val (.int z8), .val (.int z10), .val (.int z12), .val (.int z14), .val (.int z16), .val (.ref b17), .val (.ref b22), .val (.int (2 : Int32)), .unset] [])
                        refine hp (fun tq kq => XS.aload X35.here hx rfl (hb hby at_185) rfl rfl kq) ?_
                        show G T35 (mkF m 187 #[.val (.int p0), .val (.int p1), .val (.int p2), .val (.int p3), .val (.int p4), .val (.int z2), .val (.int z4), .val (.int z6), .val (.int z8), .val (.int z10), .val (.int z12), .val (.int z14), .val (.int z16), .val (.ref b17), .val (.ref b22), .val (.int (2 : Int32)), .unset] [(.ref b22)])
                        refine hp (fun tq kq => XS.iload X35.here hx rfl (hb hby at_187) rfl kq) ?_
                        show G T35 (mkF m 189 #[.val (.int p0), .val (.int p1), .val (.int p2), .val (.int p3), .val (.int p4), .val (.int z2), .val (.int z4), .val (.int z6), .val (.int z8), .val (.int z10), .val (.int z12), .val (.int z14), .val (.int z16), .val (.ref b17), .val (.ref b22), .val (.int (2 : Int32)), .unset] [(.int (2 : Int32)), (.ref b22)])
                        refine hp (fun tq kq => XS.iload X35.here hx rfl (hb hby at_189) rfl kq) ?_
                        show G T35 (mkF m 191 #[.val (.int p0), .val (.int p1), .val (.int p2), .val (.int p3), .val (.int p4), .val (.int z2), .val (.int z4), .val (.int z6), .val (.int z8), .val (.int z10), .val (.int z12), .val (.int z14), .val (.int z16), .val (.ref b17), .val (.ref b22), .val (.int (2 : Int32)), .unset] [(.int z14), (.int (2 : Int32)), (.ref b22)])
                        obtain ⟨T37, h37, X37, e37, W37, V37_b22, st37⟩ := own_stI X35 hx hZ e35 V35_b22 (j := (2 : Int32)) 2 (by decide) (by decide) (by decide) (g := (mkF m 191 #[.val (.int p0), .val (.int p1), .val (.int p2), .val (.int p3), .val (.int p4), .val (.int z2), .val (.int z4), .val (.int z6), .val (.int z8), .val (.int z10), .val (.int z12), .val (.int z14), .val (.int z16), .val (.ref b17), .val (.ref b22), .val (.int (2 : Int32)), .unset] [(.int z14), (.int (2 : Int32)), (.ref b22)])) rfl rfl (hb hby at_191)
                        have V37_b17 := V35_b17.other W37 ne22_b17
                        have K37 := K35.wr W37 (Or.inr sz_b22)
                        have N37 := Fr.snoc X37 N35 g_b22
                        refine hp st37 ?_
                        show G T37 (mkF m 192 #[.val (.int p0), .val (.int p1), .val (.int p2), .val (.int p3), .val (.int p4), .val (.int z2), .val (.int z4), .val (.int z6), .val (.int z8), .val (.int z10), .val (.int z12), .val (.int z14), .val (.int z16), .val (.ref b17), .val (.ref b22), .val (.int (2 : Int32)), .unset] [])
                        refine hp (fun tq kq => XS.iinc X37.here hx rfl (hb hby at_192) rfl (l' := #[.val (.int p0), .val (.int p1), .val (.int p2), .val (.int p3), .val (.int p4), .val (.int z2), .val (.int z4), .val (.int z6), .val (.int z8), .val (.int z10), .val (.int z12), .val (.int z14), .val (.int z16), .val (.ref b17), .val (.ref b22), .val (.int (3 : Int32)), .unset]) rfl kq) ?_
                        show G T37 (mkF m 195 #[.val (.int p0), .val (.int p1), .val (.int p2), .val (.int p3), .val (.int p4), .val (.int z2), .val (.int z4), .val (.int z6), .val (.int z8), .val (.int z10), .val (.int z12), .val (.int z14), .val (.int z16), .val (.ref b17), .val (.ref b22), .val (.int (3 : Int32)), .unset] [])
                        refine hp (fun tq kq => XS.iload X37.here hx rfl (hb hby at_195) rfl kq) ?_
                        show G T37 (mkF m 197 #[.val (.int p0), .val (.int p1), .val (.int p2), .val (.int p3), .val (.int p4), .val (.int z2), .val (.int z4), .val (.int z6), .val (.int z8), .val (.int z10), .val (.int z12), .val (.int z14), .val (.int z16), .val (.ref b17), .val (.ref b22), .val (.int (3 : Int32)), .unset] [(.int z8)])
                        by_cases hb38 : z8 = (0 : Int32)
                        · refine hp (fun tq kq => XS.ifNo X37.here hx rfl (hb hby at_197) rfl ((if0 _ _).trans (teq hb38).2) kq) ?_
                          show G T37 (mkF m 200 #[.val (.int p0), .val (.int p1), .val (.int p2), .val (.int p3), .val (.int p4), .val (.int z2), .val (.int z4), .val (.int z6), .val (.int z8), .val (.int z10), .val (.int z12), .val (.int z14), .val (.int z16), .val (.ref b17), .val (.ref b22), .val (.int (3 : Int32)), .unset] [])
                          refine hp (fun tq kq => XS.aload X37.here hx rfl (hb hby at_200) rfl rfl kq) ?_
                          show G T37 (mkF m 202 #[.val (.int p0), .val (.int p1), .val (.int p2), .val (.int p3), .val (.int p4), .val (.int z2), .val (.int z4), .val (.int z6), .val (.int z8), .val (.int z10), .val (.int z12), .val (.int z14), .val (.int z16), .val (.ref b17), .val (.ref b22), .val (.int (3 : Int32)), .unset] [(.ref b22)])
                          refine hp (fun tq kq => XS.iload X37.here hx rfl (hb hby at_202) rfl kq) ?_
                          show G T37 (mkF m 204 #[.val (.int p0), .val (.int p1), .val (.int p2), .val (.int p3), .val (.int p4), .val (.int z2), .val (.int z4), .val (.int z6), .val (.int z8), .val (.int z10), .val (.int z12), .val (.int z14), .val (.int z16), .val (.ref b17), .val (.ref b22), .val (.int (3 : Int32)), .unset] [(.int (3 : Int32)), (.ref b22)])
                          refine hp (fun tq kq => XS.iload X37.here hx rfl (hb hby at_204) rfl kq) ?_
                          show G T37 (mkF m 206 #[.val (.int p0), .val (.int p1), .val (.int p2), .val (.int p3), .val (.int p4), .val (.int z2), .val (.int z4), .val (.int z6), .val (.int z8), .val (.int z10), .val (.int z12), .val (.int z14), .val (.int z16), .val (.ref b17), .val (.ref b22), .val (.int (3 : Int32)), .unset] [(.int z16), (.int (3 : Int32)), (.ref b22)])
                          obtain ⟨T39, h39, X39, e39, W39, V39_b22, st39⟩ := own_stI X37 hx hZ e37 V37_b22 (j := (3 : Int32)) 3 (by decide) (by decide) (by decide) (g := (mkF m 206 #[.val (.int p0), .val (.int p1), .val (.int p2), .val (.int p3), .val (.int p4), .val (.int z2), .val (.int z4), .val (.int z6), .val (.int z8), .val (.int z10), .val (.int z12), .val (.int z14), .val (.int z16), .val (.ref b17), .val (.ref b22), .val (.int (3 : Int32)), .unset] [(.int z16), (.int (3 : Int32)), (.ref b22)])) rfl rfl (hb hby at_206)
                          have V39_b17 := V37_b17.other W39 ne22_b17
                          have K39 := K37.wr W39 (Or.inr sz_b22)
                          have N39 := Fr.snoc X39 N37 g_b22
                          refine hp st39 ?_
                          show G T39 (mkF m 207 #[.val (.int p0), .val (.int p1), .val (.int p2), .val (.int p3), .val (.int p4), .val (.int z2), .val (.int z4), .val (.int z6), .val (.int z8), .val (.int z10), .val (.int z12), .val (.int z14), .val (.int z16), .val (.ref b17), .val (.ref b22), .val (.int (3 : Int32)), .unset] [])
                          refine hp (fun tq kq => XS.iinc X39.here hx rfl (hb hby at_207) rfl (l' := #[.val (.int p0), .val (.int p1), .val (.int p2), .val (.int p3), .val (.int p4), .val (.int z2), .val (.int z4), .val (.int z6), .val (.int z8), .val (.int z10), .val (.int z12), .val (.int z14), .val (.int z16), .val (.ref b17), .val (.ref b22), .val (.int (4 : Int32)), .unset]) rfl kq) ?_
                          show G T39 (mkF m 210 #[.val (.int p0), .val (.int p1), .val (.int p2), .val (.int p3), .val (.int p4), .val (.int z2), .val (.int z4), .val (.int z6), .val (.int z8), .val (.int z10), .val (.int z12), .val (.int z14), .val (.int z16), .val (.ref b17), .val (.ref b22), .val (.int (4 : Int32)), .unset] [])
                          exact j210 T39 _ _ _ _ 4 X39 e39 K39 N39 V39_b17 V39_b22 (by decide) (own_seld (l := [z10, z12, z14, z16]) (own_sel_of (a := [z10]) (b := [z12]) (c := [z14]) (d := [z16]) (if_neg ((own_v hz10).1 hb32)) (if_neg ((own_v hz12).1 hb34)) (if_neg ((own_v hz14).1 hb36)) (if_neg ((own_v hz16).1 hb38))) rfl (own_pick4 rfl rfl rfl rfl rfl))
                        · refine hp (fun tq kq => XS.ifYes X37.here hx rfl (pc0 := 197) (pc' := 210) rfl (hb hby at_197) rfl ((if0 _ _).trans (feq hb38).2) (by decide) (by decide) kq) ?_
                          show G T37 (mkF m 210 #[.val (.int p0), .val (.int p1), .val (.int p2), .val (.int p3), .val (.int p4), .val (.int z2), .val (.int z4), .val (.int z6), .val (.int z8), .val (.int z10), .val (.int z12), .val (.int z14), .val (.int z16), .val (.ref b17), .val (.ref b22), .val (.int (3 : Int32)), .unset] [])
                          exact j210 T37 _ _ _ _ 3 X37 e37 K37 N37 V37_b17 V37_b22 (by decide) (own_seld (l := [z10, z12, z14]) (own_sel_of (a := [z10]) (b := [z12]) (c := [z14]) (d := []) (if_neg ((own_v hz10).1 hb32)) (if_neg ((own_v hz12).1 hb34)) (if_neg ((own_v hz14).1 hb36)) (if_pos ((own_v hz16).2 hb38))) rfl (own_pick3 rfl rfl rfl rfl))
                      · refine hp (fun tq kq => XS.ifYes X35.here hx rfl (pc0 := 182) (pc' := 195) rfl (hb hby at_182) rfl ((if0 _ _).trans (feq hb36).2) (by decide) (by decide) kq) ?_
                        show G T35 (mkF m 195 #[.val (.int p0), .val (.int p1), .val (.int p2), .val (.int p3), .val (.int p4), .val (.int z2), .val (.int z4), .val (.int z6), .val (.int z8), .val (.int z10), .val (.int z12), .val (.int z14), .val (.int z16), .val (.ref b17), .val (.ref b22), .val (.int (2 : Int32)), .unset] [])
                        refine hp (fun tq kq => XS.iload X35.here hx rfl (hb hby at_195) rfl kq) ?_
                        show G T35 (mkF m 197 #[.val (.int p0), .val (.int p1), .val (.int p2), .val (.int p3), .val (.int p4), .val (.int z2), .val (.int z4), .val (.int z6), .val (.int z8), .val (.int z10), .val (.int z12), .val (.int z14), .val (.int z16), .val (.ref b17), .val (.ref b22), .val (.int (2 : Int32)), .unset] [(.int z8)])
                        by_cases hb40 : z8 = (0 : Int32)
                        · refine hp (fun tq kq => XS.ifNo X35.here hx rfl (hb hby at_197) rfl ((if0 _ _).trans (teq hb40).2) kq) ?_
                          show G T35 (mkF m 200 #[.val (.int p0), .val (.int p1), .val (.int p2), .val (.int p3), .val (.int p4), .val (.int z2), .val (.int z4), .val (.int z6), .val (.int z8), .val (.int z10), .val (.int z12), .val (.int z14), .val (.int z16), .val (.ref b17), .val (.ref b22), .val (.int (2 : Int32)), .unset] [])
                          refine hp (fun tq kq => XS.aload X35.here hx rfl (hb hby at_200) rfl rfl kq) ?_
                          show G T35 (mkF m 202 #[.val (.int p0), .val (.int p1), .val (.int p2), .val (.int p3), .val (.int p4), .val (.int z2), .val (.int z4), .val (.int z6), .val (.int z8), .val (.int z10), .val (.int z12), .val (.int z14), .val (.int z16), .val (.ref b17), .val (.ref b22), .val (.int (2 : Int32)), .unset] [(.ref b22)])
                          refine hp (fun tq kq => XS.iload X35.here hx rfl (hb hby at_202) rfl kq) ?_
                          show G T35 (mkF m 204 #[.val (.int p0), .val (.int p1), .val (.int p2), .val (.int p3), .val (.int p4), .val (.int z2), .val (.int z4), .val (.int z6), .val (.int z8), .val (.int z10), .val (.int z12), .val (.int z14), .val (.int z16), .val (.ref b17), .val (.ref b22), .val (.int (2 : Int32)), .unset] [(.int (2 : Int32)), (.ref b22)])
                          refine hp (fun tq kq => XS.iload X35.here hx rfl (hb hby at_204) rfl kq) ?_
                          show G T35 (mkF m 206 #[.val (.int p0), .val (.int p1), .val (.int p2), .val (.int p3), .val (.int p4), .val (.int z2), .val (.int z4), .val (.int z6), .val (.int z8), .val (.int z10), .val (.int z12), .val (.int z14), .val (.int z16), .val (.ref b17), .val (.ref b22), .val (.int (2 : Int32)), .unset] [(.int z16), (.int (2 : Int32)), (.ref b22)])
                          obtain ⟨T41, h41, X41, e41, W41, V41_b22, st41⟩ := own_stI X35 hx hZ e35 V35_b22 (j := (2 : Int32)) 2 (by decide) (by decide) (by decide) (g := (mkF m 206 #[.val (.int p0), .val (.int p1), .val (.int p2), .val (.int p3), .val (.int p4), .val (.int z2), .val (.int z4), .val (.int z6), .val (.int z8), .val (.int z10), .val (.int z12), .val (.int z14), .val (.int z16), .val (.ref b17), .val (.ref b22), .val (.int (2 : Int32)), .unset] [(.int z16), (.int (2 : Int32)), (.ref b22)])) rfl rfl (hb hby at_206)
                          have V41_b17 := V35_b17.other W41 ne22_b17
                          have K41 := K35.wr W41 (Or.inr sz_b22)
                          have N41 := Fr.snoc X41 N35 g_b22
                          refine hp st41 ?_
                          show G T41 (mkF m 207 #[.val (.int p0), .val (.int p1), .val (.int p2), .val (.int p3), .val (.int p4), .val (.int z2), .val (.int z4), .val (.int z6), .val (.int z8), .val (.int z10), .val (.int z12), .val (.int z14), .val (.int z16), .val (.ref b17), .val (.ref b22), .val (.int (2 : Int32)), .unset] [])
                          refine hp (fun tq kq => XS.iinc X41.here hx rfl (hb hby at_207) rfl (l' := #[.val (.int p0), .val (.int p1), .val (.int p2), .val (.int p3), .val (.int p4), .val (.int z2), .val (.int z4), .val (.int z6), .val (.int z8), .val (.int z10), .val (.int z12), .val (.int z14), .val (.int z16), .val (.ref b17), .val (.ref b22), .val (.int (3 : Int32)), .unset]) rfl kq) ?_
                          show G T41 (mkF m 210 #[.val (.int p0), .val (.int p1), .val (.int p2), .val (.int p3), .val (.int p4), .val (.int z2), .val (.int z4), .val (.int z6), .val (.int z8), .val (.int z10), .val (.int z12), .val (.int z14), .val (.int z16), .val (.ref b17), .val (.ref b22), .val (.int (3 : Int32)), .unset] [])
                          exact j210 T41 _ _ _ _ 3 X41 e41 K41 N41 V41_b17 V41_b22 (by decide) (own_seld (l := [z10, z12, z16]) (own_sel_of (a := [z10]) (b := [z12]) (c := []) (d := [z16]) (if_neg ((own_v hz10).1 hb32)) (if_neg ((own_v hz12).1 hb34)) (if_pos ((own_v hz14).2 hb36)) (if_neg ((own_v hz16).1 hb40))) rfl (own_pick3 rfl rfl rfl rfl))
                        · refine hp (fun tq kq => XS.ifYes X35.here hx rfl (pc0 := 197) (pc' := 210) rfl (hb hby at_197) rfl ((if0 _ _).trans (feq hb40).2) (by decide) (by decide) kq) ?_
                          show G T35 (mkF m 210 #[.val (.int p0), .val (.int p1), .val (.int p2), .val (.int p3), .val (.int p4), .val (.int z2), .val (.int z4), .val (.int z6), .val (.int z8), .val (.int z10), .val (.int z12), .val (.int z14), .val (.int z16), .val (.ref b17), .val (.ref b22), .val (.int (2 : Int32)), .unset] [])
                          exact j210 T35 _ _ _ _ 2 X35 e35 K35 N35 V35_b17 V35_b22 (by decide) (own_seld (l := [z10, z12]) (own_sel_of (a := [z10]) (b := [z12]) (c := []) (d := []) (if_neg ((own_v hz10).1 hb32)) (if_neg ((own_v hz12).1 hb34)) (if_pos ((own_v hz14).2 hb36)) (if_pos ((own_v hz16).2 hb40))) rfl (own_pick2 rfl rfl rfl))
                    · refine hp (fun tq kq => XS.ifYes X33.here hx rfl (pc0 := 167) (pc' := 180) rfl (hb hby at_167) rfl ((if0 _ _).trans (feq hb34).2) (by decide) (by decide) kq) ?_
                      show G T33 (mkF m 180 #[.val (.int p0), .val (.int p1), .val (.int p2), .val (.int p3), .val (.int p4), .val (.int z2), .val (.int z4), .val (.int z6), .val (.int z8), .val (.int z10), .val (.int z12), .val (.int z14), .val (.int z16), .val (.ref b17), .val (.ref b22), .val (.int (1 : Int32)), .unset] [])
                      refine hp (fun tq kq => XS.iload X33.here hx rfl (hb hby at_180) rfl kq) ?_
                      show G T33 (mkF m 182 #[.val (.int p0), .val (.int p1), .val (.int p2), .val (.int p3), .val (.int p4), .val (.int z2), .val (.int z4), .val (.int z6), .val (.int z8), .val (.int z10), .val (.int z12), .val (.int z14), .val (.int z16), .val (.ref b17), .val (.ref b22), .val (.int (1 : Int32)), .unset] [(.int z6)])
                      by_cases hb42 : z6 = (0 : Int32)
                      · refine hp (fun tq kq => XS.ifNo X33.here hx rfl (hb hby at_182) rfl ((if0 _ _).trans (teq hb42).2) kq) ?_
                        show G T33 (mkF m 185 #[.val (.int p0), .val (.int p1), .val (.int p2), .val (.int p3), .val (.int p4), .val (.int z2), .val (.int z4), .val (.int z6), .val (.int z8), .val (.int z10), .val (.int z12), .val (.int z14), .val (.int z16), .val (.ref b17), .val (.ref b22), .val (.int (1 : Int32)), .unset] [])
                        refine hp (fun tq kq => XS.aload X33.here hx rfl (hb hby at_185) rfl rfl kq) ?_
                        show G T33 (mkF m 187 #[.val (.int p0), .val (.int p1), .val (.int p2), .val (.int p3), .val (.int p4), .val (.int z2), .val (.int z4), .val (.int z6), .val (.int z8), .val (.int z10), .val (.int z12), .val (.int z14), .val (.int z16), .val (.ref b17), .val (.ref b22), .val (.int (1 : Int32)), .unset] [(.ref b22)])
                        refine hp (fun tq kq => XS.iload X33.here hx rfl (hb hby at_187) rfl kq) ?_
                        show G T33 (mkF m 189 #[.val (.int p0), .val (.int p1), .val (.int p2), .val (.int p3), .val (.int p4), .val (.int z2), .val (.int z4), .val (.int z6), .val (.int z8), .val (.int z10), .val (.int z12), .val (.int z14), .val (.int z16), .val (.ref b17), .val (.ref b22), .val (.int (1 : Int32)), .unset] [(.int (1 : Int32)), (.ref b22)])
                        refine hp (fun tq kq => XS.iload X33.here hx rfl (hb hby at_189) rfl kq) ?_
                        show G T33 (mkF m 191 #[.val (.int p0), .val (.int p1), .val (.int p2), .val (.int p3), .val (.int p4), .val (.int z2), .val (.int z4), .val (.int z6), .val (.int z8), .val (.int z10), .val (.int z12), .val (.int z14), .val (.int z16), .val (.ref b17), .val (.ref b22), .val (.int (1 : Int32)), .unset] [(.int z14), (.int (1 : Int32)), (.ref b22)])
                        obtain ⟨T43, h43, X43, e43, W43, V43_b22, st43⟩ := own_stI X33 hx hZ e33 V33_b22 (j := (1 : Int32)) 1 (by decide) (by decide) (by decide) (g := (mkF m 191 #[.val (.int p0), .val (.int p1), .val (.int p2), .val (.int p3), .val (.int p4), .val (.int z2), .val (.int z4), .val (.int z6), .val (.int z8), .val (.int z10), .val (.int z12), .val (.int z14), .val (.int z16), .val (.ref b17), .val (.ref b22), .val (.int (1 : Int32)), .unset] [(.int z14), (.int (1 : Int32)), (.ref b22)])) rfl rfl (hb hby at_191)
                        have V43_b17 := V33_b17.other W43 ne22_b17
                        have K43 := K33.wr W43 (Or.inr sz_b22)
                        have N43 := Fr.snoc X43 N33 g_b22
                        refine hp st43 ?_
                        show G T43 (mkF m 192 #[.val (.int p0), .val (.int p1), .val (.int p2), .val (.int p3), .val (.int p4), .val (.int z2), .val (.int z4), .val (.int z6), .val (.int z8), .val (.int z10), .val (.int z12), .val (.int z14), .val (.int z16), .val (.ref b17), .val (.ref b22), .val (.int (1 : Int32)), .unset] [])
                        refine hp (fun tq kq => XS.iinc X43.here hx rfl (hb hby at_192) rfl (l' := #[.val (.int p0), .val (.int p1), .val (.int p2), .val (.int p3), .val (.int p4), .val (.int z2), .val (.int z4), .val (.int z6), .val (.int z8), .val (.int z10), .val (.int z12), .val (.int z14), .val (.int z16), .val (.ref b17), .val (.ref b22), .val (.int (2 : Int32)), .unset]) rfl kq) ?_
                        show G T43 (mkF m 195 #[.val (.int p0), .val (.int p1), .val (.int p2), .val (.int p3), .val (.int p4), .val (.int z2), .val (.int z4), .val (.int z6), .val (.int z8), .val (.int z10), .val (.int z12), .val (.int z14), .val (.int z16), .val (.ref b17), .val (.ref b22), .val (.int (2 : Int32)), .unset] [])
                        refine hp (fun tq kq => XS.iload X43.here hx rfl (hb hby at_195) rfl kq) ?_
                        show G T43 (mkF m 197 #[.val (.int p0), .val (.int p1), .val (.int p2), .val (.int p3), .val (.int p4), .val (.int z2), .val (.int z4), .val (.int z6), .val (.int z8), .val (.int z10), .val (.int z12), .val (.int z14), .val (.int z16), .val (.ref b17), .val (.ref b22), .val (.int (2 : Int32)), .unset] [(.int z8)])
                        by_cases hb44 : z8 = (0 : Int32)
                        · refine hp (fun tq kq => XS.ifNo X43.here hx rfl (hb hby at_197) rfl ((if0 _ _).trans (teq hb44).2) kq) ?_
                          show G T43 (mkF m 200 #[.val (.int p0), .val (.int p1), .val (.int p2), .val (.int p3), .val (.int p4), .val (.int z2), .val (.int z4), .val (.int z6), .val (.int z8), .val (.int z10), .val (.int z12), .val (.int z14), .val (.int z16), .val (.ref b17), .val (.ref b22), .val (.int (2 : Int32)), .unset] [])
                          refine hp (fun tq kq => XS.aload X43.here hx rfl (hb hby at_200) rfl rfl kq) ?_
                          show G T43 (mkF m 202 #[.val (.int p0), .val (.int p1), .val (.int p2), .val (.int p3), .val (.int p4), .val (.int z2), .val (.int z4), .val (.int z6), .val (.int z8), .val (.int z10), .val (.int z12), .val (.int z14), .val (.int z16), .val (.ref b17), .val (.ref b22), .val (.int (2 : Int32)), .unset] [(.ref b22)])
                          refine hp (fun tq kq => XS.iload X43.here hx rfl (hb hby at_202) rfl kq) ?_
                          show G T43 (mkF m 204 #[.val (.int p0), .val (.int p1), .val (.int p2), .val (.int p3), .val (.int p4), .val (.int z2), .val (.int z4), .val (.int z6), .val (.int z8), .val (.int z10), .val (.int z12), .val (.int z14), .val (.int z16), .val (.ref b17), .val (.ref b22), .val (.int (2 : Int32)), .unset] [(.int (2 : Int32)), (.ref b22)])
                          refine hp (fun tq kq => XS.iload X43.here hx rfl (hb hby at_204) rfl kq) ?_
                          show G T43 (mkF m 206 #[.val (.int p0), .val (.int p1), .val (.int p2), .val (.int p3), .val (.int p4), .val (.int z2), .val (.int z4), .val (.int z6), .val (.int z8), .val (.int z10), .val (.int z12), .val (.int z14), .val (.int z16), .val (.ref b17), .val (.ref b22), .val (.int (2 : Int32)), .unset] [(.int z16), (.int (2 : Int32)), (.ref b22)])
                          obtain ⟨T45, h45, X45, e45, W45, V45_b22, st45⟩ := own_stI X43 hx hZ e43 V43_b22 (j := (2 : Int32)) 2 (by decide) (by decide) (by decide) (g := (mkF m 206 #[.val (.int p0), .val (.int p1), .val (.int p2), .val (.int p3), .val (.int p4), .val (.int z2), .val (.int z4), .val (.int z6), .val (.int z8), .val (.int z10), .val (.int z12), .val (.int z14), .val (.int z16), .val (.ref b17), .val (.ref b22), .val (.int (2 : Int32)), .unset] [(.int z16), (.int (2 : Int32)), (.ref b22)])) rfl rfl (hb hby at_206)
                          have V45_b17 := V43_b17.other W45 ne22_b17
                          have K45 := K43.wr W45 (Or.inr sz_b22)
                          have N45 := Fr.snoc X45 N43 g_b22
                          refine hp st45 ?_
                          show G T45 (mkF m 207 #[.val (.int p0), .val (.int p1), .val (.int p2), .val (.int p3), .val (.int p4), .val (.int z2), .val (.int z4), .val (.int z6), .val (.int z8), .val (.int z10), .val (.int z12), .val (.int z14), .val (.int z16), .val (.ref b17), .val (.ref b22), .val (.int (2 : Int32)), .unset] [])
                          refine hp (fun tq kq => XS.iinc X45.here hx rfl (hb hby at_207) rfl (l' := #[.val (.int p0), .val (.int p1), .val (.int p2), .val (.int p3), .val (.int p4), .val (.int z2), .val (.int z4), .val (.int z6), .val (.int z8), .val (.int z10), .val (.int z12), .val (.int z14), .val (.int z16), .val (.ref b17), .val (.ref b22), .val (.int (3 : Int32)), .unset]) rfl kq) ?_
                          show G T45 (mkF m 210 #[.val (.int p0), .val (.int p1), .val (.int p2), .val (.int p3), .val (.int p4), .val (.int z2), .val (.int z4), .val (.int z6), .val (.int z8), .val (.int z10), .val (.int z12), .val (.int z14), .val (.int z16), .val (.ref b17), .val (.ref b22), .val (.int (3 : Int32)), .unset] [])
                          exact j210 T45 _ _ _ _ 3 X45 e45 K45 N45 V45_b17 V45_b22 (by decide) (own_seld (l := [z10, z14, z16]) (own_sel_of (a := [z10]) (b := []) (c := [z14]) (d := [z16]) (if_neg ((own_v hz10).1 hb32)) (if_pos ((own_v hz12).2 hb34)) (if_neg ((own_v hz14).1 hb42)) (if_neg ((own_v hz16).1 hb44))) rfl (own_pick3 rfl rfl rfl rfl))
                        · refine hp (fun tq kq => XS.ifYes X43.here hx rfl (pc0 := 197) (pc' := 210) rfl (hb hby at_197) rfl ((if0 _ _).trans (feq hb44).2) (by decide) (by decide) kq) ?_
                          show G T43 (mkF m 210 #[.val (.int p0), .val (.int p1), .val (.int p2), .val (.int p3), .val (.int p4), .val (.int z2), .val (.int z4), .val (.int z6), .val (.int z8), .val (.int z10), .val (.int z12), .val (.int z14), .val (.int z16), .val (.ref b17), .val (.ref b22), .val (.int (2 : Int32)), .unset] [])
                          exact j210 T43 _ _ _ _ 2 X43 e43 K43 N43 V43_b17 V43_b22 (by decide) (own_seld (l := [z10, z14]) (own_sel_of (a := [z10]) (b := []) (c := [z14]) (d := []) (if_neg ((own_v hz10).1 hb32)) (if_pos ((own_v hz12).2 hb34)) (if_neg ((own_v hz14).1 hb42)) (if_pos ((own_v hz16).2 hb44))) rfl (own_pick2 rfl rfl rfl))
                      · refine hp (fun tq kq => XS.ifYes X33.here hx rfl (pc0 := 182) (pc' := 195) rfl (hb hby at_182) rfl ((if0 _ _).trans (feq hb42).2) (by decide) (by decide) kq) ?_
                        show G T33 (mkF m 195 #[.val (.int p0), .val (.int p1), .val (.int p2), .val (.int p3), .val (.int p4), .val (.int z2), .val (.int z4), .val (.int z6), .val (.int z8), .val (.int z10), .val (.int z12), .val (.int z14), .val (.int z16), .val (.ref b17), .val (.ref b22), .val (.int (1 : Int32)), .unset] [])
                        refine hp (fun tq kq => XS.iload X33.here hx rfl (hb hby at_195) rfl kq) ?_
                        show G T33 (mkF m 197 #[.val (.int p0), .val (.int p1), .val (.int p2), .val (.int p3), .val (.int p4), .val (.int z2), .val (.int z4), .val (.int z6), .val (.int z8), .val (.int z10), .val (.int z12), .val (.int z14), .val (.int z16), .val (.ref b17), .val (.ref b22), .val (.int (1 : Int32)), .unset] [(.int z8)])
                        by_cases hb46 : z8 = (0 : Int32)
                        · refine hp (fun tq kq => XS.ifNo X33.here hx rfl (hb hby at_197) rfl ((if0 _ _).trans (teq hb46).2) kq) ?_
                          show G T33 (mkF m 200 #[.val (.int p0), .val (.int p1), .val (.int p2), .val (.int p3), .val (.int p4), .val (.int z2), .val (.int z4), .val (.int z6), .val (.int z8), .val (.int z10), .val (.int z12), .val (.int z14), .val (.int z16), .val (.ref b17), .val (.ref b22), .val (.int (1 : Int32)), .unset] [])
                          refine hp (fun tq kq => XS.aload X33.here hx rfl (hb hby at_200) rfl rfl kq) ?_
                          show G T33 (mkF m 202 #[.val (.int p0), .val (.int p1), .val (.int p2), .val (.int p3), .val (.int p4), .val (.int z2), .val (.int z4), .val (.int z6), .val (.int z8), .val (.int z10), .val (.int z12), .val (.int z14), .val (.int z16), .val (.ref b17), .val (.ref b22), .val (.int (1 : Int32)), .unset] [(.ref b22)])
                          refine hp (fun tq kq => XS.iload X33.here hx rfl (hb hby at_202) rfl kq) ?_
                          show G T33 (mkF m 204 #[.val (.int p0), .val (.int p1), .val (.int p2), .val (.int p3), .val (.int p4), .val (.int z2), .val (.int z4), .val (.int z6), .val (.int z8), .val (.int z10), .val (.int z12), .val (.int z14), .val (.int z16), .val (.ref b17), .val (.ref b22), .val (.int (1 : Int32)), .unset] [(.int (1 : Int32)), (.ref b22)])
                          refine hp (fun tq kq => XS.iload X33.here hx rfl (hb hby at_204) rfl kq) ?_
                          show G T33 (mkF m 206 #[.val (.int p0), .val (.int p1), .val (.int p2), .val (.int p3), .val (.int p4), .val (.int z2), .val (.int z4), .val (.int z6), .val (.int z8), .val (.int z10), .val (.int z12), .val (.int z14), .val (.int z16), .val (.ref b17), .val (.ref b22), .val (.int (1 : Int32)), .unset] [(.int z16), (.int (1 : Int32)), (.ref b22)])
                          obtain ⟨T47, h47, X47, e47, W47, V47_b22, st47⟩ := own_stI X33 hx hZ e33 V33_b22 (j := (1 : Int32)) 1 (by decide) (by decide) (by decide) (g := (mkF m 206 #[.val (.int p0), .val (.int p1), .val (.int p2), .val (.int p3), .val (.int p4), .val (.int z2), .val (.int z4), .val (.int z6), .val (.int z8), .val (.int z10), .val (.int z12), .val (.int z14), .val (.int z16), .val (.ref b17), .val (.ref b22), .val (.int (1 : Int32)), .unset] [(.int z16), (.int (1 : Int32)), (.ref b22)])) rfl rfl (hb hby at_206)
                          have V47_b17 := V33_b17.other W47 ne22_b17
                          have K47 := K33.wr W47 (Or.inr sz_b22)
                          have N47 := Fr.snoc X47 N33 g_b22
                          refine hp st47 ?_
                          show G T47 (mkF m 207 #[.val (.int p0), .val (.int p1), .val (.int p2), .val (.int p3), .val (.int p4), .val (.int z2), .val (.int z4), .val (.int z6), .val (.int z8), .val (.int z10), .val (.int z12), .val (.int z14), .val (.int z16), .val (.ref b17), .val (.ref b22), .val (.int (1 : Int32)), .unset] [])
                          refine hp (fun tq kq => XS.iinc X47.here hx rfl (hb hby at_207) rfl (l' := #[.val (.int p0), .val (.int p1), .val (.int p2), .val (.int p3), .val (.int p4), .val (.int z2), .val (.int z4), .val (.int z6), .val (.int z8), .val (.int z10), .val (.int z12), .val (.int z14), .val (.int z16), .val (.ref b17), .val (.ref b22), .val (.int (2 : Int32)), .unset]) rfl kq) ?_
                          show G T47 (mkF m 210 #[.val (.int p0), .val (.int p1), .val (.int p2), .val (.int p3), .val (.int p4), .val (.int z2), .val (.int z4), .val (.int z6), .val (.int z8), .val (.int z10), .val (.int z12), .val (.int z14), .val (.int z16), .val (.ref b17), .val (.ref b22), .val (.int (2 : Int32)), .unset] [])
                          exact j210 T47 _ _ _ _ 2 X47 e47 K47 N47 V47_b17 V47_b22 (by decide) (own_seld (l := [z10, z16]) (own_sel_of (a := [z10]) (b := []) (c := []) (d := [z16]) (if_neg ((own_v hz10).1 hb32)) (if_pos ((own_v hz12).2 hb34)) (if_pos ((own_v hz14).2 hb42)) (if_neg ((own_v hz16).1 hb46))) rfl (own_pick2 rfl rfl rfl))
                        · refine hp (fun tq kq => XS.ifYes X33.here hx rfl (pc0 := 197) (pc' := 210) rfl (hb hby at_197) rfl ((if0 _ _).trans (feq hb46).2) (by decide) (by decide) kq) ?_
                          show G T33 (mkF m 210 #[.val (.int p0), .val (.int p1), .val (.int p2), .val (.int p3), .val (.int p4), .val (.int z2), .val (.int z4), .val (.int z6), .val (.int z8), .val (.int z10), .val (.int z12), .val (.int z14), .val (.int z16), .val (.ref b17), .val (.ref b22), .val (.int (1 : Int32)), .unset] [])
                          exact j210 T33 _ _ _ _ 1 X33 e33 K33 N33 V33_b17 V33_b22 (by decide) (own_seld (l := [z10]) (own_sel_of (a := [z10]) (b := []) (c := []) (d := []) (if_neg ((own_v hz10).1 hb32)) (if_pos ((own_v hz12).2 hb34)) (if_pos ((own_v hz14).2 hb42)) (if_pos ((own_v hz16).2 hb46))) rfl (own_pick1 rfl rfl))
                  · refine hp (fun tq kq => XS.ifYes X22.here hx rfl (pc0 := 152) (pc' := 165) rfl (hb hby at_152) rfl ((if0 _ _).trans (feq hb32).2) (by decide) (by decide) kq) ?_
                    show G T22 (mkF m 165 #[.val (.int p0), .val (.int p1), .val (.int p2), .val (.int p3), .val (.int p4), .val (.int z2), .val (.int z4), .val (.int z6), .val (.int z8), .val (.int z10), .val (.int z12), .val (.int z14), .val (.int z16), .val (.ref b17), .val (.ref b22), .val (.int (0 : Int32)), .unset] [])
                    refine hp (fun tq kq => XS.iload X22.here hx rfl (hb hby at_165) rfl kq) ?_
                    show G T22 (mkF m 167 #[.val (.int p0), .val (.int p1), .val (.int p2), .val (.int p3), .val (.int p4), .val (.int z2), .val (.int z4), .val (.int z6), .val (.int z8), .val (.int z10), .val (.int z12), .val (.int z14), .val (.int z16), .val (.ref b17), .val (.ref b22), .val (.int (0 : Int32)), .unset] [(.int z4)])
                    by_cases hb48 : z4 = (0 : Int32)
                    · refine hp (fun tq kq => XS.ifNo X22.here hx rfl (hb hby at_167) rfl ((if0 _ _).trans (teq hb48).2) kq) ?_
                      show G T22 (mkF m 170 #[.val (.int p0), .val (.int p1), .val (.int p2), .val (.int p3), .val (.int p4), .val (.int z2), .val (.int z4), .val (.int z6), .val (.int z8), .val (.int z10), .val (.int z12), .val (.int z14), .val (.int z16), .val (.ref b17), .val (.ref b22), .val (.int (0 : Int32)), .unset] [])
                      refine hp (fun tq kq => XS.aload X22.here hx rfl (hb hby at_170) rfl rfl kq) ?_
                      show G T22 (mkF m 172 #[.val (.int p0), .val (.int p1), .val (.int p2), .val (.int p3), .val (.int p4), .val (.int z2), .val (.int z4), .val (.int z6), .val (.int z8), .val (.int z10), .val (.int z12), .val (.int z14), .val (.int z16), .val (.ref b17), .val (.ref b22), .val (.int (0 : Int32)), .unset] [(.ref b22)])
                      refine hp (fun tq kq => XS.iload X22.here hx rfl (hb hby at_172) rfl kq) ?_
                      show G T22 (mkF m 174 #[.val (.int p0), .val (.int p1), .val (.int p2), .val (.int p3), .val (.int p4), .val (.int z2), .val (.int z4), .val (.int z6), .val (.int z8), .val (.int z10), .val (.int z12), .val (.int z14), .val (.int z16), .val (.ref b17), .val (.ref b22), .val (.int (0 : Int32)), .unset] [(.int (0 : Int32)), (.ref b22)])
                      refine hp (fun tq kq => XS.iload X22.here hx rfl (hb hby at_174) rfl kq) ?_
                      show G T22 (mkF m 176 #[.val (.int p0), .val (.int p1), .val (.int p2), .val (.int p3), .val (.int p4), .val (.int z2), .val (.int z4), .val (.int z6), .val (.int z8), .val (.int z10), .val (.int z12), .val (.int z14), .val (.int z16), .val (.ref b17), .val (.ref b22), .val (.int (0 : Int32)), .unset] [(.int z12), (.int (0 : Int32)), (.ref b22)])
                      obtain ⟨T49, h49, X49, e49, W49, V49_b22, st49⟩ := own_stI X22 hx hZ e22 V22_b22 (j := (0 : Int32)) 0 (by decide) (by decide) (by decide) (g := (mkF m 176 #[.val (.int p0), .val (.int p1), .val (.int p2), .val (.int p3), .val (.int p4), .val (.int z2), .val (.int z4), .val (.int z6), .val (.int z8), .val (.int z10), .val (.int z12), .val (.int z14), .val (.int z16), .val (.ref b17), .val (.ref b22), .val (.int (0 : Int32)), .unset] [(.int z12), (.int (0 : Int32)), (.ref b22)])) rfl rfl (hb hby at_176)
                      have V49_b17 := V22_b17.other W49 ne22_b17
                      have K49 := K22.wr W49 (Or.inr sz_b22)
                      have N49 := Fr.snoc X49 N21 g_b22
                      refine hp st49 ?_
                      show G T49 (mkF m 177 #[.val (.int p0), .val (.int p1), .val (.int p2), .val (.int p3), .val (.int p4), .val (.int z2), .val (.int z4), .val (.int z6), .val (.int z8), .val (.int z10), .val (.int z12), .val (.int z14), .val (.int z16), .val (.ref b17), .val (.ref b22), .val (.int (0 : Int32)), .unset] [])
                      refine hp (fun tq kq => XS.iinc X49.here hx rfl (hb hby at_177) rfl (l' := #[.val (.int p0), .val (.int p1), .val (.int p2), .val (.int p3), .val (.int p4), .val (.int z2), .val (.int z4), .val (.int z6), .val (.int z8), .val (.int z10), .val (.int z12), .val (.int z14), .val (.int z16), .val (.ref b17), .val (.ref b22), .val (.int (1 : Int32)), .unset]) rfl kq) ?_
                      show G T49 (mkF m 180 #[.val (.int p0), .val (.int p1), .val (.int p2), .val (.int p3), .val (.int p4), .val (.int z2), .val (.int z4), .val (.int z6), .val (.int z8), .val (.int z10), .val (.int z12), .val (.int z14), .val (.int z16), .val (.ref b17), .val (.ref b22), .val (.int (1 : Int32)), .unset] [])
                      refine hp (fun tq kq => XS.iload X49.here hx rfl (hb hby at_180) rfl kq) ?_
                      show G T49 (mkF m 182 #[.val (.int p0), .val (.int p1), .val (.int p2), .val (.int p3), .val (.int p4), .val (.int z2), .val (.int z4), .val (.int z6), .val (.int z8), .val (.int z10), .val (.int z12), .val (.int z14), .val (.int z16), .val (.ref b17), .val (.ref b22), .val (.int (1 : Int32)), .unset] [(.int z6)])
                      by_cases hb50 : z6 = (0 : Int32)
                      · refine hp (fun tq kq => XS.ifNo X49.here hx rfl (hb hby at_182) rfl ((if0 _ _).trans (teq hb50).2) kq) ?_
                        show G T49 (mkF m 185 #[.val (.int p0), .val (.int p1), .val (.int p2), .val (.int p3), .val (.int p4), .val (.int z2), .val (.int z4), .val (.int z6), .val (.int z8), .val (.int z10), .val (.int z12), .val (.int z14), .val (.int z16), .val (.ref b17), .val (.ref b22), .val (.int (1 : Int32)), .unset] [])
                        refine hp (fun tq kq => XS.aload X49.here hx rfl (hb hby at_185) rfl rfl kq) ?_
                        show G T49 (mkF m 187 #[.val (.int p0), .val (.int p1), .val (.int p2), .val (.int p3), .val (.int p4), .val (.int z2), .val (.int z4), .val (.int z6), .val (.int z8), .val (.int z10), .val (.int z12), .val (.int z14), .val (.int z16), .val (.ref b17), .val (.ref b22), .val (.int (1 : Int32)), .unset] [(.ref b22)])
                        refine hp (fun tq kq => XS.iload X49.here hx rfl (hb hby at_187) rfl kq) ?_
                        show G T49 (mkF m 189 #[.val (.int p0), .val (.int p1), .val (.int p2), .val (.int p3), .val (.int p4), .val (.int z2), .val (.int z4), .val (.int z6), .val (.int z8), .val (.int z10), .val (.int z12), .val (.int z14), .val (.int z16), .val (.ref b17), .val (.ref b22), .val (.int (1 : Int32)), .unset] [(.int (1 : Int32)), (.ref b22)])
                        refine hp (fun tq kq => XS.iload X49.here hx rfl (hb hby at_189) rfl kq) ?_
                        show G T49 (mkF m 191 #[.val (.int p0), .val (.int p1), .val (.int p2), .val (.int p3), .val (.int p4), .val (.int z2), .val (.int z4), .val (.int z6), .val (.int z8), .val (.int z10), .val (.int z12), .val (.int z14), .val (.int z16), .val (.ref b17), .val (.ref b22), .val (.int (1 : Int32)), .unset] [(.int z14), (.int (1 : Int32)), (.ref b22)])
                        obtain ⟨T51, h51, X51, e51, W51, V51_b22, st51⟩ := own_stI X49 hx hZ e49 V49_b22 (j := (1 : Int32)) 1 (by decide) (by decide) (by decide) (g := (mkF m 191 #[.val (.int p0), .val (.int p1), .val (.int p2), .val (.int p3), .val (.int p4), .val (.int z2), .val (.int z4), .val (.int z6), .val (.int z8), .val (.int z10), .val (.int z12), .val (.int z14), .val (.int z16), .val (.ref b17), .val (.ref b22), .val (.int (1 : Int32)), .unset] [(.int z14), (.int (1 : Int32)), (.ref b22)])) rfl rfl (hb hby at_191)
                        have V51_b17 := V49_b17.other W51 ne22_b17
                        have K51 := K49.wr W51 (Or.inr sz_b22)
                        have N51 := Fr.snoc X51 N49 g_b22
                        refine hp st51 ?_
                        show G T51 (mkF m 192 #[.val (.int p0), .val (.int p1), .val (.int p2), .val (.int p3), .val (.int p4), .val (.int z2), .val (.int z4), .val (.int z6), .val (.int z8), .val (.int z10), .val (.int z12), .val (.int z14), .val (.int z16), .val (.ref b17), .val (.ref b22), .val (.int (1 : Int32)), .unset] [])
                        refine hp (fun tq kq => XS.iinc X51.here hx rfl (hb hby at_192) rfl (l' := #[.val (.int p0), .val (.int p1), .val (.int p2), .val (.int p3), .val (.int p4), .val (.int z2), .val (.int z4), .val (.int z6), .val (.int z8), .val (.int z10), .val (.int z12), .val (.int z14), .val (.int z16), .val (.ref b17), .val (.ref b22), .val (.int (2 : Int32)), .unset]) rfl kq) ?_
                        show G T51 (mkF m 195 #[.val (.int p0), .val (.int p1), .val (.int p2), .val (.int p3), .val (.int p4), .val (.int z2), .val (.int z4), .val (.int z6), .val (.int z8), .val (.int z10), .val (.int z12), .val (.int z14), .val (.int z16), .val (.ref b17), .val (.ref b22), .val (.int (2 : Int32)), .unset] [])
                        refine hp (fun tq kq => XS.iload X51.here hx rfl (hb hby at_195) rfl kq) ?_
                        show G T51 (mkF m 197 #[.val (.int p0), .val (.int p1), .val (.int p2), .val (.int p3), .val (.int p4), .val (.int z2), .val (.int z4), .val (.int z6), .val (.int z8), .val (.int z10), .val (.int z12), .val (.int z14), .val (.int z16), .val (.ref b17), .val (.ref b22), .val (.int (2 : Int32)), .unset] [(.int z8)])
                        by_cases hb52 : z8 = (0 : Int32)
                        · refine hp (fun tq kq => XS.ifNo X51.here hx rfl (hb hby at_197) rfl ((if0 _ _).trans (teq hb52).2) kq) ?_
                          show G T51 (mkF m 200 #[.val (.int p0), .val (.int p1), .val (.int p2), .val (.int p3), .val (.int p4), .val (.int z2), .val (.int z4), .val (.int z6), .val (.int z8), .val (.int z10), .val (.int z12), .val (.int z14), .val (.int z16), .val (.ref b17), .val (.ref b22), .val (.int (2 : Int32)), .unset] [])
                          refine hp (fun tq kq => XS.aload X51.here hx rfl (hb hby at_200) rfl rfl kq) ?_
                          show G T51 (mkF m 202 #[.val (.int p0), .val (.int p1), .val (.int p2), .val (.int p3), .val (.int p4), .val (.int z2), .val (.int z4), .val (.int z6), .val (.int z8), .val (.int z10), .val (.int z12), .val (.int z14), .val (.int z16), .val (.ref b17), .val (.ref b22), .val (.int (2 : Int32)), .unset] [(.ref b22)])
                          refine hp (fun tq kq => XS.iload X51.here hx rfl (hb hby at_202) rfl kq) ?_
                          show G T51 (mkF m 204 #[.val (.int p0), .val (.int p1), .val (.int p2), .val (.int p3), .val (.int p4), .val (.int z2), .val (.int z4), .val (.int z6), .val (.int z8), .val (.int z10), .val (.int z12), .val (.int z14), .val (.int z16), .val (.ref b17), .val (.ref b22), .val (.int (2 : Int32)), .unset] [(.int (2 : Int32)), (.ref b22)])
                          refine hp (fun tq kq => XS.iload X51.here hx rfl (hb hby at_204) rfl kq) ?_
                          show G T51 (mkF m 206 #[.val (.int p0), .val (.int p1), .val (.int p2), .val (.int p3), .val (.int p4), .val (.int z2), .val (.int z4), .val (.int z6), .val (.int z8), .val (.int z10), .val (.int z12), .val (.int z14), .val (.int z16), .val (.ref b17), .val (.ref b22), .val (.int (2 : Int32)), .unset] [(.int z16), (.int (2 : Int32)), (.ref b22)])
                          obtain ⟨T53, h53, X53, e53, W53, V53_b22, st53⟩ := own_stI X51 hx hZ e51 V51_b22 (j := (2 : Int32)) 2 (by decide) (by decide) (by decide) (g := (mkF m 206 #[.val (.int p0), .val (.int p1), .val (.int p2), .val (.int p3), .val (.int p4), .val (.int z2), .val (.int z4), .val (.int z6), .val (.int z8), .val (.int z10), .val (.int z12), .val (.int z14), .val (.int z16), .val (.ref b17), .val (.ref b22), .val (.int (2 : Int32)), .unset] [(.int z16), (.int (2 : Int32)), (.ref b22)])) rfl rfl (hb hby at_206)
                          have V53_b17 := V51_b17.other W53 ne22_b17
                          have K53 := K51.wr W53 (Or.inr sz_b22)
                          have N53 := Fr.snoc X53 N51 g_b22
                          refine hp st53 ?_
                          show G T53 (mkF m 207 #[.val (.int p0), .val (.int p1), .val (.int p2), .val (.int p3), .val (.int p4), .val (.int z2), .val (.int z4), .val (.int z6), .val (.int z8), .val (.int z10), .val (.int z12), .val (.int z14), .val (.int z16), .val (.ref b17), .val (.ref b22), .val (.int (2 : Int32)), .unset] [])
                          refine hp (fun tq kq => XS.iinc X53.here hx rfl (hb hby at_207) rfl (l' := #[.val (.int p0), .val (.int p1), .val (.int p2), .val (.int p3), .val (.int p4), .val (.int z2), .val (.int z4), .val (.int z6), .val (.int z8), .val (.int z10), .val (.int z12), .val (.int z14), .val (.int z16), .val (.ref b17), .val (.ref b22), .val (.int (3 : Int32)), .unset]) rfl kq) ?_
                          show G T53 (mkF m 210 #[.val (.int p0), .val (.int p1), .val (.int p2), .val (.int p3), .val (.int p4), .val (.int z2), .val (.int z4), .val (.int z6), .val (.int z8), .val (.int z10), .val (.int z12), .val (.int z14), .val (.int z16), .val (.ref b17), .val (.ref b22), .val (.int (3 : Int32)), .unset] [])
                          exact j210 T53 _ _ _ _ 3 X53 e53 K53 N53 V53_b17 V53_b22 (by decide) (own_seld (l := [z12, z14, z16]) (own_sel_of (a := []) (b := [z12]) (c := [z14]) (d := [z16]) (if_pos ((own_v hz10).2 hb32)) (if_neg ((own_v hz12).1 hb48)) (if_neg ((own_v hz14).1 hb50)) (if_neg ((own_v hz16).1 hb52))) rfl (own_pick3 rfl rfl rfl rfl))
                        · refine hp (fun tq kq => XS.ifYes X51.here hx rfl (pc0 := 197) (pc' := 210) rfl (hb hby at_197) rfl ((if0 _ _).trans (feq hb52).2) (by decide) (by decide) kq) ?_
                          show G T51 (mkF m 210 #[.val (.int p0), .val (.int p1), .val (.int p2), .val (.int p3), .val (.int p4), .val (.int z2), .val (.int z4), .val (.int z6), .val (.int z8), .val (.int z10), .val (.int z12), .val (.int z14), .val (.int z16), .val (.ref b17), .val (.ref b22), .val (.int (2 : Int32)), .unset] [])
                          exact j210 T51 _ _ _ _ 2 X51 e51 K51 N51 V51_b17 V51_b22 (by decide) (own_seld (l := [z12, z14]) (own_sel_of (a := []) (b := [z12]) (c := [z14]) (d := []) (if_pos ((own_v hz10).2 hb32)) (if_neg ((own_v hz12).1 hb48)) (if_neg ((own_v hz14).1 hb50)) (if_pos ((own_v hz16).2 hb52))) rfl (own_pick2 rfl rfl rfl))
                      · refine hp (fun tq kq => XS.ifYes X49.here hx rfl (pc0 := 182) (pc' := 195) rfl (hb hby at_182) rfl ((if0 _ _).trans (feq hb50).2) (by decide) (by decide) kq) ?_
                        show G T49 (mkF m 195 #[.val (.int p0), .val (.int p1), .val (.int p2), .val (.int p3), .val (.int p4), .val (.int z2), .val (.int z4), .val (.int z6), .val (.int z8), .val (.int z10), .val (.int z12), .val (.int z14), .val (.int z16), .val (.ref b17), .val (.ref b22), .val (.int (1 : Int32)), .unset] [])
                        refine hp (fun tq kq => XS.iload X49.here hx rfl (hb hby at_195) rfl kq) ?_
                        show G T49 (mkF m 197 #[.val (.int p0), .val (.int p1), .val (.int p2), .val (.int p3), .val (.int p4), .val (.int z2), .val (.int z4), .val (.int z6), .val (.int z8), .val (.int z10), .val (.int z12), .val (.int z14), .val (.int z16), .val (.ref b17), .val (.ref b22), .val (.int (1 : Int32)), .unset] [(.int z8)])
                        by_cases hb54 : z8 = (0 : Int32)
                        · refine hp (fun tq kq => XS.ifNo X49.here hx rfl (hb hby at_197) rfl ((if0 _ _).trans (teq hb54).2) kq) ?_
                          show G T49 (mkF m 200 #[.val (.int p0), .val (.int p1), .val (.int p2), .val (.int p3), .val (.int p4), .val (.int z2), .val (.int z4), .val (.int z6), .val (.int z8), .val (.int z10), .val (.int z12), .val (.int z14), .val (.int z16), .val (.ref b17), .val (.ref b22), .val (.int (1 : Int32)), .unset] [])
                          refine hp (fun tq kq => XS.aload X49.here hx rfl (hb hby at_200) rfl rfl kq) ?_
                          show G T49 (mkF m 202 #[.val (.int p0), .val (.int p1), .val (.int p2), .val (.int p3), .val (.int p4), .val (.int z2), .val (.int z4), .val (.int z6), .val (.int z8), .val (.int z10), .val (.int z12), .val (.int z14), .val (.int z16), .val (.ref b17), .val (.ref b22), .val (.int (1 : Int32)), .unset] [(.ref b22)])
                          refine hp (fun tq kq => XS.iload X49.here hx rfl (hb hby at_202) rfl kq) ?_
                          show G T49 (mkF m 204 #[.val (.int p0), .val (.int p1), .val (.int p2), .val (.int p3), .val (.int p4), .val (.int z2), .val (.int z4), .val (.int z6), .val (.int z8), .val (.int z10), .val (.int z12), .val (.int z14), .val (.int z16), .val (.ref b17), .val (.ref b22), .val (.int (1 : Int32)), .unset] [(.int (1 : Int32)), (.ref b22)])
                          refine hp (fun tq kq => XS.iload X49.here hx rfl (hb hby at_204) rfl kq) ?_
                          show G T49 (mkF m 206 #[.val (.int p0), .val (.int p1), .val (.int p2), .val (.int p3), .val (.int p4), .val (.int z2), .val (.int z4), .val (.int z6), .val (.int z8), .val (.int z10), .val (.int z12), .val (.int z14), .val (.int z16), .val (.ref b17), .val (.ref b22), .val (.int (1 : Int32)), .unset] [(.int z16), (.int (1 : Int32)), (.ref b22)])
                          obtain ⟨T55, h55, X55, e55, W55, V55_b22, st55⟩ := own_stI X49 hx hZ e49 V49_b22 (j := (1 : Int32)) 1 (by decide) (by decide) (by decide) (g := (mkF m 206 #[.val (.int p0), .val (.int p1), .val (.int p2), .val (.int p3), .val (.int p4), .val (.int z2), .val (.int z4), .val (.int z6), .val (.int z8), .val (.int z10), .val (.int z12), .val (.int z14), .val (.int z16), .val (.ref b17), .val (.ref b22), .val (.int (1 : Int32)), .unset] [(.int z16), (.int (1 : Int32)), (.ref b22)])) rfl rfl (hb hby at_206)
                          have V55_b17 := V49_b17.other W55 ne22_b17
                          have K55 := K49.wr W55 (Or.inr sz_b22)
                          have N55 := Fr.snoc X55 N49 g_b22
                          refine hp st55 ?_
                          show G T55 (mkF m 207 #[.val (.int p0), .val (.int p1), .val (.int p2), .val (.int p3), .val (.int p4), .val (.int z2), .val (.int z4), .val (.int z6), .val (.int z8), .val (.int z10), .val (.int z12), .val (.int z14), .val (.int z16), .val (.ref b17), .val (.ref b22), .val (.int (1 : Int32)), .unset] [])
                          refine hp (fun tq kq => XS.iinc X55.here hx rfl (hb hby at_207) rfl (l' := #[.val (.int p0), .val (.int p1), .val (.int p2), .val (.int p3), .val (.int p4), .val (.int z2), .val (.int z4), .val (.int z6), .val (.int z8), .val (.int z10), .val (.int z12), .val (.int z14), .val (.int z16), .val (.ref b17), .val (.ref b22), .val (.int (2 : Int32)), .unset]) rfl kq) ?_
                          show G T55 (mkF m 210 #[.val (.int p0), .val (.int p1), .val (.int p2), .val (.int p3), .val (.int p4), .val (.int z2), .val (.int z4), .val (.int z6), .val (.int z8), .val (.int z10), .val (.int z12), .val (.int z14), .val (.int z16), .val (.ref b17), .val (.ref b22), .val (.int (2 : Int32)), .unset] [])
                          exact j210 T55 _ _ _ _ 2 X55 e55 K55 N55 V55_b17 V55_b22 (by decide) (own_seld (l := [z12, z16]) (own_sel_of (a := []) (b := [z12]) (c := []) (d := [z16]) (if_pos ((own_v hz10).2 hb32)) (if_neg ((own_v hz12).1 hb48)) (if_pos ((own_v hz14).2 hb50)) (if_neg ((own_v hz16).1 hb54))) rfl (own_pick2 rfl rfl rfl))
                        · refine hp (fun tq kq => XS.ifYes X49.here hx rfl (pc0 := 197) (pc' := 210) rfl (hb hby at_197) rfl ((if0 _ _).trans (feq hb54).2) (by decide) (by decide) kq) ?_
                          show G T49 (mkF m 210 #[.val (.int p0), .val (.int p1), .val (.int p2), .val (.int p3), .val (.int p4), .val (.int z2), .val (.int z4), .val (.int z6), .val (.int z8), .val (.int z10), .val (.int z12), .val (.int z14), .val (.int z16), .val (.ref b17), .val (.ref b22), .val (.int (1 : Int32)), .unset] [])
                          exact j210 T49 _ _ _ _ 1 X49 e49 K49 N49 V49_b17 V49_b22 (by decide) (own_seld (l := [z12]) (own_sel_of (a := []) (b := [z12]) (c := []) (d := []) (if_pos ((own_v hz10).2 hb32)) (if_neg ((own_v hz12).1 hb48)) (if_pos ((own_v hz14).2 hb50)) (if_pos ((own_v hz16).2 hb54))) rfl (own_pick1 rfl rfl))
                    · refine hp (fun tq kq => XS.ifYes X22.here hx rfl (pc0 := 167) (pc' := 180) rfl (hb hby at_167) rfl ((if0 _ _).trans (feq hb48).2) (by decide) (by decide) kq) ?_
                      show G T22 (mkF m 180 #[.val (.int p0), .val (.int p1), .val (.int p2), .val (.int p3), .val (.int p4), .val (.int z2), .val (.int z4), .val (.int z6), .val (.int z8), .val (.int z10), .val (.int z12), .val (.int z14), .val (.int z16), .val (.ref b17), .val (.ref b22), .val (.int (0 : Int32)), .unset] [])
                      refine hp (fun tq kq => XS.iload X22.here hx rfl (hb hby at_180) rfl kq) ?_
                      show G T22 (mkF m 182 #[.val (.int p0), .val (.int p1), .val (.int p2), .val (.int p3), .val (.int p4), .val (.int z2), .val (.int z4), .val (.int z6), .val (.int z8), .val (.int z10), .val (.int z12), .val (.int z14), .val (.int z16), .val (.ref b17), .val (.ref b22), .val (.int (0 : Int32)), .unset] [(.int z6)])
                      by_cases hb56 : z6 = (0 : Int32)
                      · refine hp (fun tq kq => XS.ifNo X22.here hx rfl (hb hby at_182) rfl ((if0 _ _).trans (teq hb56).2) kq) ?_
                        show G T22 (mkF m 185 #[.val (.int p0), .val (.int p1), .val (.int p2), .val (.int p3), .val (.int p4), .val (.int z2), .val (.int z4), .val (.int z6), .val (.int z8), .val (.int z10), .val (.int z12), .val (.int z14), .val (.int z16), .val (.ref b17), .val (.ref b22), .val (.int (0 : Int32)), .unset] [])
                        refine hp (fun tq kq => XS.aload X22.here hx rfl (hb hby at_185) rfl rfl kq) ?_
                        show G T22 (mkF m 187 #[.val (.int p0), .val (.int p1), .val (.int p2), .val (.int p3), .val (.int p4), .val (.int z2), .val (.int z4), .val (.int z6), .val (.int z8), .val (.int z10), .val (.int z12), .val (.int z14), .val (.int z16), .val (.ref b17), .val (.ref b22), .val (.int (0 : Int32)), .unset] [(.ref b22)])
                        refine hp (fun tq kq => XS.iload X22.here hx rfl (hb hby at_187) rfl kq) ?_
                        show G T22 (mkF m 189 #[.val (.int p0), .val (.int p1), .val (.int p2), .val (.int p3), .val (.int p4), .val (.int z2), .val (.int z4), .val (.int z6), .val (.int z8), .val (.int z10), .val (.int z12), .val (.int z14), .val (.int z16), .val (.ref b17), .val (.ref b22), .val (.int (0 : Int32)), .unset] [(.int (0 : Int32)), (.ref b22)])
                        refine hp (fun tq kq => XS.iload X22.here hx rfl (hb hby at_189) rfl kq) ?_
                        show G T22 (mkF m 191 #[.val (.int p0), .val (.int p1), .val (.int p2), .val (.int p3), .val (.int p4), .val (.int z2), .val (.int z4), .val (.int z6), .val (.int z8), .val (.int z10), .val (.int z12), .val (.int z14), .val (.int z16), .val (.ref b17), .val (.ref b22), .val (.int (0 : Int32)), .unset] [(.int z14), (.int (0 : Int32)), (.ref b22)])
                        obtain ⟨T57, h57, X57, e57, W57, V57_b22, st57⟩ := own_stI X22 hx hZ e22 V22_b22 (j := (0 : Int32)) 0 (by decide) (by decide) (by decide) (g := (mkF m 191 #[.val (.int p0), .val (.int p1), .val (.int p2), .val (.int p3), .val (.int p4), .val (.int z2), .val (.int z4), .val (.int z6), .val (.int z8), .val (.int z10), .val (.int z12), .val (.int z14), .val (.int z16), .val (.ref b17), .val (.ref b22), .val (.int (0 : Int32)), .unset] [(.int z14), (.int (0 : Int32)), (.ref b22)])) rfl rfl (hb hby at_191)
                        have V57_b17 := V22_b17.other W57 ne22_b17
                        have K57 := K22.wr W57 (Or.inr sz_b22)
                        have N57 := Fr.snoc X57 N21 g_b22
                        refine hp st57 ?_
                        show G T57 (mkF m 192 #[.val (.int p0), .val (.int p1), .val (.int p2), .val (.int p3), .val (.int p4), .val (.int z2), .val (.int z4), .val (.int z6), .val (.int z8), .val (.int z10), .val (.int z12), .val (.int z14), .val (.int z16), .val (.ref b17), .val (.ref b22), .val (.int (0 : Int32)), .unset] [])
                        refine hp (fun tq kq => XS.iinc X57.here hx rfl (hb hby at_192) rfl (l' := #[.val (.int p0), .val (.int p1), .val (.int p2), .val (.int p3), .val (.int p4), .val (.int z2), .val (.int z4), .val (.int z6), .val (.int z8), .val (.int z10), .val (.int z12), .val (.int z14), .val (.int z16), .val (.ref b17), .val (.ref b22), .val (.int (1 : Int32)), .unset]) rfl kq) ?_
                        show G T57 (mkF m 195 #[.val (.int p0), .val (.int p1), .val (.int p2), .val (.int p3), .val (.int p4), .val (.int z2), .val (.int z4), .val (.int z6), .val (.int z8), .val (.int z10), .val (.int z12), .val (.int z14), .val (.int z16), .val (.ref b17), .val (.ref b22), .val (.int (1 : Int32)), .unset] [])
                        refine hp (fun tq kq => XS.iload X57.here hx rfl (hb hby at_195) rfl kq) ?_
                        show G T57 (mkF m 197 #[.val (.int p0), .val (.int p1), .val (.int p2), .val (.int p3), .val (.int p4), .val (.int z2), .val (.int z4), .val (.int z6), .val (.int z8), .val (.int z10), .val (.int z12), .val (.int z14), .val (.int z16), .val (.ref b17), .val (.ref b22), .val (.int (1 : Int32)), .unset] [(.int z8)])
                        by_cases hb58 : z8 = (0 : Int32)
                        · refine hp (fun tq kq => XS.ifNo X57.here hx rfl (hb hby at_197) rfl ((if0 _ _).trans (teq hb58).2) kq) ?_
                          show G T57 (mkF m 200 #[.val (.int p0), .val (.int p1), .val (.int p2), .val (.int p3), .val (.int p4), .val (.int z2), .val (.int z4), .val (.int z6), .val (.int z8), .val (.int z10), .val (.int z12), .val (.int z14), .val (.int z16), .val (.ref b17), .val (.ref b22), .val (.int (1 : Int32)), .unset] [])
                          refine hp (fun tq kq => XS.aload X57.here hx rfl (hb hby at_200) rfl rfl kq) ?_
                          show G T57 (mkF m 202 #[.val (.int p0), .val (.int p1), .val (.int p2), .val (.int p3), .val (.int p4), .val (.int z2), .val (.int z4), .val (.int z6), .val (.int z8), .val (.int z10), .val (.int z12), .val (.int z14), .val (.int z16), .val (.ref b17), .val (.ref b22), .val (.int (1 : Int32)), .unset] [(.ref b22)])
                          refine hp (fun tq kq => XS.iload X57.here hx rfl (hb hby at_202) rfl kq) ?_
                          show G T57 (mkF m 204 #[.val (.int p0), .val (.int p1), .val (.int p2), .val (.int p3), .val (.int p4), .val (.int z2), .val (.int z4), .val (.int z6), .val (.int z8), .val (.int z10), .val (.int z12), .val (.int z14), .val (.int z16), .val (.ref b17), .val (.ref b22), .val (.int (1 : Int32)), .unset] [(.int (1 : Int32)), (.ref b22)])
                          refine hp (fun tq kq => XS.iload X57.here hx rfl (hb hby at_204) rfl kq) ?_
                          show G T57 (mkF m 206 #[.val (.int p0), .val (.int p1), .val (.int p2), .val (.int p3), .val (.int p4), .val (.int z2), .val (.int z4), .val (.int z6), .val (.int z8), .val (.int z10), .val (.int z12), .val (.int z14), .val (.int z16), .val (.ref b17), .val (.ref b22), .val (.int (1 : Int32)), .unset] [(.int z16), (.int (1 : Int32)), (.ref b22)])
                          obtain ⟨T59, h59, X59, e59, W59, V59_b22, st59⟩ := own_stI X57 hx hZ e57 V57_b22 (j := (1 : Int32)) 1 (by decide) (by decide) (by decide) (g := (mkF m 206 #[.val (.int p0), .val (.int p1), .val (.int p2), .val (.int p3), .val (.int p4), .val (.int z2), .val (.int z4), .val (.int z6), .val (.int z8), .val (.int z10), .val (.int z12), .val (.int z14), .val (.int z16), .val (.ref b17), .val (.ref b22), .val (.int (1 : Int32)), .unset] [(.int z16), (.int (1 : Int32)), (.ref b22)])) rfl rfl (hb hby at_206)
                          have V59_b17 := V57_b17.other W59 ne22_b17
                          have K59 := K57.wr W59 (Or.inr sz_b22)
                          have N59 := Fr.snoc X59 N57 g_b22
                          refine hp st59 ?_
                          show G T59 (mkF m 207 #[.val (.int p0), .val (.int p1), .val (.int p2), .val (.int p3), .val (.int p4), .val (.int z2), .val (.int z4), .val (.int z6), .val (.int z8), .val (.int z10), .val (.int z12), .val (.int z14), .val (.int z16), .val (.ref b17), .val (.ref b22), .val (.int (1 : Int32)), .unset] [])
                          refine hp (fun tq kq => XS.iinc X59.here hx rfl (hb hby at_207) rfl (l' := #[.val (.int p0), .val (.int p1), .val (.int p2), .val (.int p3), .val (.int p4), .val (.int z2), .val (.int z4), .val (.int z6), .val (.int z8), .val (.int z10), .val (.int z12), .val (.int z14), .val (.int z16), .val (.ref b17), .val (.ref b22), .val (.int (2 : Int32)), .unset]) rfl kq) ?_
                          show G T59 (mkF m 210 #[.val (.int p0), .val (.int p1), .val (.int p2), .val (.int p3), .val (.int p4), .val (.int z2), .val (.int z4), .val (.int z6), .val (.int z8), .val (.int z10), .val (.int z12), .val (.int z14), .val (.int z16), .val (.ref b17), .val (.ref b22), .val (.int (2 : Int32)), .unset] [])
                          exact j210 T59 _ _ _ _ 2 X59 e59 K59 N59 V59_b17 V59_b22 (by decide) (own_seld (l := [z14, z16]) (own_sel_of (a := []) (b := []) (c := [z14]) (d := [z16]) (if_pos ((own_v hz10).2 hb32)) (if_pos ((own_v hz12).2 hb48)) (if_neg ((own_v hz14).1 hb56)) (if_neg ((own_v hz16).1 hb58))) rfl (own_pick2 rfl rfl rfl))
                        · refine hp (fun tq kq => XS.ifYes X57.here hx rfl (pc0 := 197) (pc' := 210) rfl (hb hby at_197) rfl ((if0 _ _).trans (feq hb58).2) (by decide) (by decide) kq) ?_
                          show G T57 (mkF m 210 #[.val (.int p0), .val (.int p1), .val (.int p2), .val (.int p3), .val (.int p4), .val (.int z2), .val (.int z4), .val (.int z6), .val (.int z8), .val (.int z10), .val (.int z12), .val (.int z14), .val (.int z16), .val (.ref b17), .val (.ref b22), .val (.int (1 : Int32)), .unset] [])
                          exact j210 T57 _ _ _ _ 1 X57 e57 K57 N57 V57_b17 V57_b22 (by decide) (own_seld (l := [z14]) (own_sel_of (a := []) (b := []) (c := [z14]) (d := []) (if_pos ((own_v hz10).2 hb32)) (if_pos ((own_v hz12).2 hb48)) (if_neg ((own_v hz14).1 hb56)) (if_pos ((own_v hz16).2 hb58))) rfl (own_pick1 rfl rfl))
                      · refine hp (fun tq kq => XS.ifYes X22.here hx rfl (pc0 := 182) (pc' := 195) rfl (hb hby at_182) rfl ((if0 _ _).trans (feq hb56).2) (by decide) (by decide) kq) ?_
                        show G T22 (mkF m 195 #[.val (.int p0), .val (.int p1), .val (.int p2), .val (.int p3), .val (.int p4), .val (.int z2), .val (.int z4), .val (.int z6), .val (.int z8), .val (.int z10), .val (.int z12), .val (.int z14), .val (.int z16), .val (.ref b17), .val (.ref b22), .val (.int (0 : Int32)), .unset] [])
                        refine hp (fun tq kq => XS.iload X22.here hx rfl (hb hby at_195) rfl kq) ?_
                        show G T22 (mkF m 197 #[.val (.int p0), .val (.int p1), .val (.int p2), .val (.int p3), .val (.int p4), .val (.int z2), .val (.int z4), .val (.int z6), .val (.int z8), .val (.int z10), .val (.int z12), .val (.int z14), .val (.int z16), .val (.ref b17), .val (.ref b22), .val (.int (0 : Int32)), .unset] [(.int z8)])
                        by_cases hb60 : z8 = (0 : Int32)
                        · refine hp (fun tq kq => XS.ifNo X22.here hx rfl (hb hby at_197) rfl ((if0 _ _).trans (teq hb60).2) kq) ?_
                          show G T22 (mkF m 200 #[.val (.int p0), .val (.int p1), .val (.int p2), .val (.int p3), .val (.int p4), .val (.int z2), .val (.int z4), .val (.int z6), .val (.int z8), .val (.int z10), .val (.int z12), .val (.int z14), .val (.int z16), .val (.ref b17), .val (.ref b22), .val (.int (0 : Int32)), .unset] [])
                          refine hp (fun tq kq => XS.aload X22.here hx rfl (hb hby at_200) rfl rfl kq) ?_
                          show G T22 (mkF m 202 #[.val (.int p0), .val (.int p1), .val (.int p2), .val (.int p3), .val (.int p4), .val (.int z2), .val (.int z4), .val (.int z6), .val (.int z8), .val (.int z10), .val (.int z12), .val (.int z14), .val (.int z16), .val (.ref b17), .val (.ref b22), .val (.int (0 : Int32)), .unset] [(.ref b22)])
                          refine hp (fun tq kq => XS.iload X22.here hx rfl (hb hby at_202) rfl kq) ?_
                          show G T22 (mkF m 204 #[.val (.int p0), .val (.int p1), .val (.int p2), .val (.int p3), .val (.int p4), .val (.int z2), .val (.int z4), .val (.int z6), .val (.int z8), .val (.int z10), .val (.int z12), .val (.int z14), .val (.int z16), .val (.ref b17), .val (.ref b22), .val (.int (0 : Int32)), .unset] [(.int (0 : Int32)), (.ref b22)])
                          refine hp (fun tq kq => XS.iload X22.here hx rfl (hb hby at_204) rfl kq) ?_
                          show G T22 (mkF m 206 #[.val (.int p0), .val (.int p1), .val (.int p2), .val (.int p3), .val (.int p4), .val (.int z2), .val (.int z4), .val (.int z6), .val (.int z8), .val (.int z10), .val (.int z12), .val (.int z14), .val (.int z16), .val (.ref b17), .val (.ref b22), .val (.int (0 : Int32)), .unset] [(.int z16), (.int (0 : Int32)), (.ref b22)])
                          obtain ⟨T61, h61, X61, e61, W61, V61_b22, st61⟩ := own_stI X22 hx hZ e22 V22_b22 (j := (0 : Int32)) 0 (by decide) (by decide) (by decide) (g := (mkF m 206 #[.val (.int p0), .val (.int p1), .val (.int p2), .val (.int p3), .val (.int p4), .val (.int z2), .val (.int z4), .val (.int z6), .val (.int z8), .val (.int z10), .val (.int z12), .val (.int z14), .val (.int z16), .val (.ref b17), .val (.ref b22), .val (.int (0 : Int32)), .unset] [(.int z16), (.int (0 : Int32)), (.ref b22)])) rfl rfl (hb hby at_206)
                          have V61_b17 := V22_b17.other W61 ne22_b17
                          have K61 := K22.wr W61 (Or.inr sz_b22)
                          have N61 := Fr.snoc X61 N21 g_b22
                          refine hp st61 ?_
                          show G T61 (mkF m 207 #[.val (.int p0), .val (.int p1), .val (.int p2), .val (.int p3), .val (.int p4), .val (.int z2), .val (.int z4), .val (.int z6), .val (.int z8), .val (.int z10), .val (.int z12), .val (.int z14), .val (.int z16), .val (.ref b17), .val (.ref b22), .val (.int (0 : Int32)), .unset] [])
                          refine hp (fun tq kq => XS.iinc X61.here hx rfl (hb hby at_207) rfl (l' := #[.val (.int p0), .val (.int p1), .val (.int p2), .val (.int p3), .val (.int p4), .val (.int z2), .val (.int z4), .val (.int z6), .val (.int z8), .val (.int z10), .val (.int z12), .val (.int z14), .val (.int z16), .val (.ref b17), .val (.ref b22), .val (.int (1 : Int32)), .unset]) rfl kq) ?_
                          show G T61 (mkF m 210 #[.val (.int p0), .val (.int p1), .val (.int p2), .val (.int p3), .val (.int p4), .val (.int z2), .val (.int z4), .val (.int z6), .val (.int z8), .val (.int z10), .val (.int z12), .val (.int z14), .val (.int z16), .val (.ref b17), .val (.ref b22), .val (.int (1 : Int32)), .unset] [])
                          exact j210 T61 _ _ _ _ 1 X61 e61 K61 N61 V61_b17 V61_b22 (by decide) (own_seld (l := [z16]) (own_sel_of (a := []) (b := []) (c := []) (d := [z16]) (if_pos ((own_v hz10).2 hb32)) (if_pos ((own_v hz12).2 hb48)) (if_pos ((own_v hz14).2 hb56)) (if_neg ((own_v hz16).1 hb60))) rfl (own_pick1 rfl rfl))
                        · refine hp (fun tq kq => XS.ifYes X22.here hx rfl (pc0 := 197) (pc' := 210) rfl (hb hby at_197) rfl ((if0 _ _).trans (feq hb60).2) (by decide) (by decide) kq) ?_
                          show G T22 (mkF m 210 #[.val (.int p0), .val (.int p1), .val (.int p2), .val (.int p3), .val (.int p4), .val (.int z2), .val (.int z4), .val (.int z6), .val (.int z8), .val (.int z10), .val (.int z12), .val (.int z14), .val (.int z16), .val (.ref b17), .val (.ref b22), .val (.int (0 : Int32)), .unset] [])
                          exact j210 T22 _ _ _ _ 0 X22 e22 K22 N21 V22_b17 V22_b22 (by decide) (own_seld (l := []) (own_sel_of (a := []) (b := []) (c := []) (d := []) (if_pos ((own_v hz10).2 hb32)) (if_pos ((own_v hz12).2 hb48)) (if_pos ((own_v hz14).2 hb56)) (if_pos ((own_v hz16).2 hb60))) rfl (own_pick0 rfl))
                by_cases hb62 : z8 = (0 : Int32)
                · refine hp (fun tq kq => XS.ifYes X0.here hx rfl (pc0 := 104) (pc' := 111) rfl (hb hby at_104) rfl ((if0 _ _).trans (teq hb62).1) (by decide) (by decide) kq) ?_
                  show G s₁ (mkF m 111 #[.val (.int p0), .val (.int p1), .val (.int p2), .val (.int p3), .val (.int p4), .val (.int z2), .val (.int z4), .val (.int z6), .val (.int z8), .val (.int z10), .val (.int z12), .val (.int z14), .unset, .unset, .unset, .unset, .unset] [])
                  refine hp (fun tq kq => XS.iloadN X0.here hx rfl (hb hby at_111) rfl kq) ?_
                  show G s₁ (mkF m 112 #[.val (.int p0), .val (.int p1), .val (.int p2), .val (.int p3), .val (.int p4), .val (.int z2), .val (.int z4), .val (.int z6), .val (.int z8), .val (.int z10), .val (.int z12), .val (.int z14), .unset, .unset, .unset, .unset, .unset] [(.int p3)])
                  refine hp (fun tq kq => X0.ldcInt hx hown (mvT hZ (hw _ (List.mem_of_getElem? (i := 0) rfl))) (g := (mkF m 112 #[.val (.int p0), .val (.int p1), .val (.int p2), .val (.int p3), .val (.int p4), .val (.int z2), .val (.int z4), .val (.int z6), .val (.int z8), .val (.int z10), .val (.int z12), .val (.int z14), .unset, .unset, .unset, .unset, .unset] [(.int p3)])) rfl (hb hby at_112) _ kq) ?_
                  show G s₁ (mkF m 114 #[.val (.int p0), .val (.int p1), .val (.int p2), .val (.int p3), .val (.int p4), .val (.int z2), .val (.int z4), .val (.int z6), .val (.int z8), .val (.int z10), .val (.int z12), .val (.int z14), .unset, .unset, .unset, .unset, .unset] [(.int (2147483647 : Int32)), (.int p3)])
                  refine hp (fun tq kq => XS.iand X0.here hx rfl (hb hby at_114) rfl kq) ?_
                  show G s₁ (mkF m 115 #[.val (.int p0), .val (.int p1), .val (.int p2), .val (.int p3), .val (.int p4), .val (.int z2), .val (.int z4), .val (.int z6), .val (.int z8), .val (.int z10), .val (.int z12), .val (.int z14), .unset, .unset, .unset, .unset, .unset] [(.int (p3 &&& (2147483647 : Int32)))])
                  exact j15 _ ((if_pos hb62)).symm
                · refine hp (fun tq kq => XS.ifNo X0.here hx rfl (hb hby at_104) rfl ((if0 _ _).trans (feq hb62).1) kq) ?_
                  show G s₁ (mkF m 107 #[.val (.int p0), .val (.int p1), .val (.int p2), .val (.int p3), .val (.int p4), .val (.int z2), .val (.int z4), .val (.int z6), .val (.int z8), .val (.int z10), .val (.int z12), .val (.int z14), .unset, .unset, .unset, .unset, .unset] [])
                  refine hp (fun tq kq => XS.iconst X0.here hx rfl (hb hby at_107) kq) ?_
                  show G s₁ (mkF m 108 #[.val (.int p0), .val (.int p1), .val (.int p2), .val (.int p3), .val (.int p4), .val (.int z2), .val (.int z4), .val (.int z6), .val (.int z8), .val (.int z10), .val (.int z12), .val (.int z14), .unset, .unset, .unset, .unset, .unset] [(.int (-1 : Int32))])
                  refine hp (fun tq kq => XS.goto X0.here hx rfl (pc0 := 108) (pc' := 115) rfl (hb hby at_108) (by decide) (by decide) kq) ?_
                  show G s₁ (mkF m 115 #[.val (.int p0), .val (.int p1), .val (.int p2), .val (.int p3), .val (.int p4), .val (.int z2), .val (.int z4), .val (.int z6), .val (.int z8), .val (.int z10), .val (.int z12), .val (.int z14), .unset, .unset, .unset, .unset, .unset] [(.int (-1 : Int32))])
                  exact j15 _ ((if_neg hb62)).symm
              by_cases hb63 : z6 = (0 : Int32)
              · refine hp (fun tq kq => XS.ifYes X0.here hx rfl (pc0 := 89) (pc' := 96) rfl (hb hby at_89) rfl ((if0 _ _).trans (teq hb63).1) (by decide) (by decide) kq) ?_
                show G s₁ (mkF m 96 #[.val (.int p0), .val (.int p1), .val (.int p2), .val (.int p3), .val (.int p4), .val (.int z2), .val (.int z4), .val (.int z6), .val (.int z8), .val (.int z10), .val (.int z12), .unset, .unset, .unset, .unset, .unset, .unset] [])
                refine hp (fun tq kq => XS.iloadN X0.here hx rfl (hb hby at_96) rfl kq) ?_
                show G s₁ (mkF m 97 #[.val (.int p0), .val (.int p1), .val (.int p2), .val (.int p3), .val (.int p4), .val (.int z2), .val (.int z4), .val (.int z6), .val (.int z8), .val (.int z10), .val (.int z12), .unset, .unset, .unset, .unset, .unset, .unset] [(.int p2)])
                refine hp (fun tq kq => X0.ldcInt hx hown (mvT hZ (hw _ (List.mem_of_getElem? (i := 0) rfl))) (g := (mkF m 97 #[.val (.int p0), .val (.int p1), .val (.int p2), .val (.int p3), .val (.int p4), .val (.int z2), .val (.int z4), .val (.int z6), .val (.int z8), .val (.int z10), .val (.int z12), .unset, .unset, .unset, .unset, .unset, .unset] [(.int p2)])) rfl (hb hby at_97) _ kq) ?_
                show G s₁ (mkF m 99 #[.val (.int p0), .val (.int p1), .val (.int p2), .val (.int p3), .val (.int p4), .val (.int z2), .val (.int z4), .val (.int z6), .val (.int z8), .val (.int z10), .val (.int z12), .unset, .unset, .unset, .unset, .unset, .unset] [(.int (2147483647 : Int32)), (.int p2)])
                refine hp (fun tq kq => XS.iand X0.here hx rfl (hb hby at_99) rfl kq) ?_
                show G s₁ (mkF m 100 #[.val (.int p0), .val (.int p1), .val (.int p2), .val (.int p3), .val (.int p4), .val (.int z2), .val (.int z4), .val (.int z6), .val (.int z8), .val (.int z10), .val (.int z12), .unset, .unset, .unset, .unset, .unset, .unset] [(.int (p2 &&& (2147483647 : Int32)))])
                exact j13 _ ((if_pos hb63)).symm
              · refine hp (fun tq kq => XS.ifNo X0.here hx rfl (hb hby at_89) rfl ((if0 _ _).trans (feq hb63).1) kq) ?_
                show G s₁ (mkF m 92 #[.val (.int p0), .val (.int p1), .val (.int p2), .val (.int p3), .val (.int p4), .val (.int z2), .val (.int z4), .val (.int z6), .val (.int z8), .val (.int z10), .val (.int z12), .unset, .unset, .unset, .unset, .unset, .unset] [])
                refine hp (fun tq kq => XS.iconst X0.here hx rfl (hb hby at_92) kq) ?_
                show G s₁ (mkF m 93 #[.val (.int p0), .val (.int p1), .val (.int p2), .val (.int p3), .val (.int p4), .val (.int z2), .val (.int z4), .val (.int z6), .val (.int z8), .val (.int z10), .val (.int z12), .unset, .unset, .unset, .unset, .unset, .unset] [(.int (-1 : Int32))])
                refine hp (fun tq kq => XS.goto X0.here hx rfl (pc0 := 93) (pc' := 100) rfl (hb hby at_93) (by decide) (by decide) kq) ?_
                show G s₁ (mkF m 100 #[.val (.int p0), .val (.int p1), .val (.int p2), .val (.int p3), .val (.int p4), .val (.int z2), .val (.int z4), .val (.int z6), .val (.int z8), .val (.int z10), .val (.int z12), .unset, .unset, .unset, .unset, .unset, .unset] [(.int (-1 : Int32))])
                exact j13 _ ((if_neg hb63)).symm
            by_cases hb64 : z4 = (0 : Int32)
            · refine hp (fun tq kq => XS.ifYes X0.here hx rfl (pc0 := 74) (pc' := 81) rfl (hb hby at_74) rfl ((if0 _ _).trans (teq hb64).1) (by decide) (by decide) kq) ?_
              show G s₁ (mkF m 81 #[.val (.int p0), .val (.int p1), .val (.int p2), .val (.int p3), .val (.int p4), .val (.int z2), .val (.int z4), .val (.int z6), .val (.int z8), .val (.int z10), .unset, .unset, .unset, .unset, .unset, .unset, .unset] [])
              refine hp (fun tq kq => XS.iloadN X0.here hx rfl (hb hby at_81) rfl kq) ?_
              show G s₁ (mkF m 82 #[.val (.int p0), .val (.int p1), .val (.int p2), .val (.int p3), .val (.int p4), .val (.int z2), .val (.int z4), .val (.int z6), .val (.int z8), .val (.int z10), .unset, .unset, .unset, .unset, .unset, .unset, .unset] [(.int p1)])
              refine hp (fun tq kq => X0.ldcInt hx hown (mvT hZ (hw _ (List.mem_of_getElem? (i := 0) rfl))) (g := (mkF m 82 #[.val (.int p0), .val (.int p1), .val (.int p2), .val (.int p3), .val (.int p4), .val (.int z2), .val (.int z4), .val (.int z6), .val (.int z8), .val (.int z10), .unset, .unset, .unset, .unset, .unset, .unset, .unset] [(.int p1)])) rfl (hb hby at_82) _ kq) ?_
              show G s₁ (mkF m 84 #[.val (.int p0), .val (.int p1), .val (.int p2), .val (.int p3), .val (.int p4), .val (.int z2), .val (.int z4), .val (.int z6), .val (.int z8), .val (.int z10), .unset, .unset, .unset, .unset, .unset, .unset, .unset] [(.int (2147483647 : Int32)), (.int p1)])
              refine hp (fun tq kq => XS.iand X0.here hx rfl (hb hby at_84) rfl kq) ?_
              show G s₁ (mkF m 85 #[.val (.int p0), .val (.int p1), .val (.int p2), .val (.int p3), .val (.int p4), .val (.int z2), .val (.int z4), .val (.int z6), .val (.int z8), .val (.int z10), .unset, .unset, .unset, .unset, .unset, .unset, .unset] [(.int (p1 &&& (2147483647 : Int32)))])
              exact j11 _ ((if_pos hb64)).symm
            · refine hp (fun tq kq => XS.ifNo X0.here hx rfl (hb hby at_74) rfl ((if0 _ _).trans (feq hb64).1) kq) ?_
              show G s₁ (mkF m 77 #[.val (.int p0), .val (.int p1), .val (.int p2), .val (.int p3), .val (.int p4), .val (.int z2), .val (.int z4), .val (.int z6), .val (.int z8), .val (.int z10), .unset, .unset, .unset, .unset, .unset, .unset, .unset] [])
              refine hp (fun tq kq => XS.iconst X0.here hx rfl (hb hby at_77) kq) ?_
              show G s₁ (mkF m 78 #[.val (.int p0), .val (.int p1), .val (.int p2), .val (.int p3), .val (.int p4), .val (.int z2), .val (.int z4), .val (.int z6), .val (.int z8), .val (.int z10), .unset, .unset, .unset, .unset, .unset, .unset, .unset] [(.int (-1 : Int32))])
              refine hp (fun tq kq => XS.goto X0.here hx rfl (pc0 := 78) (pc' := 85) rfl (hb hby at_78) (by decide) (by decide) kq) ?_
              show G s₁ (mkF m 85 #[.val (.int p0), .val (.int p1), .val (.int p2), .val (.int p3), .val (.int p4), .val (.int z2), .val (.int z4), .val (.int z6), .val (.int z8), .val (.int z10), .unset, .unset, .unset, .unset, .unset, .unset, .unset] [(.int (-1 : Int32))])
              exact j11 _ ((if_neg hb64)).symm
          by_cases hb65 : z2 = (0 : Int32)
          · refine hp (fun tq kq => XS.ifYes X0.here hx rfl (pc0 := 59) (pc' := 66) rfl (hb hby at_59) rfl ((if0 _ _).trans (teq hb65).1) (by decide) (by decide) kq) ?_
            show G s₁ (mkF m 66 #[.val (.int p0), .val (.int p1), .val (.int p2), .val (.int p3), .val (.int p4), .val (.int z2), .val (.int z4), .val (.int z6), .val (.int z8), .unset, .unset, .unset, .unset, .unset, .unset, .unset, .unset] [])
            refine hp (fun tq kq => XS.iloadN X0.here hx rfl (hb hby at_66) rfl kq) ?_
            show G s₁ (mkF m 67 #[.val (.int p0), .val (.int p1), .val (.int p2), .val (.int p3), .val (.int p4), .val (.int z2), .val (.int z4), .val (.int z6), .val (.int z8), .unset, .unset, .unset, .unset, .unset, .unset, .unset, .unset] [(.int p0)])
            refine hp (fun tq kq => X0.ldcInt hx hown (mvT hZ (hw _ (List.mem_of_getElem? (i := 0) rfl))) (g := (mkF m 67 #[.val (.int p0), .val (.int p1), .val (.int p2), .val (.int p3), .val (.int p4), .val (.int z2), .val (.int z4), .val (.int z6), .val (.int z8), .unset, .unset, .unset, .unset, .unset, .unset, .unset, .unset] [(.int p0)])) rfl (hb hby at_67) _ kq) ?_
            show G s₁ (mkF m 69 #[.val (.int p0), .val (.int p1), .val (.int p2), .val (.int p3), .val (.int p4), .val (.int z2), .val (.int z4), .val (.int z6), .val (.int z8), .unset, .unset, .unset, .unset, .unset, .unset, .unset, .unset] [(.int (2147483647 : Int32)), (.int p0)])
            refine hp (fun tq kq => XS.iand X0.here hx rfl (hb hby at_69) rfl kq) ?_
            show G s₁ (mkF m 70 #[.val (.int p0), .val (.int p1), .val (.int p2), .val (.int p3), .val (.int p4), .val (.int z2), .val (.int z4), .val (.int z6), .val (.int z8), .unset, .unset, .unset, .unset, .unset, .unset, .unset, .unset] [(.int (p0 &&& (2147483647 : Int32)))])
            exact j9 _ ((if_pos hb65)).symm
          · refine hp (fun tq kq => XS.ifNo X0.here hx rfl (hb hby at_59) rfl ((if0 _ _).trans (feq hb65).1) kq) ?_
            show G s₁ (mkF m 62 #[.val (.int p0), .val (.int p1), .val (.int p2), .val (.int p3), .val (.int p4), .val (.int z2), .val (.int z4), .val (.int z6), .val (.int z8), .unset, .unset, .unset, .unset, .unset, .unset, .unset, .unset] [])
            refine hp (fun tq kq => XS.iconst X0.here hx rfl (hb hby at_62) kq) ?_
            show G s₁ (mkF m 63 #[.val (.int p0), .val (.int p1), .val (.int p2), .val (.int p3), .val (.int p4), .val (.int z2), .val (.int z4), .val (.int z6), .val (.int z8), .unset, .unset, .unset, .unset, .unset, .unset, .unset, .unset] [(.int (-1 : Int32))])
            refine hp (fun tq kq => XS.goto X0.here hx rfl (pc0 := 63) (pc' := 70) rfl (hb hby at_63) (by decide) (by decide) kq) ?_
            show G s₁ (mkF m 70 #[.val (.int p0), .val (.int p1), .val (.int p2), .val (.int p3), .val (.int p4), .val (.int z2), .val (.int z4), .val (.int z6), .val (.int z8), .unset, .unset, .unset, .unset, .unset, .unset, .unset, .unset] [(.int (-1 : Int32))])
            exact j9 _ ((if_neg hb65)).symm
        by_cases hb66 : (p4 &&& (8 : Int32)) = (0 : Int32)
        · refine hp (fun tq kq => XS.ifYes X0.here hx rfl (pc0 := 47) (pc' := 54) rfl (hb hby at_47) rfl ((if0 _ _).trans (teq hb66).1) (by decide) (by decide) kq) ?_
          show G s₁ (mkF m 54 #[.val (.int p0), .val (.int p1), .val (.int p2), .val (.int p3), .val (.int p4), .val (.int z2), .val (.int z4), .val (.int z6), .unset, .unset, .unset, .unset, .unset, .unset, .unset, .unset, .unset] [])
          refine hp (fun tq kq => XS.iconst X0.here hx rfl (hb hby at_54) kq) ?_
          show G s₁ (mkF m 55 #[.val (.int p0), .val (.int p1), .val (.int p2), .val (.int p3), .val (.int p4), .val (.int z2), .val (.int z4), .val (.int z6), .unset, .unset, .unset, .unset, .unset, .unset, .unset, .unset, .unset] [(.int (0 : Int32))])
          exact j7 _ ((if_pos hb66)).symm
        · refine hp (fun tq kq => XS.ifNo X0.here hx rfl (hb hby at_47) rfl ((if0 _ _).trans (feq hb66).1) kq) ?_
          show G s₁ (mkF m 50 #[.val (.int p0), .val (.int p1), .val (.int p2), .val (.int p3), .val (.int p4), .val (.int z2), .val (.int z4), .val (.int z6), .unset, .unset, .unset, .unset, .unset, .unset, .unset, .unset, .unset] [])
          refine hp (fun tq kq => XS.iconst X0.here hx rfl (hb hby at_50) kq) ?_
          show G s₁ (mkF m 51 #[.val (.int p0), .val (.int p1), .val (.int p2), .val (.int p3), .val (.int p4), .val (.int z2), .val (.int z4), .val (.int z6), .unset, .unset, .unset, .unset, .unset, .unset, .unset, .unset, .unset] [(.int (1 : Int32))])
          refine hp (fun tq kq => XS.goto X0.here hx rfl (pc0 := 51) (pc' := 55) rfl (hb hby at_51) (by decide) (by decide) kq) ?_
          show G s₁ (mkF m 55 #[.val (.int p0), .val (.int p1), .val (.int p2), .val (.int p3), .val (.int p4), .val (.int z2), .val (.int z4), .val (.int z6), .unset, .unset, .unset, .unset, .unset, .unset, .unset, .unset, .unset] [(.int (1 : Int32))])
          exact j7 _ ((if_neg hb66)).symm
      by_cases hb67 : (p4 &&& (4 : Int32)) = (0 : Int32)
      · refine hp (fun tq kq => XS.ifYes X0.here hx rfl (pc0 := 32) (pc' := 39) rfl (hb hby at_32) rfl ((if0 _ _).trans (teq hb67).1) (by decide) (by decide) kq) ?_
        show G s₁ (mkF m 39 #[.val (.int p0), .val (.int p1), .val (.int p2), .val (.int p3), .val (.int p4), .val (.int z2), .val (.int z4), .unset, .unset, .unset, .unset, .unset, .unset, .unset, .unset, .unset, .unset] [])
        refine hp (fun tq kq => XS.iconst X0.here hx rfl (hb hby at_39) kq) ?_
        show G s₁ (mkF m 40 #[.val (.int p0), .val (.int p1), .val (.int p2), .val (.int p3), .val (.int p4), .val (.int z2), .val (.int z4), .unset, .unset, .unset, .unset, .unset, .unset, .unset, .unset, .unset, .unset] [(.int (0 : Int32))])
        exact j5 _ ((if_pos hb67)).symm
      · refine hp (fun tq kq => XS.ifNo X0.here hx rfl (hb hby at_32) rfl ((if0 _ _).trans (feq hb67).1) kq) ?_
        show G s₁ (mkF m 35 #[.val (.int p0), .val (.int p1), .val (.int p2), .val (.int p3), .val (.int p4), .val (.int z2), .val (.int z4), .unset, .unset, .unset, .unset, .unset, .unset, .unset, .unset, .unset, .unset] [])
        refine hp (fun tq kq => XS.iconst X0.here hx rfl (hb hby at_35) kq) ?_
        show G s₁ (mkF m 36 #[.val (.int p0), .val (.int p1), .val (.int p2), .val (.int p3), .val (.int p4), .val (.int z2), .val (.int z4), .unset, .unset, .unset, .unset, .unset, .unset, .unset, .unset, .unset, .unset] [(.int (1 : Int32))])
        refine hp (fun tq kq => XS.goto X0.here hx rfl (pc0 := 36) (pc' := 40) rfl (hb hby at_36) (by decide) (by decide) kq) ?_
        show G s₁ (mkF m 40 #[.val (.int p0), .val (.int p1), .val (.int p2), .val (.int p3), .val (.int p4), .val (.int z2), .val (.int z4), .unset, .unset, .unset, .unset, .unset, .unset, .unset, .unset, .unset, .unset] [(.int (1 : Int32))])
        exact j5 _ ((if_neg hb67)).symm
    by_cases hb68 : (p4 &&& (2 : Int32)) = (0 : Int32)
    · refine hp (fun tq kq => XS.ifYes X0.here hx rfl (pc0 := 18) (pc' := 25) rfl (hb hby at_18) rfl ((if0 _ _).trans (teq hb68).1) (by decide) (by decide) kq) ?_
      show G s₁ (mkF m 25 #[.val (.int p0), .val (.int p1), .val (.int p2), .val (.int p3), .val (.int p4), .val (.int z2), .unset, .unset, .unset, .unset, .unset, .unset, .unset, .unset, .unset, .unset, .unset] [])
      refine hp (fun tq kq => XS.iconst X0.here hx rfl (hb hby at_25) kq) ?_
      show G s₁ (mkF m 26 #[.val (.int p0), .val (.int p1), .val (.int p2), .val (.int p3), .val (.int p4), .val (.int z2), .unset, .unset, .unset, .unset, .unset, .unset, .unset, .unset, .unset, .unset, .unset] [(.int (0 : Int32))])
      exact j3 _ ((if_pos hb68)).symm
    · refine hp (fun tq kq => XS.ifNo X0.here hx rfl (hb hby at_18) rfl ((if0 _ _).trans (feq hb68).1) kq) ?_
      show G s₁ (mkF m 21 #[.val (.int p0), .val (.int p1), .val (.int p2), .val (.int p3), .val (.int p4), .val (.int z2), .unset, .unset, .unset, .unset, .unset, .unset, .unset, .unset, .unset, .unset, .unset] [])
      refine hp (fun tq kq => XS.iconst X0.here hx rfl (hb hby at_21) kq) ?_
      show G s₁ (mkF m 22 #[.val (.int p0), .val (.int p1), .val (.int p2), .val (.int p3), .val (.int p4), .val (.int z2), .unset, .unset, .unset, .unset, .unset, .unset, .unset, .unset, .unset, .unset, .unset] [(.int (1 : Int32))])
      refine hp (fun tq kq => XS.goto X0.here hx rfl (pc0 := 22) (pc' := 26) rfl (hb hby at_22) (by decide) (by decide) kq) ?_
      show G s₁ (mkF m 26 #[.val (.int p0), .val (.int p1), .val (.int p2), .val (.int p3), .val (.int p4), .val (.int z2), .unset, .unset, .unset, .unset, .unset, .unset, .unset, .unset, .unset, .unset, .unset] [(.int (1 : Int32))])
      exact j3 _ ((if_neg hb68)).symm
  by_cases hb69 : (p4 &&& (1 : Int32)) = (0 : Int32)
  · refine hp (fun tq kq => XS.ifYes X0.here hx rfl (pc0 := 4) (pc' := 11) rfl (hb hby at_4) rfl ((if0 _ _).trans (teq hb69).1) (by decide) (by decide) kq) ?_
    show G s₁ (mkF m 11 #[.val (.int p0), .val (.int p1), .val (.int p2), .val (.int p3), .val (.int p4), .unset, .unset, .unset, .unset, .unset, .unset, .unset, .unset, .unset, .unset, .unset, .unset] [])
    refine hp (fun tq kq => XS.iconst X0.here hx rfl (hb hby at_11) kq) ?_
    show G s₁ (mkF m 12 #[.val (.int p0), .val (.int p1), .val (.int p2), .val (.int p3), .val (.int p4), .unset, .unset, .unset, .unset, .unset, .unset, .unset, .unset, .unset, .unset, .unset, .unset] [(.int (0 : Int32))])
    exact j1 _ ((if_pos hb69)).symm
  · refine hp (fun tq kq => XS.ifNo X0.here hx rfl (hb hby at_4) rfl ((if0 _ _).trans (feq hb69).1) kq) ?_
    show G s₁ (mkF m 7 #[.val (.int p0), .val (.int p1), .val (.int p2), .val (.int p3), .val (.int p4), .unset, .unset, .unset, .unset, .unset, .unset, .unset, .unset, .unset, .unset, .unset, .unset] [])
    refine hp (fun tq kq => XS.iconst X0.here hx rfl (hb hby at_7) kq) ?_
    show G s₁ (mkF m 8 #[.val (.int p0), .val (.int p1), .val (.int p2), .val (.int p3), .val (.int p4), .unset, .unset, .unset, .unset, .unset, .unset, .unset, .unset, .unset, .unset, .unset, .unset] [(.int (1 : Int32))])
    refine hp (fun tq kq => XS.goto X0.here hx rfl (pc0 := 8) (pc' := 12) rfl (hb hby at_8) (by decide) (by decide) kq) ?_
    show G s₁ (mkF m 12 #[.val (.int p0), .val (.int p1), .val (.int p2), .val (.int p3), .val (.int p4), .unset, .unset, .unset, .unset, .unset, .unset, .unset, .unset, .unset, .unset, .unset, .unset] [(.int (1 : Int32))])
    exact j1 _ ((if_neg hb69)).symm
set_option maxRecDepth 65536 in
set_option maxHeartbeats 40000000 in
theorem comes_1 {Post : Tables → Env → Array Value → State → Outcome → State → Prop} (hpost : ∀ tb e args s v u, (limb_1_1.after args s (.returned v) u = true ∧ limb_1_2.after args s (.returned v) u = true ∧ True) → FrameEnd s (.returned v) u (Jvm.fieldLocs frame_1_writes args s ++ Jvm.arrayLocs frame_1_arrays args s ++ Jvm.staticLocs frame_1_statics s) 16 128 → Post tb e args s (.returned v) u) :
    ArmFor flags0 classFile x code maxLocals ret World_1 tables_1 room_1 Calls_1 rest_1 Pre_1 Post := by
  intro l hfl _ _ p e ha hc hk s m args below hf hA hF happ hP
  obtain ⟨hcalls, hrest, hpre⟩ := hP
  obtain ⟨-, -, -, hnamed, -, -, -, hat⟩ := (Spec.applies_iff hf).mp happ
  obtain ⟨hg, hn⟩ := and_e (Cond.before_iff.mp (show (Jvm.Cond.and given_1 narrow_1).before args s = true from hpre))
  obtain ⟨hcnt, hgs⟩ := and_e hg
  obtain ⟨ha0, hgs⟩ := and_e hgs
  obtain ⟨ha1, hgs⟩ := and_e hgs
  obtain ⟨ha2, hgs⟩ := and_e hgs
  obtain ⟨ha3, hgs⟩ := and_e hgs
  have ha4 := hgs
  obtain ⟨w0, w1, w2, w3, w4, rfl⟩ : ∃ w0 w1 w2 w3 w4 : Value, args = #[w0, w1, w2, w3, w4] := by
    have hs : args.size = 5 := by simpa [Cond.value, given_1] using hcnt
    obtain ⟨L⟩ := args
    match L, hs with
    | [w0, w1, w2, w3, w4], _ => exact ⟨w0, w1, w2, w3, w4, rfl⟩
  have hw := fun d (hd : d ∈ tables_1) => atoms_spec (ws := Jvm.Cond.code x code maxLocals ret :: tables_1) hat d (List.mem_cons_of_mem _ hd)
  obtain ⟨i0, ei0⟩ := is_v ha0
  obtain rfl : w0 = (.int i0) := Option.some.inj ei0
  obtain ⟨i1, ei1⟩ := is_v ha1
  obtain rfl : w1 = (.int i1) := Option.some.inj ei1
  obtain ⟨i2, ei2⟩ := is_v ha2
  obtain rfl : w2 = (.int i2) := Option.some.inj ei2
  obtain ⟨i3, ei3⟩ := is_v ha3
  obtain rfl : w3 = (.int i3) := Option.some.inj ei3
  obtain ⟨i4, ei4⟩ := is_v ha4
  obtain rfl : w4 = (.int i4) := Option.some.inj ei4
  obtain ⟨n, o, h1, h2, h3, _, L, rfl, ⟨rfl, N⟩, hq⟩ := rm0 l s _ hw tables_1 i0 i1 i2 i3 i4 s.heap s.heap.size (Nat.le_refl _) p e ha hc hk s m _ below hf ((Spec.applies_iff_loose hf).mp happ).1 ⟨rfl, State.Warmed39.refl s, rfl⟩ trivial
  exact ⟨n, _, h1, h2, h3, hpost _ _ _ _ _ _ ⟨Cond.after_iff.mpr rfl, Cond.after_iff.mpr (eq_i res_at (Term.int_eval (1)) rfl), trivial⟩ ⟨hq.1, hq.2.1, (hq.2.2.sift fun y hy => Or.inr (N y hy)).mono (by decide) (by decide)⟩⟩
theorem main_1_1 : Claimed_1_1 := comes_1 fun _ _ _ _ _ _ h hF => ⟨h.1, hF⟩
theorem main_1_2 : Claimed_1_2 := comes_1 fun _ _ _ _ _ _ h hF => ⟨h.2.1, hF⟩
end Jvm.Pilot.@@N@@
namespace Jvm.Pilot.@@N@@
open Jvm Jvm.ClassFile Sem Op Lib Jvm.Free Jvm.Stand Jvm.Pilot.@@N@@.Jvm.D
/-! MADE BY PROGRAM (witnessworld.py) out of the Statement's table words and the real class files: 9 classes; the members and pool entries that the words name. The judged class is class 1, her method 1. -/
namespace start1
open Jvm.ClassFile
def u (s : String) : CpInfo := .utf8 (stringToUtf16 s)
/-- a pool by its gaps: so many unusable entries, then the entry; so many at the end -/
def gap : Nat → List CpInfo → List CpInfo
  | 0, r => r
  | n + 1, r => .unusable :: gap n r
def poolList (es : List (Nat × CpInfo)) (last : Nat) : List CpInfo := es.foldr (fun e r => gap e.1 (e.2 :: r)) (gap last [])
def pool (es : List (Nat × CpInfo)) (last : Nat) : Array CpInfo := ⟨poolList es last⟩
def fileOf (pool : Array CpInfo) (this : Nat) (attrs : Array Attribute := #[]) (ms : Array MethodInfo := #[]) (fl : Nat := 33) (sup : Nat := 0) (ifs : Array Nat := #[]) (fds : Array FieldInfo := #[]) : ClassFile where
  minorVersion := 0
  majorVersion := 65
  constantPool := pool
  accessFlags := fl
  thisClass := this
  superClass := sup
  interfaces := ifs
  fields := fds
  methods := ms
  attributes := attrs
def plain (name : String) (sup : Option ClassId) : Class where
  name := name
  kind := .ordinary
  loader := none
  accessFlags := 33
  super := sup
  interfaces := #[]
  cf := none
  fields := #[]
  methods := #[]
  instanceTypes := #[]
  staticTypes := #[]
  resolved := #[]
  callSites := []
  init := .initialized
  statics := none
  mirror := none

def pool0 : Array CpInfo := pool [(5, u "<init>"), (0, u "()V"), (1, .class_ 10), (1, u "java/lang/Object")] 113

def k0m0 : Method := { name := "<init>", desc := "()V", sig := { parameters := [], returnType := none }, accessFlags := 1, code := none }
/-- java/lang/Object -/
def k0 : Class := { plain "java/lang/Object" none with
  accessFlags := 33
  interfaces := #[]
  cf := some (fileOf pool0 8 #[] #[{ accessFlags := 1, nameIndex := 5, descriptorIndex := 6, attributes := #[] }] 33 0 #[] #[])
  fields := #[]
  methods := #[k0m0]
  instanceTypes := #[]
  staticTypes := #[]
  resolved := Array.replicate 124 none
  statics := none }

def pool1 : Array CpInfo := pool [(2, .class_ 4), (1, u "java/lang/Object"), (0, u "<init>"), (0, u "()V"), (0, .class_ 8), (0, u "com/example/referent/referent/solver/IntTables"), (0, .integer 2147483647), (0, .methodref 7 11), (0, .nameAndType 12 13), (0, u "numbers"), (0, u "([I)[I"), (0, .class_ 15), (0, u "com/example/referent/referent/solver/IntTablesNumbersPinLaw"), (2, u "law"), (0, u "(IIIII)Z")] 5

def k1m0 : Method := { name := "<init>", desc := "()V", sig := { parameters := [], returnType := none }, accessFlags := 2, code := none }
def k1c1 : Code := { maxStack := 4, maxLocals := 17, code := code, exceptionTable := #[], attributes := #[] }
def k1m1 : Method := { name := "law", desc := "(IIIII)Z", sig := { parameters := [.int, .int, .int, .int, .int], returnType := some .boolean }, accessFlags := 9, code := some k1c1 }
/-- com/example/referent/referent/solver/IntTablesNumbersPinLaw -/
def k1 : Class := { plain "com/example/referent/referent/solver/IntTablesNumbersPinLaw" (some 0) with
  accessFlags := 49
  interfaces := #[]
  cf := some (fileOf pool1 14 #[] #[{ accessFlags := 2, nameIndex := 5, descriptorIndex := 6, attributes := #[] }, { accessFlags := 9, nameIndex := 18, descriptorIndex := 19, attributes := #[] }] 49 2 #[] #[])
  fields := #[]
  methods := #[k1m0, k1m1]
  instanceTypes := #[]
  staticTypes := #[]
  resolved := Array.replicate 25 none
  statics := none }

def pool2 : Array CpInfo := pool [(2, .class_ 4), (1, u "java/lang/Object"), (0, u "<init>"), (0, u "()V"), (0, .class_ 8), (0, u "com/example/referent/referent/solver/IntTables"), (31, u "NONE"), (0, u "[I"), (0, u "FREE"), (0, u "I"), (2, u "FIRST_CAPACITY"), (1, u "SPREAD"), (7, u "numbers"), (0, u "([I)[I")] 20

def k2m0 : Method := { name := "<init>", desc := "()V", sig := { parameters := [], returnType := none }, accessFlags := 2, code := none }
def k2c1 : Code := { maxStack := 3, maxLocals := 8, code := prog_75_method_5_code, exceptionTable := #[], attributes := #[] }
def k2m1 : Method := { name := "numbers", desc := "([I)[I", sig := { parameters := [(.array .int)], returnType := some (.array .int) }, accessFlags := 8, code := some k2c1 }
/-- com/example/referent/referent/solver/IntTables -/
def k2 : Class := { plain "com/example/referent/referent/solver/IntTables" (some 0) with
  accessFlags := 48
  interfaces := #[]
  cf := some (fileOf pool2 7 #[] #[{ accessFlags := 2, nameIndex := 5, descriptorIndex := 6, attributes := #[] }, { accessFlags := 8, nameIndex := 56, descriptorIndex := 57, attributes := #[] }] 48 2 #[] #[{ accessFlags := 24, nameIndex := 42, descriptorIndex := 43, attributes := #[] }, { accessFlags := 24, nameIndex := 40, descriptorIndex := 41, attributes := #[] }, { accessFlags := 26, nameIndex := 46, descriptorIndex := 43, attributes := #[] }, { accessFlags := 26, nameIndex := 48, descriptorIndex := 43, attributes := #[] }])
  fields := #[{ name := "FREE", type := .int, accessFlags := 24, slot := 0, constantValue := 0 }, { name := "NONE", type := (.array .int), accessFlags := 24, slot := 1, constantValue := 0 }, { name := "FIRST_CAPACITY", type := .int, accessFlags := 26, slot := 2, constantValue := 0 }, { name := "SPREAD", type := .int, accessFlags := 26, slot := 3, constantValue := 0 }]
  methods := #[k2m0, k2m1]
  instanceTypes := #[]
  staticTypes := #[.int, (.array .int), .int, .int]
  resolved := Array.replicate 78 none
  statics := none }

def pool3 : Array CpInfo := pool [(1, u "java/lang/Cloneable"), (0, .class_ 1), (0, u "java/lang/Object"), (0, .class_ 3)] 3

/-- java/lang/Cloneable -/
def k3 : Class := { plain "java/lang/Cloneable" (some 0) with
  accessFlags := 1537
  interfaces := #[]
  cf := some (fileOf pool3 2 #[] #[] 1537 4 #[] #[])
  fields := #[]
  methods := #[]
  instanceTypes := #[]
  staticTypes := #[]
  resolved := Array.replicate 8 none
  statics := none }

def pool4 : Array CpInfo := pool [(1, u "java/io/Serializable"), (0, .class_ 1), (0, u "java/lang/Object"), (0, .class_ 3)] 3

/-- java/io/Serializable -/
def k4 : Class := { plain "java/io/Serializable" (some 0) with
  accessFlags := 1537
  interfaces := #[]
  cf := some (fileOf pool4 2 #[] #[] 1537 4 #[] #[])
  fields := #[]
  methods := #[]
  instanceTypes := #[]
  staticTypes := #[]
  resolved := Array.replicate 8 none
  statics := none }

/-- the primitive byte -/
def k5 : Class := { plain "byte" none with kind := .primitive 'B', accessFlags := 0x411 }
/-- [B -/
def k6 : Class := { plain "[B" (some 0) with kind := .array 5 .byte, interfaces := #[3, 4], accessFlags := 1041 }

/-- the primitive int -/
def k7 : Class := { plain "int" none with kind := .primitive 'I', accessFlags := 0x411 }
/-- [I -/
def k8 : Class := { plain "[I" (some 0) with kind := .array 7 .int, interfaces := #[3, 4], accessFlags := 1041 }

def heap : Heap := #[]
def classes : Array Class := #[k0, k1, k2, k3, k4, k5, k6, k7, k8]
def interned : List (Array UInt16 × Addr) := []
def slotsUsed : Nat := 0
def theMethod : MethodId := ⟨1, 1⟩
def args0 : Array Value := #[.int 3, .int 5, .int 3, .int 2, .int 1]
def aboutOver (below : List Frame) : State where
  vm := { classes := classes, interned := interned.toArray }
  heap := heap
  slotsUsed := slotsUsed
  threads := #[{ frames := .invoking theMethod args0 :: below }]
def below0 : List Frame := [.native { method := ⟨0, 0⟩, args := #[] }]
def about1 : State := aboutOver below0
def p0 : Program := .bare "" "" ""
def e0 : Env := launch0.env 0 0 0
theorem w_frames : about1.frames = Frame.invoking theMethod args0 :: below0 := rfl
set_option maxRecDepth 65536 in
theorem w_args : argsFit about1.vm theMethod args0 = true := by decide +kernel
set_option maxRecDepth 65536 in
theorem w_heap : heapFits about1 = true := by decide +kernel
set_option maxRecDepth 65536 in
theorem w_runnable : about1.curStatus? = some .runnable := by decide +kernel
set_option maxRecDepth 65536 in
theorem w_alone : about1.alone = true := by decide +kernel
set_option maxRecDepth 65536 in
theorem w_named : about1.methodNamed? x = some theMethod := by decide +kernel
set_option maxRecDepth 65536 in
theorem w_hears : about1.hears theMethod below0 = true := by decide +kernel
set_option maxRecDepth 65536 in
theorem w_ripe : about1.ripe theMethod args0 below0 = true := by decide +kernel
theorem w_running : about1.status = .running := rfl
set_option maxRecDepth 65536 in
theorem w_room : about1.hasRoom e0.platform room_1 = true :=
  launch0.hasRoom_least _ room_1 (by decide +kernel) (by decide +kernel) (by decide +kernel) (by decide +kernel) (by decide +kernel) (by decide +kernel)
theorem allAtoms_all (ts : List Jvm.Cond) (a : Array Jvm.Value) (st : Jvm.State) : (allAtoms ts).before a st = ts.all (fun c => c.before a st) := by
  induction ts with
  | nil => rfl
  | cons c t ih =>
    show (Jvm.Cond.and c (allAtoms t)).before a st = _
    rw [Jvm.Cond.before_and, ih, List.all_cons]
def words1 : List Jvm.Cond := Jvm.Cond.code x code maxLocals ret :: tables_1
/-- a 'code' word, met by the world's own term for the bytes: nothing is compared byte by byte -/
theorem code_word {y : MethodName} {bytes : ByteArray} {mx : Nat} {rt : Option FieldType} {a : Array Value} {s : State} {m : MethodId} {meth : Method} {c : Code} (h1 : s.methodNamed? y = some m) (h2 : s.vm.method? m = some meth) (h3 : meth.code = some c) (h4 : c.code = bytes)
    (h5 : (c.maxLocals == mx && c.exceptionTable.isEmpty && decide (c.maxStack ≤ mostOperands) && decide (meth.sig.returnType = rt) && !meth.locks && decide (parseMethodDescriptor y.desc = some meth.sig)) = true) : (Jvm.Cond.code y bytes mx rt).before a s = true := by
  simp only [Bool.and_eq_true, beq_iff_eq, Bool.not_eq_true', decide_eq_true_eq] at h5
  obtain ⟨⟨⟨⟨⟨g1, g2⟩, g3⟩, g4⟩, g5⟩, g6⟩ := h5
  simp [Cond.before, Cond.holds, Cond.value, h1, h2, h3, h4, g1, g2, g3, g4, g5, g6]
def isCode : Jvm.Cond → Bool
  | .code _ _ _ _ => true
  | _ => false
theorem all_split {L : List Jvm.Cond} {P : Jvm.Cond → Bool} (h1 : L.all (fun c => isCode c || P c) = true) (h2 : ∀ c ∈ L.filter isCode, P c = true) : L.all P = true := by
  refine List.all_eq_true.mpr fun c hc => ?_
  have h := List.all_eq_true.mp h1 c hc
  rcases Bool.eq_false_or_eq_true (isCode c) with hi | hi
  · exact h2 c (List.mem_filter.mpr ⟨hc, hi⟩)
  · simpa [hi] using h
set_option maxRecDepth 65536 in
theorem w_c0 : (Jvm.Cond.code x code maxLocals ret).before args0 about1 = true := code_word (m := ⟨1, 1⟩) (meth := k1m1) (c := k1c1) (by decide +kernel) rfl rfl rfl (by decide +kernel)
set_option maxRecDepth 65536 in
theorem w_c1 : (Jvm.Cond.code ({ cls := "com/example/referent/referent/solver/IntTables", name := "numbers", desc := "([I)[I" } : Jvm.MethodName) prog_75_method_5_code (8 : Nat) (Option.some (Jvm.ClassFile.FieldType.array Jvm.ClassFile.FieldType.int))).before args0 about1 = true := code_word (m := ⟨2, 1⟩) (meth := k2m1) (c := k2c1) (by decide +kernel) rfl rfl rfl (by decide +kernel)
def codes1 : List Jvm.Cond := [Jvm.Cond.code x code maxLocals ret, Jvm.Cond.code ({ cls := "com/example/referent/referent/solver/IntTables", name := "numbers", desc := "([I)[I" } : Jvm.MethodName) prog_75_method_5_code (8 : Nat) (Option.some (Jvm.ClassFile.FieldType.array Jvm.ClassFile.FieldType.int))]
set_option maxRecDepth 65536 in
theorem codes_eq : words1.filter isCode = codes1 := rfl
theorem w_codes : ∀ c ∈ words1.filter isCode, c.before args0 about1 = true := by
  rw [codes_eq]
  intro c hc
  simp only [codes1, List.mem_cons, List.not_mem_nil, or_false] at hc
  rcases hc with rfl | rfl
  · exact w_c0
  · exact w_c1
set_option maxRecDepth 65536 in
theorem w_t1 : words1.all (fun c => isCode c || c.before args0 about1) = true := by decide +kernel
theorem w_tables : (allAtoms (Jvm.Cond.code x code maxLocals ret :: tables_1)).before args0 about1 = true := by
  rw [allAtoms_all]
  show words1.all (fun c => c.before args0 about1) = true
  refine all_split ?_ w_codes
  rw [w_t1]
set_option maxRecDepth 65536 in
theorem w_case : (Jvm.Cond.and given_1 narrow_1).before args0 about1 = true := by decide +kernel
theorem w_applies : (headSpec (Jvm.Cond.code x code maxLocals ret :: tables_1) room_1).applies x e0.platform about1 = true :=
  (Spec.applies_iff w_frames).mpr ⟨w_running, w_runnable, w_alone, w_named, w_hears, w_ripe, w_room, w_tables⟩
theorem atStart : AtStart classFile x code maxLocals ret World_1 tables_1 room_1 Calls_1 rest_1 Pre_1 launch0 p0 e0 about1 theMethod args0 below0 :=
  ⟨lists_1, trivial, launch0.admits_env _ _ _, launch0.least_env, fairChoices_fair.cas, fairChoices_fair.clock, w_frames, w_args, w_heap, w_applies, trivial, trivial, w_case⟩
end start1
theorem witness_1 : WitnessClaimed_1 := ⟨start1.p0, start1.e0, start1.about1, start1.theMethod, start1.args0, start1.below0, start1.atStart⟩
end Jvm.Pilot.@@N@@
