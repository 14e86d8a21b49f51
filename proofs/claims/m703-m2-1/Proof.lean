import JvmDerived
import JvmDerived.Pilot.@@N@@Statement
import JvmDerived.Pilot.@@N@@Code
set_option linter.unusedVariables false
set_option linter.unusedSimpArgs false
namespace Jvm.RoadKit
open Sem ClassFile Op Lib Jvm.Stand Jvm.Free Jvm.LawKit
section New
variable {p : Program} {l : Launch} {e : Env} {R : Room} {s : State} {m : MethodId} {args : Array Value} {below : List Frame} {meth : Method} {c : Code} {T : State} {locs : List Loc} {cells slots : Nat}
theorem retI (X : Stand p l e R s m args below meth c T locs cells slots) (hx : p.tables.exec = Jvm.exec) {pc : Nat} {Ls : Array Slot} {z : Int32} {rest : List Value} (hret : meth.sig.returnType = some .int) (hd : decode c.code pc = .ok (.ireturn, 1)) {fs : List Frame}
    (hl : ∀ (f : JFrame) (acts : List Action), f.method = m → f.locked = none → f.entered = [] → (doReturn e (T.setTop f) acts (some (.int z))).1 = T.setFrames fs) : Steps p.tables e below (T.setTop (mkF m pc Ls (.int z :: rest))) (T.setFrames fs) := by
  have hm' : T.vm.method? m = some meth := X.method'
  have hn : narrow .int (.int z) = .int z := rfl
  show Steps p.tables e below (T.setTop { method := m, pc := pc, locals := Ls, stack := _ :: rest, locked := none }) _
  jvm_step X.here [X.here.top, hx, hd, hm', hret, hn]
  first | (intro acts; rw [hl _ acts rfl rfl rfl]) | rw [hl _ _ rfl rfl rfl]
  exact Steps.refl _
end New
end Jvm.RoadKit
namespace Jvm.Pilot.@@N@@
open Jvm Jvm.ClassFile Sem Op Lib Jvm.Free Jvm.Stand Jvm.LawKit Jvm.RoadKit Bundle Jvm.Pilot.@@N@@.Jvm.D
/-! 1. own frame of the walks: a goal 'G T f' says: from the state T with the top frame f the body comes to its end as its contract says. G is kept opaque in a walk: own_Pre steps it back, own_Ret ends it. -/
abbrev own_Pre (p : Program) (e : Env) (below : List Frame) (G : State → JFrame → Prop) : Prop :=
  ∀ {T T2 : State} {f f2 : JFrame}, (∀ t, Steps p.tables e below (T2.setTop f2) t → Steps p.tables e below (T.setTop f) t) → G T2 f2 → G T f
abbrev own_Lv (p : Program) (e : Env) (below : List Frame) (m : MethodId) (T : State) (f : JFrame) (v : Option Value) : Prop :=
  ∀ fs, (∀ (f : JFrame) (acts : List Action), f.method = m → f.locked = none → f.entered = [] → (doReturn e (T.setTop f) acts v).1 = T.setFrames fs) → Steps p.tables e below (T.setTop f) (T.setFrames fs)
abbrev own_Ret (p : Program) (l : Launch) (e : Env) (R : Room) (s : State) (m : MethodId) (as' : Array Value) (below : List Frame) (meth : Method) (c : Code) (Q : Option Value → Heap → List Loc → Prop) (C S : Nat) (G : State → JFrame → Prop) : Prop :=
  ∀ {T : State} {locs : List Loc} {cells slots : Nat} {f : JFrame} {v : Option Value}, Stand p l e R s m as' below meth c T locs cells slots → own_Lv p e below m T f v → (meth.sig.returnType = none → v = none) → Q v T.heap locs → cells ≤ C → slots ≤ S → G T f
theorem own_contract {l : Launch} {Z : State} {y : MethodName} {bytes : ByteArray} {maxL : Nat} {ret : Option FieldType} {ws : List Jvm.Cond} {rm : Room} {as' : Array Value} {h0 : Heap} {Q : Option Value → Heap → List Loc → Prop} {Ls : Array Slot}
    (hpl : plainFor y = true) (hef : ∀ m, entryFrame m as' maxL = mkF m 0 Ls [])
    (H : ∀ (p : Program) (e : Env) (s : State) (m : MethodId) (below : List Frame) (meth : Method) (c : Code) (s₁ : State) (G : State → JFrame → Prop),
      p.tables.exec = Jvm.exec → c.code = bytes → c.maxLocals = maxL → s.vm.findClass y.cls = some m.cls → meth.name = y.name → meth.sig.returnType = ret → Z.Warmed39 s.vm →
      Stand p l e rm s m as' below meth c s₁ [] 0 0 → s₁.heap = h0 → own_Pre p e below G → own_Ret p l e rm s m as' below meth c Q rm.cells rm.slots G → G s₁ (mkF m 0 Ls [])) :
    MetFree l y (head1 (Jvm.Cond.code y bytes maxL ret :: ws) rm) (fun a U => a = as' ∧ Z.Warmed39 U.vm ∧ U.heap = h0) (fun _ _ _ _ _ => True) (fun _ U o U' => ∃ v L, o = .returned v ∧ Q v U'.heap L ∧ FrameEnd U o U' L rm.cells rm.slots) := by
  refine MetFree.of_bodySF hpl hisR ?_
  intro p e s m args below meth c s₁ Bd hml0 hP hK
  obtain ⟨rfl, hZ, hh⟩ := hP
  have X0 : Stand p l e rm s m args below meth c s₁ [] 0 0 := Stand.of_body Bd
  have e0 : s₁.heap = h0 := by rw [← hh, Bd.state]; rfl
  obtain ⟨T', locs, cells, slots, v, X, hst, hv, hQ, hc, hs⟩ := H p e s m below meth c s₁
    (fun T f => ∃ (T' : State) (locs : List Loc) (cells slots : Nat) (v : Option Value), Stand p l e rm s m args below meth c T' locs cells slots ∧
      (∀ fs, (∀ (f : JFrame) (acts : List Action), f.method = m → f.locked = none → f.entered = [] → (doReturn e (T'.setTop f) acts v).1 = T'.setFrames fs) → Steps p.tables e below (T.setTop f) (T'.setFrames fs)) ∧
      (meth.sig.returnType = none → v = none) ∧ Q v T'.heap locs ∧ cells ≤ rm.cells ∧ slots ≤ rm.slots)
    Bd.exec Bd.bytes hml0 (findClass_of_methodNamed Bd.named) (name_of_methodNamed Bd.named Bd.method).1 Bd.returns hZ X0 e0
    (fun {T T2 f f2} hs hG => by
      obtain ⟨T', locs, cells, slots, v, X, hst, r⟩ := hG
      exact ⟨T', locs, cells, slots, v, X, fun fs hl => hs _ (hst fs hl), r⟩)
    (fun {T locs cells slots f v} X hl hv hQ hc hs => ⟨T, locs, cells, slots, v, X, hl, hv, hQ, hc, hs⟩)
  obtain ⟨fs, hr, hrun, hended, hW, hsame⟩ := X.leave hv Bd.notSynchronized
  exact ⟨_, _, castTop (hef m) (hst fs hr), hrun, hended, _, _, rfl, hQ, ⟨_, rfl⟩, hW, hsame.mono hc hs⟩
/-- what a body without a write says: its value, nothing old written, the heap as it was -/
abbrev own_Q (r : Option Value) (h0 : Heap) (n0 : Nat) (v : Option Value) (h : Heap) (L : List Loc) : Prop := v = r ∧ Fr n0 L ∧ h = h0
section Calls
variable {p : Program} {l : Launch} {e : Env} {R : Room} {s : State} {m : MethodId} {args : Array Value} {below : List Frame} {meth : Method} {c : Code} {T : State} {locs : List Loc} {cells slots : Nat} {Z : State} {a0 : Array Value} {h : Heap}
theorem own_callS (X : Stand p l e R s m args below meth c T locs cells slots) (hx : p.tables.exec = Jvm.exec) (hZ : Z.Warmed39 s.vm) {own : String} {index : Nat} {y : MethodName} {bytes : ByteArray} {maxL : Nat} {ret : Option FieldType} {rm : Room} {as' : Array Value} {Q : Option Value → Heap → List Loc → Prop}
    (W : Nat) (hown : s.vm.findClass own = some m.cls) (w1 : (Cond.methodLink own index y).before a0 Z = true) (w2 : (Cond.static y).before a0 Z = true) (w3 : (Cond.initialized y.cls).before a0 Z = true) (w4 : (Cond.code y bytes maxL ret).before a0 Z = true)
    (hy : y.cls ≠ "java/lang/invoke/MethodHandle" ∧ y.cls ≠ "java/lang/invoke/VarHandle")
    (hM : MetFree l y (head1 [Cond.code y bytes maxL ret] rm) (fun a U => a = as' ∧ Z.Warmed39 U.vm ∧ U.heap = h) (fun _ _ _ _ _ => True) (fun _ U o U' => ∃ v L, o = .returned v ∧ Q v U'.heap L ∧ FrameEnd U o U' L rm.cells rm.slots))
    (eT : T.heap = h) (hf : rm.frames + 1 ≤ R.frames) (hl : W + (maxL + 11) + rm.locals ≤ R.locals) {g : JFrame} (hg : g.method = m) (hsize : g.locals.size = c.maxLocals) (argsL rest : List Value) {ps : List FieldType} {r : Option FieldType}
    (hd : parseMethodDescriptor y.desc = some ⟨ps, r⟩) (hlen : argsL.length = ps.length) (hstack : g.stack = argsL.reverse ++ rest) (hW : 2 * g.monitorRoom + (rest.map fun v => v.category).sum ≤ W) (hdg : decode c.code g.pc = .ok (.invokestatic index, 3))
    (has : argsL.toArray = as') (hc : cells + rm.cells ≤ R.cells) (hs : slots + rm.slots ≤ R.slots) :
    ∃ (v : Option Value) (T' : State) (L : List Loc), Stand p l e R s m args below meth c T' (locs ++ L) (cells + rm.cells) (slots + rm.slots) ∧ Q v T'.heap L ∧
      ∀ t, Steps p.tables e below (T'.setTop { g with pc := g.pc + 3, stack := v.toList ++ rest }) t → Steps p.tables e below (T.setTop g) t := by
  obtain ⟨v, _, ⟨T', L', k', n'⟩, -, X', ⟨Lc, hQ, l', y', z'⟩, st⟩ := Jvm.LawKit.callS X hx (y := y) hown (mvT hZ w1) (mvT hZ w2) (mvT hZ w3) (mvT hZ w4) hy (backOf (W := W) hM hZ w4 w3 hf hl) hg hsize (argsL := argsL) (rest := rest) (lenOf hd hlen) hstack hW hdg (fun _ _ => ⟨has, eT, hc, hs⟩)
  dsimp only [Pt.U, Pt.locs, Pt.cells, Pt.slots] at X' l' y' z' st hQ
  subst l' y' z'
  exact ⟨v, T', Lc, X', hQ, st⟩
theorem own_callI (X : Stand p l e R s m args below meth c T locs cells slots) (hx : p.tables.exec = Jvm.exec) (hZ : Z.Warmed39 s.vm) {own : String} {index : Nat} {y : MethodName} {bytes : ByteArray} {maxL : Nat} {rm : Room} {as' : Array Value} {Q : Option Value → Heap → List Loc → Prop}
    (W : Nat) (hy1 : y.name = "<init>") (hown : s.vm.findClass own = some m.cls) (w1 : (Cond.methodLink own index y).before a0 Z = true) (w2 : (Cond.instanceMethod y).before a0 Z = true) (w3 : (Cond.initialized y.cls).before a0 Z = true) (w4 : (Cond.code y bytes maxL none).before a0 Z = true)
    (hy : y.cls ≠ "java/lang/invoke/MethodHandle" ∧ y.cls ≠ "java/lang/invoke/VarHandle")
    (hM : MetFree l y (head1 [Cond.code y bytes maxL none] rm) (fun a U => a = as' ∧ Z.Warmed39 U.vm ∧ U.heap = h) (fun _ _ _ _ _ => True) (fun _ U o U' => ∃ v L, o = .returned v ∧ Q v U'.heap L ∧ FrameEnd U o U' L rm.cells rm.slots))
    (eT : T.heap = h) (hf : rm.frames + 1 ≤ R.frames) (hl : W + (maxL + 11) + rm.locals ≤ R.locals) {g : JFrame} (hg : g.method = m) (hsize : g.locals.size = c.maxLocals) (a : Addr) (argsL rest : List Value) {ps : List FieldType} {r : Option FieldType}
    (hd : parseMethodDescriptor y.desc = some ⟨ps, r⟩) (hlen : argsL.length = ps.length) (hstack : g.stack = argsL.reverse ++ .ref a :: rest) (hW : 2 * g.monitorRoom + (rest.map fun v => v.category).sum ≤ W) (hdg : decode c.code g.pc = .ok (.invokespecial index, 3))
    (has : (.ref a :: argsL).toArray = as') (hc : cells + rm.cells ≤ R.cells) (hs : slots + rm.slots ≤ R.slots) :
    ∃ (v : Option Value) (T' : State) (L : List Loc), Stand p l e R s m args below meth c T' (locs ++ L) (cells + rm.cells) (slots + rm.slots) ∧ Q v T'.heap L ∧
      ∀ t, Steps p.tables e below (T'.setTop { g with pc := g.pc + 3, stack := v.toList ++ rest }) t → Steps p.tables e below (T.setTop g) t := by
  obtain ⟨v, _, ⟨T', L', k', n'⟩, -, X', ⟨Lc, hQ, l', y', z'⟩, st⟩ := X.specialBack hx (y := y) hy1 hown (mvT hZ w1) (mvT hZ w2) (mvT hZ w4) hy (backOf (W := W) hM hZ w4 w3 hf hl) hg hsize (Steps.refl _) (a := a) (argsL := argsL) (rest := rest) (lenOf hd hlen) hstack hW hdg (fun _ _ => ⟨has, eT, hc, hs⟩)
  dsimp only [Pt.U, Pt.locs, Pt.cells, Pt.slots] at X' l' y' z' st hQ
  subst l' y' z'
  exact ⟨v, T', Lc, X', hQ, fun t k => st.trans k⟩
theorem own_callV (X : Stand p l e R s m args below meth c T locs cells slots) (hx : p.tables.exec = Jvm.exec) (hZ : Z.Warmed39 s.vm) {own C : String} {index : Nat} {y : MethodName} {bytes : ByteArray} {maxL : Nat} {ret : Option FieldType} {rm : Room} {as' : Array Value} {Q : Option Value → Heap → List Loc → Prop}
    (W : Nat) (hown : s.vm.findClass own = some m.cls) (w1 : (Cond.methodLink own index y).before a0 Z = true) (w2 : (Cond.declares y).before a0 Z = true) (w3 : (Cond.selects C y y).before a0 Z = true) (w4 : (Cond.instanceMethod y).before a0 Z = true) (w5 : (Cond.initialized y.cls).before a0 Z = true) (w6 : (Cond.code y bytes maxL ret).before a0 Z = true)
    (hy : y.cls ≠ "java/lang/invoke/MethodHandle" ∧ y.cls ≠ "java/lang/invoke/VarHandle")
    (hM : MetFree l y (head1 [Cond.code y bytes maxL ret] rm) (fun a U => a = as' ∧ Z.Warmed39 U.vm ∧ U.heap = h) (fun _ _ _ _ _ => True) (fun _ U o U' => ∃ v L, o = .returned v ∧ Q v U'.heap L ∧ FrameEnd U o U' L rm.cells rm.slots))
    (eT : T.heap = h) {b : Addr} (E : Exa Z h b C) (hf : rm.frames + 1 ≤ R.frames) (hl : W + (maxL + 11) + rm.locals ≤ R.locals) {g : JFrame} (hg : g.method = m) (hsize : g.locals.size = c.maxLocals) (argsL rest : List Value) {ps : List FieldType} {r : Option FieldType}
    (hd : parseMethodDescriptor y.desc = some ⟨ps, r⟩) (hlen : argsL.length = ps.length) (hstack : g.stack = argsL.reverse ++ .ref b :: rest) (hW : 2 * g.monitorRoom + (rest.map fun v => v.category).sum ≤ W) (hdg : decode c.code g.pc = .ok (.invokevirtual index, 3))
    (has : (.ref b :: argsL).toArray = as') (hc : cells + rm.cells ≤ R.cells) (hs : slots + rm.slots ≤ R.slots) :
    ∃ (v : Option Value) (T' : State) (L : List Loc), Stand p l e R s m args below meth c T' (locs ++ L) (cells + rm.cells) (slots + rm.slots) ∧ Q v T'.heap L ∧
      ∀ t, Steps p.tables e below (T'.setTop { g with pc := g.pc + 3, stack := v.toList ++ rest }) t → Steps p.tables e below (T.setTop g) t := by
  obtain ⟨cq, kq, qa, qb, qc⟩ := isOf hZ eT E
  obtain ⟨v, _, ⟨T', L', k', n'⟩, -, X', ⟨Lc, hQ, l', y', z'⟩, st⟩ := X.virtualBack hx (y := y) (z := y) hown (mvT hZ w1) (mvT hZ w2) (notFace_of_selects (args := #[]) (mvT hZ w3)) (mvT hZ w3) (mvT hZ w4) hy (backOf (W := W) hM hZ w6 w5 hf hl) qa qc hg hsize (Steps.refl _) (argsL := argsL) (rest := rest) (lenOf hd hlen) hstack hW hdg (fun _ _ => ⟨has, eT, hc, hs⟩)
  dsimp only [Pt.U, Pt.locs, Pt.cells, Pt.slots] at X' l' y' z' st hQ
  subst l' y' z'
  exact ⟨v, T', Lc, X', hQ, fun t k => st.trans k⟩
end Calls
theorem own_lrem {tb : Tables} [Ours tb] {e : Env} {below : List Frame} {T target : State} {m : MethodId} {c : Code} {g : JFrame} (h : At T m c below) (hx : tb.exec = Jvm.exec) (hg : g.method = m) {x y : Int64} {rest : List Value} (hd : decode c.code g.pc = .ok (.lrem, 1)) (hs : g.stack = .long y :: .long x :: rest) (hy : y ≠ 0)
    (hr : Steps tb e below (T.setTop { g with pc := g.pc + 1, stack := .long (x % y) :: rest }) target) : Steps tb e below (T.setTop g) target := XS.lrem h hx hg hd hs hy (by rw [lrem_mod]; exact hr)
/-! 2. own facts of arrays: n places, place i holds f i -/
def own_up {α : Type} (f : Nat → α) (j : Nat) (v : α) : Nat → α := fun i => if i = j then v else f i
theorem own_up_at {α : Type} (f : Nat → α) (j : Nat) (v : α) (i : Nat) : own_up f j v i = if i = j then v else f i := rfl
def own_AI (Z : State) (h : Heap) (a : Addr) (ty : FieldType) (n : Nat) (f : Nat → Int32) : Prop :=
  ∃ c : Cell, Arr Z h a c ty ∧ c.slots.size = n ∧ n < 2147483648 ∧ ∀ i, i < n → c.slots[i]? = some (.int (f i))
def own_AJ (Z : State) (h : Heap) (a : Addr) (n : Nat) (f : Nat → Int64) : Prop :=
  ∃ c : Cell, Arr Z h a c .long ∧ c.slots.size = n ∧ n < 2147483648 ∧ ∀ i, i < n → c.slots[i]? = some (.long (f i))
section Arrays
variable {Z : State} {h h' : Heap} {a b : Addr} {ty : FieldType} {n : Nat} {f g : Nat → Int32} {fj gj : Nat → Int64}
theorem own_AI.lt (V : own_AI Z h a ty n f) : a < h.size := by obtain ⟨c, A, -⟩ := V; exact A.lt
theorem own_AI.ext (V : own_AI Z h a ty n f) (E : Ext h h') : own_AI Z h' a ty n f := by obtain ⟨c, A, r⟩ := V; exact ⟨c, A.ext E, r⟩
theorem own_AI.other {sl : Nat} {v : Value} (V : own_AI Z h b ty n f) (W : Wr h h' a sl v) (q : b ≠ a) : own_AI Z h' b ty n f := by obtain ⟨c, A, r⟩ := V; exact ⟨c, A.other W q, r⟩
theorem own_AI.keep {ws : List Addr} (V : own_AI Z h a ty n f) (K : Keep h h' ws) (q : a ∉ ws) : own_AI Z h' a ty n f := by obtain ⟨c, A, r⟩ := V; exact ⟨c, ⟨K.2.1 a c A.1 q, A.2⟩, r⟩
theorem own_AI.cong (V : own_AI Z h a ty n f) (q : ∀ i, i < n → f i = g i) : own_AI Z h a ty n g := by obtain ⟨c, A, S, B, H⟩ := V; exact ⟨c, A, S, B, fun i hi => by rw [← q i hi]; exact H i hi⟩
theorem own_AI.new {k : ClassId} {z : Int32} (A : Arr Z h a (newA k ty z) ty) (q : ¬ z < 0) (d : defaultValue ty = .int 0) (n : Nat) (hn : z.toNatClampNeg = n) : own_AI Z h a ty n (fun _ => 0) := by
  subst hn
  exact ⟨_, A, sz_new _ _ _, (back32 q).2, fun i hi => by simp [newA, hi, d]⟩
theorem own_slot (c : Cell) (i k : Nat) (v : Value) (hk : k < c.slots.size) : (c.setSlot i v).slots[k]? = if k = i then some v else c.slots[k]? := by
  by_cases q : k = i
  · subst q; simp [Cell.setSlot, hk]
  · simp [Cell.setSlot, q, Array.getElem?_setIfInBounds, Ne.symm q]
theorem own_AI.set {x : Int32} {i : Nat} (V : own_AI Z h a ty n f) (W : Wr h h' a i (.int x)) : own_AI Z h' a ty n (own_up f i x) := by
  obtain ⟨c, A, S, B, H⟩ := V
  refine ⟨_, A.same W, (sz_set _ _ _).trans S, B, fun k hk => ?_⟩
  rw [own_slot c i k _ (by omega), own_up_at]
  by_cases q : k = i
  · rw [if_pos q, if_pos q]
  · rw [if_neg q, if_neg q]; exact H k hk
theorem own_AI.at (V : own_AI Z h a ty n f) {j : Int32} (i : Nat) (hi : j.toNatClampNeg = i) (h0 : ¬ j < 0) (hn : i < n) :
    ∃ c : Cell, Arr Z h a c ty ∧ ¬ (j < 0 ∨ c.slots.size ≤ j.toNatClampNeg) ∧ c.slots[j.toNatClampNeg]? = some (.int (f i)) := by
  obtain ⟨c, A, S, B, H⟩ := V
  subst hi
  exact ⟨c, A, fun q => q.elim h0 (fun q => by omega), H _ hn⟩
theorem own_AJ.lt (V : own_AJ Z h a n fj) : a < h.size := by obtain ⟨c, A, -⟩ := V; exact A.lt
theorem own_AJ.ext (V : own_AJ Z h a n fj) (E : Ext h h') : own_AJ Z h' a n fj := by obtain ⟨c, A, r⟩ := V; exact ⟨c, A.ext E, r⟩
theorem own_AJ.other {sl : Nat} {v : Value} (V : own_AJ Z h b n fj) (W : Wr h h' a sl v) (q : b ≠ a) : own_AJ Z h' b n fj := by obtain ⟨c, A, r⟩ := V; exact ⟨c, A.other W q, r⟩
theorem own_AJ.keep {ws : List Addr} (V : own_AJ Z h a n fj) (K : Keep h h' ws) (q : a ∉ ws) : own_AJ Z h' a n fj := by obtain ⟨c, A, r⟩ := V; exact ⟨c, ⟨K.2.1 a c A.1 q, A.2⟩, r⟩
theorem own_AJ.cong (V : own_AJ Z h a n fj) (q : ∀ i, i < n → fj i = gj i) : own_AJ Z h a n gj := by obtain ⟨c, A, S, B, H⟩ := V; exact ⟨c, A, S, B, fun i hi => by rw [← q i hi]; exact H i hi⟩
theorem own_AJ.new {k : ClassId} {z : Int32} (A : Arr Z h a (newA k .long z) .long) (q : ¬ z < 0) (n : Nat) (hn : z.toNatClampNeg = n) : own_AJ Z h a n (fun _ => 0) := by
  subst hn
  exact ⟨_, A, sz_new _ _ _, (back32 q).2, fun i hi => by simp [newA, hi]; rfl⟩
theorem own_AJ.set {x : Int64} {i : Nat} (V : own_AJ Z h a n fj) (W : Wr h h' a i (.long x)) : own_AJ Z h' a n (own_up fj i x) := by
  obtain ⟨c, A, S, B, H⟩ := V
  refine ⟨_, A.same W, (sz_set _ _ _).trans S, B, fun k hk => ?_⟩
  rw [own_slot c i k _ (by omega), own_up_at]
  by_cases q : k = i
  · rw [if_pos q, if_pos q]
  · rw [if_neg q, if_neg q]; exact H k hk
theorem own_AJ.at (V : own_AJ Z h a n fj) {j : Int32} (i : Nat) (hi : j.toNatClampNeg = i) (h0 : ¬ j < 0) (hn : i < n) :
    ∃ c : Cell, Arr Z h a c .long ∧ ¬ (j < 0 ∨ c.slots.size ≤ j.toNatClampNeg) ∧ c.slots[j.toNatClampNeg]? = some (.long (fj i)) := by
  obtain ⟨c, A, S, B, H⟩ := V
  subst hi
  exact ⟨c, A, fun q => q.elim h0 (fun q => by omega), H _ hn⟩
end Arrays
section ArraySteps
variable {p : Program} {l : Launch} {e : Env} {R : Room} {s : State} {m : MethodId} {args : Array Value} {below : List Frame} {meth : Method} {c : Code} {T : State} {locs : List Loc} {cells slots : Nat} {Z : State} {a0 : Array Value} {h : Heap} {a : Addr} {n : Nat} {f : Nat → Int32} {fj : Nat → Int64} {j x : Int32} {xj : Int64} {g : JFrame} {rest : List Value}
theorem own_stI (X : Stand p l e R s m args below meth c T locs cells slots) (hx : p.tables.exec = Jvm.exec) (hZ : Z.Warmed39 s.vm) (eT : T.heap = h) (V : own_AI Z h a .int n f) (i : Nat) (hi : j.toNatClampNeg = i) (h0 : ¬ j < 0) (hn : i < n) (hg : g.method = m) (hs : g.stack = .int x :: .int j :: .ref a :: rest) (hd : decode c.code g.pc = .ok (.iastore, 1)) :
    ∃ T' h', Stand p l e R s m args below meth c T' (locs ++ [⟨a, i⟩]) cells slots ∧ T'.heap = h' ∧ Wr h h' a i (.int x) ∧ own_AI Z h' a .int n (own_up f i x) ∧ ∀ t, Steps p.tables e below (T'.setTop { g with pc := g.pc + 1, stack := rest }) t → Steps p.tables e below (T.setTop g) t := by
  obtain ⟨cl, A, hj, -⟩ := V.at i hi h0 hn
  obtain ⟨T', h', X', e', W, st⟩ := stI X hx hZ eT A hj hg hs hd
  subst hi
  exact ⟨T', h', X', e', W, V.set W, st⟩
theorem own_stB (X : Stand p l e R s m args below meth c T locs cells slots) (hx : p.tables.exec = Jvm.exec) (hZ : Z.Warmed39 s.vm) (eT : T.heap = h) (V : own_AI Z h a .byte n f) (i : Nat) (hi : j.toNatClampNeg = i) (h0 : ¬ j < 0) (hn : i < n) (hg : g.method = m) (hs : g.stack = .int x :: .int j :: .ref a :: rest) (hd : decode c.code g.pc = .ok (.bastore, 1)) :
    ∃ T' h', Stand p l e R s m args below meth c T' (locs ++ [⟨a, i⟩]) cells slots ∧ T'.heap = h' ∧ Wr h h' a i (.int (nar .byte x)) ∧ own_AI Z h' a .byte n (own_up f i x.toInt8.toInt32) ∧ ∀ t, Steps p.tables e below (T'.setTop { g with pc := g.pc + 1, stack := rest }) t → Steps p.tables e below (T.setTop g) t := by
  obtain ⟨cl, A, hj, -⟩ := V.at i hi h0 hn
  obtain ⟨T', h', X', e', W, st⟩ := stB X hx hZ eT A hj hg hs hd
  subst hi
  exact ⟨T', h', X', e', W, V.set W, st⟩
theorem own_stC (X : Stand p l e R s m args below meth c T locs cells slots) (hx : p.tables.exec = Jvm.exec) (hZ : Z.Warmed39 s.vm) (eT : T.heap = h) (V : own_AI Z h a .char n f) (i : Nat) (hi : j.toNatClampNeg = i) (h0 : ¬ j < 0) (hn : i < n) (hg : g.method = m) (hs : g.stack = .int x :: .int j :: .ref a :: rest) (hd : decode c.code g.pc = .ok (.castore, 1)) :
    ∃ T' h', Stand p l e R s m args below meth c T' (locs ++ [⟨a, i⟩]) cells slots ∧ T'.heap = h' ∧ Wr h h' a i (.int (nar .char x)) ∧ own_AI Z h' a .char n (own_up f i x.toUInt32.toUInt16.toUInt32.toInt32) ∧ ∀ t, Steps p.tables e below (T'.setTop { g with pc := g.pc + 1, stack := rest }) t → Steps p.tables e below (T.setTop g) t := by
  obtain ⟨cl, A, hj, -⟩ := V.at i hi h0 hn
  obtain ⟨T', h', X', e', W, st⟩ := stC X hx hZ eT A hj hg hs hd
  subst hi
  exact ⟨T', h', X', e', W, V.set W, st⟩
theorem own_stJ (X : Stand p l e R s m args below meth c T locs cells slots) (hx : p.tables.exec = Jvm.exec) (hZ : Z.Warmed39 s.vm) (eT : T.heap = h) (V : own_AJ Z h a n fj) (i : Nat) (hi : j.toNatClampNeg = i) (h0 : ¬ j < 0) (hn : i < n) (hg : g.method = m) (hs : g.stack = .long xj :: .int j :: .ref a :: rest) (hd : decode c.code g.pc = .ok (.lastore, 1)) :
    ∃ T' h', Stand p l e R s m args below meth c T' (locs ++ [⟨a, i⟩]) cells slots ∧ T'.heap = h' ∧ Wr h h' a i (.long xj) ∧ own_AJ Z h' a n (own_up fj i xj) ∧ ∀ t, Steps p.tables e below (T'.setTop { g with pc := g.pc + 1, stack := rest }) t → Steps p.tables e below (T.setTop g) t := by
  obtain ⟨cl, A, hj, -⟩ := V.at i hi h0 hn
  obtain ⟨T', h', X', e', W, st⟩ := stJ X hx hZ eT A hj hg hs hd
  subst hi
  exact ⟨T', h', X', e', W, V.set W, st⟩
theorem own_ldI (X : Stand p l e R s m args below meth c T locs cells slots) (hx : p.tables.exec = Jvm.exec) (hZ : Z.Warmed39 s.vm) (eT : T.heap = h) (V : own_AI Z h a .int n f) (i : Nat) (hi : j.toNatClampNeg = i) (h0 : ¬ j < 0) (hn : i < n) (hg : g.method = m) (hs : g.stack = .int j :: .ref a :: rest) (hd : decode c.code g.pc = .ok (.iaload, 1)) :
    ∀ t, Steps p.tables e below (T.setTop { g with pc := g.pc + 1, stack := .int (f i) :: rest }) t → Steps p.tables e below (T.setTop g) t := by
  obtain ⟨cl, A, hj, hv⟩ := V.at i hi h0 hn
  exact fun t k => X.iaload hx (by rw [eT]; exact A.1) (State.isArrayOf_alike hZ.alike A.2.1) A.2.2 hj hv hg hs hd t k
theorem own_ldB (X : Stand p l e R s m args below meth c T locs cells slots) (hx : p.tables.exec = Jvm.exec) (hZ : Z.Warmed39 s.vm) (eT : T.heap = h) (V : own_AI Z h a .byte n f) (i : Nat) (hi : j.toNatClampNeg = i) (h0 : ¬ j < 0) (hn : i < n) (hg : g.method = m) (hs : g.stack = .int j :: .ref a :: rest) (hd : decode c.code g.pc = .ok (.baload, 1)) :
    ∀ t, Steps p.tables e below (T.setTop { g with pc := g.pc + 1, stack := .int (f i) :: rest }) t → Steps p.tables e below (T.setTop g) t := by
  obtain ⟨cl, A, hj, hv⟩ := V.at i hi h0 hn
  exact fun t k => X.baloadBytes hx (by rw [eT]; exact A.1) (State.isArrayOf_alike hZ.alike A.2.1) A.2.2 hj hv hg hs hd t k
theorem own_ldC (X : Stand p l e R s m args below meth c T locs cells slots) (hx : p.tables.exec = Jvm.exec) (hZ : Z.Warmed39 s.vm) (eT : T.heap = h) (V : own_AI Z h a .char n f) (i : Nat) (hi : j.toNatClampNeg = i) (h0 : ¬ j < 0) (hn : i < n) (hg : g.method = m) (hs : g.stack = .int j :: .ref a :: rest) (hd : decode c.code g.pc = .ok (.caload, 1)) :
    ∀ t, Steps p.tables e below (T.setTop { g with pc := g.pc + 1, stack := .int (f i) :: rest }) t → Steps p.tables e below (T.setTop g) t := by
  obtain ⟨cl, A, hj, hv⟩ := V.at i hi h0 hn
  exact fun t k => X.caload hx (by rw [eT]; exact A.1) (State.isArrayOf_alike hZ.alike A.2.1) A.2.2 hj hv hg hs hd t k
theorem own_ldJ (X : Stand p l e R s m args below meth c T locs cells slots) (hx : p.tables.exec = Jvm.exec) (hZ : Z.Warmed39 s.vm) (eT : T.heap = h) (V : own_AJ Z h a n fj) (i : Nat) (hi : j.toNatClampNeg = i) (h0 : ¬ j < 0) (hn : i < n) (hg : g.method = m) (hs : g.stack = .int j :: .ref a :: rest) (hd : decode c.code g.pc = .ok (.laload, 1)) :
    ∀ t, Steps p.tables e below (T.setTop { g with pc := g.pc + 1, stack := .long (fj i) :: rest }) t → Steps p.tables e below (T.setTop g) t := by
  obtain ⟨cl, A, hj, hv⟩ := V.at i hi h0 hn
  exact fun t k => X.laload hx (by rw [eT]; exact A.1) (State.isArrayOf_alike hZ.alike A.2.1) A.2.2 hj hv hg hs hd t k
theorem own_lenI {ty : FieldType} (X : Stand p l e R s m args below meth c T locs cells slots) (hx : p.tables.exec = Jvm.exec) (hZ : Z.Warmed39 s.vm) (eT : T.heap = h) (V : own_AI Z h a ty n f) (N : Int32) (hN : n.toInt32 = N) (hg : g.method = m) (hs : g.stack = .ref a :: rest) (hd : decode c.code g.pc = .ok (.arraylength, 1)) :
    ∀ t, Steps p.tables e below (T.setTop { g with pc := g.pc + 1, stack := .int N :: rest }) t → Steps p.tables e below (T.setTop g) t := by
  obtain ⟨cl, A, S, -⟩ := V
  subst hN S
  exact fun t k => X.arraylength hx (by rw [eT]; exact A.1) (State.isArrayOf_alike hZ.alike A.2.1) hg hs hd t k
theorem own_lenJ (X : Stand p l e R s m args below meth c T locs cells slots) (hx : p.tables.exec = Jvm.exec) (hZ : Z.Warmed39 s.vm) (eT : T.heap = h) (V : own_AJ Z h a n fj) (N : Int32) (hN : n.toInt32 = N) (hg : g.method = m) (hs : g.stack = .ref a :: rest) (hd : decode c.code g.pc = .ok (.arraylength, 1)) :
    ∀ t, Steps p.tables e below (T.setTop { g with pc := g.pc + 1, stack := .int N :: rest }) t → Steps p.tables e below (T.setTop g) t := by
  obtain ⟨cl, A, S, -⟩ := V
  subst hN S
  exact fun t k => X.arraylength hx (by rw [eT]; exact A.1) (State.isArrayOf_alike hZ.alike A.2.1) hg hs hd t k
/-- areturn -/
theorem own_retA (X : Stand p l e R s m args below meth c T locs cells slots) (hx : p.tables.exec = Jvm.exec) {pc : Nat} {Ls : Array Slot} {t : FieldType} (hret : meth.sig.returnType = some t) (ht : t.isReference = true) (hd : decode c.code pc = .ok (.areturn, 1)) {fs : List Frame}
    (hl : ∀ (f : JFrame) (acts : List Action), f.method = m → f.locked = none → f.entered = [] → (doReturn e (T.setTop f) acts (some (.ref a))).1 = T.setFrames fs) : Steps p.tables e below (T.setTop (mkF m pc Ls (.ref a :: rest))) (T.setFrames fs) :=
  retOut X hx hret (by cases t <;> first | rfl | (cases ht; done)) (Or.inr (Or.inr (Or.inr (Or.inr ⟨rfl, ht, rfl⟩)))) hd hl
end ArraySteps
theorem own_pd0 : parseMethodDescriptor "(II)Z" = some ⟨[.int, .int], some .boolean⟩ := by decide +kernel
theorem own_pd1 : parseMethodDescriptor "([IIII)V" = some ⟨[(.array .int), .int, .int, .int], none⟩ := by decide +kernel
theorem own_pd2 : parseMethodDescriptor "(IIIII)I" = some ⟨[.int, .int, .int, .int, .int], some .int⟩ := by decide +kernel
theorem own_pd3 : parseMethodDescriptor "([II)I" = some ⟨[(.array .int), .int], some .int⟩ := by decide +kernel
theorem d4_0 : decode method_2_code 0 = .ok (.iload_n 0, 1) := by decide +kernel
theorem d4_1 : decode method_2_code 1 = .ok (.iload_n 1, 1) := by decide +kernel
theorem d4_2 : decode method_2_code 2 = .ok (.iushr, 1) := by decide +kernel
theorem d4_3 : decode method_2_code 3 = .ok (.iconst 1, 1) := by decide +kernel
theorem d4_4 : decode method_2_code 4 = .ok (.iand, 1) := by decide +kernel
theorem d4_5 : decode method_2_code 5 = .ok (.ifCond .eq 7, 3) := by decide +kernel
theorem d4_8 : decode method_2_code 8 = .ok (.iconst 1, 1) := by decide +kernel
theorem d4_9 : decode method_2_code 9 = .ok (.goto 4, 3) := by decide +kernel
theorem d4_12 : decode method_2_code 12 = .ok (.iconst 0, 1) := by decide +kernel
theorem d4_13 : decode method_2_code 13 = .ok (.ireturn, 1) := by decide +kernel
theorem own_ef4 (m : MethodId) (p0 : Int32) (p1 : Int32) : entryFrame m #[(.int p0), (.int p1)] 2 = mkF m 0 #[.val (.int p0), .val (.int p1)] [] := by first | (simp [entryFrame, mkF, argsToLocals, Value.category]; done) | rfl
def own_tk (p0 : Int32) (p1 : Int32) : Int32 := if (((p0.toUInt32 >>> (p1 &&& 31).toUInt32).toInt32) &&& (1 : Int32)) = (0 : Int32) then (0 : Int32) else (1 : Int32)
theorem own_pn4 : plainName "com/example/referent/referent/solver/IntTablesNextTakenPinLaw" = true := by first | (simp [plainName, overriddenIn]; done) | decide +kernel
set_option maxRecDepth 65536 in
set_option maxHeartbeats 40000000 in
theorem rm4 (l : Launch) (Z : State) (a0 : Array Value) (hw : ∀ d ∈ tables_1, d.before a0 Z = true) (ws : List Jvm.Cond) (p0 : Int32) (p1 : Int32) (h0 : Heap) (n0 : Nat)  :
    MetFree l (⟨"com/example/referent/referent/solver/IntTablesNextTakenPinLaw", "taken", "(II)Z"⟩ : MethodName) (head1 (Jvm.Cond.code (⟨"com/example/referent/referent/solver/IntTablesNextTakenPinLaw", "taken", "(II)Z"⟩ : MethodName) method_2_code 2 (some .boolean) :: ws) ({ frames := 0, cells := 0, slots := 0, locals := 0 } : Room)) (fun a U => a = #[(.int p0), (.int p1)] ∧ Z.Warmed39 U.vm ∧ U.heap = h0) (fun _ _ _ _ _ => True) (fun _ U o U' => ∃ v L, o = .returned v ∧ own_Q (some (.int (own_tk p0 p1))) h0 n0 v U'.heap L ∧ FrameEnd U o U' L ({ frames := 0, cells := 0, slots := 0, locals := 0 } : Room).cells ({ frames := 0, cells := 0, slots := 0, locals := 0 } : Room).slots) := by
  refine own_contract (plainFor_of_name own_pn4) (fun m => own_ef4 m p0 p1) ?_
  intro p e s m below meth c s₁ G hx hby hml0 hown0 hnm hret hZ X0 e0 hp hR
  have hml : c.maxLocals = 2 := hml0
  have hown : s.vm.findClass "com/example/referent/referent/solver/IntTablesNextTakenPinLaw" = some m.cls := hown0
  have N0 := Fr.nil n0
  show G s₁ (mkF m 0 #[.val (.int p0), .val (.int p1)] [])
  refine hp (fun tq kq => XS.iloadN X0.here hx rfl (hb hby d4_0) rfl kq) ?_
  show G s₁ (mkF m 1 #[.val (.int p0), .val (.int p1)] [(.int p0)])
  refine hp (fun tq kq => XS.iloadN X0.here hx rfl (hb hby d4_1) rfl kq) ?_
  show G s₁ (mkF m 2 #[.val (.int p0), .val (.int p1)] [(.int p1), (.int p0)])
  refine hp (fun tq kq => XS.iushr X0.here hx rfl (hb hby d4_2) rfl kq) ?_
  show G s₁ (mkF m 3 #[.val (.int p0), .val (.int p1)] [(.int ((p0.toUInt32 >>> (p1 &&& 31).toUInt32).toInt32))])
  refine hp (fun tq kq => XS.iconst X0.here hx rfl (hb hby d4_3) kq) ?_
  show G s₁ (mkF m 4 #[.val (.int p0), .val (.int p1)] [(.int (1 : Int32)), (.int ((p0.toUInt32 >>> (p1 &&& 31).toUInt32).toInt32))])
  refine hp (fun tq kq => XS.iand X0.here hx rfl (hb hby d4_4) rfl kq) ?_
  show G s₁ (mkF m 5 #[.val (.int p0), .val (.int p1)] [(.int (((p0.toUInt32 >>> (p1 &&& 31).toUInt32).toInt32) &&& (1 : Int32)))])
  by_cases hb1 : (((p0.toUInt32 >>> (p1 &&& 31).toUInt32).toInt32) &&& (1 : Int32)) = (0 : Int32)
  · refine hp (fun tq kq => XS.ifYes X0.here hx rfl (pc0 := 5) (pc' := 12) rfl (hb hby d4_5) rfl ((if0 _ _).trans (teq hb1).1) (by decide) (by decide) kq) ?_
    show G s₁ (mkF m 12 #[.val (.int p0), .val (.int p1)] [])
    refine hp (fun tq kq => XS.iconst X0.here hx rfl (hb hby d4_12) kq) ?_
    show G s₁ (mkF m 13 #[.val (.int p0), .val (.int p1)] [(.int (0 : Int32))])
    exact hR X0 (fun fs hl => retN X0 hx (t := .boolean) hret (by simp) (hb hby d4_13) hl) (fun q => by rw [hret] at q; cases q) ⟨(congrArg (fun q => some (Value.int q)) (if_pos hb1).symm), N0, e0⟩ (by decide) (by decide)
  · refine hp (fun tq kq => XS.ifNo X0.here hx rfl (hb hby d4_5) rfl ((if0 _ _).trans (feq hb1).1) kq) ?_
    show G s₁ (mkF m 8 #[.val (.int p0), .val (.int p1)] [])
    refine hp (fun tq kq => XS.iconst X0.here hx rfl (hb hby d4_8) kq) ?_
    show G s₁ (mkF m 9 #[.val (.int p0), .val (.int p1)] [(.int (1 : Int32))])
    refine hp (fun tq kq => XS.goto X0.here hx rfl (pc0 := 9) (pc' := 13) rfl (hb hby d4_9) (by decide) (by decide) kq) ?_
    show G s₁ (mkF m 13 #[.val (.int p0), .val (.int p1)] [(.int (1 : Int32))])
    exact hR X0 (fun fs hl => retN X0 hx (t := .boolean) hret (by simp) (hb hby d4_13) hl) (fun q => by rw [hret] at q; cases q) ⟨(congrArg (fun q => some (Value.int q)) (if_neg hb1).symm), N0, e0⟩ (by decide) (by decide)
theorem d2_0 : decode method_4_code 0 = .ok (.iload_n 1, 1) := by decide +kernel
theorem d2_1 : decode method_4_code 1 = .ok (.iload_n 2, 1) := by decide +kernel
theorem d2_2 : decode method_4_code 2 = .ok (.if_icmp .lt 19, 3) := by decide +kernel
theorem d2_5 : decode method_4_code 5 = .ok (.iload_n 1, 1) := by decide +kernel
theorem d2_6 : decode method_4_code 6 = .ok (.iload_n 3, 1) := by decide +kernel
theorem d2_7 : decode method_4_code 7 = .ok (.if_icmp .ge 14, 3) := by decide +kernel
theorem d2_10 : decode method_4_code 10 = .ok (.iload 4, 2) := by decide +kernel
theorem d2_12 : decode method_4_code 12 = .ok (.iload_n 1, 1) := by decide +kernel
theorem d2_13 : decode method_4_code 13 = .ok (.invokestatic 7, 3) := by decide +kernel
theorem d2_16 : decode method_4_code 16 = .ok (.ifCond .eq 5, 3) := by decide +kernel
theorem d2_19 : decode method_4_code 19 = .ok (.iload_n 1, 1) := by decide +kernel
theorem d2_20 : decode method_4_code 20 = .ok (.ireturn, 1) := by decide +kernel
theorem d2_21 : decode method_4_code 21 = .ok (.iload_n 0, 1) := by decide +kernel
theorem d2_22 : decode method_4_code 22 = .ok (.ireturn, 1) := by decide +kernel
theorem own_ef2 (m : MethodId) (p0 : Int32) (p1 : Int32) (p2 : Int32) (p3 : Int32) (p4 : Int32) : entryFrame m #[(.int p0), (.int p1), (.int p2), (.int p3), (.int p4)] 5 = mkF m 0 #[.val (.int p0), .val (.int p1), .val (.int p2), .val (.int p3), .val (.int p4)] [] := by first | (simp [entryFrame, mkF, argsToLocals, Value.category]; done) | rfl
def own_step (p0 : Int32) (p1 : Int32) (p2 : Int32) (p3 : Int32) (p4 : Int32) : Int32 := if p1 < p2 then p0 else if p1 < p3 then (if (own_tk p4 p1) = (0 : Int32) then p0 else p1) else p0
theorem own_pn2 : plainName "com/example/referent/referent/solver/IntTablesNextTakenPinLaw" = true := by first | (simp [plainName, overriddenIn]; done) | decide +kernel
set_option maxRecDepth 65536 in
set_option maxHeartbeats 40000000 in
theorem rm2 (l : Launch) (Z : State) (a0 : Array Value) (hw : ∀ d ∈ tables_1, d.before a0 Z = true) (ws : List Jvm.Cond) (p0 : Int32) (p1 : Int32) (p2 : Int32) (p3 : Int32) (p4 : Int32) (h0 : Heap) (n0 : Nat)  :
    MetFree l (⟨"com/example/referent/referent/solver/IntTablesNextTakenPinLaw", "step", "(IIIII)I"⟩ : MethodName) (head1 (Jvm.Cond.code (⟨"com/example/referent/referent/solver/IntTablesNextTakenPinLaw", "step", "(IIIII)I"⟩ : MethodName) method_4_code 5 (some .int) :: ws) ({ frames := 1, cells := 0, slots := 0, locals := 13 } : Room)) (fun a U => a = #[(.int p0), (.int p1), (.int p2), (.int p3), (.int p4)] ∧ Z.Warmed39 U.vm ∧ U.heap = h0) (fun _ _ _ _ _ => True) (fun _ U o U' => ∃ v L, o = .returned v ∧ own_Q (some (.int (own_step p0 p1 p2 p3 p4))) h0 n0 v U'.heap L ∧ FrameEnd U o U' L ({ frames := 1, cells := 0, slots := 0, locals := 13 } : Room).cells ({ frames := 1, cells := 0, slots := 0, locals := 13 } : Room).slots) := by
  refine own_contract (plainFor_of_name own_pn2) (fun m => own_ef2 m p0 p1 p2 p3 p4) ?_
  intro p e s m below meth c s₁ G hx hby hml0 hown0 hnm hret hZ X0 e0 hp hR
  have hml : c.maxLocals = 5 := hml0
  have hown : s.vm.findClass "com/example/referent/referent/solver/IntTablesNextTakenPinLaw" = some m.cls := hown0
  have N0 := Fr.nil n0
  show G s₁ (mkF m 0 #[.val (.int p0), .val (.int p1), .val (.int p2), .val (.int p3), .val (.int p4)] [])
  refine hp (fun tq kq => XS.iloadN X0.here hx rfl (hb hby d2_0) rfl kq) ?_
  show G s₁ (mkF m 1 #[.val (.int p0), .val (.int p1), .val (.int p2), .val (.int p3), .val (.int p4)] [(.int p1)])
  refine hp (fun tq kq => XS.iloadN X0.here hx rfl (hb hby d2_1) rfl kq) ?_
  show G s₁ (mkF m 2 #[.val (.int p0), .val (.int p1), .val (.int p2), .val (.int p3), .val (.int p4)] [(.int p2), (.int p1)])
  by_cases hb1 : p1 < p2
  · refine hp (fun tq kq => XS.icmpYes X0.here hx rfl (pc0 := 2) (pc' := 21) rfl (hb hby d2_2) rfl (tlt hb1).1 (by decide) (by decide) kq) ?_
    show G s₁ (mkF m 21 #[.val (.int p0), .val (.int p1), .val (.int p2), .val (.int p3), .val (.int p4)] [])
    refine hp (fun tq kq => XS.iloadN X0.here hx rfl (hb hby d2_21) rfl kq) ?_
    show G s₁ (mkF m 22 #[.val (.int p0), .val (.int p1), .val (.int p2), .val (.int p3), .val (.int p4)] [(.int p0)])
    exact hR X0 (fun fs hl => retI X0 hx hret (hb hby d2_22) hl) (fun q => by rw [hret] at q; cases q) ⟨(congrArg (fun q => some (Value.int q)) (if_pos hb1).symm), N0, e0⟩ (by decide) (by decide)
  · refine hp (fun tq kq => XS.icmpNo X0.here hx rfl (hb hby d2_2) rfl (flt hb1).1 kq) ?_
    show G s₁ (mkF m 5 #[.val (.int p0), .val (.int p1), .val (.int p2), .val (.int p3), .val (.int p4)] [])
    refine hp (fun tq kq => XS.iloadN X0.here hx rfl (hb hby d2_5) rfl kq) ?_
    show G s₁ (mkF m 6 #[.val (.int p0), .val (.int p1), .val (.int p2), .val (.int p3), .val (.int p4)] [(.int p1)])
    refine hp (fun tq kq => XS.iloadN X0.here hx rfl (hb hby d2_6) rfl kq) ?_
    show G s₁ (mkF m 7 #[.val (.int p0), .val (.int p1), .val (.int p2), .val (.int p3), .val (.int p4)] [(.int p3), (.int p1)])
    by_cases hb2 : p1 < p3
    · refine hp (fun tq kq => XS.icmpNo X0.here hx rfl (hb hby d2_7) rfl (tlt hb2).2.1 kq) ?_
      show G s₁ (mkF m 10 #[.val (.int p0), .val (.int p1), .val (.int p2), .val (.int p3), .val (.int p4)] [])
      refine hp (fun tq kq => XS.iload X0.here hx rfl (hb hby d2_10) rfl kq) ?_
      show G s₁ (mkF m 12 #[.val (.int p0), .val (.int p1), .val (.int p2), .val (.int p3), .val (.int p4)] [(.int p4)])
      refine hp (fun tq kq => XS.iloadN X0.here hx rfl (hb hby d2_12) rfl kq) ?_
      show G s₁ (mkF m 13 #[.val (.int p0), .val (.int p1), .val (.int p2), .val (.int p3), .val (.int p4)] [(.int p1), (.int p4)])
      obtain ⟨v3, T3, L3, X3, hQ3, st3⟩ := own_callS X0 hx hZ (y := (⟨"com/example/referent/referent/solver/IntTablesNextTakenPinLaw", "taken", "(II)Z"⟩ : MethodName)) (rm := ({ frames := 0, cells := 0, slots := 0, locals := 0 } : Room)) 0 hown (hw _ (List.mem_of_getElem? (i := 13) rfl)) (hw _ (List.mem_of_getElem? (i := 14) rfl)) (hw _ (List.mem_of_getElem? (i := 4) rfl)) (hw _ (List.mem_of_getElem? (i := 15) rfl)) (by decide) (rm4 l Z a0 hw [] p4 p1 h0 n0) e0 (by decide) (by decide) (g := (mkF m 13 #[.val (.int p0), .val (.int p1), .val (.int p2), .val (.int p3), .val (.int p4)] [(.int p1), (.int p4)])) rfl (by rw [hml]; rfl) [(.int p4), (.int p1)] [] own_pd0 rfl rfl (by show 2 * 0 + _ ≤ _; exact Nat.le_of_eq rfl) (hb hby d2_13) rfl (by decide) (by decide)
      obtain ⟨rfl, N3, e3⟩ := hQ3
      have F3 := Fr.app N0 N3
      refine hp st3 ?_
      show G T3 (mkF m 16 #[.val (.int p0), .val (.int p1), .val (.int p2), .val (.int p3), .val (.int p4)] [(.int (own_tk p4 p1))])
      by_cases hb4 : (own_tk p4 p1) = (0 : Int32)
      · refine hp (fun tq kq => XS.ifYes X3.here hx rfl (pc0 := 16) (pc' := 21) rfl (hb hby d2_16) rfl ((if0 _ _).trans (teq hb4).1) (by decide) (by decide) kq) ?_
        show G T3 (mkF m 21 #[.val (.int p0), .val (.int p1), .val (.int p2), .val (.int p3), .val (.int p4)] [])
        refine hp (fun tq kq => XS.iloadN X3.here hx rfl (hb hby d2_21) rfl kq) ?_
        show G T3 (mkF m 22 #[.val (.int p0), .val (.int p1), .val (.int p2), .val (.int p3), .val (.int p4)] [(.int p0)])
        exact hR X3 (fun fs hl => retI X3 hx hret (hb hby d2_22) hl) (fun q => by rw [hret] at q; cases q) ⟨(congrArg (fun q => some (Value.int q)) ((if_neg hb1).trans ((if_pos hb2).trans (if_pos hb4))).symm), F3, e3⟩ (by decide) (by decide)
      · refine hp (fun tq kq => XS.ifNo X3.here hx rfl (hb hby d2_16) rfl ((if0 _ _).trans (feq hb4).1) kq) ?_
        show G T3 (mkF m 19 #[.val (.int p0), .val (.int p1), .val (.int p2), .val (.int p3), .val (.int p4)] [])
        refine hp (fun tq kq => XS.iloadN X3.here hx rfl (hb hby d2_19) rfl kq) ?_
        show G T3 (mkF m 20 #[.val (.int p0), .val (.int p1), .val (.int p2), .val (.int p3), .val (.int p4)] [(.int p1)])
        exact hR X3 (fun fs hl => retI X3 hx hret (hb hby d2_20) hl) (fun q => by rw [hret] at q; cases q) ⟨(congrArg (fun q => some (Value.int q)) ((if_neg hb1).trans ((if_pos hb2).trans (if_neg hb4))).symm), F3, e3⟩ (by decide) (by decide)
    · refine hp (fun tq kq => XS.icmpYes X0.here hx rfl (pc0 := 7) (pc' := 21) rfl (hb hby d2_7) rfl (flt hb2).2.1 (by decide) (by decide) kq) ?_
      show G s₁ (mkF m 21 #[.val (.int p0), .val (.int p1), .val (.int p2), .val (.int p3), .val (.int p4)] [])
      refine hp (fun tq kq => XS.iloadN X0.here hx rfl (hb hby d2_21) rfl kq) ?_
      show G s₁ (mkF m 22 #[.val (.int p0), .val (.int p1), .val (.int p2), .val (.int p3), .val (.int p4)] [(.int p0)])
      exact hR X0 (fun fs hl => retI X0 hx hret (hb hby d2_22) hl) (fun q => by rw [hret] at q; cases q) ⟨(congrArg (fun q => some (Value.int q)) ((if_neg hb1).trans (if_neg hb2)).symm), N0, e0⟩ (by decide) (by decide)
theorem d1_0 : decode method_3_code 0 = .ok (.iload_n 1, 1) := by decide +kernel
theorem d1_1 : decode method_3_code 1 = .ok (.aload_n 0, 1) := by decide +kernel
theorem d1_2 : decode method_3_code 2 = .ok (.arraylength, 1) := by decide +kernel
theorem d1_3 : decode method_3_code 3 = .ok (.if_icmp .ge 24, 3) := by decide +kernel
theorem d1_6 : decode method_3_code 6 = .ok (.aload_n 0, 1) := by decide +kernel
theorem d1_7 : decode method_3_code 7 = .ok (.iload_n 1, 1) := by decide +kernel
theorem d1_8 : decode method_3_code 8 = .ok (.iload_n 2, 1) := by decide +kernel
theorem d1_9 : decode method_3_code 9 = .ok (.iload_n 1, 1) := by decide +kernel
theorem d1_10 : decode method_3_code 10 = .ok (.invokestatic 7, 3) := by decide +kernel
theorem d1_13 : decode method_3_code 13 = .ok (.ifCond .eq 12, 3) := by decide +kernel
theorem d1_16 : decode method_3_code 16 = .ok (.iload_n 3, 1) := by decide +kernel
theorem d1_17 : decode method_3_code 17 = .ok (.iload_n 1, 1) := by decide +kernel
theorem d1_18 : decode method_3_code 18 = .ok (.iadd, 1) := by decide +kernel
theorem d1_19 : decode method_3_code 19 = .ok (.ldc 13, 2) := by decide +kernel
theorem d1_21 : decode method_3_code 21 = .ok (.iand, 1) := by decide +kernel
theorem d1_22 : decode method_3_code 22 = .ok (.goto 4, 3) := by decide +kernel
theorem d1_25 : decode method_3_code 25 = .ok (.iconst (-1), 1) := by decide +kernel
theorem d1_26 : decode method_3_code 26 = .ok (.iastore, 1) := by decide +kernel
theorem d1_27 : decode method_3_code 27 = .ok (.return_, 1) := by decide +kernel
theorem own_ef1 (m : MethodId) (p0 : Addr) (p1 : Int32) (p2 : Int32) (p3 : Int32) : entryFrame m #[(.ref p0), (.int p1), (.int p2), (.int p3)] 4 = mkF m 0 #[.val (.ref p0), .val (.int p1), .val (.int p2), .val (.int p3)] [] := by first | (simp [entryFrame, mkF, argsToLocals, Value.category]; done) | rfl
def own_pt (f : Nat → Int32) (i0 : Nat) (N p1 p2 p3 : Int32) : Nat → Int32 := if p1 < N then own_up f i0 (if (own_tk p2 p1) = (0 : Int32) then (-1 : Int32) else ((p3 + p1) &&& (2147483647 : Int32))) else f
theorem own_pt_no {f : Nat → Int32} {i0 : Nat} {N p1 p2 p3 : Int32} (h : ¬ p1 < N) : f = own_pt f i0 N p1 p2 p3 := (if_neg h).symm
theorem own_pt_yes {f : Nat → Int32} {i0 : Nat} {N p1 p2 p3 z : Int32} (h : p1 < N) (hz : z = (if (own_tk p2 p1) = (0 : Int32) then (-1 : Int32) else ((p3 + p1) &&& (2147483647 : Int32)))) : own_up f i0 z = own_pt f i0 N p1 p2 p3 := by subst hz; exact (if_pos h).symm
theorem own_lt {Z : State} {h : Heap} {a : Addr} {n i0 : Nat} {N p1 : Int32} {f : Nat → Int32} (hN : n.toInt32 = N) (V : own_AI Z h a .int n f) (hi : p1.toNatClampNeg = i0 ∧ ¬ p1 < 0) (hl : p1 < N) : i0 < n := by
  obtain ⟨c, -, -, B, -⟩ := V
  have h1 : N.toInt = (n : Int) := by rw [← hN]; exact Int32.toInt_ofNat_of_lt (by omega)
  have h2 := nat_of hi.2
  have h3 := Int32.lt_iff_toInt_lt.mp hl
  omega
abbrev own_Q2 (Z : State) (p0 : Addr) (n : Nat) (N : Int32) (i0 : Nat) (p1 p2 p3 : Int32) (f : Nat → Int32) (h0 : Heap) (n0 : Nat) (v : Option Value) (h : Heap) (L : List Loc) : Prop := v = none ∧ Fr n0 L ∧ Keep h0 h [p0] ∧ own_AI Z h p0 .int n (own_pt f i0 N p1 p2 p3)
theorem own_pn1 : plainName "com/example/referent/referent/solver/IntTablesNextTakenPinLaw" = true := by first | (simp [plainName, overriddenIn]; done) | decide +kernel
set_option maxRecDepth 65536 in
set_option maxHeartbeats 40000000 in
theorem rm1 (l : Launch) (Z : State) (a0 : Array Value) (hw : ∀ d ∈ tables_1, d.before a0 Z = true) (ws : List Jvm.Cond) (p0 : Addr) (p1 : Int32) (p2 : Int32) (p3 : Int32) (n : Nat) (N : Int32) (i0 : Nat) (f : Nat → Int32) (h0 : Heap) (n0 : Nat) (hN : n.toInt32 = N) (hi : p1.toNatClampNeg = i0 ∧ ¬ p1 < 0) (V_p0 : own_AI Z h0 p0 .int n f) (g_p0 : n0 ≤ p0) :
    MetFree l (⟨"com/example/referent/referent/solver/IntTablesNextTakenPinLaw", "put", "([IIII)V"⟩ : MethodName) (head1 (Jvm.Cond.code (⟨"com/example/referent/referent/solver/IntTablesNextTakenPinLaw", "put", "([IIII)V"⟩ : MethodName) method_3_code 4 none :: ws) ({ frames := 1, cells := 0, slots := 0, locals := 15 } : Room)) (fun a U => a = #[(.ref p0), (.int p1), (.int p2), (.int p3)] ∧ Z.Warmed39 U.vm ∧ U.heap = h0) (fun _ _ _ _ _ => True) (fun _ U o U' => ∃ v L, o = .returned v ∧ own_Q2 Z p0 n N i0 p1 p2 p3 f h0 n0 v U'.heap L ∧ FrameEnd U o U' L ({ frames := 1, cells := 0, slots := 0, locals := 15 } : Room).cells ({ frames := 1, cells := 0, slots := 0, locals := 15 } : Room).slots) := by
  refine own_contract (plainFor_of_name own_pn1) (fun m => own_ef1 m p0 p1 p2 p3) ?_
  intro p e s m below meth c s₁ G hx hby hml0 hown0 hnm hret hZ X0 e0 hp hR
  have hml : c.maxLocals = 4 := hml0
  have hown : s.vm.findClass "com/example/referent/referent/solver/IntTablesNextTakenPinLaw" = some m.cls := hown0
  have N0 := Fr.nil n0
  show G s₁ (mkF m 0 #[.val (.ref p0), .val (.int p1), .val (.int p2), .val (.int p3)] [])
  have K0 : Keep h0 h0 [p0] := Keep.refl _ _
  refine hp (fun tq kq => XS.iloadN X0.here hx rfl (hb hby d1_0) rfl kq) ?_
  show G s₁ (mkF m 1 #[.val (.ref p0), .val (.int p1), .val (.int p2), .val (.int p3)] [(.int p1)])
  refine hp (fun tq kq => XS.aloadN X0.here hx rfl (hb hby d1_1) rfl rfl kq) ?_
  show G s₁ (mkF m 2 #[.val (.ref p0), .val (.int p1), .val (.int p2), .val (.int p3)] [(.ref p0), (.int p1)])
  refine hp (own_lenI X0 hx hZ e0 V_p0 N hN (g := (mkF m 2 #[.val (.ref p0), .val (.int p1), .val (.int p2), .val (.int p3)] [(.ref p0), (.int p1)])) rfl rfl (hb hby d1_2)) ?_
  show G s₁ (mkF m 3 #[.val (.ref p0), .val (.int p1), .val (.int p2), .val (.int p3)] [(.int N), (.int p1)])
  by_cases hb1 : p1 < N
  · refine hp (fun tq kq => XS.icmpNo X0.here hx rfl (hb hby d1_3) rfl (tlt hb1).2.1 kq) ?_
    show G s₁ (mkF m 6 #[.val (.ref p0), .val (.int p1), .val (.int p2), .val (.int p3)] [])
    refine hp (fun tq kq => XS.aloadN X0.here hx rfl (hb hby d1_6) rfl rfl kq) ?_
    show G s₁ (mkF m 7 #[.val (.ref p0), .val (.int p1), .val (.int p2), .val (.int p3)] [(.ref p0)])
    refine hp (fun tq kq => XS.iloadN X0.here hx rfl (hb hby d1_7) rfl kq) ?_
    show G s₁ (mkF m 8 #[.val (.ref p0), .val (.int p1), .val (.int p2), .val (.int p3)] [(.int p1), (.ref p0)])
    refine hp (fun tq kq => XS.iloadN X0.here hx rfl (hb hby d1_8) rfl kq) ?_
    show G s₁ (mkF m 9 #[.val (.ref p0), .val (.int p1), .val (.int p2), .val (.int p3)] [(.int p2), (.int p1), (.ref p0)])
    refine hp (fun tq kq => XS.iloadN X0.here hx rfl (hb hby d1_9) rfl kq) ?_
    show G s₁ (mkF m 10 #[.val (.ref p0), .val (.int p1), .val (.int p2), .val (.int p3)] [(.int p1), (.int p2), (.int p1), (.ref p0)])
    obtain ⟨v2, T2, L2, X2, hQ2, st2⟩ := own_callS X0 hx hZ (y := (⟨"com/example/referent/referent/solver/IntTablesNextTakenPinLaw", "taken", "(II)Z"⟩ : MethodName)) (rm := ({ frames := 0, cells := 0, slots := 0, locals := 0 } : Room)) 2 hown (hw _ (List.mem_of_getElem? (i := 13) rfl)) (hw _ (List.mem_of_getElem? (i := 14) rfl)) (hw _ (List.mem_of_getElem? (i := 4) rfl)) (hw _ (List.mem_of_getElem? (i := 15) rfl)) (by decide) (rm4 l Z a0 hw [] p2 p1 h0 n0) e0 (by decide) (by decide) (g := (mkF m 10 #[.val (.ref p0), .val (.int p1), .val (.int p2), .val (.int p3)] [(.int p1), (.int p2), (.int p1), (.ref p0)])) rfl (by rw [hml]; rfl) [(.int p2), (.int p1)] [(.int p1), (.ref p0)] own_pd0 rfl rfl (by show 2 * 0 + _ ≤ _; exact Nat.le_of_eq rfl) (hb hby d1_10) rfl (by decide) (by decide)
    obtain ⟨rfl, N2, e2⟩ := hQ2
    have F2 := Fr.app N0 N2
    refine hp st2 ?_
    show G T2 (mkF m 13 #[.val (.ref p0), .val (.int p1), .val (.int p2), .val (.int p3)] [(.int (own_tk p2 p1)), (.int p1), (.ref p0)])
    have j3 : ∀ (z4 : Int32), z4 = (if (own_tk p2 p1) = (0 : Int32) then (-1 : Int32) else ((p3 + p1) &&& (2147483647 : Int32))) → G T2 (mkF m 26 #[.val (.ref p0), .val (.int p1), .val (.int p2), .val (.int p3)] [(.int z4), (.int p1), (.ref p0)]) := by
      intro z4 hz4
      obtain ⟨T5, h5, X5, e5, W5, V5_p0, st5⟩ := own_stI X2 hx hZ e2 V_p0 (j := p1) i0 hi.1 hi.2 (own_lt hN V_p0 hi hb1) (g := (mkF m 26 #[.val (.ref p0), .val (.int p1), .val (.int p2), .val (.int p3)] [(.int z4), (.int p1), (.ref p0)])) rfl rfl (hb hby d1_26)
      have K5 := K0.wr W5 (Or.inl (by simp))
      have N5 := Fr.snoc X5 F2 g_p0
      refine hp st5 ?_
      show G T5 (mkF m 27 #[.val (.ref p0), .val (.int p1), .val (.int p2), .val (.int p3)] [])
      exact hR X5 (fun fs hl => X5.returnOut hx hret (hb hby d1_27) hl) (fun _ => rfl) (by rw [e5]; exact ⟨rfl, N5, K5, (own_pt_yes hb1 hz4) ▸ V5_p0⟩) (by decide) (by decide)
    by_cases hb6 : (own_tk p2 p1) = (0 : Int32)
    · refine hp (fun tq kq => XS.ifYes X2.here hx rfl (pc0 := 13) (pc' := 25) rfl (hb hby d1_13) rfl ((if0 _ _).trans (teq hb6).1) (by decide) (by decide) kq) ?_
      show G T2 (mkF m 25 #[.val (.ref p0), .val (.int p1), .val (.int p2), .val (.int p3)] [(.int p1), (.ref p0)])
      refine hp (fun tq kq => XS.iconst X2.here hx rfl (hb hby d1_25) kq) ?_
      show G T2 (mkF m 26 #[.val (.ref p0), .val (.int p1), .val (.int p2), .val (.int p3)] [(.int (-1 : Int32)), (.int p1), (.ref p0)])
      exact j3 _ ((if_pos hb6)).symm
    · refine hp (fun tq kq => XS.ifNo X2.here hx rfl (hb hby d1_13) rfl ((if0 _ _).trans (feq hb6).1) kq) ?_
      show G T2 (mkF m 16 #[.val (.ref p0), .val (.int p1), .val (.int p2), .val (.int p3)] [(.int p1), (.ref p0)])
      refine hp (fun tq kq => XS.iloadN X2.here hx rfl (hb hby d1_16) rfl kq) ?_
      show G T2 (mkF m 17 #[.val (.ref p0), .val (.int p1), .val (.int p2), .val (.int p3)] [(.int p3), (.int p1), (.ref p0)])
      refine hp (fun tq kq => XS.iloadN X2.here hx rfl (hb hby d1_17) rfl kq) ?_
      show G T2 (mkF m 18 #[.val (.ref p0), .val (.int p1), .val (.int p2), .val (.int p3)] [(.int p1), (.int p3), (.int p1), (.ref p0)])
      refine hp (fun tq kq => XS.iadd X2.here hx rfl (hb hby d1_18) rfl kq) ?_
      show G T2 (mkF m 19 #[.val (.ref p0), .val (.int p1), .val (.int p2), .val (.int p3)] [(.int (p3 + p1)), (.int p1), (.ref p0)])
      refine hp (fun tq kq => X2.ldcInt hx hown (mvT hZ (hw _ (List.mem_of_getElem? (i := 0) rfl))) (g := (mkF m 19 #[.val (.ref p0), .val (.int p1), .val (.int p2), .val (.int p3)] [(.int (p3 + p1)), (.int p1), (.ref p0)])) rfl (hb hby d1_19) _ kq) ?_
      show G T2 (mkF m 21 #[.val (.ref p0), .val (.int p1), .val (.int p2), .val (.int p3)] [(.int (2147483647 : Int32)), (.int (p3 + p1)), (.int p1), (.ref p0)])
      refine hp (fun tq kq => XS.iand X2.here hx rfl (hb hby d1_21) rfl kq) ?_
      show G T2 (mkF m 22 #[.val (.ref p0), .val (.int p1), .val (.int p2), .val (.int p3)] [(.int ((p3 + p1) &&& (2147483647 : Int32))), (.int p1), (.ref p0)])
      refine hp (fun tq kq => XS.goto X2.here hx rfl (pc0 := 22) (pc' := 26) rfl (hb hby d1_22) (by decide) (by decide) kq) ?_
      show G T2 (mkF m 26 #[.val (.ref p0), .val (.int p1), .val (.int p2), .val (.int p3)] [(.int ((p3 + p1) &&& (2147483647 : Int32))), (.int p1), (.ref p0)])
      exact j3 _ ((if_neg hb6)).symm
  · refine hp (fun tq kq => XS.icmpYes X0.here hx rfl (pc0 := 3) (pc' := 27) rfl (hb hby d1_3) rfl (flt hb1).2.1 (by decide) (by decide) kq) ?_
    show G s₁ (mkF m 27 #[.val (.ref p0), .val (.int p1), .val (.int p2), .val (.int p3)] [])
    exact hR X0 (fun fs hl => X0.returnOut hx hret (hb hby d1_27) hl) (fun _ => rfl) (by rw [e0]; exact ⟨rfl, N0, K0, (own_pt_no hb1) ▸ V_p0⟩) (by decide) (by decide)
theorem d3_0 : decode prog_75_method_6_code 0 = .ok (.iload_n 1, 1) := by decide +kernel
theorem d3_1 : decode prog_75_method_6_code 1 = .ok (.istore_n 2, 1) := by decide +kernel
theorem d3_2 : decode prog_75_method_6_code 2 = .ok (.iload_n 2, 1) := by decide +kernel
theorem d3_3 : decode prog_75_method_6_code 3 = .ok (.aload_n 0, 1) := by decide +kernel
theorem d3_4 : decode prog_75_method_6_code 4 = .ok (.arraylength, 1) := by decide +kernel
theorem d3_5 : decode prog_75_method_6_code 5 = .ok (.if_icmp .ge 16, 3) := by decide +kernel
theorem d3_8 : decode prog_75_method_6_code 8 = .ok (.aload_n 0, 1) := by decide +kernel
theorem d3_9 : decode prog_75_method_6_code 9 = .ok (.iload_n 2, 1) := by decide +kernel
theorem d3_10 : decode prog_75_method_6_code 10 = .ok (.iaload, 1) := by decide +kernel
theorem d3_11 : decode prog_75_method_6_code 11 = .ok (.iconst (-1), 1) := by decide +kernel
theorem d3_12 : decode prog_75_method_6_code 12 = .ok (.if_icmp .ne 9, 3) := by decide +kernel
theorem d3_15 : decode prog_75_method_6_code 15 = .ok (.iinc 2 1, 3) := by decide +kernel
theorem d3_18 : decode prog_75_method_6_code 18 = .ok (.goto (-16), 3) := by decide +kernel
theorem d3_21 : decode prog_75_method_6_code 21 = .ok (.iload_n 2, 1) := by decide +kernel
theorem d3_22 : decode prog_75_method_6_code 22 = .ok (.ireturn, 1) := by decide +kernel
theorem own_ef3 (m : MethodId) (p0 : Addr) (p1 : Int32) : entryFrame m #[(.ref p0), (.int p1)] 3 = mkF m 0 #[.val (.ref p0), .val (.int p1), .unset] [] := by first | (simp [entryFrame, mkF, argsToLocals, Value.category]; done) | rfl
def own_first (n s0 : Nat) (f : Nat → Int32) (r : Int32) (r0 : Nat) : Prop := r.toInt = (r0 : Int) ∧ s0 ≤ r0 ∧ r0 ≤ n ∧ (∀ j, s0 ≤ j → j < r0 → f j = (-1 : Int32)) ∧ (r0 < n → ¬ f r0 = (-1 : Int32))
abbrev own_Q3 (n s0 : Nat) (f : Nat → Int32) (h0 : Heap) (n0 : Nat) (v : Option Value) (h : Heap) (L : List Loc) : Prop := ∃ (r : Int32) (r0 : Nat), v = some (.int r) ∧ own_first n s0 f r r0 ∧ Fr n0 L ∧ h = h0
def own_inv (f : Nat → Int32) (n s0 t d : Nat) (iv : Int32) : Prop := s0 + t + d = n ∧ n < 2147483648 ∧ iv.toInt = ((s0 + t : Nat) : Int) ∧ ∀ j, s0 ≤ j → j < s0 + t → f j = (-1 : Int32)
theorem own_nx {f : Nat → Int32} {n s0 t d : Nat} {iv : Int32} (hI : own_inv f n s0 t d iv) : iv.toNatClampNeg = s0 + t ∧ ¬ iv < 0 := by
  obtain ⟨h1, h2, h3, -⟩ := hI
  have h0 : (0 : Int32).toInt = 0 := by decide
  rw [Int32.lt_iff_toInt_lt, h0, Int32.toNatClampNeg]
  omega
theorem own_len {Z : State} {h : Heap} {a : Addr} {n : Nat} {N : Int32} {f : Nat → Int32} (hN : n.toInt32 = N) (V : own_AI Z h a .int n f) : N.toInt = (n : Int) := by
  obtain ⟨c, -, -, B, -⟩ := V
  rw [← hN]; exact Int32.toInt_ofNat_of_lt (by omega)
theorem own_end {Z : State} {h : Heap} {a : Addr} {f : Nat → Int32} {n s0 t : Nat} {N iv : Int32} (hN : n.toInt32 = N) (V : own_AI Z h a .int n f) (hI : own_inv f n s0 t 0 iv) : ¬ iv < N := by
  have h1 := own_len hN V
  obtain ⟨h2, -, h3, -⟩ := hI
  rw [Int32.lt_iff_toInt_lt]; omega
theorem own_in {Z : State} {h : Heap} {a : Addr} {f : Nat → Int32} {n s0 t d : Nat} {N iv : Int32} (hN : n.toInt32 = N) (V : own_AI Z h a .int n f) (hI : own_inv f n s0 t (d + 1) iv) : iv < N := by
  have h1 := own_len hN V
  obtain ⟨h2, -, h3, -⟩ := hI
  rw [Int32.lt_iff_toInt_lt]; omega
theorem own_more {f : Nat → Int32} {n s0 t d : Nat} {iv : Int32} (hI : own_inv f n s0 t (d + 1) iv) (hf : f (s0 + t) = (-1 : Int32)) : own_inv f n s0 (t + 1) d (iv + (1 : Int32)) := by
  obtain ⟨h1, h2, h3, h4⟩ := hI
  have h5 := c_iadd iv 1
  have h6 := rng32 (iv + 1)
  have h7 : (1 : Int32).toInt = 1 := by decide
  refine ⟨by omega, h2, by omega, fun j hj hk => ?_⟩
  by_cases q : j = s0 + t
  · rw [q]; exact hf
  · exact h4 j hj (by omega)
theorem own_begin (f : Nat → Int32) {n s0 : Nat} {p1 : Int32} (hs : p1.toInt = (s0 : Int) ∧ s0 ≤ n ∧ n < 2147483648) : own_inv f n s0 0 (n - s0) p1 := ⟨by omega, hs.2.2, by omega, fun j hj hk => by omega⟩
theorem own_atend {f : Nat → Int32} {n s0 t : Nat} {iv : Int32} (hI : own_inv f n s0 t 0 iv) : own_first n s0 f iv (s0 + t) := by
  obtain ⟨h1, h2, h3, h4⟩ := hI
  exact ⟨h3, by omega, by omega, h4, fun q => by omega⟩
theorem own_found {f : Nat → Int32} {n s0 t d : Nat} {iv : Int32} (hI : own_inv f n s0 t (d + 1) iv) (hf : ¬ f (s0 + t) = (-1 : Int32)) : own_first n s0 f iv (s0 + t) := by
  obtain ⟨h1, h2, h3, h4⟩ := hI
  exact ⟨h3, by omega, by omega, h4, fun _ => hf⟩
theorem own_pn3 : plainName "com/example/referent/referent/solver/IntTables" = true := by first | (simp [plainName, overriddenIn]; done) | decide +kernel
set_option maxRecDepth 65536 in
set_option maxHeartbeats 40000000 in
theorem rm3 (l : Launch) (Z : State) (a0 : Array Value) (hw : ∀ d ∈ tables_1, d.before a0 Z = true) (ws : List Jvm.Cond) (p0 : Addr) (p1 : Int32) (n : Nat) (N : Int32) (s0 : Nat) (f : Nat → Int32) (h0 : Heap) (n0 : Nat) (hN : n.toInt32 = N) (hs : p1.toInt = (s0 : Int) ∧ s0 ≤ n ∧ n < 2147483648) (V_p0 : own_AI Z h0 p0 .int n f) :
    MetFree l (⟨"com/example/referent/referent/solver/IntTables", "nextTaken", "([II)I"⟩ : MethodName) (head1 (Jvm.Cond.code (⟨"com/example/referent/referent/solver/IntTables", "nextTaken", "([II)I"⟩ : MethodName) prog_75_method_6_code 3 (some .int) :: ws) ({ frames := 0, cells := 0, slots := 0, locals := 0 } : Room)) (fun a U => a = #[(.ref p0), (.int p1)] ∧ Z.Warmed39 U.vm ∧ U.heap = h0) (fun _ _ _ _ _ => True) (fun _ U o U' => ∃ v L, o = .returned v ∧ own_Q3 n s0 f h0 n0 v U'.heap L ∧ FrameEnd U o U' L ({ frames := 0, cells := 0, slots := 0, locals := 0 } : Room).cells ({ frames := 0, cells := 0, slots := 0, locals := 0 } : Room).slots) := by
  refine own_contract (plainFor_of_name own_pn3) (fun m => own_ef3 m p0 p1) ?_
  intro p e s m below meth c s₁ G hx hby hml0 hown0 hnm hret hZ X0 e0 hp hR
  have hml : c.maxLocals = 3 := hml0
  have hown : s.vm.findClass "com/example/referent/referent/solver/IntTables" = some m.cls := hown0
  have N0 := Fr.nil n0
  show G s₁ (mkF m 0 #[.val (.ref p0), .val (.int p1), .unset] [])
  have K0 : Keep h0 h0 [] := Keep.refl _ _
  refine hp (fun tq kq => XS.iloadN X0.here hx rfl (hb hby d3_0) rfl kq) ?_
  show G s₁ (mkF m 1 #[.val (.ref p0), .val (.int p1), .unset] [(.int p1)])
  refine hp (fun tq kq => XS.istoreN X0.here hx rfl (hb hby d3_1) rfl (l' := #[.val (.ref p0), .val (.int p1), .val (.int p1)]) rfl kq) ?_
  show G s₁ (mkF m 2 #[.val (.ref p0), .val (.int p1), .val (.int p1)] [])
  have loop : ∀ (d t : Nat) (iv : Int32), own_inv f n s0 t d iv → G s₁ (mkF m 2 #[.val (.ref p0), .val (.int p1), .val (.int iv)] []) := by
    intro d
    induction d with
    | zero =>
      intro t iv hI
      show G s₁ (mkF m 2 #[.val (.ref p0), .val (.int p1), .val (.int iv)] [])
      refine hp (fun tq kq => XS.iloadN X0.here hx rfl (hb hby d3_2) rfl kq) ?_
      show G s₁ (mkF m 3 #[.val (.ref p0), .val (.int p1), .val (.int iv)] [(.int iv)])
      refine hp (fun tq kq => XS.aloadN X0.here hx rfl (hb hby d3_3) rfl rfl kq) ?_
      show G s₁ (mkF m 4 #[.val (.ref p0), .val (.int p1), .val (.int iv)] [(.ref p0), (.int iv)])
      refine hp (own_lenI X0 hx hZ e0 V_p0 N hN (g := (mkF m 4 #[.val (.ref p0), .val (.int p1), .val (.int iv)] [(.ref p0), (.int iv)])) rfl rfl (hb hby d3_4)) ?_
      show G s₁ (mkF m 5 #[.val (.ref p0), .val (.int p1), .val (.int iv)] [(.int N), (.int iv)])
      refine hp (fun tq kq => XS.icmpYes X0.here hx rfl (pc0 := 5) (pc' := 21) rfl (hb hby d3_5) rfl (flt (own_end hN V_p0 hI)).2.1 (by decide) (by decide) kq) ?_
      show G s₁ (mkF m 21 #[.val (.ref p0), .val (.int p1), .val (.int iv)] [])
      refine hp (fun tq kq => XS.iloadN X0.here hx rfl (hb hby d3_21) rfl kq) ?_
      show G s₁ (mkF m 22 #[.val (.ref p0), .val (.int p1), .val (.int iv)] [(.int iv)])
      exact hR X0 (fun fs hl => retI X0 hx hret (hb hby d3_22) hl) (fun q => by rw [hret] at q; cases q) (by rw [e0]; exact ⟨iv, s0 + t, rfl, own_atend hI, N0, rfl⟩) (by decide) (by decide)
    | succ d ih =>
      intro t iv hI
      show G s₁ (mkF m 2 #[.val (.ref p0), .val (.int p1), .val (.int iv)] [])
      refine hp (fun tq kq => XS.iloadN X0.here hx rfl (hb hby d3_2) rfl kq) ?_
      show G s₁ (mkF m 3 #[.val (.ref p0), .val (.int p1), .val (.int iv)] [(.int iv)])
      refine hp (fun tq kq => XS.aloadN X0.here hx rfl (hb hby d3_3) rfl rfl kq) ?_
      show G s₁ (mkF m 4 #[.val (.ref p0), .val (.int p1), .val (.int iv)] [(.ref p0), (.int iv)])
      refine hp (own_lenI X0 hx hZ e0 V_p0 N hN (g := (mkF m 4 #[.val (.ref p0), .val (.int p1), .val (.int iv)] [(.ref p0), (.int iv)])) rfl rfl (hb hby d3_4)) ?_
      show G s₁ (mkF m 5 #[.val (.ref p0), .val (.int p1), .val (.int iv)] [(.int N), (.int iv)])
      refine hp (fun tq kq => XS.icmpNo X0.here hx rfl (hb hby d3_5) rfl (tlt (own_in hN V_p0 hI)).2.1 kq) ?_
      show G s₁ (mkF m 8 #[.val (.ref p0), .val (.int p1), .val (.int iv)] [])
      refine hp (fun tq kq => XS.aloadN X0.here hx rfl (hb hby d3_8) rfl rfl kq) ?_
      show G s₁ (mkF m 9 #[.val (.ref p0), .val (.int p1), .val (.int iv)] [(.ref p0)])
      refine hp (fun tq kq => XS.iloadN X0.here hx rfl (hb hby d3_9) rfl kq) ?_
      show G s₁ (mkF m 10 #[.val (.ref p0), .val (.int p1), .val (.int iv)] [(.int iv), (.ref p0)])
      refine hp (own_ldI X0 hx hZ e0 V_p0 (j := iv) (s0 + t) (own_nx hI).1 (own_nx hI).2 (by have := hI.1; omega) (g := (mkF m 10 #[.val (.ref p0), .val (.int p1), .val (.int iv)] [(.int iv), (.ref p0)])) rfl rfl (hb hby d3_10)) ?_
      show G s₁ (mkF m 11 #[.val (.ref p0), .val (.int p1), .val (.int iv)] [(.int (f (s0 + t)))])
      refine hp (fun tq kq => XS.iconst X0.here hx rfl (hb hby d3_11) kq) ?_
      show G s₁ (mkF m 12 #[.val (.ref p0), .val (.int p1), .val (.int iv)] [(.int (-1 : Int32)), (.int (f (s0 + t)))])
      by_cases hb1 : (f (s0 + t)) = (-1 : Int32)
      · refine hp (fun tq kq => XS.icmpNo X0.here hx rfl (hb hby d3_12) rfl (teq hb1).2 kq) ?_
        show G s₁ (mkF m 15 #[.val (.ref p0), .val (.int p1), .val (.int iv)] [])
        refine hp (fun tq kq => XS.iinc X0.here hx rfl (hb hby d3_15) rfl (l' := #[.val (.ref p0), .val (.int p1), .val (.int (iv + (1 : Int32)))]) rfl kq) ?_
        show G s₁ (mkF m 18 #[.val (.ref p0), .val (.int p1), .val (.int (iv + (1 : Int32)))] [])
        refine hp (fun tq kq => XS.goto X0.here hx rfl (pc0 := 18) (pc' := 2) rfl (hb hby d3_18) (by decide) (by decide) kq) ?_
        show G s₁ (mkF m 2 #[.val (.ref p0), .val (.int p1), .val (.int (iv + (1 : Int32)))] [])
        exact ih (t + 1) _ (own_more hI hb1)
      · refine hp (fun tq kq => XS.icmpYes X0.here hx rfl (pc0 := 12) (pc' := 21) rfl (hb hby d3_12) rfl (feq hb1).2 (by decide) (by decide) kq) ?_
        show G s₁ (mkF m 21 #[.val (.ref p0), .val (.int p1), .val (.int iv)] [])
        refine hp (fun tq kq => XS.iloadN X0.here hx rfl (hb hby d3_21) rfl kq) ?_
        show G s₁ (mkF m 22 #[.val (.ref p0), .val (.int p1), .val (.int iv)] [(.int iv)])
        exact hR X0 (fun fs hl => retI X0 hx hret (hb hby d3_22) hl) (fun q => by rw [hret] at q; cases q) (by rw [e0]; exact ⟨iv, s0 + t, rfl, own_found hI hb1, N0, rfl⟩) (by decide) (by decide)
  exact loop (n - s0) 0 p1 (own_begin f hs)
theorem own_size {p0 z1 z3 : Int32} (hz1 : z1 = ((p0 &&& (2147483647 : Int32)) % (5 : Int32))) (hz3 : z3 = (if z1 = (0 : Int32) then (0 : Int32) else ((1 : Int32) <<< ((z1 - (1 : Int32)) &&& 31)))) : ∃ n : Nat, z3.toNatClampNeg = n ∧ n ≤ 8 ∧ ¬ z3 < 0 ∧ n.toInt32 = z3 := by
  have h := c_mask p0 2147483647 31 (by decide) (by decide)
  have h2 := (c_irem (p0 &&& 2147483647) 5 5 (by decide)).1 (by omega)
  rw [← hz1] at h2
  have k : ∀ d : Int32, z1.toInt = d.toInt → z1 = d := fun d q => Int32.toInt_inj.mp q
  rcases (by omega : z1.toInt = 0 ∨ z1.toInt = 1 ∨ z1.toInt = 2 ∨ z1.toInt = 3 ∨ z1.toInt = 4) with e | e | e | e | e
  · have q := k 0 e; rw [q] at hz3; exact ⟨0, by rw [hz3]; decide, by decide, by rw [hz3]; decide, by rw [hz3]; decide⟩
  · have q := k 1 e; rw [q] at hz3; exact ⟨1, by rw [hz3]; decide, by decide, by rw [hz3]; decide, by rw [hz3]; decide⟩
  · have q := k 2 e; rw [q] at hz3; exact ⟨2, by rw [hz3]; decide, by decide, by rw [hz3]; decide, by rw [hz3]; decide⟩
  · have q := k 3 e; rw [q] at hz3; exact ⟨4, by rw [hz3]; decide, by decide, by rw [hz3]; decide, by rw [hz3]; decide⟩
  · have q := k 4 e; rw [q] at hz3; exact ⟨8, by rw [hz3]; decide, by decide, by rw [hz3]; decide, by rw [hz3]; decide⟩
theorem own_zlen {z : Int32} {n : Nat} (hn : z.toNatClampNeg = n) (hneg : ¬ z < 0) : z.toInt = (n : Int) := by rw [← hn]; exact nat_of hneg
theorem own_plus {z : Int32} {n : Nat} (hn : z.toNatClampNeg = n) (hneg : ¬ z < 0) (hn8 : n ≤ 8) : (z + 1).toInt = (n : Int) + 1 := by
  have a := own_zlen hn hneg
  have b := c_iadd z 1
  have e : (1 : Int32).toInt = 1 := by decide
  have r := rng32 (z + 1)
  rw [e, a] at b
  generalize (z + 1).toInt = y at *
  omega
theorem own_nz {z : Int32} {n : Nat} (hn : z.toNatClampNeg = n) (hneg : ¬ z < 0) (hn8 : n ≤ 8) : (z + (1 : Int32)) ≠ (0 : Int32) := fun q => by
  have a := own_plus hn hneg hn8
  rw [q] at a
  have e : (0 : Int32).toInt = 0 := by decide
  omega
theorem own_start {z y p3 : Int32} {n : Nat} (hn : z.toNatClampNeg = n) (hneg : ¬ z < 0) (hn8 : n ≤ 8) (hy : y = ((p3 &&& (2147483647 : Int32)) % (z + (1 : Int32)))) : ∃ s0 : Nat, y.toInt = (s0 : Int) ∧ s0 ≤ n ∧ n < 2147483648 := by
  have a := own_plus hn hneg hn8
  have b := c_mask p3 2147483647 31 (by decide) (by decide)
  have c := (c_irem (p3 &&& 2147483647) (z + 1) (n + 1) a).1 (by omega)
  rw [← hy] at c
  have d1 := Int.emod_nonneg (p3 &&& 2147483647).toInt (show ((n : Int) + 1) ≠ 0 by omega)
  have d2 := Int.emod_lt_of_pos (p3 &&& 2147483647).toInt (show 0 < ((n : Int) + 1) by omega)
  exact ⟨y.toInt.toNat, by omega, by omega, by omega⟩
theorem own_pt_ne (f : Nat → Int32) (i0 : Nat) (N a b c : Int32) (j : Nat) (h : j ≠ i0) : own_pt f i0 N a b c j = f j := by
  unfold own_pt own_up
  split
  · exact if_neg h
  · rfl
theorem own_pt_eq (f : Nat → Int32) (i0 : Nat) (N a b c : Int32) (h : a < N) : own_pt f i0 N a b c i0 = (if (own_tk b a) = (0 : Int32) then (-1 : Int32) else ((c + a) &&& (2147483647 : Int32))) := by
  unfold own_pt own_up
  rw [if_pos h, if_pos rfl]
theorem own_val (a b c : Int32) : (if (own_tk b a) = (0 : Int32) then (-1 : Int32) else ((c + a) &&& (2147483647 : Int32))) = (-1 : Int32) ↔ own_tk b a = 0 := by
  by_cases h : own_tk b a = 0
  · rw [if_pos h]; exact ⟨fun _ => h, fun _ => rfl⟩
  · rw [if_neg h]
    refine ⟨fun q => ?_, fun q => absurd q h⟩
    have m := c_mask (c + a) 2147483647 31 (by decide) (by decide)
    have e : (-1 : Int32).toInt = -1 := by decide
    rw [q, e] at m
    exfalso
    generalize (c + a).toInt = y at *
    omega
theorem own_law {p1 p2 z3 z13 rv z15 z17 z19 z21 z23 z25 z27 z29 : Int32} {n s0 r0 : Nat} {f f5 f6 f7 f8 f9 f10 f11 f12 : Nat → Int32} (hn : z3.toNatClampNeg = n) (hneg : ¬ z3 < 0) (hn8 : n ≤ 8) (hs : z13.toInt = (s0 : Int) ∧ s0 ≤ n ∧ n < 2147483648) (hr0 : own_first n s0 f12 rv r0)
    (h5 : f5 = own_pt f 0 z3 (0 : Int32) p1 p2) (h6 : f6 = own_pt f5 1 z3 (1 : Int32) p1 p2) (h7 : f7 = own_pt f6 2 z3 (2 : Int32) p1 p2) (h8 : f8 = own_pt f7 3 z3 (3 : Int32) p1 p2) (h9 : f9 = own_pt f8 4 z3 (4 : Int32) p1 p2) (h10 : f10 = own_pt f9 5 z3 (5 : Int32) p1 p2) (h11 : f11 = own_pt f10 6 z3 (6 : Int32) p1 p2) (h12 : f12 = own_pt f11 7 z3 (7 : Int32) p1 p2)
    (k15 : z15 = own_step z3 (7 : Int32) z13 z3 p1) (k17 : z17 = own_step z15 (6 : Int32) z13 z3 p1) (k19 : z19 = own_step z17 (5 : Int32) z13 z3 p1) (k21 : z21 = own_step z19 (4 : Int32) z13 z3 p1) (k23 : z23 = own_step z21 (3 : Int32) z13 z3 p1) (k25 : z25 = own_step z23 (2 : Int32) z13 z3 p1) (k27 : z27 = own_step z25 (1 : Int32) z13 z3 p1) (k29 : z29 = own_step z27 (0 : Int32) z13 z3 p1) : rv = z29 := by
  have hl := own_zlen hn hneg
  have hi : ∀ i : Nat, i < 8 → (Int32.ofNat i).toInt = (i : Int) := fun i h => Int32.toInt_ofNat_of_lt (by omega)
  have hlt : ∀ i : Nat, i < 8 → i < n → Int32.ofNat i < z3 := fun i h h' => by rw [Int32.lt_iff_toInt_lt, hi i h, hl]; omega
  have hF : ∀ j, j < n → (f12 j = (-1 : Int32) ↔ own_tk p1 (Int32.ofNat j) = 0) := by
    intro j hj
    have hj8 : j < 8 := by omega
    rcases (by omega : j = 0 ∨ j = 1 ∨ j = 2 ∨ j = 3 ∨ j = 4 ∨ j = 5 ∨ j = 6 ∨ j = 7) with e | e | e | e | e | e | e | e <;> subst e
    · rw [h12, own_pt_ne _ _ _ _ _ _ _ (by decide), h11, own_pt_ne _ _ _ _ _ _ _ (by decide), h10, own_pt_ne _ _ _ _ _ _ _ (by decide), h9, own_pt_ne _ _ _ _ _ _ _ (by decide), h8, own_pt_ne _ _ _ _ _ _ _ (by decide), h7, own_pt_ne _ _ _ _ _ _ _ (by decide), h6, own_pt_ne _ _ _ _ _ _ _ (by decide), h5, own_pt_eq _ 0 z3 (0 : Int32) _ _ (hlt 0 hj8 hj)]; exact own_val _ _ _
    · rw [h12, own_pt_ne _ _ _ _ _ _ _ (by decide), h11, own_pt_ne _ _ _ _ _ _ _ (by decide), h10, own_pt_ne _ _ _ _ _ _ _ (by decide), h9, own_pt_ne _ _ _ _ _ _ _ (by decide), h8, own_pt_ne _ _ _ _ _ _ _ (by decide), h7, own_pt_ne _ _ _ _ _ _ _ (by decide), h6, own_pt_eq _ 1 z3 (1 : Int32) _ _ (hlt 1 hj8 hj)]; exact own_val _ _ _
    · rw [h12, own_pt_ne _ _ _ _ _ _ _ (by decide), h11, own_pt_ne _ _ _ _ _ _ _ (by decide), h10, own_pt_ne _ _ _ _ _ _ _ (by decide), h9, own_pt_ne _ _ _ _ _ _ _ (by decide), h8, own_pt_ne _ _ _ _ _ _ _ (by decide), h7, own_pt_eq _ 2 z3 (2 : Int32) _ _ (hlt 2 hj8 hj)]; exact own_val _ _ _
    · rw [h12, own_pt_ne _ _ _ _ _ _ _ (by decide), h11, own_pt_ne _ _ _ _ _ _ _ (by decide), h10, own_pt_ne _ _ _ _ _ _ _ (by decide), h9, own_pt_ne _ _ _ _ _ _ _ (by decide), h8, own_pt_eq _ 3 z3 (3 : Int32) _ _ (hlt 3 hj8 hj)]; exact own_val _ _ _
    · rw [h12, own_pt_ne _ _ _ _ _ _ _ (by decide), h11, own_pt_ne _ _ _ _ _ _ _ (by decide), h10, own_pt_ne _ _ _ _ _ _ _ (by decide), h9, own_pt_eq _ 4 z3 (4 : Int32) _ _ (hlt 4 hj8 hj)]; exact own_val _ _ _
    · rw [h12, own_pt_ne _ _ _ _ _ _ _ (by decide), h11, own_pt_ne _ _ _ _ _ _ _ (by decide), h10, own_pt_eq _ 5 z3 (5 : Int32) _ _ (hlt 5 hj8 hj)]; exact own_val _ _ _
    · rw [h12, own_pt_ne _ _ _ _ _ _ _ (by decide), h11, own_pt_eq _ 6 z3 (6 : Int32) _ _ (hlt 6 hj8 hj)]; exact own_val _ _ _
    · rw [h12, own_pt_eq _ 7 z3 (7 : Int32) _ _ (hlt 7 hj8 hj)]; exact own_val _ _ _
  have hS : ∀ (e : Int32) (i : Nat), i < 8 → (s0 ≤ i ∧ i < n ∧ ¬ own_tk p1 (Int32.ofNat i) = 0 → own_step e (Int32.ofNat i) z13 z3 p1 = Int32.ofNat i) ∧ (¬ (s0 ≤ i ∧ i < n ∧ ¬ own_tk p1 (Int32.ofNat i) = 0) → own_step e (Int32.ofNat i) z13 z3 p1 = e) := by
    intro e i h
    have a1 : Int32.ofNat i < z13 ↔ i < s0 := by rw [Int32.lt_iff_toInt_lt, hi i h, hs.1]; omega
    have a2 : Int32.ofNat i < z3 ↔ i < n := by rw [Int32.lt_iff_toInt_lt, hi i h, hl]; omega
    unfold own_step
    constructor
    · rintro ⟨q1, q2, q3⟩
      rw [if_neg (fun z => by have := a1.mp z; omega), if_pos (a2.mpr q2), if_neg q3]
    · intro q
      by_cases b1 : i < s0
      · rw [if_pos (a1.mpr b1)]
      · rw [if_neg (fun z => b1 (a1.mp z))]
        by_cases b2 : i < n
        · rw [if_pos (a2.mpr b2)]
          by_cases b3 : own_tk p1 (Int32.ofNat i) = 0
          · rw [if_pos b3]
          · exact absurd ⟨by omega, b2, b3⟩ q
        · rw [if_neg (fun z => b2 (a2.mp z))]
  obtain ⟨g1, g2, g3, g4, g5⟩ := hr0
  have no : ∀ j, j < r0 ∨ n ≤ j → ¬ (s0 ≤ j ∧ j < n ∧ ¬ own_tk p1 (Int32.ofNat j) = 0) := by
    rintro j hj ⟨q1, q2, q3⟩
    exact q3 ((hF j q2).mp (g4 j q1 (by omega)))
  have ye : r0 < n → (s0 ≤ r0 ∧ r0 < n ∧ ¬ own_tk p1 (Int32.ofNat r0) = 0) := fun h => ⟨g2, h, fun q => g5 h ((hF r0 h).mpr q)⟩
  have hrv : ∀ w : Int32, w.toInt = (r0 : Int) → rv = w := fun w hw => Int32.toInt_inj.mp (by rw [g1, hw])
  have n8 : r0 ≤ 8 := by omega
  by_cases hlast : r0 = n
  · have u := fun e j hj => (hS e j hj).2 (no j (by omega))
    have u7 := u z3 7 (by decide)
    have u6 := u z15 6 (by decide)
    have u5 := u z17 5 (by decide)
    have u4 := u z19 4 (by decide)
    have u3 := u z21 3 (by decide)
    have u2 := u z23 2 (by decide)
    have u1 := u z25 1 (by decide)
    have u0 := u z27 0 (by decide)
    apply hrv
    rw [k29, show own_step z27 (0 : Int32) z13 z3 p1 = z27 from u0, k27, show own_step z25 (1 : Int32) z13 z3 p1 = z25 from u1, k25, show own_step z23 (2 : Int32) z13 z3 p1 = z23 from u2, k23, show own_step z21 (3 : Int32) z13 z3 p1 = z21 from u3, k21, show own_step z19 (4 : Int32) z13 z3 p1 = z19 from u4, k19, show own_step z17 (5 : Int32) z13 z3 p1 = z17 from u5, k17, show own_step z15 (6 : Int32) z13 z3 p1 = z15 from u6, k15, show own_step z3 (7 : Int32) z13 z3 p1 = z3 from u7, hl]
    omega
  · have y := ye (by omega)
    have r8 : r0 < 8 := by omega
    have u := fun e j (hj : j < 8) (h : j < r0) => (hS e j hj).2 (no j (Or.inl h))
    have v := fun e => (hS e r0 r8).1 y
    have fin := hrv (Int32.ofNat r0) (hi r0 r8)
    rw [fin]
    rcases (by omega : r0 = 0 ∨ r0 = 1 ∨ r0 = 2 ∨ r0 = 3 ∨ r0 = 4 ∨ r0 = 5 ∨ r0 = 6 ∨ r0 = 7) with e | e | e | e | e | e | e | e <;> subst e
    · rw [k29]; exact (v z27).symm
    · rw [k29]; exact ((u z27 0 (by decide) (by decide)).trans (k27.trans (v z25))).symm
    · rw [k29]; exact ((u z27 0 (by decide) (by decide)).trans (k27.trans ((u z25 1 (by decide) (by decide)).trans (k25.trans (v z23))))).symm
    · rw [k29]; exact ((u z27 0 (by decide) (by decide)).trans (k27.trans ((u z25 1 (by decide) (by decide)).trans (k25.trans ((u z23 2 (by decide) (by decide)).trans (k23.trans (v z21))))))).symm
    · rw [k29]; exact ((u z27 0 (by decide) (by decide)).trans (k27.trans ((u z25 1 (by decide) (by decide)).trans (k25.trans ((u z23 2 (by decide) (by decide)).trans (k23.trans ((u z21 3 (by decide) (by decide)).trans (k21.trans (v z19))))))))).symm
    · rw [k29]; exact ((u z27 0 (by decide) (by decide)).trans (k27.trans ((u z25 1 (by decide) (by decide)).trans (k25.trans ((u z23 2 (by decide) (by decide)).trans (k23.trans ((u z21 3 (by decide) (by decide)).trans (k21.trans ((u z19 4 (by decide) (by decide)).trans (k19.trans (v z17))))))))))).symm
    · rw [k29]; exact ((u z27 0 (by decide) (by decide)).trans (k27.trans ((u z25 1 (by decide) (by decide)).trans (k25.trans ((u z23 2 (by decide) (by decide)).trans (k23.trans ((u z21 3 (by decide) (by decide)).trans (k21.trans ((u z19 4 (by decide) (by decide)).trans (k19.trans ((u z17 5 (by decide) (by decide)).trans (k17.trans (v z15))))))))))))).symm
    · rw [k29]; exact ((u z27 0 (by decide) (by decide)).trans (k27.trans ((u z25 1 (by decide) (by decide)).trans (k25.trans ((u z23 2 (by decide) (by decide)).trans (k23.trans ((u z21 3 (by decide) (by decide)).trans (k21.trans ((u z19 4 (by decide) (by decide)).trans (k19.trans ((u z17 5 (by decide) (by decide)).trans (k17.trans ((u z15 6 (by decide) (by decide)).trans (k15.trans (v z3))))))))))))))).symm

theorem own_ef0 (m : MethodId) (p0 : Int32) (p1 : Int32) (p2 : Int32) (p3 : Int32) : entryFrame m #[(.int p0), (.int p1), (.int p2), (.int p3)] maxLocals = mkF m 0 #[.val (.int p0), .val (.int p1), .val (.int p2), .val (.int p3), .unset, .unset, .unset, .unset, .unset, .unset] [] := by first | (simp [entryFrame, mkF, argsToLocals, Value.category, maxLocals]; done) | rfl
abbrev own_Q0 (n0 : Nat) (v : Option Value) (h : Heap) (L : List Loc) : Prop := v = some (.int 1) ∧ Fr n0 L
theorem own_pn0 : plainName "com/example/referent/referent/solver/IntTablesNextTakenPinLaw" = true := by first | (simp [plainName, overriddenIn]; done) | decide +kernel
set_option maxRecDepth 65536 in
set_option maxHeartbeats 40000000 in
theorem rm0 (l : Launch) (Z : State) (a0 : Array Value) (hw : ∀ d ∈ tables_1, d.before a0 Z = true) (ws : List Jvm.Cond) (p0 : Int32) (p1 : Int32) (p2 : Int32) (p3 : Int32) (h0 : Heap) (n0 : Nat) (Z0 : n0 ≤ h0.size) :
    MetFree l x (head1 (Jvm.Cond.code x code maxLocals ret :: ws) room_1) (fun a U => a = #[(.int p0), (.int p1), (.int p2), (.int p3)] ∧ Z.Warmed39 U.vm ∧ U.heap = h0) (fun _ _ _ _ _ => True) (fun _ U o U' => ∃ v L, o = .returned v ∧ own_Q0 n0 v U'.heap L ∧ FrameEnd U o U' L room_1.cells room_1.slots) := by
  refine own_contract (plainFor_of_name own_pn0) (fun m => own_ef0 m p0 p1 p2 p3) ?_
  intro p e s m below meth c s₁ G hx hby hml0 hown0 hnm hret hZ X0 e0 hp hR
  have hml : c.maxLocals = 10 := hml0
  have hown : s.vm.findClass "com/example/referent/referent/solver/IntTablesNextTakenPinLaw" = some m.cls := hown0
  have N0 := Fr.nil n0
  show G s₁ (mkF m 0 #[.val (.int p0), .val (.int p1), .val (.int p2), .val (.int p3), .unset, .unset, .unset, .unset, .unset, .unset] [])
  have K0 : Keep h0 h0 [] := Keep.refl _ _
  refine hp (fun tq kq => XS.iloadN X0.here hx rfl (hb hby at_0) rfl kq) ?_
  show G s₁ (mkF m 1 #[.val (.int p0), .val (.int p1), .val (.int p2), .val (.int p3), .unset, .unset, .unset, .unset, .unset, .unset] [(.int p0)])
  refine hp (fun tq kq => X0.ldcInt hx hown (mvT hZ (hw _ (List.mem_of_getElem? (i := 0) rfl))) (g := (mkF m 1 #[.val (.int p0), .val (.int p1), .val (.int p2), .val (.int p3), .unset, .unset, .unset, .unset, .unset, .unset] [(.int p0)])) rfl (hb hby at_1) _ kq) ?_
  show G s₁ (mkF m 3 #[.val (.int p0), .val (.int p1), .val (.int p2), .val (.int p3), .unset, .unset, .unset, .unset, .unset, .unset] [(.int (2147483647 : Int32)), (.int p0)])
  refine hp (fun tq kq => XS.iand X0.here hx rfl (hb hby at_3) rfl kq) ?_
  show G s₁ (mkF m 4 #[.val (.int p0), .val (.int p1), .val (.int p2), .val (.int p3), .unset, .unset, .unset, .unset, .unset, .unset] [(.int (p0 &&& (2147483647 : Int32)))])
  refine hp (fun tq kq => XS.iconst X0.here hx rfl (hb hby at_4) kq) ?_
  show G s₁ (mkF m 5 #[.val (.int p0), .val (.int p1), .val (.int p2), .val (.int p3), .unset, .unset, .unset, .unset, .unset, .unset] [(.int (5 : Int32)), (.int (p0 &&& (2147483647 : Int32)))])
  refine hp (fun tq kq => iremM X0 hx rfl (hb hby at_5) rfl (by decide) kq) ?_
  show G s₁ (mkF m 6 #[.val (.int p0), .val (.int p1), .val (.int p2), .val (.int p3), .unset, .unset, .unset, .unset, .unset, .unset] [(.int ((p0 &&& (2147483647 : Int32)) % (5 : Int32)))])
  refine hp (fun tq kq => XS.istore X0.here hx rfl (hb hby at_6) rfl (l' := #[.val (.int p0), .val (.int p1), .val (.int p2), .val (.int p3), .val (.int ((p0 &&& (2147483647 : Int32)) % (5 : Int32))), .unset, .unset, .unset, .unset, .unset]) rfl kq) ?_
  show G s₁ (mkF m 8 #[.val (.int p0), .val (.int p1), .val (.int p2), .val (.int p3), .val (.int ((p0 &&& (2147483647 : Int32)) % (5 : Int32))), .unset, .unset, .unset, .unset, .unset] [])
  refine (?_ : ∀ (z1 : Int32), z1 = ((p0 &&& (2147483647 : Int32)) % (5 : Int32)) → G s₁ (mkF m 8 #[.val (.int p0), .val (.int p1), .val (.int p2), .val (.int p3), .val (.int z1), .unset, .unset, .unset, .unset, .unset] [])) _ rfl
  intro z1 hz1
  refine hp (fun tq kq => XS.iload X0.here hx rfl (hb hby at_8) rfl kq) ?_
  show G s₁ (mkF m 10 #[.val (.int p0), .val (.int p1), .val (.int p2), .val (.int p3), .val (.int z1), .unset, .unset, .unset, .unset, .unset] [(.int z1)])
  have j2 : ∀ (z3 : Int32), z3 = (if z1 = (0 : Int32) then (0 : Int32) else ((1 : Int32) <<< ((z1 - (1 : Int32)) &&& 31))) → G s₁ (mkF m 23 #[.val (.int p0), .val (.int p1), .val (.int p2), .val (.int p3), .val (.int z1), .unset, .unset, .unset, .unset, .unset] [(.int z3)]) := by
    intro z3 hz3
    refine hp (fun tq kq => XS.istore X0.here hx rfl (hb hby at_23) rfl (l' := #[.val (.int p0), .val (.int p1), .val (.int p2), .val (.int p3), .val (.int z1), .val (.int z3), .unset, .unset, .unset, .unset]) rfl kq) ?_
    show G s₁ (mkF m 25 #[.val (.int p0), .val (.int p1), .val (.int p2), .val (.int p3), .val (.int z1), .val (.int z3), .unset, .unset, .unset, .unset] [])
    obtain ⟨n, hn, hn8, hneg, hN⟩ := own_size hz1 hz3
    have hn8' : z3.toNatClampNeg ≤ 8 := by omega
    refine hp (fun tq kq => XS.iload X0.here hx rfl (hb hby at_25) rfl kq) ?_
    show G s₁ (mkF m 27 #[.val (.int p0), .val (.int p1), .val (.int p2), .val (.int p3), .val (.int z1), .val (.int z3), .unset, .unset, .unset, .unset] [(.int z3)])
    obtain ⟨T4, h4, k4, X4, e4, E4, A4, st4⟩ := newP X0 hx hZ (hw _ (List.mem_of_getElem? (i := 1) rfl)) e0 (g := (mkF m 27 #[.val (.int p0), .val (.int p1), .val (.int p2), .val (.int p3), .val (.int z1), .val (.int z3), .unset, .unset, .unset, .unset] [(.int z3)])) rfl (hb hby at_27) rfl hneg (cap := 8) hn8' (by decide) (by decide) (by decide)
    obtain ⟨b4, g4⟩ : ∃ z, z = h0.size := ⟨_, rfl⟩
    rw [← g4] at A4 st4
    have sz_b4 : h0.size ≤ b4 := Nat.le_trans K0.1 (Nat.le_of_eq g4.symm)
    have g_b4 : n0 ≤ b4 := Nat.le_trans Z0 sz_b4
    have K4 := K0.ext E4
    have V4_b4 : own_AI Z h4 b4 .int n (fun _ => 0) := own_AI.new A4 hneg rfl n hn
    refine hp st4 ?_
    show G T4 (mkF m 29 #[.val (.int p0), .val (.int p1), .val (.int p2), .val (.int p3), .val (.int z1), .val (.int z3), .unset, .unset, .unset, .unset] [(.ref b4)])
    refine hp (fun tq kq => XS.astore X4.here hx rfl (hb hby at_29) rfl rfl (l' := #[.val (.int p0), .val (.int p1), .val (.int p2), .val (.int p3), .val (.int z1), .val (.int z3), .val (.ref b4), .unset, .unset, .unset]) rfl kq) ?_
    show G T4 (mkF m 31 #[.val (.int p0), .val (.int p1), .val (.int p2), .val (.int p3), .val (.int z1), .val (.int z3), .val (.ref b4), .unset, .unset, .unset] [])
    refine hp (fun tq kq => XS.aload X4.here hx rfl (hb hby at_31) rfl rfl kq) ?_
    show G T4 (mkF m 33 #[.val (.int p0), .val (.int p1), .val (.int p2), .val (.int p3), .val (.int z1), .val (.int z3), .val (.ref b4), .unset, .unset, .unset] [(.ref b4)])
    refine hp (fun tq kq => XS.iconst X4.here hx rfl (hb hby at_33) kq) ?_
    show G T4 (mkF m 34 #[.val (.int p0), .val (.int p1), .val (.int p2), .val (.int p3), .val (.int z1), .val (.int z3), .val (.ref b4), .unset, .unset, .unset] [(.int (0 : Int32)), (.ref b4)])
    refine hp (fun tq kq => XS.iloadN X4.here hx rfl (hb hby at_34) rfl kq) ?_
    show G T4 (mkF m 35 #[.val (.int p0), .val (.int p1), .val (.int p2), .val (.int p3), .val (.int z1), .val (.int z3), .val (.ref b4), .unset, .unset, .unset] [(.int p1), (.int (0 : Int32)), (.ref b4)])
    refine hp (fun tq kq => XS.iloadN X4.here hx rfl (hb hby at_35) rfl kq) ?_
    show G T4 (mkF m 36 #[.val (.int p0), .val (.int p1), .val (.int p2), .val (.int p3), .val (.int z1), .val (.int z3), .val (.ref b4), .unset, .unset, .unset] [(.int p2), (.int p1), (.int (0 : Int32)), (.ref b4)])
    obtain ⟨v5, T5, L5, X5, hQ5, st5⟩ := own_callS X4 hx hZ (y := (⟨"com/example/referent/referent/solver/IntTablesNextTakenPinLaw", "put", "([IIII)V"⟩ : MethodName)) (rm := ({ frames := 1, cells := 0, slots := 0, locals := 15 } : Room)) 0 hown (hw _ (List.mem_of_getElem? (i := 2) rfl)) (hw _ (List.mem_of_getElem? (i := 3) rfl)) (hw _ (List.mem_of_getElem? (i := 4) rfl)) (hw _ (List.mem_of_getElem? (i := 5) rfl)) (by decide) (rm1 l Z a0 hw [] b4 (0 : Int32) p1 p2 n z3 0 (fun _ => (0 : Int32)) h4 n0 hN (by decide) V4_b4 g_b4) e4 (by decide) (by decide) (g := (mkF m 36 #[.val (.int p0), .val (.int p1), .val (.int p2), .val (.int p3), .val (.int z1), .val (.int z3), .val (.ref b4), .unset, .unset, .unset] [(.int p2), (.int p1), (.int (0 : Int32)), (.ref b4)])) rfl (by rw [hml]; rfl) [(.ref b4), (.int (0 : Int32)), (.int p1), (.int p2)] [] own_pd1 rfl rfl (by show 2 * 0 + _ ≤ _; exact Nat.le_of_eq rfl) (hb hby at_36) rfl (by decide) (by decide)
    obtain ⟨rfl, N5, Kc5, V5_b4⟩ := hQ5
    have N5b := Fr.app N0 N5
    have K5 := K4.trans Kc5 (allS (Or.inr sz_b4) all0)
    obtain ⟨f5, hf5⟩ : ∃ q, q = own_pt (fun _ => (0 : Int32)) 0 z3 (0 : Int32) p1 p2 := ⟨_, rfl⟩
    rw [← hf5] at V5_b4
    refine hp st5 ?_
    show G T5 (mkF m 39 #[.val (.int p0), .val (.int p1), .val (.int p2), .val (.int p3), .val (.int z1), .val (.int z3), .val (.ref b4), .unset, .unset, .unset] [])
    refine hp (fun tq kq => XS.aload X5.here hx rfl (hb hby at_39) rfl rfl kq) ?_
    show G T5 (mkF m 41 #[.val (.int p0), .val (.int p1), .val (.int p2), .val (.int p3), .val (.int z1), .val (.int z3), .val (.ref b4), .unset, .unset, .unset] [(.ref b4)])
    refine hp (fun tq kq => XS.iconst X5.here hx rfl (hb hby at_41) kq) ?_
    show G T5 (mkF m 42 #[.val (.int p0), .val (.int p1), .val (.int p2), .val (.int p3), .val (.int z1), .val (.int z3), .val (.ref b4), .unset, .unset, .unset] [(.int (1 : Int32)), (.ref b4)])
    refine hp (fun tq kq => XS.iloadN X5.here hx rfl (hb hby at_42) rfl kq) ?_
    show G T5 (mkF m 43 #[.val (.int p0), .val (.int p1), .val (.int p2), .val (.int p3), .val (.int z1), .val (.int z3), .val (.ref b4), .unset, .unset, .unset] [(.int p1), (.int (1 : Int32)), (.ref b4)])
    refine hp (fun tq kq => XS.iloadN X5.here hx rfl (hb hby at_43) rfl kq) ?_
    show G T5 (mkF m 44 #[.val (.int p0), .val (.int p1), .val (.int p2), .val (.int p3), .val (.int z1), .val (.int z3), .val (.ref b4), .unset, .unset, .unset] [(.int p2), (.int p1), (.int (1 : Int32)), (.ref b4)])
    obtain ⟨v6, T6, L6, X6, hQ6, st6⟩ := own_callS X5 hx hZ (y := (⟨"com/example/referent/referent/solver/IntTablesNextTakenPinLaw", "put", "([IIII)V"⟩ : MethodName)) (rm := ({ frames := 1, cells := 0, slots := 0, locals := 15 } : Room)) 0 hown (hw _ (List.mem_of_getElem? (i := 2) rfl)) (hw _ (List.mem_of_getElem? (i := 3) rfl)) (hw _ (List.mem_of_getElem? (i := 4) rfl)) (hw _ (List.mem_of_getElem? (i := 5) rfl)) (by decide) (rm1 l Z a0 hw [] b4 (1 : Int32) p1 p2 n z3 1 f5 T5.heap n0 hN (by decide) V5_b4 g_b4) rfl (by decide) (by decide) (g := (mkF m 44 #[.val (.int p0), .val (.int p1), .val (.int p2), .val (.int p3), .val (.int z1), .val (.int z3), .val (.ref b4), .unset, .unset, .unset] [(.int p2), (.int p1), (.int (1 : Int32)), (.ref b4)])) rfl (by rw [hml]; rfl) [(.ref b4), (.int (1 : Int32)), (.int p1), (.int p2)] [] own_pd1 rfl rfl (by show 2 * 0 + _ ≤ _; exact Nat.le_of_eq rfl) (hb hby at_44) rfl (by decide) (by decide)
    obtain ⟨rfl, N6, Kc6, V6_b4⟩ := hQ6
    have N6b := Fr.app N5b N6
    have K6 := K5.trans Kc6 (allS (Or.inr sz_b4) all0)
    obtain ⟨f6, hf6⟩ : ∃ q, q = own_pt f5 1 z3 (1 : Int32) p1 p2 := ⟨_, rfl⟩
    rw [← hf6] at V6_b4
    refine hp st6 ?_
    show G T6 (mkF m 47 #[.val (.int p0), .val (.int p1), .val (.int p2), .val (.int p3), .val (.int z1), .val (.int z3), .val (.ref b4), .unset, .unset, .unset] [])
    refine hp (fun tq kq => XS.aload X6.here hx rfl (hb hby at_47) rfl rfl kq) ?_
    show G T6 (mkF m 49 #[.val (.int p0), .val (.int p1), .val (.int p2), .val (.int p3), .val (.int z1), .val (.int z3), .val (.ref b4), .unset, .unset, .unset] [(.ref b4)])
    refine hp (fun tq kq => XS.iconst X6.here hx rfl (hb hby at_49) kq) ?_
    show G T6 (mkF m 50 #[.val (.int p0), .val (.int p1), .val (.int p2), .val (.int p3), .val (.int z1), .val (.int z3), .val (.ref b4), .unset, .unset, .unset] [(.int (2 : Int32)), (.ref b4)])
    refine hp (fun tq kq => XS.iloadN X6.here hx rfl (hb hby at_50) rfl kq) ?_
    show G T6 (mkF m 51 #[.val (.int p0), .val (.int p1), .val (.int p2), .val (.int p3), .val (.int z1), .val (.int z3), .val (.ref b4), .unset, .unset, .unset] [(.int p1), (.int (2 : Int32)), (.ref b4)])
    refine hp (fun tq kq => XS.iloadN X6.here hx rfl (hb hby at_51) rfl kq) ?_
    show G T6 (mkF m 52 #[.val (.int p0), .val (.int p1), .val (.int p2), .val (.int p3), .val (.int z1), .val (.int z3), .val (.ref b4), .unset, .unset, .unset] [(.int p2), (.int p1), (.int (2 : Int32)), (.ref b4)])
    obtain ⟨v7, T7, L7, X7, hQ7, st7⟩ := own_callS X6 hx hZ (y := (⟨"com/example/referent/referent/solver/IntTablesNextTakenPinLaw", "put", "([IIII)V"⟩ : MethodName)) (rm := ({ frames := 1, cells := 0, slots := 0, locals := 15 } : Room)) 0 hown (hw _ (List.mem_of_getElem? (i := 2) rfl)) (hw _ (List.mem_of_getElem? (i := 3) rfl)) (hw _ (List.mem_of_getElem? (i := 4) rfl)) (hw _ (List.mem_of_getElem? (i := 5) rfl)) (by decide) (rm1 l Z a0 hw [] b4 (2 : Int32) p1 p2 n z3 2 f6 T6.heap n0 hN (by decide) V6_b4 g_b4) rfl (by decide) (by decide) (g := (mkF m 52 #[.val (.int p0), .val (.int p1), .val (.int p2), .val (.int p3), .val (.int z1), .val (.int z3), .val (.ref b4), .unset, .unset, .unset] [(.int p2), (.int p1), (.int (2 : Int32)), (.ref b4)])) rfl (by rw [hml]; rfl) [(.ref b4), (.int (2 : Int32)), (.int p1), (.int p2)] [] own_pd1 rfl rfl (by show 2 * 0 + _ ≤ _; exact Nat.le_of_eq rfl) (hb hby at_52) rfl (by decide) (by decide)
    obtain ⟨rfl, N7, Kc7, V7_b4⟩ := hQ7
    have N7b := Fr.app N6b N7
    have K7 := K6.trans Kc7 (allS (Or.inr sz_b4) all0)
    obtain ⟨f7, hf7⟩ : ∃ q, q = own_pt f6 2 z3 (2 : Int32) p1 p2 := ⟨_, rfl⟩
    rw [← hf7] at V7_b4
    refine hp st7 ?_
    show G T7 (mkF m 55 #[.val (.int p0), .val (.int p1), .val (.int p2), .val (.int p3), .val (.int z1), .val (.int z3), .val (.ref b4), .unset, .unset, .unset] [])
    refine hp (fun tq kq => XS.aload X7.here hx rfl (hb hby at_55) rfl rfl kq) ?_
    show G T7 (mkF m 57 #[.val (.int p0), .val (.int p1), .val (.int p2), .val (.int p3), .val (.int z1), .val (.int z3), .val (.ref b4), .unset, .unset, .unset] [(.ref b4)])
    refine hp (fun tq kq => XS.iconst X7.here hx rfl (hb hby at_57) kq) ?_
    show G T7 (mkF m 58 #[.val (.int p0), .val (.int p1), .val (.int p2), .val (.int p3), .val (.int z1), .val (.int z3), .val (.ref b4), .unset, .unset, .unset] [(.int (3 : Int32)), (.ref b4)])
    refine hp (fun tq kq => XS.iloadN X7.here hx rfl (hb hby at_58) rfl kq) ?_
    show G T7 (mkF m 59 #[.val (.int p0), .val (.int p1), .val (.int p2), .val (.int p3), .val (.int z1), .val (.int z3), .val (.ref b4), .unset, .unset, .unset] [(.int p1), (.int (3 : Int32)), (.ref b4)])
    refine hp (fun tq kq => XS.iloadN X7.here hx rfl (hb hby at_59) rfl kq) ?_
    show G T7 (mkF m 60 #[.val (.int p0), .val (.int p1), .val (.int p2), .val (.int p3), .val (.int z1), .val (.int z3), .val (.ref b4), .unset, .unset, .unset] [(.int p2), (.int p1), (.int (3 : Int32)), (.ref b4)])
    obtain ⟨v8, T8, L8, X8, hQ8, st8⟩ := own_callS X7 hx hZ (y := (⟨"com/example/referent/referent/solver/IntTablesNextTakenPinLaw", "put", "([IIII)V"⟩ : MethodName)) (rm := ({ frames := 1, cells := 0, slots := 0, locals := 15 } : Room)) 0 hown (hw _ (List.mem_of_getElem? (i := 2) rfl)) (hw _ (List.mem_of_getElem? (i := 3) rfl)) (hw _ (List.mem_of_getElem? (i := 4) rfl)) (hw _ (List.mem_of_getElem? (i := 5) rfl)) (by decide) (rm1 l Z a0 hw [] b4 (3 : Int32) p1 p2 n z3 3 f7 T7.heap n0 hN (by decide) V7_b4 g_b4) rfl (by decide) (by decide) (g := (mkF m 60 #[.val (.int p0), .val (.int p1), .val (.int p2), .val (.int p3), .val (.int z1), .val (.int z3), .val (.ref b4), .unset, .unset, .unset] [(.int p2), (.int p1), (.int (3 : Int32)), (.ref b4)])) rfl (by rw [hml]; rfl) [(.ref b4), (.int (3 : Int32)), (.int p1), (.int p2)] [] own_pd1 rfl rfl (by show 2 * 0 + _ ≤ _; exact Nat.le_of_eq rfl) (hb hby at_60) rfl (by decide) (by decide)
    obtain ⟨rfl, N8, Kc8, V8_b4⟩ := hQ8
    have N8b := Fr.app N7b N8
    have K8 := K7.trans Kc8 (allS (Or.inr sz_b4) all0)
    obtain ⟨f8, hf8⟩ : ∃ q, q = own_pt f7 3 z3 (3 : Int32) p1 p2 := ⟨_, rfl⟩
    rw [← hf8] at V8_b4
    refine hp st8 ?_
    show G T8 (mkF m 63 #[.val (.int p0), .val (.int p1), .val (.int p2), .val (.int p3), .val (.int z1), .val (.int z3), .val (.ref b4), .unset, .unset, .unset] [])
    refine hp (fun tq kq => XS.aload X8.here hx rfl (hb hby at_63) rfl rfl kq) ?_
    show G T8 (mkF m 65 #[.val (.int p0), .val (.int p1), .val (.int p2), .val (.int p3), .val (.int z1), .val (.int z3), .val (.ref b4), .unset, .unset, .unset] [(.ref b4)])
    refine hp (fun tq kq => XS.iconst X8.here hx rfl (hb hby at_65) kq) ?_
    show G T8 (mkF m 66 #[.val (.int p0), .val (.int p1), .val (.int p2), .val (.int p3), .val (.int z1), .val (.int z3), .val (.ref b4), .unset, .unset, .unset] [(.int (4 : Int32)), (.ref b4)])
    refine hp (fun tq kq => XS.iloadN X8.here hx rfl (hb hby at_66) rfl kq) ?_
    show G T8 (mkF m 67 #[.val (.int p0), .val (.int p1), .val (.int p2), .val (.int p3), .val (.int z1), .val (.int z3), .val (.ref b4), .unset, .unset, .unset] [(.int p1), (.int (4 : Int32)), (.ref b4)])
    refine hp (fun tq kq => XS.iloadN X8.here hx rfl (hb hby at_67) rfl kq) ?_
    show G T8 (mkF m 68 #[.val (.int p0), .val (.int p1), .val (.int p2), .val (.int p3), .val (.int z1), .val (.int z3), .val (.ref b4), .unset, .unset, .unset] [(.int p2), (.int p1), (.int (4 : Int32)), (.ref b4)])
    obtain ⟨v9, T9, L9, X9, hQ9, st9⟩ := own_callS X8 hx hZ (y := (⟨"com/example/referent/referent/solver/IntTablesNextTakenPinLaw", "put", "([IIII)V"⟩ : MethodName)) (rm := ({ frames := 1, cells := 0, slots := 0, locals := 15 } : Room)) 0 hown (hw _ (List.mem_of_getElem? (i := 2) rfl)) (hw _ (List.mem_of_getElem? (i := 3) rfl)) (hw _ (List.mem_of_getElem? (i := 4) rfl)) (hw _ (List.mem_of_getElem? (i := 5) rfl)) (by decide) (rm1 l Z a0 hw [] b4 (4 : Int32) p1 p2 n z3 4 f8 T8.heap n0 hN (by decide) V8_b4 g_b4) rfl (by decide) (by decide) (g := (mkF m 68 #[.val (.int p0), .val (.int p1), .val (.int p2), .val (.int p3), .val (.int z1), .val (.int z3), .val (.ref b4), .unset, .unset, .unset] [(.int p2), (.int p1), (.int (4 : Int32)), (.ref b4)])) rfl (by rw [hml]; rfl) [(.ref b4), (.int (4 : Int32)), (.int p1), (.int p2)] [] own_pd1 rfl rfl (by show 2 * 0 + _ ≤ _; exact Nat.le_of_eq rfl) (hb hby at_68) rfl (by decide) (by decide)
    obtain ⟨rfl, N9, Kc9, V9_b4⟩ := hQ9
    have N9b := Fr.app N8b N9
    have K9 := K8.trans Kc9 (allS (Or.inr sz_b4) all0)
    obtain ⟨f9, hf9⟩ : ∃ q, q = own_pt f8 4 z3 (4 : Int32) p1 p2 := ⟨_, rfl⟩
    rw [← hf9] at V9_b4
    refine hp st9 ?_
    show G T9 (mkF m 71 #[.val (.int p0), .val (.int p1), .val (.int p2), .val (.int p3), .val (.int z1), .val (.int z3), .val (.ref b4), .unset, .unset, .unset] [])
    refine hp (fun tq kq => XS.aload X9.here hx rfl (hb hby at_71) rfl rfl kq) ?_
    show G T9 (mkF m 73 #[.val (.int p0), .val (.int p1), .val (.int p2), .val (.int p3), .val (.int z1), .val (.int z3), .val (.ref b4), .unset, .unset, .unset] [(.ref b4)])
    refine hp (fun tq kq => XS.iconst X9.here hx rfl (hb hby at_73) kq) ?_
    show G T9 (mkF m 74 #[.val (.int p0), .val (.int p1), .val (.int p2), .val (.int p3), .val (.int z1), .val (.int z3), .val (.ref b4), .unset, .unset, .unset] [(.int (5 : Int32)), (.ref b4)])
    refine hp (fun tq kq => XS.iloadN X9.here hx rfl (hb hby at_74) rfl kq) ?_
    show G T9 (mkF m 75 #[.val (.int p0), .val (.int p1), .val (.int p2), .val (.int p3), .val (.int z1), .val (.int z3), .val (.ref b4), .unset, .unset, .unset] [(.int p1), (.int (5 : Int32)), (.ref b4)])
    refine hp (fun tq kq => XS.iloadN X9.here hx rfl (hb hby at_75) rfl kq) ?_
    show G T9 (mkF m 76 #[.val (.int p0), .val (.int p1), .val (.int p2), .val (.int p3), .val (.int z1), .val (.int z3), .val (.ref b4), .unset, .unset, .unset] [(.int p2), (.int p1), (.int (5 : Int32)), (.ref b4)])
    obtain ⟨v10, T10, L10, X10, hQ10, st10⟩ := own_callS X9 hx hZ (y := (⟨"com/example/referent/referent/solver/IntTablesNextTakenPinLaw", "put", "([IIII)V"⟩ : MethodName)) (rm := ({ frames := 1, cells := 0, slots := 0, locals := 15 } : Room)) 0 hown (hw _ (List.mem_of_getElem? (i := 2) rfl)) (hw _ (List.mem_of_getElem? (i := 3) rfl)) (hw _ (List.mem_of_getElem? (i := 4) rfl)) (hw _ (List.mem_of_getElem? (i := 5) rfl)) (by decide) (rm1 l Z a0 hw [] b4 (5 : Int32) p1 p2 n z3 5 f9 T9.heap n0 hN (by decide) V9_b4 g_b4) rfl (by decide) (by decide) (g := (mkF m 76 #[.val (.int p0), .val (.int p1), .val (.int p2), .val (.int p3), .val (.int z1), .val (.int z3), .val (.ref b4), .unset, .unset, .unset] [(.int p2), (.int p1), (.int (5 : Int32)), (.ref b4)])) rfl (by rw [hml]; rfl) [(.ref b4), (.int (5 : Int32)), (.int p1), (.int p2)] [] own_pd1 rfl rfl (by show 2 * 0 + _ ≤ _; exact Nat.le_of_eq rfl) (hb hby at_76) rfl (by decide) (by decide)
    obtain ⟨rfl, N10, Kc10, V10_b4⟩ := hQ10
    have N10b := Fr.app N9b N10
    have K10 := K9.trans Kc10 (allS (Or.inr sz_b4) all0)
    obtain ⟨f10, hf10⟩ : ∃ q, q = own_pt f9 5 z3 (5 : Int32) p1 p2 := ⟨_, rfl⟩
    rw [← hf10] at V10_b4
    refine hp st10 ?_
    show G T10 (mkF m 79 #[.val (.int p0), .val (.int p1), .val (.int p2), .val (.int p3), .val (.int z1), .val (.int z3), .val (.ref b4), .unset, .unset, .unset] [])
    refine hp (fun tq kq => XS.aload X10.here hx rfl (hb hby at_79) rfl rfl kq) ?_
    show G T10 (mkF m 81 #[.val (.int p0), .val (.int p1), .val (.int p2), .val (.int p3), .val (.int z1), .val (.int z3), .val (.ref b4), .unset, .unset, .unset] [(.ref b4)])
    refine hp (fun tq kq => XS.bipush X10.here hx rfl (hb hby at_81) kq) ?_
    show G T10 (mkF m 83 #[.val (.int p0), .val (.int p1), .val (.int p2), .val (.int p3), .val (.int z1), .val (.int z3), .val (.ref b4), .unset, .unset, .unset] [(.int (6 : Int32)), (.ref b4)])
    refine hp (fun tq kq => XS.iloadN X10.here hx rfl (hb hby at_83) rfl kq) ?_
    show G T10 (mkF m 84 #[.val (.int p0), .val (.int p1), .val (.int p2), .val (.int p3), .val (.int z1), .val (.int z3), .val (.ref b4), .unset, .unset, .unset] [(.int p1), (.int (6 : Int32)), (.ref b4)])
    refine hp (fun tq kq => XS.iloadN X10.here hx rfl (hb hby at_84) rfl kq) ?_
    show G T10 (mkF m 85 #[.val (.int p0), .val (.int p1), .val (.int p2), .val (.int p3), .val (.int z1), .val (.int z3), .val (.ref b4), .unset, .unset, .unset] [(.int p2), (.int p1), (.int (6 : Int32)), (.ref b4)])
    obtain ⟨v11, T11, L11, X11, hQ11, st11⟩ := own_callS X10 hx hZ (y := (⟨"com/example/referent/referent/solver/IntTablesNextTakenPinLaw", "put", "([IIII)V"⟩ : MethodName)) (rm := ({ frames := 1, cells := 0, slots := 0, locals := 15 } : Room)) 0 hown (hw _ (List.mem_of_getElem? (i := 2) rfl)) (hw _ (List.mem_of_getElem? (i := 3) rfl)) (hw _ (List.mem_of_getElem? (i := 4) rfl)) (hw _ (List.mem_of_getElem? (i := 5) rfl)) (by decide) (rm1 l Z a0 hw [] b4 (6 : Int32) p1 p2 n z3 6 f10 T10.heap n0 hN (by decide) V10_b4 g_b4) rfl (by decide) (by decide) (g := (mkF m 85 #[.val (.int p0), .val (.int p1), .val (.int p2), .val (.int p3), .val (.int z1), .val (.int z3), .val (.ref b4), .unset, .unset, .unset] [(.int p2), (.int p1), (.int (6 : Int32)), (.ref b4)])) rfl (by rw [hml]; rfl) [(.ref b4), (.int (6 : Int32)), (.int p1), (.int p2)] [] own_pd1 rfl rfl (by show 2 * 0 + _ ≤ _; exact Nat.le_of_eq rfl) (hb hby at_85) rfl (by decide) (by decide)
    obtain ⟨rfl, N11, Kc11, V11_b4⟩ := hQ11
    have N11b := Fr.app N10b N11
    have K11 := K10.trans Kc11 (allS (Or.inr sz_b4) all0)
    obtain ⟨f11, hf11⟩ : ∃ q, q = own_pt f10 6 z3 (6 : Int32) p1 p2 := ⟨_, rfl⟩
    rw [← hf11] at V11_b4
    refine hp st11 ?_
    show G T11 (mkF m 88 #[.val (.int p0), .val (.int p1), .val (.int p2), .val (.int p3), .val (.int z1), .val (.int z3), .val (.ref b4), .unset, .unset, .unset] [])
    refine hp (fun tq kq => XS.aload X11.here hx rfl (hb hby at_88) rfl rfl kq) ?_
    show G T11 (mkF m 90 #[.val (.int p0), .val (.int p1), .val (.int p2), .val (.int p3), .val (.int z1), .val (.int z3), .val (.ref b4), .unset, .unset, .unset] [(.ref b4)])
    refine hp (fun tq kq => XS.bipush X11.here hx rfl (hb hby at_90) kq) ?_
    show G T11 (mkF m 92 #[.val (.int p0), .val (.int p1), .val (.int p2), .val (.int p3), .val (.int z1), .val (.int z3), .val (.ref b4), .unset, .unset, .unset] [(.int (7 : Int32)), (.ref b4)])
    refine hp (fun tq kq => XS.iloadN X11.here hx rfl (hb hby at_92) rfl kq) ?_
    show G T11 (mkF m 93 #[.val (.int p0), .val (.int p1), .val (.int p2), .val (.int p3), .val (.int z1), .val (.int z3), .val (.ref b4), .unset, .unset, .unset] [(.int p1), (.int (7 : Int32)), (.ref b4)])
    refine hp (fun tq kq => XS.iloadN X11.here hx rfl (hb hby at_93) rfl kq) ?_
    show G T11 (mkF m 94 #[.val (.int p0), .val (.int p1), .val (.int p2), .val (.int p3), .val (.int z1), .val (.int z3), .val (.ref b4), .unset, .unset, .unset] [(.int p2), (.int p1), (.int (7 : Int32)), (.ref b4)])
    obtain ⟨v12, T12, L12, X12, hQ12, st12⟩ := own_callS X11 hx hZ (y := (⟨"com/example/referent/referent/solver/IntTablesNextTakenPinLaw", "put", "([IIII)V"⟩ : MethodName)) (rm := ({ frames := 1, cells := 0, slots := 0, locals := 15 } : Room)) 0 hown (hw _ (List.mem_of_getElem? (i := 2) rfl)) (hw _ (List.mem_of_getElem? (i := 3) rfl)) (hw _ (List.mem_of_getElem? (i := 4) rfl)) (hw _ (List.mem_of_getElem? (i := 5) rfl)) (by decide) (rm1 l Z a0 hw [] b4 (7 : Int32) p1 p2 n z3 7 f11 T11.heap n0 hN (by decide) V11_b4 g_b4) rfl (by decide) (by decide) (g := (mkF m 94 #[.val (.int p0), .val (.int p1), .val (.int p2), .val (.int p3), .val (.int z1), .val (.int z3), .val (.ref b4), .unset, .unset, .unset] [(.int p2), (.int p1), (.int (7 : Int32)), (.ref b4)])) rfl (by rw [hml]; rfl) [(.ref b4), (.int (7 : Int32)), (.int p1), (.int p2)] [] own_pd1 rfl rfl (by show 2 * 0 + _ ≤ _; exact Nat.le_of_eq rfl) (hb hby at_94) rfl (by decide) (by decide)
    obtain ⟨rfl, N12, Kc12, V12_b4⟩ := hQ12
    have N12b := Fr.app N11b N12
    have K12 := K11.trans Kc12 (allS (Or.inr sz_b4) all0)
    obtain ⟨f12, hf12⟩ : ∃ q, q = own_pt f11 7 z3 (7 : Int32) p1 p2 := ⟨_, rfl⟩
    rw [← hf12] at V12_b4
    refine hp st12 ?_
    show G T12 (mkF m 97 #[.val (.int p0), .val (.int p1), .val (.int p2), .val (.int p3), .val (.int z1), .val (.int z3), .val (.ref b4), .unset, .unset, .unset] [])
    refine hp (fun tq kq => XS.iloadN X12.here hx rfl (hb hby at_97) rfl kq) ?_
    show G T12 (mkF m 98 #[.val (.int p0), .val (.int p1), .val (.int p2), .val (.int p3), .val (.int z1), .val (.int z3), .val (.ref b4), .unset, .unset, .unset] [(.int p3)])
    refine hp (fun tq kq => X12.ldcInt hx hown (mvT hZ (hw _ (List.mem_of_getElem? (i := 0) rfl))) (g := (mkF m 98 #[.val (.int p0), .val (.int p1), .val (.int p2), .val (.int p3), .val (.int z1), .val (.int z3), .val (.ref b4), .unset, .unset, .unset] [(.int p3)])) rfl (hb hby at_98) _ kq) ?_
    show G T12 (mkF m 100 #[.val (.int p0), .val (.int p1), .val (.int p2), .val (.int p3), .val (.int z1), .val (.int z3), .val (.ref b4), .unset, .unset, .unset] [(.int (2147483647 : Int32)), (.int p3)])
    refine hp (fun tq kq => XS.iand X12.here hx rfl (hb hby at_100) rfl kq) ?_
    show G T12 (mkF m 101 #[.val (.int p0), .val (.int p1), .val (.int p2), .val (.int p3), .val (.int z1), .val (.int z3), .val (.ref b4), .unset, .unset, .unset] [(.int (p3 &&& (2147483647 : Int32)))])
    refine hp (fun tq kq => XS.iload X12.here hx rfl (hb hby at_101) rfl kq) ?_
    show G T12 (mkF m 103 #[.val (.int p0), .val (.int p1), .val (.int p2), .val (.int p3), .val (.int z1), .val (.int z3), .val (.ref b4), .unset, .unset, .unset] [(.int z3), (.int (p3 &&& (2147483647 : Int32)))])
    refine hp (fun tq kq => XS.iconst X12.here hx rfl (hb hby at_103) kq) ?_
    show G T12 (mkF m 104 #[.val (.int p0), .val (.int p1), .val (.int p2), .val (.int p3), .val (.int z1), .val (.int z3), .val (.ref b4), .unset, .unset, .unset] [(.int (1 : Int32)), (.int z3), (.int (p3 &&& (2147483647 : Int32)))])
    refine hp (fun tq kq => XS.iadd X12.here hx rfl (hb hby at_104) rfl kq) ?_
    show G T12 (mkF m 105 #[.val (.int p0), .val (.int p1), .val (.int p2), .val (.int p3), .val (.int z1), .val (.int z3), .val (.ref b4), .unset, .unset, .unset] [(.int (z3 + (1 : Int32))), (.int (p3 &&& (2147483647 : Int32)))])
    refine hp (fun tq kq => iremM X12 hx rfl (hb hby at_105) rfl (own_nz hn hneg hn8) kq) ?_
    show G T12 (mkF m 106 #[.val (.int p0), .val (.int p1), .val (.int p2), .val (.int p3), .val (.int z1), .val (.int z3), .val (.ref b4), .unset, .unset, .unset] [(.int ((p3 &&& (2147483647 : Int32)) % (z3 + (1 : Int32))))])
    refine hp (fun tq kq => XS.istore X12.here hx rfl (hb hby at_106) rfl (l' := #[.val (.int p0), .val (.int p1), .val (.int p2), .val (.int p3), .val (.int z1), .val (.int z3), .val (.ref b4), .val (.int ((p3 &&& (2147483647 : Int32)) % (z3 + (1 : Int32)))), .unset, .unset]) rfl kq) ?_
    show G T12 (mkF m 108 #[.val (.int p0), .val (.int p1), .val (.int p2), .val (.int p3), .val (.int z1), .val (.int z3), .val (.ref b4), .val (.int ((p3 &&& (2147483647 : Int32)) % (z3 + (1 : Int32)))), .unset, .unset] [])
    refine (?_ : ∀ (z13 : Int32), z13 = ((p3 &&& (2147483647 : Int32)) % (z3 + (1 : Int32))) → G T12 (mkF m 108 #[.val (.int p0), .val (.int p1), .val (.int p2), .val (.int p3), .val (.int z1), .val (.int z3), .val (.ref b4), .val (.int z13), .unset, .unset] [])) _ rfl
    intro z13 hz13
    obtain ⟨s0, hs⟩ := own_start hn hneg hn8 hz13
    refine hp (fun tq kq => XS.iload X12.here hx rfl (hb hby at_108) rfl kq) ?_
    show G T12 (mkF m 110 #[.val (.int p0), .val (.int p1), .val (.int p2), .val (.int p3), .val (.int z1), .val (.int z3), .val (.ref b4), .val (.int z13), .unset, .unset] [(.int z3)])
    refine hp (fun tq kq => XS.istore X12.here hx rfl (hb hby at_110) rfl (l' := #[.val (.int p0), .val (.int p1), .val (.int p2), .val (.int p3), .val (.int z1), .val (.int z3), .val (.ref b4), .val (.int z13), .val (.int z3), .unset]) rfl kq) ?_
    show G T12 (mkF m 112 #[.val (.int p0), .val (.int p1), .val (.int p2), .val (.int p3), .val (.int z1), .val (.int z3), .val (.ref b4), .val (.int z13), .val (.int z3), .unset] [])
    refine hp (fun tq kq => XS.iload X12.here hx rfl (hb hby at_112) rfl kq) ?_
    show G T12 (mkF m 114 #[.val (.int p0), .val (.int p1), .val (.int p2), .val (.int p3), .val (.int z1), .val (.int z3), .val (.ref b4), .val (.int z13), .val (.int z3), .unset] [(.int z3)])
    refine hp (fun tq kq => XS.bipush X12.here hx rfl (hb hby at_114) kq) ?_
    show G T12 (mkF m 116 #[.val (.int p0), .val (.int p1), .val (.int p2), .val (.int p3), .val (.int z1), .val (.int z3), .val (.ref b4), .val (.int z13), .val (.int z3), .unset] [(.int (7 : Int32)), (.int z3)])
    refine hp (fun tq kq => XS.iload X12.here hx rfl (hb hby at_116) rfl kq) ?_
    show G T12 (mkF m 118 #[.val (.int p0), .val (.int p1), .val (.int p2), .val (.int p3), .val (.int z1), .val (.int z3), .val (.ref b4), .val (.int z13), .val (.int z3), .unset] [(.int z13), (.int (7 : Int32)), (.int z3)])
    refine hp (fun tq kq => XS.iload X12.here hx rfl (hb hby at_118) rfl kq) ?_
    show G T12 (mkF m 120 #[.val (.int p0), .val (.int p1), .val (.int p2), .val (.int p3), .val (.int z1), .val (.int z3), .val (.ref b4), .val (.int z13), .val (.int z3), .unset] [(.int z3), (.int z13), (.int (7 : Int32)), (.int z3)])
    refine hp (fun tq kq => XS.iloadN X12.here hx rfl (hb hby at_120) rfl kq) ?_
    show G T12 (mkF m 121 #[.val (.int p0), .val (.int p1), .val (.int p2), .val (.int p3), .val (.int z1), .val (.int z3), .val (.ref b4), .val (.int z13), .val (.int z3), .unset] [(.int p1), (.int z3), (.int z13), (.int (7 : Int32)), (.int z3)])
    obtain ⟨v14, T14, L14, X14, hQ14, st14⟩ := own_callS X12 hx hZ (y := (⟨"com/example/referent/referent/solver/IntTablesNextTakenPinLaw", "step", "(IIIII)I"⟩ : MethodName)) (rm := ({ frames := 1, cells := 0, slots := 0, locals := 13 } : Room)) 0 hown (hw _ (List.mem_of_getElem? (i := 6) rfl)) (hw _ (List.mem_of_getElem? (i := 7) rfl)) (hw _ (List.mem_of_getElem? (i := 4) rfl)) (hw _ (List.mem_of_getElem? (i := 8) rfl)) (by decide) (rm2 l Z a0 hw [] z3 (7 : Int32) z13 z3 p1 T12.heap n0) rfl (by decide) (by decide) (g := (mkF m 121 #[.val (.int p0), .val (.int p1), .val (.int p2), .val (.int p3), .val (.int z1), .val (.int z3), .val (.ref b4), .val (.int z13), .val (.int z3), .unset] [(.int p1), (.int z3), (.int z13), (.int (7 : Int32)), (.int z3)])) rfl (by rw [hml]; rfl) [(.int z3), (.int (7 : Int32)), (.int z13), (.int z3), (.int p1)] [] own_pd2 rfl rfl (by show 2 * 0 + _ ≤ _; exact Nat.le_of_eq rfl) (hb hby at_121) rfl (by decide) (by decide)
    obtain ⟨rfl, N14, e14⟩ := hQ14
    have F14 := Fr.app N12b N14
    refine hp st14 ?_
    show G T14 (mkF m 124 #[.val (.int p0), .val (.int p1), .val (.int p2), .val (.int p3), .val (.int z1), .val (.int z3), .val (.ref b4), .val (.int z13), .val (.int z3), .unset] [(.int (own_step z3 (7 : Int32) z13 z3 p1))])
    refine hp (fun tq kq => XS.istore X14.here hx rfl (hb hby at_124) rfl (l' := #[.val (.int p0), .val (.int p1), .val (.int p2), .val (.int p3), .val (.int z1), .val (.int z3), .val (.ref b4), .val (.int z13), .val (.int (own_step z3 (7 : Int32) z13 z3 p1)), .unset]) rfl kq) ?_
    show G T14 (mkF m 126 #[.val (.int p0), .val (.int p1), .val (.int p2), .val (.int p3), .val (.int z1), .val (.int z3), .val (.ref b4), .val (.int z13), .val (.int (own_step z3 (7 : Int32) z13 z3 p1)), .unset] [])
    refine (?_ : ∀ (z15 : Int32), z15 = (own_step z3 (7 : Int32) z13 z3 p1) → G T14 (mkF m 126 #[.val (.int p0), .val (.int p1), .val (.int p2), .val (.int p3), .val (.int z1), .val (.int z3), .val (.ref b4), .val (.int z13), .val (.int z15), .unset] [])) _ rfl
    intro z15 hz15
    refine hp (fun tq kq => XS.iload X14.here hx rfl (hb hby at_126) rfl kq) ?_
    show G T14 (mkF m 128 #[.val (.int p0), .val (.int p1), .val (.int p2), .val (.int p3), .val (.int z1), .val (.int z3), .val (.ref b4), .val (.int z13), .val (.int z15), .unset] [(.int z15)])
    refine hp (fun tq kq => XS.bipush X14.here hx rfl (hb hby at_128) kq) ?_
    show G T14 (mkF m 130 #[.val (.int p0), .val (.int p1), .val (.int p2), .val (.int p3), .val (.int z1), .val (.int z3), .val (.ref b4), .val (.int z13), .val (.int z15), .unset] [(.int (6 : Int32)), (.int z15)])
    refine hp (fun tq kq => XS.iload X14.here hx rfl (hb hby at_130) rfl kq) ?_
    show G T14 (mkF m 132 #[.val (.int p0), .val (.int p1), .val (.int p2), .val (.int p3), .val (.int z1), .val (.int z3), .val (.ref b4), .val (.int z13), .val (.int z15), .unset] [(.int z13), (.int (6 : Int32)), (.int z15)])
    refine hp (fun tq kq => XS.iload X14.here hx rfl (hb hby at_132) rfl kq) ?_
    show G T14 (mkF m 134 #[.val (.int p0), .val (.int p1), .val (.int p2), .val (.int p3), .val (.int z1), .val (.int z3), .val (.ref b4), .val (.int z13), .val (.int z15), .unset] [(.int z3), (.int z13), (.int (6 : Int32)), (.int z15)])
    refine hp (fun tq kq => XS.iloadN X14.here hx rfl (hb hby at_134) rfl kq) ?_
    show G T14 (mkF m 135 #[.val (.int p0), .val (.int p1), .val (.int p2), .val (.int p3), .val (.int z1), .val (.int z3), .val (.ref b4), .val (.int z13), .val (.int z15), .unset] [(.int p1), (.int z3), (.int z13), (.int (6 : Int32)), (.int z15)])
    obtain ⟨v16, T16, L16, X16, hQ16, st16⟩ := own_callS X14 hx hZ (y := (⟨"com/example/referent/referent/solver/IntTablesNextTakenPinLaw", "step", "(IIIII)I"⟩ : MethodName)) (rm := ({ frames := 1, cells := 0, slots := 0, locals := 13 } : Room)) 0 hown (hw _ (List.mem_of_getElem? (i := 6) rfl)) (hw _ (List.mem_of_getElem? (i := 7) rfl)) (hw _ (List.mem_of_getElem? (i := 4) rfl)) (hw _ (List.mem_of_getElem? (i := 8) rfl)) (by decide) (rm2 l Z a0 hw [] z15 (6 : Int32) z13 z3 p1 T12.heap n0) e14 (by decide) (by decide) (g := (mkF m 135 #[.val (.int p0), .val (.int p1), .val (.int p2), .val (.int p3), .val (.int z1), .val (.int z3), .val (.ref b4), .val (.int z13), .val (.int z15), .unset] [(.int p1), (.int z3), (.int z13), (.int (6 : Int32)), (.int z15)])) rfl (by rw [hml]; rfl) [(.int z15), (.int (6 : Int32)), (.int z13), (.int z3), (.int p1)] [] own_pd2 rfl rfl (by show 2 * 0 + _ ≤ _; exact Nat.le_of_eq rfl) (hb hby at_135) rfl (by decide) (by decide)
    obtain ⟨rfl, N16, e16⟩ := hQ16
    have F16 := Fr.app F14 N16
    refine hp st16 ?_
    show G T16 (mkF m 138 #[.val (.int p0), .val (.int p1), .val (.int p2), .val (.int p3), .val (.int z1), .val (.int z3), .val (.ref b4), .val (.int z13), .val (.int z15), .unset] [(.int (own_step z15 (6 : Int32) z13 z3 p1))])
    refine hp (fun tq kq => XS.istore X16.here hx rfl (hb hby at_138) rfl (l' := #[.val (.int p0), .val (.int p1), .val (.int p2), .val (.int p3), .val (.int z1), .val (.int z3), .val (.ref b4), .val (.int z13), .val (.int (own_step z15 (6 : Int32) z13 z3 p1)), .unset]) rfl kq) ?_
    show G T16 (mkF m 140 #[.val (.int p0), .val (.int p1), .val (.int p2), .val (.int p3), .val (.int z1), .val (.int z3), .val (.ref b4), .val (.int z13), .val (.int (own_step z15 (6 : Int32) z13 z3 p1)), .unset] [])
    refine (?_ : ∀ (z17 : Int32), z17 = (own_step z15 (6 : Int32) z13 z3 p1) → G T16 (mkF m 140 #[.val (.int p0), .val (.int p1), .val (.int p2), .val (.int p3), .val (.int z1), .val (.int z3), .val (.ref b4), .val (.int z13), .val (.int z17), .unset] [])) _ rfl
    intro z17 hz17
    refine hp (fun tq kq => XS.iload X16.here hx rfl (hb hby at_140) rfl kq) ?_
    show G T16 (mkF m 142 #[.val (.int p0), .val (.int p1), .val (.int p2), .val (.int p3), .val (.int z1), .val (.int z3), .val (.ref b4), .val (.int z13), .val (.int z17), .unset] [(.int z17)])
    refine hp (fun tq kq => XS.iconst X16.here hx rfl (hb hby at_142) kq) ?_
    show G T16 (mkF m 143 #[.val (.int p0), .val (.int p1), .val (.int p2), .val (.int p3), .val (.int z1), .val (.int z3), .val (.ref b4), .val (.int z13), .val (.int z17), .unset] [(.int (5 : Int32)), (.int z17)])
    refine hp (fun tq kq => XS.iload X16.here hx rfl (hb hby at_143) rfl kq) ?_
    show G T16 (mkF m 145 #[.val (.int p0), .val (.int p1), .val (.int p2), .val (.int p3), .val (.int z1), .val (.int z3), .val (.ref b4), .val (.int z13), .val (.int z17), .unset] [(.int z13), (.int (5 : Int32)), (.int z17)])
    refine hp (fun tq kq => XS.iload X16.here hx rfl (hb hby at_145) rfl kq) ?_
    show G T16 (mkF m 147 #[.val (.int p0), .val (.int p1), .val (.int p2), .val (.int p3), .val (.int z1), .val (.int z3), .val (.ref b4), .val (.int z13), .val (.int z17), .unset] [(.int z3), (.int z13), (.int (5 : Int32)), (.int z17)])
    refine hp (fun tq kq => XS.iloadN X16.here hx rfl (hb hby at_147) rfl kq) ?_
    show G T16 (mkF m 148 #[.val (.int p0), .val (.int p1), .val (.int p2), .val (.int p3), .val (.int z1), .val (.int z3), .val (.ref b4), .val (.int z13), .val (.int z17), .unset] [(.int p1), (.int z3), (.int z13), (.int (5 : Int32)), (.int z17)])
    obtain ⟨v18, T18, L18, X18, hQ18, st18⟩ := own_callS X16 hx hZ (y := (⟨"com/example/referent/referent/solver/IntTablesNextTakenPinLaw", "step", "(IIIII)I"⟩ : MethodName)) (rm := ({ frames := 1, cells := 0, slots := 0, locals := 13 } : Room)) 0 hown (hw _ (List.mem_of_getElem? (i := 6) rfl)) (hw _ (List.mem_of_getElem? (i := 7) rfl)) (hw _ (List.mem_of_getElem? (i := 4) rfl)) (hw _ (List.mem_of_getElem? (i := 8) rfl)) (by decide) (rm2 l Z a0 hw [] z17 (5 : Int32) z13 z3 p1 T12.heap n0) e16 (by decide) (by decide) (g := (mkF m 148 #[.val (.int p0), .val (.int p1), .val (.int p2), .val (.int p3), .val (.int z1), .val (.int z3), .val (.ref b4), .val (.int z13), .val (.int z17), .unset] [(.int p1), (.int z3), (.int z13), (.int (5 : Int32)), (.int z17)])) rfl (by rw [hml]; rfl) [(.int z17), (.int (5 : Int32)), (.int z13), (.int z3), (.int p1)] [] own_pd2 rfl rfl (by show 2 * 0 + _ ≤ _; exact Nat.le_of_eq rfl) (hb hby at_148) rfl (by decide) (by decide)
    obtain ⟨rfl, N18, e18⟩ := hQ18
    have F18 := Fr.app F16 N18
    refine hp st18 ?_
    show G T18 (mkF m 151 #[.val (.int p0), .val (.int p1), .val (.int p2), .val (.int p3), .val (.int z1), .val (.int z3), .val (.ref b4), .val (.int z13), .val (.int z17), .unset] [(.int (own_step z17 (5 : Int32) z13 z3 p1))])
    refine hp (fun tq kq => XS.istore X18.here hx rfl (hb hby at_151) rfl (l' := #[.val (.int p0), .val (.int p1), .val (.int p2), .val (.int p3), .val (.int z1), .val (.int z3), .val (.ref b4), .val (.int z13), .val (.int (own_step z17 (5 : Int32) z13 z3 p1)), .unset]) rfl kq) ?_
    show G T18 (mkF m 153 #[.val (.int p0), .val (.int p1), .val (.int p2), .val (.int p3), .val (.int z1), .val (.int z3), .val (.ref b4), .val (.int z13), .val (.int (own_step z17 (5 : Int32) z13 z3 p1)), .unset] [])
    refine (?_ : ∀ (z19 : Int32), z19 = (own_step z17 (5 : Int32) z13 z3 p1) → G T18 (mkF m 153 #[.val (.int p0), .val (.int p1), .val (.int p2), .val (.int p3), .val (.int z1), .val (.int z3), .val (.ref b4), .val (.int z13), .val (.int z19), .unset] [])) _ rfl
    intro z19 hz19
    refine hp (fun tq kq => XS.iload X18.here hx rfl (hb hby at_153) rfl kq) ?_
    show G T18 (mkF m 155 #[.val (.int p0), .val (.int p1), .val (.int p2), .val (.int p3), .val (.int z1), .val (.int z3), .val (.ref b4), .val (.int z13), .val (.int z19), .unset] [(.int z19)])
    refine hp (fun tq kq => XS.iconst X18.here hx rfl (hb hby at_155) kq) ?_
    show G T18 (mkF m 156 #[.val (.int p0), .val (.int p1), .val (.int p2), .val (.int p3), .val (.int z1), .val (.int z3), .val (.ref b4), .val (.int z13), .val (.int z19), .unset] [(.int (4 : Int32)), (.int z19)])
    refine hp (fun tq kq => XS.iload X18.here hx rfl (hb hby at_156) rfl kq) ?_
    show G T18 (mkF m 158 #[.val (.int p0), .val (.int p1), .val (.int p2), .val (.int p3), .val (.int z1), .val (.int z3), .val (.ref b4), .val (.int z13), .val (.int z19), .unset] [(.int z13), (.int (4 : Int32)), (.int z19)])
    refine hp (fun tq kq => XS.iload X18.here hx rfl (hb hby at_158) rfl kq) ?_
    show G T18 (mkF m 160 #[.val (.int p0), .val (.int p1), .val (.int p2), .val (.int p3), .val (.int z1), .val (.int z3), .val (.ref b4), .val (.int z13), .val (.int z19), .unset] [(.int z3), (.int z13), (.int (4 : Int32)), (.int z19)])
    refine hp (fun tq kq => XS.iloadN X18.here hx rfl (hb hby at_160) rfl kq) ?_
    show G T18 (mkF m 161 #[.val (.int p0), .val (.int p1), .val (.int p2), .val (.int p3), .val (.int z1), .val (.int z3), .val (.ref b4), .val (.int z13), .val (.int z19), .unset] [(.int p1), (.int z3), (.int z13), (.int (4 : Int32)), (.int z19)])
    obtain ⟨v20, T20, L20, X20, hQ20, st20⟩ := own_callS X18 hx hZ (y := (⟨"com/example/referent/referent/solver/IntTablesNextTakenPinLaw", "step", "(IIIII)I"⟩ : MethodName)) (rm := ({ frames := 1, cells := 0, slots := 0, locals := 13 } : Room)) 0 hown (hw _ (List.mem_of_getElem? (i := 6) rfl)) (hw _ (List.mem_of_getElem? (i := 7) rfl)) (hw _ (List.mem_of_getElem? (i := 4) rfl)) (hw _ (List.mem_of_getElem? (i := 8) rfl)) (by decide) (rm2 l Z a0 hw [] z19 (4 : Int32) z13 z3 p1 T12.heap n0) e18 (by decide) (by decide) (g := (mkF m 161 #[.val (.int p0), .val (.int p1), .val (.int p2), .val (.int p3), .val (.int z1), .val (.int z3), .val (.ref b4), .val (.int z13), .val (.int z19), .unset] [(.int p1), (.int z3), (.int z13), (.int (4 : Int32)), (.int z19)])) rfl (by rw [hml]; rfl) [(.int z19), (.int (4 : Int32)), (.int z13), (.int z3), (.int p1)] [] own_pd2 rfl rfl (by show 2 * 0 + _ ≤ _; exact Nat.le_of_eq rfl) (hb hby at_161) rfl (by decide) (by decide)
    obtain ⟨rfl, N20, e20⟩ := hQ20
    have F20 := Fr.app F18 N20
    refine hp st20 ?_
    show G T20 (mkF m 164 #[.val (.int p0), .val (.int p1), .val (.int p2), .val (.int p3), .val (.int z1), .val (.int z3), .val (.ref b4), .val (.int z13), .val (.int z19), .unset] [(.int (own_step z19 (4 : Int32) z13 z3 p1))])
    refine hp (fun tq kq => XS.istore X20.here hx rfl (hb hby at_164) rfl (l' := #[.val (.int p0), .val (.int p1), .val (.int p2), .val (.int p3), .val (.int z1), .val (.int z3), .val (.ref b4), .val (.int z13), .val (.int (own_step z19 (4 : Int32) z13 z3 p1)), .unset]) rfl kq) ?_
    show G T20 (mkF m 166 #[.val (.int p0), .val (.int p1), .val (.int p2), .val (.int p3), .val (.int z1), .val (.int z3), .val (.ref b4), .val (.int z13), .val (.int (own_step z19 (4 : Int32) z13 z3 p1)), .unset] [])
    refine (?_ : ∀ (z21 : Int32), z21 = (own_step z19 (4 : Int32) z13 z3 p1) → G T20 (mkF m 166 #[.val (.int p0), .val (.int p1), .val (.int p2), .val (.int p3), .val (.int z1), .val (.int z3), .val (.ref b4), .val (.int z13), .val (.int z21), .unset] [])) _ rfl
    intro z21 hz21
    refine hp (fun tq kq => XS.iload X20.here hx rfl (hb hby at_166) rfl kq) ?_
    show G T20 (mkF m 168 #[.val (.int p0), .val (.int p1), .val (.int p2), .val (.int p3), .val (.int z1), .val (.int z3), .val (.ref b4), .val (.int z13), .val (.int z21), .unset] [(.int z21)])
    refine hp (fun tq kq => XS.iconst X20.here hx rfl (hb hby at_168) kq) ?_
    show G T20 (mkF m 169 #[.val (.int p0), .val (.int p1), .val (.int p2), .val (.int p3), .val (.int z1), .val (.int z3), .val (.ref b4), .val (.int z13), .val (.int z21), .unset] [(.int (3 : Int32)), (.int z21)])
    refine hp (fun tq kq => XS.iload X20.here hx rfl (hb hby at_169) rfl kq) ?_
    show G T20 (mkF m 171 #[.val (.int p0), .val (.int p1), .val (.int p2), .val (.int p3), .val (.int z1), .val (.int z3), .val (.ref b4), .val (.int z13), .val (.int z21), .unset] [(.int z13), (.int (3 : Int32)), (.int z21)])
    refine hp (fun tq kq => XS.iload X20.here hx rfl (hb hby at_171) rfl kq) ?_
    show G T20 (mkF m 173 #[.val (.int p0), .val (.int p1), .val (.int p2), .val (.int p3), .val (.int z1), .val (.int z3), .val (.ref b4), .val (.int z13), .val (.int z21), .unset] [(.int z3), (.int z13), (.int (3 : Int32)), (.int z21)])
    refine hp (fun tq kq => XS.iloadN X20.here hx rfl (hb hby at_173) rfl kq) ?_
    show G T20 (mkF m 174 #[.val (.int p0), .val (.int p1), .val (.int p2), .val (.int p3), .val (.int z1), .val (.int z3), .val (.ref b4), .val (.int z13), .val (.int z21), .unset] [(.int p1), (.int z3), (.int z13), (.int (3 : Int32)), (.int z21)])
    obtain ⟨v22, T22, L22, X22, hQ22, st22⟩ := own_callS X20 hx hZ (y := (⟨"com/example/referent/referent/solver/IntTablesNextTakenPinLaw", "step", "(IIIII)I"⟩ : MethodName)) (rm := ({ frames := 1, cells := 0, slots := 0, locals := 13 } : Room)) 0 hown (hw _ (List.mem_of_getElem? (i := 6) rfl)) (hw _ (List.mem_of_getElem? (i := 7) rfl)) (hw _ (List.mem_of_getElem? (i := 4) rfl)) (hw _ (List.mem_of_getElem? (i := 8) rfl)) (by decide) (rm2 l Z a0 hw [] z21 (3 : Int32) z13 z3 p1 T12.heap n0) e20 (by decide) (by decide) (g := (mkF m 174 #[.val (.int p0), .val (.int p1), .val (.int p2), .val (.int p3), .val (.int z1), .val (.int z3), .val (.ref b4), .val (.int z13), .val (.int z21), .unset] [(.int p1), (.int z3), (.int z13), (.int (3 : Int32)), (.int z21)])) rfl (by rw [hml]; rfl) [(.int z21), (.int (3 : Int32)), (.int z13), (.int z3), (.int p1)] [] own_pd2 rfl rfl (by show 2 * 0 + _ ≤ _; exact Nat.le_of_eq rfl) (hb hby at_174) rfl (by decide) (by decide)
    obtain ⟨rfl, N22, e22⟩ := hQ22
    have F22 := Fr.app F20 N22
    refine hp st22 ?_
    show G T22 (mkF m 177 #[.val (.int p0), .val (.int p1), .val (.int p2), .val (.int p3), .val (.int z1), .val (.int z3), .val (.ref b4), .val (.int z13), .val (.int z21), .unset] [(.int (own_step z21 (3 : Int32) z13 z3 p1))])
    refine hp (fun tq kq => XS.istore X22.here hx rfl (hb hby at_177) rfl (l' := #[.val (.int p0), .val (.int p1), .val (.int p2), .val (.int p3), .val (.int z1), .val (.int z3), .val (.ref b4), .val (.int z13), .val (.int (own_step z21 (3 : Int32) z13 z3 p1)), .unset]) rfl kq) ?_
    show G T22 (mkF m 179 #[.val (.int p0), .val (.int p1), .val (.int p2), .val (.int p3), .val (.int z1), .val (.int z3), .val (.ref b4), .val (.int z13), .val (.int (own_step z21 (3 : Int32) z13 z3 p1)), .unset] [])
    refine (?_ : ∀ (z23 : Int32), z23 = (own_step z21 (3 : Int32) z13 z3 p1) → G T22 (mkF m 179 #[.val (.int p0), .val (.int p1), .val (.int p2), .val (.int p3), .val (.int z1), .val (.int z3), .val (.ref b4), .val (.int z13), .val (.int z23), .unset] [])) _ rfl
    intro z23 hz23
    refine hp (fun tq kq => XS.iload X22.here hx rfl (hb hby at_179) rfl kq) ?_
    show G T22 (mkF m 181 #[.val (.int p0), .val (.int p1), .val (.int p2), .val (.int p3), .val (.int z1), .val (.int z3), .val (.ref b4), .val (.int z13), .val (.int z23), .unset] [(.int z23)])
    refine hp (fun tq kq => XS.iconst X22.here hx rfl (hb hby at_181) kq) ?_
    show G T22 (mkF m 182 #[.val (.int p0), .val (.int p1), .val (.int p2), .val (.int p3), .val (.int z1), .val (.int z3), .val (.ref b4), .val (.int z13), .val (.int z23), .unset] [(.int (2 : Int32)), (.int z23)])
    refine hp (fun tq kq => XS.iload X22.here hx rfl (hb hby at_182) rfl kq) ?_
    show G T22 (mkF m 184 #[.val (.int p0), .val (.int p1), .val (.int p2), .val (.int p3), .val (.int z1), .val (.int z3), .val (.ref b4), .val (.int z13), .val (.int z23), .unset] [(.int z13), (.int (2 : Int32)), (.int z23)])
    refine hp (fun tq kq => XS.iload X22.here hx rfl (hb hby at_184) rfl kq) ?_
    show G T22 (mkF m 186 #[.val (.int p0), .val (.int p1), .val (.int p2), .val (.int p3), .val (.int z1), .val (.int z3), .val (.ref b4), .val (.int z13), .val (.int z23), .unset] [(.int z3), (.int z13), (.int (2 : Int32)), (.int z23)])
    refine hp (fun tq kq => XS.iloadN X22.here hx rfl (hb hby at_186) rfl kq) ?_
    show G T22 (mkF m 187 #[.val (.int p0), .val (.int p1), .val (.int p2), .val (.int p3), .val (.int z1), .val (.int z3), .val (.ref b4), .val (.int z13), .val (.int z23), .unset] [(.int p1), (.int z3), (.int z13), (.int (2 : Int32)), (.int z23)])
    obtain ⟨v24, T24, L24, X24, hQ24, st24⟩ := own_callS X22 hx hZ (y := (⟨"com/example/referent/referent/solver/IntTablesNextTakenPinLaw", "step", "(IIIII)I"⟩ : MethodName)) (rm := ({ frames := 1, cells := 0, slots := 0, locals := 13 } : Room)) 0 hown (hw _ (List.mem_of_getElem? (i := 6) rfl)) (hw _ (List.mem_of_getElem? (i := 7) rfl)) (hw _ (List.mem_of_getElem? (i := 4) rfl)) (hw _ (List.mem_of_getElem? (i := 8) rfl)) (by decide) (rm2 l Z a0 hw [] z23 (2 : Int32) z13 z3 p1 T12.heap n0) e22 (by decide) (by decide) (g := (mkF m 187 #[.val (.int p0), .val (.int p1), .val (.int p2), .val (.int p3), .val (.int z1), .val (.int z3), .val (.ref b4), .val (.int z13), .val (.int z23), .unset] [(.int p1), (.int z3), (.int z13), (.int (2 : Int32)), (.int z23)])) rfl (by rw [hml]; rfl) [(.int z23), (.int (2 : Int32)), (.int z13), (.int z3), (.int p1)] [] own_pd2 rfl rfl (by show 2 * 0 + _ ≤ _; exact Nat.le_of_eq rfl) (hb hby at_187) rfl (by decide) (by decide)
    obtain ⟨rfl, N24, e24⟩ := hQ24
    have F24 := Fr.app F22 N24
    refine hp st24 ?_
    show G T24 (mkF m 190 #[.val (.int p0), .val (.int p1), .val (.int p2), .val (.int p3), .val (.int z1), .val (.int z3), .val (.ref b4), .val (.int z13), .val (.int z23), .unset] [(.int (own_step z23 (2 : Int32) z13 z3 p1))])
    refine hp (fun tq kq => XS.istore X24.here hx rfl (hb hby at_190) rfl (l' := #[.val (.int p0), .val (.int p1), .val (.int p2), .val (.int p3), .val (.int z1), .val (.int z3), .val (.ref b4), .val (.int z13), .val (.int (own_step z23 (2 : Int32) z13 z3 p1)), .unset]) rfl kq) ?_
    show G T24 (mkF m 192 #[.val (.int p0), .val (.int p1), .val (.int p2), .val (.int p3), .val (.int z1), .val (.int z3), .val (.ref b4), .val (.int z13), .val (.int (own_step z23 (2 : Int32) z13 z3 p1)), .unset] [])
    refine (?_ : ∀ (z25 : Int32), z25 = (own_step z23 (2 : Int32) z13 z3 p1) → G T24 (mkF m 192 #[.val (.int p0), .val (.int p1), .val (.int p2), .val (.int p3), .val (.int z1), .val (.int z3), .val (.ref b4), .val (.int z13), .val (.int z25), .unset] [])) _ rfl
    intro z25 hz25
    refine hp (fun tq kq => XS.iload X24.here hx rfl (hb hby at_192) rfl kq) ?_
    show G T24 (mkF m 194 #[.val (.int p0), .val (.int p1), .val (.int p2), .val (.int p3), .val (.int z1), .val (.int z3), .val (.ref b4), .val (.int z13), .val (.int z25), .unset] [(.int z25)])
    refine hp (fun tq kq => XS.iconst X24.here hx rfl (hb hby at_194) kq) ?_
    show G T24 (mkF m 195 #[.val (.int p0), .val (.int p1), .val (.int p2), .val (.int p3), .val (.int z1), .val (.int z3), .val (.ref b4), .val (.int z13), .val (.int z25), .unset] [(.int (1 : Int32)), (.int z25)])
    refine hp (fun tq kq => XS.iload X24.here hx rfl (hb hby at_195) rfl kq) ?_
    show G T24 (mkF m 197 #[.val (.int p0), .val (.int p1), .val (.int p2), .val (.int p3), .val (.int z1), .val (.int z3), .val (.ref b4), .val (.int z13), .val (.int z25), .unset] [(.int z13), (.int (1 : Int32)), (.int z25)])
    refine hp (fun tq kq => XS.iload X24.here hx rfl (hb hby at_197) rfl kq) ?_
    show G T24 (mkF m 199 #[.val (.int p0), .val (.int p1), .val (.int p2), .val (.int p3), .val (.int z1), .val (.int z3), .val (.ref b4), .val (.int z13), .val (.int z25), .unset] [(.int z3), (.int z13), (.int (1 : Int32)), (.int z25)])
    refine hp (fun tq kq => XS.iloadN X24.here hx rfl (hb hby at_199) rfl kq) ?_
    show G T24 (mkF m 200 #[.val (.int p0), .val (.int p1), .val (.int p2), .val (.int p3), .val (.int z1), .val (.int z3), .val (.ref b4), .val (.int z13), .val (.int z25), .unset] [(.int p1), (.int z3), (.int z13), (.int (1 : Int32)), (.int z25)])
    obtain ⟨v26, T26, L26, X26, hQ26, st26⟩ := own_callS X24 hx hZ (y := (⟨"com/example/referent/referent/solver/IntTablesNextTakenPinLaw", "step", "(IIIII)I"⟩ : MethodName)) (rm := ({ frames := 1, cells := 0, slots := 0, locals := 13 } : Room)) 0 hown (hw _ (List.mem_of_getElem? (i := 6) rfl)) (hw _ (List.mem_of_getElem? (i := 7) rfl)) (hw _ (List.mem_of_getElem? (i := 4) rfl)) (hw _ (List.mem_of_getElem? (i := 8) rfl)) (by decide) (rm2 l Z a0 hw [] z25 (1 : Int32) z13 z3 p1 T12.heap n0) e24 (by decide) (by decide) (g := (mkF m 200 #[.val (.int p0), .val (.int p1), .val (.int p2), .val (.int p3), .val (.int z1), .val (.int z3), .val (.ref b4), .val (.int z13), .val (.int z25), .unset] [(.int p1), (.int z3), (.int z13), (.int (1 : Int32)), (.int z25)])) rfl (by rw [hml]; rfl) [(.int z25), (.int (1 : Int32)), (.int z13), (.int z3), (.int p1)] [] own_pd2 rfl rfl (by show 2 * 0 + _ ≤ _; exact Nat.le_of_eq rfl) (hb hby at_200) rfl (by decide) (by decide)
    obtain ⟨rfl, N26, e26⟩ := hQ26
    have F26 := Fr.app F24 N26
    refine hp st26 ?_
    show G T26 (mkF m 203 #[.val (.int p0), .val (.int p1), .val (.int p2), .val (.int p3), .val (.int z1), .val (.int z3), .val (.ref b4), .val (.int z13), .val (.int z25), .unset] [(.int (own_step z25 (1 : Int32) z13 z3 p1))])
    refine hp (fun tq kq => XS.istore X26.here hx rfl (hb hby at_203) rfl (l' := #[.val (.int p0), .val (.int p1), .val (.int p2), .val (.int p3), .val (.int z1), .val (.int z3), .val (.ref b4), .val (.int z13), .val (.int (own_step z25 (1 : Int32) z13 z3 p1)), .unset]) rfl kq) ?_
    show G T26 (mkF m 205 #[.val (.int p0), .val (.int p1), .val (.int p2), .val (.int p3), .val (.int z1), .val (.int z3), .val (.ref b4), .val (.int z13), .val (.int (own_step z25 (1 : Int32) z13 z3 p1)), .unset] [])
    refine (?_ : ∀ (z27 : Int32), z27 = (own_step z25 (1 : Int32) z13 z3 p1) → G T26 (mkF m 205 #[.val (.int p0), .val (.int p1), .val (.int p2), .val (.int p3), .val (.int z1), .val (.int z3), .val (.ref b4), .val (.int z13), .val (.int z27), .unset] [])) _ rfl
    intro z27 hz27
    refine hp (fun tq kq => XS.iload X26.here hx rfl (hb hby at_205) rfl kq) ?_
    show G T26 (mkF m 207 #[.val (.int p0), .val (.int p1), .val (.int p2), .val (.int p3), .val (.int z1), .val (.int z3), .val (.ref b4), .val (.int z13), .val (.int z27), .unset] [(.int z27)])
    refine hp (fun tq kq => XS.iconst X26.here hx rfl (hb hby at_207) kq) ?_
    show G T26 (mkF m 208 #[.val (.int p0), .val (.int p1), .val (.int p2), .val (.int p3), .val (.int z1), .val (.int z3), .val (.ref b4), .val (.int z13), .val (.int z27), .unset] [(.int (0 : Int32)), (.int z27)])
    refine hp (fun tq kq => XS.iload X26.here hx rfl (hb hby at_208) rfl kq) ?_
    show G T26 (mkF m 210 #[.val (.int p0), .val (.int p1), .val (.int p2), .val (.int p3), .val (.int z1), .val (.int z3), .val (.ref b4), .val (.int z13), .val (.int z27), .unset] [(.int z13), (.int (0 : Int32)), (.int z27)])
    refine hp (fun tq kq => XS.iload X26.here hx rfl (hb hby at_210) rfl kq) ?_
    show G T26 (mkF m 212 #[.val (.int p0), .val (.int p1), .val (.int p2), .val (.int p3), .val (.int z1), .val (.int z3), .val (.ref b4), .val (.int z13), .val (.int z27), .unset] [(.int z3), (.int z13), (.int (0 : Int32)), (.int z27)])
    refine hp (fun tq kq => XS.iloadN X26.here hx rfl (hb hby at_212) rfl kq) ?_
    show G T26 (mkF m 213 #[.val (.int p0), .val (.int p1), .val (.int p2), .val (.int p3), .val (.int z1), .val (.int z3), .val (.ref b4), .val (.int z13), .val (.int z27), .unset] [(.int p1), (.int z3), (.int z13), (.int (0 : Int32)), (.int z27)])
    obtain ⟨v28, T28, L28, X28, hQ28, st28⟩ := own_callS X26 hx hZ (y := (⟨"com/example/referent/referent/solver/IntTablesNextTakenPinLaw", "step", "(IIIII)I"⟩ : MethodName)) (rm := ({ frames := 1, cells := 0, slots := 0, locals := 13 } : Room)) 0 hown (hw _ (List.mem_of_getElem? (i := 6) rfl)) (hw _ (List.mem_of_getElem? (i := 7) rfl)) (hw _ (List.mem_of_getElem? (i := 4) rfl)) (hw _ (List.mem_of_getElem? (i := 8) rfl)) (by decide) (rm2 l Z a0 hw [] z27 (0 : Int32) z13 z3 p1 T12.heap n0) e26 (by decide) (by decide) (g := (mkF m 213 #[.val (.int p0), .val (.int p1), .val (.int p2), .val (.int p3), .val (.int z1), .val (.int z3), .val (.ref b4), .val (.int z13), .val (.int z27), .unset] [(.int p1), (.int z3), (.int z13), (.int (0 : Int32)), (.int z27)])) rfl (by rw [hml]; rfl) [(.int z27), (.int (0 : Int32)), (.int z13), (.int z3), (.int p1)] [] own_pd2 rfl rfl (by show 2 * 0 + _ ≤ _; exact Nat.le_of_eq rfl) (hb hby at_213) rfl (by decide) (by decide)
    obtain ⟨rfl, N28, e28⟩ := hQ28
    have F28 := Fr.app F26 N28
    refine hp st28 ?_
    show G T28 (mkF m 216 #[.val (.int p0), .val (.int p1), .val (.int p2), .val (.int p3), .val (.int z1), .val (.int z3), .val (.ref b4), .val (.int z13), .val (.int z27), .unset] [(.int (own_step z27 (0 : Int32) z13 z3 p1))])
    refine hp (fun tq kq => XS.istore X28.here hx rfl (hb hby at_216) rfl (l' := #[.val (.int p0), .val (.int p1), .val (.int p2), .val (.int p3), .val (.int z1), .val (.int z3), .val (.ref b4), .val (.int z13), .val (.int (own_step z27 (0 : Int32) z13 z3 p1)), .unset]) rfl kq) ?_
    show G T28 (mkF m 218 #[.val (.int p0), .val (.int p1), .val (.int p2), .val (.int p3), .val (.int z1), .val (.int z3), .val (.ref b4), .val (.int z13), .val (.int (own_step z27 (0 : Int32) z13 z3 p1)), .unset] [])
    refine (?_ : ∀ (z29 : Int32), z29 = (own_step z27 (0 : Int32) z13 z3 p1) → G T28 (mkF m 218 #[.val (.int p0), .val (.int p1), .val (.int p2), .val (.int p3), .val (.int z1), .val (.int z3), .val (.ref b4), .val (.int z13), .val (.int z29), .unset] [])) _ rfl
    intro z29 hz29
    refine hp (fun tq kq => XS.aload X28.here hx rfl (hb hby at_218) rfl rfl kq) ?_
    show G T28 (mkF m 220 #[.val (.int p0), .val (.int p1), .val (.int p2), .val (.int p3), .val (.int z1), .val (.int z3), .val (.ref b4), .val (.int z13), .val (.int z29), .unset] [(.ref b4)])
    refine hp (fun tq kq => XS.iload X28.here hx rfl (hb hby at_220) rfl kq) ?_
    show G T28 (mkF m 222 #[.val (.int p0), .val (.int p1), .val (.int p2), .val (.int p3), .val (.int z1), .val (.int z3), .val (.ref b4), .val (.int z13), .val (.int z29), .unset] [(.int z13), (.ref b4)])
    obtain ⟨v30, T30, L30, X30, hQ30, st30⟩ := own_callS X28 hx hZ (y := (⟨"com/example/referent/referent/solver/IntTables", "nextTaken", "([II)I"⟩ : MethodName)) (rm := ({ frames := 0, cells := 0, slots := 0, locals := 0 } : Room)) 0 hown (hw _ (List.mem_of_getElem? (i := 9) rfl)) (hw _ (List.mem_of_getElem? (i := 10) rfl)) (hw _ (List.mem_of_getElem? (i := 11) rfl)) (hw _ (List.mem_of_getElem? (i := 12) rfl)) (by decide) (rm3 l Z a0 hw [] b4 z13 n z3 s0 f12 T12.heap n0 hN hs V12_b4) e28 (by decide) (by decide) (g := (mkF m 222 #[.val (.int p0), .val (.int p1), .val (.int p2), .val (.int p3), .val (.int z1), .val (.int z3), .val (.ref b4), .val (.int z13), .val (.int z29), .unset] [(.int z13), (.ref b4)])) rfl (by rw [hml]; rfl) [(.ref b4), (.int z13)] [] own_pd3 rfl rfl (by show 2 * 0 + _ ≤ _; exact Nat.le_of_eq rfl) (hb hby at_222) rfl (by decide) (by decide)
    obtain ⟨rv, r0, rfl, hr0, N30, e30⟩ := hQ30
    have F30 := Fr.app F28 N30
    refine hp st30 ?_
    show G T30 (mkF m 225 #[.val (.int p0), .val (.int p1), .val (.int p2), .val (.int p3), .val (.int z1), .val (.int z3), .val (.ref b4), .val (.int z13), .val (.int z29), .unset] [(.int rv)])
    refine hp (fun tq kq => XS.istore X30.here hx rfl (hb hby at_225) rfl (l' := #[.val (.int p0), .val (.int p1), .val (.int p2), .val (.int p3), .val (.int z1), .val (.int z3), .val (.ref b4), .val (.int z13), .val (.int z29), .val (.int rv)]) rfl kq) ?_
    show G T30 (mkF m 227 #[.val (.int p0), .val (.int p1), .val (.int p2), .val (.int p3), .val (.int z1), .val (.int z3), .val (.ref b4), .val (.int z13), .val (.int z29), .val (.int rv)] [])
    refine hp (fun tq kq => XS.iload X30.here hx rfl (hb hby at_227) rfl kq) ?_
    show G T30 (mkF m 229 #[.val (.int p0), .val (.int p1), .val (.int p2), .val (.int p3), .val (.int z1), .val (.int z3), .val (.ref b4), .val (.int z13), .val (.int z29), .val (.int rv)] [(.int rv)])
    refine hp (fun tq kq => XS.iload X30.here hx rfl (hb hby at_229) rfl kq) ?_
    show G T30 (mkF m 231 #[.val (.int p0), .val (.int p1), .val (.int p2), .val (.int p3), .val (.int z1), .val (.int z3), .val (.ref b4), .val (.int z13), .val (.int z29), .val (.int rv)] [(.int z29), (.int rv)])
    refine hp (fun tq kq => XS.icmpNo X30.here hx rfl (hb hby at_231) rfl (teq (own_law hn hneg hn8 hs hr0 hf5 hf6 hf7 hf8 hf9 hf10 hf11 hf12 hz15 hz17 hz19 hz21 hz23 hz25 hz27 hz29)).2 kq) ?_
    show G T30 (mkF m 234 #[.val (.int p0), .val (.int p1), .val (.int p2), .val (.int p3), .val (.int z1), .val (.int z3), .val (.ref b4), .val (.int z13), .val (.int z29), .val (.int rv)] [])
    refine hp (fun tq kq => XS.iconst X30.here hx rfl (hb hby at_234) kq) ?_
    show G T30 (mkF m 235 #[.val (.int p0), .val (.int p1), .val (.int p2), .val (.int p3), .val (.int z1), .val (.int z3), .val (.ref b4), .val (.int z13), .val (.int z29), .val (.int rv)] [(.int (1 : Int32))])
    refine hp (fun tq kq => XS.goto X30.here hx rfl (pc0 := 235) (pc' := 239) rfl (hb hby at_235) (by decide) (by decide) kq) ?_
    show G T30 (mkF m 239 #[.val (.int p0), .val (.int p1), .val (.int p2), .val (.int p3), .val (.int z1), .val (.int z3), .val (.ref b4), .val (.int z13), .val (.int z29), .val (.int rv)] [(.int (1 : Int32))])
    exact hR X30 (fun fs hl => retN X30 hx (t := .boolean) hret (by simp) (hb hby at_239) hl) (fun q => by rw [hret] at q; cases q) ⟨rfl, F30⟩ (by decide) (by decide)
  by_cases hb31 : z1 = (0 : Int32)
  · refine hp (fun tq kq => XS.ifNo X0.here hx rfl (hb hby at_10) rfl ((if0 _ _).trans (teq hb31).2) kq) ?_
    show G s₁ (mkF m 13 #[.val (.int p0), .val (.int p1), .val (.int p2), .val (.int p3), .val (.int z1), .unset, .unset, .unset, .unset, .unset] [])
    refine hp (fun tq kq => XS.iconst X0.here hx rfl (hb hby at_13) kq) ?_
    show G s₁ (mkF m 14 #[.val (.int p0), .val (.int p1), .val (.int p2), .val (.int p3), .val (.int z1), .unset, .unset, .unset, .unset, .unset] [(.int (0 : Int32))])
    refine hp (fun tq kq => XS.goto X0.here hx rfl (pc0 := 14) (pc' := 23) rfl (hb hby at_14) (by decide) (by decide) kq) ?_
    show G s₁ (mkF m 23 #[.val (.int p0), .val (.int p1), .val (.int p2), .val (.int p3), .val (.int z1), .unset, .unset, .unset, .unset, .unset] [(.int (0 : Int32))])
    exact j2 _ ((if_pos hb31)).symm
  · refine hp (fun tq kq => XS.ifYes X0.here hx rfl (pc0 := 10) (pc' := 17) rfl (hb hby at_10) rfl ((if0 _ _).trans (feq hb31).2) (by decide) (by decide) kq) ?_
    show G s₁ (mkF m 17 #[.val (.int p0), .val (.int p1), .val (.int p2), .val (.int p3), .val (.int z1), .unset, .unset, .unset, .unset, .unset] [])
    refine hp (fun tq kq => XS.iconst X0.here hx rfl (hb hby at_17) kq) ?_
    show G s₁ (mkF m 18 #[.val (.int p0), .val (.int p1), .val (.int p2), .val (.int p3), .val (.int z1), .unset, .unset, .unset, .unset, .unset] [(.int (1 : Int32))])
    refine hp (fun tq kq => XS.iload X0.here hx rfl (hb hby at_18) rfl kq) ?_
    show G s₁ (mkF m 20 #[.val (.int p0), .val (.int p1), .val (.int p2), .val (.int p3), .val (.int z1), .unset, .unset, .unset, .unset, .unset] [(.int z1), (.int (1 : Int32))])
    refine hp (fun tq kq => XS.iconst X0.here hx rfl (hb hby at_20) kq) ?_
    show G s₁ (mkF m 21 #[.val (.int p0), .val (.int p1), .val (.int p2), .val (.int p3), .val (.int z1), .unset, .unset, .unset, .unset, .unset] [(.int (1 : Int32)), (.int z1), (.int (1 : Int32))])
    refine hp (fun tq kq => XS.isub X0.here hx rfl (hb hby at_21) rfl kq) ?_
    show G s₁ (mkF m 22 #[.val (.int p0), .val (.int p1), .val (.int p2), .val (.int p3), .val (.int z1), .unset, .unset, .unset, .unset, .unset] [(.int (z1 - (1 : Int32))), (.int (1 : Int32))])
    refine hp (fun tq kq => XS.ishl X0.here hx rfl (hb hby at_22) rfl kq) ?_
    show G s₁ (mkF m 23 #[.val (.int p0), .val (.int p1), .val (.int p2), .val (.int p3), .val (.int z1), .unset, .unset, .unset, .unset, .unset] [(.int ((1 : Int32) <<< ((z1 - (1 : Int32)) &&& 31)))])
    exact j2 _ ((if_neg hb31)).symm
set_option maxRecDepth 65536 in
set_option maxHeartbeats 40000000 in
theorem comes_1 {Post : Tables → Env → Array Value → State → Outcome → State → Prop} (hpost : ∀ tb e args s v u, (limb_1_1.after args s (.returned v) u = true ∧ limb_1_2.after args s (.returned v) u = true ∧ True) → FrameEnd s (.returned v) u (Jvm.fieldLocs frame_1_writes args s ++ Jvm.arrayLocs frame_1_arrays args s ++ Jvm.staticLocs frame_1_statics s) 16 128 → Post tb e args s (.returned v) u) :
    ArmFor flags0 classFile x code maxLocals ret World_1 tables_1 room_1 Calls_1 rest_1 Pre_1 Post := by
  intro l hfl _ _ p e ha hc hk s m args below hf hA hF happ hP
  obtain ⟨hcalls, hrest, hpre⟩ := hP
  obtain ⟨-, -, -, hnamed, -, -, -, hat⟩ := (Spec.applies_iff hf).mp happ
  obtain ⟨hg, hn⟩ := and_e (Cond.before_iff.mp (show (Jvm.Cond.and given_1 narrow_1).before args s = true from hpre))
  obtain ⟨hcnt, hgs⟩ := and_e hg
  obtain ⟨ha0, hgs⟩ := and_e hgs
  obtain ⟨ha1, hgs⟩ := and_e hgs
  obtain ⟨ha2, hgs⟩ := and_e hgs
  have ha3 := hgs
  obtain ⟨w0, w1, w2, w3, rfl⟩ : ∃ w0 w1 w2 w3 : Value, args = #[w0, w1, w2, w3] := by
    have hs : args.size = 4 := by simpa [Cond.value, given_1] using hcnt
    obtain ⟨L⟩ := args
    match L, hs with
    | [w0, w1, w2, w3], _ => exact ⟨w0, w1, w2, w3, rfl⟩
  have hw := fun d (hd : d ∈ tables_1) => atoms_spec (ws := Jvm.Cond.code x code maxLocals ret :: tables_1) hat d (List.mem_cons_of_mem _ hd)
  obtain ⟨i0, ei0⟩ := is_v ha0
  obtain rfl : w0 = (.int i0) := Option.some.inj ei0
  obtain ⟨i1, ei1⟩ := is_v ha1
  obtain rfl : w1 = (.int i1) := Option.some.inj ei1
  obtain ⟨i2, ei2⟩ := is_v ha2
  obtain rfl : w2 = (.int i2) := Option.some.inj ei2
  obtain ⟨i3, ei3⟩ := is_v ha3
  obtain rfl : w3 = (.int i3) := Option.some.inj ei3
  obtain ⟨n, o, h1, h2, h3, _, L, rfl, ⟨rfl, N⟩, hq⟩ := rm0 l s _ hw tables_1 i0 i1 i2 i3 s.heap s.heap.size (Nat.le_refl _) p e ha hc hk s m _ below hf ((Spec.applies_iff_loose hf).mp happ).1 ⟨rfl, State.Warmed39.refl s, rfl⟩ trivial
  exact ⟨n, _, h1, h2, h3, hpost _ _ _ _ _ _ ⟨Cond.after_iff.mpr rfl, Cond.after_iff.mpr (eq_i res_at (Term.int_eval (1)) rfl), trivial⟩ ⟨hq.1, hq.2.1, (hq.2.2.sift fun y hy => Or.inr (N y hy)).mono (by decide) (by decide)⟩⟩
theorem main_1_1 : Claimed_1_1 := comes_1 fun _ _ _ _ _ _ h hF => ⟨h.1, hF⟩
theorem main_1_2 : Claimed_1_2 := comes_1 fun _ _ _ _ _ _ h hF => ⟨h.2.1, hF⟩
end Jvm.Pilot.@@N@@
namespace Jvm.Pilot.@@N@@
open Jvm Jvm.ClassFile Sem Op Lib Jvm.Free Jvm.Stand Jvm.Pilot.@@N@@.Jvm.D
/-! MADE BY PROGRAM (witnessworld.py) out of the Statement's table words and the real class files: 9 classes; the members and pool entries that the words name. The judged class is class 1, her method 4. -/
namespace start1
open Jvm.ClassFile
def u (s : String) : CpInfo := .utf8 (stringToUtf16 s)
/-- a pool by its gaps: so many unusable entries, then the entry; so many at the end -/
def gap : Nat → List CpInfo → List CpInfo
  | 0, r => r
  | n + 1, r => .unusable :: gap n r
def poolList (es : List (Nat × CpInfo)) (last : Nat) : List CpInfo := es.foldr (fun e r => gap e.1 (e.2 :: r)) (gap last [])
def pool (es : List (Nat × CpInfo)) (last : Nat) : Array CpInfo := ⟨poolList es last⟩
def fileOf (pool : Array CpInfo) (this : Nat) (attrs : Array Attribute := #[]) (ms : Array MethodInfo := #[]) (fl : Nat := 33) (sup : Nat := 0) (ifs : Array Nat := #[]) (fds : Array FieldInfo := #[]) : ClassFile where
  minorVersion := 0
  majorVersion := 65
  constantPool := pool
  accessFlags := fl
  thisClass := this
  superClass := sup
  interfaces := ifs
  fields := fds
  methods := ms
  attributes := attrs
def plain (name : String) (sup : Option ClassId) : Class where
  name := name
  kind := .ordinary
  loader := none
  accessFlags := 33
  super := sup
  interfaces := #[]
  cf := none
  fields := #[]
  methods := #[]
  instanceTypes := #[]
  staticTypes := #[]
  resolved := #[]
  callSites := []
  init := .initialized
  statics := none
  mirror := none

def pool0 : Array CpInfo := pool [(5, u "<init>"), (0, u "()V"), (1, .class_ 10), (1, u "java/lang/Object")] 113

def k0m0 : Method := { name := "<init>", desc := "()V", sig := { parameters := [], returnType := none }, accessFlags := 1, code := none }
/-- java/lang/Object -/
def k0 : Class := { plain "java/lang/Object" none with
  accessFlags := 33
  interfaces := #[]
  cf := some (fileOf pool0 8 #[] #[{ accessFlags := 1, nameIndex := 5, descriptorIndex := 6, attributes := #[] }] 33 0 #[] #[])
  fields := #[]
  methods := #[k0m0]
  instanceTypes := #[]
  staticTypes := #[]
  resolved := Array.replicate 124 none
  statics := none }

def pool1 : Array CpInfo := pool [(2, .class_ 4), (1, u "java/lang/Object"), (0, u "<init>"), (0, u "()V"), (0, .methodref 8 9), (0, .class_ 10), (0, .nameAndType 11 12), (0, u "com/example/referent/referent/solver/IntTablesNextTakenPinLaw"), (0, u "taken"), (0, u "(II)Z"), (0, .integer 2147483647), (0, .class_ 15), (0, u "com/example/referent/referent/solver/IntTables"), (0, .methodref 8 17), (0, .nameAndType 18 19), (0, u "put"), (0, u "([IIII)V"), (0, .methodref 8 21), (0, .nameAndType 22 23), (0, u "step"), (0, u "(IIIII)I"), (0, .methodref 14 25), (0, .nameAndType 26 27), (0, u "nextTaken"), (0, u "([II)I"), (5, u "law"), (0, u "(IIII)Z")] 2

def k1m0 : Method := { name := "<init>", desc := "()V", sig := { parameters := [], returnType := none }, accessFlags := 2, code := none }
def k1c1 : Code := { maxStack := 2, maxLocals := 2, code := method_2_code, exceptionTable := #[], attributes := #[] }
def k1m1 : Method := { name := "taken", desc := "(II)Z", sig := { parameters := [.int, .int], returnType := some .boolean }, accessFlags := 10, code := some k1c1 }
def k1c2 : Code := { maxStack := 4, maxLocals := 4, code := method_3_code, exceptionTable := #[], attributes := #[] }
def k1m2 : Method := { name := "put", desc := "([IIII)V", sig := { parameters := [(.array .int), .int, .int, .int], returnType := none }, accessFlags := 10, code := some k1c2 }
def k1c3 : Code := { maxStack := 2, maxLocals := 5, code := method_4_code, exceptionTable := #[], attributes := #[] }
def k1m3 : Method := { name := "step", desc := "(IIIII)I", sig := { parameters := [.int, .int, .int, .int, .int], returnType := some .int }, accessFlags := 10, code := some k1c3 }
def k1c4 : Code := { maxStack := 5, maxLocals := 10, code := code, exceptionTable := #[], attributes := #[] }
def k1m4 : Method := { name := "law", desc := "(IIII)Z", sig := { parameters := [.int, .int, .int, .int], returnType := some .boolean }, accessFlags := 9, code := some k1c4 }
/-- com/example/referent/referent/solver/IntTablesNextTakenPinLaw -/
def k1 : Class := { plain "com/example/referent/referent/solver/IntTablesNextTakenPinLaw" (some 0) with
  accessFlags := 49
  interfaces := #[]
  cf := some (fileOf pool1 8 #[] #[{ accessFlags := 2, nameIndex := 5, descriptorIndex := 6, attributes := #[] }, { accessFlags := 10, nameIndex := 11, descriptorIndex := 12, attributes := #[] }, { accessFlags := 10, nameIndex := 18, descriptorIndex := 19, attributes := #[] }, { accessFlags := 10, nameIndex := 22, descriptorIndex := 23, attributes := #[] }, { accessFlags := 9, nameIndex := 33, descriptorIndex := 34, attributes := #[] }] 49 2 #[] #[])
  fields := #[]
  methods := #[k1m0, k1m1, k1m2, k1m3, k1m4]
  instanceTypes := #[]
  staticTypes := #[]
  resolved := Array.replicate 37 none
  statics := none }

def pool2 : Array CpInfo := pool [(2, .class_ 4), (1, u "java/lang/Object"), (0, u "<init>"), (0, u "()V"), (0, .class_ 8), (0, u "com/example/referent/referent/solver/IntTables"), (31, u "NONE"), (0, u "[I"), (0, u "FREE"), (0, u "I"), (2, u "FIRST_CAPACITY"), (1, u "SPREAD"), (9, u "nextTaken"), (0, u "([II)I")] 18

def k2m0 : Method := { name := "<init>", desc := "()V", sig := { parameters := [], returnType := none }, accessFlags := 2, code := none }
def k2c1 : Code := { maxStack := 2, maxLocals := 3, code := prog_75_method_6_code, exceptionTable := #[], attributes := #[] }
def k2m1 : Method := { name := "nextTaken", desc := "([II)I", sig := { parameters := [(.array .int), .int], returnType := some .int }, accessFlags := 8, code := some k2c1 }
/-- com/example/referent/referent/solver/IntTables -/
def k2 : Class := { plain "com/example/referent/referent/solver/IntTables" (some 0) with
  accessFlags := 48
  interfaces := #[]
  cf := some (fileOf pool2 7 #[] #[{ accessFlags := 2, nameIndex := 5, descriptorIndex := 6, attributes := #[] }, { accessFlags := 8, nameIndex := 58, descriptorIndex := 59, attributes := #[] }] 48 2 #[] #[{ accessFlags := 24, nameIndex := 42, descriptorIndex := 43, attributes := #[] }, { accessFlags := 24, nameIndex := 40, descriptorIndex := 41, attributes := #[] }, { accessFlags := 26, nameIndex := 46, descriptorIndex := 43, attributes := #[] }, { accessFlags := 26, nameIndex := 48, descriptorIndex := 43, attributes := #[] }])
  fields := #[{ name := "FREE", type := .int, accessFlags := 24, slot := 0, constantValue := 0 }, { name := "NONE", type := (.array .int), accessFlags := 24, slot := 1, constantValue := 0 }, { name := "FIRST_CAPACITY", type := .int, accessFlags := 26, slot := 2, constantValue := 0 }, { name := "SPREAD", type := .int, accessFlags := 26, slot := 3, constantValue := 0 }]
  methods := #[k2m0, k2m1]
  instanceTypes := #[]
  staticTypes := #[.int, (.array .int), .int, .int]
  resolved := Array.replicate 78 none
  statics := none }

def pool3 : Array CpInfo := pool [(1, u "java/lang/Cloneable"), (0, .class_ 1), (0, u "java/lang/Object"), (0, .class_ 3)] 3

/-- java/lang/Cloneable -/
def k3 : Class := { plain "java/lang/Cloneable" (some 0) with
  accessFlags := 1537
  interfaces := #[]
  cf := some (fileOf pool3 2 #[] #[] 1537 4 #[] #[])
  fields := #[]
  methods := #[]
  instanceTypes := #[]
  staticTypes := #[]
  resolved := Array.replicate 8 none
  statics := none }

def pool4 : Array CpInfo := pool [(1, u "java/io/Serializable"), (0, .class_ 1), (0, u "java/lang/Object"), (0, .class_ 3)] 3

/-- java/io/Serializable -/
def k4 : Class := { plain "java/io/Serializable" (some 0) with
  accessFlags := 1537
  interfaces := #[]
  cf := some (fileOf pool4 2 #[] #[] 1537 4 #[] #[])
  fields := #[]
  methods := #[]
  instanceTypes := #[]
  staticTypes := #[]
  resolved := Array.replicate 8 none
  statics := none }

/-- the primitive byte -/
def k5 : Class := { plain "byte" none with kind := .primitive 'B', accessFlags := 0x411 }
/-- [B -/
def k6 : Class := { plain "[B" (some 0) with kind := .array 5 .byte, interfaces := #[3, 4], accessFlags := 1041 }

/-- the primitive int -/
def k7 : Class := { plain "int" none with kind := .primitive 'I', accessFlags := 0x411 }
/-- [I -/
def k8 : Class := { plain "[I" (some 0) with kind := .array 7 .int, interfaces := #[3, 4], accessFlags := 1041 }

def heap : Heap := #[]
def classes : Array Class := #[k0, k1, k2, k3, k4, k5, k6, k7, k8]
def interned : List (Array UInt16 × Addr) := []
def slotsUsed : Nat := 0
def theMethod : MethodId := ⟨1, 4⟩
def args0 : Array Value := #[.int 3, .int 5, .int 3, .int 2]
def aboutOver (below : List Frame) : State where
  vm := { classes := classes, interned := interned.toArray }
  heap := heap
  slotsUsed := slotsUsed
  threads := #[{ frames := .invoking theMethod args0 :: below }]
def below0 : List Frame := [.native { method := ⟨0, 0⟩, args := #[] }]
def about1 : State := aboutOver below0
def p0 : Program := .bare "" "" ""
def e0 : Env := launch0.env 0 0 0
theorem w_frames : about1.frames = Frame.invoking theMethod args0 :: below0 := rfl
set_option maxRecDepth 65536 in
theorem w_args : argsFit about1.vm theMethod args0 = true := by decide +kernel
set_option maxRecDepth 65536 in
theorem w_heap : heapFits about1 = true := by decide +kernel
set_option maxRecDepth 65536 in
theorem w_runnable : about1.curStatus? = some .runnable := by decide +kernel
set_option maxRecDepth 65536 in
theorem w_alone : about1.alone = true := by decide +kernel
set_option maxRecDepth 65536 in
theorem w_named : about1.methodNamed? x = some theMethod := by decide +kernel
set_option maxRecDepth 65536 in
theorem w_hears : about1.hears theMethod below0 = true := by decide +kernel
set_option maxRecDepth 65536 in
theorem w_ripe : about1.ripe theMethod args0 below0 = true := by decide +kernel
theorem w_running : about1.status = .running := rfl
set_option maxRecDepth 65536 in
theorem w_room : about1.hasRoom e0.platform room_1 = true :=
  launch0.hasRoom_least _ room_1 (by decide +kernel) (by decide +kernel) (by decide +kernel) (by decide +kernel) (by decide +kernel) (by decide +kernel)
theorem allAtoms_all (ts : List Jvm.Cond) (a : Array Jvm.Value) (st : Jvm.State) : (allAtoms ts).before a st = ts.all (fun c => c.before a st) := by
  induction ts with
  | nil => rfl
  | cons c t ih =>
    show (Jvm.Cond.and c (allAtoms t)).before a st = _
    rw [Jvm.Cond.before_and, ih, List.all_cons]
def words1 : List Jvm.Cond := Jvm.Cond.code x code maxLocals ret :: tables_1
/-- a 'code' word, met by the world's own term for the bytes: nothing is compared byte by byte -/
theorem code_word {y : MethodName} {bytes : ByteArray} {mx : Nat} {rt : Option FieldType} {a : Array Value} {s : State} {m : MethodId} {meth : Method} {c : Code} (h1 : s.methodNamed? y = some m) (h2 : s.vm.method? m = some meth) (h3 : meth.code = some c) (h4 : c.code = bytes)
    (h5 : (c.maxLocals == mx && c.exceptionTable.isEmpty && decide (c.maxStack ≤ mostOperands) && decide (meth.sig.returnType = rt) && !meth.locks && decide (parseMethodDescriptor y.desc = some meth.sig)) = true) : (Jvm.Cond.code y bytes mx rt).before a s = true := by
  simp only [Bool.and_eq_true, beq_iff_eq, Bool.not_eq_true', decide_eq_true_eq] at h5
  obtain ⟨⟨⟨⟨⟨g1, g2⟩, g3⟩, g4⟩, g5⟩, g6⟩ := h5
  simp [Cond.before, Cond.holds, Cond.value, h1, h2, h3, h4, g1, g2, g3, g4, g5, g6]
def isCode : Jvm.Cond → Bool
  | .code _ _ _ _ => true
  | _ => false
theorem all_split {L : List Jvm.Cond} {P : Jvm.Cond → Bool} (h1 : L.all (fun c => isCode c || P c) = true) (h2 : ∀ c ∈ L.filter isCode, P c = true) : L.all P = true := by
  refine List.all_eq_true.mpr fun c hc => ?_
  have h := List.all_eq_true.mp h1 c hc
  rcases Bool.eq_false_or_eq_true (isCode c) with hi | hi
  · exact h2 c (List.mem_filter.mpr ⟨hc, hi⟩)
  · simpa [hi] using h
set_option maxRecDepth 65536 in
theorem w_c0 : (Jvm.Cond.code x code maxLocals ret).before args0 about1 = true := code_word (m := ⟨1, 4⟩) (meth := k1m4) (c := k1c4) (by decide +kernel) rfl rfl rfl (by decide +kernel)
set_option maxRecDepth 65536 in
theorem w_c1 : (Jvm.Cond.code ({ cls := "com/example/referent/referent/solver/IntTablesNextTakenPinLaw", name := "put", desc := "([IIII)V" } : Jvm.MethodName) method_3_code (4 : Nat) (Option.none : Option Jvm.ClassFile.FieldType)).before args0 about1 = true := code_word (m := ⟨1, 2⟩) (meth := k1m2) (c := k1c2) (by decide +kernel) rfl rfl rfl (by decide +kernel)
set_option maxRecDepth 65536 in
theorem w_c2 : (Jvm.Cond.code ({ cls := "com/example/referent/referent/solver/IntTablesNextTakenPinLaw", name := "step", desc := "(IIIII)I" } : Jvm.MethodName) method_4_code (5 : Nat) (Option.some Jvm.ClassFile.FieldType.int)).before args0 about1 = true := code_word (m := ⟨1, 3⟩) (meth := k1m3) (c := k1c3) (by decide +kernel) rfl rfl rfl (by decide +kernel)
set_option maxRecDepth 65536 in
theorem w_c3 : (Jvm.Cond.code ({ cls := "com/example/referent/referent/solver/IntTables", name := "nextTaken", desc := "([II)I" } : Jvm.MethodName) prog_75_method_6_code (3 : Nat) (Option.some Jvm.ClassFile.FieldType.int)).before args0 about1 = true := code_word (m := ⟨2, 1⟩) (meth := k2m1) (c := k2c1) (by decide +kernel) rfl rfl rfl (by decide +kernel)
set_option maxRecDepth 65536 in
theorem w_c4 : (Jvm.Cond.code ({ cls := "com/example/referent/referent/solver/IntTablesNextTakenPinLaw", name := "taken", desc := "(II)Z" } : Jvm.MethodName) method_2_code (2 : Nat) (Option.some Jvm.ClassFile.FieldType.boolean)).before args0 about1 = true := code_word (m := ⟨1, 1⟩) (meth := k1m1) (c := k1c1) (by decide +kernel) rfl rfl rfl (by decide +kernel)
def codes1 : List Jvm.Cond := [Jvm.Cond.code x code maxLocals ret, Jvm.Cond.code ({ cls := "com/example/referent/referent/solver/IntTablesNextTakenPinLaw", name := "put", desc := "([IIII)V" } : Jvm.MethodName) method_3_code (4 : Nat) (Option.none : Option Jvm.ClassFile.FieldType), Jvm.Cond.code ({ cls := "com/example/referent/referent/solver/IntTablesNextTakenPinLaw", name := "step", desc := "(IIIII)I" } : Jvm.MethodName) method_4_code (5 : Nat) (Option.some Jvm.ClassFile.FieldType.int), Jvm.Cond.code ({ cls := "com/example/referent/referent/solver/IntTables", name := "nextTaken", desc := "([II)I" } : Jvm.MethodName) prog_75_method_6_code (3 : Nat) (Option.some Jvm.ClassFile.FieldType.int), Jvm.Cond.code ({ cls := "com/example/referent/referent/solver/IntTablesNextTakenPinLaw", name := "taken", desc := "(II)Z" } : Jvm.MethodName) method_2_code (2 : Nat) (Option.some Jvm.ClassFile.FieldType.boolean)]
set_option maxRecDepth 65536 in
theorem codes_eq : words1.filter isCode = codes1 := rfl
theorem w_codes : ∀ c ∈ words1.filter isCode, c.before args0 about1 = true := by
  rw [codes_eq]
  intro c hc
  simp only [codes1, List.mem_cons, List.not_mem_nil, or_false] at hc
  rcases hc with rfl | rfl | rfl | rfl | rfl
  · exact w_c0
  · exact w_c1
  · exact w_c2
  · exact w_c3
  · exact w_c4
set_option maxRecDepth 65536 in
theorem w_t1 : words1.all (fun c => isCode c || c.before args0 about1) = true := by decide +kernel
theorem w_tables : (allAtoms (Jvm.Cond.code x code maxLocals ret :: tables_1)).before args0 about1 = true := by
  rw [allAtoms_all]
  show words1.all (fun c => c.before args0 about1) = true
  refine all_split ?_ w_codes
  rw [w_t1]
set_option maxRecDepth 65536 in
theorem w_case : (Jvm.Cond.and given_1 narrow_1).before args0 about1 = true := by decide +kernel
theorem w_applies : (headSpec (Jvm.Cond.code x code maxLocals ret :: tables_1) room_1).applies x e0.platform about1 = true :=
  (Spec.applies_iff w_frames).mpr ⟨w_running, w_runnable, w_alone, w_named, w_hears, w_ripe, w_room, w_tables⟩
theorem atStart : AtStart classFile x code maxLocals ret World_1 tables_1 room_1 Calls_1 rest_1 Pre_1 launch0 p0 e0 about1 theMethod args0 below0 :=
  ⟨lists_1, trivial, launch0.admits_env _ _ _, launch0.least_env, fairChoices_fair.cas, fairChoices_fair.clock, w_frames, w_args, w_heap, w_applies, trivial, trivial, w_case⟩
end start1
theorem witness_1 : WitnessClaimed_1 := ⟨start1.p0, start1.e0, start1.about1, start1.theMethod, start1.args0, start1.below0, start1.atStart⟩
end Jvm.Pilot.@@N@@
