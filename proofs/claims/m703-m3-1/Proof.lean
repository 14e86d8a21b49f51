import JvmDerived
import JvmDerived.Pilot.@@N@@Statement
import JvmDerived.Pilot.@@N@@Code
set_option linter.unusedVariables false
set_option linter.unusedSimpArgs false
namespace Jvm.RoadKit
open Sem ClassFile Op Lib Jvm.Stand Jvm.Free Jvm.LawKit
section New
variable {p : Program} {l : Launch} {e : Env} {R : Room} {s : State} {m : MethodId} {args : Array Value} {below : List Frame} {meth : Method} {c : Code} {T : State} {locs : List Loc} {cells slots : Nat}
theorem retI (X : Stand p l e R s m args below meth c T locs cells slots) (hx : p.tables.exec = Jvm.exec) {pc : Nat} {Ls : Array Slot} {z : Int32} {rest : List Value} (hret : meth.sig.returnType = some .int) (hd : decode c.code pc = .ok (.ireturn, 1)) {fs : List Frame}
    (hl : ∀ (f : JFrame) (acts : List Action), f.method = m → f.locked = none → f.entered = [] → (doReturn e (T.setTop f) acts (some (.int z))).1 = T.setFrames fs) : Steps p.tables e below (T.setTop (mkF m pc Ls (.int z :: rest))) (T.setFrames fs) := by
  have hm' : T.vm.method? m = some meth := X.method'
  have hn : narrow .int (.int z) = .int z := rfl
  show Steps p.tables e below (T.setTop { method := m, pc := pc, locals := Ls, stack := _ :: rest, locked := none }) _
  jvm_step X.here [X.here.top, hx, hd, hm', hret, hn]
  first | (intro acts; rw [hl _ acts rfl rfl rfl]) | rw [hl _ _ rfl rfl rfl]
  exact Steps.refl _
end New
end Jvm.RoadKit
namespace Jvm.Pilot.@@N@@
open Jvm Jvm.ClassFile Sem Op Lib Jvm.Free Jvm.Stand Jvm.LawKit Jvm.RoadKit Bundle Jvm.Pilot.@@N@@.Jvm.D
/-! 1. own frame of the walks: a goal 'G T f' says: from the state T with the top frame f the body comes to its end as its contract says. G is kept opaque in a walk: own_Pre steps it back, own_Ret ends it. -/
abbrev own_Pre (p : Program) (e : Env) (below : List Frame) (G : State → JFrame → Prop) : Prop :=
  ∀ {T T2 : State} {f f2 : JFrame}, (∀ t, Steps p.tables e below (T2.setTop f2) t → Steps p.tables e below (T.setTop f) t) → G T2 f2 → G T f
abbrev own_Lv (p : Program) (e : Env) (below : List Frame) (m : MethodId) (T : State) (f : JFrame) (v : Option Value) : Prop :=
  ∀ fs, (∀ (f : JFrame) (acts : List Action), f.method = m → f.locked = none → f.entered = [] → (doReturn e (T.setTop f) acts v).1 = T.setFrames fs) → Steps p.tables e below (T.setTop f) (T.setFrames fs)
abbrev own_Ret (p : Program) (l : Launch) (e : Env) (R : Room) (s : State) (m : MethodId) (as' : Array Value) (below : List Frame) (meth : Method) (c : Code) (Q : Option Value → Heap → List Loc → Prop) (C S : Nat) (G : State → JFrame → Prop) : Prop :=
  ∀ {T : State} {locs : List Loc} {cells slots : Nat} {f : JFrame} {v : Option Value}, Stand p l e R s m as' below meth c T locs cells slots → own_Lv p e below m T f v → (meth.sig.returnType = none → v = none) → Q v T.heap locs → cells ≤ C → slots ≤ S → G T f
theorem own_contract {l : Launch} {Z : State} {y : MethodName} {bytes : ByteArray} {maxL : Nat} {ret : Option FieldType} {ws : List Jvm.Cond} {rm : Room} {as' : Array Value} {h0 : Heap} {Q : Option Value → Heap → List Loc → Prop} {Ls : Array Slot}
    (hpl : plainFor y = true) (hef : ∀ m, entryFrame m as' maxL = mkF m 0 Ls [])
    (H : ∀ (p : Program) (e : Env) (s : State) (m : MethodId) (below : List Frame) (meth : Method) (c : Code) (s₁ : State) (G : State → JFrame → Prop),
      p.tables.exec = Jvm.exec → c.code = bytes → c.maxLocals = maxL → s.vm.findClass y.cls = some m.cls → meth.name = y.name → meth.sig.returnType = ret → Z.Warmed39 s.vm →
      Stand p l e rm s m as' below meth c s₁ [] 0 0 → s₁.heap = h0 → own_Pre p e below G → own_Ret p l e rm s m as' below meth c Q rm.cells rm.slots G → G s₁ (mkF m 0 Ls [])) :
    MetFree l y (head1 (Jvm.Cond.code y bytes maxL ret :: ws) rm) (fun a U => a = as' ∧ Z.Warmed39 U.vm ∧ U.heap = h0) (fun _ _ _ _ _ => True) (fun _ U o U' => ∃ v L, o = .returned v ∧ Q v U'.heap L ∧ FrameEnd U o U' L rm.cells rm.slots) := by
  refine MetFree.of_bodySF hpl hisR ?_
  intro p e s m args below meth c s₁ Bd hml0 hP hK
  obtain ⟨rfl, hZ, hh⟩ := hP
  have X0 : Stand p l e rm s m args below meth c s₁ [] 0 0 := Stand.of_body Bd
  have e0 : s₁.heap = h0 := by rw [← hh, Bd.state]; rfl
  obtain ⟨T', locs, cells, slots, v, X, hst, hv, hQ, hc, hs⟩ := H p e s m below meth c s₁
    (fun T f => ∃ (T' : State) (locs : List Loc) (cells slots : Nat) (v : Option Value), Stand p l e rm s m args below meth c T' locs cells slots ∧
      (∀ fs, (∀ (f : JFrame) (acts : List Action), f.method = m → f.locked = none → f.entered = [] → (doReturn e (T'.setTop f) acts v).1 = T'.setFrames fs) → Steps p.tables e below (T.setTop f) (T'.setFrames fs)) ∧
      (meth.sig.returnType = none → v = none) ∧ Q v T'.heap locs ∧ cells ≤ rm.cells ∧ slots ≤ rm.slots)
    Bd.exec Bd.bytes hml0 (findClass_of_methodNamed Bd.named) (name_of_methodNamed Bd.named Bd.method).1 Bd.returns hZ X0 e0
    (fun {T T2 f f2} hs hG => by
      obtain ⟨T', locs, cells, slots, v, X, hst, r⟩ := hG
      exact ⟨T', locs, cells, slots, v, X, fun fs hl => hs _ (hst fs hl), r⟩)
    (fun {T locs cells slots f v} X hl hv hQ hc hs => ⟨T, locs, cells, slots, v, X, hl, hv, hQ, hc, hs⟩)
  obtain ⟨fs, hr, hrun, hended, hW, hsame⟩ := X.leave hv Bd.notSynchronized
  exact ⟨_, _, castTop (hef m) (hst fs hr), hrun, hended, _, _, rfl, hQ, ⟨_, rfl⟩, hW, hsame.mono hc hs⟩
/-- what a body without a write says: its value, nothing old written, the heap as it was -/
abbrev own_Q (r : Option Value) (h0 : Heap) (n0 : Nat) (v : Option Value) (h : Heap) (L : List Loc) : Prop := v = r ∧ Fr n0 L ∧ h = h0
section Calls
variable {p : Program} {l : Launch} {e : Env} {R : Room} {s : State} {m : MethodId} {args : Array Value} {below : List Frame} {meth : Method} {c : Code} {T : State} {locs : List Loc} {cells slots : Nat} {Z : State} {a0 : Array Value} {h : Heap}
theorem own_callS (X : Stand p l e R s m args below meth c T locs cells slots) (hx : p.tables.exec = Jvm.exec) (hZ : Z.Warmed39 s.vm) {own : String} {index : Nat} {y : MethodName} {bytes : ByteArray} {maxL : Nat} {ret : Option FieldType} {rm : Room} {as' : Array Value} {Q : Option Value → Heap → List Loc → Prop}
    (W : Nat) (hown : s.vm.findClass own = some m.cls) (w1 : (Cond.methodLink own index y).before a0 Z = true) (w2 : (Cond.static y).before a0 Z = true) (w3 : (Cond.initialized y.cls).before a0 Z = true) (w4 : (Cond.code y bytes maxL ret).before a0 Z = true)
    (hy : y.cls ≠ "java/lang/invoke/MethodHandle" ∧ y.cls ≠ "java/lang/invoke/VarHandle")
    (hM : MetFree l y (head1 [Cond.code y bytes maxL ret] rm) (fun a U => a = as' ∧ Z.Warmed39 U.vm ∧ U.heap = h) (fun _ _ _ _ _ => True) (fun _ U o U' => ∃ v L, o = .returned v ∧ Q v U'.heap L ∧ FrameEnd U o U' L rm.cells rm.slots))
    (eT : T.heap = h) (hf : rm.frames + 1 ≤ R.frames) (hl : W + (maxL + 11) + rm.locals ≤ R.locals) {g : JFrame} (hg : g.method = m) (hsize : g.locals.size = c.maxLocals) (argsL rest : List Value) {ps : List FieldType} {r : Option FieldType}
    (hd : parseMethodDescriptor y.desc = some ⟨ps, r⟩) (hlen : argsL.length = ps.length) (hstack : g.stack = argsL.reverse ++ rest) (hW : 2 * g.monitorRoom + (rest.map fun v => v.category).sum ≤ W) (hdg : decode c.code g.pc = .ok (.invokestatic index, 3))
    (has : argsL.toArray = as') (hc : cells + rm.cells ≤ R.cells) (hs : slots + rm.slots ≤ R.slots) :
    ∃ (v : Option Value) (T' : State) (L : List Loc), Stand p l e R s m args below meth c T' (locs ++ L) (cells + rm.cells) (slots + rm.slots) ∧ Q v T'.heap L ∧
      ∀ t, Steps p.tables e below (T'.setTop { g with pc := g.pc + 3, stack := v.toList ++ rest }) t → Steps p.tables e below (T.setTop g) t := by
  obtain ⟨v, _, ⟨T', L', k', n'⟩, -, X', ⟨Lc, hQ, l', y', z'⟩, st⟩ := Jvm.LawKit.callS X hx (y := y) hown (mvT hZ w1) (mvT hZ w2) (mvT hZ w3) (mvT hZ w4) hy (backOf (W := W) hM hZ w4 w3 hf hl) hg hsize (argsL := argsL) (rest := rest) (lenOf hd hlen) hstack hW hdg (fun _ _ => ⟨has, eT, hc, hs⟩)
  dsimp only [Pt.U, Pt.locs, Pt.cells, Pt.slots] at X' l' y' z' st hQ
  subst l' y' z'
  exact ⟨v, T', Lc, X', hQ, st⟩
theorem own_callI (X : Stand p l e R s m args below meth c T locs cells slots) (hx : p.tables.exec = Jvm.exec) (hZ : Z.Warmed39 s.vm) {own : String} {index : Nat} {y : MethodName} {bytes : ByteArray} {maxL : Nat} {rm : Room} {as' : Array Value} {Q : Option Value → Heap → List Loc → Prop}
    (W : Nat) (hy1 : y.name = "<init>") (hown : s.vm.findClass own = some m.cls) (w1 : (Cond.methodLink own index y).before a0 Z = true) (w2 : (Cond.instanceMethod y).before a0 Z = true) (w3 : (Cond.initialized y.cls).before a0 Z = true) (w4 : (Cond.code y bytes maxL none).before a0 Z = true)
    (hy : y.cls ≠ "java/lang/invoke/MethodHandle" ∧ y.cls ≠ "java/lang/invoke/VarHandle")
    (hM : MetFree l y (head1 [Cond.code y bytes maxL none] rm) (fun a U => a = as' ∧ Z.Warmed39 U.vm ∧ U.heap = h) (fun _ _ _ _ _ => True) (fun _ U o U' => ∃ v L, o = .returned v ∧ Q v U'.heap L ∧ FrameEnd U o U' L rm.cells rm.slots))
    (eT : T.heap = h) (hf : rm.frames + 1 ≤ R.frames) (hl : W + (maxL + 11) + rm.locals ≤ R.locals) {g : JFrame} (hg : g.method = m) (hsize : g.locals.size = c.maxLocals) (a : Addr) (argsL rest : List Value) {ps : List FieldType} {r : Option FieldType}
    (hd : parseMethodDescriptor y.desc = some ⟨ps, r⟩) (hlen : argsL.length = ps.length) (hstack : g.stack = argsL.reverse ++ .ref a :: rest) (hW : 2 * g.monitorRoom + (rest.map fun v => v.category).sum ≤ W) (hdg : decode c.code g.pc = .ok (.invokespecial index, 3))
    (has : (.ref a :: argsL).toArray = as') (hc : cells + rm.cells ≤ R.cells) (hs : slots + rm.slots ≤ R.slots) :
    ∃ (v : Option Value) (T' : State) (L : List Loc), Stand p l e R s m args below meth c T' (locs ++ L) (cells + rm.cells) (slots + rm.slots) ∧ Q v T'.heap L ∧
      ∀ t, Steps p.tables e below (T'.setTop { g with pc := g.pc + 3, stack := v.toList ++ rest }) t → Steps p.tables e below (T.setTop g) t := by
  obtain ⟨v, _, ⟨T', L', k', n'⟩, -, X', ⟨Lc, hQ, l', y', z'⟩, st⟩ := X.specialBack hx (y := y) hy1 hown (mvT hZ w1) (mvT hZ w2) (mvT hZ w4) hy (backOf (W := W) hM hZ w4 w3 hf hl) hg hsize (Steps.refl _) (a := a) (argsL := argsL) (rest := rest) (lenOf hd hlen) hstack hW hdg (fun _ _ => ⟨has, eT, hc, hs⟩)
  dsimp only [Pt.U, Pt.locs, Pt.cells, Pt.slots] at X' l' y' z' st hQ
  subst l' y' z'
  exact ⟨v, T', Lc, X', hQ, fun t k => st.trans k⟩
theorem own_callV (X : Stand p l e R s m args below meth c T locs cells slots) (hx : p.tables.exec = Jvm.exec) (hZ : Z.Warmed39 s.vm) {own C : String} {index : Nat} {y : MethodName} {bytes : ByteArray} {maxL : Nat} {ret : Option FieldType} {rm : Room} {as' : Array Value} {Q : Option Value → Heap → List Loc → Prop}
    (W : Nat) (hown : s.vm.findClass own = some m.cls) (w1 : (Cond.methodLink own index y).before a0 Z = true) (w2 : (Cond.declares y).before a0 Z = true) (w3 : (Cond.selects C y y).before a0 Z = true) (w4 : (Cond.instanceMethod y).before a0 Z = true) (w5 : (Cond.initialized y.cls).before a0 Z = true) (w6 : (Cond.code y bytes maxL ret).before a0 Z = true)
    (hy : y.cls ≠ "java/lang/invoke/MethodHandle" ∧ y.cls ≠ "java/lang/invoke/VarHandle")
    (hM : MetFree l y (head1 [Cond.code y bytes maxL ret] rm) (fun a U => a = as' ∧ Z.Warmed39 U.vm ∧ U.heap = h) (fun _ _ _ _ _ => True) (fun _ U o U' => ∃ v L, o = .returned v ∧ Q v U'.heap L ∧ FrameEnd U o U' L rm.cells rm.slots))
    (eT : T.heap = h) {b : Addr} (E : Exa Z h b C) (hf : rm.frames + 1 ≤ R.frames) (hl : W + (maxL + 11) + rm.locals ≤ R.locals) {g : JFrame} (hg : g.method = m) (hsize : g.locals.size = c.maxLocals) (argsL rest : List Value) {ps : List FieldType} {r : Option FieldType}
    (hd : parseMethodDescriptor y.desc = some ⟨ps, r⟩) (hlen : argsL.length = ps.length) (hstack : g.stack = argsL.reverse ++ .ref b :: rest) (hW : 2 * g.monitorRoom + (rest.map fun v => v.category).sum ≤ W) (hdg : decode c.code g.pc = .ok (.invokevirtual index, 3))
    (has : (.ref b :: argsL).toArray = as') (hc : cells + rm.cells ≤ R.cells) (hs : slots + rm.slots ≤ R.slots) :
    ∃ (v : Option Value) (T' : State) (L : List Loc), Stand p l e R s m args below meth c T' (locs ++ L) (cells + rm.cells) (slots + rm.slots) ∧ Q v T'.heap L ∧
      ∀ t, Steps p.tables e below (T'.setTop { g with pc := g.pc + 3, stack := v.toList ++ rest }) t → Steps p.tables e below (T.setTop g) t := by
  obtain ⟨cq, kq, qa, qb, qc⟩ := isOf hZ eT E
  obtain ⟨v, _, ⟨T', L', k', n'⟩, -, X', ⟨Lc, hQ, l', y', z'⟩, st⟩ := X.virtualBack hx (y := y) (z := y) hown (mvT hZ w1) (mvT hZ w2) (notFace_of_selects (args := #[]) (mvT hZ w3)) (mvT hZ w3) (mvT hZ w4) hy (backOf (W := W) hM hZ w6 w5 hf hl) qa qc hg hsize (Steps.refl _) (argsL := argsL) (rest := rest) (lenOf hd hlen) hstack hW hdg (fun _ _ => ⟨has, eT, hc, hs⟩)
  dsimp only [Pt.U, Pt.locs, Pt.cells, Pt.slots] at X' l' y' z' st hQ
  subst l' y' z'
  exact ⟨v, T', Lc, X', hQ, fun t k => st.trans k⟩
end Calls
theorem own_lrem {tb : Tables} [Ours tb] {e : Env} {below : List Frame} {T target : State} {m : MethodId} {c : Code} {g : JFrame} (h : At T m c below) (hx : tb.exec = Jvm.exec) (hg : g.method = m) {x y : Int64} {rest : List Value} (hd : decode c.code g.pc = .ok (.lrem, 1)) (hs : g.stack = .long y :: .long x :: rest) (hy : y ≠ 0)
    (hr : Steps tb e below (T.setTop { g with pc := g.pc + 1, stack := .long (x % y) :: rest }) target) : Steps tb e below (T.setTop g) target := XS.lrem h hx hg hd hs hy (by rw [lrem_mod]; exact hr)
/-! 2. own facts of arrays: n places, place i holds f i -/
def own_up {α : Type} (f : Nat → α) (j : Nat) (v : α) : Nat → α := fun i => if i = j then v else f i
theorem own_up_at {α : Type} (f : Nat → α) (j : Nat) (v : α) (i : Nat) : own_up f j v i = if i = j then v else f i := rfl
def own_AI (Z : State) (h : Heap) (a : Addr) (ty : FieldType) (n : Nat) (f : Nat → Int32) : Prop :=
  ∃ c : Cell, Arr Z h a c ty ∧ c.slots.size = n ∧ n < 2147483648 ∧ ∀ i, i < n → c.slots[i]? = some (.int (f i))
def own_AJ (Z : State) (h : Heap) (a : Addr) (n : Nat) (f : Nat → Int64) : Prop :=
  ∃ c : Cell, Arr Z h a c .long ∧ c.slots.size = n ∧ n < 2147483648 ∧ ∀ i, i < n → c.slots[i]? = some (.long (f i))
section Arrays
variable {Z : State} {h h' : Heap} {a b : Addr} {ty : FieldType} {n : Nat} {f g : Nat → Int32} {fj gj : Nat → Int64}
theorem own_AI.lt (V : own_AI Z h a ty n f) : a < h.size := by obtain ⟨c, A, -⟩ := V; exact A.lt
theorem own_AI.ext (V : own_AI Z h a ty n f) (E : Ext h h') : own_AI Z h' a ty n f := by obtain ⟨c, A, r⟩ := V; exact ⟨c, A.ext E, r⟩
theorem own_AI.other {sl : Nat} {v : Value} (V : own_AI Z h b ty n f) (W : Wr h h' a sl v) (q : b ≠ a) : own_AI Z h' b ty n f := by obtain ⟨c, A, r⟩ := V; exact ⟨c, A.other W q, r⟩
theorem own_AI.keep {ws : List Addr} (V : own_AI Z h a ty n f) (K : Keep h h' ws) (q : a ∉ ws) : own_AI Z h' a ty n f := by obtain ⟨c, A, r⟩ := V; exact ⟨c, ⟨K.2.1 a c A.1 q, A.2⟩, r⟩
theorem own_AI.cong (V : own_AI Z h a ty n f) (q : ∀ i, i < n → f i = g i) : own_AI Z h a ty n g := by obtain ⟨c, A, S, B, H⟩ := V; exact ⟨c, A, S, B, fun i hi => by rw [← q i hi]; exact H i hi⟩
theorem own_AI.new {k : ClassId} {z : Int32} (A : Arr Z h a (newA k ty z) ty) (q : ¬ z < 0) (d : defaultValue ty = .int 0) (n : Nat) (hn : z.toNatClampNeg = n) : own_AI Z h a ty n (fun _ => 0) := by
  subst hn
  exact ⟨_, A, sz_new _ _ _, (back32 q).2, fun i hi => by simp [newA, hi, d]⟩
theorem own_slot (c : Cell) (i k : Nat) (v : Value) (hk : k < c.slots.size) : (c.setSlot i v).slots[k]? = if k = i then some v else c.slots[k]? := by
  by_cases q : k = i
  · subst q; simp [Cell.setSlot, hk]
  · simp [Cell.setSlot, q, Array.getElem?_setIfInBounds, Ne.symm q]
theorem own_AI.set {x : Int32} {i : Nat} (V : own_AI Z h a ty n f) (W : Wr h h' a i (.int x)) : own_AI Z h' a ty n (own_up f i x) := by
  obtain ⟨c, A, S, B, H⟩ := V
  refine ⟨_, A.same W, (sz_set _ _ _).trans S, B, fun k hk => ?_⟩
  rw [own_slot c i k _ (by omega), own_up_at]
  by_cases q : k = i
  · rw [if_pos q, if_pos q]
  · rw [if_neg q, if_neg q]; exact H k hk
theorem own_AI.at (V : own_AI Z h a ty n f) {j : Int32} (i : Nat) (hi : j.toNatClampNeg = i) (h0 : ¬ j < 0) (hn : i < n) :
    ∃ c : Cell, Arr Z h a c ty ∧ ¬ (j < 0 ∨ c.slots.size ≤ j.toNatClampNeg) ∧ c.slots[j.toNatClampNeg]? = some (.int (f i)) := by
  obtain ⟨c, A, S, B, H⟩ := V
  subst hi
  exact ⟨c, A, fun q => q.elim h0 (fun q => by omega), H _ hn⟩
theorem own_AJ.lt (V : own_AJ Z h a n fj) : a < h.size := by obtain ⟨c, A, -⟩ := V; exact A.lt
theorem own_AJ.ext (V : own_AJ Z h a n fj) (E : Ext h h') : own_AJ Z h' a n fj := by obtain ⟨c, A, r⟩ := V; exact ⟨c, A.ext E, r⟩
theorem own_AJ.other {sl : Nat} {v : Value} (V : own_AJ Z h b n fj) (W : Wr h h' a sl v) (q : b ≠ a) : own_AJ Z h' b n fj := by obtain ⟨c, A, r⟩ := V; exact ⟨c, A.other W q, r⟩
theorem own_AJ.keep {ws : List Addr} (V : own_AJ Z h a n fj) (K : Keep h h' ws) (q : a ∉ ws) : own_AJ Z h' a n fj := by obtain ⟨c, A, r⟩ := V; exact ⟨c, ⟨K.2.1 a c A.1 q, A.2⟩, r⟩
theorem own_AJ.cong (V : own_AJ Z h a n fj) (q : ∀ i, i < n → fj i = gj i) : own_AJ Z h a n gj := by obtain ⟨c, A, S, B, H⟩ := V; exact ⟨c, A, S, B, fun i hi => by rw [← q i hi]; exact H i hi⟩
theorem own_AJ.new {k : ClassId} {z : Int32} (A : Arr Z h a (newA k .long z) .long) (q : ¬ z < 0) (n : Nat) (hn : z.toNatClampNeg = n) : own_AJ Z h a n (fun _ => 0) := by
  subst hn
  exact ⟨_, A, sz_new _ _ _, (back32 q).2, fun i hi => by simp [newA, hi]; rfl⟩
theorem own_AJ.set {x : Int64} {i : Nat} (V : own_AJ Z h a n fj) (W : Wr h h' a i (.long x)) : own_AJ Z h' a n (own_up fj i x) := by
  obtain ⟨c, A, S, B, H⟩ := V
  refine ⟨_, A.same W, (sz_set _ _ _).trans S, B, fun k hk => ?_⟩
  rw [own_slot c i k _ (by omega), own_up_at]
  by_cases q : k = i
  · rw [if_pos q, if_pos q]
  · rw [if_neg q, if_neg q]; exact H k hk
theorem own_AJ.at (V : own_AJ Z h a n fj) {j : Int32} (i : Nat) (hi : j.toNatClampNeg = i) (h0 : ¬ j < 0) (hn : i < n) :
    ∃ c : Cell, Arr Z h a c .long ∧ ¬ (j < 0 ∨ c.slots.size ≤ j.toNatClampNeg) ∧ c.slots[j.toNatClampNeg]? = some (.long (fj i)) := by
  obtain ⟨c, A, S, B, H⟩ := V
  subst hi
  exact ⟨c, A, fun q => q.elim h0 (fun q => by omega), H _ hn⟩
end Arrays
section ArraySteps
variable {p : Program} {l : Launch} {e : Env} {R : Room} {s : State} {m : MethodId} {args : Array Value} {below : List Frame} {meth : Method} {c : Code} {T : State} {locs : List Loc} {cells slots : Nat} {Z : State} {a0 : Array Value} {h : Heap} {a : Addr} {n : Nat} {f : Nat → Int32} {fj : Nat → Int64} {j x : Int32} {xj : Int64} {g : JFrame} {rest : List Value}
theorem own_stI (X : Stand p l e R s m args below meth c T locs cells slots) (hx : p.tables.exec = Jvm.exec) (hZ : Z.Warmed39 s.vm) (eT : T.heap = h) (V : own_AI Z h a .int n f) (i : Nat) (hi : j.toNatClampNeg = i) (h0 : ¬ j < 0) (hn : i < n) (hg : g.method = m) (hs : g.stack = .int x :: .int j :: .ref a :: rest) (hd : decode c.code g.pc = .ok (.iastore, 1)) :
    ∃ T' h', Stand p l e R s m args below meth c T' (locs ++ [⟨a, i⟩]) cells slots ∧ T'.heap = h' ∧ Wr h h' a i (.int x) ∧ own_AI Z h' a .int n (own_up f i x) ∧ ∀ t, Steps p.tables e below (T'.setTop { g with pc := g.pc + 1, stack := rest }) t → Steps p.tables e below (T.setTop g) t := by
  obtain ⟨cl, A, hj, -⟩ := V.at i hi h0 hn
  obtain ⟨T', h', X', e', W, st⟩ := stI X hx hZ eT A hj hg hs hd
  subst hi
  exact ⟨T', h', X', e', W, V.set W, st⟩
theorem own_stB (X : Stand p l e R s m args below meth c T locs cells slots) (hx : p.tables.exec = Jvm.exec) (hZ : Z.Warmed39 s.vm) (eT : T.heap = h) (V : own_AI Z h a .byte n f) (i : Nat) (hi : j.toNatClampNeg = i) (h0 : ¬ j < 0) (hn : i < n) (hg : g.method = m) (hs : g.stack = .int x :: .int j :: .ref a :: rest) (hd : decode c.code g.pc = .ok (.bastore, 1)) :
    ∃ T' h', Stand p l e R s m args below meth c T' (locs ++ [⟨a, i⟩]) cells slots ∧ T'.heap = h' ∧ Wr h h' a i (.int (nar .byte x)) ∧ own_AI Z h' a .byte n (own_up f i x.toInt8.toInt32) ∧ ∀ t, Steps p.tables e below (T'.setTop { g with pc := g.pc + 1, stack := rest }) t → Steps p.tables e below (T.setTop g) t := by
  obtain ⟨cl, A, hj, -⟩ := V.at i hi h0 hn
  obtain ⟨T', h', X', e', W, st⟩ := stB X hx hZ eT A hj hg hs hd
  subst hi
  exact ⟨T', h', X', e', W, V.set W, st⟩
theorem own_stC (X : Stand p l e R s m args below meth c T locs cells slots) (hx : p.tables.exec = Jvm.exec) (hZ : Z.Warmed39 s.vm) (eT : T.heap = h) (V : own_AI Z h a .char n f) (i : Nat) (hi : j.toNatClampNeg = i) (h0 : ¬ j < 0) (hn : i < n) (hg : g.method = m) (hs : g.stack = .int x :: .int j :: .ref a :: rest) (hd : decode c.code g.pc = .ok (.castore, 1)) :
    ∃ T' h', Stand p l e R s m args below meth c T' (locs ++ [⟨a, i⟩]) cells slots ∧ T'.heap = h' ∧ Wr h h' a i (.int (nar .char x)) ∧ own_AI Z h' a .char n (own_up f i x.toUInt32.toUInt16.toUInt32.toInt32) ∧ ∀ t, Steps p.tables e below (T'.setTop { g with pc := g.pc + 1, stack := rest }) t → Steps p.tables e below (T.setTop g) t := by
  obtain ⟨cl, A, hj, -⟩ := V.at i hi h0 hn
  obtain ⟨T', h', X', e', W, st⟩ := stC X hx hZ eT A hj hg hs hd
  subst hi
  exact ⟨T', h', X', e', W, V.set W, st⟩
theorem own_stJ (X : Stand p l e R s m args below meth c T locs cells slots) (hx : p.tables.exec = Jvm.exec) (hZ : Z.Warmed39 s.vm) (eT : T.heap = h) (V : own_AJ Z h a n fj) (i : Nat) (hi : j.toNatClampNeg = i) (h0 : ¬ j < 0) (hn : i < n) (hg : g.method = m) (hs : g.stack = .long xj :: .int j :: .ref a :: rest) (hd : decode c.code g.pc = .ok (.lastore, 1)) :
    ∃ T' h', Stand p l e R s m args below meth c T' (locs ++ [⟨a, i⟩]) cells slots ∧ T'.heap = h' ∧ Wr h h' a i (.long xj) ∧ own_AJ Z h' a n (own_up fj i xj) ∧ ∀ t, Steps p.tables e below (T'.setTop { g with pc := g.pc + 1, stack := rest }) t → Steps p.tables e below (T.setTop g) t := by
  obtain ⟨cl, A, hj, -⟩ := V.at i hi h0 hn
  obtain ⟨T', h', X', e', W, st⟩ := stJ X hx hZ eT A hj hg hs hd
  subst hi
  exact ⟨T', h', X', e', W, V.set W, st⟩
theorem own_ldI (X : Stand p l e R s m args below meth c T locs cells slots) (hx : p.tables.exec = Jvm.exec) (hZ : Z.Warmed39 s.vm) (eT : T.heap = h) (V : own_AI Z h a .int n f) (i : Nat) (hi : j.toNatClampNeg = i) (h0 : ¬ j < 0) (hn : i < n) (hg : g.method = m) (hs : g.stack = .int j :: .ref a :: rest) (hd : decode c.code g.pc = .ok (.iaload, 1)) :
    ∀ t, Steps p.tables e below (T.setTop { g with pc := g.pc + 1, stack := .int (f i) :: rest }) t → Steps p.tables e below (T.setTop g) t := by
  obtain ⟨cl, A, hj, hv⟩ := V.at i hi h0 hn
  exact fun t k => X.iaload hx (by rw [eT]; exact A.1) (State.isArrayOf_alike hZ.alike A.2.1) A.2.2 hj hv hg hs hd t k
theorem own_ldB (X : Stand p l e R s m args below meth c T locs cells slots) (hx : p.tables.exec = Jvm.exec) (hZ : Z.Warmed39 s.vm) (eT : T.heap = h) (V : own_AI Z h a .byte n f) (i : Nat) (hi : j.toNatClampNeg = i) (h0 : ¬ j < 0) (hn : i < n) (hg : g.method = m) (hs : g.stack = .int j :: .ref a :: rest) (hd : decode c.code g.pc = .ok (.baload, 1)) :
    ∀ t, Steps p.tables e below (T.setTop { g with pc := g.pc + 1, stack := .int (f i) :: rest }) t → Steps p.tables e below (T.setTop g) t := by
  obtain ⟨cl, A, hj, hv⟩ := V.at i hi h0 hn
  exact fun t k => X.baloadBytes hx (by rw [eT]; exact A.1) (State.isArrayOf_alike hZ.alike A.2.1) A.2.2 hj hv hg hs hd t k
theorem own_ldC (X : Stand p l e R s m args below meth c T locs cells slots) (hx : p.tables.exec = Jvm.exec) (hZ : Z.Warmed39 s.vm) (eT : T.heap = h) (V : own_AI Z h a .char n f) (i : Nat) (hi : j.toNatClampNeg = i) (h0 : ¬ j < 0) (hn : i < n) (hg : g.method = m) (hs : g.stack = .int j :: .ref a :: rest) (hd : decode c.code g.pc = .ok (.caload, 1)) :
    ∀ t, Steps p.tables e below (T.setTop { g with pc := g.pc + 1, stack := .int (f i) :: rest }) t → Steps p.tables e below (T.setTop g) t := by
  obtain ⟨cl, A, hj, hv⟩ := V.at i hi h0 hn
  exact fun t k => X.caload hx (by rw [eT]; exact A.1) (State.isArrayOf_alike hZ.alike A.2.1) A.2.2 hj hv hg hs hd t k
theorem own_ldJ (X : Stand p l e R s m args below meth c T locs cells slots) (hx : p.tables.exec = Jvm.exec) (hZ : Z.Warmed39 s.vm) (eT : T.heap = h) (V : own_AJ Z h a n fj) (i : Nat) (hi : j.toNatClampNeg = i) (h0 : ¬ j < 0) (hn : i < n) (hg : g.method = m) (hs : g.stack = .int j :: .ref a :: rest) (hd : decode c.code g.pc = .ok (.laload, 1)) :
    ∀ t, Steps p.tables e below (T.setTop { g with pc := g.pc + 1, stack := .long (fj i) :: rest }) t → Steps p.tables e below (T.setTop g) t := by
  obtain ⟨cl, A, hj, hv⟩ := V.at i hi h0 hn
  exact fun t k => X.laload hx (by rw [eT]; exact A.1) (State.isArrayOf_alike hZ.alike A.2.1) A.2.2 hj hv hg hs hd t k
theorem own_lenI {ty : FieldType} (X : Stand p l e R s m args below meth c T locs cells slots) (hx : p.tables.exec = Jvm.exec) (hZ : Z.Warmed39 s.vm) (eT : T.heap = h) (V : own_AI Z h a ty n f) (N : Int32) (hN : n.toInt32 = N) (hg : g.method = m) (hs : g.stack = .ref a :: rest) (hd : decode c.code g.pc = .ok (.arraylength, 1)) :
    ∀ t, Steps p.tables e below (T.setTop { g with pc := g.pc + 1, stack := .int N :: rest }) t → Steps p.tables e below (T.setTop g) t := by
  obtain ⟨cl, A, S, -⟩ := V
  subst hN S
  exact fun t k => X.arraylength hx (by rw [eT]; exact A.1) (State.isArrayOf_alike hZ.alike A.2.1) hg hs hd t k
theorem own_lenJ (X : Stand p l e R s m args below meth c T locs cells slots) (hx : p.tables.exec = Jvm.exec) (hZ : Z.Warmed39 s.vm) (eT : T.heap = h) (V : own_AJ Z h a n fj) (N : Int32) (hN : n.toInt32 = N) (hg : g.method = m) (hs : g.stack = .ref a :: rest) (hd : decode c.code g.pc = .ok (.arraylength, 1)) :
    ∀ t, Steps p.tables e below (T.setTop { g with pc := g.pc + 1, stack := .int N :: rest }) t → Steps p.tables e below (T.setTop g) t := by
  obtain ⟨cl, A, S, -⟩ := V
  subst hN S
  exact fun t k => X.arraylength hx (by rw [eT]; exact A.1) (State.isArrayOf_alike hZ.alike A.2.1) hg hs hd t k
/-- areturn -/
theorem own_retA (X : Stand p l e R s m args below meth c T locs cells slots) (hx : p.tables.exec = Jvm.exec) {pc : Nat} {Ls : Array Slot} {t : FieldType} (hret : meth.sig.returnType = some t) (ht : t.isReference = true) (hd : decode c.code pc = .ok (.areturn, 1)) {fs : List Frame}
    (hl : ∀ (f : JFrame) (acts : List Action), f.method = m → f.locked = none → f.entered = [] → (doReturn e (T.setTop f) acts (some (.ref a))).1 = T.setFrames fs) : Steps p.tables e below (T.setTop (mkF m pc Ls (.ref a :: rest))) (T.setFrames fs) :=
  retOut X hx hret (by cases t <;> first | rfl | (cases ht; done)) (Or.inr (Or.inr (Or.inr (Or.inr ⟨rfl, ht, rfl⟩)))) hd hl
end ArraySteps
section Private
variable {p : Program} {l : Launch} {e : Env} {R : Room} {s : State} {m : MethodId} {args : Array Value} {below : List Frame} {meth : Method} {c : Code} {T : State} {locs : List Loc} {cells slots : Nat} {Z : State} {a0 : Array Value} {h : Heap}
/-- invokevirtual of a private method: that it selects itself is derived; w0: a 'selects' word of the same class says that it is no interface -/
theorem own_callP (X : Stand p l e R s m args below meth c T locs cells slots) (hx : p.tables.exec = Jvm.exec) (hZ : Z.Warmed39 s.vm) {own C : String} {index : Nat} {y z : MethodName} {bytes : ByteArray} {maxL : Nat} {ret : Option FieldType} {rm : Room} {as' : Array Value} {Q : Option Value → Heap → List Loc → Prop}
    (W : Nat) (hown : s.vm.findClass own = some m.cls) (w0 : (Cond.selects C z z).before a0 Z = true) (hz : z.cls = y.cls) (w1 : (Cond.methodLink own index y).before a0 Z = true) (w2 : (Cond.instanceMethod y).before a0 Z = true) (w3 : (Cond.privateMethod y).before a0 Z = true) (w5 : (Cond.initialized y.cls).before a0 Z = true) (w6 : (Cond.code y bytes maxL ret).before a0 Z = true)
    (hy : y.cls ≠ "java/lang/invoke/MethodHandle" ∧ y.cls ≠ "java/lang/invoke/VarHandle")
    (hM : MetFree l y (head1 [Cond.code y bytes maxL ret] rm) (fun a U => a = as' ∧ Z.Warmed39 U.vm ∧ U.heap = h) (fun _ _ _ _ _ => True) (fun _ U o U' => ∃ v L, o = .returned v ∧ Q v U'.heap L ∧ FrameEnd U o U' L rm.cells rm.slots))
    (eT : T.heap = h) {b : Addr} {C' : String} (E : Exa Z h b C') (hf : rm.frames + 1 ≤ R.frames) (hl : W + (maxL + 11) + rm.locals ≤ R.locals) {g : JFrame} (hg : g.method = m) (hsize : g.locals.size = c.maxLocals) (argsL rest : List Value) {ps : List FieldType} {r : Option FieldType}
    (hd : parseMethodDescriptor y.desc = some ⟨ps, r⟩) (hlen : argsL.length = ps.length) (hstack : g.stack = argsL.reverse ++ .ref b :: rest) (hW : 2 * g.monitorRoom + (rest.map fun v => v.category).sum ≤ W) (hdg : decode c.code g.pc = .ok (.invokevirtual index, 3))
    (has : (.ref b :: argsL).toArray = as') (hc : cells + rm.cells ≤ R.cells) (hs : slots + rm.slots ≤ R.slots) :
    ∃ (v : Option Value) (T' : State) (L : List Loc), Stand p l e R s m args below meth c T' (locs ++ L) (cells + rm.cells) (slots + rm.slots) ∧ Q v T'.heap L ∧
      ∀ t, Steps p.tables e below (T'.setTop { g with pc := g.pc + 3, stack := v.toList ++ rest }) t → Steps p.tables e below (T.setTop g) t := by
  have hs0 : (Cond.selects C z z).before args s = true := mvT hZ w0
  obtain ⟨c2, r2, m2, q1, q2, q3, q4, kP, hkP, hkPi⟩ := Cond.selects_spec hs0
  have hpr : s.PrivateAt y := Cond.privateMethod_at (mvP hZ w3 (args := #[]))
  have hin : (Cond.instanceMethod y).before args s = true := mvT hZ w2
  have hfc : s.vm.findClass y.cls = some m2.cls := by rw [← hz]; exact findClass_of_methodNamed q3
  have hsel : (Cond.selects y.cls y y).before args s = true := selects_self_of_private hfc hkP hkPi hpr hin hy
  obtain ⟨cq, qc, qc'⟩ := E.cell
  obtain ⟨v, _, ⟨T', L', k', n'⟩, -, X', ⟨Lc, hQ, l', y', z'⟩, st⟩ := X.privateBack hx (y := y) hown (mvT hZ w1) hin hsel hpr (mvT hZ w6) hy (backOf (W := W) hM hZ w6 w5 hf hl) hg hsize (Steps.refl _) (a := b) (by rw [eT]; exact qc) qc' (argsL := argsL) (rest := rest) (lenOf hd hlen) hstack hW hdg (fun _ _ => ⟨has, eT, hc, hs⟩)
  dsimp only [Pt.U, Pt.locs, Pt.cells, Pt.slots] at X' l' y' z' st hQ
  subst l' y' z'
  exact ⟨v, T', Lc, X', hQ, fun t k => st.trans k⟩
end Private
theorem own_pd0 : parseMethodDescriptor "([JJ)V" = some ⟨[(.array .long), .long], none⟩ := by decide +kernel
theorem own_pd1 : parseMethodDescriptor "(JI)I" = some ⟨[.long, .int], some .int⟩ := by decide +kernel
theorem own_pd2 : parseMethodDescriptor "(II)J" = some ⟨[.int, .int], some .long⟩ := by decide +kernel
theorem own_pd3 : parseMethodDescriptor "(II)I" = some ⟨[.int, .int], some .int⟩ := by decide +kernel
theorem own_pd4 : parseMethodDescriptor "(I)V" = some ⟨[.int], none⟩ := by decide +kernel
theorem own_pd5 : parseMethodDescriptor "(JI)Z" = some ⟨[.long, .int], some .boolean⟩ := by decide +kernel
theorem own_pd6 : parseMethodDescriptor "()V" = some ⟨[], none⟩ := by decide +kernel
theorem own_pd7 : parseMethodDescriptor "(III)V" = some ⟨[.int, .int, .int], none⟩ := by decide +kernel
theorem own_pd8 : parseMethodDescriptor "()I" = some ⟨[], some .int⟩ := by decide +kernel
theorem own_pd9 : parseMethodDescriptor "(I)Z" = some ⟨[.int], some .boolean⟩ := by decide +kernel
theorem own_pd10 : parseMethodDescriptor "(I)I" = some ⟨[.int], some .int⟩ := by decide +kernel
theorem d7_0 : decode prog_74_method_12_code 0 = .ok (.iload_n 0, 1) := by decide +kernel
theorem d7_1 : decode prog_74_method_12_code 1 = .ok (.i2l, 1) := by decide +kernel
theorem d7_2 : decode prog_74_method_12_code 2 = .ok (.bipush 32, 2) := by decide +kernel
theorem d7_4 : decode prog_74_method_12_code 4 = .ok (.lshl, 1) := by decide +kernel
theorem d7_5 : decode prog_74_method_12_code 5 = .ok (.iload_n 1, 1) := by decide +kernel
theorem d7_6 : decode prog_74_method_12_code 6 = .ok (.i2l, 1) := by decide +kernel
theorem d7_7 : decode prog_74_method_12_code 7 = .ok (.lor, 1) := by decide +kernel
theorem d7_8 : decode prog_74_method_12_code 8 = .ok (.lreturn, 1) := by decide +kernel
theorem own_ef7 (m : MethodId) (p0 : Int32) (p1 : Int32) : entryFrame m #[(.int p0), (.int p1)] 2 = mkF m 0 #[.val (.int p0), .val (.int p1)] [] := by first | (simp [entryFrame, mkF, argsToLocals, Value.category]; done) | rfl
def own_key (p0 : Int32) (p1 : Int32) : Int64 := ((p0.toInt64 <<< ((32 : Int32) &&& 0x3f).toInt64) ||| p1.toInt64)
theorem own_pn7 : plainName "com/example/referent/referent/solver/IntPairMap" = true := by first | (simp [plainName, overriddenIn]; done) | decide +kernel
set_option maxRecDepth 65536 in
set_option maxHeartbeats 40000000 in
theorem rm7 (l : Launch) (Z : State) (a0 : Array Value) (hw : ∀ d ∈ tables_1, d.before a0 Z = true) (ws : List Jvm.Cond) (p0 : Int32) (p1 : Int32) (h0 : Heap) (n0 : Nat)  :
    MetFree l (⟨"com/example/referent/referent/solver/IntPairMap", "key", "(II)J"⟩ : MethodName) (head1 (Jvm.Cond.code (⟨"com/example/referent/referent/solver/IntPairMap", "key", "(II)J"⟩ : MethodName) prog_74_method_12_code 2 (some .long) :: ws) ({ frames := 0, cells := 0, slots := 0, locals := 0 } : Room)) (fun a U => a = #[(.int p0), (.int p1)] ∧ Z.Warmed39 U.vm ∧ U.heap = h0) (fun _ _ _ _ _ => True) (fun _ U o U' => ∃ v L, o = .returned v ∧ own_Q (some (.long (own_key p0 p1))) h0 n0 v U'.heap L ∧ FrameEnd U o U' L ({ frames := 0, cells := 0, slots := 0, locals := 0 } : Room).cells ({ frames := 0, cells := 0, slots := 0, locals := 0 } : Room).slots) := by
  refine own_contract (plainFor_of_name own_pn7) (fun m => own_ef7 m p0 p1) ?_
  intro p e s m below meth c s₁ G hx hby hml0 hown0 hnm hret hZ X0 e0 hp hR
  have hml : c.maxLocals = 2 := hml0
  have hown : s.vm.findClass "com/example/referent/referent/solver/IntPairMap" = some m.cls := hown0
  have N0 := Fr.nil n0
  show G s₁ (mkF m 0 #[.val (.int p0), .val (.int p1)] [])
  refine hp (fun tq kq => XS.iloadN X0.here hx rfl (hb hby d7_0) rfl kq) ?_
  show G s₁ (mkF m 1 #[.val (.int p0), .val (.int p1)] [(.int p0)])
  refine hp (fun tq kq => XS.i2l X0.here hx rfl (hb hby d7_1) rfl kq) ?_
  show G s₁ (mkF m 2 #[.val (.int p0), .val (.int p1)] [(.long p0.toInt64)])
  refine hp (fun tq kq => XS.bipush X0.here hx rfl (hb hby d7_2) kq) ?_
  show G s₁ (mkF m 4 #[.val (.int p0), .val (.int p1)] [(.int (32 : Int32)), (.long p0.toInt64)])
  refine hp (fun tq kq => XS.lshl X0.here hx rfl (hb hby d7_4) rfl kq) ?_
  show G s₁ (mkF m 5 #[.val (.int p0), .val (.int p1)] [(.long (p0.toInt64 <<< ((32 : Int32) &&& 0x3f).toInt64))])
  refine hp (fun tq kq => XS.iloadN X0.here hx rfl (hb hby d7_5) rfl kq) ?_
  show G s₁ (mkF m 6 #[.val (.int p0), .val (.int p1)] [(.int p1), (.long (p0.toInt64 <<< ((32 : Int32) &&& 0x3f).toInt64))])
  refine hp (fun tq kq => XS.i2l X0.here hx rfl (hb hby d7_6) rfl kq) ?_
  show G s₁ (mkF m 7 #[.val (.int p0), .val (.int p1)] [(.long p1.toInt64), (.long (p0.toInt64 <<< ((32 : Int32) &&& 0x3f).toInt64))])
  refine hp (fun tq kq => XS.lor X0.here hx rfl (hb hby d7_7) rfl kq) ?_
  show G s₁ (mkF m 8 #[.val (.int p0), .val (.int p1)] [(.long ((p0.toInt64 <<< ((32 : Int32) &&& 0x3f).toInt64) ||| p1.toInt64))])
  exact hR X0 (fun fs hl => X0.lreturnOut hx hret (hb hby d7_8) hl) (fun q => by rw [hret] at q; cases q) ⟨rfl, N0, e0⟩ (by decide) (by decide)
theorem d9_0 : decode prog_74_method_13_code 0 = .ok (.lload_n 0, 1) := by decide +kernel
theorem d9_1 : decode prog_74_method_13_code 1 = .ok (.ldc2_w 62, 3) := by decide +kernel
theorem d9_4 : decode prog_74_method_13_code 4 = .ok (.lmul, 1) := by decide +kernel
theorem d9_5 : decode prog_74_method_13_code 5 = .ok (.lstore_n 3, 1) := by decide +kernel
theorem d9_6 : decode prog_74_method_13_code 6 = .ok (.lload_n 3, 1) := by decide +kernel
theorem d9_7 : decode prog_74_method_13_code 7 = .ok (.lload_n 3, 1) := by decide +kernel
theorem d9_8 : decode prog_74_method_13_code 8 = .ok (.bipush 32, 2) := by decide +kernel
theorem d9_10 : decode prog_74_method_13_code 10 = .ok (.lushr, 1) := by decide +kernel
theorem d9_11 : decode prog_74_method_13_code 11 = .ok (.lxor, 1) := by decide +kernel
theorem d9_12 : decode prog_74_method_13_code 12 = .ok (.l2i, 1) := by decide +kernel
theorem d9_13 : decode prog_74_method_13_code 13 = .ok (.iload_n 2, 1) := by decide +kernel
theorem d9_14 : decode prog_74_method_13_code 14 = .ok (.iand, 1) := by decide +kernel
theorem d9_15 : decode prog_74_method_13_code 15 = .ok (.ireturn, 1) := by decide +kernel
theorem own_ef9 (m : MethodId) (p0 : Int64) (p1 : Int32) : entryFrame m #[(.long p0), (.int p1)] 5 = mkF m 0 #[.val (.long p0), .second, .val (.int p1), .unset, .unset] [] := by first | (simp [entryFrame, mkF, argsToLocals, Value.category]; done) | rfl
def own_hash (p0 : Int64) (p1 : Int32) : Int32 := let z1 : Int64 := (p0 * (-7046029254386353131 : Int64))
  ((z1 ^^^ ((z1.toUInt64 >>> ((32 : Int32) &&& 0x3f).toInt64.toUInt64).toInt64)).toInt32 &&& p1)
theorem own_pn9 : plainName "com/example/referent/referent/solver/IntPairMap" = true := by first | (simp [plainName, overriddenIn]; done) | decide +kernel
set_option maxRecDepth 65536 in
set_option maxHeartbeats 40000000 in
theorem rm9 (l : Launch) (Z : State) (a0 : Array Value) (hw : ∀ d ∈ tables_1, d.before a0 Z = true) (ws : List Jvm.Cond) (p0 : Int64) (p1 : Int32) (h0 : Heap) (n0 : Nat)  :
    MetFree l (⟨"com/example/referent/referent/solver/IntPairMap", "slot", "(JI)I"⟩ : MethodName) (head1 (Jvm.Cond.code (⟨"com/example/referent/referent/solver/IntPairMap", "slot", "(JI)I"⟩ : MethodName) prog_74_method_13_code 5 (some .int) :: ws) ({ frames := 0, cells := 0, slots := 0, locals := 0 } : Room)) (fun a U => a = #[(.long p0), (.int p1)] ∧ Z.Warmed39 U.vm ∧ U.heap = h0) (fun _ _ _ _ _ => True) (fun _ U o U' => ∃ v L, o = .returned v ∧ own_Q (some (.int (own_hash p0 p1))) h0 n0 v U'.heap L ∧ FrameEnd U o U' L ({ frames := 0, cells := 0, slots := 0, locals := 0 } : Room).cells ({ frames := 0, cells := 0, slots := 0, locals := 0 } : Room).slots) := by
  refine own_contract (plainFor_of_name own_pn9) (fun m => own_ef9 m p0 p1) ?_
  intro p e s m below meth c s₁ G hx hby hml0 hown0 hnm hret hZ X0 e0 hp hR
  have hml : c.maxLocals = 5 := hml0
  have hown : s.vm.findClass "com/example/referent/referent/solver/IntPairMap" = some m.cls := hown0
  have N0 := Fr.nil n0
  show G s₁ (mkF m 0 #[.val (.long p0), .second, .val (.int p1), .unset, .unset] [])
  refine hp (fun tq kq => XS.lloadN X0.here hx rfl (hb hby d9_0) rfl kq) ?_
  show G s₁ (mkF m 1 #[.val (.long p0), .second, .val (.int p1), .unset, .unset] [(.long p0)])
  refine hp (fun tq kq => X0.ldc2Long hx hown (mvT hZ (hw _ (List.mem_of_getElem? (i := 46) rfl))) (g := (mkF m 1 #[.val (.long p0), .second, .val (.int p1), .unset, .unset] [(.long p0)])) rfl (hb hby d9_1) _ kq) ?_
  show G s₁ (mkF m 4 #[.val (.long p0), .second, .val (.int p1), .unset, .unset] [(.long (-7046029254386353131 : Int64)), (.long p0)])
  refine hp (fun tq kq => XS.lmul X0.here hx rfl (hb hby d9_4) rfl kq) ?_
  show G s₁ (mkF m 5 #[.val (.long p0), .second, .val (.int p1), .unset, .unset] [(.long (p0 * (-7046029254386353131 : Int64)))])
  refine hp (fun tq kq => XS.lstoreN X0.here hx rfl (hb hby d9_5) rfl (l' := #[.val (.long p0), .second, .val (.int p1), .val (.long (p0 * (-7046029254386353131 : Int64))), .second]) rfl kq) ?_
  show G s₁ (mkF m 6 #[.val (.long p0), .second, .val (.int p1), .val (.long (p0 * (-7046029254386353131 : Int64))), .second] [])
  refine (?_ : ∀ (z1 : Int64), z1 = (p0 * (-7046029254386353131 : Int64)) → G s₁ (mkF m 6 #[.val (.long p0), .second, .val (.int p1), .val (.long z1), .second] [])) _ rfl
  intro z1 hz1
  refine hp (fun tq kq => XS.lloadN X0.here hx rfl (hb hby d9_6) rfl kq) ?_
  show G s₁ (mkF m 7 #[.val (.long p0), .second, .val (.int p1), .val (.long z1), .second] [(.long z1)])
  refine hp (fun tq kq => XS.lloadN X0.here hx rfl (hb hby d9_7) rfl kq) ?_
  show G s₁ (mkF m 8 #[.val (.long p0), .second, .val (.int p1), .val (.long z1), .second] [(.long z1), (.long z1)])
  refine hp (fun tq kq => XS.bipush X0.here hx rfl (hb hby d9_8) kq) ?_
  show G s₁ (mkF m 10 #[.val (.long p0), .second, .val (.int p1), .val (.long z1), .second] [(.int (32 : Int32)), (.long z1), (.long z1)])
  refine hp (fun tq kq => XS.lushr X0.here hx rfl (hb hby d9_10) rfl kq) ?_
  show G s₁ (mkF m 11 #[.val (.long p0), .second, .val (.int p1), .val (.long z1), .second] [(.long ((z1.toUInt64 >>> ((32 : Int32) &&& 0x3f).toInt64.toUInt64).toInt64)), (.long z1)])
  refine hp (fun tq kq => XS.lxor X0.here hx rfl (hb hby d9_11) rfl kq) ?_
  show G s₁ (mkF m 12 #[.val (.long p0), .second, .val (.int p1), .val (.long z1), .second] [(.long (z1 ^^^ ((z1.toUInt64 >>> ((32 : Int32) &&& 0x3f).toInt64.toUInt64).toInt64)))])
  refine hp (fun tq kq => XS.l2i X0.here hx rfl (hb hby d9_12) rfl kq) ?_
  show G s₁ (mkF m 13 #[.val (.long p0), .second, .val (.int p1), .val (.long z1), .second] [(.int (z1 ^^^ ((z1.toUInt64 >>> ((32 : Int32) &&& 0x3f).toInt64.toUInt64).toInt64)).toInt32)])
  refine hp (fun tq kq => XS.iloadN X0.here hx rfl (hb hby d9_13) rfl kq) ?_
  show G s₁ (mkF m 14 #[.val (.long p0), .second, .val (.int p1), .val (.long z1), .second] [(.int p1), (.int (z1 ^^^ ((z1.toUInt64 >>> ((32 : Int32) &&& 0x3f).toInt64.toUInt64).toInt64)).toInt32)])
  refine hp (fun tq kq => XS.iand X0.here hx rfl (hb hby d9_14) rfl kq) ?_
  show G s₁ (mkF m 15 #[.val (.long p0), .second, .val (.int p1), .val (.long z1), .second] [(.int ((z1 ^^^ ((z1.toUInt64 >>> ((32 : Int32) &&& 0x3f).toInt64.toUInt64).toInt64)).toInt32 &&& p1))])
  exact hR X0 (fun fs hl => retI X0 hx hret (hb hby d9_15) hl) (fun q => by rw [hret] at q; cases q) ⟨(by subst hz1; exact rfl), N0, e0⟩ (by decide) (by decide)
theorem d4_0 : decode jdk_29_method_65_code 0 = .ok (.iload_n 0, 1) := by decide +kernel
theorem d4_1 : decode jdk_29_method_65_code 1 = .ok (.iload_n 1, 1) := by decide +kernel
theorem d4_2 : decode jdk_29_method_65_code 2 = .ok (.if_icmp .lt 7, 3) := by decide +kernel
theorem d4_5 : decode jdk_29_method_65_code 5 = .ok (.iload_n 0, 1) := by decide +kernel
theorem d4_6 : decode jdk_29_method_65_code 6 = .ok (.goto 4, 3) := by decide +kernel
theorem d4_9 : decode jdk_29_method_65_code 9 = .ok (.iload_n 1, 1) := by decide +kernel
theorem d4_10 : decode jdk_29_method_65_code 10 = .ok (.ireturn, 1) := by decide +kernel
theorem own_ef4 (m : MethodId) (p0 : Int32) (p1 : Int32) : entryFrame m #[(.int p0), (.int p1)] 2 = mkF m 0 #[.val (.int p0), .val (.int p1)] [] := by first | (simp [entryFrame, mkF, argsToLocals, Value.category]; done) | rfl
def own_max (p0 : Int32) (p1 : Int32) : Int32 := if p0 < p1 then p1 else p0
theorem own_pn4 : plainFor (⟨"java/lang/Math", "max", "(II)I"⟩ : MethodName) = true := Jvm.Free.JP.mathPlain rfl (by decide +kernel)
set_option maxRecDepth 65536 in
set_option maxHeartbeats 40000000 in
theorem rm4 (l : Launch) (Z : State) (a0 : Array Value) (hw : ∀ d ∈ tables_1, d.before a0 Z = true) (ws : List Jvm.Cond) (p0 : Int32) (p1 : Int32) (h0 : Heap) (n0 : Nat)  :
    MetFree l (⟨"java/lang/Math", "max", "(II)I"⟩ : MethodName) (head1 (Jvm.Cond.code (⟨"java/lang/Math", "max", "(II)I"⟩ : MethodName) jdk_29_method_65_code 2 (some .int) :: ws) ({ frames := 0, cells := 0, slots := 0, locals := 0 } : Room)) (fun a U => a = #[(.int p0), (.int p1)] ∧ Z.Warmed39 U.vm ∧ U.heap = h0) (fun _ _ _ _ _ => True) (fun _ U o U' => ∃ v L, o = .returned v ∧ own_Q (some (.int (own_max p0 p1))) h0 n0 v U'.heap L ∧ FrameEnd U o U' L ({ frames := 0, cells := 0, slots := 0, locals := 0 } : Room).cells ({ frames := 0, cells := 0, slots := 0, locals := 0 } : Room).slots) := by
  refine own_contract own_pn4 (fun m => own_ef4 m p0 p1) ?_
  intro p e s m below meth c s₁ G hx hby hml0 hown0 hnm hret hZ X0 e0 hp hR
  have hml : c.maxLocals = 2 := hml0
  have hown : s.vm.findClass "java/lang/Math" = some m.cls := hown0
  have N0 := Fr.nil n0
  show G s₁ (mkF m 0 #[.val (.int p0), .val (.int p1)] [])
  refine hp (fun tq kq => XS.iloadN X0.here hx rfl (hb hby d4_0) rfl kq) ?_
  show G s₁ (mkF m 1 #[.val (.int p0), .val (.int p1)] [(.int p0)])
  refine hp (fun tq kq => XS.iloadN X0.here hx rfl (hb hby d4_1) rfl kq) ?_
  show G s₁ (mkF m 2 #[.val (.int p0), .val (.int p1)] [(.int p1), (.int p0)])
  by_cases hb1 : p0 < p1
  · refine hp (fun tq kq => XS.icmpYes X0.here hx rfl (pc0 := 2) (pc' := 9) rfl (hb hby d4_2) rfl (tlt hb1).1 (by decide) (by decide) kq) ?_
    show G s₁ (mkF m 9 #[.val (.int p0), .val (.int p1)] [])
    refine hp (fun tq kq => XS.iloadN X0.here hx rfl (hb hby d4_9) rfl kq) ?_
    show G s₁ (mkF m 10 #[.val (.int p0), .val (.int p1)] [(.int p1)])
    exact hR X0 (fun fs hl => retI X0 hx hret (hb hby d4_10) hl) (fun q => by rw [hret] at q; cases q) ⟨(congrArg (fun q => some (Value.int q)) (if_pos hb1).symm), N0, e0⟩ (by decide) (by decide)
  · refine hp (fun tq kq => XS.icmpNo X0.here hx rfl (hb hby d4_2) rfl (flt hb1).1 kq) ?_
    show G s₁ (mkF m 5 #[.val (.int p0), .val (.int p1)] [])
    refine hp (fun tq kq => XS.iloadN X0.here hx rfl (hb hby d4_5) rfl kq) ?_
    show G s₁ (mkF m 6 #[.val (.int p0), .val (.int p1)] [(.int p0)])
    refine hp (fun tq kq => XS.goto X0.here hx rfl (pc0 := 6) (pc' := 10) rfl (hb hby d4_6) (by decide) (by decide) kq) ?_
    show G s₁ (mkF m 10 #[.val (.int p0), .val (.int p1)] [(.int p0)])
    exact hR X0 (fun fs hl => retI X0 hx hret (hb hby d4_10) hl) (fun q => by rw [hret] at q; cases q) ⟨(congrArg (fun q => some (Value.int q)) (if_neg hb1).symm), N0, e0⟩ (by decide) (by decide)
theorem d10_0 : decode prog_74_method_5_code 0 = .ok (.aload_n 0, 1) := by decide +kernel
theorem d10_1 : decode prog_74_method_5_code 1 = .ok (.getfield 7, 3) := by decide +kernel
theorem d10_4 : decode prog_74_method_5_code 4 = .ok (.arraylength, 1) := by decide +kernel
theorem d10_5 : decode prog_74_method_5_code 5 = .ok (.ireturn, 1) := by decide +kernel
theorem own_ef10 (m : MethodId) (p0 : Addr) : entryFrame m #[(.ref p0)] 1 = mkF m 0 #[.val (.ref p0)] [] := by first | (simp [entryFrame, mkF, argsToLocals, Value.category]; done) | rfl
theorem own_pn10 : plainName "com/example/referent/referent/solver/IntPairMap" = true := by first | (simp [plainName, overriddenIn]; done) | decide +kernel
set_option maxRecDepth 65536 in
set_option maxHeartbeats 40000000 in
theorem rm10 (l : Launch) (Z : State) (a0 : Array Value) (hw : ∀ d ∈ tables_1, d.before a0 Z = true) (ws : List Jvm.Cond) (p0 : Addr) (kA vA : Addr) (fk : Nat → Int64) (fv : Nat → Int32) (i0 : Nat) (h0 : Heap) (n0 : Nat) (F_k : Fld Z h0 p0 "com/example/referent/referent/solver/IntPairMap" "keys" "[J" (.ref kA)) (F_v : Fld Z h0 p0 "com/example/referent/referent/solver/IntPairMap" "values" "[I" (.ref vA)) (V_k : own_AJ Z h0 kA 16 fk) (V_v : own_AI Z h0 vA .int 16 fv) (hi : i0 < 16) :
    MetFree l (⟨"com/example/referent/referent/solver/IntPairMap", "slots", "()I"⟩ : MethodName) (head1 (Jvm.Cond.code (⟨"com/example/referent/referent/solver/IntPairMap", "slots", "()I"⟩ : MethodName) prog_74_method_5_code 1 (some .int) :: ws) ({ frames := 0, cells := 0, slots := 0, locals := 0 } : Room)) (fun a U => a = #[(.ref p0)] ∧ Z.Warmed39 U.vm ∧ U.heap = h0) (fun _ _ _ _ _ => True) (fun _ U o U' => ∃ v L, o = .returned v ∧ own_Q (some (.int (16 : Int32))) h0 n0 v U'.heap L ∧ FrameEnd U o U' L ({ frames := 0, cells := 0, slots := 0, locals := 0 } : Room).cells ({ frames := 0, cells := 0, slots := 0, locals := 0 } : Room).slots) := by
  refine own_contract (plainFor_of_name own_pn10) (fun m => own_ef10 m p0) ?_
  intro p e s m below meth c s₁ G hx hby hml0 hown0 hnm hret hZ X0 e0 hp hR
  have hml : c.maxLocals = 1 := hml0
  have hown : s.vm.findClass "com/example/referent/referent/solver/IntPairMap" = some m.cls := hown0
  have N0 := Fr.nil n0
  show G s₁ (mkF m 0 #[.val (.ref p0)] [])
  have K0 : Keep h0 h0 [] := Keep.refl _ _
  refine hp (fun tq kq => XS.aloadN X0.here hx rfl (hb hby d10_0) rfl rfl kq) ?_
  show G s₁ (mkF m 1 #[.val (.ref p0)] [(.ref p0)])
  obtain ⟨T1, X1, e1, st1⟩ := getF X0 hx hZ hown (host := "") (Or.inl (hw _ (List.mem_of_getElem? (i := 11) rfl))) Via.refl e0 F_k (g := (mkF m 1 #[.val (.ref p0)] [(.ref p0)])) rfl rfl (hb hby d10_1)
  refine hp st1 ?_
  show G T1 (mkF m 4 #[.val (.ref p0)] [(.ref kA)])
  refine hp (own_lenJ X1 hx hZ e1 V_k (16 : Int32) rfl (g := (mkF m 4 #[.val (.ref p0)] [(.ref kA)])) rfl rfl (hb hby d10_4)) ?_
  show G T1 (mkF m 5 #[.val (.ref p0)] [(.int (16 : Int32))])
  exact hR X1 (fun fs hl => retI X1 hx hret (hb hby d10_5) hl) (fun q => by rw [hret] at q; cases q) (by rw [e1]; exact ⟨rfl, N0, rfl⟩) (by decide) (by decide)
theorem d11_0 : decode prog_74_method_6_code 0 = .ok (.aload_n 0, 1) := by decide +kernel
theorem d11_1 : decode prog_74_method_6_code 1 = .ok (.getfield 7, 3) := by decide +kernel
theorem d11_4 : decode prog_74_method_6_code 4 = .ok (.iload_n 1, 1) := by decide +kernel
theorem d11_5 : decode prog_74_method_6_code 5 = .ok (.laload, 1) := by decide +kernel
theorem d11_6 : decode prog_74_method_6_code 6 = .ok (.ldc2_w 29, 3) := by decide +kernel
theorem d11_9 : decode prog_74_method_6_code 9 = .ok (.lcmp, 1) := by decide +kernel
theorem d11_10 : decode prog_74_method_6_code 10 = .ok (.ifCond .eq 7, 3) := by decide +kernel
theorem d11_13 : decode prog_74_method_6_code 13 = .ok (.iconst 1, 1) := by decide +kernel
theorem d11_14 : decode prog_74_method_6_code 14 = .ok (.goto 4, 3) := by decide +kernel
theorem d11_17 : decode prog_74_method_6_code 17 = .ok (.iconst 0, 1) := by decide +kernel
theorem d11_18 : decode prog_74_method_6_code 18 = .ok (.ireturn, 1) := by decide +kernel
theorem own_ef11 (m : MethodId) (p0 : Addr) (p1 : Int32) : entryFrame m #[(.ref p0), (.int p1)] 2 = mkF m 0 #[.val (.ref p0), .val (.int p1)] [] := by first | (simp [entryFrame, mkF, argsToLocals, Value.category]; done) | rfl
def own_tk (x : Int64) : Int32 := if x = (-1 : Int64) then (0 : Int32) else (1 : Int32)
theorem own_pn11 : plainName "com/example/referent/referent/solver/IntPairMap" = true := by first | (simp [plainName, overriddenIn]; done) | decide +kernel
set_option maxRecDepth 65536 in
set_option maxHeartbeats 40000000 in
theorem rm11 (l : Launch) (Z : State) (a0 : Array Value) (hw : ∀ d ∈ tables_1, d.before a0 Z = true) (ws : List Jvm.Cond) (p0 : Addr) (p1 : Int32) (kA vA : Addr) (fk : Nat → Int64) (fv : Nat → Int32) (i0 : Nat) (h0 : Heap) (n0 : Nat) (F_k : Fld Z h0 p0 "com/example/referent/referent/solver/IntPairMap" "keys" "[J" (.ref kA)) (F_v : Fld Z h0 p0 "com/example/referent/referent/solver/IntPairMap" "values" "[I" (.ref vA)) (V_k : own_AJ Z h0 kA 16 fk) (V_v : own_AI Z h0 vA .int 16 fv) (hi : i0 < 16) (hx0 : p1.toNatClampNeg = i0 ∧ ¬ p1 < 0) :
    MetFree l (⟨"com/example/referent/referent/solver/IntPairMap", "taken", "(I)Z"⟩ : MethodName) (head1 (Jvm.Cond.code (⟨"com/example/referent/referent/solver/IntPairMap", "taken", "(I)Z"⟩ : MethodName) prog_74_method_6_code 2 (some .boolean) :: ws) ({ frames := 0, cells := 0, slots := 0, locals := 0 } : Room)) (fun a U => a = #[(.ref p0), (.int p1)] ∧ Z.Warmed39 U.vm ∧ U.heap = h0) (fun _ _ _ _ _ => True) (fun _ U o U' => ∃ v L, o = .returned v ∧ own_Q (some (.int (own_tk (fk i0)))) h0 n0 v U'.heap L ∧ FrameEnd U o U' L ({ frames := 0, cells := 0, slots := 0, locals := 0 } : Room).cells ({ frames := 0, cells := 0, slots := 0, locals := 0 } : Room).slots) := by
  refine own_contract (plainFor_of_name own_pn11) (fun m => own_ef11 m p0 p1) ?_
  intro p e s m below meth c s₁ G hx hby hml0 hown0 hnm hret hZ X0 e0 hp hR
  have hml : c.maxLocals = 2 := hml0
  have hown : s.vm.findClass "com/example/referent/referent/solver/IntPairMap" = some m.cls := hown0
  have N0 := Fr.nil n0
  show G s₁ (mkF m 0 #[.val (.ref p0), .val (.int p1)] [])
  have K0 : Keep h0 h0 [] := Keep.refl _ _
  refine hp (fun tq kq => XS.aloadN X0.here hx rfl (hb hby d11_0) rfl rfl kq) ?_
  show G s₁ (mkF m 1 #[.val (.ref p0), .val (.int p1)] [(.ref p0)])
  obtain ⟨T1, X1, e1, st1⟩ := getF X0 hx hZ hown (host := "") (Or.inl (hw _ (List.mem_of_getElem? (i := 11) rfl))) Via.refl e0 F_k (g := (mkF m 1 #[.val (.ref p0), .val (.int p1)] [(.ref p0)])) rfl rfl (hb hby d11_1)
  refine hp st1 ?_
  show G T1 (mkF m 4 #[.val (.ref p0), .val (.int p1)] [(.ref kA)])
  refine hp (fun tq kq => XS.iloadN X1.here hx rfl (hb hby d11_4) rfl kq) ?_
  show G T1 (mkF m 5 #[.val (.ref p0), .val (.int p1)] [(.int p1), (.ref kA)])
  refine hp (own_ldJ X1 hx hZ e1 V_k (j := p1) i0 hx0.1 hx0.2 hi (g := (mkF m 5 #[.val (.ref p0), .val (.int p1)] [(.int p1), (.ref kA)])) rfl rfl (hb hby d11_5)) ?_
  show G T1 (mkF m 6 #[.val (.ref p0), .val (.int p1)] [(.long (fk i0))])
  refine hp (fun tq kq => X1.ldc2Long hx hown (mvT hZ (hw _ (List.mem_of_getElem? (i := 31) rfl))) (g := (mkF m 6 #[.val (.ref p0), .val (.int p1)] [(.long (fk i0))])) rfl (hb hby d11_6) _ kq) ?_
  show G T1 (mkF m 9 #[.val (.ref p0), .val (.int p1)] [(.long (-1 : Int64)), (.long (fk i0))])
  refine hp (fun tq kq => XS.lcmp X1.here hx rfl (hb hby d11_9) rfl kq) ?_
  show G T1 (mkF m 10 #[.val (.ref p0), .val (.int p1)] [(.int (lcmpW (fk i0) (-1 : Int64)))])
  by_cases hb2 : (fk i0) = (-1 : Int64)
  · refine hp (fun tq kq => XS.ifYes X1.here hx rfl (pc0 := 10) (pc' := 17) rfl (hb hby d11_10) rfl ((if0 _ _).trans (teq ((lw_eq _ _).mpr hb2)).1) (by decide) (by decide) kq) ?_
    show G T1 (mkF m 17 #[.val (.ref p0), .val (.int p1)] [])
    refine hp (fun tq kq => XS.iconst X1.here hx rfl (hb hby d11_17) kq) ?_
    show G T1 (mkF m 18 #[.val (.ref p0), .val (.int p1)] [(.int (0 : Int32))])
    exact hR X1 (fun fs hl => retN X1 hx (t := .boolean) hret (by simp) (hb hby d11_18) hl) (fun q => by rw [hret] at q; cases q) (by rw [e1]; exact ⟨(congrArg (fun q => some (Value.int q)) (if_pos hb2).symm), N0, rfl⟩) (by decide) (by decide)
  · refine hp (fun tq kq => XS.ifNo X1.here hx rfl (hb hby d11_10) rfl ((if0 _ _).trans (feq (fun q => hb2 ((lw_eq _ _).mp q))).1) kq) ?_
    show G T1 (mkF m 13 #[.val (.ref p0), .val (.int p1)] [])
    refine hp (fun tq kq => XS.iconst X1.here hx rfl (hb hby d11_13) kq) ?_
    show G T1 (mkF m 14 #[.val (.ref p0), .val (.int p1)] [(.int (1 : Int32))])
    refine hp (fun tq kq => XS.goto X1.here hx rfl (pc0 := 14) (pc' := 18) rfl (hb hby d11_14) (by decide) (by decide) kq) ?_
    show G T1 (mkF m 18 #[.val (.ref p0), .val (.int p1)] [(.int (1 : Int32))])
    exact hR X1 (fun fs hl => retN X1 hx (t := .boolean) hret (by simp) (hb hby d11_18) hl) (fun q => by rw [hret] at q; cases q) (by rw [e1]; exact ⟨(congrArg (fun q => some (Value.int q)) (if_neg hb2).symm), N0, rfl⟩) (by decide) (by decide)
theorem d12_0 : decode prog_74_method_7_code 0 = .ok (.aload_n 0, 1) := by decide +kernel
theorem d12_1 : decode prog_74_method_7_code 1 = .ok (.getfield 7, 3) := by decide +kernel
theorem d12_4 : decode prog_74_method_7_code 4 = .ok (.iload_n 1, 1) := by decide +kernel
theorem d12_5 : decode prog_74_method_7_code 5 = .ok (.laload, 1) := by decide +kernel
theorem d12_6 : decode prog_74_method_7_code 6 = .ok (.bipush 32, 2) := by decide +kernel
theorem d12_8 : decode prog_74_method_7_code 8 = .ok (.lushr, 1) := by decide +kernel
theorem d12_9 : decode prog_74_method_7_code 9 = .ok (.l2i, 1) := by decide +kernel
theorem d12_10 : decode prog_74_method_7_code 10 = .ok (.ireturn, 1) := by decide +kernel
theorem own_ef12 (m : MethodId) (p0 : Addr) (p1 : Int32) : entryFrame m #[(.ref p0), (.int p1)] 2 = mkF m 0 #[.val (.ref p0), .val (.int p1)] [] := by first | (simp [entryFrame, mkF, argsToLocals, Value.category]; done) | rfl
theorem own_pn12 : plainName "com/example/referent/referent/solver/IntPairMap" = true := by first | (simp [plainName, overriddenIn]; done) | decide +kernel
set_option maxRecDepth 65536 in
set_option maxHeartbeats 40000000 in
theorem rm12 (l : Launch) (Z : State) (a0 : Array Value) (hw : ∀ d ∈ tables_1, d.before a0 Z = true) (ws : List Jvm.Cond) (p0 : Addr) (p1 : Int32) (kA vA : Addr) (fk : Nat → Int64) (fv : Nat → Int32) (i0 : Nat) (h0 : Heap) (n0 : Nat) (F_k : Fld Z h0 p0 "com/example/referent/referent/solver/IntPairMap" "keys" "[J" (.ref kA)) (F_v : Fld Z h0 p0 "com/example/referent/referent/solver/IntPairMap" "values" "[I" (.ref vA)) (V_k : own_AJ Z h0 kA 16 fk) (V_v : own_AI Z h0 vA .int 16 fv) (hi : i0 < 16) (hx0 : p1.toNatClampNeg = i0 ∧ ¬ p1 < 0) :
    MetFree l (⟨"com/example/referent/referent/solver/IntPairMap", "first", "(I)I"⟩ : MethodName) (head1 (Jvm.Cond.code (⟨"com/example/referent/referent/solver/IntPairMap", "first", "(I)I"⟩ : MethodName) prog_74_method_7_code 2 (some .int) :: ws) ({ frames := 0, cells := 0, slots := 0, locals := 0 } : Room)) (fun a U => a = #[(.ref p0), (.int p1)] ∧ Z.Warmed39 U.vm ∧ U.heap = h0) (fun _ _ _ _ _ => True) (fun _ U o U' => ∃ v L, o = .returned v ∧ own_Q (some (.int ((((fk i0).toUInt64 >>> ((32 : Int32) &&& 0x3f).toInt64.toUInt64).toInt64).toInt32))) h0 n0 v U'.heap L ∧ FrameEnd U o U' L ({ frames := 0, cells := 0, slots := 0, locals := 0 } : Room).cells ({ frames := 0, cells := 0, slots := 0, locals := 0 } : Room).slots) := by
  refine own_contract (plainFor_of_name own_pn12) (fun m => own_ef12 m p0 p1) ?_
  intro p e s m below meth c s₁ G hx hby hml0 hown0 hnm hret hZ X0 e0 hp hR
  have hml : c.maxLocals = 2 := hml0
  have hown : s.vm.findClass "com/example/referent/referent/solver/IntPairMap" = some m.cls := hown0
  have N0 := Fr.nil n0
  show G s₁ (mkF m 0 #[.val (.ref p0), .val (.int p1)] [])
  have K0 : Keep h0 h0 [] := Keep.refl _ _
  refine hp (fun tq kq => XS.aloadN X0.here hx rfl (hb hby d12_0) rfl rfl kq) ?_
  show G s₁ (mkF m 1 #[.val (.ref p0), .val (.int p1)] [(.ref p0)])
  obtain ⟨T1, X1, e1, st1⟩ := getF X0 hx hZ hown (host := "") (Or.inl (hw _ (List.mem_of_getElem? (i := 11) rfl))) Via.refl e0 F_k (g := (mkF m 1 #[.val (.ref p0), .val (.int p1)] [(.ref p0)])) rfl rfl (hb hby d12_1)
  refine hp st1 ?_
  show G T1 (mkF m 4 #[.val (.ref p0), .val (.int p1)] [(.ref kA)])
  refine hp (fun tq kq => XS.iloadN X1.here hx rfl (hb hby d12_4) rfl kq) ?_
  show G T1 (mkF m 5 #[.val (.ref p0), .val (.int p1)] [(.int p1), (.ref kA)])
  refine hp (own_ldJ X1 hx hZ e1 V_k (j := p1) i0 hx0.1 hx0.2 hi (g := (mkF m 5 #[.val (.ref p0), .val (.int p1)] [(.int p1), (.ref kA)])) rfl rfl (hb hby d12_5)) ?_
  show G T1 (mkF m 6 #[.val (.ref p0), .val (.int p1)] [(.long (fk i0))])
  refine hp (fun tq kq => XS.bipush X1.here hx rfl (hb hby d12_6) kq) ?_
  show G T1 (mkF m 8 #[.val (.ref p0), .val (.int p1)] [(.int (32 : Int32)), (.long (fk i0))])
  refine hp (fun tq kq => XS.lushr X1.here hx rfl (hb hby d12_8) rfl kq) ?_
  show G T1 (mkF m 9 #[.val (.ref p0), .val (.int p1)] [(.long (((fk i0).toUInt64 >>> ((32 : Int32) &&& 0x3f).toInt64.toUInt64).toInt64))])
  refine hp (fun tq kq => XS.l2i X1.here hx rfl (hb hby d12_9) rfl kq) ?_
  show G T1 (mkF m 10 #[.val (.ref p0), .val (.int p1)] [(.int (((fk i0).toUInt64 >>> ((32 : Int32) &&& 0x3f).toInt64.toUInt64).toInt64).toInt32)])
  exact hR X1 (fun fs hl => retI X1 hx hret (hb hby d12_10) hl) (fun q => by rw [hret] at q; cases q) (by rw [e1]; exact ⟨rfl, N0, rfl⟩) (by decide) (by decide)
theorem d13_0 : decode prog_74_method_8_code 0 = .ok (.aload_n 0, 1) := by decide +kernel
theorem d13_1 : decode prog_74_method_8_code 1 = .ok (.getfield 7, 3) := by decide +kernel
theorem d13_4 : decode prog_74_method_8_code 4 = .ok (.iload_n 1, 1) := by decide +kernel
theorem d13_5 : decode prog_74_method_8_code 5 = .ok (.laload, 1) := by decide +kernel
theorem d13_6 : decode prog_74_method_8_code 6 = .ok (.l2i, 1) := by decide +kernel
theorem d13_7 : decode prog_74_method_8_code 7 = .ok (.ireturn, 1) := by decide +kernel
theorem own_ef13 (m : MethodId) (p0 : Addr) (p1 : Int32) : entryFrame m #[(.ref p0), (.int p1)] 2 = mkF m 0 #[.val (.ref p0), .val (.int p1)] [] := by first | (simp [entryFrame, mkF, argsToLocals, Value.category]; done) | rfl
theorem own_pn13 : plainName "com/example/referent/referent/solver/IntPairMap" = true := by first | (simp [plainName, overriddenIn]; done) | decide +kernel
set_option maxRecDepth 65536 in
set_option maxHeartbeats 40000000 in
theorem rm13 (l : Launch) (Z : State) (a0 : Array Value) (hw : ∀ d ∈ tables_1, d.before a0 Z = true) (ws : List Jvm.Cond) (p0 : Addr) (p1 : Int32) (kA vA : Addr) (fk : Nat → Int64) (fv : Nat → Int32) (i0 : Nat) (h0 : Heap) (n0 : Nat) (F_k : Fld Z h0 p0 "com/example/referent/referent/solver/IntPairMap" "keys" "[J" (.ref kA)) (F_v : Fld Z h0 p0 "com/example/referent/referent/solver/IntPairMap" "values" "[I" (.ref vA)) (V_k : own_AJ Z h0 kA 16 fk) (V_v : own_AI Z h0 vA .int 16 fv) (hi : i0 < 16) (hx0 : p1.toNatClampNeg = i0 ∧ ¬ p1 < 0) :
    MetFree l (⟨"com/example/referent/referent/solver/IntPairMap", "second", "(I)I"⟩ : MethodName) (head1 (Jvm.Cond.code (⟨"com/example/referent/referent/solver/IntPairMap", "second", "(I)I"⟩ : MethodName) prog_74_method_8_code 2 (some .int) :: ws) ({ frames := 0, cells := 0, slots := 0, locals := 0 } : Room)) (fun a U => a = #[(.ref p0), (.int p1)] ∧ Z.Warmed39 U.vm ∧ U.heap = h0) (fun _ _ _ _ _ => True) (fun _ U o U' => ∃ v L, o = .returned v ∧ own_Q (some (.int ((fk i0).toInt32))) h0 n0 v U'.heap L ∧ FrameEnd U o U' L ({ frames := 0, cells := 0, slots := 0, locals := 0 } : Room).cells ({ frames := 0, cells := 0, slots := 0, locals := 0 } : Room).slots) := by
  refine own_contract (plainFor_of_name own_pn13) (fun m => own_ef13 m p0 p1) ?_
  intro p e s m below meth c s₁ G hx hby hml0 hown0 hnm hret hZ X0 e0 hp hR
  have hml : c.maxLocals = 2 := hml0
  have hown : s.vm.findClass "com/example/referent/referent/solver/IntPairMap" = some m.cls := hown0
  have N0 := Fr.nil n0
  show G s₁ (mkF m 0 #[.val (.ref p0), .val (.int p1)] [])
  have K0 : Keep h0 h0 [] := Keep.refl _ _
  refine hp (fun tq kq => XS.aloadN X0.here hx rfl (hb hby d13_0) rfl rfl kq) ?_
  show G s₁ (mkF m 1 #[.val (.ref p0), .val (.int p1)] [(.ref p0)])
  obtain ⟨T1, X1, e1, st1⟩ := getF X0 hx hZ hown (host := "") (Or.inl (hw _ (List.mem_of_getElem? (i := 11) rfl))) Via.refl e0 F_k (g := (mkF m 1 #[.val (.ref p0), .val (.int p1)] [(.ref p0)])) rfl rfl (hb hby d13_1)
  refine hp st1 ?_
  show G T1 (mkF m 4 #[.val (.ref p0), .val (.int p1)] [(.ref kA)])
  refine hp (fun tq kq => XS.iloadN X1.here hx rfl (hb hby d13_4) rfl kq) ?_
  show G T1 (mkF m 5 #[.val (.ref p0), .val (.int p1)] [(.int p1), (.ref kA)])
  refine hp (own_ldJ X1 hx hZ e1 V_k (j := p1) i0 hx0.1 hx0.2 hi (g := (mkF m 5 #[.val (.ref p0), .val (.int p1)] [(.int p1), (.ref kA)])) rfl rfl (hb hby d13_5)) ?_
  show G T1 (mkF m 6 #[.val (.ref p0), .val (.int p1)] [(.long (fk i0))])
  refine hp (fun tq kq => XS.l2i X1.here hx rfl (hb hby d13_6) rfl kq) ?_
  show G T1 (mkF m 7 #[.val (.ref p0), .val (.int p1)] [(.int (fk i0).toInt32)])
  exact hR X1 (fun fs hl => retI X1 hx hret (hb hby d13_7) hl) (fun q => by rw [hret] at q; cases q) (by rw [e1]; exact ⟨rfl, N0, rfl⟩) (by decide) (by decide)
theorem d15_0 : decode prog_74_method_9_code 0 = .ok (.aload_n 0, 1) := by decide +kernel
theorem d15_1 : decode prog_74_method_9_code 1 = .ok (.getfield 13, 3) := by decide +kernel
theorem d15_4 : decode prog_74_method_9_code 4 = .ok (.iload_n 1, 1) := by decide +kernel
theorem d15_5 : decode prog_74_method_9_code 5 = .ok (.iaload, 1) := by decide +kernel
theorem d15_6 : decode prog_74_method_9_code 6 = .ok (.ireturn, 1) := by decide +kernel
theorem own_ef15 (m : MethodId) (p0 : Addr) (p1 : Int32) : entryFrame m #[(.ref p0), (.int p1)] 2 = mkF m 0 #[.val (.ref p0), .val (.int p1)] [] := by first | (simp [entryFrame, mkF, argsToLocals, Value.category]; done) | rfl
theorem own_pn15 : plainName "com/example/referent/referent/solver/IntPairMap" = true := by first | (simp [plainName, overriddenIn]; done) | decide +kernel
set_option maxRecDepth 65536 in
set_option maxHeartbeats 40000000 in
theorem rm15 (l : Launch) (Z : State) (a0 : Array Value) (hw : ∀ d ∈ tables_1, d.before a0 Z = true) (ws : List Jvm.Cond) (p0 : Addr) (p1 : Int32) (kA vA : Addr) (fk : Nat → Int64) (fv : Nat → Int32) (i0 : Nat) (h0 : Heap) (n0 : Nat) (F_k : Fld Z h0 p0 "com/example/referent/referent/solver/IntPairMap" "keys" "[J" (.ref kA)) (F_v : Fld Z h0 p0 "com/example/referent/referent/solver/IntPairMap" "values" "[I" (.ref vA)) (V_k : own_AJ Z h0 kA 16 fk) (V_v : own_AI Z h0 vA .int 16 fv) (hi : i0 < 16) (hx0 : p1.toNatClampNeg = i0 ∧ ¬ p1 < 0) :
    MetFree l (⟨"com/example/referent/referent/solver/IntPairMap", "value", "(I)I"⟩ : MethodName) (head1 (Jvm.Cond.code (⟨"com/example/referent/referent/solver/IntPairMap", "value", "(I)I"⟩ : MethodName) prog_74_method_9_code 2 (some .int) :: ws) ({ frames := 0, cells := 0, slots := 0, locals := 0 } : Room)) (fun a U => a = #[(.ref p0), (.int p1)] ∧ Z.Warmed39 U.vm ∧ U.heap = h0) (fun _ _ _ _ _ => True) (fun _ U o U' => ∃ v L, o = .returned v ∧ own_Q (some (.int (fv i0))) h0 n0 v U'.heap L ∧ FrameEnd U o U' L ({ frames := 0, cells := 0, slots := 0, locals := 0 } : Room).cells ({ frames := 0, cells := 0, slots := 0, locals := 0 } : Room).slots) := by
  refine own_contract (plainFor_of_name own_pn15) (fun m => own_ef15 m p0 p1) ?_
  intro p e s m below meth c s₁ G hx hby hml0 hown0 hnm hret hZ X0 e0 hp hR
  have hml : c.maxLocals = 2 := hml0
  have hown : s.vm.findClass "com/example/referent/referent/solver/IntPairMap" = some m.cls := hown0
  have N0 := Fr.nil n0
  show G s₁ (mkF m 0 #[.val (.ref p0), .val (.int p1)] [])
  have K0 : Keep h0 h0 [] := Keep.refl _ _
  refine hp (fun tq kq => XS.aloadN X0.here hx rfl (hb hby d15_0) rfl rfl kq) ?_
  show G s₁ (mkF m 1 #[.val (.ref p0), .val (.int p1)] [(.ref p0)])
  obtain ⟨T1, X1, e1, st1⟩ := getF X0 hx hZ hown (host := "") (Or.inl (hw _ (List.mem_of_getElem? (i := 14) rfl))) Via.refl e0 F_v (g := (mkF m 1 #[.val (.ref p0), .val (.int p1)] [(.ref p0)])) rfl rfl (hb hby d15_1)
  refine hp st1 ?_
  show G T1 (mkF m 4 #[.val (.ref p0), .val (.int p1)] [(.ref vA)])
  refine hp (fun tq kq => XS.iloadN X1.here hx rfl (hb hby d15_4) rfl kq) ?_
  show G T1 (mkF m 5 #[.val (.ref p0), .val (.int p1)] [(.int p1), (.ref vA)])
  refine hp (own_ldI X1 hx hZ e1 V_v (j := p1) i0 hx0.1 hx0.2 hi (g := (mkF m 5 #[.val (.ref p0), .val (.int p1)] [(.int p1), (.ref vA)])) rfl rfl (hb hby d15_5)) ?_
  show G T1 (mkF m 6 #[.val (.ref p0), .val (.int p1)] [(.int (fv i0))])
  exact hR X1 (fun fs hl => retI X1 hx hret (hb hby d15_6) hl) (fun q => by rw [hret] at q; cases q) (by rw [e1]; exact ⟨rfl, N0, rfl⟩) (by decide) (by decide)
theorem d1_0 : decode prog_74_method_1_code 0 = .ok (.aload_n 0, 1) := by decide +kernel
theorem d1_1 : decode prog_74_method_1_code 1 = .ok (.invokespecial 1, 3) := by decide +kernel
theorem d1_4 : decode prog_74_method_1_code 4 = .ok (.aload_n 0, 1) := by decide +kernel
theorem d1_5 : decode prog_74_method_1_code 5 = .ok (.iconst 0, 1) := by decide +kernel
theorem d1_6 : decode prog_74_method_1_code 6 = .ok (.newarray .long, 2) := by decide +kernel
theorem d1_8 : decode prog_74_method_1_code 8 = .ok (.putfield 7, 3) := by decide +kernel
theorem d1_11 : decode prog_74_method_1_code 11 = .ok (.aload_n 0, 1) := by decide +kernel
theorem d1_12 : decode prog_74_method_1_code 12 = .ok (.iconst 0, 1) := by decide +kernel
theorem d1_13 : decode prog_74_method_1_code 13 = .ok (.newarray .int, 2) := by decide +kernel
theorem d1_15 : decode prog_74_method_1_code 15 = .ok (.putfield 13, 3) := by decide +kernel
theorem d1_18 : decode prog_74_method_1_code 18 = .ok (.return_, 1) := by decide +kernel
theorem own_ef1 (m : MethodId) (p0 : Addr) : entryFrame m #[(.ref p0)] 1 = mkF m 0 #[.val (.ref p0)] [] := by first | (simp [entryFrame, mkF, argsToLocals, Value.category]; done) | rfl
abbrev own_Qi (Z : State) (p0 : Addr) (h0 : Heap) (n0 : Nat) (v : Option Value) (h : Heap) (L : List Loc) : Prop := ∃ ka va : Addr, v = none ∧ Fr n0 L ∧ Keep h0 h [p0] ∧ Exa Z h p0 "com/example/referent/referent/solver/IntPairMap" ∧ Fld Z h p0 "com/example/referent/referent/solver/IntPairMap" "keys" "[J" (.ref ka) ∧ Fld Z h p0 "com/example/referent/referent/solver/IntPairMap" "values" "[I" (.ref va) ∧ Fld Z h p0 "com/example/referent/referent/solver/IntPairMap" "size" "I" (.int (0 : Int32)) ∧ own_AJ Z h ka 0 (fun _ => (0 : Int64)) ∧ own_AI Z h va .int 0 (fun _ => (0 : Int32)) ∧ ka ≠ va ∧ h0.size ≤ ka ∧ h0.size ≤ va
theorem own_pn1 : plainName "com/example/referent/referent/solver/IntPairMap" = true := by first | (simp [plainName, overriddenIn]; done) | decide +kernel
set_option maxRecDepth 65536 in
set_option maxHeartbeats 40000000 in
theorem rm1 (l : Launch) (Z : State) (a0 : Array Value) (hw : ∀ d ∈ tables_1, d.before a0 Z = true) (ws : List Jvm.Cond) (p0 : Addr)  (h0 : Heap) (n0 : Nat) (Z0 : n0 ≤ h0.size) (E_p0 : Exa Z h0 p0 "com/example/referent/referent/solver/IntPairMap") (F_keys : Fld Z h0 p0 "com/example/referent/referent/solver/IntPairMap" "keys" "[J" .null) (F_values : Fld Z h0 p0 "com/example/referent/referent/solver/IntPairMap" "values" "[I" .null) (F_size : Fld Z h0 p0 "com/example/referent/referent/solver/IntPairMap" "size" "I" (.int (0 : Int32))) (g_p0 : n0 ≤ p0) :
    MetFree l (⟨"com/example/referent/referent/solver/IntPairMap", "<init>", "()V"⟩ : MethodName) (head1 (Jvm.Cond.code (⟨"com/example/referent/referent/solver/IntPairMap", "<init>", "()V"⟩ : MethodName) prog_74_method_1_code 1 none :: ws) ({ frames := 1, cells := 2, slots := 0, locals := 12 } : Room)) (fun a U => a = #[(.ref p0)] ∧ Z.Warmed39 U.vm ∧ U.heap = h0) (fun _ _ _ _ _ => True) (fun _ U o U' => ∃ v L, o = .returned v ∧ own_Qi Z p0 h0 n0 v U'.heap L ∧ FrameEnd U o U' L ({ frames := 1, cells := 2, slots := 0, locals := 12 } : Room).cells ({ frames := 1, cells := 2, slots := 0, locals := 12 } : Room).slots) := by
  refine own_contract (plainFor_of_name own_pn1) (fun m => own_ef1 m p0) ?_
  intro p e s m below meth c s₁ G hx hby hml0 hown0 hnm hret hZ X0 e0 hp hR
  have hml : c.maxLocals = 1 := hml0
  have hown : s.vm.findClass "com/example/referent/referent/solver/IntPairMap" = some m.cls := hown0
  have N0 := Fr.nil n0
  show G s₁ (mkF m 0 #[.val (.ref p0)] [])
  have K0 : Keep h0 h0 [p0] := Keep.refl _ _
  refine hp (fun tq kq => XS.aloadN X0.here hx rfl (hb hby d1_0) rfl rfl kq) ?_
  show G s₁ (mkF m 1 #[.val (.ref p0)] [(.ref p0)])
  obtain ⟨T1, X1, e1, st1⟩ := initO X0 hx hZ hown (hw _ (List.mem_of_getElem? (i := 7) rfl)) (hw _ (List.mem_of_getElem? (i := 8) rfl)) (hw _ (List.mem_of_getElem? (i := 9) rfl)) e0 (g := (mkF m 1 #[.val (.ref p0)] [(.ref p0)])) rfl (by rw [hml]; rfl) rfl (hb hby d1_1) (by decide) (W := 0) (by show 2 * 0 + _ ≤ _; exact Nat.le_of_eq rfl) (by decide)
  refine hp st1 ?_
  show G T1 (mkF m 4 #[.val (.ref p0)] [])
  refine hp (fun tq kq => XS.aloadN X1.here hx rfl (hb hby d1_4) rfl rfl kq) ?_
  show G T1 (mkF m 5 #[.val (.ref p0)] [(.ref p0)])
  refine hp (fun tq kq => XS.iconst X1.here hx rfl (hb hby d1_5) kq) ?_
  show G T1 (mkF m 6 #[.val (.ref p0)] [(.int (0 : Int32)), (.ref p0)])
  obtain ⟨T2, h2, k2, X2, e2, E2, A2, st2⟩ := newP X1 hx hZ (hw _ (List.mem_of_getElem? (i := 10) rfl)) e1 (g := (mkF m 6 #[.val (.ref p0)] [(.int (0 : Int32)), (.ref p0)])) rfl (hb hby d1_6) rfl (by decide) (cap := 0) (by decide) (by decide) (by decide) (by decide)
  obtain ⟨b2, g2⟩ : ∃ z, z = h0.size := ⟨_, rfl⟩
  rw [← g2] at A2 st2
  have ne2_p0 : p0 ≠ b2 := Nat.ne_of_lt (Nat.lt_of_lt_of_le E_p0.lt (Nat.le_of_eq g2.symm))
  have sz_b2 : h0.size ≤ b2 := Nat.le_trans K0.1 (Nat.le_of_eq g2.symm)
  have g_b2 : n0 ≤ b2 := Nat.le_trans Z0 sz_b2
  have E2_p0 := Exa.ext E2 E_p0
  have F2_keys_p0 := Fld.ext E2 F_keys
  have F2_values_p0 := Fld.ext E2 F_values
  have F2_size_p0 := Fld.ext E2 F_size
  have K2 := K0.ext E2
  have V2_b2 := own_AJ.new A2 (by decide) 0 (by decide)
  refine hp st2 ?_
  show G T2 (mkF m 8 #[.val (.ref p0)] [(.ref b2), (.ref p0)])
  obtain ⟨T3, h3, X3, e3, W3, st3⟩ := putF X2 hx hZ hown (host := "") (Or.inl (hw _ (List.mem_of_getElem? (i := 11) rfl))) Via.refl e2 F2_keys_p0 E2_p0 (Or.inl (hw _ (List.mem_of_getElem? (i := 12) rfl))) (hw _ (List.mem_of_getElem? (i := 2) rfl)) (ty := (.array .long)) (by decide) rfl rfl (g := (mkF m 8 #[.val (.ref p0)] [(.ref b2), (.ref p0)])) rfl rfl (hb hby d1_8)
  have F3_keys_p0 := Fld.same W3 F2_keys_p0
  have V3_b2 := V2_b2.other W3 (Ne.symm ne2_p0)
  have E3_p0 := Exa.wr W3 E2_p0
  have F3_values_p0 := Fld.other W3 F2_values_p0 (Or.inr (slot_ne (Or.inl (hw _ (List.mem_of_getElem? (i := 15) rfl))) (Or.inl (hw _ (List.mem_of_getElem? (i := 12) rfl))) (by decide) (t := (.array .int)) (t' := (.array .long)) (by decide) (by decide)))
  have F3_size_p0 := Fld.other W3 F2_size_p0 (Or.inr (slot_ne (Or.inl (hw _ (List.mem_of_getElem? (i := 22) rfl))) (Or.inl (hw _ (List.mem_of_getElem? (i := 12) rfl))) (by decide) (t := .int) (t' := (.array .long)) (by decide) (by decide)))
  have K3 := K2.wr W3 (Or.inl (by simp))
  have N3 := Fr.snoc X3 N0 g_p0
  refine hp st3 ?_
  show G T3 (mkF m 11 #[.val (.ref p0)] [])
  refine hp (fun tq kq => XS.aloadN X3.here hx rfl (hb hby d1_11) rfl rfl kq) ?_
  show G T3 (mkF m 12 #[.val (.ref p0)] [(.ref p0)])
  refine hp (fun tq kq => XS.iconst X3.here hx rfl (hb hby d1_12) kq) ?_
  show G T3 (mkF m 13 #[.val (.ref p0)] [(.int (0 : Int32)), (.ref p0)])
  obtain ⟨T4, h4, k4, X4, e4, E4, A4, st4⟩ := newP X3 hx hZ (hw _ (List.mem_of_getElem? (i := 13) rfl)) e3 (g := (mkF m 13 #[.val (.ref p0)] [(.int (0 : Int32)), (.ref p0)])) rfl (hb hby d1_13) rfl (by decide) (cap := 0) (by decide) (by decide) (by decide) (by decide)
  obtain ⟨b4, g4⟩ : ∃ z, z = h3.size := ⟨_, rfl⟩
  rw [← g4] at A4 st4
  have ne4_b2 : b2 ≠ b4 := Nat.ne_of_lt (Nat.lt_of_lt_of_le V3_b2.lt (Nat.le_of_eq g4.symm))
  have ne4_p0 : p0 ≠ b4 := Nat.ne_of_lt (Nat.lt_of_lt_of_le E3_p0.lt (Nat.le_of_eq g4.symm))
  have sz_b4 : h0.size ≤ b4 := Nat.le_trans K3.1 (Nat.le_of_eq g4.symm)
  have g_b4 : n0 ≤ b4 := Nat.le_trans Z0 sz_b4
  have V4_b2 := V3_b2.ext E4
  have E4_p0 := Exa.ext E4 E3_p0
  have F4_keys_p0 := Fld.ext E4 F3_keys_p0
  have F4_values_p0 := Fld.ext E4 F3_values_p0
  have F4_size_p0 := Fld.ext E4 F3_size_p0
  have K4 := K3.ext E4
  have V4_b4 : own_AI Z h4 b4 .int 0 (fun _ => 0) := own_AI.new A4 (by decide) rfl 0 (by decide)
  refine hp st4 ?_
  show G T4 (mkF m 15 #[.val (.ref p0)] [(.ref b4), (.ref p0)])
  obtain ⟨T5, h5, X5, e5, W5, st5⟩ := putF X4 hx hZ hown (host := "") (Or.inl (hw _ (List.mem_of_getElem? (i := 14) rfl))) Via.refl e4 F4_values_p0 E4_p0 (Or.inl (hw _ (List.mem_of_getElem? (i := 15) rfl))) (hw _ (List.mem_of_getElem? (i := 2) rfl)) (ty := (.array .int)) (by decide) rfl rfl (g := (mkF m 15 #[.val (.ref p0)] [(.ref b4), (.ref p0)])) rfl rfl (hb hby d1_15)
  have F5_values_p0 := Fld.same W5 F4_values_p0
  have V5_b2 := V4_b2.other W5 (Ne.symm ne2_p0)
  have V5_b4 := V4_b4.other W5 (Ne.symm ne4_p0)
  have E5_p0 := Exa.wr W5 E4_p0
  have F5_keys_p0 := Fld.other W5 F4_keys_p0 (Or.inr (slot_ne (Or.inl (hw _ (List.mem_of_getElem? (i := 12) rfl))) (Or.inl (hw _ (List.mem_of_getElem? (i := 15) rfl))) (by decide) (t := (.array .long)) (t' := (.array .int)) (by decide) (by decide)))
  have F5_size_p0 := Fld.other W5 F4_size_p0 (Or.inr (slot_ne (Or.inl (hw _ (List.mem_of_getElem? (i := 22) rfl))) (Or.inl (hw _ (List.mem_of_getElem? (i := 15) rfl))) (by decide) (t := .int) (t' := (.array .int)) (by decide) (by decide)))
  have K5 := K4.wr W5 (Or.inl (by simp))
  have N5 := Fr.snoc X5 N3 g_p0
  refine hp st5 ?_
  show G T5 (mkF m 18 #[.val (.ref p0)] [])
  exact hR X5 (fun fs hl => X5.returnOut hx hret (hb hby d1_18) hl) (fun _ => rfl) (by rw [e5]; exact ⟨b2, b4, rfl, N5, K5, E5_p0, F5_keys_p0, F5_values_p0, F5_size_p0, V5_b2, V5_b4, ne4_b2, sz_b2, sz_b4⟩) (by decide) (by decide)
abbrev own_Qf (Z : State) (p0 : Addr) (p1 : Int64) (h0 : Heap) (n0 : Nat) (v : Option Value) (h : Heap) (L : List Loc) : Prop := v = none ∧ Fr n0 L ∧ Keep h0 h [p0] ∧ own_AJ Z h p0 16 (fun _ => p1)
theorem own_filled (f : Nat → Int64) (p1 : Int64) : ∀ i, i < 16 → (own_up (own_up (own_up (own_up (own_up (own_up (own_up (own_up (own_up (own_up (own_up (own_up (own_up (own_up (own_up (own_up f 0 p1) 1 p1) 2 p1) 3 p1) 4 p1) 5 p1) 6 p1) 7 p1) 8 p1) 9 p1) 10 p1) 11 p1) 12 p1) 13 p1) 14 p1) 15 p1) i = (fun _ => p1) i := by
  intro i hi
  rcases (by omega : i = 0 ∨ i = 1 ∨ i = 2 ∨ i = 3 ∨ i = 4 ∨ i = 5 ∨ i = 6 ∨ i = 7 ∨ i = 8 ∨ i = 9 ∨ i = 10 ∨ i = 11 ∨ i = 12 ∨ i = 13 ∨ i = 14 ∨ i = 15) with e | e | e | e | e | e | e | e | e | e | e | e | e | e | e | e <;> subst e <;> rfl
theorem d6_0 : decode jdk_65_method_101_code 0 = .ok (.iconst 0, 1) := by decide +kernel
theorem d6_1 : decode jdk_65_method_101_code 1 = .ok (.istore_n 3, 1) := by decide +kernel
theorem d6_2 : decode jdk_65_method_101_code 2 = .ok (.aload_n 0, 1) := by decide +kernel
theorem d6_3 : decode jdk_65_method_101_code 3 = .ok (.arraylength, 1) := by decide +kernel
theorem d6_4 : decode jdk_65_method_101_code 4 = .ok (.istore 4, 2) := by decide +kernel
theorem d6_6 : decode jdk_65_method_101_code 6 = .ok (.iload_n 3, 1) := by decide +kernel
theorem d6_7 : decode jdk_65_method_101_code 7 = .ok (.iload 4, 2) := by decide +kernel
theorem d6_9 : decode jdk_65_method_101_code 9 = .ok (.if_icmp .ge 13, 3) := by decide +kernel
theorem d6_12 : decode jdk_65_method_101_code 12 = .ok (.aload_n 0, 1) := by decide +kernel
theorem d6_13 : decode jdk_65_method_101_code 13 = .ok (.iload_n 3, 1) := by decide +kernel
theorem d6_14 : decode jdk_65_method_101_code 14 = .ok (.lload_n 1, 1) := by decide +kernel
theorem d6_15 : decode jdk_65_method_101_code 15 = .ok (.lastore, 1) := by decide +kernel
theorem d6_16 : decode jdk_65_method_101_code 16 = .ok (.iinc 3 1, 3) := by decide +kernel
theorem d6_19 : decode jdk_65_method_101_code 19 = .ok (.goto (-13), 3) := by decide +kernel
theorem d6_22 : decode jdk_65_method_101_code 22 = .ok (.return_, 1) := by decide +kernel
theorem own_ef6 (m : MethodId) (p0 : Addr) (p1 : Int64) : entryFrame m #[(.ref p0), (.long p1)] 5 = mkF m 0 #[.val (.ref p0), .val (.long p1), .second, .unset, .unset] [] := by first | (simp [entryFrame, mkF, argsToLocals, Value.category]; done) | rfl
theorem own_pn6 : plainName "java/util/Arrays" = true := by first | (simp [plainName, overriddenIn]; done) | decide +kernel
set_option maxRecDepth 65536 in
set_option maxHeartbeats 40000000 in
theorem rm6 (l : Launch) (Z : State) (a0 : Array Value) (hw : ∀ d ∈ tables_1, d.before a0 Z = true) (ws : List Jvm.Cond) (p0 : Addr) (p1 : Int64) (f : Nat → Int64) (h0 : Heap) (n0 : Nat) (V_p0 : own_AJ Z h0 p0 16 f) (g_p0 : n0 ≤ p0) :
    MetFree l (⟨"java/util/Arrays", "fill", "([JJ)V"⟩ : MethodName) (head1 (Jvm.Cond.code (⟨"java/util/Arrays", "fill", "([JJ)V"⟩ : MethodName) jdk_65_method_101_code 5 none :: ws) ({ frames := 0, cells := 0, slots := 0, locals := 0 } : Room)) (fun a U => a = #[(.ref p0), (.long p1)] ∧ Z.Warmed39 U.vm ∧ U.heap = h0) (fun _ _ _ _ _ => True) (fun _ U o U' => ∃ v L, o = .returned v ∧ own_Qf Z p0 p1 h0 n0 v U'.heap L ∧ FrameEnd U o U' L ({ frames := 0, cells := 0, slots := 0, locals := 0 } : Room).cells ({ frames := 0, cells := 0, slots := 0, locals := 0 } : Room).slots) := by
  refine own_contract (plainFor_of_name own_pn6) (fun m => own_ef6 m p0 p1) ?_
  intro p e s m below meth c s₁ G hx hby hml0 hown0 hnm hret hZ X0 e0 hp hR
  have hml : c.maxLocals = 5 := hml0
  have hown : s.vm.findClass "java/util/Arrays" = some m.cls := hown0
  have N0 := Fr.nil n0
  show G s₁ (mkF m 0 #[.val (.ref p0), .val (.long p1), .second, .unset, .unset] [])
  have K0 : Keep h0 h0 [p0] := Keep.refl _ _
  refine hp (fun tq kq => XS.iconst X0.here hx rfl (hb hby d6_0) kq) ?_
  show G s₁ (mkF m 1 #[.val (.ref p0), .val (.long p1), .second, .unset, .unset] [(.int (0 : Int32))])
  refine hp (fun tq kq => XS.istoreN X0.here hx rfl (hb hby d6_1) rfl (l' := #[.val (.ref p0), .val (.long p1), .second, .val (.int (0 : Int32)), .unset]) rfl kq) ?_
  show G s₁ (mkF m 2 #[.val (.ref p0), .val (.long p1), .second, .val (.int (0 : Int32)), .unset] [])
  refine hp (fun tq kq => XS.aloadN X0.here hx rfl (hb hby d6_2) rfl rfl kq) ?_
  show G s₁ (mkF m 3 #[.val (.ref p0), .val (.long p1), .second, .val (.int (0 : Int32)), .unset] [(.ref p0)])
  refine hp (own_lenJ X0 hx hZ e0 V_p0 (16 : Int32) rfl (g := (mkF m 3 #[.val (.ref p0), .val (.long p1), .second, .val (.int (0 : Int32)), .unset] [(.ref p0)])) rfl rfl (hb hby d6_3)) ?_
  show G s₁ (mkF m 4 #[.val (.ref p0), .val (.long p1), .second, .val (.int (0 : Int32)), .unset] [(.int (16 : Int32))])
  refine hp (fun tq kq => XS.istore X0.here hx rfl (hb hby d6_4) rfl (l' := #[.val (.ref p0), .val (.long p1), .second, .val (.int (0 : Int32)), .val (.int (16 : Int32))]) rfl kq) ?_
  show G s₁ (mkF m 6 #[.val (.ref p0), .val (.long p1), .second, .val (.int (0 : Int32)), .val (.int (16 : Int32))] [])
  refine hp (fun tq kq => XS.iloadN X0.here hx rfl (hb hby d6_6) rfl kq) ?_
  show G s₁ (mkF m 7 #[.val (.ref p0), .val (.long p1), .second, .val (.int (0 : Int32)), .val (.int (16 : Int32))] [(.int (0 : Int32))])
  refine hp (fun tq kq => XS.iload X0.here hx rfl (hb hby d6_7) rfl kq) ?_
  show G s₁ (mkF m 9 #[.val (.ref p0), .val (.long p1), .second, .val (.int (0 : Int32)), .val (.int (16 : Int32))] [(.int (16 : Int32)), (.int (0 : Int32))])
  refine hp (fun tq kq => XS.icmpNo X0.here hx rfl (hb hby d6_9) rfl (tlt (by decide)).2.1 kq) ?_
  show G s₁ (mkF m 12 #[.val (.ref p0), .val (.long p1), .second, .val (.int (0 : Int32)), .val (.int (16 : Int32))] [])
  refine hp (fun tq kq => XS.aloadN X0.here hx rfl (hb hby d6_12) rfl rfl kq) ?_
  show G s₁ (mkF m 13 #[.val (.ref p0), .val (.long p1), .second, .val (.int (0 : Int32)), .val (.int (16 : Int32))] [(.ref p0)])
  refine hp (fun tq kq => XS.iloadN X0.here hx rfl (hb hby d6_13) rfl kq) ?_
  show G s₁ (mkF m 14 #[.val (.ref p0), .val (.long p1), .second, .val (.int (0 : Int32)), .val (.int (16 : Int32))] [(.int (0 : Int32)), (.ref p0)])
  refine hp (fun tq kq => XS.lloadN X0.here hx rfl (hb hby d6_14) rfl kq) ?_
  show G s₁ (mkF m 15 #[.val (.ref p0), .val (.long p1), .second, .val (.int (0 : Int32)), .val (.int (16 : Int32))] [(.long p1), (.int (0 : Int32)), (.ref p0)])
  obtain ⟨T1, h1, X1, e1, W1, V1_p0, st1⟩ := own_stJ X0 hx hZ e0 V_p0 (j := (0 : Int32)) 0 (by decide) (by decide) (by decide) (g := (mkF m 15 #[.val (.ref p0), .val (.long p1), .second, .val (.int (0 : Int32)), .val (.int (16 : Int32))] [(.long p1), (.int (0 : Int32)), (.ref p0)])) rfl rfl (hb hby d6_15)
  have K1 := K0.wr W1 (Or.inl (by simp))
  have N1 := Fr.snoc X1 N0 g_p0
  refine hp st1 ?_
  show G T1 (mkF m 16 #[.val (.ref p0), .val (.long p1), .second, .val (.int (0 : Int32)), .val (.int (16 : Int32))] [])
  refine hp (fun tq kq => XS.iinc X1.here hx rfl (hb hby d6_16) rfl (l' := #[.val (.ref p0), .val (.long p1), .second, .val (.int (1 : Int32)), .val (.int (16 : Int32))]) rfl kq) ?_
  show G T1 (mkF m 19 #[.val (.ref p0), .val (.long p1), .second, .val (.int (1 : Int32)), .val (.int (16 : Int32))] [])
  refine hp (fun tq kq => XS.goto X1.here hx rfl (pc0 := 19) (pc' := 6) rfl (hb hby d6_19) (by decide) (by decide) kq) ?_
  show G T1 (mkF m 6 #[.val (.ref p0), .val (.long p1), .second, .val (.int (1 : Int32)), .val (.int (16 : Int32))] [])
  refine hp (fun tq kq => XS.iloadN X1.here hx rfl (hb hby d6_6) rfl kq) ?_
  show G T1 (mkF m 7 #[.val (.ref p0), .val (.long p1), .second, .val (.int (1 : Int32)), .val (.int (16 : Int32))] [(.int (1 : Int32))])
  refine hp (fun tq kq => XS.iload X1.here hx rfl (hb hby d6_7) rfl kq) ?_
  show G T1 (mkF m 9 #[.val (.ref p0), .val (.long p1), .second, .val (.int (1 : Int32)), .val (.int (16 : Int32))] [(.int (16 : Int32)), (.int (1 : Int32))])
  refine hp (fun tq kq => XS.icmpNo X1.here hx rfl (hb hby d6_9) rfl (tlt (by decide)).2.1 kq) ?_
  show G T1 (mkF m 12 #[.val (.ref p0), .val (.long p1), .second, .val (.int (1 : Int32)), .val (.int (16 : Int32))] [])
  refine hp (fun tq kq => XS.aloadN X1.here hx rfl (hb hby d6_12) rfl rfl kq) ?_
  show G T1 (mkF m 13 #[.val (.ref p0), .val (.long p1), .second, .val (.int (1 : Int32)), .val (.int (16 : Int32))] [(.ref p0)])
  refine hp (fun tq kq => XS.iloadN X1.here hx rfl (hb hby d6_13) rfl kq) ?_
  show G T1 (mkF m 14 #[.val (.ref p0), .val (.long p1), .second, .val (.int (1 : Int32)), .val (.int (16 : Int32))] [(.int (1 : Int32)), (.ref p0)])
  refine hp (fun tq kq => XS.lloadN X1.here hx rfl (hb hby d6_14) rfl kq) ?_
  show G T1 (mkF m 15 #[.val (.ref p0), .val (.long p1), .second, .val (.int (1 : Int32)), .val (.int (16 : Int32))] [(.long p1), (.int (1 : Int32)), (.ref p0)])
  obtain ⟨T2, h2, X2, e2, W2, V2_p0, st2⟩ := own_stJ X1 hx hZ e1 V1_p0 (j := (1 : Int32)) 1 (by decide) (by decide) (by decide) (g := (mkF m 15 #[.val (.ref p0), .val (.long p1), .second, .val (.int (1 : Int32)), .val (.int (16 : Int32))] [(.long p1), (.int (1 : Int32)), (.ref p0)])) rfl rfl (hb hby d6_15)
  have K2 := K1.wr W2 (Or.inl (by simp))
  have N2 := Fr.snoc X2 N1 g_p0
  refine hp st2 ?_
  show G T2 (mkF m 16 #[.val (.ref p0), .val (.long p1), .second, .val (.int (1 : Int32)), .val (.int (16 : Int32))] [])
  refine hp (fun tq kq => XS.iinc X2.here hx rfl (hb hby d6_16) rfl (l' := #[.val (.ref p0), .val (.long p1), .second, .val (.int (2 : Int32)), .val (.int (16 : Int32))]) rfl kq) ?_
  show G T2 (mkF m 19 #[.val (.ref p0), .val (.long p1), .second, .val (.int (2 : Int32)), .val (.int (16 : Int32))] [])
  refine hp (fun tq kq => XS.goto X2.here hx rfl (pc0 := 19) (pc' := 6) rfl (hb hby d6_19) (by decide) (by decide) kq) ?_
  show G T2 (mkF m 6 #[.val (.ref p0), .val (.long p1), .second, .val (.int (2 : Int32)), .val (.int (16 : Int32))] [])
  refine hp (fun tq kq => XS.iloadN X2.here hx rfl (hb hby d6_6) rfl kq) ?_
  show G T2 (mkF m 7 #[.val (.ref p0), .val (.long p1), .second, .val (.int (2 : Int32)), .val (.int (16 : Int32))] [(.int (2 : Int32))])
  refine hp (fun tq kq => XS.iload X2.here hx rfl (hb hby d6_7) rfl kq) ?_
  show G T2 (mkF m 9 #[.val (.ref p0), .val (.long p1), .second, .val (.int (2 : Int32)), .val (.int (16 : Int32))] [(.int (16 : Int32)), (.int (2 : Int32))])
  refine hp (fun tq kq => XS.icmpNo X2.here hx rfl (hb hby d6_9) rfl (tlt (by decide)).2.1 kq) ?_
  show G T2 (mkF m 12 #[.val (.ref p0), .val (.long p1), .second, .val (.int (2 : Int32)), .val (.int (16 : Int32))] [])
  refine hp (fun tq kq => XS.aloadN X2.here hx rfl (hb hby d6_12) rfl rfl kq) ?_
  show G T2 (mkF m 13 #[.val (.ref p0), .val (.long p1), .second, .val (.int (2 : Int32)), .val (.int (16 : Int32))] [(.ref p0)])
  refine hp (fun tq kq => XS.iloadN X2.here hx rfl (hb hby d6_13) rfl kq) ?_
  show G T2 (mkF m 14 #[.val (.ref p0), .val (.long p1), .second, .val (.int (2 : Int32)), .val (.int (16 : Int32))] [(.int (2 : Int32)), (.ref p0)])
  refine hp (fun tq kq => XS.lloadN X2.here hx rfl (hb hby d6_14) rfl kq) ?_
  show G T2 (mkF m 15 #[.val (.ref p0), .val (.long p1), .second, .val (.int (2 : Int32)), .val (.int (16 : Int32))] [(.long p1), (.int (2 : Int32)), (.ref p0)])
  obtain ⟨T3, h3, X3, e3, W3, V3_p0, st3⟩ := own_stJ X2 hx hZ e2 V2_p0 (j := (2 : Int32)) 2 (by decide) (by decide) (by decide) (g := (mkF m 15 #[.val (.ref p0), .val (.long p1), .second, .val (.int (2 : Int32)), .val (.int (16 : Int32))] [(.long p1), (.int (2 : Int32)), (.ref p0)])) rfl rfl (hb hby d6_15)
  have K3 := K2.wr W3 (Or.inl (by simp))
  have N3 := Fr.snoc X3 N2 g_p0
  refine hp st3 ?_
  show G T3 (mkF m 16 #[.val (.ref p0), .val (.long p1), .second, .val (.int (2 : Int32)), .val (.int (16 : Int32))] [])
  refine hp (fun tq kq => XS.iinc X3.here hx rfl (hb hby d6_16) rfl (l' := #[.val (.ref p0), .val (.long p1), .second, .val (.int (3 : Int32)), .val (.int (16 : Int32))]) rfl kq) ?_
  show G T3 (mkF m 19 #[.val (.ref p0), .val (.long p1), .second, .val (.int (3 : Int32)), .val (.int (16 : Int32))] [])
  refine hp (fun tq kq => XS.goto X3.here hx rfl (pc0 := 19) (pc' := 6) rfl (hb hby d6_19) (by decide) (by decide) kq) ?_
  show G T3 (mkF m 6 #[.val (.ref p0), .val (.long p1), .second, .val (.int (3 : Int32)), .val (.int (16 : Int32))] [])
  refine hp (fun tq kq => XS.iloadN X3.here hx rfl (hb hby d6_6) rfl kq) ?_
  show G T3 (mkF m 7 #[.val (.ref p0), .val (.long p1), .second, .val (.int (3 : Int32)), .val (.int (16 : Int32))] [(.int (3 : Int32))])
  refine hp (fun tq kq => XS.iload X3.here hx rfl (hb hby d6_7) rfl kq) ?_
  show G T3 (mkF m 9 #[.val (.ref p0), .val (.long p1), .second, .val (.int (3 : Int32)), .val (.int (16 : Int32))] [(.int (16 : Int32)), (.int (3 : Int32))])
  refine hp (fun tq kq => XS.icmpNo X3.here hx rfl (hb hby d6_9) rfl (tlt (by decide)).2.1 kq) ?_
  show G T3 (mkF m 12 #[.val (.ref p0), .val (.long p1), .second, .val (.int (3 : Int32)), .val (.int (16 : Int32))] [])
  refine hp (fun tq kq => XS.aloadN X3.here hx rfl (hb hby d6_12) rfl rfl kq) ?_
  show G T3 (mkF m 13 #[.val (.ref p0), .val (.long p1), .second, .val (.int (3 : Int32)), .val (.int (16 : Int32))] [(.ref p0)])
  refine hp (fun tq kq => XS.iloadN X3.here hx rfl (hb hby d6_13) rfl kq) ?_
  show G T3 (mkF m 14 #[.val (.ref p0), .val (.long p1), .second, .val (.int (3 : Int32)), .val (.int (16 : Int32))] [(.int (3 : Int32)), (.ref p0)])
  refine hp (fun tq kq => XS.lloadN X3.here hx rfl (hb hby d6_14) rfl kq) ?_
  show G T3 (mkF m 15 #[.val (.ref p0), .val (.long p1), .second, .val (.int (3 : Int32)), .val (.int (16 : Int32))] [(.long p1), (.int (3 : Int32)), (.ref p0)])
  obtain ⟨T4, h4, X4, e4, W4, V4_p0, st4⟩ := own_stJ X3 hx hZ e3 V3_p0 (j := (3 : Int32)) 3 (by decide) (by decide) (by decide) (g := (mkF m 15 #[.val (.ref p0), .val (.long p1), .second, .val (.int (3 : Int32)), .val (.int (16 : Int32))] [(.long p1), (.int (3 : Int32)), (.ref p0)])) rfl rfl (hb hby d6_15)
  have K4 := K3.wr W4 (Or.inl (by simp))
  have N4 := Fr.snoc X4 N3 g_p0
  refine hp st4 ?_
  show G T4 (mkF m 16 #[.val (.ref p0), .val (.long p1), .second, .val (.int (3 : Int32)), .val (.int (16 : Int32))] [])
  refine hp (fun tq kq => XS.iinc X4.here hx rfl (hb hby d6_16) rfl (l' := #[.val (.ref p0), .val (.long p1), .second, .val (.int (4 : Int32)), .val (.int (16 : Int32))]) rfl kq) ?_
  show G T4 (mkF m 19 #[.val (.ref p0), .val (.long p1), .second, .val (.int (4 : Int32)), .val (.int (16 : Int32))] [])
  refine hp (fun tq kq => XS.goto X4.here hx rfl (pc0 := 19) (pc' := 6) rfl (hb hby d6_19) (by decide) (by decide) kq) ?_
  show G T4 (mkF m 6 #[.val (.ref p0), .val (.long p1), .second, .val (.int (4 : Int32)), .val (.int (16 : Int32))] [])
  refine hp (fun tq kq => XS.iloadN X4.here hx rfl (hb hby d6_6) rfl kq) ?_
  show G T4 (mkF m 7 #[.val (.ref p0), .val (.long p1), .second, .val (.int (4 : Int32)), .val (.int (16 : Int32))] [(.int (4 : Int32))])
  refine hp (fun tq kq => XS.iload X4.here hx rfl (hb hby d6_7) rfl kq) ?_
  show G T4 (mkF m 9 #[.val (.ref p0), .val (.long p1), .second, .val (.int (4 : Int32)), .val (.int (16 : Int32))] [(.int (16 : Int32)), (.int (4 : Int32))])
  refine hp (fun tq kq => XS.icmpNo X4.here hx rfl (hb hby d6_9) rfl (tlt (by decide)).2.1 kq) ?_
  show G T4 (mkF m 12 #[.val (.ref p0), .val (.long p1), .second, .val (.int (4 : Int32)), .val (.int (16 : Int32))] [])
  refine hp (fun tq kq => XS.aloadN X4.here hx rfl (hb hby d6_12) rfl rfl kq) ?_
  show G T4 (mkF m 13 #[.val (.ref p0), .val (.long p1), .second, .val (.int (4 : Int32)), .val (.int (16 : Int32))] [(.ref p0)])
  refine hp (fun tq kq => XS.iloadN X4.here hx rfl (hb hby d6_13) rfl kq) ?_
  show G T4 (mkF m 14 #[.val (.ref p0), .val (.long p1), .second, .val (.int (4 : Int32)), .val (.int (16 : Int32))] [(.int (4 : Int32)), (.ref p0)])
  refine hp (fun tq kq => XS.lloadN X4.here hx rfl (hb hby d6_14) rfl kq) ?_
  show G T4 (mkF m 15 #[.val (.ref p0), .val (.long p1), .second, .val (.int (4 : Int32)), .val (.int (16 : Int32))] [(.long p1), (.int (4 : Int32)), (.ref p0)])
  obtain ⟨T5, h5, X5, e5, W5, V5_p0, st5⟩ := own_stJ X4 hx hZ e4 V4_p0 (j := (4 : Int32)) 4 (by decide) (by decide) (by decide) (g := (mkF m 15 #[.val (.ref p0), .val (.long p1), .second, .val (.int (4 : Int32)), .val (.int (16 : Int32))] [(.long p1), (.int (4 : Int32)), (.ref p0)])) rfl rfl (hb hby d6_15)
  have K5 := K4.wr W5 (Or.inl (by simp))
  have N5 := Fr.snoc X5 N4 g_p0
  refine hp st5 ?_
  show G T5 (mkF m 16 #[.val (.ref p0), .val (.long p1), .second, .val (.int (4 : Int32)), .val (.int (16 : Int32))] [])
  refine hp (fun tq kq => XS.iinc X5.here hx rfl (hb hby d6_16) rfl (l' := #[.val (.ref p0), .val (.long p1), .second, .val (.int (5 : Int32)), .val (.int (16 : Int32))]) rfl kq) ?_
  show G T5 (mkF m 19 #[.val (.ref p0), .val (.long p1), .second, .val (.int (5 : Int32)), .val (.int (16 : Int32))] [])
  refine hp (fun tq kq => XS.goto X5.here hx rfl (pc0 := 19) (pc' := 6) rfl (hb hby d6_19) (by decide) (by decide) kq) ?_
  show G T5 (mkF m 6 #[.val (.ref p0), .val (.long p1), .second, .val (.int (5 : Int32)), .val (.int (16 : Int32))] [])
  refine hp (fun tq kq => XS.iloadN X5.here hx rfl (hb hby d6_6) rfl kq) ?_
  show G T5 (mkF m 7 #[.val (.ref p0), .val (.long p1), .second, .val (.int (5 : Int32)), .val (.int (16 : Int32))] [(.int (5 : Int32))])
  refine hp (fun tq kq => XS.iload X5.here hx rfl (hb hby d6_7) rfl kq) ?_
  show G T5 (mkF m 9 #[.val (.ref p0), .val (.long p1), .second, .val (.int (5 : Int32)), .val (.int (16 : Int32))] [(.int (16 : Int32)), (.int (5 : Int32))])
  refine hp (fun tq kq => XS.icmpNo X5.here hx rfl (hb hby d6_9) rfl (tlt (by decide)).2.1 kq) ?_
  show G T5 (mkF m 12 #[.val (.ref p0), .val (.long p1), .second, .val (.int (5 : Int32)), .val (.int (16 : Int32))] [])
  refine hp (fun tq kq => XS.aloadN X5.here hx rfl (hb hby d6_12) rfl rfl kq) ?_
  show G T5 (mkF m 13 #[.val (.ref p0), .val (.long p1), .second, .val (.int (5 : Int32)), .val (.int (16 : Int32))] [(.ref p0)])
  refine hp (fun tq kq => XS.iloadN X5.here hx rfl (hb hby d6_13) rfl kq) ?_
  show G T5 (mkF m 14 #[.val (.ref p0), .val (.long p1), .second, .val (.int (5 : Int32)), .val (.int (16 : Int32))] [(.int (5 : Int32)), (.ref p0)])
  refine hp (fun tq kq => XS.lloadN X5.here hx rfl (hb hby d6_14) rfl kq) ?_
  show G T5 (mkF m 15 #[.val (.ref p0), .val (.long p1), .second, .val (.int (5 : Int32)), .val (.int (16 : Int32))] [(.long p1), (.int (5 : Int32)), (.ref p0)])
  obtain ⟨T6, h6, X6, e6, W6, V6_p0, st6⟩ := own_stJ X5 hx hZ e5 V5_p0 (j := (5 : Int32)) 5 (by decide) (by decide) (by decide) (g := (mkF m 15 #[.val (.ref p0), .val (.long p1), .second, .val (.int (5 : Int32)), .val (.int (16 : Int32))] [(.long p1), (.int (5 : Int32)), (.ref p0)])) rfl rfl (hb hby d6_15)
  have K6 := K5.wr W6 (Or.inl (by simp))
  have N6 := Fr.snoc X6 N5 g_p0
  refine hp st6 ?_
  show G T6 (mkF m 16 #[.val (.ref p0), .val (.long p1), .second, .val (.int (5 : Int32)), .val (.int (16 : Int32))] [])
  refine hp (fun tq kq => XS.iinc X6.here hx rfl (hb hby d6_16) rfl (l' := #[.val (.ref p0), .val (.long p1), .second, .val (.int (6 : Int32)), .val (.int (16 : Int32))]) rfl kq) ?_
  show G T6 (mkF m 19 #[.val (.ref p0), .val (.long p1), .second, .val (.int (6 : Int32)), .val (.int (16 : Int32))] [])
  refine hp (fun tq kq => XS.goto X6.here hx rfl (pc0 := 19) (pc' := 6) rfl (hb hby d6_19) (by decide) (by decide) kq) ?_
  show G T6 (mkF m 6 #[.val (.ref p0), .val (.long p1), .second, .val (.int (6 : Int32)), .val (.int (16 : Int32))] [])
  refine hp (fun tq kq => XS.iloadN X6.here hx rfl (hb hby d6_6) rfl kq) ?_
  show G T6 (mkF m 7 #[.val (.ref p0), .val (.long p1), .second, .val (.int (6 : Int32)), .val (.int (16 : Int32))] [(.int (6 : Int32))])
  refine hp (fun tq kq => XS.iload X6.here hx rfl (hb hby d6_7) rfl kq) ?_
  show G T6 (mkF m 9 #[.val (.ref p0), .val (.long p1), .second, .val (.int (6 : Int32)), .val (.int (16 : Int32))] [(.int (16 : Int32)), (.int (6 : Int32))])
  refine hp (fun tq kq => XS.icmpNo X6.here hx rfl (hb hby d6_9) rfl (tlt (by decide)).2.1 kq) ?_
  show G T6 (mkF m 12 #[.val (.ref p0), .val (.long p1), .second, .val (.int (6 : Int32)), .val (.int (16 : Int32))] [])
  refine hp (fun tq kq => XS.aloadN X6.here hx rfl (hb hby d6_12) rfl rfl kq) ?_
  show G T6 (mkF m 13 #[.val (.ref p0), .val (.long p1), .second, .val (.int (6 : Int32)), .val (.int (16 : Int32))] [(.ref p0)])
  refine hp (fun tq kq => XS.iloadN X6.here hx rfl (hb hby d6_13) rfl kq) ?_
  show G T6 (mkF m 14 #[.val (.ref p0), .val (.long p1), .second, .val (.int (6 : Int32)), .val (.int (16 : Int32))] [(.int (6 : Int32)), (.ref p0)])
  refine hp (fun tq kq => XS.lloadN X6.here hx rfl (hb hby d6_14) rfl kq) ?_
  show G T6 (mkF m 15 #[.val (.ref p0), .val (.long p1), .second, .val (.int (6 : Int32)), .val (.int (16 : Int32))] [(.long p1), (.int (6 : Int32)), (.ref p0)])
  obtain ⟨T7, h7, X7, e7, W7, V7_p0, st7⟩ := own_stJ X6 hx hZ e6 V6_p0 (j := (6 : Int32)) 6 (by decide) (by decide) (by decide) (g := (mkF m 15 #[.val (.ref p0), .val (.long p1), .second, .val (.int (6 : Int32)), .val (.int (16 : Int32))] [(.long p1), (.int (6 : Int32)), (.ref p0)])) rfl rfl (hb hby d6_15)
  have K7 := K6.wr W7 (Or.inl (by simp))
  have N7 := Fr.snoc X7 N6 g_p0
  refine hp st7 ?_
  show G T7 (mkF m 16 #[.val (.ref p0), .val (.long p1), .second, .val (.int (6 : Int32)), .val (.int (16 : Int32))] [])
  refine hp (fun tq kq => XS.iinc X7.here hx rfl (hb hby d6_16) rfl (l' := #[.val (.ref p0), .val (.long p1), .second, .val (.int (7 : Int32)), .val (.int (16 : Int32))]) rfl kq) ?_
  show G T7 (mkF m 19 #[.val (.ref p0), .val (.long p1), .second, .val (.int (7 : Int32)), .val (.int (16 : Int32))] [])
  refine hp (fun tq kq => XS.goto X7.here hx rfl (pc0 := 19) (pc' := 6) rfl (hb hby d6_19) (by decide) (by decide) kq) ?_
  show G T7 (mkF m 6 #[.val (.ref p0), .val (.long p1), .second, .val (.int (7 : Int32)), .val (.int (16 : Int32))] [])
  refine hp (fun tq kq => XS.iloadN X7.here hx rfl (hb hby d6_6) rfl kq) ?_
  show G T7 (mkF m 7 #[.val (.ref p0), .val (.long p1), .second, .val (.int (7 : Int32)), .val (.int (16 : Int32))] [(.int (7 : Int32))])
  refine hp (fun tq kq => XS.iload X7.here hx rfl (hb hby d6_7) rfl kq) ?_
  show G T7 (mkF m 9 #[.val (.ref p0), .val (.long p1), .second, .val (.int (7 : Int32)), .val (.int (16 : Int32))] [(.int (16 : Int32)), (.int (7 : Int32))])
  refine hp (fun tq kq => XS.icmpNo X7.here hx rfl (hb hby d6_9) rfl (tlt (by decide)).2.1 kq) ?_
  show G T7 (mkF m 12 #[.val (.ref p0), .val (.long p1), .second, .val (.int (7 : Int32)), .val (.int (16 : Int32))] [])
  refine hp (fun tq kq => XS.aloadN X7.here hx rfl (hb hby d6_12) rfl rfl kq) ?_
  show G T7 (mkF m 13 #[.val (.ref p0), .val (.long p1), .second, .val (.int (7 : Int32)), .val (.int (16 : Int32))] [(.ref p0)])
  refine hp (fun tq kq => XS.iloadN X7.here hx rfl (hb hby d6_13) rfl kq) ?_
  show G T7 (mkF m 14 #[.val (.ref p0), .val (.long p1), .second, .val (.int (7 : Int32)), .val (.int (16 : Int32))] [(.int (7 : Int32)), (.ref p0)])
  refine hp (fun tq kq => XS.lloadN X7.here hx rfl (hb hby d6_14) rfl kq) ?_
  show G T7 (mkF m 15 #[.val (.ref p0), .val (.long p1), .second, .val (.int (7 : Int32)), .val (.int (16 : Int32))] [(.long p1), (.int (7 : Int32)), (.ref p0)])
  obtain ⟨T8, h8, X8, e8, W8, V8_p0, st8⟩ := own_stJ X7 hx hZ e7 V7_p0 (j := (7 : Int32)) 7 (by decide) (by decide) (by decide) (g := (mkF m 15 #[.val (.ref p0), .val (.long p1), .second, .val (.int (7 : Int32)), .val (.int (16 : Int32))] [(.long p1), (.int (7 : Int32)), (.ref p0)])) rfl rfl (hb hby d6_15)
  have K8 := K7.wr W8 (Or.inl (by simp))
  have N8 := Fr.snoc X8 N7 g_p0
  refine hp st8 ?_
  show G T8 (mkF m 16 #[.val (.ref p0), .val (.long p1), .second, .val (.int (7 : Int32)), .val (.int (16 : Int32))] [])
  refine hp (fun tq kq => XS.iinc X8.here hx rfl (hb hby d6_16) rfl (l' := #[.val (.ref p0), .val (.long p1), .second, .val (.int (8 : Int32)), .val (.int (16 : Int32))]) rfl kq) ?_
  show G T8 (mkF m 19 #[.val (.ref p0), .val (.long p1), .second, .val (.int (8 : Int32)), .val (.int (16 : Int32))] [])
  refine hp (fun tq kq => XS.goto X8.here hx rfl (pc0 := 19) (pc' := 6) rfl (hb hby d6_19) (by decide) (by decide) kq) ?_
  show G T8 (mkF m 6 #[.val (.ref p0), .val (.long p1), .second, .val (.int (8 : Int32)), .val (.int (16 : Int32))] [])
  refine hp (fun tq kq => XS.iloadN X8.here hx rfl (hb hby d6_6) rfl kq) ?_
  show G T8 (mkF m 7 #[.val (.ref p0), .val (.long p1), .second, .val (.int (8 : Int32)), .val (.int (16 : Int32))] [(.int (8 : Int32))])
  refine hp (fun tq kq => XS.iload X8.here hx rfl (hb hby d6_7) rfl kq) ?_
  show G T8 (mkF m 9 #[.val (.ref p0), .val (.long p1), .second, .val (.int (8 : Int32)), .val (.int (16 : Int32))] [(.int (16 : Int32)), (.int (8 : Int32))])
  refine hp (fun tq kq => XS.icmpNo X8.here hx rfl (hb hby d6_9) rfl (tlt (by decide)).2.1 kq) ?_
  show G T8 (mkF m 12 #[.val (.ref p0), .val (.long p1), .second, .val (.int (8 : Int32)), .val (.int (16 : Int32))] [])
  refine hp (fun tq kq => XS.aloadN X8.here hx rfl (hb hby d6_12) rfl rfl kq) ?_
  show G T8 (mkF m 13 #[.val (.ref p0), .val (.long p1), .second, .val (.int (8 : Int32)), .val (.int (16 : Int32))] [(.ref p0)])
  refine hp (fun tq kq => XS.iloadN X8.here hx rfl (hb hby d6_13) rfl kq) ?_
  show G T8 (mkF m 14 #[.val (.ref p0), .val (.long p1), .second, .val (.int (8 : Int32)), .val (.int (16 : Int32))] [(.int (8 : Int32)), (.ref p0)])
  refine hp (fun tq kq => XS.lloadN X8.here hx rfl (hb hby d6_14) rfl kq) ?_
  show G T8 (mkF m 15 #[.val (.ref p0), .val (.long p1), .second, .val (.int (8 : Int32)), .val (.int (16 : Int32))] [(.long p1), (.int (8 : Int32)), (.ref p0)])
  obtain ⟨T9, h9, X9, e9, W9, V9_p0, st9⟩ := own_stJ X8 hx hZ e8 V8_p0 (j := (8 : Int32)) 8 (by decide) (by decide) (by decide) (g := (mkF m 15 #[.val (.ref p0), .val (.long p1), .second, .val (.int (8 : Int32)), .val (.int (16 : Int32))] [(.long p1), (.int (8 : Int32)), (.ref p0)])) rfl rfl (hb hby d6_15)
  have K9 := K8.wr W9 (Or.inl (by simp))
  have N9 := Fr.snoc X9 N8 g_p0
  refine hp st9 ?_
  show G T9 (mkF m 16 #[.val (.ref p0), .val (.long p1), .second, .val (.int (8 : Int32)), .val (.int (16 : Int32))] [])
  refine hp (fun tq kq => XS.iinc X9.here hx rfl (hb hby d6_16) rfl (l' := #[.val (.ref p0), .val (.long p1), .second, .val (.int (9 : Int32)), .val (.int (16 : Int32))]) rfl kq) ?_
  show G T9 (mkF m 19 #[.val (.ref p0), .val (.long p1), .second, .val (.int (9 : Int32)), .val (.int (16 : Int32))] [])
  refine hp (fun tq kq => XS.goto X9.here hx rfl (pc0 := 19) (pc' := 6) rfl (hb hby d6_19) (by decide) (by decide) kq) ?_
  show G T9 (mkF m 6 #[.val (.ref p0), .val (.long p1), .second, .val (.int (9 : Int32)), .val (.int (16 : Int32))] [])
  refine hp (fun tq kq => XS.iloadN X9.here hx rfl (hb hby d6_6) rfl kq) ?_
  show G T9 (mkF m 7 #[.val (.ref p0), .val (.long p1), .second, .val (.int (9 : Int32)), .val (.int (16 : Int32))] [(.int (9 : Int32))])
  refine hp (fun tq kq => XS.iload X9.here hx rfl (hb hby d6_7) rfl kq) ?_
  show G T9 (mkF m 9 #[.val (.ref p0), .val (.long p1), .second, .val (.int (9 : Int32)), .val (.int (16 : Int32))] [(.int (16 : Int32)), (.int (9 : Int32))])
  refine hp (fun tq kq => XS.icmpNo X9.here hx rfl (hb hby d6_9) rfl (tlt (by decide)).2.1 kq) ?_
  show G T9 (mkF m 12 #[.val (.ref p0), .val (.long p1), .second, .val (.int (9 : Int32)), .val (.int (16 : Int32))] [])
  refine hp (fun tq kq => XS.aloadN X9.here hx rfl (hb hby d6_12) rfl rfl kq) ?_
  show G T9 (mkF m 13 #[.val (.ref p0), .val (.long p1), .second, .val (.int (9 : Int32)), .val (.int (16 : Int32))] [(.ref p0)])
  refine hp (fun tq kq => XS.iloadN X9.here hx rfl (hb hby d6_13) rfl kq) ?_
  show G T9 (mkF m 14 #[.val (.ref p0), .val (.long p1), .second, .val (.int (9 : Int32)), .val (.int (16 : Int32))] [(.int (9 : Int32)), (.ref p0)])
  refine hp (fun tq kq => XS.lloadN X9.here hx rfl (hb hby d6_14) rfl kq) ?_
  show G T9 (mkF m 15 #[.val (.ref p0), .val (.long p1), .second, .val (.int (9 : Int32)), .val (.int (16 : Int32))] [(.long p1), (.int (9 : Int32)), (.ref p0)])
  obtain ⟨T10, h10, X10, e10, W10, V10_p0, st10⟩ := own_stJ X9 hx hZ e9 V9_p0 (j := (9 : Int32)) 9 (by decide) (by decide) (by decide) (g := (mkF m 15 #[.val (.ref p0), .val (.long p1), .second, .val (.int (9 : Int32)), .val (.int (16 : Int32))] [(.long p1), (.int (9 : Int32)), (.ref p0)])) rfl rfl (hb hby d6_15)
  have K10 := K9.wr W10 (Or.inl (by simp))
  have N10 := Fr.snoc X10 N9 g_p0
  refine hp st10 ?_
  show G T10 (mkF m 16 #[.val (.ref p0), .val (.long p1), .second, .val (.int (9 : Int32)), .val (.int (16 : Int32))] [])
  refine hp (fun tq kq => XS.iinc X10.here hx rfl (hb hby d6_16) rfl (l' := #[.val (.ref p0), .val (.long p1), .second, .val (.int (10 : Int32)), .val (.int (16 : Int32))]) rfl kq) ?_
  show G T10 (mkF m 19 #[.val (.ref p0), .val (.long p1), .second, .val (.int (10 : Int32)), .val (.int (16 : Int32))] [])
  refine hp (fun tq kq => XS.goto X10.here hx rfl (pc0 := 19) (pc' := 6) rfl (hb hby d6_19) (by decide) (by decide) kq) ?_
  show G T10 (mkF m 6 #[.val (.ref p0), .val (.long p1), .second, .val (.int (10 : Int32)), .val (.int (16 : Int32))] [])
  refine hp (fun tq kq => XS.iloadN X10.here hx rfl (hb hby d6_6) rfl kq) ?_
  show G T10 (mkF m 7 #[.val (.ref p0), .val (.long p1), .second, .val (.int (10 : Int32)), .val (.int (16 : Int32))] [(.int (10 : Int32))])
  refine hp (fun tq kq => XS.iload X10.here hx rfl (hb hby d6_7) rfl kq) ?_
  show G T10 (mkF m 9 #[.val (.ref p0), .val (.long p1), .second, .val (.int (10 : Int32)), .val (.int (16 : Int32))] [(.int (16 : Int32)), (.int (10 : Int32))])
  refine hp (fun tq kq => XS.icmpNo X10.here hx rfl (hb hby d6_9) rfl (tlt (by decide)).2.1 kq) ?_
  show G T10 (mkF m 12 #[.val (.ref p0), .val (.long p1), .second, .val (.int (10 : Int32)), .val (.int (16 : Int32))] [])
  refine hp (fun tq kq => XS.aloadN X10.here hx rfl (hb hby d6_12) rfl rfl kq) ?_
  show G T10 (mkF m 13 #[.val (.ref p0), .val (.long p1), .second, .val (.int (10 : Int32)), .val (.int (16 : Int32))] [(.ref p0)])
  refine hp (fun tq kq => XS.iloadN X10.here hx rfl (hb hby d6_13) rfl kq) ?_
  show G T10 (mkF m 14 #[.val (.ref p0), .val (.long p1), .second, .val (.int (10 : Int32)), .val (.int (16 : Int32))] [(.int (10 : Int32)), (.ref p0)])
  refine hp (fun tq kq => XS.lloadN X10.here hx rfl (hb hby d6_14) rfl kq) ?_
  show G T10 (mkF m 15 #[.val (.ref p0), .val (.long p1), .second, .val (.int (10 : Int32)), .val (.int (16 : Int32))] [(.long p1), (.int (10 : Int32)), (.ref p0)])
  obtain ⟨T11, h11, X11, e11, W11, V11_p0, st11⟩ := own_stJ X10 hx hZ e10 V10_p0 (j := (10 : Int32)) 10 (by decide) (by decide) (by decide) (g := (mkF m 15 #[.val (.ref p0), .val (.long p1), .second, .val (.int (10 : Int32)), .val (.int (16 : Int32))] [(.long p1), (.int (10 : Int32)), (.ref p0)])) rfl rfl (hb hby d6_15)
  have K11 := K10.wr W11 (Or.inl (by simp))
  have N11 := Fr.snoc X11 N10 g_p0
  refine hp st11 ?_
  show G T11 (mkF m 16 #[.val (.ref p0), .val (.long p1), .second, .val (.int (10 : Int32)), .val (.int (16 : Int32))] [])
  refine hp (fun tq kq => XS.iinc X11.here hx rfl (hb hby d6_16) rfl (l' := #[.val (.ref p0), .val (.long p1), .second, .val (.int (11 : Int32)), .val (.int (16 : Int32))]) rfl kq) ?_
  show G T11 (mkF m 19 #[.val (.ref p0), .val (.long p1), .second, .val (.int (11 : Int32)), .val (.int (16 : Int32))] [])
  refine hp (fun tq kq => XS.goto X11.here hx rfl (pc0 := 19) (pc' := 6) rfl (hb hby d6_19) (by decide) (by decide) kq) ?_
  show G T11 (mkF m 6 #[.val (.ref p0), .val (.long p1), .second, .val (.int (11 : Int32)), .val (.int (16 : Int32))] [])
  refine hp (fun tq kq => XS.iloadN X11.here hx rfl (hb hby d6_6) rfl kq) ?_
  show G T11 (mkF m 7 #[.val (.ref p0), .val (.long p1), .second, .val (.int (11 : Int32)), .val (.int (16 : Int32))] [(.int (11 : Int32))])
  refine hp (fun tq kq => XS.iload X11.here hx rfl (hb hby d6_7) rfl kq) ?_
  show G T11 (mkF m 9 #[.val (.ref p0), .val (.long p1), .second, .val (.int (11 : Int32)), .val (.int (16 : Int32))] [(.int (16 : Int32)), (.int (11 : Int32))])
  refine hp (fun tq kq => XS.icmpNo X11.here hx rfl (hb hby d6_9) rfl (tlt (by decide)).2.1 kq) ?_
  show G T11 (mkF m 12 #[.val (.ref p0), .val (.long p1), .second, .val (.int (11 : Int32)), .val (.int (16 : Int32))] [])
  refine hp (fun tq kq => XS.aloadN X11.here hx rfl (hb hby d6_12) rfl rfl kq) ?_
  show G T11 (mkF m 13 #[.val (.ref p0), .val (.long p1), .second, .val (.int (11 : Int32)), .val (.int (16 : Int32))] [(.ref p0)])
  refine hp (fun tq kq => XS.iloadN X11.here hx rfl (hb hby d6_13) rfl kq) ?_
  show G T11 (mkF m 14 #[.val (.ref p0), .val (.long p1), .second, .val (.int (11 : Int32)), .val (.int (16 : Int32))] [(.int (11 : Int32)), (.ref p0)])
  refine hp (fun tq kq => XS.lloadN X11.here hx rfl (hb hby d6_14) rfl kq) ?_
  show G T11 (mkF m 15 #[.val (.ref p0), .val (.long p1), .second, .val (.int (11 : Int32)), .val (.int (16 : Int32))] [(.long p1), (.int (11 : Int32)), (.ref p0)])
  obtain ⟨T12, h12, X12, e12, W12, V12_p0, st12⟩ := own_stJ X11 hx hZ e11 V11_p0 (j := (11 : Int32)) 11 (by decide) (by decide) (by decide) (g := (mkF m 15 #[.val (.ref p0), .val (.long p1), .second, .val (.int (11 : Int32)), .val (.int (16 : Int32))] [(.long p1), (.int (11 : Int32)), (.ref p0)])) rfl rfl (hb hby d6_15)
  have K12 := K11.wr W12 (Or.inl (by simp))
  have N12 := Fr.snoc X12 N11 g_p0
  refine hp st12 ?_
  show G T12 (mkF m 16 #[.val (.ref p0), .val (.long p1), .second, .val (.int (11 : Int32)), .val (.int (16 : Int32))] [])
  refine hp (fun tq kq => XS.iinc X12.here hx rfl (hb hby d6_16) rfl (l' := #[.val (.ref p0), .val (.long p1), .second, .val (.int (12 : Int32)), .val (.int (16 : Int32))]) rfl kq) ?_
  show G T12 (mkF m 19 #[.val (.ref p0), .val (.long p1), .second, .val (.int (12 : Int32)), .val (.int (16 : Int32))] [])
  refine hp (fun tq kq => XS.goto X12.here hx rfl (pc0 := 19) (pc' := 6) rfl (hb hby d6_19) (by decide) (by decide) kq) ?_
  show G T12 (mkF m 6 #[.val (.ref p0), .val (.long p1), .second, .val (.int (12 : Int32)), .val (.int (16 : Int32))] [])
  refine hp (fun tq kq => XS.iloadN X12.here hx rfl (hb hby d6_6) rfl kq) ?_
  show G T12 (mkF m 7 #[.val (.ref p0), .val (.long p1), .second, .val (.int (12 : Int32)), .val (.int (16 : Int32))] [(.int (12 : Int32))])
  refine hp (fun tq kq => XS.iload X12.here hx rfl (hb hby d6_7) rfl kq) ?_
  show G T12 (mkF m 9 #[.val (.ref p0), .val (.long p1), .second, .val (.int (12 : Int32)), .val (.int (16 : Int32))] [(.int (16 : Int32)), (.int (12 : Int32))])
  refine hp (fun tq kq => XS.icmpNo X12.here hx rfl (hb hby d6_9) rfl (tlt (by decide)).2.1 kq) ?_
  show G T12 (mkF m 12 #[.val (.ref p0), .val (.long p1), .second, .val (.int (12 : Int32)), .val (.int (16 : Int32))] [])
  refine hp (fun tq kq => XS.aloadN X12.here hx rfl (hb hby d6_12) rfl rfl kq) ?_
  show G T12 (mkF m 13 #[.val (.ref p0), .val (.long p1), .second, .val (.int (12 : Int32)), .val (.int (16 : Int32))] [(.ref p0)])
  refine hp (fun tq kq => XS.iloadN X12.here hx rfl (hb hby d6_13) rfl kq) ?_
  show G T12 (mkF m 14 #[.val (.ref p0), .val (.long p1), .second, .val (.int (12 : Int32)), .val (.int (16 : Int32))] [(.int (12 : Int32)), (.ref p0)])
  refine hp (fun tq kq => XS.lloadN X12.here hx rfl (hb hby d6_14) rfl kq) ?_
  show G T12 (mkF m 15 #[.val (.ref p0), .val (.long p1), .second, .val (.int (12 : Int32)), .val (.int (16 : Int32))] [(.long p1), (.int (12 : Int32)), (.ref p0)])
  obtain ⟨T13, h13, X13, e13, W13, V13_p0, st13⟩ := own_stJ X12 hx hZ e12 V12_p0 (j := (12 : Int32)) 12 (by decide) (by decide) (by decide) (g := (mkF m 15 #[.val (.ref p0), .val (.long p1), .second, .val (.int (12 : Int32)), .val (.int (16 : Int32))] [(.long p1), (.int (12 : Int32)), (.ref p0)])) rfl rfl (hb hby d6_15)
  have K13 := K12.wr W13 (Or.inl (by simp))
  have N13 := Fr.snoc X13 N12 g_p0
  refine hp st13 ?_
  show G T13 (mkF m 16 #[.val (.ref p0), .val (.long p1), .second, .val (.int (12 : Int32)), .val (.int (16 : Int32))] [])
  refine hp (fun tq kq => XS.iinc X13.here hx rfl (hb hby d6_16) rfl (l' := #[.val (.ref p0), .val (.long p1), .second, .val (.int (13 : Int32)), .val (.int (16 : Int32))]) rfl kq) ?_
  show G T13 (mkF m 19 #[.val (.ref p0), .val (.long p1), .second, .val (.int (13 : Int32)), .val (.int (16 : Int32))] [])
  refine hp (fun tq kq => XS.goto X13.here hx rfl (pc0 := 19) (pc' := 6) rfl (hb hby d6_19) (by decide) (by decide) kq) ?_
  show G T13 (mkF m 6 #[.val (.ref p0), .val (.long p1), .second, .val (.int (13 : Int32)), .val (.int (16 : Int32))] [])
  refine hp (fun tq kq => XS.iloadN X13.here hx rfl (hb hby d6_6) rfl kq) ?_
  show G T13 (mkF m 7 #[.val (.ref p0), .val (.long p1), .second, .val (.int (13 : Int32)), .val (.int (16 : Int32))] [(.int (13 : Int32))])
  refine hp (fun tq kq => XS.iload X13.here hx rfl (hb hby d6_7) rfl kq) ?_
  show G T13 (mkF m 9 #[.val (.ref p0), .val (.long p1), .second, .val (.int (13 : Int32)), .val (.int (16 : Int32))] [(.int (16 : Int32)), (.int (13 : Int32))])
  refine hp (fun tq kq => XS.icmpNo X13.here hx rfl (hb hby d6_9) rfl (tlt (by decide)).2.1 kq) ?_
  show G T13 (mkF m 12 #[.val (.ref p0), .val (.long p1), .second, .val (.int (13 : Int32)), .val (.int (16 : Int32))] [])
  refine hp (fun tq kq => XS.aloadN X13.here hx rfl (hb hby d6_12) rfl rfl kq) ?_
  show G T13 (mkF m 13 #[.val (.ref p0), .val (.long p1), .second, .val (.int (13 : Int32)), .val (.int (16 : Int32))] [(.ref p0)])
  refine hp (fun tq kq => XS.iloadN X13.here hx rfl (hb hby d6_13) rfl kq) ?_
  show G T13 (mkF m 14 #[.val (.ref p0), .val (.long p1), .second, .val (.int (13 : Int32)), .val (.int (16 : Int32))] [(.int (13 : Int32)), (.ref p0)])
  refine hp (fun tq kq => XS.lloadN X13.here hx rfl (hb hby d6_14) rfl kq) ?_
  show G T13 (mkF m 15 #[.val (.ref p0), .val (.long p1), .second, .val (.int (13 : Int32)), .val (.int (16 : Int32))] [(.long p1), (.int (13 : Int32)), (.ref p0)])
  obtain ⟨T14, h14, X14, e14, W14, V14_p0, st14⟩ := own_stJ X13 hx hZ e13 V13_p0 (j := (13 : Int32)) 13 (by decide) (by decide) (by decide) (g := (mkF m 15 #[.val (.ref p0), .val (.long p1), .second, .val (.int (13 : Int32)), .val (.int (16 : Int32))] [(.long p1), (.int (13 : Int32)), (.ref p0)])) rfl rfl (hb hby d6_15)
  have K14 := K13.wr W14 (Or.inl (by simp))
  have N14 := Fr.snoc X14 N13 g_p0
  refine hp st14 ?_
  show G T14 (mkF m 16 #[.val (.ref p0), .val (.long p1), .second, .val (.int (13 : Int32)), .val (.int (16 : Int32))] [])
  refine hp (fun tq kq => XS.iinc X14.here hx rfl (hb hby d6_16) rfl (l' := #[.val (.ref p0), .val (.long p1), .second, .val (.int (14 : Int32)), .val (.int (16 : Int32))]) rfl kq) ?_
  show G T14 (mkF m 19 #[.val (.ref p0), .val (.long p1), .second, .val (.int (14 : Int32)), .val (.int (16 : Int32))] [])
  refine hp (fun tq kq => XS.goto X14.here hx rfl (pc0 := 19) (pc' := 6) rfl (hb hby d6_19) (by decide) (by decide) kq) ?_
  show G T14 (mkF m 6 #[.val (.ref p0), .val (.long p1), .second, .val (.int (14 : Int32)), .val (.int (16 : Int32))] [])
  refine hp (fun tq kq => XS.iloadN X14.here hx rfl (hb hby d6_6) rfl kq) ?_
  show G T14 (mkF m 7 #[.val (.ref p0), .val (.long p1), .second, .val (.int (14 : Int32)), .val (.int (16 : Int32))] [(.int (14 : Int32))])
  refine hp (fun tq kq => XS.iload X14.here hx rfl (hb hby d6_7) rfl kq) ?_
  show G T14 (mkF m 9 #[.val (.ref p0), .val (.long p1), .second, .val (.int (14 : Int32)), .val (.int (16 : Int32))] [(.int (16 : Int32)), (.int (14 : Int32))])
  refine hp (fun tq kq => XS.icmpNo X14.here hx rfl (hb hby d6_9) rfl (tlt (by decide)).2.1 kq) ?_
  show G T14 (mkF m 12 #[.val (.ref p0), .val (.long p1), .second, .val (.int (14 : Int32)), .val (.int (16 : Int32))] [])
  refine hp (fun tq kq => XS.aloadN X14.here hx rfl (hb hby d6_12) rfl rfl kq) ?_
  show G T14 (mkF m 13 #[.val (.ref p0), .val (.long p1), .second, .val (.int (14 : Int32)), .val (.int (16 : Int32))] [(.ref p0)])
  refine hp (fun tq kq => XS.iloadN X14.here hx rfl (hb hby d6_13) rfl kq) ?_
  show G T14 (mkF m 14 #[.val (.ref p0), .val (.long p1), .second, .val (.int (14 : Int32)), .val (.int (16 : Int32))] [(.int (14 : Int32)), (.ref p0)])
  refine hp (fun tq kq => XS.lloadN X14.here hx rfl (hb hby d6_14) rfl kq) ?_
  show G T14 (mkF m 15 #[.val (.ref p0), .val (.long p1), .second, .val (.int (14 : Int32)), .val (.int (16 : Int32))] [(.long p1), (.int (14 : Int32)), (.ref p0)])
  obtain ⟨T15, h15, X15, e15, W15, V15_p0, st15⟩ := own_stJ X14 hx hZ e14 V14_p0 (j := (14 : Int32)) 14 (by decide) (by decide) (by decide) (g := (mkF m 15 #[.val (.ref p0), .val (.long p1), .second, .val (.int (14 : Int32)), .val (.int (16 : Int32))] [(.long p1), (.int (14 : Int32)), (.ref p0)])) rfl rfl (hb hby d6_15)
  have K15 := K14.wr W15 (Or.inl (by simp))
  have N15 := Fr.snoc X15 N14 g_p0
  refine hp st15 ?_
  show G T15 (mkF m 16 #[.val (.ref p0), .val (.long p1), .second, .val (.int (14 : Int32)), .val (.int (16 : Int32))] [])
  refine hp (fun tq kq => XS.iinc X15.here hx rfl (hb hby d6_16) rfl (l' := #[.val (.ref p0), .val (.long p1), .second, .val (.int (15 : Int32)), .val (.int (16 : Int32))]) rfl kq) ?_
  show G T15 (mkF m 19 #[.val (.ref p0), .val (.long p1), .second, .val (.int (15 : Int32)), .val (.int (16 : Int32))] [])
  refine hp (fun tq kq => XS.goto X15.here hx rfl (pc0 := 19) (pc' := 6) rfl (hb hby d6_19) (by decide) (by decide) kq) ?_
  show G T15 (mkF m 6 #[.val (.ref p0), .val (.long p1), .second, .val (.int (15 : Int32)), .val (.int (16 : Int32))] [])
  refine hp (fun tq kq => XS.iloadN X15.here hx rfl (hb hby d6_6) rfl kq) ?_
  show G T15 (mkF m 7 #[.val (.ref p0), .val (.long p1), .second, .val (.int (15 : Int32)), .val (.int (16 : Int32))] [(.int (15 : Int32))])
  refine hp (fun tq kq => XS.iload X15.here hx rfl (hb hby d6_7) rfl kq) ?_
  show G T15 (mkF m 9 #[.val (.ref p0), .val (.long p1), .second, .val (.int (15 : Int32)), .val (.int (16 : Int32))] [(.int (16 : Int32)), (.int (15 : Int32))])
  refine hp (fun tq kq => XS.icmpNo X15.here hx rfl (hb hby d6_9) rfl (tlt (by decide)).2.1 kq) ?_
  show G T15 (mkF m 12 #[.val (.ref p0), .val (.long p1), .second, .val (.int (15 : Int32)), .val (.int (16 : Int32))] [])
  refine hp (fun tq kq => XS.aloadN X15.here hx rfl (hb hby d6_12) rfl rfl kq) ?_
  show G T15 (mkF m 13 #[.val (.ref p0), .val (.long p1), .second, .val (.int (15 : Int32)), .val (.int (16 : Int32))] [(.ref p0)])
  refine hp (fun tq kq => XS.iloadN X15.here hx rfl (hb hby d6_13) rfl kq) ?_
  show G T15 (mkF m 14 #[.val (.ref p0), .val (.long p1), .second, .val (.int (15 : Int32)), .val (.int (16 : Int32))] [(.int (15 : Int32)), (.ref p0)])
  refine hp (fun tq kq => XS.lloadN X15.here hx rfl (hb hby d6_14) rfl kq) ?_
  show G T15 (mkF m 15 #[.val (.ref p0), .val (.long p1), .second, .val (.int (15 : Int32)), .val (.int (16 : Int32))] [(.long p1), (.int (15 : Int32)), (.ref p0)])
  obtain ⟨T16, h16, X16, e16, W16, V16_p0, st16⟩ := own_stJ X15 hx hZ e15 V15_p0 (j := (15 : Int32)) 15 (by decide) (by decide) (by decide) (g := (mkF m 15 #[.val (.ref p0), .val (.long p1), .second, .val (.int (15 : Int32)), .val (.int (16 : Int32))] [(.long p1), (.int (15 : Int32)), (.ref p0)])) rfl rfl (hb hby d6_15)
  have K16 := K15.wr W16 (Or.inl (by simp))
  have N16 := Fr.snoc X16 N15 g_p0
  refine hp st16 ?_
  show G T16 (mkF m 16 #[.val (.ref p0), .val (.long p1), .second, .val (.int (15 : Int32)), .val (.int (16 : Int32))] [])
  refine hp (fun tq kq => XS.iinc X16.here hx rfl (hb hby d6_16) rfl (l' := #[.val (.ref p0), .val (.long p1), .second, .val (.int (16 : Int32)), .val (.int (16 : Int32))]) rfl kq) ?_
  show G T16 (mkF m 19 #[.val (.ref p0), .val (.long p1), .second, .val (.int (16 : Int32)), .val (.int (16 : Int32))] [])
  refine hp (fun tq kq => XS.goto X16.here hx rfl (pc0 := 19) (pc' := 6) rfl (hb hby d6_19) (by decide) (by decide) kq) ?_
  show G T16 (mkF m 6 #[.val (.ref p0), .val (.long p1), .second, .val (.int (16 : Int32)), .val (.int (16 : Int32))] [])
  refine hp (fun tq kq => XS.iloadN X16.here hx rfl (hb hby d6_6) rfl kq) ?_
  show G T16 (mkF m 7 #[.val (.ref p0), .val (.long p1), .second, .val (.int (16 : Int32)), .val (.int (16 : Int32))] [(.int (16 : Int32))])
  refine hp (fun tq kq => XS.iload X16.here hx rfl (hb hby d6_7) rfl kq) ?_
  show G T16 (mkF m 9 #[.val (.ref p0), .val (.long p1), .second, .val (.int (16 : Int32)), .val (.int (16 : Int32))] [(.int (16 : Int32)), (.int (16 : Int32))])
  refine hp (fun tq kq => XS.icmpYes X16.here hx rfl (pc0 := 9) (pc' := 22) rfl (hb hby d6_9) rfl (flt (by decide)).2.1 (by decide) (by decide) kq) ?_
  show G T16 (mkF m 22 #[.val (.ref p0), .val (.long p1), .second, .val (.int (16 : Int32)), .val (.int (16 : Int32))] [])
  exact hR X16 (fun fs hl => X16.returnOut hx hret (hb hby d6_22) hl) (fun _ => rfl) (by rw [e16]; exact ⟨rfl, N16, K16, V16_p0.cong (own_filled f p1)⟩) (by decide) (by decide)
theorem d5_0 : decode prog_74_method_11_code 0 = .ok (.aload_n 0, 1) := by decide +kernel
theorem d5_1 : decode prog_74_method_11_code 1 = .ok (.getfield 7, 3) := by decide +kernel
theorem d5_4 : decode prog_74_method_11_code 4 = .ok (.astore_n 2, 1) := by decide +kernel
theorem d5_5 : decode prog_74_method_11_code 5 = .ok (.aload_n 0, 1) := by decide +kernel
theorem d5_6 : decode prog_74_method_11_code 6 = .ok (.getfield 13, 3) := by decide +kernel
theorem d5_9 : decode prog_74_method_11_code 9 = .ok (.astore_n 3, 1) := by decide +kernel
theorem d5_10 : decode prog_74_method_11_code 10 = .ok (.aload_n 0, 1) := by decide +kernel
theorem d5_11 : decode prog_74_method_11_code 11 = .ok (.iload_n 1, 1) := by decide +kernel
theorem d5_12 : decode prog_74_method_11_code 12 = .ok (.newarray .long, 2) := by decide +kernel
theorem d5_14 : decode prog_74_method_11_code 14 = .ok (.putfield 7, 3) := by decide +kernel
theorem d5_17 : decode prog_74_method_11_code 17 = .ok (.aload_n 0, 1) := by decide +kernel
theorem d5_18 : decode prog_74_method_11_code 18 = .ok (.iload_n 1, 1) := by decide +kernel
theorem d5_19 : decode prog_74_method_11_code 19 = .ok (.newarray .int, 2) := by decide +kernel
theorem d5_21 : decode prog_74_method_11_code 21 = .ok (.putfield 13, 3) := by decide +kernel
theorem d5_24 : decode prog_74_method_11_code 24 = .ok (.aload_n 0, 1) := by decide +kernel
theorem d5_25 : decode prog_74_method_11_code 25 = .ok (.getfield 7, 3) := by decide +kernel
theorem d5_28 : decode prog_74_method_11_code 28 = .ok (.ldc2_w 29, 3) := by decide +kernel
theorem d5_31 : decode prog_74_method_11_code 31 = .ok (.invokestatic 56, 3) := by decide +kernel
theorem d5_34 : decode prog_74_method_11_code 34 = .ok (.iconst 0, 1) := by decide +kernel
theorem d5_35 : decode prog_74_method_11_code 35 = .ok (.istore 4, 2) := by decide +kernel
theorem d5_37 : decode prog_74_method_11_code 37 = .ok (.iload 4, 2) := by decide +kernel
theorem d5_39 : decode prog_74_method_11_code 39 = .ok (.aload_n 2, 1) := by decide +kernel
theorem d5_40 : decode prog_74_method_11_code 40 = .ok (.arraylength, 1) := by decide +kernel
theorem d5_41 : decode prog_74_method_11_code 41 = .ok (.if_icmp .ge 33, 3) := by decide +kernel
theorem d5_44 : decode prog_74_method_11_code 44 = .ok (.aload_n 2, 1) := by decide +kernel
theorem d5_45 : decode prog_74_method_11_code 45 = .ok (.iload 4, 2) := by decide +kernel
theorem d5_47 : decode prog_74_method_11_code 47 = .ok (.laload, 1) := by decide +kernel
theorem d5_48 : decode prog_74_method_11_code 48 = .ok (.ldc2_w 29, 3) := by decide +kernel
theorem d5_51 : decode prog_74_method_11_code 51 = .ok (.lcmp, 1) := by decide +kernel
theorem d5_52 : decode prog_74_method_11_code 52 = .ok (.ifCond .eq 16, 3) := by decide +kernel
theorem d5_55 : decode prog_74_method_11_code 55 = .ok (.aload_n 0, 1) := by decide +kernel
theorem d5_56 : decode prog_74_method_11_code 56 = .ok (.aload_n 2, 1) := by decide +kernel
theorem d5_57 : decode prog_74_method_11_code 57 = .ok (.iload 4, 2) := by decide +kernel
theorem d5_59 : decode prog_74_method_11_code 59 = .ok (.laload, 1) := by decide +kernel
theorem d5_60 : decode prog_74_method_11_code 60 = .ok (.aload_n 3, 1) := by decide +kernel
theorem d5_61 : decode prog_74_method_11_code 61 = .ok (.iload 4, 2) := by decide +kernel
theorem d5_63 : decode prog_74_method_11_code 63 = .ok (.iaload, 1) := by decide +kernel
theorem d5_64 : decode prog_74_method_11_code 64 = .ok (.invokevirtual 50, 3) := by decide +kernel
theorem d5_67 : decode prog_74_method_11_code 67 = .ok (.pop, 1) := by decide +kernel
theorem d5_68 : decode prog_74_method_11_code 68 = .ok (.iinc 4 1, 3) := by decide +kernel
theorem d5_71 : decode prog_74_method_11_code 71 = .ok (.goto (-34), 3) := by decide +kernel
theorem d5_74 : decode prog_74_method_11_code 74 = .ok (.return_, 1) := by decide +kernel
theorem own_ef5 (m : MethodId) (p0 : Addr) (p1 : Int32) : entryFrame m #[(.ref p0), (.int p1)] 5 = mkF m 0 #[.val (.ref p0), .val (.int p1), .unset, .unset, .unset] [] := by first | (simp [entryFrame, mkF, argsToLocals, Value.category]; done) | rfl
abbrev own_Qr (Z : State) (p0 : Addr) (sz : Int32) (h0 : Heap) (n0 : Nat) (v : Option Value) (h : Heap) (L : List Loc) : Prop := ∃ ka va : Addr, v = none ∧ Fr n0 L ∧ Keep h0 h [p0] ∧ Exa Z h p0 "com/example/referent/referent/solver/IntPairMap" ∧ Fld Z h p0 "com/example/referent/referent/solver/IntPairMap" "keys" "[J" (.ref ka) ∧ Fld Z h p0 "com/example/referent/referent/solver/IntPairMap" "values" "[I" (.ref va) ∧ Fld Z h p0 "com/example/referent/referent/solver/IntPairMap" "size" "I" (.int sz) ∧ own_AJ Z h ka 16 (fun _ => (-1 : Int64)) ∧ own_AI Z h va .int 16 (fun _ => (0 : Int32)) ∧ ka ≠ va ∧ h0.size ≤ ka ∧ h0.size ≤ va
theorem own_pn5 : plainName "com/example/referent/referent/solver/IntPairMap" = true := by first | (simp [plainName, overriddenIn]; done) | decide +kernel
set_option maxRecDepth 65536 in
set_option maxHeartbeats 40000000 in
theorem rm5 (l : Launch) (Z : State) (a0 : Array Value) (hw : ∀ d ∈ tables_1, d.before a0 Z = true) (ws : List Jvm.Cond) (p0 : Addr) (p1 : Int32) (ka va : Addr) (sz : Int32) (h0 : Heap) (n0 : Nat) (Z0 : n0 ≤ h0.size) (h16 : p1 = (16 : Int32)) (E_p0 : Exa Z h0 p0 "com/example/referent/referent/solver/IntPairMap") (F_keys : Fld Z h0 p0 "com/example/referent/referent/solver/IntPairMap" "keys" "[J" (.ref ka)) (F_values : Fld Z h0 p0 "com/example/referent/referent/solver/IntPairMap" "values" "[I" (.ref va)) (F_size : Fld Z h0 p0 "com/example/referent/referent/solver/IntPairMap" "size" "I" (.int sz)) (V_ka : own_AJ Z h0 ka 0 (fun _ => (0 : Int64))) (g_p0 : n0 ≤ p0) (nka : p0 ≠ ka) (nva : p0 ≠ va) :
    MetFree l (⟨"com/example/referent/referent/solver/IntPairMap", "resize", "(I)V"⟩ : MethodName) (head1 (Jvm.Cond.code (⟨"com/example/referent/referent/solver/IntPairMap", "resize", "(I)V"⟩ : MethodName) prog_74_method_11_code 5 none :: ws) ({ frames := 1, cells := 2, slots := 32, locals := 16 } : Room)) (fun a U => a = #[(.ref p0), (.int p1)] ∧ Z.Warmed39 U.vm ∧ U.heap = h0) (fun _ _ _ _ _ => True) (fun _ U o U' => ∃ v L, o = .returned v ∧ own_Qr Z p0 sz h0 n0 v U'.heap L ∧ FrameEnd U o U' L ({ frames := 1, cells := 2, slots := 32, locals := 16 } : Room).cells ({ frames := 1, cells := 2, slots := 32, locals := 16 } : Room).slots) := by
  refine own_contract (plainFor_of_name own_pn5) (fun m => own_ef5 m p0 p1) ?_
  intro p e s m below meth c s₁ G hx hby hml0 hown0 hnm hret hZ X0 e0 hp hR
  have hml : c.maxLocals = 5 := hml0
  have hown : s.vm.findClass "com/example/referent/referent/solver/IntPairMap" = some m.cls := hown0
  have N0 := Fr.nil n0
  show G s₁ (mkF m 0 #[.val (.ref p0), .val (.int p1), .unset, .unset, .unset] [])
  have K0 : Keep h0 h0 [p0] := Keep.refl _ _
  subst h16
  show G s₁ (mkF m 0 #[.val (.ref p0), .val (.int (16 : Int32)), .unset, .unset, .unset] [])
  refine hp (fun tq kq => XS.aloadN X0.here hx rfl (hb hby d5_0) rfl rfl kq) ?_
  show G s₁ (mkF m 1 #[.val (.ref p0), .val (.int (16 : Int32)), .unset, .unset, .unset] [(.ref p0)])
  obtain ⟨T1, X1, e1, st1⟩ := getF X0 hx hZ hown (host := "") (Or.inl (hw _ (List.mem_of_getElem? (i := 11) rfl))) Via.refl e0 F_keys (g := (mkF m 1 #[.val (.ref p0), .val (.int (16 : Int32)), .unset, .unset, .unset] [(.ref p0)])) rfl rfl (hb hby d5_1)
  refine hp st1 ?_
  show G T1 (mkF m 4 #[.val (.ref p0), .val (.int (16 : Int32)), .unset, .unset, .unset] [(.ref ka)])
  refine hp (fun tq kq => XS.astoreN X1.here hx rfl (hb hby d5_4) rfl rfl (l' := #[.val (.ref p0), .val (.int (16 : Int32)), .val (.ref ka), .unset, .unset]) rfl kq) ?_
  show G T1 (mkF m 5 #[.val (.ref p0), .val (.int (16 : Int32)), .val (.ref ka), .unset, .unset] [])
  refine hp (fun tq kq => XS.aloadN X1.here hx rfl (hb hby d5_5) rfl rfl kq) ?_
  show G T1 (mkF m 6 #[.val (.ref p0), .val (.int (16 : Int32)), .val (.ref ka), .unset, .unset] [(.ref p0)])
  obtain ⟨T2, X2, e2, st2⟩ := getF X1 hx hZ hown (host := "") (Or.inl (hw _ (List.mem_of_getElem? (i := 14) rfl))) Via.refl e1 F_values (g := (mkF m 6 #[.val (.ref p0), .val (.int (16 : Int32)), .val (.ref ka), .unset, .unset] [(.ref p0)])) rfl rfl (hb hby d5_6)
  refine hp st2 ?_
  show G T2 (mkF m 9 #[.val (.ref p0), .val (.int (16 : Int32)), .val (.ref ka), .unset, .unset] [(.ref va)])
  refine hp (fun tq kq => XS.astoreN X2.here hx rfl (hb hby d5_9) rfl rfl (l' := #[.val (.ref p0), .val (.int (16 : Int32)), .val (.ref ka), .val (.ref va), .unset]) rfl kq) ?_
  show G T2 (mkF m 10 #[.val (.ref p0), .val (.int (16 : Int32)), .val (.ref ka), .val (.ref va), .unset] [])
  refine hp (fun tq kq => XS.aloadN X2.here hx rfl (hb hby d5_10) rfl rfl kq) ?_
  show G T2 (mkF m 11 #[.val (.ref p0), .val (.int (16 : Int32)), .val (.ref ka), .val (.ref va), .unset] [(.ref p0)])
  refine hp (fun tq kq => XS.iloadN X2.here hx rfl (hb hby d5_11) rfl kq) ?_
  show G T2 (mkF m 12 #[.val (.ref p0), .val (.int (16 : Int32)), .val (.ref ka), .val (.ref va), .unset] [(.int (16 : Int32)), (.ref p0)])
  obtain ⟨T3, h3, k3, X3, e3, E3, A3, st3⟩ := newP X2 hx hZ (hw _ (List.mem_of_getElem? (i := 10) rfl)) e2 (g := (mkF m 12 #[.val (.ref p0), .val (.int (16 : Int32)), .val (.ref ka), .val (.ref va), .unset] [(.int (16 : Int32)), (.ref p0)])) rfl (hb hby d5_12) rfl (by decide) (cap := 16) (by decide) (by decide) (by decide) (by decide)
  obtain ⟨b3, g3⟩ : ∃ z, z = h0.size := ⟨_, rfl⟩
  rw [← g3] at A3 st3
  have ne3_ka : ka ≠ b3 := Nat.ne_of_lt (Nat.lt_of_lt_of_le V_ka.lt (Nat.le_of_eq g3.symm))
  have ne3_p0 : p0 ≠ b3 := Nat.ne_of_lt (Nat.lt_of_lt_of_le E_p0.lt (Nat.le_of_eq g3.symm))
  have sz_b3 : h0.size ≤ b3 := Nat.le_trans K0.1 (Nat.le_of_eq g3.symm)
  have g_b3 : n0 ≤ b3 := Nat.le_trans Z0 sz_b3
  have V3_ka := V_ka.ext E3
  have E3_p0 := Exa.ext E3 E_p0
  have F3_keys_p0 := Fld.ext E3 F_keys
  have F3_values_p0 := Fld.ext E3 F_values
  have F3_size_p0 := Fld.ext E3 F_size
  have K3 := K0.ext E3
  have V3_b3 := own_AJ.new A3 (by decide) 16 (by decide)
  refine hp st3 ?_
  show G T3 (mkF m 14 #[.val (.ref p0), .val (.int (16 : Int32)), .val (.ref ka), .val (.ref va), .unset] [(.ref b3), (.ref p0)])
  obtain ⟨T4, h4, X4, e4, W4, st4⟩ := putF X3 hx hZ hown (host := "") (Or.inl (hw _ (List.mem_of_getElem? (i := 11) rfl))) Via.refl e3 F3_keys_p0 E3_p0 (Or.inl (hw _ (List.mem_of_getElem? (i := 12) rfl))) (hw _ (List.mem_of_getElem? (i := 2) rfl)) (ty := (.array .long)) (by decide) rfl rfl (g := (mkF m 14 #[.val (.ref p0), .val (.int (16 : Int32)), .val (.ref ka), .val (.ref va), .unset] [(.ref b3), (.ref p0)])) rfl rfl (hb hby d5_14)
  have F4_keys_p0 := Fld.same W4 F3_keys_p0
  have V4_ka := V3_ka.other W4 (Ne.symm nka)
  have V4_b3 := V3_b3.other W4 (Ne.symm ne3_p0)
  have E4_p0 := Exa.wr W4 E3_p0
  have F4_values_p0 := Fld.other W4 F3_values_p0 (Or.inr (slot_ne (Or.inl (hw _ (List.mem_of_getElem? (i := 15) rfl))) (Or.inl (hw _ (List.mem_of_getElem? (i := 12) rfl))) (by decide) (t := (.array .int)) (t' := (.array .long)) (by decide) (by decide)))
  have F4_size_p0 := Fld.other W4 F3_size_p0 (Or.inr (slot_ne (Or.inl (hw _ (List.mem_of_getElem? (i := 22) rfl))) (Or.inl (hw _ (List.mem_of_getElem? (i := 12) rfl))) (by decide) (t := .int) (t' := (.array .long)) (by decide) (by decide)))
  have K4 := K3.wr W4 (Or.inl (by simp))
  have N4 := Fr.snoc X4 N0 g_p0
  refine hp st4 ?_
  show G T4 (mkF m 17 #[.val (.ref p0), .val (.int (16 : Int32)), .val (.ref ka), .val (.ref va), .unset] [])
  refine hp (fun tq kq => XS.aloadN X4.here hx rfl (hb hby d5_17) rfl rfl kq) ?_
  show G T4 (mkF m 18 #[.val (.ref p0), .val (.int (16 : Int32)), .val (.ref ka), .val (.ref va), .unset] [(.ref p0)])
  refine hp (fun tq kq => XS.iloadN X4.here hx rfl (hb hby d5_18) rfl kq) ?_
  show G T4 (mkF m 19 #[.val (.ref p0), .val (.int (16 : Int32)), .val (.ref ka), .val (.ref va), .unset] [(.int (16 : Int32)), (.ref p0)])
  obtain ⟨T5, h5, k5, X5, e5, E5, A5, st5⟩ := newP X4 hx hZ (hw _ (List.mem_of_getElem? (i := 13) rfl)) e4 (g := (mkF m 19 #[.val (.ref p0), .val (.int (16 : Int32)), .val (.ref ka), .val (.ref va), .unset] [(.int (16 : Int32)), (.ref p0)])) rfl (hb hby d5_19) rfl (by decide) (cap := 16) (by decide) (by decide) (by decide) (by decide)
  obtain ⟨b5, g5⟩ : ∃ z, z = h4.size := ⟨_, rfl⟩
  rw [← g5] at A5 st5
  have ne5_ka : ka ≠ b5 := Nat.ne_of_lt (Nat.lt_of_lt_of_le V4_ka.lt (Nat.le_of_eq g5.symm))
  have ne5_b3 : b3 ≠ b5 := Nat.ne_of_lt (Nat.lt_of_lt_of_le V4_b3.lt (Nat.le_of_eq g5.symm))
  have ne5_p0 : p0 ≠ b5 := Nat.ne_of_lt (Nat.lt_of_lt_of_le E4_p0.lt (Nat.le_of_eq g5.symm))
  have sz_b5 : h0.size ≤ b5 := Nat.le_trans K4.1 (Nat.le_of_eq g5.symm)
  have g_b5 : n0 ≤ b5 := Nat.le_trans Z0 sz_b5
  have V5_ka := V4_ka.ext E5
  have V5_b3 := V4_b3.ext E5
  have E5_p0 := Exa.ext E5 E4_p0
  have F5_keys_p0 := Fld.ext E5 F4_keys_p0
  have F5_values_p0 := Fld.ext E5 F4_values_p0
  have F5_size_p0 := Fld.ext E5 F4_size_p0
  have K5 := K4.ext E5
  have V5_b5 : own_AI Z h5 b5 .int 16 (fun _ => 0) := own_AI.new A5 (by decide) rfl 16 (by decide)
  refine hp st5 ?_
  show G T5 (mkF m 21 #[.val (.ref p0), .val (.int (16 : Int32)), .val (.ref ka), .val (.ref va), .unset] [(.ref b5), (.ref p0)])
  obtain ⟨T6, h6, X6, e6, W6, st6⟩ := putF X5 hx hZ hown (host := "") (Or.inl (hw _ (List.mem_of_getElem? (i := 14) rfl))) Via.refl e5 F5_values_p0 E5_p0 (Or.inl (hw _ (List.mem_of_getElem? (i := 15) rfl))) (hw _ (List.mem_of_getElem? (i := 2) rfl)) (ty := (.array .int)) (by decide) rfl rfl (g := (mkF m 21 #[.val (.ref p0), .val (.int (16 : Int32)), .val (.ref ka), .val (.ref va), .unset] [(.ref b5), (.ref p0)])) rfl rfl (hb hby d5_21)
  have F6_values_p0 := Fld.same W6 F5_values_p0
  have V6_ka := V5_ka.other W6 (Ne.symm nka)
  have V6_b3 := V5_b3.other W6 (Ne.symm ne3_p0)
  have V6_b5 := V5_b5.other W6 (Ne.symm ne5_p0)
  have E6_p0 := Exa.wr W6 E5_p0
  have F6_keys_p0 := Fld.other W6 F5_keys_p0 (Or.inr (slot_ne (Or.inl (hw _ (List.mem_of_getElem? (i := 12) rfl))) (Or.inl (hw _ (List.mem_of_getElem? (i := 15) rfl))) (by decide) (t := (.array .long)) (t' := (.array .int)) (by decide) (by decide)))
  have F6_size_p0 := Fld.other W6 F5_size_p0 (Or.inr (slot_ne (Or.inl (hw _ (List.mem_of_getElem? (i := 22) rfl))) (Or.inl (hw _ (List.mem_of_getElem? (i := 15) rfl))) (by decide) (t := .int) (t' := (.array .int)) (by decide) (by decide)))
  have K6 := K5.wr W6 (Or.inl (by simp))
  have N6 := Fr.snoc X6 N4 g_p0
  refine hp st6 ?_
  show G T6 (mkF m 24 #[.val (.ref p0), .val (.int (16 : Int32)), .val (.ref ka), .val (.ref va), .unset] [])
  refine hp (fun tq kq => XS.aloadN X6.here hx rfl (hb hby d5_24) rfl rfl kq) ?_
  show G T6 (mkF m 25 #[.val (.ref p0), .val (.int (16 : Int32)), .val (.ref ka), .val (.ref va), .unset] [(.ref p0)])
  obtain ⟨T7, X7, e7, st7⟩ := getF X6 hx hZ hown (host := "") (Or.inl (hw _ (List.mem_of_getElem? (i := 11) rfl))) Via.refl e6 F6_keys_p0 (g := (mkF m 25 #[.val (.ref p0), .val (.int (16 : Int32)), .val (.ref ka), .val (.ref va), .unset] [(.ref p0)])) rfl rfl (hb hby d5_25)
  refine hp st7 ?_
  show G T7 (mkF m 28 #[.val (.ref p0), .val (.int (16 : Int32)), .val (.ref ka), .val (.ref va), .unset] [(.ref b3)])
  refine hp (fun tq kq => X7.ldc2Long hx hown (mvT hZ (hw _ (List.mem_of_getElem? (i := 31) rfl))) (g := (mkF m 28 #[.val (.ref p0), .val (.int (16 : Int32)), .val (.ref ka), .val (.ref va), .unset] [(.ref b3)])) rfl (hb hby d5_28) _ kq) ?_
  show G T7 (mkF m 31 #[.val (.ref p0), .val (.int (16 : Int32)), .val (.ref ka), .val (.ref va), .unset] [(.long (-1 : Int64)), (.ref b3)])
  obtain ⟨v8, T8, L8, X8, hQ8, st8⟩ := own_callS X7 hx hZ (y := (⟨"java/util/Arrays", "fill", "([JJ)V"⟩ : MethodName)) (rm := ({ frames := 0, cells := 0, slots := 0, locals := 0 } : Room)) 0 hown (hw _ (List.mem_of_getElem? (i := 32) rfl)) (hw _ (List.mem_of_getElem? (i := 33) rfl)) (hw _ (List.mem_of_getElem? (i := 34) rfl)) (hw _ (List.mem_of_getElem? (i := 35) rfl)) (by decide) (rm6 l Z a0 hw [] b3 (-1 : Int64) (fun _ => (0 : Int64)) h6 n0 V6_b3 g_b3) e7 (by decide) (by decide) (g := (mkF m 31 #[.val (.ref p0), .val (.int (16 : Int32)), .val (.ref ka), .val (.ref va), .unset] [(.long (-1 : Int64)), (.ref b3)])) rfl (by rw [hml]; rfl) [(.ref b3), (.long (-1 : Int64))] [] own_pd0 rfl rfl (by show 2 * 0 + _ ≤ _; exact Nat.le_of_eq rfl) (hb hby d5_31) rfl (by decide) (by decide)
  obtain ⟨rfl, N8, Kc8, V8_b3⟩ := hQ8
  have N8b := Fr.app N6 N8
  have V8_ka := V6_ka.keep Kc8 (ninS ne3_ka nin0)
  have V8_b5 := V6_b5.keep Kc8 (ninS (Ne.symm ne5_b3) nin0)
  have E8_p0 := E6_p0.keep Kc8
  have F8_keys_p0 := F6_keys_p0.keep Kc8 (ninS ne3_p0 nin0)
  have F8_values_p0 := F6_values_p0.keep Kc8 (ninS ne3_p0 nin0)
  have F8_size_p0 := F6_size_p0.keep Kc8 (ninS ne3_p0 nin0)
  have K8 := K6.trans Kc8 (allS (Or.inr sz_b3) all0)
  refine hp st8 ?_
  show G T8 (mkF m 34 #[.val (.ref p0), .val (.int (16 : Int32)), .val (.ref ka), .val (.ref va), .unset] [])
  refine hp (fun tq kq => XS.iconst X8.here hx rfl (hb hby d5_34) kq) ?_
  show G T8 (mkF m 35 #[.val (.ref p0), .val (.int (16 : Int32)), .val (.ref ka), .val (.ref va), .unset] [(.int (0 : Int32))])
  refine hp (fun tq kq => XS.istore X8.here hx rfl (hb hby d5_35) rfl (l' := #[.val (.ref p0), .val (.int (16 : Int32)), .val (.ref ka), .val (.ref va), .val (.int (0 : Int32))]) rfl kq) ?_
  show G T8 (mkF m 37 #[.val (.ref p0), .val (.int (16 : Int32)), .val (.ref ka), .val (.ref va), .val (.int (0 : Int32))] [])
  refine hp (fun tq kq => XS.iload X8.here hx rfl (hb hby d5_37) rfl kq) ?_
  show G T8 (mkF m 39 #[.val (.ref p0), .val (.int (16 : Int32)), .val (.ref ka), .val (.ref va), .val (.int (0 : Int32))] [(.int (0 : Int32))])
  refine hp (fun tq kq => XS.aloadN X8.here hx rfl (hb hby d5_39) rfl rfl kq) ?_
  show G T8 (mkF m 40 #[.val (.ref p0), .val (.int (16 : Int32)), .val (.ref ka), .val (.ref va), .val (.int (0 : Int32))] [(.ref ka), (.int (0 : Int32))])
  refine hp (own_lenJ X8 hx hZ rfl V8_ka (0 : Int32) rfl (g := (mkF m 40 #[.val (.ref p0), .val (.int (16 : Int32)), .val (.ref ka), .val (.ref va), .val (.int (0 : Int32))] [(.ref ka), (.int (0 : Int32))])) rfl rfl (hb hby d5_40)) ?_
  show G T8 (mkF m 41 #[.val (.ref p0), .val (.int (16 : Int32)), .val (.ref ka), .val (.ref va), .val (.int (0 : Int32))] [(.int (0 : Int32)), (.int (0 : Int32))])
  refine hp (fun tq kq => XS.icmpYes X8.here hx rfl (pc0 := 41) (pc' := 74) rfl (hb hby d5_41) rfl (flt (by decide)).2.1 (by decide) (by decide) kq) ?_
  show G T8 (mkF m 74 #[.val (.ref p0), .val (.int (16 : Int32)), .val (.ref ka), .val (.ref va), .val (.int (0 : Int32))] [])
  exact hR X8 (fun fs hl => X8.returnOut hx hret (hb hby d5_74) hl) (fun _ => rfl) ⟨b3, b5, rfl, N8b, K8, E8_p0, F8_keys_p0, F8_values_p0, F8_size_p0, V8_b3, V8_b5, ne5_b3, sz_b3, sz_b5⟩ (by decide) (by decide)
/-- where the search for a key begins -/
def own_h (k : Int64) : Nat := (own_hash k (15 : Int32)).toNatClampNeg
theorem own_h_ok (k : Int64) : ¬ own_hash k (15 : Int32) < 0 ∧ own_h k < 16 := by
  have e : (15 : Int32).toInt = 15 := by decide
  have e0 : (0 : Int32).toInt = 0 := by decide
  have q : ∃ x : Int32, own_hash k (15 : Int32) = x &&& 15 := ⟨_, rfl⟩
  obtain ⟨x, hx⟩ := q
  have h := c_and x 15 (by decide)
  rw [← hx, e] at h
  unfold own_h
  rw [Int32.lt_iff_toInt_lt, e0, Int32.toNatClampNeg]
  omega
/-- j is the first place, from the key's own on, that is free or holds the key -/
def own_probe (fk : Nat → Int64) (k : Int64) (j : Nat) : Prop := ∃ t, j = (own_h k + t) % 16 ∧ ∀ t', t' < t → ¬ fk ((own_h k + t') % 16) = (-1 : Int64) ∧ ¬ fk ((own_h k + t') % 16) = k
def own_rel (fk : Nat → Int64) (fv : Nat → Int32) (k : Int64) (x : Int32) (fk' : Nat → Int64) (fv' : Nat → Int32) (rv : Int32) : Prop :=
  ∃ j, j < 16 ∧ own_probe fk k j ∧ ((rv = 1 ∧ fk j = (-1 : Int64) ∧ fk' = own_up fk j k ∧ fv' = own_up fv j x) ∨ (rv = 0 ∧ fk j = k ∧ ¬ fk j = (-1 : Int64) ∧ fk' = fk ∧ fv' = own_up fv j x))
def own_pinv (fk : Nat → Int64) (k : Int64) (t d te : Nat) (iv : Int32) : Prop := t + d = te ∧ iv.toNatClampNeg = (own_h k + t) % 16 ∧ ¬ iv < 0 ∧ ∀ t', t' < t → ¬ fk ((own_h k + t') % 16) = (-1 : Int64) ∧ ¬ fk ((own_h k + t') % 16) = k
theorem own_step16 {iv : Int32} {a t : Nat} (h1 : iv.toNatClampNeg = (a + t) % 16) (h2 : ¬ iv < 0) : ((iv + (1 : Int32)) &&& (15 : Int32)).toNatClampNeg = (a + (t + 1)) % 16 ∧ ¬ ((iv + (1 : Int32)) &&& (15 : Int32)) < 0 := by
  have a1 := nat_of h2
  have a2 := c_iadd iv 1
  have e : (1 : Int32).toInt = 1 := by decide
  have e0 : (0 : Int32).toInt = 0 := by decide
  have r := rng32 (iv + 1)
  have m := c_mask (iv + 1) 15 4 (by decide) (by decide)
  rw [Int32.lt_iff_toInt_lt, e0, Int32.toNatClampNeg, m]
  rw [h1] at a1
  rw [a1, e] at a2
  generalize (iv + 1).toInt = y at *
  omega
section Probe
variable {fk : Nat → Int64} {fv : Nat → Int32} {k : Int64} {x iv : Int32} {t d te : Nat}
theorem own_pstart (fk : Nat → Int64) (k : Int64) (te : Nat) : own_pinv fk k 0 te te (own_hash k (15 : Int32)) :=
  ⟨by omega, by rw [Nat.add_zero, Nat.mod_eq_of_lt (own_h_ok k).2]; rfl, (own_h_ok k).1, fun t' h => absurd h (Nat.not_lt_zero _)⟩
theorem own_pend (hte : fk ((own_h k + te) % 16) = (-1 : Int64)) (hI : own_pinv fk k t 0 te iv) : fk ((own_h k + t) % 16) = (-1 : Int64) := by
  have : t = te := by have := hI.1; omega
  rw [this]; exact hte
theorem own_pnext (hI : own_pinv fk k t (d + 1) te iv) (h1 : ¬ fk ((own_h k + t) % 16) = (-1 : Int64)) (h2 : ¬ fk ((own_h k + t) % 16) = k) : own_pinv fk k (t + 1) d te ((iv + (1 : Int32)) &&& (15 : Int32)) := by
  obtain ⟨a, b, c, e⟩ := hI
  refine ⟨by omega, (own_step16 b c).1, (own_step16 b c).2, fun t' ht => ?_⟩
  by_cases q : t' = t
  · rw [q]; exact ⟨h1, h2⟩
  · exact e t' (by omega)
theorem own_rel1 (hI : own_pinv fk k t d te iv) (h : fk ((own_h k + t) % 16) = (-1 : Int64)) : own_rel fk fv k x (own_up fk ((own_h k + t) % 16) k) (own_up fv ((own_h k + t) % 16) x) 1 :=
  ⟨_, Nat.mod_lt _ (by decide), ⟨t, rfl, hI.2.2.2⟩, Or.inl ⟨rfl, h, rfl, rfl⟩⟩
theorem own_rel0 (hI : own_pinv fk k t d te iv) (h1 : ¬ fk ((own_h k + t) % 16) = (-1 : Int64)) (h2 : fk ((own_h k + t) % 16) = k) : own_rel fk fv k x fk (own_up fv ((own_h k + t) % 16) x) 0 :=
  ⟨_, Nat.mod_lt _ (by decide), ⟨t, rfl, hI.2.2.2⟩, Or.inr ⟨rfl, h2, h1, rfl, rfl⟩⟩
end Probe
def own_ginv (k : Int64) (t d tj : Nat) (iv : Int32) : Prop := t + d = tj ∧ iv.toNatClampNeg = (own_h k + t) % 16 ∧ ¬ iv < 0
section Get
variable {fk : Nat → Int64} {fv : Nat → Int32} {k : Int64} {iv : Int32} {t d tj : Nat}
theorem own_gstart (k : Int64) (tj : Nat) : own_ginv k 0 tj tj (own_hash k (15 : Int32)) := ⟨by omega, by rw [Nat.add_zero, Nat.mod_eq_of_lt (own_h_ok k).2]; rfl, (own_h_ok k).1⟩
theorem own_gnext (hI : own_ginv k t (d + 1) tj iv) : own_ginv k (t + 1) d tj ((iv + (1 : Int32)) &&& (15 : Int32)) := ⟨by have := hI.1; omega, own_step16 hI.2.1 hI.2.2⟩
theorem own_ghit (htj : fk ((own_h k + tj) % 16) = k) (hI : own_ginv k t 0 tj iv) : fk ((own_h k + t) % 16) = k := by
  have : t = tj := by have := hI.1; omega
  rw [this]; exact htj
theorem own_gnot (hne : ¬ k = (-1 : Int64)) (htj : fk ((own_h k + tj) % 16) = k) (hI : own_ginv k t 0 tj iv) : ¬ fk ((own_h k + t) % 16) = (-1 : Int64) := by rw [own_ghit htj hI]; exact hne
theorem own_gbef (hbef : ∀ t, t < tj → ¬ fk ((own_h k + t) % 16) = (-1 : Int64) ∧ ¬ fk ((own_h k + t) % 16) = k) (hI : own_ginv k t (d + 1) tj iv) : ¬ fk ((own_h k + t) % 16) = (-1 : Int64) ∧ ¬ fk ((own_h k + t) % 16) = k := hbef t (by have := hI.1; omega)
theorem own_gval (hI : own_ginv k t 0 tj iv) : some (Value.int (fv ((own_h k + t) % 16))) = some (Value.int (fv ((own_h k + tj) % 16))) := by
  have : t = tj := by have := hI.1; omega
  rw [this]
end Get

theorem d8_0 : decode prog_74_method_10_code 0 = .ok (.aload_n 0, 1) := by decide +kernel
theorem d8_1 : decode prog_74_method_10_code 1 = .ok (.getfield 7, 3) := by decide +kernel
theorem d8_4 : decode prog_74_method_10_code 4 = .ok (.arraylength, 1) := by decide +kernel
theorem d8_5 : decode prog_74_method_10_code 5 = .ok (.iconst 1, 1) := by decide +kernel
theorem d8_6 : decode prog_74_method_10_code 6 = .ok (.isub, 1) := by decide +kernel
theorem d8_7 : decode prog_74_method_10_code 7 = .ok (.istore 4, 2) := by decide +kernel
theorem d8_9 : decode prog_74_method_10_code 9 = .ok (.lload_n 1, 1) := by decide +kernel
theorem d8_10 : decode prog_74_method_10_code 10 = .ok (.iload 4, 2) := by decide +kernel
theorem d8_12 : decode prog_74_method_10_code 12 = .ok (.invokestatic 25, 3) := by decide +kernel
theorem d8_15 : decode prog_74_method_10_code 15 = .ok (.istore 5, 2) := by decide +kernel
theorem d8_17 : decode prog_74_method_10_code 17 = .ok (.aload_n 0, 1) := by decide +kernel
theorem d8_18 : decode prog_74_method_10_code 18 = .ok (.getfield 7, 3) := by decide +kernel
theorem d8_21 : decode prog_74_method_10_code 21 = .ok (.iload 5, 2) := by decide +kernel
theorem d8_23 : decode prog_74_method_10_code 23 = .ok (.laload, 1) := by decide +kernel
theorem d8_24 : decode prog_74_method_10_code 24 = .ok (.ldc2_w 29, 3) := by decide +kernel
theorem d8_27 : decode prog_74_method_10_code 27 = .ok (.lcmp, 1) := by decide +kernel
theorem d8_28 : decode prog_74_method_10_code 28 = .ok (.ifCond .eq 37, 3) := by decide +kernel
theorem d8_31 : decode prog_74_method_10_code 31 = .ok (.aload_n 0, 1) := by decide +kernel
theorem d8_32 : decode prog_74_method_10_code 32 = .ok (.getfield 7, 3) := by decide +kernel
theorem d8_35 : decode prog_74_method_10_code 35 = .ok (.iload 5, 2) := by decide +kernel
theorem d8_37 : decode prog_74_method_10_code 37 = .ok (.laload, 1) := by decide +kernel
theorem d8_38 : decode prog_74_method_10_code 38 = .ok (.lload_n 1, 1) := by decide +kernel
theorem d8_39 : decode prog_74_method_10_code 39 = .ok (.lcmp, 1) := by decide +kernel
theorem d8_40 : decode prog_74_method_10_code 40 = .ok (.ifCond .ne 13, 3) := by decide +kernel
theorem d8_43 : decode prog_74_method_10_code 43 = .ok (.aload_n 0, 1) := by decide +kernel
theorem d8_44 : decode prog_74_method_10_code 44 = .ok (.getfield 13, 3) := by decide +kernel
theorem d8_47 : decode prog_74_method_10_code 47 = .ok (.iload 5, 2) := by decide +kernel
theorem d8_49 : decode prog_74_method_10_code 49 = .ok (.iload_n 3, 1) := by decide +kernel
theorem d8_50 : decode prog_74_method_10_code 50 = .ok (.iastore, 1) := by decide +kernel
theorem d8_51 : decode prog_74_method_10_code 51 = .ok (.iconst 0, 1) := by decide +kernel
theorem d8_52 : decode prog_74_method_10_code 52 = .ok (.ireturn, 1) := by decide +kernel
theorem d8_53 : decode prog_74_method_10_code 53 = .ok (.iload 5, 2) := by decide +kernel
theorem d8_55 : decode prog_74_method_10_code 55 = .ok (.iconst 1, 1) := by decide +kernel
theorem d8_56 : decode prog_74_method_10_code 56 = .ok (.iadd, 1) := by decide +kernel
theorem d8_57 : decode prog_74_method_10_code 57 = .ok (.iload 4, 2) := by decide +kernel
theorem d8_59 : decode prog_74_method_10_code 59 = .ok (.iand, 1) := by decide +kernel
theorem d8_60 : decode prog_74_method_10_code 60 = .ok (.istore 5, 2) := by decide +kernel
theorem d8_62 : decode prog_74_method_10_code 62 = .ok (.goto (-45), 3) := by decide +kernel
theorem d8_65 : decode prog_74_method_10_code 65 = .ok (.aload_n 0, 1) := by decide +kernel
theorem d8_66 : decode prog_74_method_10_code 66 = .ok (.getfield 7, 3) := by decide +kernel
theorem d8_69 : decode prog_74_method_10_code 69 = .ok (.iload 5, 2) := by decide +kernel
theorem d8_71 : decode prog_74_method_10_code 71 = .ok (.lload_n 1, 1) := by decide +kernel
theorem d8_72 : decode prog_74_method_10_code 72 = .ok (.lastore, 1) := by decide +kernel
theorem d8_73 : decode prog_74_method_10_code 73 = .ok (.aload_n 0, 1) := by decide +kernel
theorem d8_74 : decode prog_74_method_10_code 74 = .ok (.getfield 13, 3) := by decide +kernel
theorem d8_77 : decode prog_74_method_10_code 77 = .ok (.iload 5, 2) := by decide +kernel
theorem d8_79 : decode prog_74_method_10_code 79 = .ok (.iload_n 3, 1) := by decide +kernel
theorem d8_80 : decode prog_74_method_10_code 80 = .ok (.iastore, 1) := by decide +kernel
theorem d8_81 : decode prog_74_method_10_code 81 = .ok (.iconst 1, 1) := by decide +kernel
theorem d8_82 : decode prog_74_method_10_code 82 = .ok (.ireturn, 1) := by decide +kernel
theorem own_ef8 (m : MethodId) (p0 : Addr) (p1 : Int64) (p2 : Int32) : entryFrame m #[(.ref p0), (.long p1), (.int p2)] 6 = mkF m 0 #[.val (.ref p0), .val (.long p1), .second, .val (.int p2), .unset, .unset] [] := by first | (simp [entryFrame, mkF, argsToLocals, Value.category]; done) | rfl
abbrev own_Qp (Z : State) (kA vA : Addr) (fk : Nat → Int64) (fv : Nat → Int32) (p1 : Int64) (p2 : Int32) (h0 : Heap) (n0 : Nat) (v : Option Value) (h : Heap) (L : List Loc) : Prop := ∃ (rv : Int32) (fk' : Nat → Int64) (fv' : Nat → Int32), v = some (.int rv) ∧ Fr n0 L ∧ Keep h0 h [kA, vA] ∧ own_AJ Z h kA 16 fk' ∧ own_AI Z h vA .int 16 fv' ∧ own_rel fk fv p1 p2 fk' fv' rv
theorem own_pn8 : plainName "com/example/referent/referent/solver/IntPairMap" = true := by first | (simp [plainName, overriddenIn]; done) | decide +kernel
set_option maxRecDepth 65536 in
set_option maxHeartbeats 40000000 in
theorem rm8 (l : Launch) (Z : State) (a0 : Array Value) (hw : ∀ d ∈ tables_1, d.before a0 Z = true) (ws : List Jvm.Cond) (p0 : Addr) (p1 : Int64) (p2 : Int32) (kA vA : Addr) (fk : Nat → Int64) (fv : Nat → Int32) (i0 : Nat) (te : Nat) (h0 : Heap) (n0 : Nat) (F_k : Fld Z h0 p0 "com/example/referent/referent/solver/IntPairMap" "keys" "[J" (.ref kA)) (F_v : Fld Z h0 p0 "com/example/referent/referent/solver/IntPairMap" "values" "[I" (.ref vA)) (V_k : own_AJ Z h0 kA 16 fk) (V_v : own_AI Z h0 vA .int 16 fv) (hi : i0 < 16) (hte : fk ((own_h p1 + te) % 16) = (-1 : Int64)) (g_k : n0 ≤ kA) (g_v : n0 ≤ vA) (nkv : kA ≠ vA) (npk : p0 ≠ kA) (npv : p0 ≠ vA) :
    MetFree l (⟨"com/example/referent/referent/solver/IntPairMap", "place", "(JI)Z"⟩ : MethodName) (head1 (Jvm.Cond.code (⟨"com/example/referent/referent/solver/IntPairMap", "place", "(JI)Z"⟩ : MethodName) prog_74_method_10_code 6 (some .boolean) :: ws) ({ frames := 1, cells := 0, slots := 0, locals := 16 } : Room)) (fun a U => a = #[(.ref p0), (.long p1), (.int p2)] ∧ Z.Warmed39 U.vm ∧ U.heap = h0) (fun _ _ _ _ _ => True) (fun _ U o U' => ∃ v L, o = .returned v ∧ own_Qp Z kA vA fk fv p1 p2 h0 n0 v U'.heap L ∧ FrameEnd U o U' L ({ frames := 1, cells := 0, slots := 0, locals := 16 } : Room).cells ({ frames := 1, cells := 0, slots := 0, locals := 16 } : Room).slots) := by
  refine own_contract (plainFor_of_name own_pn8) (fun m => own_ef8 m p0 p1 p2) ?_
  intro p e s m below meth c s₁ G hx hby hml0 hown0 hnm hret hZ X0 e0 hp hR
  have hml : c.maxLocals = 6 := hml0
  have hown : s.vm.findClass "com/example/referent/referent/solver/IntPairMap" = some m.cls := hown0
  have N0 := Fr.nil n0
  show G s₁ (mkF m 0 #[.val (.ref p0), .val (.long p1), .second, .val (.int p2), .unset, .unset] [])
  have K0 : Keep h0 h0 [kA, vA] := Keep.refl _ _
  refine hp (fun tq kq => XS.aloadN X0.here hx rfl (hb hby d8_0) rfl rfl kq) ?_
  show G s₁ (mkF m 1 #[.val (.ref p0), .val (.long p1), .second, .val (.int p2), .unset, .unset] [(.ref p0)])
  obtain ⟨T1, X1, e1, st1⟩ := getF X0 hx hZ hown (host := "") (Or.inl (hw _ (List.mem_of_getElem? (i := 11) rfl))) Via.refl e0 F_k (g := (mkF m 1 #[.val (.ref p0), .val (.long p1), .second, .val (.int p2), .unset, .unset] [(.ref p0)])) rfl rfl (hb hby d8_1)
  refine hp st1 ?_
  show G T1 (mkF m 4 #[.val (.ref p0), .val (.long p1), .second, .val (.int p2), .unset, .unset] [(.ref kA)])
  refine hp (own_lenJ X1 hx hZ e1 V_k (16 : Int32) rfl (g := (mkF m 4 #[.val (.ref p0), .val (.long p1), .second, .val (.int p2), .unset, .unset] [(.ref kA)])) rfl rfl (hb hby d8_4)) ?_
  show G T1 (mkF m 5 #[.val (.ref p0), .val (.long p1), .second, .val (.int p2), .unset, .unset] [(.int (16 : Int32))])
  refine hp (fun tq kq => XS.iconst X1.here hx rfl (hb hby d8_5) kq) ?_
  show G T1 (mkF m 6 #[.val (.ref p0), .val (.long p1), .second, .val (.int p2), .unset, .unset] [(.int (1 : Int32)), (.int (16 : Int32))])
  refine hp (fun tq kq => XS.isub X1.here hx rfl (hb hby d8_6) rfl kq) ?_
  show G T1 (mkF m 7 #[.val (.ref p0), .val (.long p1), .second, .val (.int p2), .unset, .unset] [(.int (15 : Int32))])
  refine hp (fun tq kq => XS.istore X1.here hx rfl (hb hby d8_7) rfl (l' := #[.val (.ref p0), .val (.long p1), .second, .val (.int p2), .val (.int (15 : Int32)), .unset]) rfl kq) ?_
  show G T1 (mkF m 9 #[.val (.ref p0), .val (.long p1), .second, .val (.int p2), .val (.int (15 : Int32)), .unset] [])
  refine hp (fun tq kq => XS.lloadN X1.here hx rfl (hb hby d8_9) rfl kq) ?_
  show G T1 (mkF m 10 #[.val (.ref p0), .val (.long p1), .second, .val (.int p2), .val (.int (15 : Int32)), .unset] [(.long p1)])
  refine hp (fun tq kq => XS.iload X1.here hx rfl (hb hby d8_10) rfl kq) ?_
  show G T1 (mkF m 12 #[.val (.ref p0), .val (.long p1), .second, .val (.int p2), .val (.int (15 : Int32)), .unset] [(.int (15 : Int32)), (.long p1)])
  obtain ⟨v2, T2, L2, X2, hQ2, st2⟩ := own_callS X1 hx hZ (y := (⟨"com/example/referent/referent/solver/IntPairMap", "slot", "(JI)I"⟩ : MethodName)) (rm := ({ frames := 0, cells := 0, slots := 0, locals := 0 } : Room)) 0 hown (hw _ (List.mem_of_getElem? (i := 43) rfl)) (hw _ (List.mem_of_getElem? (i := 44) rfl)) (hw _ (List.mem_of_getElem? (i := 3) rfl)) (hw _ (List.mem_of_getElem? (i := 45) rfl)) (by decide) (rm9 l Z a0 hw [] p1 (15 : Int32) h0 n0) e1 (by decide) (by decide) (g := (mkF m 12 #[.val (.ref p0), .val (.long p1), .second, .val (.int p2), .val (.int (15 : Int32)), .unset] [(.int (15 : Int32)), (.long p1)])) rfl (by rw [hml]; rfl) [(.long p1), (.int (15 : Int32))] [] own_pd1 rfl rfl (by show 2 * 0 + _ ≤ _; exact Nat.le_of_eq rfl) (hb hby d8_12) rfl (by decide) (by decide)
  obtain ⟨rfl, N2, e2⟩ := hQ2
  have F2 := Fr.app N0 N2
  refine hp st2 ?_
  show G T2 (mkF m 15 #[.val (.ref p0), .val (.long p1), .second, .val (.int p2), .val (.int (15 : Int32)), .unset] [(.int (own_hash p1 (15 : Int32)))])
  refine hp (fun tq kq => XS.istore X2.here hx rfl (hb hby d8_15) rfl (l' := #[.val (.ref p0), .val (.long p1), .second, .val (.int p2), .val (.int (15 : Int32)), .val (.int (own_hash p1 (15 : Int32)))]) rfl kq) ?_
  show G T2 (mkF m 17 #[.val (.ref p0), .val (.long p1), .second, .val (.int p2), .val (.int (15 : Int32)), .val (.int (own_hash p1 (15 : Int32)))] [])
  have loop : ∀ (d t : Nat) (T9 : State) (locs9 : List Loc) (c9 s9 : Nat) (iv : Int32), Stand p l e ({ frames := 1, cells := 0, slots := 0, locals := 16 } : Room) s m #[(.ref p0), (.long p1), (.int p2)] below meth c T9 locs9 c9 s9 → T9.heap = h0 → Fr n0 locs9 → c9 ≤ 0 → s9 ≤ 0 → own_pinv fk p1 t d te iv → G T9 (mkF m 17 #[.val (.ref p0), .val (.long p1), .second, .val (.int p2), .val (.int (15 : Int32)), .val (.int iv)] []) := by
    intro d
    induction d with
    | zero =>
      intro t T9 locs9 c9 s9 iv X9 e9 N9 hc9 hs9 hI
      show G T9 (mkF m 17 #[.val (.ref p0), .val (.long p1), .second, .val (.int p2), .val (.int (15 : Int32)), .val (.int iv)] [])
      refine hp (fun tq kq => XS.aloadN X9.here hx rfl (hb hby d8_17) rfl rfl kq) ?_
      show G T9 (mkF m 18 #[.val (.ref p0), .val (.long p1), .second, .val (.int p2), .val (.int (15 : Int32)), .val (.int iv)] [(.ref p0)])
      obtain ⟨T3, X3, e3, st3⟩ := getF X9 hx hZ hown (host := "") (Or.inl (hw _ (List.mem_of_getElem? (i := 11) rfl))) Via.refl e9 F_k (g := (mkF m 18 #[.val (.ref p0), .val (.long p1), .second, .val (.int p2), .val (.int (15 : Int32)), .val (.int iv)] [(.ref p0)])) rfl rfl (hb hby d8_18)
      refine hp st3 ?_
      show G T3 (mkF m 21 #[.val (.ref p0), .val (.long p1), .second, .val (.int p2), .val (.int (15 : Int32)), .val (.int iv)] [(.ref kA)])
      refine hp (fun tq kq => XS.iload X3.here hx rfl (hb hby d8_21) rfl kq) ?_
      show G T3 (mkF m 23 #[.val (.ref p0), .val (.long p1), .second, .val (.int p2), .val (.int (15 : Int32)), .val (.int iv)] [(.int iv), (.ref kA)])
      refine hp (own_ldJ X3 hx hZ e3 V_k (j := iv) ((own_h p1 + t) % 16) hI.2.1 hI.2.2.1 (Nat.mod_lt _ (by decide)) (g := (mkF m 23 #[.val (.ref p0), .val (.long p1), .second, .val (.int p2), .val (.int (15 : Int32)), .val (.int iv)] [(.int iv), (.ref kA)])) rfl rfl (hb hby d8_23)) ?_
      show G T3 (mkF m 24 #[.val (.ref p0), .val (.long p1), .second, .val (.int p2), .val (.int (15 : Int32)), .val (.int iv)] [(.long (fk ((own_h p1 + t) % 16)))])
      refine hp (fun tq kq => X3.ldc2Long hx hown (mvT hZ (hw _ (List.mem_of_getElem? (i := 31) rfl))) (g := (mkF m 24 #[.val (.ref p0), .val (.long p1), .second, .val (.int p2), .val (.int (15 : Int32)), .val (.int iv)] [(.long (fk ((own_h p1 + t) % 16)))])) rfl (hb hby d8_24) _ kq) ?_
      show G T3 (mkF m 27 #[.val (.ref p0), .val (.long p1), .second, .val (.int p2), .val (.int (15 : Int32)), .val (.int iv)] [(.long (-1 : Int64)), (.long (fk ((own_h p1 + t) % 16)))])
      refine hp (fun tq kq => XS.lcmp X3.here hx rfl (hb hby d8_27) rfl kq) ?_
      show G T3 (mkF m 28 #[.val (.ref p0), .val (.long p1), .second, .val (.int p2), .val (.int (15 : Int32)), .val (.int iv)] [(.int (lcmpW (fk ((own_h p1 + t) % 16)) (-1 : Int64)))])
      refine hp (fun tq kq => XS.ifYes X3.here hx rfl (pc0 := 28) (pc' := 65) rfl (hb hby d8_28) rfl ((if0 _ _).trans (teq ((lw_eq _ _).mpr (own_pend hte hI))).1) (by decide) (by decide) kq) ?_
      show G T3 (mkF m 65 #[.val (.ref p0), .val (.long p1), .second, .val (.int p2), .val (.int (15 : Int32)), .val (.int iv)] [])
      refine hp (fun tq kq => XS.aloadN X3.here hx rfl (hb hby d8_65) rfl rfl kq) ?_
      show G T3 (mkF m 66 #[.val (.ref p0), .val (.long p1), .second, .val (.int p2), .val (.int (15 : Int32)), .val (.int iv)] [(.ref p0)])
      obtain ⟨T4, X4, e4, st4⟩ := getF X3 hx hZ hown (host := "") (Or.inl (hw _ (List.mem_of_getElem? (i := 11) rfl))) Via.refl e3 F_k (g := (mkF m 66 #[.val (.ref p0), .val (.long p1), .second, .val (.int p2), .val (.int (15 : Int32)), .val (.int iv)] [(.ref p0)])) rfl rfl (hb hby d8_66)
      refine hp st4 ?_
      show G T4 (mkF m 69 #[.val (.ref p0), .val (.long p1), .second, .val (.int p2), .val (.int (15 : Int32)), .val (.int iv)] [(.ref kA)])
      refine hp (fun tq kq => XS.iload X4.here hx rfl (hb hby d8_69) rfl kq) ?_
      show G T4 (mkF m 71 #[.val (.ref p0), .val (.long p1), .second, .val (.int p2), .val (.int (15 : Int32)), .val (.int iv)] [(.int iv), (.ref kA)])
      refine hp (fun tq kq => XS.lloadN X4.here hx rfl (hb hby d8_71) rfl kq) ?_
      show G T4 (mkF m 72 #[.val (.ref p0), .val (.long p1), .second, .val (.int p2), .val (.int (15 : Int32)), .val (.int iv)] [(.long p1), (.int iv), (.ref kA)])
      obtain ⟨T5, h5, X5, e5, W5, V5_kA, st5⟩ := own_stJ X4 hx hZ e4 V_k (j := iv) ((own_h p1 + t) % 16) hI.2.1 hI.2.2.1 (Nat.mod_lt _ (by decide)) (g := (mkF m 72 #[.val (.ref p0), .val (.long p1), .second, .val (.int p2), .val (.int (15 : Int32)), .val (.int iv)] [(.long p1), (.int iv), (.ref kA)])) rfl rfl (hb hby d8_72)
      have V5_vA := V_v.other W5 (Ne.symm nkv)
      have F5_keys_p0 := Fld.other W5 F_k (Or.inl npk)
      have F5_values_p0 := Fld.other W5 F_v (Or.inl npk)
      have K5 := K0.wr W5 (Or.inl (by simp))
      have N5 := Fr.snoc X5 N9 g_k
      refine hp st5 ?_
      show G T5 (mkF m 73 #[.val (.ref p0), .val (.long p1), .second, .val (.int p2), .val (.int (15 : Int32)), .val (.int iv)] [])
      refine hp (fun tq kq => XS.aloadN X5.here hx rfl (hb hby d8_73) rfl rfl kq) ?_
      show G T5 (mkF m 74 #[.val (.ref p0), .val (.long p1), .second, .val (.int p2), .val (.int (15 : Int32)), .val (.int iv)] [(.ref p0)])
      obtain ⟨T6, X6, e6, st6⟩ := getF X5 hx hZ hown (host := "") (Or.inl (hw _ (List.mem_of_getElem? (i := 14) rfl))) Via.refl e5 F5_values_p0 (g := (mkF m 74 #[.val (.ref p0), .val (.long p1), .second, .val (.int p2), .val (.int (15 : Int32)), .val (.int iv)] [(.ref p0)])) rfl rfl (hb hby d8_74)
      refine hp st6 ?_
      show G T6 (mkF m 77 #[.val (.ref p0), .val (.long p1), .second, .val (.int p2), .val (.int (15 : Int32)), .val (.int iv)] [(.ref vA)])
      refine hp (fun tq kq => XS.iload X6.here hx rfl (hb hby d8_77) rfl kq) ?_
      show G T6 (mkF m 79 #[.val (.ref p0), .val (.long p1), .second, .val (.int p2), .val (.int (15 : Int32)), .val (.int iv)] [(.int iv), (.ref vA)])
      refine hp (fun tq kq => XS.iloadN X6.here hx rfl (hb hby d8_79) rfl kq) ?_
      show G T6 (mkF m 80 #[.val (.ref p0), .val (.long p1), .second, .val (.int p2), .val (.int (15 : Int32)), .val (.int iv)] [(.int p2), (.int iv), (.ref vA)])
      obtain ⟨T7, h7, X7, e7, W7, V7_vA, st7⟩ := own_stI X6 hx hZ e6 V5_vA (j := iv) ((own_h p1 + t) % 16) hI.2.1 hI.2.2.1 (Nat.mod_lt _ (by decide)) (g := (mkF m 80 #[.val (.ref p0), .val (.long p1), .second, .val (.int p2), .val (.int (15 : Int32)), .val (.int iv)] [(.int p2), (.int iv), (.ref vA)])) rfl rfl (hb hby d8_80)
      have V7_kA := V5_kA.other W7 nkv
      have F7_keys_p0 := Fld.other W7 F5_keys_p0 (Or.inl npv)
      have F7_values_p0 := Fld.other W7 F5_values_p0 (Or.inl npv)
      have K7 := K5.wr W7 (Or.inl (by simp))
      have N7 := Fr.snoc X7 N5 g_v
      refine hp st7 ?_
      show G T7 (mkF m 81 #[.val (.ref p0), .val (.long p1), .second, .val (.int p2), .val (.int (15 : Int32)), .val (.int iv)] [])
      refine hp (fun tq kq => XS.iconst X7.here hx rfl (hb hby d8_81) kq) ?_
      show G T7 (mkF m 82 #[.val (.ref p0), .val (.long p1), .second, .val (.int p2), .val (.int (15 : Int32)), .val (.int iv)] [(.int (1 : Int32))])
      exact hR X7 (fun fs hl => retN X7 hx (t := .boolean) hret (by simp) (hb hby d8_82) hl) (fun q => by rw [hret] at q; cases q) (by rw [e7]; exact ⟨(1 : Int32), _, _, rfl, N7, K7, V7_kA, V7_vA, own_rel1 hI (own_pend hte hI)⟩) hc9 hs9
    | succ d ih =>
      intro t T9 locs9 c9 s9 iv X9 e9 N9 hc9 hs9 hI
      show G T9 (mkF m 17 #[.val (.ref p0), .val (.long p1), .second, .val (.int p2), .val (.int (15 : Int32)), .val (.int iv)] [])
      refine hp (fun tq kq => XS.aloadN X9.here hx rfl (hb hby d8_17) rfl rfl kq) ?_
      show G T9 (mkF m 18 #[.val (.ref p0), .val (.long p1), .second, .val (.int p2), .val (.int (15 : Int32)), .val (.int iv)] [(.ref p0)])
      obtain ⟨T8, X8, e8, st8⟩ := getF X9 hx hZ hown (host := "") (Or.inl (hw _ (List.mem_of_getElem? (i := 11) rfl))) Via.refl e9 F_k (g := (mkF m 18 #[.val (.ref p0), .val (.long p1), .second, .val (.int p2), .val (.int (15 : Int32)), .val (.int iv)] [(.ref p0)])) rfl rfl (hb hby d8_18)
      refine hp st8 ?_
      show G T8 (mkF m 21 #[.val (.ref p0), .val (.long p1), .second, .val (.int p2), .val (.int (15 : Int32)), .val (.int iv)] [(.ref kA)])
      refine hp (fun tq kq => XS.iload X8.here hx rfl (hb hby d8_21) rfl kq) ?_
      show G T8 (mkF m 23 #[.val (.ref p0), .val (.long p1), .second, .val (.int p2), .val (.int (15 : Int32)), .val (.int iv)] [(.int iv), (.ref kA)])
      refine hp (own_ldJ X8 hx hZ e8 V_k (j := iv) ((own_h p1 + t) % 16) hI.2.1 hI.2.2.1 (Nat.mod_lt _ (by decide)) (g := (mkF m 23 #[.val (.ref p0), .val (.long p1), .second, .val (.int p2), .val (.int (15 : Int32)), .val (.int iv)] [(.int iv), (.ref kA)])) rfl rfl (hb hby d8_23)) ?_
      show G T8 (mkF m 24 #[.val (.ref p0), .val (.long p1), .second, .val (.int p2), .val (.int (15 : Int32)), .val (.int iv)] [(.long (fk ((own_h p1 + t) % 16)))])
      refine hp (fun tq kq => X8.ldc2Long hx hown (mvT hZ (hw _ (List.mem_of_getElem? (i := 31) rfl))) (g := (mkF m 24 #[.val (.ref p0), .val (.long p1), .second, .val (.int p2), .val (.int (15 : Int32)), .val (.int iv)] [(.long (fk ((own_h p1 + t) % 16)))])) rfl (hb hby d8_24) _ kq) ?_
      show G T8 (mkF m 27 #[.val (.ref p0), .val (.long p1), .second, .val (.int p2), .val (.int (15 : Int32)), .val (.int iv)] [(.long (-1 : Int64)), (.long (fk ((own_h p1 + t) % 16)))])
      refine hp (fun tq kq => XS.lcmp X8.here hx rfl (hb hby d8_27) rfl kq) ?_
      show G T8 (mkF m 28 #[.val (.ref p0), .val (.long p1), .second, .val (.int p2), .val (.int (15 : Int32)), .val (.int iv)] [(.int (lcmpW (fk ((own_h p1 + t) % 16)) (-1 : Int64)))])
      by_cases hb9 : (fk ((own_h p1 + t) % 16)) = (-1 : Int64)
      · refine hp (fun tq kq => XS.ifYes X8.here hx rfl (pc0 := 28) (pc' := 65) rfl (hb hby d8_28) rfl ((if0 _ _).trans (teq ((lw_eq _ _).mpr hb9)).1) (by decide) (by decide) kq) ?_
        show G T8 (mkF m 65 #[.val (.ref p0), .val (.long p1), .second, .val (.int p2), .val (.int (15 : Int32)), .val (.int iv)] [])
        refine hp (fun tq kq => XS.aloadN X8.here hx rfl (hb hby d8_65) rfl rfl kq) ?_
        show G T8 (mkF m 66 #[.val (.ref p0), .val (.long p1), .second, .val (.int p2), .val (.int (15 : Int32)), .val (.int iv)] [(.ref p0)])
        obtain ⟨T10, X10, e10, st10⟩ := getF X8 hx hZ hown (host := "") (Or.inl (hw _ (List.mem_of_getElem? (i := 11) rfl))) Via.refl e8 F_k (g := (mkF m 66 #[.val (.ref p0), .val (.long p1), .second, .val (.int p2), .val (.int (15 : Int32)), .val (.int iv)] [(.ref p0)])) rfl rfl (hb hby d8_66)
        refine hp st10 ?_
        show G T10 (mkF m 69 #[.val (.ref p0), .val (.long p1), .second, .val (.int p2), .val (.int (15 : Int32)), .val (.int iv)] [(.ref kA)])
        refine hp (fun tq kq => XS.iload X10.here hx rfl (hb hby d8_69) rfl kq) ?_
        show G T10 (mkF m 71 #[.val (.ref p0), .val (.long p1), .second, .val (.int p2), .val (.int (15 : Int32)), .val (.int iv)] [(.int iv), (.ref kA)])
        refine hp (fun tq kq => XS.lloadN X10.here hx rfl (hb hby d8_71) rfl kq) ?_
        show G T10 (mkF m 72 #[.val (.ref p0), .val (.long p1), .second, .val (.int p2), .val (.int (15 : Int32)), .val (.int iv)] [(.long p1), (.int iv), (.ref kA)])
        obtain ⟨T11, h11, X11, e11, W11, V11_kA, st11⟩ := own_stJ X10 hx hZ e10 V_k (j := iv) ((own_h p1 + t) % 16) hI.2.1 hI.2.2.1 (Nat.mod_lt _ (by decide)) (g := (mkF m 72 #[.val (.ref p0), .val (.long p1), .second, .val (.int p2), .val (.int (15 : Int32)), .val (.int iv)] [(.long p1), (.int iv), (.ref kA)])) rfl rfl (hb hby d8_72)
        have V11_vA := V_v.other W11 (Ne.symm nkv)
        have F11_keys_p0 := Fld.other W11 F_k (Or.inl npk)
        have F11_values_p0 := Fld.other W11 F_v (Or.inl npk)
        have K11 := K0.wr W11 (Or.inl (by simp))
        have N11 := Fr.snoc X11 N9 g_k
        refine hp st11 ?_
        show G T11 (mkF m 73 #[.val (.ref p0), .val (.long p1), .second, .val (.int p2), .val (.int (15 : Int32)), .val (.int iv)] [])
        refine hp (fun tq kq => XS.aloadN X11.here hx rfl (hb hby d8_73) rfl rfl kq) ?_
        show G T11 (mkF m 74 #[.val (.ref p0), .val (.long p1), .second, .val (.int p2), .val (.int (15 : Int32)), .val (.int iv)] [(.ref p0)])
        obtain ⟨T12, X12, e12, st12⟩ := getF X11 hx hZ hown (host := "") (Or.inl (hw _ (List.mem_of_getElem? (i := 14) rfl))) Via.refl e11 F11_values_p0 (g := (mkF m 74 #[.val (.ref p0), .val (.long p1), .second, .val (.int p2), .val (.int (15 : Int32)), .val (.int iv)] [(.ref p0)])) rfl rfl (hb hby d8_74)
        refine hp st12 ?_
        show G T12 (mkF m 77 #[.val (.ref p0), .val (.long p1), .second, .val (.int p2), .val (.int (15 : Int32)), .val (.int iv)] [(.ref vA)])
        refine hp (fun tq kq => XS.iload X12.here hx rfl (hb hby d8_77) rfl kq) ?_
        show G T12 (mkF m 79 #[.val (.ref p0), .val (.long p1), .second, .val (.int p2), .val (.int (15 : Int32)), .val (.int iv)] [(.int iv), (.ref vA)])
        refine hp (fun tq kq => XS.iloadN X12.here hx rfl (hb hby d8_79) rfl kq) ?_
        show G T12 (mkF m 80 #[.val (.ref p0), .val (.long p1), .second, .val (.int p2), .val (.int (15 : Int32)), .val (.int iv)] [(.int p2), (.int iv), (.ref vA)])
        obtain ⟨T13, h13, X13, e13, W13, V13_vA, st13⟩ := own_stI X12 hx hZ e12 V11_vA (j := iv) ((own_h p1 + t) % 16) hI.2.1 hI.2.2.1 (Nat.mod_lt _ (by decide)) (g := (mkF m 80 #[.val (.ref p0), .val (.long p1), .second, .val (.int p2), .val (.int (15 : Int32)), .val (.int iv)] [(.int p2), (.int iv), (.ref vA)])) rfl rfl (hb hby d8_80)
        have V13_kA := V11_kA.other W13 nkv
        have F13_keys_p0 := Fld.other W13 F11_keys_p0 (Or.inl npv)
        have F13_values_p0 := Fld.other W13 F11_values_p0 (Or.inl npv)
        have K13 := K11.wr W13 (Or.inl (by simp))
        have N13 := Fr.snoc X13 N11 g_v
        refine hp st13 ?_
        show G T13 (mkF m 81 #[.val (.ref p0), .val (.long p1), .second, .val (.int p2), .val (.int (15 : Int32)), .val (.int iv)] [])
        refine hp (fun tq kq => XS.iconst X13.here hx rfl (hb hby d8_81) kq) ?_
        show G T13 (mkF m 82 #[.val (.ref p0), .val (.long p1), .second, .val (.int p2), .val (.int (15 : Int32)), .val (.int iv)] [(.int (1 : Int32))])
        exact hR X13 (fun fs hl => retN X13 hx (t := .boolean) hret (by simp) (hb hby d8_82) hl) (fun q => by rw [hret] at q; cases q) (by rw [e13]; exact ⟨(1 : Int32), _, _, rfl, N13, K13, V13_kA, V13_vA, own_rel1 hI hb9⟩) hc9 hs9
      · refine hp (fun tq kq => XS.ifNo X8.here hx rfl (hb hby d8_28) rfl ((if0 _ _).trans (feq (fun q => hb9 ((lw_eq _ _).mp q))).1) kq) ?_
        show G T8 (mkF m 31 #[.val (.ref p0), .val (.long p1), .second, .val (.int p2), .val (.int (15 : Int32)), .val (.int iv)] [])
        refine hp (fun tq kq => XS.aloadN X8.here hx rfl (hb hby d8_31) rfl rfl kq) ?_
        show G T8 (mkF m 32 #[.val (.ref p0), .val (.long p1), .second, .val (.int p2), .val (.int (15 : Int32)), .val (.int iv)] [(.ref p0)])
        obtain ⟨T14, X14, e14, st14⟩ := getF X8 hx hZ hown (host := "") (Or.inl (hw _ (List.mem_of_getElem? (i := 11) rfl))) Via.refl e8 F_k (g := (mkF m 32 #[.val (.ref p0), .val (.long p1), .second, .val (.int p2), .val (.int (15 : Int32)), .val (.int iv)] [(.ref p0)])) rfl rfl (hb hby d8_32)
        refine hp st14 ?_
        show G T14 (mkF m 35 #[.val (.ref p0), .val (.long p1), .second, .val (.int p2), .val (.int (15 : Int32)), .val (.int iv)] [(.ref kA)])
        refine hp (fun tq kq => XS.iload X14.here hx rfl (hb hby d8_35) rfl kq) ?_
        show G T14 (mkF m 37 #[.val (.ref p0), .val (.long p1), .second, .val (.int p2), .val (.int (15 : Int32)), .val (.int iv)] [(.int iv), (.ref kA)])
        refine hp (own_ldJ X14 hx hZ e14 V_k (j := iv) ((own_h p1 + t) % 16) hI.2.1 hI.2.2.1 (Nat.mod_lt _ (by decide)) (g := (mkF m 37 #[.val (.ref p0), .val (.long p1), .second, .val (.int p2), .val (.int (15 : Int32)), .val (.int iv)] [(.int iv), (.ref kA)])) rfl rfl (hb hby d8_37)) ?_
        show G T14 (mkF m 38 #[.val (.ref p0), .val (.long p1), .second, .val (.int p2), .val (.int (15 : Int32)), .val (.int iv)] [(.long (fk ((own_h p1 + t) % 16)))])
        refine hp (fun tq kq => XS.lloadN X14.here hx rfl (hb hby d8_38) rfl kq) ?_
        show G T14 (mkF m 39 #[.val (.ref p0), .val (.long p1), .second, .val (.int p2), .val (.int (15 : Int32)), .val (.int iv)] [(.long p1), (.long (fk ((own_h p1 + t) % 16)))])
        refine hp (fun tq kq => XS.lcmp X14.here hx rfl (hb hby d8_39) rfl kq) ?_
        show G T14 (mkF m 40 #[.val (.ref p0), .val (.long p1), .second, .val (.int p2), .val (.int (15 : Int32)), .val (.int iv)] [(.int (lcmpW (fk ((own_h p1 + t) % 16)) p1))])
        by_cases hb15 : (fk ((own_h p1 + t) % 16)) = p1
        · refine hp (fun tq kq => XS.ifNo X14.here hx rfl (hb hby d8_40) rfl ((if0 _ _).trans (teq ((lw_eq _ _).mpr hb15)).2) kq) ?_
          show G T14 (mkF m 43 #[.val (.ref p0), .val (.long p1), .second, .val (.int p2), .val (.int (15 : Int32)), .val (.int iv)] [])
          refine hp (fun tq kq => XS.aloadN X14.here hx rfl (hb hby d8_43) rfl rfl kq) ?_
          show G T14 (mkF m 44 #[.val (.ref p0), .val (.long p1), .second, .val (.int p2), .val (.int (15 : Int32)), .val (.int iv)] [(.ref p0)])
          obtain ⟨T16, X16, e16, st16⟩ := getF X14 hx hZ hown (host := "") (Or.inl (hw _ (List.mem_of_getElem? (i := 14) rfl))) Via.refl e14 F_v (g := (mkF m 44 #[.val (.ref p0), .val (.long p1), .second, .val (.int p2), .val (.int (15 : Int32)), .val (.int iv)] [(.ref p0)])) rfl rfl (hb hby d8_44)
          refine hp st16 ?_
          show G T16 (mkF m 47 #[.val (.ref p0), .val (.long p1), .second, .val (.int p2), .val (.int (15 : Int32)), .val (.int iv)] [(.ref vA)])
          refine hp (fun tq kq => XS.iload X16.here hx rfl (hb hby d8_47) rfl kq) ?_
          show G T16 (mkF m 49 #[.val (.ref p0), .val (.long p1), .second, .val (.int p2), .val (.int (15 : Int32)), .val (.int iv)] [(.int iv), (.ref vA)])
          refine hp (fun tq kq => XS.iloadN X16.here hx rfl (hb hby d8_49) rfl kq) ?_
          show G T16 (mkF m 50 #[.val (.ref p0), .val (.long p1), .second, .val (.int p2), .val (.int (15 : Int32)), .val (.int iv)] [(.int p2), (.int iv), (.ref vA)])
          obtain ⟨T17, h17, X17, e17, W17, V17_vA, st17⟩ := own_stI X16 hx hZ e16 V_v (j := iv) ((own_h p1 + t) % 16) hI.2.1 hI.2.2.1 (Nat.mod_lt _ (by decide)) (g := (mkF m 50 #[.val (.ref p0), .val (.long p1), .second, .val (.int p2), .val (.int (15 : Int32)), .val (.int iv)] [(.int p2), (.int iv), (.ref vA)])) rfl rfl (hb hby d8_50)
          have V17_kA := V_k.other W17 nkv
          have F17_keys_p0 := Fld.other W17 F_k (Or.inl npv)
          have F17_values_p0 := Fld.other W17 F_v (Or.inl npv)
          have K17 := K0.wr W17 (Or.inl (by simp))
          have N17 := Fr.snoc X17 N9 g_v
          refine hp st17 ?_
          show G T17 (mkF m 51 #[.val (.ref p0), .val (.long p1), .second, .val (.int p2), .val (.int (15 : Int32)), .val (.int iv)] [])
          refine hp (fun tq kq => XS.iconst X17.here hx rfl (hb hby d8_51) kq) ?_
          show G T17 (mkF m 52 #[.val (.ref p0), .val (.long p1), .second, .val (.int p2), .val (.int (15 : Int32)), .val (.int iv)] [(.int (0 : Int32))])
          exact hR X17 (fun fs hl => retN X17 hx (t := .boolean) hret (by simp) (hb hby d8_52) hl) (fun q => by rw [hret] at q; cases q) (by rw [e17]; exact ⟨(0 : Int32), _, _, rfl, N17, K17, V17_kA, V17_vA, own_rel0 hI hb9 hb15⟩) hc9 hs9
        · refine hp (fun tq kq => XS.ifYes X14.here hx rfl (pc0 := 40) (pc' := 53) rfl (hb hby d8_40) rfl ((if0 _ _).trans (feq (fun q => hb15 ((lw_eq _ _).mp q))).2) (by decide) (by decide) kq) ?_
          show G T14 (mkF m 53 #[.val (.ref p0), .val (.long p1), .second, .val (.int p2), .val (.int (15 : Int32)), .val (.int iv)] [])
          refine hp (fun tq kq => XS.iload X14.here hx rfl (hb hby d8_53) rfl kq) ?_
          show G T14 (mkF m 55 #[.val (.ref p0), .val (.long p1), .second, .val (.int p2), .val (.int (15 : Int32)), .val (.int iv)] [(.int iv)])
          refine hp (fun tq kq => XS.iconst X14.here hx rfl (hb hby d8_55) kq) ?_
          show G T14 (mkF m 56 #[.val (.ref p0), .val (.long p1), .second, .val (.int p2), .val (.int (15 : Int32)), .val (.int iv)] [(.int (1 : Int32)), (.int iv)])
          refine hp (fun tq kq => XS.iadd X14.here hx rfl (hb hby d8_56) rfl kq) ?_
          show G T14 (mkF m 57 #[.val (.ref p0), .val (.long p1), .second, .val (.int p2), .val (.int (15 : Int32)), .val (.int iv)] [(.int (iv + (1 : Int32)))])
          refine hp (fun tq kq => XS.iload X14.here hx rfl (hb hby d8_57) rfl kq) ?_
          show G T14 (mkF m 59 #[.val (.ref p0), .val (.long p1), .second, .val (.int p2), .val (.int (15 : Int32)), .val (.int iv)] [(.int (15 : Int32)), (.int (iv + (1 : Int32)))])
          refine hp (fun tq kq => XS.iand X14.here hx rfl (hb hby d8_59) rfl kq) ?_
          show G T14 (mkF m 60 #[.val (.ref p0), .val (.long p1), .second, .val (.int p2), .val (.int (15 : Int32)), .val (.int iv)] [(.int ((iv + (1 : Int32)) &&& (15 : Int32)))])
          refine hp (fun tq kq => XS.istore X14.here hx rfl (hb hby d8_60) rfl (l' := #[.val (.ref p0), .val (.long p1), .second, .val (.int p2), .val (.int (15 : Int32)), .val (.int ((iv + (1 : Int32)) &&& (15 : Int32)))]) rfl kq) ?_
          show G T14 (mkF m 62 #[.val (.ref p0), .val (.long p1), .second, .val (.int p2), .val (.int (15 : Int32)), .val (.int ((iv + (1 : Int32)) &&& (15 : Int32)))] [])
          refine hp (fun tq kq => XS.goto X14.here hx rfl (pc0 := 62) (pc' := 17) rfl (hb hby d8_62) (by decide) (by decide) kq) ?_
          show G T14 (mkF m 17 #[.val (.ref p0), .val (.long p1), .second, .val (.int p2), .val (.int (15 : Int32)), .val (.int ((iv + (1 : Int32)) &&& (15 : Int32)))] [])
          exact ih (t + 1) _ _ _ _ _ X14 e14 N9 hc9 hs9 (own_pnext hI hb9 hb15)
  exact loop te 0 _ _ _ _ _ X2 e2 F2 (by decide) (by decide) (own_pstart fk p1 te)
theorem d14_0 : decode prog_74_method_3_code 0 = .ok (.aload_n 0, 1) := by decide +kernel
theorem d14_1 : decode prog_74_method_3_code 1 = .ok (.getfield 17, 3) := by decide +kernel
theorem d14_4 : decode prog_74_method_3_code 4 = .ok (.ifCond .ne 5, 3) := by decide +kernel
theorem d14_7 : decode prog_74_method_3_code 7 = .ok (.iconst (-1), 1) := by decide +kernel
theorem d14_8 : decode prog_74_method_3_code 8 = .ok (.ireturn, 1) := by decide +kernel
theorem d14_9 : decode prog_74_method_3_code 9 = .ok (.iload_n 1, 1) := by decide +kernel
theorem d14_10 : decode prog_74_method_3_code 10 = .ok (.iload_n 2, 1) := by decide +kernel
theorem d14_11 : decode prog_74_method_3_code 11 = .ok (.invokestatic 21, 3) := by decide +kernel
theorem d14_14 : decode prog_74_method_3_code 14 = .ok (.lstore_n 3, 1) := by decide +kernel
theorem d14_15 : decode prog_74_method_3_code 15 = .ok (.aload_n 0, 1) := by decide +kernel
theorem d14_16 : decode prog_74_method_3_code 16 = .ok (.getfield 7, 3) := by decide +kernel
theorem d14_19 : decode prog_74_method_3_code 19 = .ok (.arraylength, 1) := by decide +kernel
theorem d14_20 : decode prog_74_method_3_code 20 = .ok (.iconst 1, 1) := by decide +kernel
theorem d14_21 : decode prog_74_method_3_code 21 = .ok (.isub, 1) := by decide +kernel
theorem d14_22 : decode prog_74_method_3_code 22 = .ok (.istore 5, 2) := by decide +kernel
theorem d14_24 : decode prog_74_method_3_code 24 = .ok (.lload_n 3, 1) := by decide +kernel
theorem d14_25 : decode prog_74_method_3_code 25 = .ok (.iload 5, 2) := by decide +kernel
theorem d14_27 : decode prog_74_method_3_code 27 = .ok (.invokestatic 25, 3) := by decide +kernel
theorem d14_30 : decode prog_74_method_3_code 30 = .ok (.istore 6, 2) := by decide +kernel
theorem d14_32 : decode prog_74_method_3_code 32 = .ok (.aload_n 0, 1) := by decide +kernel
theorem d14_33 : decode prog_74_method_3_code 33 = .ok (.getfield 7, 3) := by decide +kernel
theorem d14_36 : decode prog_74_method_3_code 36 = .ok (.iload 6, 2) := by decide +kernel
theorem d14_38 : decode prog_74_method_3_code 38 = .ok (.laload, 1) := by decide +kernel
theorem d14_39 : decode prog_74_method_3_code 39 = .ok (.ldc2_w 29, 3) := by decide +kernel
theorem d14_42 : decode prog_74_method_3_code 42 = .ok (.lcmp, 1) := by decide +kernel
theorem d14_43 : decode prog_74_method_3_code 43 = .ok (.ifCond .eq 35, 3) := by decide +kernel
theorem d14_46 : decode prog_74_method_3_code 46 = .ok (.aload_n 0, 1) := by decide +kernel
theorem d14_47 : decode prog_74_method_3_code 47 = .ok (.getfield 7, 3) := by decide +kernel
theorem d14_50 : decode prog_74_method_3_code 50 = .ok (.iload 6, 2) := by decide +kernel
theorem d14_52 : decode prog_74_method_3_code 52 = .ok (.laload, 1) := by decide +kernel
theorem d14_53 : decode prog_74_method_3_code 53 = .ok (.lload_n 3, 1) := by decide +kernel
theorem d14_54 : decode prog_74_method_3_code 54 = .ok (.lcmp, 1) := by decide +kernel
theorem d14_55 : decode prog_74_method_3_code 55 = .ok (.ifCond .ne 11, 3) := by decide +kernel
theorem d14_58 : decode prog_74_method_3_code 58 = .ok (.aload_n 0, 1) := by decide +kernel
theorem d14_59 : decode prog_74_method_3_code 59 = .ok (.getfield 13, 3) := by decide +kernel
theorem d14_62 : decode prog_74_method_3_code 62 = .ok (.iload 6, 2) := by decide +kernel
theorem d14_64 : decode prog_74_method_3_code 64 = .ok (.iaload, 1) := by decide +kernel
theorem d14_65 : decode prog_74_method_3_code 65 = .ok (.ireturn, 1) := by decide +kernel
theorem d14_66 : decode prog_74_method_3_code 66 = .ok (.iload 6, 2) := by decide +kernel
theorem d14_68 : decode prog_74_method_3_code 68 = .ok (.iconst 1, 1) := by decide +kernel
theorem d14_69 : decode prog_74_method_3_code 69 = .ok (.iadd, 1) := by decide +kernel
theorem d14_70 : decode prog_74_method_3_code 70 = .ok (.iload 5, 2) := by decide +kernel
theorem d14_72 : decode prog_74_method_3_code 72 = .ok (.iand, 1) := by decide +kernel
theorem d14_73 : decode prog_74_method_3_code 73 = .ok (.istore 6, 2) := by decide +kernel
theorem d14_75 : decode prog_74_method_3_code 75 = .ok (.goto (-43), 3) := by decide +kernel
theorem d14_78 : decode prog_74_method_3_code 78 = .ok (.iconst (-1), 1) := by decide +kernel
theorem d14_79 : decode prog_74_method_3_code 79 = .ok (.ireturn, 1) := by decide +kernel
theorem own_ef14 (m : MethodId) (p0 : Addr) (p1 : Int32) (p2 : Int32) : entryFrame m #[(.ref p0), (.int p1), (.int p2)] 7 = mkF m 0 #[.val (.ref p0), .val (.int p1), .val (.int p2), .unset, .unset, .unset, .unset] [] := by first | (simp [entryFrame, mkF, argsToLocals, Value.category]; done) | rfl
theorem own_pn14 : plainName "com/example/referent/referent/solver/IntPairMap" = true := by first | (simp [plainName, overriddenIn]; done) | decide +kernel
set_option maxRecDepth 65536 in
set_option maxHeartbeats 40000000 in
theorem rm14 (l : Launch) (Z : State) (a0 : Array Value) (hw : ∀ d ∈ tables_1, d.before a0 Z = true) (ws : List Jvm.Cond) (p0 : Addr) (p1 : Int32) (p2 : Int32) (kA vA : Addr) (fk : Nat → Int64) (fv : Nat → Int32) (i0 : Nat) (sz : Int32) (tj : Nat) (h0 : Heap) (n0 : Nat) (F_k : Fld Z h0 p0 "com/example/referent/referent/solver/IntPairMap" "keys" "[J" (.ref kA)) (F_v : Fld Z h0 p0 "com/example/referent/referent/solver/IntPairMap" "values" "[I" (.ref vA)) (V_k : own_AJ Z h0 kA 16 fk) (V_v : own_AI Z h0 vA .int 16 fv) (hi : i0 < 16) (F_s : Fld Z h0 p0 "com/example/referent/referent/solver/IntPairMap" "size" "I" (.int sz)) (hsz : ¬ sz = (0 : Int32)) (htj : fk ((own_h (own_key p1 p2) + tj) % 16) = own_key p1 p2) (hbef : ∀ t, t < tj → ¬ fk ((own_h (own_key p1 p2) + t) % 16) = (-1 : Int64) ∧ ¬ fk ((own_h (own_key p1 p2) + t) % 16) = own_key p1 p2) (hne : ¬ own_key p1 p2 = (-1 : Int64)) :
    MetFree l (⟨"com/example/referent/referent/solver/IntPairMap", "get", "(II)I"⟩ : MethodName) (head1 (Jvm.Cond.code (⟨"com/example/referent/referent/solver/IntPairMap", "get", "(II)I"⟩ : MethodName) prog_74_method_3_code 7 (some .int) :: ws) ({ frames := 1, cells := 0, slots := 0, locals := 16 } : Room)) (fun a U => a = #[(.ref p0), (.int p1), (.int p2)] ∧ Z.Warmed39 U.vm ∧ U.heap = h0) (fun _ _ _ _ _ => True) (fun _ U o U' => ∃ v L, o = .returned v ∧ own_Q (some (.int (fv ((own_h (own_key p1 p2) + tj) % 16)))) h0 n0 v U'.heap L ∧ FrameEnd U o U' L ({ frames := 1, cells := 0, slots := 0, locals := 16 } : Room).cells ({ frames := 1, cells := 0, slots := 0, locals := 16 } : Room).slots) := by
  refine own_contract (plainFor_of_name own_pn14) (fun m => own_ef14 m p0 p1 p2) ?_
  intro p e s m below meth c s₁ G hx hby hml0 hown0 hnm hret hZ X0 e0 hp hR
  have hml : c.maxLocals = 7 := hml0
  have hown : s.vm.findClass "com/example/referent/referent/solver/IntPairMap" = some m.cls := hown0
  have N0 := Fr.nil n0
  show G s₁ (mkF m 0 #[.val (.ref p0), .val (.int p1), .val (.int p2), .unset, .unset, .unset, .unset] [])
  have K0 : Keep h0 h0 [] := Keep.refl _ _
  refine hp (fun tq kq => XS.aloadN X0.here hx rfl (hb hby d14_0) rfl rfl kq) ?_
  show G s₁ (mkF m 1 #[.val (.ref p0), .val (.int p1), .val (.int p2), .unset, .unset, .unset, .unset] [(.ref p0)])
  obtain ⟨T1, X1, e1, st1⟩ := getF X0 hx hZ hown (host := "") (Or.inl (hw _ (List.mem_of_getElem? (i := 21) rfl))) Via.refl e0 F_s (g := (mkF m 1 #[.val (.ref p0), .val (.int p1), .val (.int p2), .unset, .unset, .unset, .unset] [(.ref p0)])) rfl rfl (hb hby d14_1)
  refine hp st1 ?_
  show G T1 (mkF m 4 #[.val (.ref p0), .val (.int p1), .val (.int p2), .unset, .unset, .unset, .unset] [(.int sz)])
  refine hp (fun tq kq => XS.ifYes X1.here hx rfl (pc0 := 4) (pc' := 9) rfl (hb hby d14_4) rfl ((if0 _ _).trans (feq hsz).2) (by decide) (by decide) kq) ?_
  show G T1 (mkF m 9 #[.val (.ref p0), .val (.int p1), .val (.int p2), .unset, .unset, .unset, .unset] [])
  refine hp (fun tq kq => XS.iloadN X1.here hx rfl (hb hby d14_9) rfl kq) ?_
  show G T1 (mkF m 10 #[.val (.ref p0), .val (.int p1), .val (.int p2), .unset, .unset, .unset, .unset] [(.int p1)])
  refine hp (fun tq kq => XS.iloadN X1.here hx rfl (hb hby d14_10) rfl kq) ?_
  show G T1 (mkF m 11 #[.val (.ref p0), .val (.int p1), .val (.int p2), .unset, .unset, .unset, .unset] [(.int p2), (.int p1)])
  obtain ⟨v2, T2, L2, X2, hQ2, st2⟩ := own_callS X1 hx hZ (y := (⟨"com/example/referent/referent/solver/IntPairMap", "key", "(II)J"⟩ : MethodName)) (rm := ({ frames := 0, cells := 0, slots := 0, locals := 0 } : Room)) 0 hown (hw _ (List.mem_of_getElem? (i := 36) rfl)) (hw _ (List.mem_of_getElem? (i := 37) rfl)) (hw _ (List.mem_of_getElem? (i := 3) rfl)) (hw _ (List.mem_of_getElem? (i := 38) rfl)) (by decide) (rm7 l Z a0 hw [] p1 p2 h0 n0) e1 (by decide) (by decide) (g := (mkF m 11 #[.val (.ref p0), .val (.int p1), .val (.int p2), .unset, .unset, .unset, .unset] [(.int p2), (.int p1)])) rfl (by rw [hml]; rfl) [(.int p1), (.int p2)] [] own_pd2 rfl rfl (by show 2 * 0 + _ ≤ _; exact Nat.le_of_eq rfl) (hb hby d14_11) rfl (by decide) (by decide)
  obtain ⟨rfl, N2, e2⟩ := hQ2
  have F2 := Fr.app N0 N2
  refine hp st2 ?_
  show G T2 (mkF m 14 #[.val (.ref p0), .val (.int p1), .val (.int p2), .unset, .unset, .unset, .unset] [(.long (own_key p1 p2))])
  refine hp (fun tq kq => XS.lstoreN X2.here hx rfl (hb hby d14_14) rfl (l' := #[.val (.ref p0), .val (.int p1), .val (.int p2), .val (.long (own_key p1 p2)), .second, .unset, .unset]) rfl kq) ?_
  show G T2 (mkF m 15 #[.val (.ref p0), .val (.int p1), .val (.int p2), .val (.long (own_key p1 p2)), .second, .unset, .unset] [])
  refine hp (fun tq kq => XS.aloadN X2.here hx rfl (hb hby d14_15) rfl rfl kq) ?_
  show G T2 (mkF m 16 #[.val (.ref p0), .val (.int p1), .val (.int p2), .val (.long (own_key p1 p2)), .second, .unset, .unset] [(.ref p0)])
  obtain ⟨T3, X3, e3, st3⟩ := getF X2 hx hZ hown (host := "") (Or.inl (hw _ (List.mem_of_getElem? (i := 11) rfl))) Via.refl e2 F_k (g := (mkF m 16 #[.val (.ref p0), .val (.int p1), .val (.int p2), .val (.long (own_key p1 p2)), .second, .unset, .unset] [(.ref p0)])) rfl rfl (hb hby d14_16)
  refine hp st3 ?_
  show G T3 (mkF m 19 #[.val (.ref p0), .val (.int p1), .val (.int p2), .val (.long (own_key p1 p2)), .second, .unset, .unset] [(.ref kA)])
  refine hp (own_lenJ X3 hx hZ e3 V_k (16 : Int32) rfl (g := (mkF m 19 #[.val (.ref p0), .val (.int p1), .val (.int p2), .val (.long (own_key p1 p2)), .second, .unset, .unset] [(.ref kA)])) rfl rfl (hb hby d14_19)) ?_
  show G T3 (mkF m 20 #[.val (.ref p0), .val (.int p1), .val (.int p2), .val (.long (own_key p1 p2)), .second, .unset, .unset] [(.int (16 : Int32))])
  refine hp (fun tq kq => XS.iconst X3.here hx rfl (hb hby d14_20) kq) ?_
  show G T3 (mkF m 21 #[.val (.ref p0), .val (.int p1), .val (.int p2), .val (.long (own_key p1 p2)), .second, .unset, .unset] [(.int (1 : Int32)), (.int (16 : Int32))])
  refine hp (fun tq kq => XS.isub X3.here hx rfl (hb hby d14_21) rfl kq) ?_
  show G T3 (mkF m 22 #[.val (.ref p0), .val (.int p1), .val (.int p2), .val (.long (own_key p1 p2)), .second, .unset, .unset] [(.int (15 : Int32))])
  refine hp (fun tq kq => XS.istore X3.here hx rfl (hb hby d14_22) rfl (l' := #[.val (.ref p0), .val (.int p1), .val (.int p2), .val (.long (own_key p1 p2)), .second, .val (.int (15 : Int32)), .unset]) rfl kq) ?_
  show G T3 (mkF m 24 #[.val (.ref p0), .val (.int p1), .val (.int p2), .val (.long (own_key p1 p2)), .second, .val (.int (15 : Int32)), .unset] [])
  refine hp (fun tq kq => XS.lloadN X3.here hx rfl (hb hby d14_24) rfl kq) ?_
  show G T3 (mkF m 25 #[.val (.ref p0), .val (.int p1), .val (.int p2), .val (.long (own_key p1 p2)), .second, .val (.int (15 : Int32)), .unset] [(.long (own_key p1 p2))])
  refine hp (fun tq kq => XS.iload X3.here hx rfl (hb hby d14_25) rfl kq) ?_
  show G T3 (mkF m 27 #[.val (.ref p0), .val (.int p1), .val (.int p2), .val (.long (own_key p1 p2)), .second, .val (.int (15 : Int32)), .unset] [(.int (15 : Int32)), (.long (own_key p1 p2))])
  obtain ⟨v4, T4, L4, X4, hQ4, st4⟩ := own_callS X3 hx hZ (y := (⟨"com/example/referent/referent/solver/IntPairMap", "slot", "(JI)I"⟩ : MethodName)) (rm := ({ frames := 0, cells := 0, slots := 0, locals := 0 } : Room)) 0 hown (hw _ (List.mem_of_getElem? (i := 43) rfl)) (hw _ (List.mem_of_getElem? (i := 44) rfl)) (hw _ (List.mem_of_getElem? (i := 3) rfl)) (hw _ (List.mem_of_getElem? (i := 45) rfl)) (by decide) (rm9 l Z a0 hw [] (own_key p1 p2) (15 : Int32) h0 n0) e3 (by decide) (by decide) (g := (mkF m 27 #[.val (.ref p0), .val (.int p1), .val (.int p2), .val (.long (own_key p1 p2)), .second, .val (.int (15 : Int32)), .unset] [(.int (15 : Int32)), (.long (own_key p1 p2))])) rfl (by rw [hml]; rfl) [(.long (own_key p1 p2)), (.int (15 : Int32))] [] own_pd1 rfl rfl (by show 2 * 0 + _ ≤ _; exact Nat.le_of_eq rfl) (hb hby d14_27) rfl (by decide) (by decide)
  obtain ⟨rfl, N4, e4⟩ := hQ4
  have F4 := Fr.app F2 N4
  refine hp st4 ?_
  show G T4 (mkF m 30 #[.val (.ref p0), .val (.int p1), .val (.int p2), .val (.long (own_key p1 p2)), .second, .val (.int (15 : Int32)), .unset] [(.int (own_hash (own_key p1 p2) (15 : Int32)))])
  refine hp (fun tq kq => XS.istore X4.here hx rfl (hb hby d14_30) rfl (l' := #[.val (.ref p0), .val (.int p1), .val (.int p2), .val (.long (own_key p1 p2)), .second, .val (.int (15 : Int32)), .val (.int (own_hash (own_key p1 p2) (15 : Int32)))]) rfl kq) ?_
  show G T4 (mkF m 32 #[.val (.ref p0), .val (.int p1), .val (.int p2), .val (.long (own_key p1 p2)), .second, .val (.int (15 : Int32)), .val (.int (own_hash (own_key p1 p2) (15 : Int32)))] [])
  have loop : ∀ (d t : Nat) (T9 : State) (locs9 : List Loc) (c9 s9 : Nat) (iv : Int32), Stand p l e ({ frames := 1, cells := 0, slots := 0, locals := 16 } : Room) s m #[(.ref p0), (.int p1), (.int p2)] below meth c T9 locs9 c9 s9 → T9.heap = h0 → Fr n0 locs9 → c9 ≤ 0 → s9 ≤ 0 → own_ginv (own_key p1 p2) t d tj iv → G T9 (mkF m 32 #[.val (.ref p0), .val (.int p1), .val (.int p2), .val (.long (own_key p1 p2)), .second, .val (.int (15 : Int32)), .val (.int iv)] []) := by
    intro d
    induction d with
    | zero =>
      intro t T9 locs9 c9 s9 iv X9 e9 N9 hc9 hs9 hI
      show G T9 (mkF m 32 #[.val (.ref p0), .val (.int p1), .val (.int p2), .val (.long (own_key p1 p2)), .second, .val (.int (15 : Int32)), .val (.int iv)] [])
      refine hp (fun tq kq => XS.aloadN X9.here hx rfl (hb hby d14_32) rfl rfl kq) ?_
      show G T9 (mkF m 33 #[.val (.ref p0), .val (.int p1), .val (.int p2), .val (.long (own_key p1 p2)), .second, .val (.int (15 : Int32)), .val (.int iv)] [(.ref p0)])
      obtain ⟨T5, X5, e5, st5⟩ := getF X9 hx hZ hown (host := "") (Or.inl (hw _ (List.mem_of_getElem? (i := 11) rfl))) Via.refl e9 F_k (g := (mkF m 33 #[.val (.ref p0), .val (.int p1), .val (.int p2), .val (.long (own_key p1 p2)), .second, .val (.int (15 : Int32)), .val (.int iv)] [(.ref p0)])) rfl rfl (hb hby d14_33)
      refine hp st5 ?_
      show G T5 (mkF m 36 #[.val (.ref p0), .val (.int p1), .val (.int p2), .val (.long (own_key p1 p2)), .second, .val (.int (15 : Int32)), .val (.int iv)] [(.ref kA)])
      refine hp (fun tq kq => XS.iload X5.here hx rfl (hb hby d14_36) rfl kq) ?_
      show G T5 (mkF m 38 #[.val (.ref p0), .val (.int p1), .val (.int p2), .val (.long (own_key p1 p2)), .second, .val (.int (15 : Int32)), .val (.int iv)] [(.int iv), (.ref kA)])
      refine hp (own_ldJ X5 hx hZ e5 V_k (j := iv) ((own_h (own_key p1 p2) + t) % 16) hI.2.1 hI.2.2 (Nat.mod_lt _ (by decide)) (g := (mkF m 38 #[.val (.ref p0), .val (.int p1), .val (.int p2), .val (.long (own_key p1 p2)), .second, .val (.int (15 : Int32)), .val (.int iv)] [(.int iv), (.ref kA)])) rfl rfl (hb hby d14_38)) ?_
      show G T5 (mkF m 39 #[.val (.ref p0), .val (.int p1), .val (.int p2), .val (.long (own_key p1 p2)), .second, .val (.int (15 : Int32)), .val (.int iv)] [(.long (fk ((own_h (own_key p1 p2) + t) % 16)))])
      refine hp (fun tq kq => X5.ldc2Long hx hown (mvT hZ (hw _ (List.mem_of_getElem? (i := 31) rfl))) (g := (mkF m 39 #[.val (.ref p0), .val (.int p1), .val (.int p2), .val (.long (own_key p1 p2)), .second, .val (.int (15 : Int32)), .val (.int iv)] [(.long (fk ((own_h (own_key p1 p2) + t) % 16)))])) rfl (hb hby d14_39) _ kq) ?_
      show G T5 (mkF m 42 #[.val (.ref p0), .val (.int p1), .val (.int p2), .val (.long (own_key p1 p2)), .second, .val (.int (15 : Int32)), .val (.int iv)] [(.long (-1 : Int64)), (.long (fk ((own_h (own_key p1 p2) + t) % 16)))])
      refine hp (fun tq kq => XS.lcmp X5.here hx rfl (hb hby d14_42) rfl kq) ?_
      show G T5 (mkF m 43 #[.val (.ref p0), .val (.int p1), .val (.int p2), .val (.long (own_key p1 p2)), .second, .val (.int (15 : Int32)), .val (.int iv)] [(.int (lcmpW (fk ((own_h (own_key p1 p2) + t) % 16)) (-1 : Int64)))])
      refine hp (fun tq kq => XS.ifNo X5.here hx rfl (hb hby d14_43) rfl ((if0 _ _).trans (feq (fun q => (own_gnot hne htj hI) ((lw_eq _ _).mp q))).1) kq) ?_
      show G T5 (mkF m 46 #[.val (.ref p0), .val (.int p1), .val (.int p2), .val (.long (own_key p1 p2)), .second, .val (.int (15 : Int32)), .val (.int iv)] [])
      refine hp (fun tq kq => XS.aloadN X5.here hx rfl (hb hby d14_46) rfl rfl kq) ?_
      show G T5 (mkF m 47 #[.val (.ref p0), .val (.int p1), .val (.int p2), .val (.long (own_key p1 p2)), .second, .val (.int (15 : Int32)), .val (.int iv)] [(.ref p0)])
      obtain ⟨T6, X6, e6, st6⟩ := getF X5 hx hZ hown (host := "") (Or.inl (hw _ (List.mem_of_getElem? (i := 11) rfl))) Via.refl e5 F_k (g := (mkF m 47 #[.val (.ref p0), .val (.int p1), .val (.int p2), .val (.long (own_key p1 p2)), .second, .val (.int (15 : Int32)), .val (.int iv)] [(.ref p0)])) rfl rfl (hb hby d14_47)
      refine hp st6 ?_
      show G T6 (mkF m 50 #[.val (.ref p0), .val (.int p1), .val (.int p2), .val (.long (own_key p1 p2)), .second, .val (.int (15 : Int32)), .val (.int iv)] [(.ref kA)])
      refine hp (fun tq kq => XS.iload X6.here hx rfl (hb hby d14_50) rfl kq) ?_
      show G T6 (mkF m 52 #[.val (.ref p0), .val (.int p1), .val (.int p2), .val (.long (own_key p1 p2)), .second, .val (.int (15 : Int32)), .val (.int iv)] [(.int iv), (.ref kA)])
      refine hp (own_ldJ X6 hx hZ e6 V_k (j := iv) ((own_h (own_key p1 p2) + t) % 16) hI.2.1 hI.2.2 (Nat.mod_lt _ (by decide)) (g := (mkF m 52 #[.val (.ref p0), .val (.int p1), .val (.int p2), .val (.long (own_key p1 p2)), .second, .val (.int (15 : Int32)), .val (.int iv)] [(.int iv), (.ref kA)])) rfl rfl (hb hby d14_52)) ?_
      show G T6 (mkF m 53 #[.val (.ref p0), .val (.int p1), .val (.int p2), .val (.long (own_key p1 p2)), .second, .val (.int (15 : Int32)), .val (.int iv)] [(.long (fk ((own_h (own_key p1 p2) + t) % 16)))])
      refine hp (fun tq kq => XS.lloadN X6.here hx rfl (hb hby d14_53) rfl kq) ?_
      show G T6 (mkF m 54 #[.val (.ref p0), .val (.int p1), .val (.int p2), .val (.long (own_key p1 p2)), .second, .val (.int (15 : Int32)), .val (.int iv)] [(.long (own_key p1 p2)), (.long (fk ((own_h (own_key p1 p2) + t) % 16)))])
      refine hp (fun tq kq => XS.lcmp X6.here hx rfl (hb hby d14_54) rfl kq) ?_
      show G T6 (mkF m 55 #[.val (.ref p0), .val (.int p1), .val (.int p2), .val (.long (own_key p1 p2)), .second, .val (.int (15 : Int32)), .val (.int iv)] [(.int (lcmpW (fk ((own_h (own_key p1 p2) + t) % 16)) (own_key p1 p2)))])
      refine hp (fun tq kq => XS.ifNo X6.here hx rfl (hb hby d14_55) rfl ((if0 _ _).trans (teq ((lw_eq _ _).mpr (own_ghit htj hI))).2) kq) ?_
      show G T6 (mkF m 58 #[.val (.ref p0), .val (.int p1), .val (.int p2), .val (.long (own_key p1 p2)), .second, .val (.int (15 : Int32)), .val (.int iv)] [])
      refine hp (fun tq kq => XS.aloadN X6.here hx rfl (hb hby d14_58) rfl rfl kq) ?_
      show G T6 (mkF m 59 #[.val (.ref p0), .val (.int p1), .val (.int p2), .val (.long (own_key p1 p2)), .second, .val (.int (15 : Int32)), .val (.int iv)] [(.ref p0)])
      obtain ⟨T7, X7, e7, st7⟩ := getF X6 hx hZ hown (host := "") (Or.inl (hw _ (List.mem_of_getElem? (i := 14) rfl))) Via.refl e6 F_v (g := (mkF m 59 #[.val (.ref p0), .val (.int p1), .val (.int p2), .val (.long (own_key p1 p2)), .second, .val (.int (15 : Int32)), .val (.int iv)] [(.ref p0)])) rfl rfl (hb hby d14_59)
      refine hp st7 ?_
      show G T7 (mkF m 62 #[.val (.ref p0), .val (.int p1), .val (.int p2), .val (.long (own_key p1 p2)), .second, .val (.int (15 : Int32)), .val (.int iv)] [(.ref vA)])
      refine hp (fun tq kq => XS.iload X7.here hx rfl (hb hby d14_62) rfl kq) ?_
      show G T7 (mkF m 64 #[.val (.ref p0), .val (.int p1), .val (.int p2), .val (.long (own_key p1 p2)), .second, .val (.int (15 : Int32)), .val (.int iv)] [(.int iv), (.ref vA)])
      refine hp (own_ldI X7 hx hZ e7 V_v (j := iv) ((own_h (own_key p1 p2) + t) % 16) hI.2.1 hI.2.2 (Nat.mod_lt _ (by decide)) (g := (mkF m 64 #[.val (.ref p0), .val (.int p1), .val (.int p2), .val (.long (own_key p1 p2)), .second, .val (.int (15 : Int32)), .val (.int iv)] [(.int iv), (.ref vA)])) rfl rfl (hb hby d14_64)) ?_
      show G T7 (mkF m 65 #[.val (.ref p0), .val (.int p1), .val (.int p2), .val (.long (own_key p1 p2)), .second, .val (.int (15 : Int32)), .val (.int iv)] [(.int (fv ((own_h (own_key p1 p2) + t) % 16)))])
      exact hR X7 (fun fs hl => retI X7 hx hret (hb hby d14_65) hl) (fun q => by rw [hret] at q; cases q) (by rw [e7]; exact ⟨own_gval hI, N9, rfl⟩) hc9 hs9
    | succ d ih =>
      intro t T9 locs9 c9 s9 iv X9 e9 N9 hc9 hs9 hI
      show G T9 (mkF m 32 #[.val (.ref p0), .val (.int p1), .val (.int p2), .val (.long (own_key p1 p2)), .second, .val (.int (15 : Int32)), .val (.int iv)] [])
      refine hp (fun tq kq => XS.aloadN X9.here hx rfl (hb hby d14_32) rfl rfl kq) ?_
      show G T9 (mkF m 33 #[.val (.ref p0), .val (.int p1), .val (.int p2), .val (.long (own_key p1 p2)), .second, .val (.int (15 : Int32)), .val (.int iv)] [(.ref p0)])
      obtain ⟨T8, X8, e8, st8⟩ := getF X9 hx hZ hown (host := "") (Or.inl (hw _ (List.mem_of_getElem? (i := 11) rfl))) Via.refl e9 F_k (g := (mkF m 33 #[.val (.ref p0), .val (.int p1), .val (.int p2), .val (.long (own_key p1 p2)), .second, .val (.int (15 : Int32)), .val (.int iv)] [(.ref p0)])) rfl rfl (hb hby d14_33)
      refine hp st8 ?_
      show G T8 (mkF m 36 #[.val (.ref p0), .val (.int p1), .val (.int p2), .val (.long (own_key p1 p2)), .second, .val (.int (15 : Int32)), .val (.int iv)] [(.ref kA)])
      refine hp (fun tq kq => XS.iload X8.here hx rfl (hb hby d14_36) rfl kq) ?_
      show G T8 (mkF m 38 #[.val (.ref p0), .val (.int p1), .val (.int p2), .val (.long (own_key p1 p2)), .second, .val (.int (15 : Int32)), .val (.int iv)] [(.int iv), (.ref kA)])
      refine hp (own_ldJ X8 hx hZ e8 V_k (j := iv) ((own_h (own_key p1 p2) + t) % 16) hI.2.1 hI.2.2 (Nat.mod_lt _ (by decide)) (g := (mkF m 38 #[.val (.ref p0), .val (.int p1), .val (.int p2), .val (.long (own_key p1 p2)), .second, .val (.int (15 : Int32)), .val (.int iv)] [(.int iv), (.ref kA)])) rfl rfl (hb hby d14_38)) ?_
      show G T8 (mkF m 39 #[.val (.ref p0), .val (.int p1), .val (.int p2), .val (.long (own_key p1 p2)), .second, .val (.int (15 : Int32)), .val (.int iv)] [(.long (fk ((own_h (own_key p1 p2) + t) % 16)))])
      refine hp (fun tq kq => X8.ldc2Long hx hown (mvT hZ (hw _ (List.mem_of_getElem? (i := 31) rfl))) (g := (mkF m 39 #[.val (.ref p0), .val (.int p1), .val (.int p2), .val (.long (own_key p1 p2)), .second, .val (.int (15 : Int32)), .val (.int iv)] [(.long (fk ((own_h (own_key p1 p2) + t) % 16)))])) rfl (hb hby d14_39) _ kq) ?_
      show G T8 (mkF m 42 #[.val (.ref p0), .val (.int p1), .val (.int p2), .val (.long (own_key p1 p2)), .second, .val (.int (15 : Int32)), .val (.int iv)] [(.long (-1 : Int64)), (.long (fk ((own_h (own_key p1 p2) + t) % 16)))])
      refine hp (fun tq kq => XS.lcmp X8.here hx rfl (hb hby d14_42) rfl kq) ?_
      show G T8 (mkF m 43 #[.val (.ref p0), .val (.int p1), .val (.int p2), .val (.long (own_key p1 p2)), .second, .val (.int (15 : Int32)), .val (.int iv)] [(.int (lcmpW (fk ((own_h (own_key p1 p2) + t) % 16)) (-1 : Int64)))])
      refine hp (fun tq kq => XS.ifNo X8.here hx rfl (hb hby d14_43) rfl ((if0 _ _).trans (feq (fun q => (own_gbef hbef hI).1 ((lw_eq _ _).mp q))).1) kq) ?_
      show G T8 (mkF m 46 #[.val (.ref p0), .val (.int p1), .val (.int p2), .val (.long (own_key p1 p2)), .second, .val (.int (15 : Int32)), .val (.int iv)] [])
      refine hp (fun tq kq => XS.aloadN X8.here hx rfl (hb hby d14_46) rfl rfl kq) ?_
      show G T8 (mkF m 47 #[.val (.ref p0), .val (.int p1), .val (.int p2), .val (.long (own_key p1 p2)), .second, .val (.int (15 : Int32)), .val (.int iv)] [(.ref p0)])
      obtain ⟨T9, X9, e9, st9⟩ := getF X8 hx hZ hown (host := "") (Or.inl (hw _ (List.mem_of_getElem? (i := 11) rfl))) Via.refl e8 F_k (g := (mkF m 47 #[.val (.ref p0), .val (.int p1), .val (.int p2), .val (.long (own_key p1 p2)), .second, .val (.int (15 : Int32)), .val (.int iv)] [(.ref p0)])) rfl rfl (hb hby d14_47)
      refine hp st9 ?_
      show G T9 (mkF m 50 #[.val (.ref p0), .val (.int p1), .val (.int p2), .val (.long (own_key p1 p2)), .second, .val (.int (15 : Int32)), .val (.int iv)] [(.ref kA)])
      refine hp (fun tq kq => XS.iload X9.here hx rfl (hb hby d14_50) rfl kq) ?_
      show G T9 (mkF m 52 #[.val (.ref p0), .val (.int p1), .val (.int p2), .val (.long (own_key p1 p2)), .second, .val (.int (15 : Int32)), .val (.int iv)] [(.int iv), (.ref kA)])
      refine hp (own_ldJ X9 hx hZ e9 V_k (j := iv) ((own_h (own_key p1 p2) + t) % 16) hI.2.1 hI.2.2 (Nat.mod_lt _ (by decide)) (g := (mkF m 52 #[.val (.ref p0), .val (.int p1), .val (.int p2), .val (.long (own_key p1 p2)), .second, .val (.int (15 : Int32)), .val (.int iv)] [(.int iv), (.ref kA)])) rfl rfl (hb hby d14_52)) ?_
      show G T9 (mkF m 53 #[.val (.ref p0), .val (.int p1), .val (.int p2), .val (.long (own_key p1 p2)), .second, .val (.int (15 : Int32)), .val (.int iv)] [(.long (fk ((own_h (own_key p1 p2) + t) % 16)))])
      refine hp (fun tq kq => XS.lloadN X9.here hx rfl (hb hby d14_53) rfl kq) ?_
      show G T9 (mkF m 54 #[.val (.ref p0), .val (.int p1), .val (.int p2), .val (.long (own_key p1 p2)), .second, .val (.int (15 : Int32)), .val (.int iv)] [(.long (own_key p1 p2)), (.long (fk ((own_h (own_key p1 p2) + t) % 16)))])
      refine hp (fun tq kq => XS.lcmp X9.here hx rfl (hb hby d14_54) rfl kq) ?_
      show G T9 (mkF m 55 #[.val (.ref p0), .val (.int p1), .val (.int p2), .val (.long (own_key p1 p2)), .second, .val (.int (15 : Int32)), .val (.int iv)] [(.int (lcmpW (fk ((own_h (own_key p1 p2) + t) % 16)) (own_key p1 p2)))])
      refine hp (fun tq kq => XS.ifYes X9.here hx rfl (pc0 := 55) (pc' := 66) rfl (hb hby d14_55) rfl ((if0 _ _).trans (feq (fun q => (own_gbef hbef hI).2 ((lw_eq _ _).mp q))).2) (by decide) (by decide) kq) ?_
      show G T9 (mkF m 66 #[.val (.ref p0), .val (.int p1), .val (.int p2), .val (.long (own_key p1 p2)), .second, .val (.int (15 : Int32)), .val (.int iv)] [])
      refine hp (fun tq kq => XS.iload X9.here hx rfl (hb hby d14_66) rfl kq) ?_
      show G T9 (mkF m 68 #[.val (.ref p0), .val (.int p1), .val (.int p2), .val (.long (own_key p1 p2)), .second, .val (.int (15 : Int32)), .val (.int iv)] [(.int iv)])
      refine hp (fun tq kq => XS.iconst X9.here hx rfl (hb hby d14_68) kq) ?_
      show G T9 (mkF m 69 #[.val (.ref p0), .val (.int p1), .val (.int p2), .val (.long (own_key p1 p2)), .second, .val (.int (15 : Int32)), .val (.int iv)] [(.int (1 : Int32)), (.int iv)])
      refine hp (fun tq kq => XS.iadd X9.here hx rfl (hb hby d14_69) rfl kq) ?_
      show G T9 (mkF m 70 #[.val (.ref p0), .val (.int p1), .val (.int p2), .val (.long (own_key p1 p2)), .second, .val (.int (15 : Int32)), .val (.int iv)] [(.int (iv + (1 : Int32)))])
      refine hp (fun tq kq => XS.iload X9.here hx rfl (hb hby d14_70) rfl kq) ?_
      show G T9 (mkF m 72 #[.val (.ref p0), .val (.int p1), .val (.int p2), .val (.long (own_key p1 p2)), .second, .val (.int (15 : Int32)), .val (.int iv)] [(.int (15 : Int32)), (.int (iv + (1 : Int32)))])
      refine hp (fun tq kq => XS.iand X9.here hx rfl (hb hby d14_72) rfl kq) ?_
      show G T9 (mkF m 73 #[.val (.ref p0), .val (.int p1), .val (.int p2), .val (.long (own_key p1 p2)), .second, .val (.int (15 : Int32)), .val (.int iv)] [(.int ((iv + (1 : Int32)) &&& (15 : Int32)))])
      refine hp (fun tq kq => XS.istore X9.here hx rfl (hb hby d14_73) rfl (l' := #[.val (.ref p0), .val (.int p1), .val (.int p2), .val (.long (own_key p1 p2)), .second, .val (.int (15 : Int32)), .val (.int ((iv + (1 : Int32)) &&& (15 : Int32)))]) rfl kq) ?_
      show G T9 (mkF m 75 #[.val (.ref p0), .val (.int p1), .val (.int p2), .val (.long (own_key p1 p2)), .second, .val (.int (15 : Int32)), .val (.int ((iv + (1 : Int32)) &&& (15 : Int32)))] [])
      refine hp (fun tq kq => XS.goto X9.here hx rfl (pc0 := 75) (pc' := 32) rfl (hb hby d14_75) (by decide) (by decide) kq) ?_
      show G T9 (mkF m 32 #[.val (.ref p0), .val (.int p1), .val (.int p2), .val (.long (own_key p1 p2)), .second, .val (.int (15 : Int32)), .val (.int ((iv + (1 : Int32)) &&& (15 : Int32)))] [])
      exact ih (t + 1) _ _ _ _ _ X9 e9 N9 hc9 hs9 (own_gnext hI)
  exact loop tj 0 _ _ _ _ _ X4 e4 F4 (by decide) (by decide) (own_gstart (own_key p1 p2) tj)
theorem d3_0 : decode prog_74_method_4_code 0 = .ok (.iload_n 1, 1) := by decide +kernel
theorem d3_1 : decode prog_74_method_4_code 1 = .ok (.ifCond .lt 11, 3) := by decide +kernel
theorem d3_4 : decode prog_74_method_4_code 4 = .ok (.iload_n 2, 1) := by decide +kernel
theorem d3_5 : decode prog_74_method_4_code 5 = .ok (.ifCond .lt 7, 3) := by decide +kernel
theorem d3_8 : decode prog_74_method_4_code 8 = .ok (.iload_n 3, 1) := by decide +kernel
theorem d3_9 : decode prog_74_method_4_code 9 = .ok (.ifCond .ge 19, 3) := by decide +kernel
theorem d3_12 : decode prog_74_method_4_code 12 = .ok (.new 31, 3) := by decide +kernel
theorem d3_15 : decode prog_74_method_4_code 15 = .ok (.dup, 1) := by decide +kernel
theorem d3_16 : decode prog_74_method_4_code 16 = .ok (.iload_n 1, 1) := by decide +kernel
theorem d3_17 : decode prog_74_method_4_code 17 = .ok (.iload_n 2, 1) := by decide +kernel
theorem d3_18 : decode prog_74_method_4_code 18 = .ok (.iload_n 3, 1) := by decide +kernel
theorem d3_24 : decode prog_74_method_4_code 24 = .ok (.invokespecial 37, 3) := by decide +kernel
theorem d3_27 : decode prog_74_method_4_code 27 = .ok (.athrow, 1) := by decide +kernel
theorem d3_28 : decode prog_74_method_4_code 28 = .ok (.aload_n 0, 1) := by decide +kernel
theorem d3_29 : decode prog_74_method_4_code 29 = .ok (.getfield 17, 3) := by decide +kernel
theorem d3_32 : decode prog_74_method_4_code 32 = .ok (.iconst 1, 1) := by decide +kernel
theorem d3_33 : decode prog_74_method_4_code 33 = .ok (.iadd, 1) := by decide +kernel
theorem d3_34 : decode prog_74_method_4_code 34 = .ok (.iconst 3, 1) := by decide +kernel
theorem d3_35 : decode prog_74_method_4_code 35 = .ok (.imul, 1) := by decide +kernel
theorem d3_36 : decode prog_74_method_4_code 36 = .ok (.aload_n 0, 1) := by decide +kernel
theorem d3_37 : decode prog_74_method_4_code 37 = .ok (.getfield 7, 3) := by decide +kernel
theorem d3_40 : decode prog_74_method_4_code 40 = .ok (.arraylength, 1) := by decide +kernel
theorem d3_41 : decode prog_74_method_4_code 41 = .ok (.iconst 2, 1) := by decide +kernel
theorem d3_42 : decode prog_74_method_4_code 42 = .ok (.imul, 1) := by decide +kernel
theorem d3_43 : decode prog_74_method_4_code 43 = .ok (.if_icmp .le 19, 3) := by decide +kernel
theorem d3_46 : decode prog_74_method_4_code 46 = .ok (.aload_n 0, 1) := by decide +kernel
theorem d3_47 : decode prog_74_method_4_code 47 = .ok (.bipush 16, 2) := by decide +kernel
theorem d3_49 : decode prog_74_method_4_code 49 = .ok (.aload_n 0, 1) := by decide +kernel
theorem d3_50 : decode prog_74_method_4_code 50 = .ok (.getfield 7, 3) := by decide +kernel
theorem d3_53 : decode prog_74_method_4_code 53 = .ok (.arraylength, 1) := by decide +kernel
theorem d3_54 : decode prog_74_method_4_code 54 = .ok (.iconst 2, 1) := by decide +kernel
theorem d3_55 : decode prog_74_method_4_code 55 = .ok (.imul, 1) := by decide +kernel
theorem d3_56 : decode prog_74_method_4_code 56 = .ok (.invokestatic 40, 3) := by decide +kernel
theorem d3_59 : decode prog_74_method_4_code 59 = .ok (.invokevirtual 46, 3) := by decide +kernel
theorem d3_62 : decode prog_74_method_4_code 62 = .ok (.aload_n 0, 1) := by decide +kernel
theorem d3_63 : decode prog_74_method_4_code 63 = .ok (.iload_n 1, 1) := by decide +kernel
theorem d3_64 : decode prog_74_method_4_code 64 = .ok (.iload_n 2, 1) := by decide +kernel
theorem d3_65 : decode prog_74_method_4_code 65 = .ok (.invokestatic 21, 3) := by decide +kernel
theorem d3_68 : decode prog_74_method_4_code 68 = .ok (.iload_n 3, 1) := by decide +kernel
theorem d3_69 : decode prog_74_method_4_code 69 = .ok (.invokevirtual 50, 3) := by decide +kernel
theorem d3_72 : decode prog_74_method_4_code 72 = .ok (.ifCond .eq 13, 3) := by decide +kernel
theorem d3_75 : decode prog_74_method_4_code 75 = .ok (.aload_n 0, 1) := by decide +kernel
theorem d3_76 : decode prog_74_method_4_code 76 = .ok (.dup, 1) := by decide +kernel
theorem d3_77 : decode prog_74_method_4_code 77 = .ok (.getfield 17, 3) := by decide +kernel
theorem d3_80 : decode prog_74_method_4_code 80 = .ok (.iconst 1, 1) := by decide +kernel
theorem d3_81 : decode prog_74_method_4_code 81 = .ok (.iadd, 1) := by decide +kernel
theorem d3_82 : decode prog_74_method_4_code 82 = .ok (.putfield 17, 3) := by decide +kernel
theorem d3_85 : decode prog_74_method_4_code 85 = .ok (.return_, 1) := by decide +kernel
theorem own_ef3 (m : MethodId) (p0 : Addr) (p1 : Int32) (p2 : Int32) (p3 : Int32) : entryFrame m #[(.ref p0), (.int p1), (.int p2), (.int p3)] 4 = mkF m 0 #[.val (.ref p0), .val (.int p1), .val (.int p2), .val (.int p3)] [] := by first | (simp [entryFrame, mkF, argsToLocals, Value.category]; done) | rfl
abbrev own_Qb (Z : State) (p0 ka va : Addr) (sz : Int32) (fk : Nat → Int64) (fv : Nat → Int32) (p1 p2 p3 : Int32) (h0 : Heap) (n0 : Nat) (v : Option Value) (h : Heap) (L : List Loc) : Prop := ∃ (fk' : Nat → Int64) (fv' : Nat → Int32) (sz' rv : Int32), v = none ∧ Fr n0 L ∧ Keep h0 h [p0, ka, va] ∧ Exa Z h p0 "com/example/referent/referent/solver/IntPairMap" ∧ Fld Z h p0 "com/example/referent/referent/solver/IntPairMap" "keys" "[J" (.ref ka) ∧ Fld Z h p0 "com/example/referent/referent/solver/IntPairMap" "values" "[I" (.ref va) ∧ Fld Z h p0 "com/example/referent/referent/solver/IntPairMap" "size" "I" (.int sz') ∧ own_AJ Z h ka 16 fk' ∧ own_AI Z h va .int 16 fv' ∧ own_rel fk fv (own_key p1 p2) p3 fk' fv' rv ∧ (sz' = sz ∨ sz' = sz + 1)
theorem own_pn3 : plainName "com/example/referent/referent/solver/IntPairMap" = true := by first | (simp [plainName, overriddenIn]; done) | decide +kernel
set_option maxRecDepth 65536 in
set_option maxHeartbeats 40000000 in
theorem rm3 (l : Launch) (Z : State) (a0 : Array Value) (hw : ∀ d ∈ tables_1, d.before a0 Z = true) (ws : List Jvm.Cond) (p0 : Addr) (p1 : Int32) (p2 : Int32) (p3 : Int32) (ka va : Addr) (sz : Int32) (fk : Nat → Int64) (fv : Nat → Int32) (te : Nat) (h0 : Heap) (n0 : Nat) (E_p0 : Exa Z h0 p0 "com/example/referent/referent/solver/IntPairMap") (F_keys : Fld Z h0 p0 "com/example/referent/referent/solver/IntPairMap" "keys" "[J" (.ref ka)) (F_values : Fld Z h0 p0 "com/example/referent/referent/solver/IntPairMap" "values" "[I" (.ref va)) (F_size : Fld Z h0 p0 "com/example/referent/referent/solver/IntPairMap" "size" "I" (.int sz)) (V_ka : own_AJ Z h0 ka 16 fk) (V_va : own_AI Z h0 va .int 16 fv) (g_p0 : n0 ≤ p0) (g_ka : n0 ≤ ka) (g_va : n0 ≤ va) (nkv : ka ≠ va) (nka : p0 ≠ ka) (nva : p0 ≠ va) (hn1 : ¬ p1 < (0 : Int32)) (hn2 : ¬ p2 < (0 : Int32)) (hn3 : ¬ p3 < (0 : Int32)) (hte : fk ((own_h (own_key p1 p2) + te) % 16) = (-1 : Int64)) (hsz : ¬ (32 : Int32) < ((sz + (1 : Int32)) * (3 : Int32))) :
    MetFree l (⟨"com/example/referent/referent/solver/IntPairMap", "put", "(III)V"⟩ : MethodName) (head1 (Jvm.Cond.code (⟨"com/example/referent/referent/solver/IntPairMap", "put", "(III)V"⟩ : MethodName) prog_74_method_4_code 4 none :: ws) ({ frames := 2, cells := 0, slots := 0, locals := 33 } : Room)) (fun a U => a = #[(.ref p0), (.int p1), (.int p2), (.int p3)] ∧ Z.Warmed39 U.vm ∧ U.heap = h0) (fun _ _ _ _ _ => True) (fun _ U o U' => ∃ v L, o = .returned v ∧ own_Qb Z p0 ka va sz fk fv p1 p2 p3 h0 n0 v U'.heap L ∧ FrameEnd U o U' L ({ frames := 2, cells := 0, slots := 0, locals := 33 } : Room).cells ({ frames := 2, cells := 0, slots := 0, locals := 33 } : Room).slots) := by
  refine own_contract (plainFor_of_name own_pn3) (fun m => own_ef3 m p0 p1 p2 p3) ?_
  intro p e s m below meth c s₁ G hx hby hml0 hown0 hnm hret hZ X0 e0 hp hR
  have hml : c.maxLocals = 4 := hml0
  have hown : s.vm.findClass "com/example/referent/referent/solver/IntPairMap" = some m.cls := hown0
  have N0 := Fr.nil n0
  show G s₁ (mkF m 0 #[.val (.ref p0), .val (.int p1), .val (.int p2), .val (.int p3)] [])
  have K0 : Keep h0 h0 [p0, ka, va] := Keep.refl _ _
  refine hp (fun tq kq => XS.iloadN X0.here hx rfl (hb hby d3_0) rfl kq) ?_
  show G s₁ (mkF m 1 #[.val (.ref p0), .val (.int p1), .val (.int p2), .val (.int p3)] [(.int p1)])
  refine hp (fun tq kq => XS.ifNo X0.here hx rfl (hb hby d3_1) rfl ((if0 _ _).trans (flt hn1).1) kq) ?_
  show G s₁ (mkF m 4 #[.val (.ref p0), .val (.int p1), .val (.int p2), .val (.int p3)] [])
  refine hp (fun tq kq => XS.iloadN X0.here hx rfl (hb hby d3_4) rfl kq) ?_
  show G s₁ (mkF m 5 #[.val (.ref p0), .val (.int p1), .val (.int p2), .val (.int p3)] [(.int p2)])
  refine hp (fun tq kq => XS.ifNo X0.here hx rfl (hb hby d3_5) rfl ((if0 _ _).trans (flt hn2).1) kq) ?_
  show G s₁ (mkF m 8 #[.val (.ref p0), .val (.int p1), .val (.int p2), .val (.int p3)] [])
  refine hp (fun tq kq => XS.iloadN X0.here hx rfl (hb hby d3_8) rfl kq) ?_
  show G s₁ (mkF m 9 #[.val (.ref p0), .val (.int p1), .val (.int p2), .val (.int p3)] [(.int p3)])
  refine hp (fun tq kq => XS.ifYes X0.here hx rfl (pc0 := 9) (pc' := 28) rfl (hb hby d3_9) rfl ((if0 _ _).trans (flt hn3).2.1) (by decide) (by decide) kq) ?_
  show G s₁ (mkF m 28 #[.val (.ref p0), .val (.int p1), .val (.int p2), .val (.int p3)] [])
  refine hp (fun tq kq => XS.aloadN X0.here hx rfl (hb hby d3_28) rfl rfl kq) ?_
  show G s₁ (mkF m 29 #[.val (.ref p0), .val (.int p1), .val (.int p2), .val (.int p3)] [(.ref p0)])
  obtain ⟨T1, X1, e1, st1⟩ := getF X0 hx hZ hown (host := "") (Or.inl (hw _ (List.mem_of_getElem? (i := 21) rfl))) Via.refl e0 F_size (g := (mkF m 29 #[.val (.ref p0), .val (.int p1), .val (.int p2), .val (.int p3)] [(.ref p0)])) rfl rfl (hb hby d3_29)
  refine hp st1 ?_
  show G T1 (mkF m 32 #[.val (.ref p0), .val (.int p1), .val (.int p2), .val (.int p3)] [(.int sz)])
  refine hp (fun tq kq => XS.iconst X1.here hx rfl (hb hby d3_32) kq) ?_
  show G T1 (mkF m 33 #[.val (.ref p0), .val (.int p1), .val (.int p2), .val (.int p3)] [(.int (1 : Int32)), (.int sz)])
  refine hp (fun tq kq => XS.iadd X1.here hx rfl (hb hby d3_33) rfl kq) ?_
  show G T1 (mkF m 34 #[.val (.ref p0), .val (.int p1), .val (.int p2), .val (.int p3)] [(.int (sz + (1 : Int32)))])
  refine hp (fun tq kq => XS.iconst X1.here hx rfl (hb hby d3_34) kq) ?_
  show G T1 (mkF m 35 #[.val (.ref p0), .val (.int p1), .val (.int p2), .val (.int p3)] [(.int (3 : Int32)), (.int (sz + (1 : Int32)))])
  refine hp (fun tq kq => XS.imul X1.here hx rfl (hb hby d3_35) rfl kq) ?_
  show G T1 (mkF m 36 #[.val (.ref p0), .val (.int p1), .val (.int p2), .val (.int p3)] [(.int ((sz + (1 : Int32)) * (3 : Int32)))])
  refine hp (fun tq kq => XS.aloadN X1.here hx rfl (hb hby d3_36) rfl rfl kq) ?_
  show G T1 (mkF m 37 #[.val (.ref p0), .val (.int p1), .val (.int p2), .val (.int p3)] [(.ref p0), (.int ((sz + (1 : Int32)) * (3 : Int32)))])
  obtain ⟨T2, X2, e2, st2⟩ := getF X1 hx hZ hown (host := "") (Or.inl (hw _ (List.mem_of_getElem? (i := 11) rfl))) Via.refl e1 F_keys (g := (mkF m 37 #[.val (.ref p0), .val (.int p1), .val (.int p2), .val (.int p3)] [(.ref p0), (.int ((sz + (1 : Int32)) * (3 : Int32)))])) rfl rfl (hb hby d3_37)
  refine hp st2 ?_
  show G T2 (mkF m 40 #[.val (.ref p0), .val (.int p1), .val (.int p2), .val (.int p3)] [(.ref ka), (.int ((sz + (1 : Int32)) * (3 : Int32)))])
  refine hp (own_lenJ X2 hx hZ e2 V_ka (16 : Int32) rfl (g := (mkF m 40 #[.val (.ref p0), .val (.int p1), .val (.int p2), .val (.int p3)] [(.ref ka), (.int ((sz + (1 : Int32)) * (3 : Int32)))])) rfl rfl (hb hby d3_40)) ?_
  show G T2 (mkF m 41 #[.val (.ref p0), .val (.int p1), .val (.int p2), .val (.int p3)] [(.int (16 : Int32)), (.int ((sz + (1 : Int32)) * (3 : Int32)))])
  refine hp (fun tq kq => XS.iconst X2.here hx rfl (hb hby d3_41) kq) ?_
  show G T2 (mkF m 42 #[.val (.ref p0), .val (.int p1), .val (.int p2), .val (.int p3)] [(.int (2 : Int32)), (.int (16 : Int32)), (.int ((sz + (1 : Int32)) * (3 : Int32)))])
  refine hp (fun tq kq => XS.imul X2.here hx rfl (hb hby d3_42) rfl kq) ?_
  show G T2 (mkF m 43 #[.val (.ref p0), .val (.int p1), .val (.int p2), .val (.int p3)] [(.int (32 : Int32)), (.int ((sz + (1 : Int32)) * (3 : Int32)))])
  refine hp (fun tq kq => XS.icmpYes X2.here hx rfl (pc0 := 43) (pc' := 62) rfl (hb hby d3_43) rfl (flt hsz).2.2.2 (by decide) (by decide) kq) ?_
  show G T2 (mkF m 62 #[.val (.ref p0), .val (.int p1), .val (.int p2), .val (.int p3)] [])
  refine hp (fun tq kq => XS.aloadN X2.here hx rfl (hb hby d3_62) rfl rfl kq) ?_
  show G T2 (mkF m 63 #[.val (.ref p0), .val (.int p1), .val (.int p2), .val (.int p3)] [(.ref p0)])
  refine hp (fun tq kq => XS.iloadN X2.here hx rfl (hb hby d3_63) rfl kq) ?_
  show G T2 (mkF m 64 #[.val (.ref p0), .val (.int p1), .val (.int p2), .val (.int p3)] [(.int p1), (.ref p0)])
  refine hp (fun tq kq => XS.iloadN X2.here hx rfl (hb hby d3_64) rfl kq) ?_
  show G T2 (mkF m 65 #[.val (.ref p0), .val (.int p1), .val (.int p2), .val (.int p3)] [(.int p2), (.int p1), (.ref p0)])
  obtain ⟨v3, T3, L3, X3, hQ3, st3⟩ := own_callS X2 hx hZ (y := (⟨"com/example/referent/referent/solver/IntPairMap", "key", "(II)J"⟩ : MethodName)) (rm := ({ frames := 0, cells := 0, slots := 0, locals := 0 } : Room)) 1 hown (hw _ (List.mem_of_getElem? (i := 36) rfl)) (hw _ (List.mem_of_getElem? (i := 37) rfl)) (hw _ (List.mem_of_getElem? (i := 3) rfl)) (hw _ (List.mem_of_getElem? (i := 38) rfl)) (by decide) (rm7 l Z a0 hw [] p1 p2 h0 n0) e2 (by decide) (by decide) (g := (mkF m 65 #[.val (.ref p0), .val (.int p1), .val (.int p2), .val (.int p3)] [(.int p2), (.int p1), (.ref p0)])) rfl (by rw [hml]; rfl) [(.int p1), (.int p2)] [(.ref p0)] own_pd2 rfl rfl (by show 2 * 0 + _ ≤ _; exact Nat.le_of_eq rfl) (hb hby d3_65) rfl (by decide) (by decide)
  obtain ⟨rfl, N3, e3⟩ := hQ3
  have F3 := Fr.app N0 N3
  refine hp st3 ?_
  show G T3 (mkF m 68 #[.val (.ref p0), .val (.int p1), .val (.int p2), .val (.int p3)] [(.long (own_key p1 p2)), (.ref p0)])
  refine hp (fun tq kq => XS.iloadN X3.here hx rfl (hb hby d3_68) rfl kq) ?_
  show G T3 (mkF m 69 #[.val (.ref p0), .val (.int p1), .val (.int p2), .val (.int p3)] [(.int p3), (.long (own_key p1 p2)), (.ref p0)])
  obtain ⟨v4, T4, L4, X4, hQ4, st4⟩ := own_callP X3 hx hZ (y := (⟨"com/example/referent/referent/solver/IntPairMap", "place", "(JI)Z"⟩ : MethodName)) (z := (⟨"com/example/referent/referent/solver/IntPairMap", "put", "(III)V"⟩ : MethodName)) (rm := ({ frames := 1, cells := 0, slots := 0, locals := 16 } : Room)) 0 hown (hw _ (List.mem_of_getElem? (i := 19) rfl)) rfl (hw _ (List.mem_of_getElem? (i := 39) rfl)) (hw _ (List.mem_of_getElem? (i := 40) rfl)) (hw _ (List.mem_of_getElem? (i := 41) rfl)) (hw _ (List.mem_of_getElem? (i := 3) rfl)) (hw _ (List.mem_of_getElem? (i := 42) rfl)) (by decide) (rm8 l Z a0 hw [] p0 (own_key p1 p2) p3 ka va fk fv 0 te h0 n0 F_keys F_values V_ka V_va (by decide) hte g_ka g_va nkv nka nva) e3 E_p0 (by decide) (by decide) (g := (mkF m 69 #[.val (.ref p0), .val (.int p1), .val (.int p2), .val (.int p3)] [(.int p3), (.long (own_key p1 p2)), (.ref p0)])) rfl (by rw [hml]; rfl) [(.long (own_key p1 p2)), (.int p3)] [] own_pd5 rfl rfl (by show 2 * 0 + _ ≤ _; exact Nat.le_of_eq rfl) (hb hby d3_69) rfl (by decide) (by decide)
  obtain ⟨rv, fk4, fv4, rfl, N4, Kc4, V4_ka, V4_va, hrel⟩ := hQ4
  have N4b := Fr.app F3 N4
  have E4_p0 := E_p0.keep Kc4
  have F4_keys_p0 := F_keys.keep Kc4 (ninS nka (ninS nva nin0))
  have F4_values_p0 := F_values.keep Kc4 (ninS nka (ninS nva nin0))
  have F4_size_p0 := F_size.keep Kc4 (ninS nka (ninS nva nin0))
  have K4 := K0.trans Kc4 (allS (Or.inl (by simp)) (allS (Or.inl (by simp)) all0))
  refine hp st4 ?_
  show G T4 (mkF m 72 #[.val (.ref p0), .val (.int p1), .val (.int p2), .val (.int p3)] [(.int rv)])
  by_cases hb5 : rv = (0 : Int32)
  · refine hp (fun tq kq => XS.ifYes X4.here hx rfl (pc0 := 72) (pc' := 85) rfl (hb hby d3_72) rfl ((if0 _ _).trans (teq hb5).1) (by decide) (by decide) kq) ?_
    show G T4 (mkF m 85 #[.val (.ref p0), .val (.int p1), .val (.int p2), .val (.int p3)] [])
    exact hR X4 (fun fs hl => X4.returnOut hx hret (hb hby d3_85) hl) (fun _ => rfl) ⟨_, _, sz, rv, rfl, N4b, K4, E4_p0, F4_keys_p0, F4_values_p0, F4_size_p0, V4_ka, V4_va, hrel, Or.inl rfl⟩ (by decide) (by decide)
  · refine hp (fun tq kq => XS.ifNo X4.here hx rfl (hb hby d3_72) rfl ((if0 _ _).trans (feq hb5).1) kq) ?_
    show G T4 (mkF m 75 #[.val (.ref p0), .val (.int p1), .val (.int p2), .val (.int p3)] [])
    refine hp (fun tq kq => XS.aloadN X4.here hx rfl (hb hby d3_75) rfl rfl kq) ?_
    show G T4 (mkF m 76 #[.val (.ref p0), .val (.int p1), .val (.int p2), .val (.int p3)] [(.ref p0)])
    refine hp (fun tq kq => XS.dup X4.here hx rfl (hb hby d3_76) rfl rfl kq) ?_
    show G T4 (mkF m 77 #[.val (.ref p0), .val (.int p1), .val (.int p2), .val (.int p3)] [(.ref p0), (.ref p0)])
    obtain ⟨T6, X6, e6, st6⟩ := getF X4 hx hZ hown (host := "") (Or.inl (hw _ (List.mem_of_getElem? (i := 21) rfl))) Via.refl rfl F4_size_p0 (g := (mkF m 77 #[.val (.ref p0), .val (.int p1), .val (.int p2), .val (.int p3)] [(.ref p0), (.ref p0)])) rfl rfl (hb hby d3_77)
    refine hp st6 ?_
    show G T6 (mkF m 80 #[.val (.ref p0), .val (.int p1), .val (.int p2), .val (.int p3)] [(.int sz), (.ref p0)])
    refine hp (fun tq kq => XS.iconst X6.here hx rfl (hb hby d3_80) kq) ?_
    show G T6 (mkF m 81 #[.val (.ref p0), .val (.int p1), .val (.int p2), .val (.int p3)] [(.int (1 : Int32)), (.int sz), (.ref p0)])
    refine hp (fun tq kq => XS.iadd X6.here hx rfl (hb hby d3_81) rfl kq) ?_
    show G T6 (mkF m 82 #[.val (.ref p0), .val (.int p1), .val (.int p2), .val (.int p3)] [(.int (sz + (1 : Int32))), (.ref p0)])
    obtain ⟨T7, h7, X7, e7, W7, st7⟩ := putF X6 hx hZ hown (host := "") (Or.inl (hw _ (List.mem_of_getElem? (i := 21) rfl))) Via.refl e6 F4_size_p0 E4_p0 (Or.inl (hw _ (List.mem_of_getElem? (i := 22) rfl))) (hw _ (List.mem_of_getElem? (i := 2) rfl)) (ty := .int) (by decide) rfl rfl (g := (mkF m 82 #[.val (.ref p0), .val (.int p1), .val (.int p2), .val (.int p3)] [(.int (sz + (1 : Int32))), (.ref p0)])) rfl rfl (hb hby d3_82)
    have F7_size_p0 := Fld.same W7 F4_size_p0
    have V7_ka := V4_ka.other W7 (Ne.symm nka)
    have V7_va := V4_va.other W7 (Ne.symm nva)
    have E7_p0 := Exa.wr W7 E4_p0
    have F7_keys_p0 := Fld.other W7 F4_keys_p0 (Or.inr (slot_ne (Or.inl (hw _ (List.mem_of_getElem? (i := 12) rfl))) (Or.inl (hw _ (List.mem_of_getElem? (i := 22) rfl))) (by decide) (t := (.array .long)) (t' := .int) (by decide) (by decide)))
    have F7_values_p0 := Fld.other W7 F4_values_p0 (Or.inr (slot_ne (Or.inl (hw _ (List.mem_of_getElem? (i := 15) rfl))) (Or.inl (hw _ (List.mem_of_getElem? (i := 22) rfl))) (by decide) (t := (.array .int)) (t' := .int) (by decide) (by decide)))
    have K7 := K4.wr W7 (Or.inl (by simp))
    have N7 := Fr.snoc X7 N4b g_p0
    refine hp st7 ?_
    show G T7 (mkF m 85 #[.val (.ref p0), .val (.int p1), .val (.int p2), .val (.int p3)] [])
    exact hR X7 (fun fs hl => X7.returnOut hx hret (hb hby d3_85) hl) (fun _ => rfl) (by rw [e7]; exact ⟨_, _, (sz + (1 : Int32)), rv, rfl, N7, K7, E7_p0, F7_keys_p0, F7_values_p0, F7_size_p0, V7_ka, V7_va, hrel, Or.inr rfl⟩) (by decide) (by decide)
theorem own_fresh {k : Int64} {fv : Nat → Int32} {x : Int32} {fk' : Nat → Int64} {fv' : Nat → Int32} {rv : Int32} (h : own_rel (fun _ => (-1 : Int64)) fv k x fk' fv' rv) : ¬ rv = (0 : Int32) := by
  obtain ⟨j, -, -, ⟨h1, -⟩ | ⟨-, -, h2, -⟩⟩ := h
  · rw [h1]; decide
  · exact absurd rfl h2
abbrev own_Qa (Z : State) (p0 : Addr) (p1 p2 p3 : Int32) (h0 : Heap) (n0 : Nat) (v : Option Value) (h : Heap) (L : List Loc) : Prop := ∃ (ka va : Addr) (fk' : Nat → Int64) (fv' : Nat → Int32) (rv : Int32), v = none ∧ Fr n0 L ∧ Keep h0 h [p0] ∧ Exa Z h p0 "com/example/referent/referent/solver/IntPairMap" ∧ Fld Z h p0 "com/example/referent/referent/solver/IntPairMap" "keys" "[J" (.ref ka) ∧ Fld Z h p0 "com/example/referent/referent/solver/IntPairMap" "values" "[I" (.ref va) ∧ Fld Z h p0 "com/example/referent/referent/solver/IntPairMap" "size" "I" (.int (1 : Int32)) ∧ own_AJ Z h ka 16 fk' ∧ own_AI Z h va .int 16 fv' ∧ ka ≠ va ∧ h0.size ≤ ka ∧ h0.size ≤ va ∧ own_rel (fun _ => (-1 : Int64)) (fun _ => (0 : Int32)) (own_key p1 p2) p3 fk' fv' rv
set_option maxRecDepth 65536 in
set_option maxHeartbeats 40000000 in
theorem rm3a (l : Launch) (Z : State) (a0 : Array Value) (hw : ∀ d ∈ tables_1, d.before a0 Z = true) (ws : List Jvm.Cond) (p0 : Addr) (p1 : Int32) (p2 : Int32) (p3 : Int32) (ka va : Addr) (h0 : Heap) (n0 : Nat) (Z0 : n0 ≤ h0.size) (E_p0 : Exa Z h0 p0 "com/example/referent/referent/solver/IntPairMap") (F_keys : Fld Z h0 p0 "com/example/referent/referent/solver/IntPairMap" "keys" "[J" (.ref ka)) (F_values : Fld Z h0 p0 "com/example/referent/referent/solver/IntPairMap" "values" "[I" (.ref va)) (F_size : Fld Z h0 p0 "com/example/referent/referent/solver/IntPairMap" "size" "I" (.int (0 : Int32))) (V_ka : own_AJ Z h0 ka 0 (fun _ => (0 : Int64))) (g_p0 : n0 ≤ p0) (nka : p0 ≠ ka) (nva : p0 ≠ va) (hn1 : ¬ p1 < (0 : Int32)) (hn2 : ¬ p2 < (0 : Int32)) (hn3 : ¬ p3 < (0 : Int32)) :
    MetFree l (⟨"com/example/referent/referent/solver/IntPairMap", "put", "(III)V"⟩ : MethodName) (head1 (Jvm.Cond.code (⟨"com/example/referent/referent/solver/IntPairMap", "put", "(III)V"⟩ : MethodName) prog_74_method_4_code 4 none :: ws) ({ frames := 2, cells := 2, slots := 32, locals := 33 } : Room)) (fun a U => a = #[(.ref p0), (.int p1), (.int p2), (.int p3)] ∧ Z.Warmed39 U.vm ∧ U.heap = h0) (fun _ _ _ _ _ => True) (fun _ U o U' => ∃ v L, o = .returned v ∧ own_Qa Z p0 p1 p2 p3 h0 n0 v U'.heap L ∧ FrameEnd U o U' L ({ frames := 2, cells := 2, slots := 32, locals := 33 } : Room).cells ({ frames := 2, cells := 2, slots := 32, locals := 33 } : Room).slots) := by
  refine own_contract (plainFor_of_name own_pn3) (fun m => own_ef3 m p0 p1 p2 p3) ?_
  intro p e s m below meth c s₁ G hx hby hml0 hown0 hnm hret hZ X0 e0 hp hR
  have hml : c.maxLocals = 4 := hml0
  have hown : s.vm.findClass "com/example/referent/referent/solver/IntPairMap" = some m.cls := hown0
  have N0 := Fr.nil n0
  show G s₁ (mkF m 0 #[.val (.ref p0), .val (.int p1), .val (.int p2), .val (.int p3)] [])
  have K0 : Keep h0 h0 [p0] := Keep.refl _ _
  refine hp (fun tq kq => XS.iloadN X0.here hx rfl (hb hby d3_0) rfl kq) ?_
  show G s₁ (mkF m 1 #[.val (.ref p0), .val (.int p1), .val (.int p2), .val (.int p3)] [(.int p1)])
  refine hp (fun tq kq => XS.ifNo X0.here hx rfl (hb hby d3_1) rfl ((if0 _ _).trans (flt hn1).1) kq) ?_
  show G s₁ (mkF m 4 #[.val (.ref p0), .val (.int p1), .val (.int p2), .val (.int p3)] [])
  refine hp (fun tq kq => XS.iloadN X0.here hx rfl (hb hby d3_4) rfl kq) ?_
  show G s₁ (mkF m 5 #[.val (.ref p0), .val (.int p1), .val (.int p2), .val (.int p3)] [(.int p2)])
  refine hp (fun tq kq => XS.ifNo X0.here hx rfl (hb hby d3_5) rfl ((if0 _ _).trans (flt hn2).1) kq) ?_
  show G s₁ (mkF m 8 #[.val (.ref p0), .val (.int p1), .val (.int p2), .val (.int p3)] [])
  refine hp (fun tq kq => XS.iloadN X0.here hx rfl (hb hby d3_8) rfl kq) ?_
  show G s₁ (mkF m 9 #[.val (.ref p0), .val (.int p1), .val (.int p2), .val (.int p3)] [(.int p3)])
  refine hp (fun tq kq => XS.ifYes X0.here hx rfl (pc0 := 9) (pc' := 28) rfl (hb hby d3_9) rfl ((if0 _ _).trans (flt hn3).2.1) (by decide) (by decide) kq) ?_
  show G s₁ (mkF m 28 #[.val (.ref p0), .val (.int p1), .val (.int p2), .val (.int p3)] [])
  refine hp (fun tq kq => XS.aloadN X0.here hx rfl (hb hby d3_28) rfl rfl kq) ?_
  show G s₁ (mkF m 29 #[.val (.ref p0), .val (.int p1), .val (.int p2), .val (.int p3)] [(.ref p0)])
  obtain ⟨T1, X1, e1, st1⟩ := getF X0 hx hZ hown (host := "") (Or.inl (hw _ (List.mem_of_getElem? (i := 21) rfl))) Via.refl e0 F_size (g := (mkF m 29 #[.val (.ref p0), .val (.int p1), .val (.int p2), .val (.int p3)] [(.ref p0)])) rfl rfl (hb hby d3_29)
  refine hp st1 ?_
  show G T1 (mkF m 32 #[.val (.ref p0), .val (.int p1), .val (.int p2), .val (.int p3)] [(.int (0 : Int32))])
  refine hp (fun tq kq => XS.iconst X1.here hx rfl (hb hby d3_32) kq) ?_
  show G T1 (mkF m 33 #[.val (.ref p0), .val (.int p1), .val (.int p2), .val (.int p3)] [(.int (1 : Int32)), (.int (0 : Int32))])
  refine hp (fun tq kq => XS.iadd X1.here hx rfl (hb hby d3_33) rfl kq) ?_
  show G T1 (mkF m 34 #[.val (.ref p0), .val (.int p1), .val (.int p2), .val (.int p3)] [(.int (1 : Int32))])
  refine hp (fun tq kq => XS.iconst X1.here hx rfl (hb hby d3_34) kq) ?_
  show G T1 (mkF m 35 #[.val (.ref p0), .val (.int p1), .val (.int p2), .val (.int p3)] [(.int (3 : Int32)), (.int (1 : Int32))])
  refine hp (fun tq kq => XS.imul X1.here hx rfl (hb hby d3_35) rfl kq) ?_
  show G T1 (mkF m 36 #[.val (.ref p0), .val (.int p1), .val (.int p2), .val (.int p3)] [(.int (3 : Int32))])
  refine hp (fun tq kq => XS.aloadN X1.here hx rfl (hb hby d3_36) rfl rfl kq) ?_
  show G T1 (mkF m 37 #[.val (.ref p0), .val (.int p1), .val (.int p2), .val (.int p3)] [(.ref p0), (.int (3 : Int32))])
  obtain ⟨T2, X2, e2, st2⟩ := getF X1 hx hZ hown (host := "") (Or.inl (hw _ (List.mem_of_getElem? (i := 11) rfl))) Via.refl e1 F_keys (g := (mkF m 37 #[.val (.ref p0), .val (.int p1), .val (.int p2), .val (.int p3)] [(.ref p0), (.int (3 : Int32))])) rfl rfl (hb hby d3_37)
  refine hp st2 ?_
  show G T2 (mkF m 40 #[.val (.ref p0), .val (.int p1), .val (.int p2), .val (.int p3)] [(.ref ka), (.int (3 : Int32))])
  refine hp (own_lenJ X2 hx hZ e2 V_ka (0 : Int32) rfl (g := (mkF m 40 #[.val (.ref p0), .val (.int p1), .val (.int p2), .val (.int p3)] [(.ref ka), (.int (3 : Int32))])) rfl rfl (hb hby d3_40)) ?_
  show G T2 (mkF m 41 #[.val (.ref p0), .val (.int p1), .val (.int p2), .val (.int p3)] [(.int (0 : Int32)), (.int (3 : Int32))])
  refine hp (fun tq kq => XS.iconst X2.here hx rfl (hb hby d3_41) kq) ?_
  show G T2 (mkF m 42 #[.val (.ref p0), .val (.int p1), .val (.int p2), .val (.int p3)] [(.int (2 : Int32)), (.int (0 : Int32)), (.int (3 : Int32))])
  refine hp (fun tq kq => XS.imul X2.here hx rfl (hb hby d3_42) rfl kq) ?_
  show G T2 (mkF m 43 #[.val (.ref p0), .val (.int p1), .val (.int p2), .val (.int p3)] [(.int (0 : Int32)), (.int (3 : Int32))])
  refine hp (fun tq kq => XS.icmpNo X2.here hx rfl (hb hby d3_43) rfl (tlt (by decide)).2.2.2 kq) ?_
  show G T2 (mkF m 46 #[.val (.ref p0), .val (.int p1), .val (.int p2), .val (.int p3)] [])
  refine hp (fun tq kq => XS.aloadN X2.here hx rfl (hb hby d3_46) rfl rfl kq) ?_
  show G T2 (mkF m 47 #[.val (.ref p0), .val (.int p1), .val (.int p2), .val (.int p3)] [(.ref p0)])
  refine hp (fun tq kq => XS.bipush X2.here hx rfl (hb hby d3_47) kq) ?_
  show G T2 (mkF m 49 #[.val (.ref p0), .val (.int p1), .val (.int p2), .val (.int p3)] [(.int (16 : Int32)), (.ref p0)])
  refine hp (fun tq kq => XS.aloadN X2.here hx rfl (hb hby d3_49) rfl rfl kq) ?_
  show G T2 (mkF m 50 #[.val (.ref p0), .val (.int p1), .val (.int p2), .val (.int p3)] [(.ref p0), (.int (16 : Int32)), (.ref p0)])
  obtain ⟨T3, X3, e3, st3⟩ := getF X2 hx hZ hown (host := "") (Or.inl (hw _ (List.mem_of_getElem? (i := 11) rfl))) Via.refl e2 F_keys (g := (mkF m 50 #[.val (.ref p0), .val (.int p1), .val (.int p2), .val (.int p3)] [(.ref p0), (.int (16 : Int32)), (.ref p0)])) rfl rfl (hb hby d3_50)
  refine hp st3 ?_
  show G T3 (mkF m 53 #[.val (.ref p0), .val (.int p1), .val (.int p2), .val (.int p3)] [(.ref ka), (.int (16 : Int32)), (.ref p0)])
  refine hp (own_lenJ X3 hx hZ e3 V_ka (0 : Int32) rfl (g := (mkF m 53 #[.val (.ref p0), .val (.int p1), .val (.int p2), .val (.int p3)] [(.ref ka), (.int (16 : Int32)), (.ref p0)])) rfl rfl (hb hby d3_53)) ?_
  show G T3 (mkF m 54 #[.val (.ref p0), .val (.int p1), .val (.int p2), .val (.int p3)] [(.int (0 : Int32)), (.int (16 : Int32)), (.ref p0)])
  refine hp (fun tq kq => XS.iconst X3.here hx rfl (hb hby d3_54) kq) ?_
  show G T3 (mkF m 55 #[.val (.ref p0), .val (.int p1), .val (.int p2), .val (.int p3)] [(.int (2 : Int32)), (.int (0 : Int32)), (.int (16 : Int32)), (.ref p0)])
  refine hp (fun tq kq => XS.imul X3.here hx rfl (hb hby d3_55) rfl kq) ?_
  show G T3 (mkF m 56 #[.val (.ref p0), .val (.int p1), .val (.int p2), .val (.int p3)] [(.int (0 : Int32)), (.int (16 : Int32)), (.ref p0)])
  obtain ⟨v4, T4, L4, X4, hQ4, st4⟩ := own_callS X3 hx hZ (y := (⟨"java/lang/Math", "max", "(II)I"⟩ : MethodName)) (rm := ({ frames := 0, cells := 0, slots := 0, locals := 0 } : Room)) 1 hown (hw _ (List.mem_of_getElem? (i := 23) rfl)) (hw _ (List.mem_of_getElem? (i := 24) rfl)) (hw _ (List.mem_of_getElem? (i := 25) rfl)) (hw _ (List.mem_of_getElem? (i := 26) rfl)) (by decide) (rm4 l Z a0 hw [] (16 : Int32) (0 : Int32) h0 n0) e3 (by decide) (by decide) (g := (mkF m 56 #[.val (.ref p0), .val (.int p1), .val (.int p2), .val (.int p3)] [(.int (0 : Int32)), (.int (16 : Int32)), (.ref p0)])) rfl (by rw [hml]; rfl) [(.int (16 : Int32)), (.int (0 : Int32))] [(.ref p0)] own_pd3 rfl rfl (by show 2 * 0 + _ ≤ _; exact Nat.le_of_eq rfl) (hb hby d3_56) rfl (by decide) (by decide)
  obtain ⟨rfl, N4, e4⟩ := hQ4
  have F4 := Fr.app N0 N4
  refine hp st4 ?_
  show G T4 (mkF m 59 #[.val (.ref p0), .val (.int p1), .val (.int p2), .val (.int p3)] [(.int (own_max (16 : Int32) (0 : Int32))), (.ref p0)])
  obtain ⟨v5, T5, L5, X5, hQ5, st5⟩ := own_callP X4 hx hZ (y := (⟨"com/example/referent/referent/solver/IntPairMap", "resize", "(I)V"⟩ : MethodName)) (z := (⟨"com/example/referent/referent/solver/IntPairMap", "put", "(III)V"⟩ : MethodName)) (rm := ({ frames := 1, cells := 2, slots := 32, locals := 16 } : Room)) 0 hown (hw _ (List.mem_of_getElem? (i := 19) rfl)) rfl (hw _ (List.mem_of_getElem? (i := 27) rfl)) (hw _ (List.mem_of_getElem? (i := 28) rfl)) (hw _ (List.mem_of_getElem? (i := 29) rfl)) (hw _ (List.mem_of_getElem? (i := 3) rfl)) (hw _ (List.mem_of_getElem? (i := 30) rfl)) (by decide) (rm5 l Z a0 hw [] p0 (own_max (16 : Int32) (0 : Int32)) ka va (0 : Int32) h0 n0 (Nat.le_trans Z0 K0.1) (by decide) E_p0 F_keys F_values F_size V_ka g_p0 nka nva) e4 E_p0 (by decide) (by decide) (g := (mkF m 59 #[.val (.ref p0), .val (.int p1), .val (.int p2), .val (.int p3)] [(.int (own_max (16 : Int32) (0 : Int32))), (.ref p0)])) rfl (by rw [hml]; rfl) [(.int (own_max (16 : Int32) (0 : Int32)))] [] own_pd4 rfl rfl (by show 2 * 0 + _ ≤ _; exact Nat.le_of_eq rfl) (hb hby d3_59) rfl (by decide) (by decide)
  obtain ⟨ka5, va5, rfl, N5, Kc5, E5_p0, F5_keys_p0, F5_values_p0, F5_size_p0, V5_ka5, V5_va5, nn5, sa5, sb5⟩ := hQ5
  have N5b := Fr.app F4 N5
  have ne5_ka_ka5 : ka ≠ ka5 := Nat.ne_of_lt (Nat.lt_of_lt_of_le V_ka.lt sa5)
  have ne5_p0_ka5 : p0 ≠ ka5 := Nat.ne_of_lt (Nat.lt_of_lt_of_le E_p0.lt sa5)
  have sz_ka5 : h0.size ≤ ka5 := Nat.le_trans K0.1 sa5
  have g_ka5 : n0 ≤ ka5 := Nat.le_trans Z0 sz_ka5
  have ne5_ka_va5 : ka ≠ va5 := Nat.ne_of_lt (Nat.lt_of_lt_of_le V_ka.lt sb5)
  have ne5_p0_va5 : p0 ≠ va5 := Nat.ne_of_lt (Nat.lt_of_lt_of_le E_p0.lt sb5)
  have sz_va5 : h0.size ≤ va5 := Nat.le_trans K0.1 sb5
  have g_va5 : n0 ≤ va5 := Nat.le_trans Z0 sz_va5
  have V5_ka := V_ka.keep Kc5 (ninS (Ne.symm nka) nin0)
  have E5_p0 := E_p0.keep Kc5
  have K5 := K0.trans Kc5 (allS (Or.inl (by simp)) all0)
  refine hp st5 ?_
  show G T5 (mkF m 62 #[.val (.ref p0), .val (.int p1), .val (.int p2), .val (.int p3)] [])
  refine hp (fun tq kq => XS.aloadN X5.here hx rfl (hb hby d3_62) rfl rfl kq) ?_
  show G T5 (mkF m 63 #[.val (.ref p0), .val (.int p1), .val (.int p2), .val (.int p3)] [(.ref p0)])
  refine hp (fun tq kq => XS.iloadN X5.here hx rfl (hb hby d3_63) rfl kq) ?_
  show G T5 (mkF m 64 #[.val (.ref p0), .val (.int p1), .val (.int p2), .val (.int p3)] [(.int p1), (.ref p0)])
  refine hp (fun tq kq => XS.iloadN X5.here hx rfl (hb hby d3_64) rfl kq) ?_
  show G T5 (mkF m 65 #[.val (.ref p0), .val (.int p1), .val (.int p2), .val (.int p3)] [(.int p2), (.int p1), (.ref p0)])
  obtain ⟨v6, T6, L6, X6, hQ6, st6⟩ := own_callS X5 hx hZ (y := (⟨"com/example/referent/referent/solver/IntPairMap", "key", "(II)J"⟩ : MethodName)) (rm := ({ frames := 0, cells := 0, slots := 0, locals := 0 } : Room)) 1 hown (hw _ (List.mem_of_getElem? (i := 36) rfl)) (hw _ (List.mem_of_getElem? (i := 37) rfl)) (hw _ (List.mem_of_getElem? (i := 3) rfl)) (hw _ (List.mem_of_getElem? (i := 38) rfl)) (by decide) (rm7 l Z a0 hw [] p1 p2 T5.heap n0) rfl (by decide) (by decide) (g := (mkF m 65 #[.val (.ref p0), .val (.int p1), .val (.int p2), .val (.int p3)] [(.int p2), (.int p1), (.ref p0)])) rfl (by rw [hml]; rfl) [(.int p1), (.int p2)] [(.ref p0)] own_pd2 rfl rfl (by show 2 * 0 + _ ≤ _; exact Nat.le_of_eq rfl) (hb hby d3_65) rfl (by decide) (by decide)
  obtain ⟨rfl, N6, e6⟩ := hQ6
  have F6 := Fr.app N5b N6
  refine hp st6 ?_
  show G T6 (mkF m 68 #[.val (.ref p0), .val (.int p1), .val (.int p2), .val (.int p3)] [(.long (own_key p1 p2)), (.ref p0)])
  refine hp (fun tq kq => XS.iloadN X6.here hx rfl (hb hby d3_68) rfl kq) ?_
  show G T6 (mkF m 69 #[.val (.ref p0), .val (.int p1), .val (.int p2), .val (.int p3)] [(.int p3), (.long (own_key p1 p2)), (.ref p0)])
  obtain ⟨v7, T7, L7, X7, hQ7, st7⟩ := own_callP X6 hx hZ (y := (⟨"com/example/referent/referent/solver/IntPairMap", "place", "(JI)Z"⟩ : MethodName)) (z := (⟨"com/example/referent/referent/solver/IntPairMap", "put", "(III)V"⟩ : MethodName)) (rm := ({ frames := 1, cells := 0, slots := 0, locals := 16 } : Room)) 0 hown (hw _ (List.mem_of_getElem? (i := 19) rfl)) rfl (hw _ (List.mem_of_getElem? (i := 39) rfl)) (hw _ (List.mem_of_getElem? (i := 40) rfl)) (hw _ (List.mem_of_getElem? (i := 41) rfl)) (hw _ (List.mem_of_getElem? (i := 3) rfl)) (hw _ (List.mem_of_getElem? (i := 42) rfl)) (by decide) (rm8 l Z a0 hw [] p0 (own_key p1 p2) p3 ka5 va5 (fun _ => (-1 : Int64)) (fun _ => (0 : Int32)) 0 0 T5.heap n0 F5_keys_p0 F5_values_p0 V5_ka5 V5_va5 (by decide) rfl g_ka5 g_va5 nn5 ne5_p0_ka5 ne5_p0_va5) e6 E5_p0 (by decide) (by decide) (g := (mkF m 69 #[.val (.ref p0), .val (.int p1), .val (.int p2), .val (.int p3)] [(.int p3), (.long (own_key p1 p2)), (.ref p0)])) rfl (by rw [hml]; rfl) [(.long (own_key p1 p2)), (.int p3)] [] own_pd5 rfl rfl (by show 2 * 0 + _ ≤ _; exact Nat.le_of_eq rfl) (hb hby d3_69) rfl (by decide) (by decide)
  obtain ⟨rv, fk7, fv7, rfl, N7, Kc7, V7_ka5, V7_va5, hrel⟩ := hQ7
  have N7b := Fr.app F6 N7
  have V7_ka := V5_ka.keep Kc7 (ninS ne5_ka_ka5 (ninS ne5_ka_va5 nin0))
  have E7_p0 := E5_p0.keep Kc7
  have F7_keys_p0 := F5_keys_p0.keep Kc7 (ninS ne5_p0_ka5 (ninS ne5_p0_va5 nin0))
  have F7_values_p0 := F5_values_p0.keep Kc7 (ninS ne5_p0_ka5 (ninS ne5_p0_va5 nin0))
  have F7_size_p0 := F5_size_p0.keep Kc7 (ninS ne5_p0_ka5 (ninS ne5_p0_va5 nin0))
  have K7 := K5.trans Kc7 (allS (Or.inr sz_ka5) (allS (Or.inr sz_va5) all0))
  refine hp st7 ?_
  show G T7 (mkF m 72 #[.val (.ref p0), .val (.int p1), .val (.int p2), .val (.int p3)] [(.int rv)])
  refine hp (fun tq kq => XS.ifNo X7.here hx rfl (hb hby d3_72) rfl ((if0 _ _).trans (feq (own_fresh hrel)).1) kq) ?_
  show G T7 (mkF m 75 #[.val (.ref p0), .val (.int p1), .val (.int p2), .val (.int p3)] [])
  refine hp (fun tq kq => XS.aloadN X7.here hx rfl (hb hby d3_75) rfl rfl kq) ?_
  show G T7 (mkF m 76 #[.val (.ref p0), .val (.int p1), .val (.int p2), .val (.int p3)] [(.ref p0)])
  refine hp (fun tq kq => XS.dup X7.here hx rfl (hb hby d3_76) rfl rfl kq) ?_
  show G T7 (mkF m 77 #[.val (.ref p0), .val (.int p1), .val (.int p2), .val (.int p3)] [(.ref p0), (.ref p0)])
  obtain ⟨T8, X8, e8, st8⟩ := getF X7 hx hZ hown (host := "") (Or.inl (hw _ (List.mem_of_getElem? (i := 21) rfl))) Via.refl rfl F7_size_p0 (g := (mkF m 77 #[.val (.ref p0), .val (.int p1), .val (.int p2), .val (.int p3)] [(.ref p0), (.ref p0)])) rfl rfl (hb hby d3_77)
  refine hp st8 ?_
  show G T8 (mkF m 80 #[.val (.ref p0), .val (.int p1), .val (.int p2), .val (.int p3)] [(.int (0 : Int32)), (.ref p0)])
  refine hp (fun tq kq => XS.iconst X8.here hx rfl (hb hby d3_80) kq) ?_
  show G T8 (mkF m 81 #[.val (.ref p0), .val (.int p1), .val (.int p2), .val (.int p3)] [(.int (1 : Int32)), (.int (0 : Int32)), (.ref p0)])
  refine hp (fun tq kq => XS.iadd X8.here hx rfl (hb hby d3_81) rfl kq) ?_
  show G T8 (mkF m 82 #[.val (.ref p0), .val (.int p1), .val (.int p2), .val (.int p3)] [(.int (1 : Int32)), (.ref p0)])
  obtain ⟨T9, h9, X9, e9, W9, st9⟩ := putF X8 hx hZ hown (host := "") (Or.inl (hw _ (List.mem_of_getElem? (i := 21) rfl))) Via.refl e8 F7_size_p0 E7_p0 (Or.inl (hw _ (List.mem_of_getElem? (i := 22) rfl))) (hw _ (List.mem_of_getElem? (i := 2) rfl)) (ty := .int) (by decide) rfl rfl (g := (mkF m 82 #[.val (.ref p0), .val (.int p1), .val (.int p2), .val (.int p3)] [(.int (1 : Int32)), (.ref p0)])) rfl rfl (hb hby d3_82)
  have F9_size_p0 := Fld.same W9 F7_size_p0
  have V9_ka := V7_ka.other W9 (Ne.symm nka)
  have V9_ka5 := V7_ka5.other W9 (Ne.symm ne5_p0_ka5)
  have V9_va5 := V7_va5.other W9 (Ne.symm ne5_p0_va5)
  have E9_p0 := Exa.wr W9 E7_p0
  have F9_keys_p0 := Fld.other W9 F7_keys_p0 (Or.inr (slot_ne (Or.inl (hw _ (List.mem_of_getElem? (i := 12) rfl))) (Or.inl (hw _ (List.mem_of_getElem? (i := 22) rfl))) (by decide) (t := (.array .long)) (t' := .int) (by decide) (by decide)))
  have F9_values_p0 := Fld.other W9 F7_values_p0 (Or.inr (slot_ne (Or.inl (hw _ (List.mem_of_getElem? (i := 15) rfl))) (Or.inl (hw _ (List.mem_of_getElem? (i := 22) rfl))) (by decide) (t := (.array .int)) (t' := .int) (by decide) (by decide)))
  have K9 := K7.wr W9 (Or.inl (by simp))
  have N9 := Fr.snoc X9 N7b g_p0
  refine hp st9 ?_
  show G T9 (mkF m 85 #[.val (.ref p0), .val (.int p1), .val (.int p2), .val (.int p3)] [])
  exact hR X9 (fun fs hl => X9.returnOut hx hret (hb hby d3_85) hl) (fun _ => rfl) (by rw [e9]; exact ⟨ka5, va5, _, _, rv, rfl, N9, K9, E9_p0, F9_keys_p0, F9_values_p0, F9_size_p0, V9_ka5, V9_va5, nn5, sz_ka5, sz_va5, hrel⟩) (by decide) (by decide)
theorem own_nnz {p z : Int32} (hz : z = (p &&& (2147483647 : Int32))) : ¬ z < (0 : Int32) := by
  have h := c_mask p 2147483647 31 (by decide) (by decide)
  have e0 : (0 : Int32).toInt = 0 := by decide
  rw [← hz] at h
  rw [Int32.lt_iff_toInt_lt, e0]
  generalize z.toInt = y at *
  generalize p.toInt = x at *
  omega
theorem own_nnm (p : Int32) : ¬ (p &&& (2147483647 : Int32)) < (0 : Int32) := own_nnz rfl
theorem own_nns1 (p : Int32) : ¬ ((p.toUInt32 >>> ((1 : Int32) &&& 31).toUInt32).toInt32) < (0 : Int32) := by
  have h := c_iushr p 1 1 (by decide) (by decide)
  have e0 : (0 : Int32).toInt = 0 := by decide
  rw [Int32.lt_iff_toInt_lt, e0, h]
  generalize p.toInt = x at *
  omega
theorem own_nns2 (p : Int32) : ¬ ((p.toUInt32 >>> ((2 : Int32) &&& 31).toUInt32).toInt32) < (0 : Int32) := by
  have h := c_iushr p 2 2 (by decide) (by decide)
  have e0 : (0 : Int32).toInt = 0 := by decide
  rw [Int32.lt_iff_toInt_lt, e0, h]
  generalize p.toInt = x at *
  omega
theorem own_ix {p z : Int32} (hz : z = (((p.toUInt32 >>> ((2 : Int32) &&& 31).toUInt32).toInt32) % (16 : Int32))) : ∃ i0 : Nat, (z.toNatClampNeg = i0 ∧ ¬ z < 0) ∧ i0 < 16 := by
  have h := c_iushr p 2 2 (by decide) (by decide)
  have h2 := (c_irem ((p.toUInt32 >>> ((2 : Int32) &&& 31).toUInt32).toInt32) 16 16 (by decide)).1 (by rw [h]; generalize p.toInt = x at *; omega)
  rw [← hz] at h2
  have e0 : (0 : Int32).toInt = 0 := by decide
  refine ⟨z.toNatClampNeg, ⟨rfl, ?_⟩, ?_⟩
  · rw [Int32.lt_iff_toInt_lt, e0, h2]; omega
  · rw [Int32.toNatClampNeg, h2]; omega
/-- the key of two ints that aren't negative, read back -/
theorem own_key_int (a b : Int32) (ha : ¬ a < (0 : Int32)) (hb : ¬ b < (0 : Int32)) : (own_key a b).toInt = a.toInt * 4294967296 + b.toInt ∧ 0 ≤ a.toInt ∧ 0 ≤ b.toInt := by
  have e0 : (0 : Int32).toInt = 0 := by decide
  rw [Int32.lt_iff_toInt_lt, e0] at ha hb
  have ra := rng32 a
  have rb := rng32 b
  have i1 := c_i2l a
  have i2 := c_i2l b
  have s := c_lshl a.toInt64 32 32 (by decide)
  rw [i1] at s
  have hk : own_key a b = (a.toInt64 <<< ((32 : Int32) &&& 0x3f).toInt64) ||| b.toInt64 := rfl
  rw [hk]
  generalize (a.toInt64 <<< ((32 : Int32) &&& 0x3f).toInt64) = A at *
  have rA := rng64 A
  have qA : A.toInt = a.toInt * 4294967296 := by
    generalize A.toInt = y at *
    generalize a.toInt = x at *
    omega
  have o := c_orL A b.toInt64 32 (by decide) 4294967296 (by decide) (by rw [qA]; generalize a.toInt = x at *; omega) (by rw [i2]; omega) (by rw [i2]; omega)
  have r := rng64 (A ||| b.toInt64)
  rw [qA, i2] at o
  generalize (A ||| b.toInt64).toInt = y at *
  generalize a.toInt = x at *
  generalize b.toInt = w at *
  omega
theorem own_key1 (a b : Int32) (ha : ¬ a < (0 : Int32)) (hb : ¬ b < (0 : Int32)) : ((((own_key a b).toUInt64 >>> ((32 : Int32) &&& 0x3f).toInt64.toUInt64).toInt64).toInt32) = a := by
  obtain ⟨h, ha0, hb0⟩ := own_key_int a b ha hb
  have ra := rng32 a
  have rb := rng32 b
  have s := c_lushr (own_key a b) 32 32 (by decide) (by decide)
  have t := c_l2i (((own_key a b).toUInt64 >>> ((32 : Int32) &&& 0x3f).toInt64.toUInt64).toInt64)
  have r := rng32 ((((own_key a b).toUInt64 >>> ((32 : Int32) &&& 0x3f).toInt64.toUInt64).toInt64).toInt32)
  rw [s, h] at t
  apply Int32.toInt_inj.mp
  generalize ((((own_key a b).toUInt64 >>> ((32 : Int32) &&& 0x3f).toInt64.toUInt64).toInt64).toInt32).toInt = y at *
  generalize a.toInt = x at *
  generalize b.toInt = w at *
  omega
theorem own_key2 (a b : Int32) (ha : ¬ a < (0 : Int32)) (hb : ¬ b < (0 : Int32)) : (own_key a b).toInt32 = b := by
  obtain ⟨h, ha0, hb0⟩ := own_key_int a b ha hb
  have rb := rng32 b
  have t := c_l2i (own_key a b)
  have r := rng32 (own_key a b).toInt32
  rw [h] at t
  apply Int32.toInt_inj.mp
  generalize (own_key a b).toInt32.toInt = y at *
  generalize a.toInt = x at *
  generalize b.toInt = w at *
  omega
theorem own_keyne {a b : Int32} (ha : ¬ a < (0 : Int32)) (hb : ¬ b < (0 : Int32)) : ¬ own_key a b = (-1 : Int64) := fun q => by
  obtain ⟨h, ha0, hb0⟩ := own_key_int a b ha hb
  have e : (-1 : Int64).toInt = -1 := by decide
  rw [q, e] at h
  generalize a.toInt = x at *
  generalize b.toInt = w at *
  omega
/-- what holds of the table behind the puts of the keys ks -/
def own_Good (fk : Nat → Int64) (ks : List Int64) : Prop := (∀ i, i < 16 → ¬ fk i = (-1 : Int64) → own_probe fk (fk i) i) ∧ (∃ l : List Nat, l.length ≤ ks.length ∧ ∀ i, i < 16 → ¬ fk i = (-1 : Int64) → i ∈ l) ∧ ∀ i, i < 16 → fk i = (-1 : Int64) ∨ fk i ∈ ks
theorem own_good0 : own_Good (fun _ => (-1 : Int64)) [] := ⟨fun i _ h => absurd rfl h, ⟨[], Nat.le_refl _, fun i _ h => absurd rfl h⟩, fun i _ => Or.inl rfl⟩
theorem own_goodS {fk fk' : Nat → Int64} {fv fv' : Nat → Int32} {k : Int64} {x rv : Int32} {ks : List Int64} (hg : own_Good fk ks) (hk : ¬ k = (-1 : Int64)) (hr : own_rel fk fv k x fk' fv' rv) : own_Good fk' (k :: ks) := by
  obtain ⟨g1, ⟨l, g2, g3⟩, g4⟩ := hg
  obtain ⟨j, hj, hp, ⟨-, h1, h2, -⟩ | ⟨-, h1, h2, h3, -⟩⟩ := hr
  · subst h2
    refine ⟨fun i hi hne => ?_, ⟨j :: l, by simp; omega, fun i hi hne => ?_⟩, fun i hi => ?_⟩
    · by_cases q : i = j
      · subst q
        obtain ⟨t, e, hb⟩ := hp
        have ev : own_up fk i k i = k := if_pos rfl
        rw [ev]
        refine ⟨t, e, fun t' ht => ?_⟩
        have q : ¬ (own_h k + t') % 16 = i := fun z => (hb t' ht).1 (by rw [z]; exact h1)
        rw [show own_up fk i k ((own_h k + t') % 16) = fk ((own_h k + t') % 16) from if_neg q]
        exact hb t' ht
      · have ev : own_up fk j k i = fk i := if_neg q
        rw [ev] at hne ⊢
        obtain ⟨t, e, hb⟩ := g1 i hi hne
        refine ⟨t, e, fun t' ht => ?_⟩
        have q : ¬ (own_h (fk i) + t') % 16 = j := fun z => (hb t' ht).1 (by rw [z]; exact h1)
        rw [show own_up fk j k ((own_h (fk i) + t') % 16) = fk ((own_h (fk i) + t') % 16) from if_neg q]
        exact hb t' ht
    · by_cases q : i = j
      · subst q; exact List.mem_cons_self
      · have ev : own_up fk j k i = fk i := if_neg q
        rw [ev] at hne
        exact List.mem_cons_of_mem _ (g3 i hi hne)
    · by_cases q : i = j
      · subst q
        right
        rw [show own_up fk i k i = k from if_pos rfl]
        exact List.mem_cons_self
      · rw [show own_up fk j k i = fk i from if_neg q]
        exact (g4 i hi).imp id (List.mem_cons_of_mem _)
  · subst h3
    exact ⟨g1, ⟨l, by simp; omega, g3⟩, fun i hi => (g4 i hi).imp id (List.mem_cons_of_mem _)⟩
theorem own_te {fk : Nat → Int64} {ks : List Int64} (hg : own_Good fk ks) (k : Int64) (hl : ks.length ≤ 2) : ∃ te, fk ((own_h k + te) % 16) = (-1 : Int64) := by
  obtain ⟨-, ⟨l, g2, g3⟩, -⟩ := hg
  have hh := (own_h_ok k).2
  have : ∃ e, e < 16 ∧ fk e = (-1 : Int64) := by
    by_cases h0 : fk 0 = (-1 : Int64)
    · exact ⟨0, by decide, h0⟩
    · by_cases h1 : fk 1 = (-1 : Int64)
      · exact ⟨1, by decide, h1⟩
      · by_cases h2 : fk 2 = (-1 : Int64)
        · exact ⟨2, by decide, h2⟩
        · exfalso
          have m0 := g3 0 (by decide) h0
          have m1 := g3 1 (by decide) h1
          have m2 := g3 2 (by decide) h2
          match l, g2 with
          | [], _ => exact absurd m0 List.not_mem_nil
          | [a], _ =>
            rw [List.mem_singleton] at m0 m1
            omega
          | [a, b], _ =>
            simp only [List.mem_cons, List.not_mem_nil, or_false] at m0 m1 m2
            omega
          | a :: b :: c :: r, q => simp at q; omega
  obtain ⟨e, he, h⟩ := this
  refine ⟨e + 16 - own_h k, ?_⟩
  rw [show (own_h k + (e + 16 - own_h k)) % 16 = e by omega]
  exact h
def own_sr (n : Nat) (sz : Int32) : Prop := 1 ≤ sz.toInt ∧ sz.toInt ≤ n
theorem own_sr1 : own_sr 1 (1 : Int32) := by unfold own_sr; decide
theorem own_srn {n : Nat} {sz sz' : Int32} (h : own_sr n sz) (hn : n ≤ 5) (hs : sz' = sz ∨ sz' = sz + 1) : own_sr (n + 1) sz' := by
  obtain ⟨h1, h2⟩ := h
  have a := c_iadd sz 1
  have e : (1 : Int32).toInt = 1 := by decide
  have r := rng32 (sz + 1)
  rw [e] at a
  unfold own_sr
  rcases hs with q | q <;> rw [q]
  · omega
  · generalize (sz + 1).toInt = y at *
    omega
theorem own_szok {n : Nat} {sz : Int32} (h : own_sr n sz) (hn : n ≤ 5) : ¬ (32 : Int32) < ((sz + (1 : Int32)) * (3 : Int32)) := by
  obtain ⟨h1, h2⟩ := h
  have a := c_iadd sz 1
  have e : (1 : Int32).toInt = 1 := by decide
  have e3 : (3 : Int32).toInt = 3 := by decide
  have e32 : (32 : Int32).toInt = 32 := by decide
  have r := rng32 (sz + 1)
  have b := c_imul (sz + 1) 3
  have r2 := rng32 ((sz + 1) * 3)
  rw [e] at a
  rw [e3] at b
  rw [Int32.lt_iff_toInt_lt, e32]
  have q : (sz + 1).toInt = sz.toInt + 1 := by
    generalize (sz + 1).toInt = y at *
    omega
  rw [q] at b
  clear a r
  generalize ((sz + 1) * 3).toInt = y2 at *
  generalize sz.toInt = y at *
  rcases (by omega : y = 1 ∨ y = 2 ∨ y = 3 ∨ y = 4 ∨ y = 5) with e | e | e | e | e <;> (subst e; omega)
theorem own_szne {n : Nat} {sz : Int32} (h : own_sr n sz) : ¬ sz = (0 : Int32) := fun q => by
  have e : (0 : Int32).toInt = 0 := by decide
  have := h.1
  rw [q, e] at this
  omega
theorem own_case {fk : Nat → Int64} {ks : List Int64} {i0 : Nat} {z14 z15 z16 : Int32} (hg : own_Good fk ks) (hi : i0 < 16) (h14 : z14 = own_tk (fk i0)) : (z14 = 0 → fk i0 = (-1 : Int64)) ∧ (¬ z14 = 0 → ¬ fk i0 = (-1 : Int64) ∧ fk i0 ∈ ks) := by
  unfold own_tk at h14
  by_cases h : fk i0 = (-1 : Int64)
  · rw [if_pos h] at h14
    exact ⟨fun _ => h, fun q => absurd h14 q⟩
  · rw [if_neg h] at h14
    exact ⟨fun q => absurd (h14.symm.trans q) (by decide), fun _ => ⟨h, (hg.2.2 i0 hi).resolve_left h⟩⟩
theorem own_empty1 {x : Int64} {z15 : Int32} (h : x = (-1 : Int64)) (h15 : z15 = (((x.toUInt64 >>> ((32 : Int32) &&& 0x3f).toInt64.toUInt64).toInt64).toInt32)) : z15 = (-1 : Int32) := by rw [h15, h]; decide
theorem own_empty2 {x : Int64} {z16 : Int32} (h : x = (-1 : Int64)) (h16 : z16 = x.toInt32) : z16 = (-1 : Int32) := by rw [h16, h]; decide
/-- a key among the three, read back -/
theorem own_back {x : Int64} {z15 z16 : Int32} {ks : List (Int32 × Int32)} (hx : x ∈ ks.map fun q => own_key q.1 q.2) (hn : ∀ q ∈ ks, ¬ q.1 < (0 : Int32) ∧ ¬ q.2 < (0 : Int32)) (h15 : z15 = (((x.toUInt64 >>> ((32 : Int32) &&& 0x3f).toInt64.toUInt64).toInt64).toInt32)) (h16 : z16 = x.toInt32) : (z15, z16) ∈ ks ∧ own_key z15 z16 = x := by
  obtain ⟨⟨a, b⟩, hq, rfl⟩ := List.mem_map.mp hx
  obtain ⟨h1, h2⟩ := hn _ hq
  rw [own_key1 a b h1 h2] at h15
  rw [own_key2 a b h1 h2] at h16
  subst h15 h16
  exact ⟨hq, rfl⟩
theorem own_find {fk : Nat → Int64} {ks : List Int64} {i0 : Nat} {z15 z16 : Int32} (hg : own_Good fk ks) (hi : i0 < 16) (hne : ¬ fk i0 = (-1 : Int64)) (hk : own_key z15 z16 = fk i0) : ∃ tj, (own_h (own_key z15 z16) + tj) % 16 = i0 ∧ fk ((own_h (own_key z15 z16) + tj) % 16) = own_key z15 z16 ∧ (∀ t, t < tj → ¬ fk ((own_h (own_key z15 z16) + t) % 16) = (-1 : Int64) ∧ ¬ fk ((own_h (own_key z15 z16) + t) % 16) = own_key z15 z16) ∧ ¬ own_key z15 z16 = (-1 : Int64) := by
  obtain ⟨t, e, hb⟩ := hg.1 i0 hi hne
  rw [hk]
  exact ⟨t, e.symm, by rw [← e], hb, hne⟩

/-- the pairs that were put, the last one first -/
def own_ks (n a b c d : Int32) : List (Int32 × Int32) := if n < (1 : Int32) then [(a, b)] else if n = (3 : Int32) then [(d, a), (c, d), (a, b)] else [(c, d), (a, b)]
section Ks
variable {n a b c d : Int32} {fk : Nat → Int64}
theorem own_ks1 (h : n < (1 : Int32)) (g : own_Good fk [own_key a b]) : own_Good fk ((own_ks n a b c d).map fun q => own_key q.1 q.2) := by unfold own_ks; rw [if_pos h]; exact g
theorem own_ks2 (h : ¬ n < (1 : Int32)) (h3 : ¬ n = (3 : Int32)) (g : own_Good fk [own_key c d, own_key a b]) : own_Good fk ((own_ks n a b c d).map fun q => own_key q.1 q.2) := by unfold own_ks; rw [if_neg h, if_neg h3]; exact g
theorem own_ks3 (h : ¬ n < (1 : Int32)) (h3 : n = (3 : Int32)) (g : own_Good fk [own_key d a, own_key c d, own_key a b]) : own_Good fk ((own_ks n a b c d).map fun q => own_key q.1 q.2) := by unfold own_ks; rw [if_neg h, if_pos h3]; exact g
theorem own_n3 (h : n < (1 : Int32)) : ¬ n = (3 : Int32) := fun q => by subst q; exact absurd h (by decide)
theorem own_ksn (ha : ¬ a < (0 : Int32)) (hb : ¬ b < (0 : Int32)) (hc : ¬ c < (0 : Int32)) (hd : ¬ d < (0 : Int32)) : ∀ q ∈ own_ks n a b c d, ¬ q.1 < (0 : Int32) ∧ ¬ q.2 < (0 : Int32) := by
  intro q hq
  unfold own_ks at hq
  split at hq
  · simp only [List.mem_cons, List.not_mem_nil, or_false] at hq
    subst hq; exact ⟨ha, hb⟩
  · split at hq
    · simp only [List.mem_cons, List.not_mem_nil, or_false] at hq
      rcases hq with rfl | rfl | rfl
      · exact ⟨hd, ha⟩
      · exact ⟨hc, hd⟩
      · exact ⟨ha, hb⟩
    · simp only [List.mem_cons, List.not_mem_nil, or_false] at hq
      rcases hq with rfl | rfl
      · exact ⟨hc, hd⟩
      · exact ⟨ha, hb⟩
end Ks

theorem own_isk {n a b c d f g z : Int32} (hin : (f, g) ∈ own_ks n a b c d) (hz : z = (if f = a then (if g = b then (1 : Int32) else (if n < (1 : Int32) then (if n = (3 : Int32) then (if f = d then (if g = a then (1 : Int32) else (0 : Int32)) else (0 : Int32)) else (0 : Int32)) else (if f = c then (if g = d then (1 : Int32) else (if n = (3 : Int32) then (if f = d then (if g = a then (1 : Int32) else (0 : Int32)) else (0 : Int32)) else (0 : Int32))) else (if n = (3 : Int32) then (if f = d then (if g = a then (1 : Int32) else (0 : Int32)) else (0 : Int32)) else (0 : Int32))))) else (if n < (1 : Int32) then (if n = (3 : Int32) then (if f = d then (if g = a then (1 : Int32) else (0 : Int32)) else (0 : Int32)) else (0 : Int32)) else (if f = c then (if g = d then (1 : Int32) else (if n = (3 : Int32) then (if f = d then (if g = a then (1 : Int32) else (0 : Int32)) else (0 : Int32)) else (0 : Int32))) else (if n = (3 : Int32) then (if f = d then (if g = a then (1 : Int32) else (0 : Int32)) else (0 : Int32)) else (0 : Int32)))))) : ¬ z = (0 : Int32) := by
  have h : (f = a ∧ g = b) ∨ (¬ n < (1 : Int32) ∧ f = c ∧ g = d) ∨ (n = (3 : Int32) ∧ f = d ∧ g = a) := by
    unfold own_ks at hin
    split at hin
    · simp only [List.mem_cons, List.not_mem_nil, or_false, Prod.mk.injEq] at hin
      exact Or.inl hin
    · rename_i h1
      split at hin
      · rename_i h3
        simp only [List.mem_cons, List.not_mem_nil, or_false, Prod.mk.injEq] at hin
        rcases hin with q | q | q
        · exact Or.inr (Or.inr ⟨h3, q⟩)
        · exact Or.inr (Or.inl ⟨h1, q⟩)
        · exact Or.inl q
      · simp only [List.mem_cons, List.not_mem_nil, or_false, Prod.mk.injEq] at hin
        rcases hin with q | q
        · exact Or.inr (Or.inl ⟨h1, q⟩)
        · exact Or.inl q
  rw [hz]
  clear hz hin
  rcases h with ⟨h1, h2⟩ | ⟨h1, h2, h3⟩ | ⟨h1, h2, h3⟩
  · rw [if_pos h1, if_pos h2]; decide
  · (repeat' split) <;> first | decide | contradiction
  · (repeat' split) <;> first | decide | contradiction
theorem own_ef0 (m : MethodId) (p0 : Int32) (p1 : Int32) (p2 : Int32) (p3 : Int32) (p4 : Int32) (p5 : Int32) : entryFrame m #[(.int p0), (.int p1), (.int p2), (.int p3), (.int p4), (.int p5)] maxLocals = mkF m 0 #[.val (.int p0), .val (.int p1), .val (.int p2), .val (.int p3), .val (.int p4), .val (.int p5), .unset, .unset, .unset, .unset, .unset, .unset, .unset, .unset, .unset, .unset, .unset, .unset] [] := by first | (simp [entryFrame, mkF, argsToLocals, Value.category, maxLocals]; done) | rfl
abbrev own_Q0 (n0 : Nat) (v : Option Value) (h : Heap) (L : List Loc) : Prop := v = some (.int 1) ∧ Fr n0 L
theorem own_pn0 : plainName "com/example/referent/referent/solver/IntPairMapTakenPinLaw" = true := by first | (simp [plainName, overriddenIn]; done) | decide +kernel
set_option maxRecDepth 65536 in
set_option maxHeartbeats 40000000 in
theorem rm0 (l : Launch) (Z : State) (a0 : Array Value) (hw : ∀ d ∈ tables_1, d.before a0 Z = true) (ws : List Jvm.Cond) (p0 : Int32) (p1 : Int32) (p2 : Int32) (p3 : Int32) (p4 : Int32) (p5 : Int32) (h0 : Heap) (n0 : Nat) (Z0 : n0 ≤ h0.size) :
    MetFree l x (head1 (Jvm.Cond.code x code maxLocals ret :: ws) room_1) (fun a U => a = #[(.int p0), (.int p1), (.int p2), (.int p3), (.int p4), (.int p5)] ∧ Z.Warmed39 U.vm ∧ U.heap = h0) (fun _ _ _ _ _ => True) (fun _ U o U' => ∃ v L, o = .returned v ∧ own_Q0 n0 v U'.heap L ∧ FrameEnd U o U' L room_1.cells room_1.slots) := by
  refine own_contract (plainFor_of_name own_pn0) (fun m => own_ef0 m p0 p1 p2 p3 p4 p5) ?_
  intro p e s m below meth c s₁ G hx hby hml0 hown0 hnm hret hZ X0 e0 hp hR
  have hml : c.maxLocals = 18 := hml0
  have hown : s.vm.findClass "com/example/referent/referent/solver/IntPairMapTakenPinLaw" = some m.cls := hown0
  have N0 := Fr.nil n0
  show G s₁ (mkF m 0 #[.val (.int p0), .val (.int p1), .val (.int p2), .val (.int p3), .val (.int p4), .val (.int p5), .unset, .unset, .unset, .unset, .unset, .unset, .unset, .unset, .unset, .unset, .unset, .unset] [])
  have K0 : Keep h0 h0 [] := Keep.refl _ _
  refine hp (fun tq kq => XS.iloadN X0.here hx rfl (hb hby at_0) rfl kq) ?_
  show G s₁ (mkF m 1 #[.val (.int p0), .val (.int p1), .val (.int p2), .val (.int p3), .val (.int p4), .val (.int p5), .unset, .unset, .unset, .unset, .unset, .unset, .unset, .unset, .unset, .unset, .unset, .unset] [(.int p0)])
  refine hp (fun tq kq => X0.ldcInt hx hown (mvT hZ (hw _ (List.mem_of_getElem? (i := 0) rfl))) (g := (mkF m 1 #[.val (.int p0), .val (.int p1), .val (.int p2), .val (.int p3), .val (.int p4), .val (.int p5), .unset, .unset, .unset, .unset, .unset, .unset, .unset, .unset, .unset, .unset, .unset, .unset] [(.int p0)])) rfl (hb hby at_1) _ kq) ?_
  show G s₁ (mkF m 3 #[.val (.int p0), .val (.int p1), .val (.int p2), .val (.int p3), .val (.int p4), .val (.int p5), .unset, .unset, .unset, .unset, .unset, .unset, .unset, .unset, .unset, .unset, .unset, .unset] [(.int (2147483647 : Int32)), (.int p0)])
  refine hp (fun tq kq => XS.iand X0.here hx rfl (hb hby at_3) rfl kq) ?_
  show G s₁ (mkF m 4 #[.val (.int p0), .val (.int p1), .val (.int p2), .val (.int p3), .val (.int p4), .val (.int p5), .unset, .unset, .unset, .unset, .unset, .unset, .unset, .unset, .unset, .unset, .unset, .unset] [(.int (p0 &&& (2147483647 : Int32)))])
  refine hp (fun tq kq => XS.istore X0.here hx rfl (hb hby at_4) rfl (l' := #[.val (.int p0), .val (.int p1), .val (.int p2), .val (.int p3), .val (.int p4), .val (.int p5), .val (.int (p0 &&& (2147483647 : Int32))), .unset, .unset, .unset, .unset, .unset, .unset, .unset, .unset, .unset, .unset, .unset]) rfl kq) ?_
  show G s₁ (mkF m 6 #[.val (.int p0), .val (.int p1), .val (.int p2), .val (.int p3), .val (.int p4), .val (.int p5), .val (.int (p0 &&& (2147483647 : Int32))), .unset, .unset, .unset, .unset, .unset, .unset, .unset, .unset, .unset, .unset, .unset] [])
  refine (?_ : ∀ (z1 : Int32), z1 = (p0 &&& (2147483647 : Int32)) → G s₁ (mkF m 6 #[.val (.int p0), .val (.int p1), .val (.int p2), .val (.int p3), .val (.int p4), .val (.int p5), .val (.int z1), .unset, .unset, .unset, .unset, .unset, .unset, .unset, .unset, .unset, .unset, .unset] [])) _ rfl
  intro z1 hz1
  refine hp (fun tq kq => XS.iloadN X0.here hx rfl (hb hby at_6) rfl kq) ?_
  show G s₁ (mkF m 7 #[.val (.int p0), .val (.int p1), .val (.int p2), .val (.int p3), .val (.int p4), .val (.int p5), .val (.int z1), .unset, .unset, .unset, .unset, .unset, .unset, .unset, .unset, .unset, .unset, .unset] [(.int p1)])
  refine hp (fun tq kq => X0.ldcInt hx hown (mvT hZ (hw _ (List.mem_of_getElem? (i := 0) rfl))) (g := (mkF m 7 #[.val (.int p0), .val (.int p1), .val (.int p2), .val (.int p3), .val (.int p4), .val (.int p5), .val (.int z1), .unset, .unset, .unset, .unset, .unset, .unset, .unset, .unset, .unset, .unset, .unset] [(.int p1)])) rfl (hb hby at_7) _ kq) ?_
  show G s₁ (mkF m 9 #[.val (.int p0), .val (.int p1), .val (.int p2), .val (.int p3), .val (.int p4), .val (.int p5), .val (.int z1), .unset, .unset, .unset, .unset, .unset, .unset, .unset, .unset, .unset, .unset, .unset] [(.int (2147483647 : Int32)), (.int p1)])
  refine hp (fun tq kq => XS.iand X0.here hx rfl (hb hby at_9) rfl kq) ?_
  show G s₁ (mkF m 10 #[.val (.int p0), .val (.int p1), .val (.int p2), .val (.int p3), .val (.int p4), .val (.int p5), .val (.int z1), .unset, .unset, .unset, .unset, .unset, .unset, .unset, .unset, .unset, .unset, .unset] [(.int (p1 &&& (2147483647 : Int32)))])
  refine hp (fun tq kq => XS.istore X0.here hx rfl (hb hby at_10) rfl (l' := #[.val (.int p0), .val (.int p1), .val (.int p2), .val (.int p3), .val (.int p4), .val (.int p5), .val (.int z1), .val (.int (p1 &&& (2147483647 : Int32))), .unset, .unset, .unset, .unset, .unset, .unset, .unset, .unset, .unset, .unset]) rfl kq) ?_
  show G s₁ (mkF m 12 #[.val (.int p0), .val (.int p1), .val (.int p2), .val (.int p3), .val (.int p4), .val (.int p5), .val (.int z1), .val (.int (p1 &&& (2147483647 : Int32))), .unset, .unset, .unset, .unset, .unset, .unset, .unset, .unset, .unset, .unset] [])
  refine (?_ : ∀ (z2 : Int32), z2 = (p1 &&& (2147483647 : Int32)) → G s₁ (mkF m 12 #[.val (.int p0), .val (.int p1), .val (.int p2), .val (.int p3), .val (.int p4), .val (.int p5), .val (.int z1), .val (.int z2), .unset, .unset, .unset, .unset, .unset, .unset, .unset, .unset, .unset, .unset] [])) _ rfl
  intro z2 hz2
  refine hp (fun tq kq => XS.iloadN X0.here hx rfl (hb hby at_12) rfl kq) ?_
  show G s₁ (mkF m 13 #[.val (.int p0), .val (.int p1), .val (.int p2), .val (.int p3), .val (.int p4), .val (.int p5), .val (.int z1), .val (.int z2), .unset, .unset, .unset, .unset, .unset, .unset, .unset, .unset, .unset, .unset] [(.int p2)])
  refine hp (fun tq kq => X0.ldcInt hx hown (mvT hZ (hw _ (List.mem_of_getElem? (i := 0) rfl))) (g := (mkF m 13 #[.val (.int p0), .val (.int p1), .val (.int p2), .val (.int p3), .val (.int p4), .val (.int p5), .val (.int z1), .val (.int z2), .unset, .unset, .unset, .unset, .unset, .unset, .unset, .unset, .unset, .unset] [(.int p2)])) rfl (hb hby at_13) _ kq) ?_
  show G s₁ (mkF m 15 #[.val (.int p0), .val (.int p1), .val (.int p2), .val (.int p3), .val (.int p4), .val (.int p5), .val (.int z1), .val (.int z2), .unset, .unset, .unset, .unset, .unset, .unset, .unset, .unset, .unset, .unset] [(.int (2147483647 : Int32)), (.int p2)])
  refine hp (fun tq kq => XS.iand X0.here hx rfl (hb hby at_15) rfl kq) ?_
  show G s₁ (mkF m 16 #[.val (.int p0), .val (.int p1), .val (.int p2), .val (.int p3), .val (.int p4), .val (.int p5), .val (.int z1), .val (.int z2), .unset, .unset, .unset, .unset, .unset, .unset, .unset, .unset, .unset, .unset] [(.int (p2 &&& (2147483647 : Int32)))])
  refine hp (fun tq kq => XS.istore X0.here hx rfl (hb hby at_16) rfl (l' := #[.val (.int p0), .val (.int p1), .val (.int p2), .val (.int p3), .val (.int p4), .val (.int p5), .val (.int z1), .val (.int z2), .val (.int (p2 &&& (2147483647 : Int32))), .unset, .unset, .unset, .unset, .unset, .unset, .unset, .unset, .unset]) rfl kq) ?_
  show G s₁ (mkF m 18 #[.val (.int p0), .val (.int p1), .val (.int p2), .val (.int p3), .val (.int p4), .val (.int p5), .val (.int z1), .val (.int z2), .val (.int (p2 &&& (2147483647 : Int32))), .unset, .unset, .unset, .unset, .unset, .unset, .unset, .unset, .unset] [])
  refine (?_ : ∀ (z3 : Int32), z3 = (p2 &&& (2147483647 : Int32)) → G s₁ (mkF m 18 #[.val (.int p0), .val (.int p1), .val (.int p2), .val (.int p3), .val (.int p4), .val (.int p5), .val (.int z1), .val (.int z2), .val (.int z3), .unset, .unset, .unset, .unset, .unset, .unset, .unset, .unset, .unset] [])) _ rfl
  intro z3 hz3
  refine hp (fun tq kq => XS.iloadN X0.here hx rfl (hb hby at_18) rfl kq) ?_
  show G s₁ (mkF m 19 #[.val (.int p0), .val (.int p1), .val (.int p2), .val (.int p3), .val (.int p4), .val (.int p5), .val (.int z1), .val (.int z2), .val (.int z3), .unset, .unset, .unset, .unset, .unset, .unset, .unset, .unset, .unset] [(.int p3)])
  refine hp (fun tq kq => X0.ldcInt hx hown (mvT hZ (hw _ (List.mem_of_getElem? (i := 0) rfl))) (g := (mkF m 19 #[.val (.int p0), .val (.int p1), .val (.int p2), .val (.int p3), .val (.int p4), .val (.int p5), .val (.int z1), .val (.int z2), .val (.int z3), .unset, .unset, .unset, .unset, .unset, .unset, .unset, .unset, .unset] [(.int p3)])) rfl (hb hby at_19) _ kq) ?_
  show G s₁ (mkF m 21 #[.val (.int p0), .val (.int p1), .val (.int p2), .val (.int p3), .val (.int p4), .val (.int p5), .val (.int z1), .val (.int z2), .val (.int z3), .unset, .unset, .unset, .unset, .unset, .unset, .unset, .unset, .unset] [(.int (2147483647 : Int32)), (.int p3)])
  refine hp (fun tq kq => XS.iand X0.here hx rfl (hb hby at_21) rfl kq) ?_
  show G s₁ (mkF m 22 #[.val (.int p0), .val (.int p1), .val (.int p2), .val (.int p3), .val (.int p4), .val (.int p5), .val (.int z1), .val (.int z2), .val (.int z3), .unset, .unset, .unset, .unset, .unset, .unset, .unset, .unset, .unset] [(.int (p3 &&& (2147483647 : Int32)))])
  refine hp (fun tq kq => XS.istore X0.here hx rfl (hb hby at_22) rfl (l' := #[.val (.int p0), .val (.int p1), .val (.int p2), .val (.int p3), .val (.int p4), .val (.int p5), .val (.int z1), .val (.int z2), .val (.int z3), .val (.int (p3 &&& (2147483647 : Int32))), .unset, .unset, .unset, .unset, .unset, .unset, .unset, .unset]) rfl kq) ?_
  show G s₁ (mkF m 24 #[.val (.int p0), .val (.int p1), .val (.int p2), .val (.int p3), .val (.int p4), .val (.int p5), .val (.int z1), .val (.int z2), .val (.int z3), .val (.int (p3 &&& (2147483647 : Int32))), .unset, .unset, .unset, .unset, .unset, .unset, .unset, .unset] [])
  refine (?_ : ∀ (z4 : Int32), z4 = (p3 &&& (2147483647 : Int32)) → G s₁ (mkF m 24 #[.val (.int p0), .val (.int p1), .val (.int p2), .val (.int p3), .val (.int p4), .val (.int p5), .val (.int z1), .val (.int z2), .val (.int z3), .val (.int z4), .unset, .unset, .unset, .unset, .unset, .unset, .unset, .unset] [])) _ rfl
  intro z4 hz4
  refine hp (fun tq kq => XS.iload X0.here hx rfl (hb hby at_24) rfl kq) ?_
  show G s₁ (mkF m 26 #[.val (.int p0), .val (.int p1), .val (.int p2), .val (.int p3), .val (.int p4), .val (.int p5), .val (.int z1), .val (.int z2), .val (.int z3), .val (.int z4), .unset, .unset, .unset, .unset, .unset, .unset, .unset, .unset] [(.int p5)])
  refine hp (fun tq kq => XS.iconst X0.here hx rfl (hb hby at_26) kq) ?_
  show G s₁ (mkF m 27 #[.val (.int p0), .val (.int p1), .val (.int p2), .val (.int p3), .val (.int p4), .val (.int p5), .val (.int z1), .val (.int z2), .val (.int z3), .val (.int z4), .unset, .unset, .unset, .unset, .unset, .unset, .unset, .unset] [(.int (3 : Int32)), (.int p5)])
  refine hp (fun tq kq => XS.iand X0.here hx rfl (hb hby at_27) rfl kq) ?_
  show G s₁ (mkF m 28 #[.val (.int p0), .val (.int p1), .val (.int p2), .val (.int p3), .val (.int p4), .val (.int p5), .val (.int z1), .val (.int z2), .val (.int z3), .val (.int z4), .unset, .unset, .unset, .unset, .unset, .unset, .unset, .unset] [(.int (p5 &&& (3 : Int32)))])
  refine hp (fun tq kq => XS.istore X0.here hx rfl (hb hby at_28) rfl (l' := #[.val (.int p0), .val (.int p1), .val (.int p2), .val (.int p3), .val (.int p4), .val (.int p5), .val (.int z1), .val (.int z2), .val (.int z3), .val (.int z4), .val (.int (p5 &&& (3 : Int32))), .unset, .unset, .unset, .unset, .unset, .unset, .unset]) rfl kq) ?_
  show G s₁ (mkF m 30 #[.val (.int p0), .val (.int p1), .val (.int p2), .val (.int p3), .val (.int p4), .val (.int p5), .val (.int z1), .val (.int z2), .val (.int z3), .val (.int z4), .val (.int (p5 &&& (3 : Int32))), .unset, .unset, .unset, .unset, .unset, .unset, .unset] [])
  refine (?_ : ∀ (z5 : Int32), z5 = (p5 &&& (3 : Int32)) → G s₁ (mkF m 30 #[.val (.int p0), .val (.int p1), .val (.int p2), .val (.int p3), .val (.int p4), .val (.int p5), .val (.int z1), .val (.int z2), .val (.int z3), .val (.int z4), .val (.int z5), .unset, .unset, .unset, .unset, .unset, .unset, .unset] [])) _ rfl
  intro z5 hz5
  obtain ⟨T6, h6, X6, e6, E6, A6, D6, -, st6⟩ := newO X0 hx hZ hown (hw _ (List.mem_of_getElem? (i := 1) rfl)) (hw _ (List.mem_of_getElem? (i := 2) rfl)) (hw _ (List.mem_of_getElem? (i := 3) rfl)) e0 (g := (mkF m 30 #[.val (.int p0), .val (.int p1), .val (.int p2), .val (.int p3), .val (.int p4), .val (.int p5), .val (.int z1), .val (.int z2), .val (.int z3), .val (.int z4), .val (.int z5), .unset, .unset, .unset, .unset, .unset, .unset, .unset] [])) rfl (hb hby at_30) (by decide) (by decide)
  obtain ⟨b6, g6⟩ : ∃ z, z = h0.size := ⟨_, rfl⟩
  rw [← g6] at A6 D6 st6
  have sz_b6 : h0.size ≤ b6 := Nat.le_trans K0.1 (Nat.le_of_eq g6.symm)
  have g_b6 : n0 ≤ b6 := Nat.le_trans Z0 sz_b6
  have K6 := K0.ext E6
  have F6_keys_b6 : Fld Z h6 b6 "com/example/referent/referent/solver/IntPairMap" "keys" "[J" .null := D6 (Or.inl (hw _ (List.mem_of_getElem? (i := 12) rfl))) (ty := (.array .long)) (by decide)
  have F6_values_b6 : Fld Z h6 b6 "com/example/referent/referent/solver/IntPairMap" "values" "[I" .null := D6 (Or.inl (hw _ (List.mem_of_getElem? (i := 15) rfl))) (ty := (.array .int)) (by decide)
  have F6_size_b6 : Fld Z h6 b6 "com/example/referent/referent/solver/IntPairMap" "size" "I" (.int (0 : Int32)) := D6 (Or.inl (hw _ (List.mem_of_getElem? (i := 22) rfl))) (ty := .int) (by decide)
  refine hp st6 ?_
  show G T6 (mkF m 33 #[.val (.int p0), .val (.int p1), .val (.int p2), .val (.int p3), .val (.int p4), .val (.int p5), .val (.int z1), .val (.int z2), .val (.int z3), .val (.int z4), .val (.int z5), .unset, .unset, .unset, .unset, .unset, .unset, .unset] [(.ref b6)])
  refine hp (fun tq kq => XS.dup X6.here hx rfl (hb hby at_33) rfl rfl kq) ?_
  show G T6 (mkF m 34 #[.val (.int p0), .val (.int p1), .val (.int p2), .val (.int p3), .val (.int p4), .val (.int p5), .val (.int z1), .val (.int z2), .val (.int z3), .val (.int z4), .val (.int z5), .unset, .unset, .unset, .unset, .unset, .unset, .unset] [(.ref b6), (.ref b6)])
  obtain ⟨v7, T7, L7, X7, hQ7, st7⟩ := own_callI X6 hx hZ (y := (⟨"com/example/referent/referent/solver/IntPairMap", "<init>", "()V"⟩ : MethodName)) (rm := ({ frames := 1, cells := 2, slots := 0, locals := 12 } : Room)) 1 rfl hown (hw _ (List.mem_of_getElem? (i := 4) rfl)) (hw _ (List.mem_of_getElem? (i := 5) rfl)) (hw _ (List.mem_of_getElem? (i := 3) rfl)) (hw _ (List.mem_of_getElem? (i := 6) rfl)) (by decide) (rm1 l Z a0 hw [] b6 h6 n0 (Nat.le_trans Z0 K6.1) A6 F6_keys_b6 F6_values_b6 F6_size_b6 g_b6) e6 (by decide) (by decide) (g := (mkF m 34 #[.val (.int p0), .val (.int p1), .val (.int p2), .val (.int p3), .val (.int p4), .val (.int p5), .val (.int z1), .val (.int z2), .val (.int z3), .val (.int z4), .val (.int z5), .unset, .unset, .unset, .unset, .unset, .unset, .unset] [(.ref b6), (.ref b6)])) rfl (by rw [hml]; rfl) b6 [] [(.ref b6)] own_pd6 rfl rfl (by show 2 * 0 + _ ≤ _; exact Nat.le_of_eq rfl) (hb hby at_34) rfl (by decide) (by decide)
  obtain ⟨ka7, va7, rfl, N7, Kc7, E7_b6, F7_keys_b6, F7_values_b6, F7_size_b6, V7_ka7, V7_va7, nn7, sa7, sb7⟩ := hQ7
  have N7b := Fr.app N0 N7
  have ne7_b6_ka7 : b6 ≠ ka7 := Nat.ne_of_lt (Nat.lt_of_lt_of_le A6.lt sa7)
  have sz_ka7 : h0.size ≤ ka7 := Nat.le_trans K6.1 sa7
  have g_ka7 : n0 ≤ ka7 := Nat.le_trans Z0 sz_ka7
  have ne7_b6_va7 : b6 ≠ va7 := Nat.ne_of_lt (Nat.lt_of_lt_of_le A6.lt sb7)
  have sz_va7 : h0.size ≤ va7 := Nat.le_trans K6.1 sb7
  have g_va7 : n0 ≤ va7 := Nat.le_trans Z0 sz_va7
  have E7_b6 := A6.keep Kc7
  have K7 := K6.trans Kc7 (allS (Or.inr sz_b6) all0)
  refine hp st7 ?_
  show G T7 (mkF m 37 #[.val (.int p0), .val (.int p1), .val (.int p2), .val (.int p3), .val (.int p4), .val (.int p5), .val (.int z1), .val (.int z2), .val (.int z3), .val (.int z4), .val (.int z5), .unset, .unset, .unset, .unset, .unset, .unset, .unset] [(.ref b6)])
  refine hp (fun tq kq => XS.astore X7.here hx rfl (hb hby at_37) rfl rfl (l' := #[.val (.int p0), .val (.int p1), .val (.int p2), .val (.int p3), .val (.int p4), .val (.int p5), .val (.int z1), .val (.int z2), .val (.int z3), .val (.int z4), .val (.int z5), .val (.ref b6), .unset, .unset, .unset, .unset, .unset, .unset]) rfl kq) ?_
  show G T7 (mkF m 39 #[.val (.int p0), .val (.int p1), .val (.int p2), .val (.int p3), .val (.int p4), .val (.int p5), .val (.int z1), .val (.int z2), .val (.int z3), .val (.int z4), .val (.int z5), .val (.ref b6), .unset, .unset, .unset, .unset, .unset, .unset] [])
  refine hp (fun tq kq => XS.aload X7.here hx rfl (hb hby at_39) rfl rfl kq) ?_
  show G T7 (mkF m 41 #[.val (.int p0), .val (.int p1), .val (.int p2), .val (.int p3), .val (.int p4), .val (.int p5), .val (.int z1), .val (.int z2), .val (.int z3), .val (.int z4), .val (.int z5), .val (.ref b6), .unset, .unset, .unset, .unset, .unset, .unset] [(.ref b6)])
  refine hp (fun tq kq => XS.iload X7.here hx rfl (hb hby at_41) rfl kq) ?_
  show G T7 (mkF m 43 #[.val (.int p0), .val (.int p1), .val (.int p2), .val (.int p3), .val (.int p4), .val (.int p5), .val (.int z1), .val (.int z2), .val (.int z3), .val (.int z4), .val (.int z5), .val (.ref b6), .unset, .unset, .unset, .unset, .unset, .unset] [(.int z1), (.ref b6)])
  refine hp (fun tq kq => XS.iload X7.here hx rfl (hb hby at_43) rfl kq) ?_
  show G T7 (mkF m 45 #[.val (.int p0), .val (.int p1), .val (.int p2), .val (.int p3), .val (.int p4), .val (.int p5), .val (.int z1), .val (.int z2), .val (.int z3), .val (.int z4), .val (.int z5), .val (.ref b6), .unset, .unset, .unset, .unset, .unset, .unset] [(.int z2), (.int z1), (.ref b6)])
  refine hp (fun tq kq => XS.iload X7.here hx rfl (hb hby at_45) rfl kq) ?_
  show G T7 (mkF m 47 #[.val (.int p0), .val (.int p1), .val (.int p2), .val (.int p3), .val (.int p4), .val (.int p5), .val (.int z1), .val (.int z2), .val (.int z3), .val (.int z4), .val (.int z5), .val (.ref b6), .unset, .unset, .unset, .unset, .unset, .unset] [(.int p4), (.int z2), (.int z1), (.ref b6)])
  refine hp (fun tq kq => X7.ldcInt hx hown (mvT hZ (hw _ (List.mem_of_getElem? (i := 0) rfl))) (g := (mkF m 47 #[.val (.int p0), .val (.int p1), .val (.int p2), .val (.int p3), .val (.int p4), .val (.int p5), .val (.int z1), .val (.int z2), .val (.int z3), .val (.int z4), .val (.int z5), .val (.ref b6), .unset, .unset, .unset, .unset, .unset, .unset] [(.int p4), (.int z2), (.int z1), (.ref b6)])) rfl (hb hby at_47) _ kq) ?_
  show G T7 (mkF m 49 #[.val (.int p0), .val (.int p1), .val (.int p2), .val (.int p3), .val (.int p4), .val (.int p5), .val (.int z1), .val (.int z2), .val (.int z3), .val (.int z4), .val (.int z5), .val (.ref b6), .unset, .unset, .unset, .unset, .unset, .unset] [(.int (2147483647 : Int32)), (.int p4), (.int z2), (.int z1), (.ref b6)])
  refine hp (fun tq kq => XS.iand X7.here hx rfl (hb hby at_49) rfl kq) ?_
  show G T7 (mkF m 50 #[.val (.int p0), .val (.int p1), .val (.int p2), .val (.int p3), .val (.int p4), .val (.int p5), .val (.int z1), .val (.int z2), .val (.int z3), .val (.int z4), .val (.int z5), .val (.ref b6), .unset, .unset, .unset, .unset, .unset, .unset] [(.int (p4 &&& (2147483647 : Int32))), (.int z2), (.int z1), (.ref b6)])
  obtain ⟨v8, T8, L8, X8, hQ8, st8⟩ := own_callV X7 hx hZ (y := (⟨"com/example/referent/referent/solver/IntPairMap", "put", "(III)V"⟩ : MethodName)) (rm := ({ frames := 2, cells := 2, slots := 32, locals := 33 } : Room)) 0 hown (hw _ (List.mem_of_getElem? (i := 16) rfl)) (hw _ (List.mem_of_getElem? (i := 17) rfl)) (hw _ (List.mem_of_getElem? (i := 19) rfl)) (hw _ (List.mem_of_getElem? (i := 18) rfl)) (hw _ (List.mem_of_getElem? (i := 3) rfl)) (hw _ (List.mem_of_getElem? (i := 20) rfl)) (by decide) (rm3a l Z a0 hw [] b6 z1 z2 (p4 &&& (2147483647 : Int32)) ka7 va7 T7.heap n0 (Nat.le_trans Z0 K7.1) E7_b6 F7_keys_b6 F7_values_b6 F7_size_b6 V7_ka7 g_b6 ne7_b6_ka7 ne7_b6_va7 (own_nnz hz1) (own_nnz hz2) (own_nnm _)) rfl E7_b6 (by decide) (by decide) (g := (mkF m 50 #[.val (.int p0), .val (.int p1), .val (.int p2), .val (.int p3), .val (.int p4), .val (.int p5), .val (.int z1), .val (.int z2), .val (.int z3), .val (.int z4), .val (.int z5), .val (.ref b6), .unset, .unset, .unset, .unset, .unset, .unset] [(.int (p4 &&& (2147483647 : Int32))), (.int z2), (.int z1), (.ref b6)])) rfl (by rw [hml]; rfl) [(.int z1), (.int z2), (.int (p4 &&& (2147483647 : Int32)))] [] own_pd7 rfl rfl (by show 2 * 0 + _ ≤ _; exact Nat.le_of_eq rfl) (hb hby at_50) rfl (by decide) (by decide)
  obtain ⟨kb8, vb8, fk8, fv8, rv8, rfl, N8, Kc8, E8_b6, F8_keys_b6, F8_values_b6, F8_size_b6, V8_kb8, V8_vb8, nn8, sa8, sb8, hrel8⟩ := hQ8
  have N8b := Fr.app N7b N8
  have ne8_ka7_kb8 : ka7 ≠ kb8 := Nat.ne_of_lt (Nat.lt_of_lt_of_le V7_ka7.lt sa8)
  have ne8_va7_kb8 : va7 ≠ kb8 := Nat.ne_of_lt (Nat.lt_of_lt_of_le V7_va7.lt sa8)
  have ne8_b6_kb8 : b6 ≠ kb8 := Nat.ne_of_lt (Nat.lt_of_lt_of_le E7_b6.lt sa8)
  have sz_kb8 : h0.size ≤ kb8 := Nat.le_trans K7.1 sa8
  have g_kb8 : n0 ≤ kb8 := Nat.le_trans Z0 sz_kb8
  have ne8_ka7_vb8 : ka7 ≠ vb8 := Nat.ne_of_lt (Nat.lt_of_lt_of_le V7_ka7.lt sb8)
  have ne8_va7_vb8 : va7 ≠ vb8 := Nat.ne_of_lt (Nat.lt_of_lt_of_le V7_va7.lt sb8)
  have ne8_b6_vb8 : b6 ≠ vb8 := Nat.ne_of_lt (Nat.lt_of_lt_of_le E7_b6.lt sb8)
  have sz_vb8 : h0.size ≤ vb8 := Nat.le_trans K7.1 sb8
  have g_vb8 : n0 ≤ vb8 := Nat.le_trans Z0 sz_vb8
  have V8_ka7 := V7_ka7.keep Kc8 (ninS (Ne.symm ne7_b6_ka7) nin0)
  have V8_va7 := V7_va7.keep Kc8 (ninS (Ne.symm ne7_b6_va7) nin0)
  have E8_b6 := E7_b6.keep Kc8
  have K8 := K7.trans Kc8 (allS (Or.inr sz_b6) all0)
  have hgood8 := own_goodS own_good0 (own_keyne (own_nnz hz1) (own_nnz hz2)) hrel8
  refine hp st8 ?_
  show G T8 (mkF m 53 #[.val (.int p0), .val (.int p1), .val (.int p2), .val (.int p3), .val (.int p4), .val (.int p5), .val (.int z1), .val (.int z2), .val (.int z3), .val (.int z4), .val (.int z5), .val (.ref b6), .unset, .unset, .unset, .unset, .unset, .unset] [])
  have j91 : ∀ (T9w : State) (locs9w : List Loc) (h9w : Heap) (kA vA : Addr) (fk : Nat → Int64) (fv : Nat → Int32) (sz : Int32), Stand p l e room_1 s m #[(.int p0), (.int p1), (.int p2), (.int p3), (.int p4), (.int p5)] below meth c T9w locs9w 5 35 → T9w.heap = h9w → Keep h0 h9w [] → Fr n0 locs9w → Exa Z h9w b6 "com/example/referent/referent/solver/IntPairMap" → Fld Z h9w b6 "com/example/referent/referent/solver/IntPairMap" "keys" "[J" (.ref kA) → Fld Z h9w b6 "com/example/referent/referent/solver/IntPairMap" "values" "[I" (.ref vA) → Fld Z h9w b6 "com/example/referent/referent/solver/IntPairMap" "size" "I" (.int sz) → own_AJ Z h9w kA 16 fk → own_AI Z h9w vA .int 16 fv → ¬ sz = (0 : Int32) → own_Good fk ((own_ks z5 z1 z2 z3 z4).map fun q => own_key q.1 q.2) → G T9w (mkF m 91 #[.val (.int p0), .val (.int p1), .val (.int p2), .val (.int p3), .val (.int p4), .val (.int p5), .val (.int z1), .val (.int z2), .val (.int z3), .val (.int z4), .val (.int z5), .val (.ref b6), .unset, .unset, .unset, .unset, .unset, .unset] []) := by
    intro T9w locs9w h9w kA vA fk fv sz X9w e9w K9w N9w E9 Fk9 Fv9 Fs9 Vk9 Vv9 hsz hgood
    show G T9w (mkF m 91 #[.val (.int p0), .val (.int p1), .val (.int p2), .val (.int p3), .val (.int p4), .val (.int p5), .val (.int z1), .val (.int z2), .val (.int z3), .val (.int z4), .val (.int z5), .val (.ref b6), .unset, .unset, .unset, .unset, .unset, .unset] [])
    refine hp (fun tq kq => XS.aload X9w.here hx rfl (hb hby at_91) rfl rfl kq) ?_
    show G T9w (mkF m 93 #[.val (.int p0), .val (.int p1), .val (.int p2), .val (.int p3), .val (.int p4), .val (.int p5), .val (.int z1), .val (.int z2), .val (.int z3), .val (.int z4), .val (.int z5), .val (.ref b6), .unset, .unset, .unset, .unset, .unset, .unset] [(.ref b6)])
    obtain ⟨v9, T9, L9, X9, hQ9, st9⟩ := own_callV X9w hx hZ (y := (⟨"com/example/referent/referent/solver/IntPairMap", "slots", "()I"⟩ : MethodName)) (rm := ({ frames := 0, cells := 0, slots := 0, locals := 0 } : Room)) 0 hown (hw _ (List.mem_of_getElem? (i := 47) rfl)) (hw _ (List.mem_of_getElem? (i := 48) rfl)) (hw _ (List.mem_of_getElem? (i := 50) rfl)) (hw _ (List.mem_of_getElem? (i := 49) rfl)) (hw _ (List.mem_of_getElem? (i := 3) rfl)) (hw _ (List.mem_of_getElem? (i := 51) rfl)) (by decide) (rm10 l Z a0 hw [] b6 kA vA fk fv 0 h9w n0 Fk9 Fv9 Vk9 Vv9 (by decide)) e9w E9 (by decide) (by decide) (g := (mkF m 93 #[.val (.int p0), .val (.int p1), .val (.int p2), .val (.int p3), .val (.int p4), .val (.int p5), .val (.int z1), .val (.int z2), .val (.int z3), .val (.int z4), .val (.int z5), .val (.ref b6), .unset, .unset, .unset, .unset, .unset, .unset] [(.ref b6)])) rfl (by rw [hml]; rfl) [] [] own_pd8 rfl rfl (by show 2 * 0 + _ ≤ _; exact Nat.le_of_eq rfl) (hb hby at_93) rfl (by decide) (by decide)
    obtain ⟨rfl, N9, e9⟩ := hQ9
    have N9b := Fr.app N9w N9
    refine hp st9 ?_
    show G T9 (mkF m 96 #[.val (.int p0), .val (.int p1), .val (.int p2), .val (.int p3), .val (.int p4), .val (.int p5), .val (.int z1), .val (.int z2), .val (.int z3), .val (.int z4), .val (.int z5), .val (.ref b6), .unset, .unset, .unset, .unset, .unset, .unset] [(.int (16 : Int32))])
    refine hp (fun tq kq => XS.istore X9.here hx rfl (hb hby at_96) rfl (l' := #[.val (.int p0), .val (.int p1), .val (.int p2), .val (.int p3), .val (.int p4), .val (.int p5), .val (.int z1), .val (.int z2), .val (.int z3), .val (.int z4), .val (.int z5), .val (.ref b6), .val (.int (16 : Int32)), .unset, .unset, .unset, .unset, .unset]) rfl kq) ?_
    show G T9 (mkF m 98 #[.val (.int p0), .val (.int p1), .val (.int p2), .val (.int p3), .val (.int p4), .val (.int p5), .val (.int z1), .val (.int z2), .val (.int z3), .val (.int z4), .val (.int z5), .val (.ref b6), .val (.int (16 : Int32)), .unset, .unset, .unset, .unset, .unset] [])
    refine hp (fun tq kq => XS.iload X9.here hx rfl (hb hby at_98) rfl kq) ?_
    show G T9 (mkF m 100 #[.val (.int p0), .val (.int p1), .val (.int p2), .val (.int p3), .val (.int p4), .val (.int p5), .val (.int z1), .val (.int z2), .val (.int z3), .val (.int z4), .val (.int z5), .val (.ref b6), .val (.int (16 : Int32)), .unset, .unset, .unset, .unset, .unset] [(.int (16 : Int32))])
    refine hp (fun tq kq => XS.ifYes X9.here hx rfl (pc0 := 100) (pc' := 105) rfl (hb hby at_100) rfl ((if0 _ _).trans (tlt (by decide)).2.2.1) (by decide) (by decide) kq) ?_
    show G T9 (mkF m 105 #[.val (.int p0), .val (.int p1), .val (.int p2), .val (.int p3), .val (.int p4), .val (.int p5), .val (.int z1), .val (.int z2), .val (.int z3), .val (.int z4), .val (.int z5), .val (.ref b6), .val (.int (16 : Int32)), .unset, .unset, .unset, .unset, .unset] [])
    refine hp (fun tq kq => XS.iload X9.here hx rfl (hb hby at_105) rfl kq) ?_
    show G T9 (mkF m 107 #[.val (.int p0), .val (.int p1), .val (.int p2), .val (.int p3), .val (.int p4), .val (.int p5), .val (.int z1), .val (.int z2), .val (.int z3), .val (.int z4), .val (.int z5), .val (.ref b6), .val (.int (16 : Int32)), .unset, .unset, .unset, .unset, .unset] [(.int p5)])
    refine hp (fun tq kq => XS.iconst X9.here hx rfl (hb hby at_107) kq) ?_
    show G T9 (mkF m 108 #[.val (.int p0), .val (.int p1), .val (.int p2), .val (.int p3), .val (.int p4), .val (.int p5), .val (.int z1), .val (.int z2), .val (.int z3), .val (.int z4), .val (.int z5), .val (.ref b6), .val (.int (16 : Int32)), .unset, .unset, .unset, .unset, .unset] [(.int (2 : Int32)), (.int p5)])
    refine hp (fun tq kq => XS.iushr X9.here hx rfl (hb hby at_108) rfl kq) ?_
    show G T9 (mkF m 109 #[.val (.int p0), .val (.int p1), .val (.int p2), .val (.int p3), .val (.int p4), .val (.int p5), .val (.int z1), .val (.int z2), .val (.int z3), .val (.int z4), .val (.int z5), .val (.ref b6), .val (.int (16 : Int32)), .unset, .unset, .unset, .unset, .unset] [(.int ((p5.toUInt32 >>> ((2 : Int32) &&& 31).toUInt32).toInt32))])
    refine hp (fun tq kq => XS.iload X9.here hx rfl (hb hby at_109) rfl kq) ?_
    show G T9 (mkF m 111 #[.val (.int p0), .val (.int p1), .val (.int p2), .val (.int p3), .val (.int p4), .val (.int p5), .val (.int z1), .val (.int z2), .val (.int z3), .val (.int z4), .val (.int z5), .val (.ref b6), .val (.int (16 : Int32)), .unset, .unset, .unset, .unset, .unset] [(.int (16 : Int32)), (.int ((p5.toUInt32 >>> ((2 : Int32) &&& 31).toUInt32).toInt32))])
    refine hp (fun tq kq => iremM X9 hx rfl (hb hby at_111) rfl (by decide) kq) ?_
    show G T9 (mkF m 112 #[.val (.int p0), .val (.int p1), .val (.int p2), .val (.int p3), .val (.int p4), .val (.int p5), .val (.int z1), .val (.int z2), .val (.int z3), .val (.int z4), .val (.int z5), .val (.ref b6), .val (.int (16 : Int32)), .unset, .unset, .unset, .unset, .unset] [(.int (((p5.toUInt32 >>> ((2 : Int32) &&& 31).toUInt32).toInt32) % (16 : Int32)))])
    refine hp (fun tq kq => XS.istore X9.here hx rfl (hb hby at_112) rfl (l' := #[.val (.int p0), .val (.int p1), .val (.int p2), .val (.int p3), .val (.int p4), .val (.int p5), .val (.int z1), .val (.int z2), .val (.int z3), .val (.int z4), .val (.int z5), .val (.ref b6), .val (.int (16 : Int32)), .val (.int (((p5.toUInt32 >>> ((2 : Int32) &&& 31).toUInt32).toInt32) % (16 : Int32))), .unset, .unset, .unset, .unset]) rfl kq) ?_
    show G T9 (mkF m 114 #[.val (.int p0), .val (.int p1), .val (.int p2), .val (.int p3), .val (.int p4), .val (.int p5), .val (.int z1), .val (.int z2), .val (.int z3), .val (.int z4), .val (.int z5), .val (.ref b6), .val (.int (16 : Int32)), .val (.int (((p5.toUInt32 >>> ((2 : Int32) &&& 31).toUInt32).toInt32) % (16 : Int32))), .unset, .unset, .unset, .unset] [])
    refine (?_ : ∀ (z10 : Int32), z10 = (((p5.toUInt32 >>> ((2 : Int32) &&& 31).toUInt32).toInt32) % (16 : Int32)) → G T9 (mkF m 114 #[.val (.int p0), .val (.int p1), .val (.int p2), .val (.int p3), .val (.int p4), .val (.int p5), .val (.int z1), .val (.int z2), .val (.int z3), .val (.int z4), .val (.int z5), .val (.ref b6), .val (.int (16 : Int32)), .val (.int z10), .unset, .unset, .unset, .unset] [])) _ rfl
    intro z10 hz10
    obtain ⟨i0, hx0, hi⟩ := own_ix hz10
    refine hp (fun tq kq => XS.aload X9.here hx rfl (hb hby at_114) rfl rfl kq) ?_
    show G T9 (mkF m 116 #[.val (.int p0), .val (.int p1), .val (.int p2), .val (.int p3), .val (.int p4), .val (.int p5), .val (.int z1), .val (.int z2), .val (.int z3), .val (.int z4), .val (.int z5), .val (.ref b6), .val (.int (16 : Int32)), .val (.int z10), .unset, .unset, .unset, .unset] [(.ref b6)])
    refine hp (fun tq kq => XS.iload X9.here hx rfl (hb hby at_116) rfl kq) ?_
    show G T9 (mkF m 118 #[.val (.int p0), .val (.int p1), .val (.int p2), .val (.int p3), .val (.int p4), .val (.int p5), .val (.int z1), .val (.int z2), .val (.int z3), .val (.int z4), .val (.int z5), .val (.ref b6), .val (.int (16 : Int32)), .val (.int z10), .unset, .unset, .unset, .unset] [(.int z10), (.ref b6)])
    obtain ⟨v11, T11, L11, X11, hQ11, st11⟩ := own_callV X9 hx hZ (y := (⟨"com/example/referent/referent/solver/IntPairMap", "taken", "(I)Z"⟩ : MethodName)) (rm := ({ frames := 0, cells := 0, slots := 0, locals := 0 } : Room)) 0 hown (hw _ (List.mem_of_getElem? (i := 52) rfl)) (hw _ (List.mem_of_getElem? (i := 53) rfl)) (hw _ (List.mem_of_getElem? (i := 55) rfl)) (hw _ (List.mem_of_getElem? (i := 54) rfl)) (hw _ (List.mem_of_getElem? (i := 3) rfl)) (hw _ (List.mem_of_getElem? (i := 56) rfl)) (by decide) (rm11 l Z a0 hw [] b6 z10 kA vA fk fv i0 h9w n0 Fk9 Fv9 Vk9 Vv9 hi hx0) e9 E9 (by decide) (by decide) (g := (mkF m 118 #[.val (.int p0), .val (.int p1), .val (.int p2), .val (.int p3), .val (.int p4), .val (.int p5), .val (.int z1), .val (.int z2), .val (.int z3), .val (.int z4), .val (.int z5), .val (.ref b6), .val (.int (16 : Int32)), .val (.int z10), .unset, .unset, .unset, .unset] [(.int z10), (.ref b6)])) rfl (by rw [hml]; rfl) [(.int z10)] [] own_pd9 rfl rfl (by show 2 * 0 + _ ≤ _; exact Nat.le_of_eq rfl) (hb hby at_118) rfl (by decide) (by decide)
    obtain ⟨rfl, N11, e11⟩ := hQ11
    have N11b := Fr.app N9b N11
    refine hp st11 ?_
    show G T11 (mkF m 121 #[.val (.int p0), .val (.int p1), .val (.int p2), .val (.int p3), .val (.int p4), .val (.int p5), .val (.int z1), .val (.int z2), .val (.int z3), .val (.int z4), .val (.int z5), .val (.ref b6), .val (.int (16 : Int32)), .val (.int z10), .unset, .unset, .unset, .unset] [(.int (own_tk (fk i0)))])
    refine hp (fun tq kq => XS.istore X11.here hx rfl (hb hby at_121) rfl (l' := #[.val (.int p0), .val (.int p1), .val (.int p2), .val (.int p3), .val (.int p4), .val (.int p5), .val (.int z1), .val (.int z2), .val (.int z3), .val (.int z4), .val (.int z5), .val (.ref b6), .val (.int (16 : Int32)), .val (.int z10), .val (.int (own_tk (fk i0))), .unset, .unset, .unset]) rfl kq) ?_
    show G T11 (mkF m 123 #[.val (.int p0), .val (.int p1), .val (.int p2), .val (.int p3), .val (.int p4), .val (.int p5), .val (.int z1), .val (.int z2), .val (.int z3), .val (.int z4), .val (.int z5), .val (.ref b6), .val (.int (16 : Int32)), .val (.int z10), .val (.int (own_tk (fk i0))), .unset, .unset, .unset] [])
    refine (?_ : ∀ (z12 : Int32), z12 = (own_tk (fk i0)) → G T11 (mkF m 123 #[.val (.int p0), .val (.int p1), .val (.int p2), .val (.int p3), .val (.int p4), .val (.int p5), .val (.int z1), .val (.int z2), .val (.int z3), .val (.int z4), .val (.int z5), .val (.ref b6), .val (.int (16 : Int32)), .val (.int z10), .val (.int z12), .unset, .unset, .unset] [])) _ rfl
    intro z12 hz12
    refine hp (fun tq kq => XS.aload X11.here hx rfl (hb hby at_123) rfl rfl kq) ?_
    show G T11 (mkF m 125 #[.val (.int p0), .val (.int p1), .val (.int p2), .val (.int p3), .val (.int p4), .val (.int p5), .val (.int z1), .val (.int z2), .val (.int z3), .val (.int z4), .val (.int z5), .val (.ref b6), .val (.int (16 : Int32)), .val (.int z10), .val (.int z12), .unset, .unset, .unset] [(.ref b6)])
    refine hp (fun tq kq => XS.iload X11.here hx rfl (hb hby at_125) rfl kq) ?_
    show G T11 (mkF m 127 #[.val (.int p0), .val (.int p1), .val (.int p2), .val (.int p3), .val (.int p4), .val (.int p5), .val (.int z1), .val (.int z2), .val (.int z3), .val (.int z4), .val (.int z5), .val (.ref b6), .val (.int (16 : Int32)), .val (.int z10), .val (.int z12), .unset, .unset, .unset] [(.int z10), (.ref b6)])
    obtain ⟨v13, T13, L13, X13, hQ13, st13⟩ := own_callV X11 hx hZ (y := (⟨"com/example/referent/referent/solver/IntPairMap", "first", "(I)I"⟩ : MethodName)) (rm := ({ frames := 0, cells := 0, slots := 0, locals := 0 } : Room)) 0 hown (hw _ (List.mem_of_getElem? (i := 57) rfl)) (hw _ (List.mem_of_getElem? (i := 58) rfl)) (hw _ (List.mem_of_getElem? (i := 60) rfl)) (hw _ (List.mem_of_getElem? (i := 59) rfl)) (hw _ (List.mem_of_getElem? (i := 3) rfl)) (hw _ (List.mem_of_getElem? (i := 61) rfl)) (by decide) (rm12 l Z a0 hw [] b6 z10 kA vA fk fv i0 h9w n0 Fk9 Fv9 Vk9 Vv9 hi hx0) e11 E9 (by decide) (by decide) (g := (mkF m 127 #[.val (.int p0), .val (.int p1), .val (.int p2), .val (.int p3), .val (.int p4), .val (.int p5), .val (.int z1), .val (.int z2), .val (.int z3), .val (.int z4), .val (.int z5), .val (.ref b6), .val (.int (16 : Int32)), .val (.int z10), .val (.int z12), .unset, .unset, .unset] [(.int z10), (.ref b6)])) rfl (by rw [hml]; rfl) [(.int z10)] [] own_pd10 rfl rfl (by show 2 * 0 + _ ≤ _; exact Nat.le_of_eq rfl) (hb hby at_127) rfl (by decide) (by decide)
    obtain ⟨rfl, N13, e13⟩ := hQ13
    have N13b := Fr.app N11b N13
    refine hp st13 ?_
    show G T13 (mkF m 130 #[.val (.int p0), .val (.int p1), .val (.int p2), .val (.int p3), .val (.int p4), .val (.int p5), .val (.int z1), .val (.int z2), .val (.int z3), .val (.int z4), .val (.int z5), .val (.ref b6), .val (.int (16 : Int32)), .val (.int z10), .val (.int z12), .unset, .unset, .unset] [(.int ((((fk i0).toUInt64 >>> ((32 : Int32) &&& 0x3f).toInt64.toUInt64).toInt64).toInt32))])
    refine hp (fun tq kq => XS.istore X13.here hx rfl (hb hby at_130) rfl (l' := #[.val (.int p0), .val (.int p1), .val (.int p2), .val (.int p3), .val (.int p4), .val (.int p5), .val (.int z1), .val (.int z2), .val (.int z3), .val (.int z4), .val (.int z5), .val (.ref b6), .val (.int (16 : Int32)), .val (.int z10), .val (.int z12), .val (.int ((((fk i0).toUInt64 >>> ((32 : Int32) &&& 0x3f).toInt64.toUInt64).toInt64).toInt32)), .unset, .unset]) rfl kq) ?_
    show G T13 (mkF m 132 #[.val (.int p0), .val (.int p1), .val (.int p2), .val (.int p3), .val (.int p4), .val (.int p5), .val (.int z1), .val (.int z2), .val (.int z3), .val (.int z4), .val (.int z5), .val (.ref b6), .val (.int (16 : Int32)), .val (.int z10), .val (.int z12), .val (.int ((((fk i0).toUInt64 >>> ((32 : Int32) &&& 0x3f).toInt64.toUInt64).toInt64).toInt32)), .unset, .unset] [])
    refine (?_ : ∀ (z14 : Int32), z14 = ((((fk i0).toUInt64 >>> ((32 : Int32) &&& 0x3f).toInt64.toUInt64).toInt64).toInt32) → G T13 (mkF m 132 #[.val (.int p0), .val (.int p1), .val (.int p2), .val (.int p3), .val (.int p4), .val (.int p5), .val (.int z1), .val (.int z2), .val (.int z3), .val (.int z4), .val (.int z5), .val (.ref b6), .val (.int (16 : Int32)), .val (.int z10), .val (.int z12), .val (.int z14), .unset, .unset] [])) _ rfl
    intro z14 hz14
    refine hp (fun tq kq => XS.aload X13.here hx rfl (hb hby at_132) rfl rfl kq) ?_
    show G T13 (mkF m 134 #[.val (.int p0), .val (.int p1), .val (.int p2), .val (.int p3), .val (.int p4), .val (.int p5), .val (.int z1), .val (.int z2), .val (.int z3), .val (.int z4), .val (.int z5), .val (.ref b6), .val (.int (16 : Int32)), .val (.int z10), .val (.int z12), .val (.int z14), .unset, .unset] [(.ref b6)])
    refine hp (fun tq kq => XS.iload X13.here hx rfl (hb hby at_134) rfl kq) ?_
    show G T13 (mkF m 136 #[.val (.int p0), .val (.int p1), .val (.int p2), .val (.int p3), .val (.int p4), .val (.int p5), .val (.int z1), .val (.int z2), .val (.int z3), .val (.int z4), .val (.int z5), .val (.ref b6), .val (.int (16 : Int32)), .val (.int z10), .val (.int z12), .val (.int z14), .unset, .unset] [(.int z10), (.ref b6)])
    obtain ⟨v15, T15, L15, X15, hQ15, st15⟩ := own_callV X13 hx hZ (y := (⟨"com/example/referent/referent/solver/IntPairMap", "second", "(I)I"⟩ : MethodName)) (rm := ({ frames := 0, cells := 0, slots := 0, locals := 0 } : Room)) 0 hown (hw _ (List.mem_of_getElem? (i := 62) rfl)) (hw _ (List.mem_of_getElem? (i := 63) rfl)) (hw _ (List.mem_of_getElem? (i := 65) rfl)) (hw _ (List.mem_of_getElem? (i := 64) rfl)) (hw _ (List.mem_of_getElem? (i := 3) rfl)) (hw _ (List.mem_of_getElem? (i := 66) rfl)) (by decide) (rm13 l Z a0 hw [] b6 z10 kA vA fk fv i0 h9w n0 Fk9 Fv9 Vk9 Vv9 hi hx0) e13 E9 (by decide) (by decide) (g := (mkF m 136 #[.val (.int p0), .val (.int p1), .val (.int p2), .val (.int p3), .val (.int p4), .val (.int p5), .val (.int z1), .val (.int z2), .val (.int z3), .val (.int z4), .val (.int z5), .val (.ref b6), .val (.int (16 : Int32)), .val (.int z10), .val (.int z12), .val (.int z14), .unset, .unset] [(.int z10), (.ref b6)])) rfl (by rw [hml]; rfl) [(.int z10)] [] own_pd10 rfl rfl (by show 2 * 0 + _ ≤ _; exact Nat.le_of_eq rfl) (hb hby at_136) rfl (by decide) (by decide)
    obtain ⟨rfl, N15, e15⟩ := hQ15
    have N15b := Fr.app N13b N15
    refine hp st15 ?_
    show G T15 (mkF m 139 #[.val (.int p0), .val (.int p1), .val (.int p2), .val (.int p3), .val (.int p4), .val (.int p5), .val (.int z1), .val (.int z2), .val (.int z3), .val (.int z4), .val (.int z5), .val (.ref b6), .val (.int (16 : Int32)), .val (.int z10), .val (.int z12), .val (.int z14), .unset, .unset] [(.int ((fk i0).toInt32))])
    refine hp (fun tq kq => XS.istore X15.here hx rfl (hb hby at_139) rfl (l' := #[.val (.int p0), .val (.int p1), .val (.int p2), .val (.int p3), .val (.int p4), .val (.int p5), .val (.int z1), .val (.int z2), .val (.int z3), .val (.int z4), .val (.int z5), .val (.ref b6), .val (.int (16 : Int32)), .val (.int z10), .val (.int z12), .val (.int z14), .val (.int ((fk i0).toInt32)), .unset]) rfl kq) ?_
    show G T15 (mkF m 141 #[.val (.int p0), .val (.int p1), .val (.int p2), .val (.int p3), .val (.int p4), .val (.int p5), .val (.int z1), .val (.int z2), .val (.int z3), .val (.int z4), .val (.int z5), .val (.ref b6), .val (.int (16 : Int32)), .val (.int z10), .val (.int z12), .val (.int z14), .val (.int ((fk i0).toInt32)), .unset] [])
    refine (?_ : ∀ (z16 : Int32), z16 = ((fk i0).toInt32) → G T15 (mkF m 141 #[.val (.int p0), .val (.int p1), .val (.int p2), .val (.int p3), .val (.int p4), .val (.int p5), .val (.int z1), .val (.int z2), .val (.int z3), .val (.int z4), .val (.int z5), .val (.ref b6), .val (.int (16 : Int32)), .val (.int z10), .val (.int z12), .val (.int z14), .val (.int z16), .unset] [])) _ rfl
    intro z16 hz16
    refine hp (fun tq kq => XS.iload X15.here hx rfl (hb hby at_141) rfl kq) ?_
    show G T15 (mkF m 143 #[.val (.int p0), .val (.int p1), .val (.int p2), .val (.int p3), .val (.int p4), .val (.int p5), .val (.int z1), .val (.int z2), .val (.int z3), .val (.int z4), .val (.int z5), .val (.ref b6), .val (.int (16 : Int32)), .val (.int z10), .val (.int z12), .val (.int z14), .val (.int z16), .unset] [(.int z14)])
    refine hp (fun tq kq => XS.iload X15.here hx rfl (hb hby at_143) rfl kq) ?_
    show G T15 (mkF m 145 #[.val (.int p0), .val (.int p1), .val (.int p2), .val (.int p3), .val (.int p4), .val (.int p5), .val (.int z1), .val (.int z2), .val (.int z3), .val (.int z4), .val (.int z5), .val (.ref b6), .val (.int (16 : Int32)), .val (.int z10), .val (.int z12), .val (.int z14), .val (.int z16), .unset] [(.int z1), (.int z14)])
    have j17 : ∀ (z18 : Int32), z18 = (if z14 = z1 then (if z16 = z2 then (1 : Int32) else (if z5 < (1 : Int32) then (if z5 = (3 : Int32) then (if z14 = z4 then (if z16 = z1 then (1 : Int32) else (0 : Int32)) else (0 : Int32)) else (0 : Int32)) else (if z14 = z3 then (if z16 = z4 then (1 : Int32) else (if z5 = (3 : Int32) then (if z14 = z4 then (if z16 = z1 then (1 : Int32) else (0 : Int32)) else (0 : Int32)) else (0 : Int32))) else (if z5 = (3 : Int32) then (if z14 = z4 then (if z16 = z1 then (1 : Int32) else (0 : Int32)) else (0 : Int32)) else (0 : Int32))))) else (if z5 < (1 : Int32) then (if z5 = (3 : Int32) then (if z14 = z4 then (if z16 = z1 then (1 : Int32) else (0 : Int32)) else (0 : Int32)) else (0 : Int32)) else (if z14 = z3 then (if z16 = z4 then (1 : Int32) else (if z5 = (3 : Int32) then (if z14 = z4 then (if z16 = z1 then (1 : Int32) else (0 : Int32)) else (0 : Int32)) else (0 : Int32))) else (if z5 = (3 : Int32) then (if z14 = z4 then (if z16 = z1 then (1 : Int32) else (0 : Int32)) else (0 : Int32)) else (0 : Int32))))) → G T15 (mkF m 200 #[.val (.int p0), .val (.int p1), .val (.int p2), .val (.int p3), .val (.int p4), .val (.int p5), .val (.int z1), .val (.int z2), .val (.int z3), .val (.int z4), .val (.int z5), .val (.ref b6), .val (.int (16 : Int32)), .val (.int z10), .val (.int z12), .val (.int z14), .val (.int z16), .unset] [(.int z18)]) := by
      intro z18 hz18
      refine hp (fun tq kq => XS.istore X15.here hx rfl (hb hby at_200) rfl (l' := #[.val (.int p0), .val (.int p1), .val (.int p2), .val (.int p3), .val (.int p4), .val (.int p5), .val (.int z1), .val (.int z2), .val (.int z3), .val (.int z4), .val (.int z5), .val (.ref b6), .val (.int (16 : Int32)), .val (.int z10), .val (.int z12), .val (.int z14), .val (.int z16), .val (.int z18)]) rfl kq) ?_
      show G T15 (mkF m 202 #[.val (.int p0), .val (.int p1), .val (.int p2), .val (.int p3), .val (.int p4), .val (.int p5), .val (.int z1), .val (.int z2), .val (.int z3), .val (.int z4), .val (.int z5), .val (.ref b6), .val (.int (16 : Int32)), .val (.int z10), .val (.int z12), .val (.int z14), .val (.int z16), .val (.int z18)] [])
      have hcs := own_case (z15 := z14) (z16 := z16) hgood hi hz12
      refine hp (fun tq kq => XS.iload X15.here hx rfl (hb hby at_202) rfl kq) ?_
      show G T15 (mkF m 204 #[.val (.int p0), .val (.int p1), .val (.int p2), .val (.int p3), .val (.int p4), .val (.int p5), .val (.int z1), .val (.int z2), .val (.int z3), .val (.int z4), .val (.int z5), .val (.ref b6), .val (.int (16 : Int32)), .val (.int z10), .val (.int z12), .val (.int z14), .val (.int z16), .val (.int z18)] [(.int z12)])
      by_cases hb19 : z12 = (0 : Int32)
      · refine hp (fun tq kq => XS.ifYes X15.here hx rfl (pc0 := 204) (pc' := 237) rfl (hb hby at_204) rfl ((if0 _ _).trans (teq hb19).1) (by decide) (by decide) kq) ?_
        show G T15 (mkF m 237 #[.val (.int p0), .val (.int p1), .val (.int p2), .val (.int p3), .val (.int p4), .val (.int p5), .val (.int z1), .val (.int z2), .val (.int z3), .val (.int z4), .val (.int z5), .val (.ref b6), .val (.int (16 : Int32)), .val (.int z10), .val (.int z12), .val (.int z14), .val (.int z16), .val (.int z18)] [])
        refine hp (fun tq kq => XS.iload X15.here hx rfl (hb hby at_237) rfl kq) ?_
        show G T15 (mkF m 239 #[.val (.int p0), .val (.int p1), .val (.int p2), .val (.int p3), .val (.int p4), .val (.int p5), .val (.int z1), .val (.int z2), .val (.int z3), .val (.int z4), .val (.int z5), .val (.ref b6), .val (.int (16 : Int32)), .val (.int z10), .val (.int z12), .val (.int z14), .val (.int z16), .val (.int z18)] [(.int z14)])
        refine hp (fun tq kq => XS.iconst X15.here hx rfl (hb hby at_239) kq) ?_
        show G T15 (mkF m 240 #[.val (.int p0), .val (.int p1), .val (.int p2), .val (.int p3), .val (.int p4), .val (.int p5), .val (.int z1), .val (.int z2), .val (.int z3), .val (.int z4), .val (.int z5), .val (.ref b6), .val (.int (16 : Int32)), .val (.int z10), .val (.int z12), .val (.int z14), .val (.int z16), .val (.int z18)] [(.int (-1 : Int32)), (.int z14)])
        refine hp (fun tq kq => XS.icmpNo X15.here hx rfl (hb hby at_240) rfl (teq (own_empty1 (hcs.1 hb19) hz14)).2 kq) ?_
        show G T15 (mkF m 243 #[.val (.int p0), .val (.int p1), .val (.int p2), .val (.int p3), .val (.int p4), .val (.int p5), .val (.int z1), .val (.int z2), .val (.int z3), .val (.int z4), .val (.int z5), .val (.ref b6), .val (.int (16 : Int32)), .val (.int z10), .val (.int z12), .val (.int z14), .val (.int z16), .val (.int z18)] [])
        refine hp (fun tq kq => XS.iload X15.here hx rfl (hb hby at_243) rfl kq) ?_
        show G T15 (mkF m 245 #[.val (.int p0), .val (.int p1), .val (.int p2), .val (.int p3), .val (.int p4), .val (.int p5), .val (.int z1), .val (.int z2), .val (.int z3), .val (.int z4), .val (.int z5), .val (.ref b6), .val (.int (16 : Int32)), .val (.int z10), .val (.int z12), .val (.int z14), .val (.int z16), .val (.int z18)] [(.int z16)])
        refine hp (fun tq kq => XS.iconst X15.here hx rfl (hb hby at_245) kq) ?_
        show G T15 (mkF m 246 #[.val (.int p0), .val (.int p1), .val (.int p2), .val (.int p3), .val (.int p4), .val (.int p5), .val (.int z1), .val (.int z2), .val (.int z3), .val (.int z4), .val (.int z5), .val (.ref b6), .val (.int (16 : Int32)), .val (.int z10), .val (.int z12), .val (.int z14), .val (.int z16), .val (.int z18)] [(.int (-1 : Int32)), (.int z16)])
        refine hp (fun tq kq => XS.icmpNo X15.here hx rfl (hb hby at_246) rfl (teq (own_empty2 (hcs.1 hb19) hz16)).2 kq) ?_
        show G T15 (mkF m 249 #[.val (.int p0), .val (.int p1), .val (.int p2), .val (.int p3), .val (.int p4), .val (.int p5), .val (.int z1), .val (.int z2), .val (.int z3), .val (.int z4), .val (.int z5), .val (.ref b6), .val (.int (16 : Int32)), .val (.int z10), .val (.int z12), .val (.int z14), .val (.int z16), .val (.int z18)] [])
        refine hp (fun tq kq => XS.iconst X15.here hx rfl (hb hby at_249) kq) ?_
        show G T15 (mkF m 250 #[.val (.int p0), .val (.int p1), .val (.int p2), .val (.int p3), .val (.int p4), .val (.int p5), .val (.int z1), .val (.int z2), .val (.int z3), .val (.int z4), .val (.int z5), .val (.ref b6), .val (.int (16 : Int32)), .val (.int z10), .val (.int z12), .val (.int z14), .val (.int z16), .val (.int z18)] [(.int (1 : Int32))])
        refine hp (fun tq kq => XS.goto X15.here hx rfl (pc0 := 250) (pc' := 254) rfl (hb hby at_250) (by decide) (by decide) kq) ?_
        show G T15 (mkF m 254 #[.val (.int p0), .val (.int p1), .val (.int p2), .val (.int p3), .val (.int p4), .val (.int p5), .val (.int z1), .val (.int z2), .val (.int z3), .val (.int z4), .val (.int z5), .val (.ref b6), .val (.int (16 : Int32)), .val (.int z10), .val (.int z12), .val (.int z14), .val (.int z16), .val (.int z18)] [(.int (1 : Int32))])
        exact hR X15 (fun fs hl => retN X15 hx (t := .boolean) hret (by simp) (hb hby at_254) hl) (fun q => by rw [hret] at q; cases q) ⟨rfl, N15b⟩ (by decide) (by decide)
      · refine hp (fun tq kq => XS.ifNo X15.here hx rfl (hb hby at_204) rfl ((if0 _ _).trans (feq hb19).1) kq) ?_
        show G T15 (mkF m 207 #[.val (.int p0), .val (.int p1), .val (.int p2), .val (.int p3), .val (.int p4), .val (.int p5), .val (.int z1), .val (.int z2), .val (.int z3), .val (.int z4), .val (.int z5), .val (.ref b6), .val (.int (16 : Int32)), .val (.int z10), .val (.int z12), .val (.int z14), .val (.int z16), .val (.int z18)] [])
        obtain ⟨hne0, hmem⟩ := hcs.2 hb19
        obtain ⟨hin, hkey⟩ := own_back hmem (own_ksn (own_nnz hz1) (own_nnz hz2) (own_nnz hz3) (own_nnz hz4)) hz14 hz16
        obtain ⟨tj, hidx, htj, hbef, hne⟩ := own_find hgood hi hne0 hkey
        refine hp (fun tq kq => XS.iload X15.here hx rfl (hb hby at_207) rfl kq) ?_
        show G T15 (mkF m 209 #[.val (.int p0), .val (.int p1), .val (.int p2), .val (.int p3), .val (.int p4), .val (.int p5), .val (.int z1), .val (.int z2), .val (.int z3), .val (.int z4), .val (.int z5), .val (.ref b6), .val (.int (16 : Int32)), .val (.int z10), .val (.int z12), .val (.int z14), .val (.int z16), .val (.int z18)] [(.int z18)])
        refine hp (fun tq kq => XS.ifNo X15.here hx rfl (hb hby at_209) rfl ((if0 _ _).trans (feq (own_isk hin hz18)).1) kq) ?_
        show G T15 (mkF m 212 #[.val (.int p0), .val (.int p1), .val (.int p2), .val (.int p3), .val (.int p4), .val (.int p5), .val (.int z1), .val (.int z2), .val (.int z3), .val (.int z4), .val (.int z5), .val (.ref b6), .val (.int (16 : Int32)), .val (.int z10), .val (.int z12), .val (.int z14), .val (.int z16), .val (.int z18)] [])
        refine hp (fun tq kq => XS.aload X15.here hx rfl (hb hby at_212) rfl rfl kq) ?_
        show G T15 (mkF m 214 #[.val (.int p0), .val (.int p1), .val (.int p2), .val (.int p3), .val (.int p4), .val (.int p5), .val (.int z1), .val (.int z2), .val (.int z3), .val (.int z4), .val (.int z5), .val (.ref b6), .val (.int (16 : Int32)), .val (.int z10), .val (.int z12), .val (.int z14), .val (.int z16), .val (.int z18)] [(.ref b6)])
        refine hp (fun tq kq => XS.iload X15.here hx rfl (hb hby at_214) rfl kq) ?_
        show G T15 (mkF m 216 #[.val (.int p0), .val (.int p1), .val (.int p2), .val (.int p3), .val (.int p4), .val (.int p5), .val (.int z1), .val (.int z2), .val (.int z3), .val (.int z4), .val (.int z5), .val (.ref b6), .val (.int (16 : Int32)), .val (.int z10), .val (.int z12), .val (.int z14), .val (.int z16), .val (.int z18)] [(.int z14), (.ref b6)])
        refine hp (fun tq kq => XS.iload X15.here hx rfl (hb hby at_216) rfl kq) ?_
        show G T15 (mkF m 218 #[.val (.int p0), .val (.int p1), .val (.int p2), .val (.int p3), .val (.int p4), .val (.int p5), .val (.int z1), .val (.int z2), .val (.int z3), .val (.int z4), .val (.int z5), .val (.ref b6), .val (.int (16 : Int32)), .val (.int z10), .val (.int z12), .val (.int z14), .val (.int z16), .val (.int z18)] [(.int z16), (.int z14), (.ref b6)])
        obtain ⟨v20, T20, L20, X20, hQ20, st20⟩ := own_callV X15 hx hZ (y := (⟨"com/example/referent/referent/solver/IntPairMap", "get", "(II)I"⟩ : MethodName)) (rm := ({ frames := 1, cells := 0, slots := 0, locals := 16 } : Room)) 0 hown (hw _ (List.mem_of_getElem? (i := 67) rfl)) (hw _ (List.mem_of_getElem? (i := 68) rfl)) (hw _ (List.mem_of_getElem? (i := 70) rfl)) (hw _ (List.mem_of_getElem? (i := 69) rfl)) (hw _ (List.mem_of_getElem? (i := 3) rfl)) (hw _ (List.mem_of_getElem? (i := 71) rfl)) (by decide) (rm14 l Z a0 hw [] b6 z14 z16 kA vA fk fv 0 sz tj h9w n0 Fk9 Fv9 Vk9 Vv9 (by decide) Fs9 hsz htj hbef hne) e15 E9 (by decide) (by decide) (g := (mkF m 218 #[.val (.int p0), .val (.int p1), .val (.int p2), .val (.int p3), .val (.int p4), .val (.int p5), .val (.int z1), .val (.int z2), .val (.int z3), .val (.int z4), .val (.int z5), .val (.ref b6), .val (.int (16 : Int32)), .val (.int z10), .val (.int z12), .val (.int z14), .val (.int z16), .val (.int z18)] [(.int z16), (.int z14), (.ref b6)])) rfl (by rw [hml]; rfl) [(.int z14), (.int z16)] [] own_pd3 rfl rfl (by show 2 * 0 + _ ≤ _; exact Nat.le_of_eq rfl) (hb hby at_218) rfl (by decide) (by decide)
        obtain ⟨rfl, N20, e20⟩ := hQ20
        have N20b := Fr.app N15b N20
        refine hp st20 ?_
        show G T20 (mkF m 221 #[.val (.int p0), .val (.int p1), .val (.int p2), .val (.int p3), .val (.int p4), .val (.int p5), .val (.int z1), .val (.int z2), .val (.int z3), .val (.int z4), .val (.int z5), .val (.ref b6), .val (.int (16 : Int32)), .val (.int z10), .val (.int z12), .val (.int z14), .val (.int z16), .val (.int z18)] [(.int (fv ((own_h (own_key z14 z16) + tj) % 16)))])
        refine hp (fun tq kq => XS.aload X20.here hx rfl (hb hby at_221) rfl rfl kq) ?_
        show G T20 (mkF m 223 #[.val (.int p0), .val (.int p1), .val (.int p2), .val (.int p3), .val (.int p4), .val (.int p5), .val (.int z1), .val (.int z2), .val (.int z3), .val (.int z4), .val (.int z5), .val (.ref b6), .val (.int (16 : Int32)), .val (.int z10), .val (.int z12), .val (.int z14), .val (.int z16), .val (.int z18)] [(.ref b6), (.int (fv ((own_h (own_key z14 z16) + tj) % 16)))])
        refine hp (fun tq kq => XS.iload X20.here hx rfl (hb hby at_223) rfl kq) ?_
        show G T20 (mkF m 225 #[.val (.int p0), .val (.int p1), .val (.int p2), .val (.int p3), .val (.int p4), .val (.int p5), .val (.int z1), .val (.int z2), .val (.int z3), .val (.int z4), .val (.int z5), .val (.ref b6), .val (.int (16 : Int32)), .val (.int z10), .val (.int z12), .val (.int z14), .val (.int z16), .val (.int z18)] [(.int z10), (.ref b6), (.int (fv ((own_h (own_key z14 z16) + tj) % 16)))])
        obtain ⟨v21, T21, L21, X21, hQ21, st21⟩ := own_callV X20 hx hZ (y := (⟨"com/example/referent/referent/solver/IntPairMap", "value", "(I)I"⟩ : MethodName)) (rm := ({ frames := 0, cells := 0, slots := 0, locals := 0 } : Room)) 1 hown (hw _ (List.mem_of_getElem? (i := 72) rfl)) (hw _ (List.mem_of_getElem? (i := 73) rfl)) (hw _ (List.mem_of_getElem? (i := 75) rfl)) (hw _ (List.mem_of_getElem? (i := 74) rfl)) (hw _ (List.mem_of_getElem? (i := 3) rfl)) (hw _ (List.mem_of_getElem? (i := 76) rfl)) (by decide) (rm15 l Z a0 hw [] b6 z10 kA vA fk fv i0 h9w n0 Fk9 Fv9 Vk9 Vv9 hi hx0) e20 E9 (by decide) (by decide) (g := (mkF m 225 #[.val (.int p0), .val (.int p1), .val (.int p2), .val (.int p3), .val (.int p4), .val (.int p5), .val (.int z1), .val (.int z2), .val (.int z3), .val (.int z4), .val (.int z5), .val (.ref b6), .val (.int (16 : Int32)), .val (.int z10), .val (.int z12), .val (.int z14), .val (.int z16), .val (.int z18)] [(.int z10), (.ref b6), (.int (fv ((own_h (own_key z14 z16) + tj) % 16)))])) rfl (by rw [hml]; rfl) [(.int z10)] [(.int (fv ((own_h (own_key z14 z16) + tj) % 16)))] own_pd10 rfl rfl (by show 2 * 0 + _ ≤ _; exact Nat.le_of_eq rfl) (hb hby at_225) rfl (by decide) (by decide)
        obtain ⟨rfl, N21, e21⟩ := hQ21
        have N21b := Fr.app N20b N21
        refine hp st21 ?_
        show G T21 (mkF m 228 #[.val (.int p0), .val (.int p1), .val (.int p2), .val (.int p3), .val (.int p4), .val (.int p5), .val (.int z1), .val (.int z2), .val (.int z3), .val (.int z4), .val (.int z5), .val (.ref b6), .val (.int (16 : Int32)), .val (.int z10), .val (.int z12), .val (.int z14), .val (.int z16), .val (.int z18)] [(.int (fv i0)), (.int (fv ((own_h (own_key z14 z16) + tj) % 16)))])
        refine hp (fun tq kq => XS.icmpNo X21.here hx rfl (hb hby at_228) rfl (teq (congrArg fv hidx)).2 kq) ?_
        show G T21 (mkF m 231 #[.val (.int p0), .val (.int p1), .val (.int p2), .val (.int p3), .val (.int p4), .val (.int p5), .val (.int z1), .val (.int z2), .val (.int z3), .val (.int z4), .val (.int z5), .val (.ref b6), .val (.int (16 : Int32)), .val (.int z10), .val (.int z12), .val (.int z14), .val (.int z16), .val (.int z18)] [])
        refine hp (fun tq kq => XS.iconst X21.here hx rfl (hb hby at_231) kq) ?_
        show G T21 (mkF m 232 #[.val (.int p0), .val (.int p1), .val (.int p2), .val (.int p3), .val (.int p4), .val (.int p5), .val (.int z1), .val (.int z2), .val (.int z3), .val (.int z4), .val (.int z5), .val (.ref b6), .val (.int (16 : Int32)), .val (.int z10), .val (.int z12), .val (.int z14), .val (.int z16), .val (.int z18)] [(.int (1 : Int32))])
        refine hp (fun tq kq => XS.goto X21.here hx rfl (pc0 := 232) (pc' := 236) rfl (hb hby at_232) (by decide) (by decide) kq) ?_
        show G T21 (mkF m 236 #[.val (.int p0), .val (.int p1), .val (.int p2), .val (.int p3), .val (.int p4), .val (.int p5), .val (.int z1), .val (.int z2), .val (.int z3), .val (.int z4), .val (.int z5), .val (.ref b6), .val (.int (16 : Int32)), .val (.int z10), .val (.int z12), .val (.int z14), .val (.int z16), .val (.int z18)] [(.int (1 : Int32))])
        exact hR X21 (fun fs hl => retN X21 hx (t := .boolean) hret (by simp) (hb hby at_236) hl) (fun q => by rw [hret] at q; cases q) ⟨rfl, N21b⟩ (by decide) (by decide)
    by_cases hb22 : z14 = z1
    · refine hp (fun tq kq => XS.icmpNo X15.here hx rfl (hb hby at_145) rfl (teq hb22).2 kq) ?_
      show G T15 (mkF m 148 #[.val (.int p0), .val (.int p1), .val (.int p2), .val (.int p3), .val (.int p4), .val (.int p5), .val (.int z1), .val (.int z2), .val (.int z3), .val (.int z4), .val (.int z5), .val (.ref b6), .val (.int (16 : Int32)), .val (.int z10), .val (.int z12), .val (.int z14), .val (.int z16), .unset] [])
      refine hp (fun tq kq => XS.iload X15.here hx rfl (hb hby at_148) rfl kq) ?_
      show G T15 (mkF m 150 #[.val (.int p0), .val (.int p1), .val (.int p2), .val (.int p3), .val (.int p4), .val (.int p5), .val (.int z1), .val (.int z2), .val (.int z3), .val (.int z4), .val (.int z5), .val (.ref b6), .val (.int (16 : Int32)), .val (.int z10), .val (.int z12), .val (.int z14), .val (.int z16), .unset] [(.int z16)])
      refine hp (fun tq kq => XS.iload X15.here hx rfl (hb hby at_150) rfl kq) ?_
      show G T15 (mkF m 152 #[.val (.int p0), .val (.int p1), .val (.int p2), .val (.int p3), .val (.int p4), .val (.int p5), .val (.int z1), .val (.int z2), .val (.int z3), .val (.int z4), .val (.int z5), .val (.ref b6), .val (.int (16 : Int32)), .val (.int z10), .val (.int z12), .val (.int z14), .val (.int z16), .unset] [(.int z2), (.int z16)])
      by_cases hb23 : z16 = z2
      · refine hp (fun tq kq => XS.icmpYes X15.here hx rfl (pc0 := 152) (pc' := 195) rfl (hb hby at_152) rfl (teq hb23).1 (by decide) (by decide) kq) ?_
        show G T15 (mkF m 195 #[.val (.int p0), .val (.int p1), .val (.int p2), .val (.int p3), .val (.int p4), .val (.int p5), .val (.int z1), .val (.int z2), .val (.int z3), .val (.int z4), .val (.int z5), .val (.ref b6), .val (.int (16 : Int32)), .val (.int z10), .val (.int z12), .val (.int z14), .val (.int z16), .unset] [])
        refine hp (fun tq kq => XS.iconst X15.here hx rfl (hb hby at_195) kq) ?_
        show G T15 (mkF m 196 #[.val (.int p0), .val (.int p1), .val (.int p2), .val (.int p3), .val (.int p4), .val (.int p5), .val (.int z1), .val (.int z2), .val (.int z3), .val (.int z4), .val (.int z5), .val (.ref b6), .val (.int (16 : Int32)), .val (.int z10), .val (.int z12), .val (.int z14), .val (.int z16), .unset] [(.int (1 : Int32))])
        refine hp (fun tq kq => XS.goto X15.here hx rfl (pc0 := 196) (pc' := 200) rfl (hb hby at_196) (by decide) (by decide) kq) ?_
        show G T15 (mkF m 200 #[.val (.int p0), .val (.int p1), .val (.int p2), .val (.int p3), .val (.int p4), .val (.int p5), .val (.int z1), .val (.int z2), .val (.int z3), .val (.int z4), .val (.int z5), .val (.ref b6), .val (.int (16 : Int32)), .val (.int z10), .val (.int z12), .val (.int z14), .val (.int z16), .unset] [(.int (1 : Int32))])
        exact j17 _ ((if_pos hb22).trans (if_pos hb23)).symm
      · refine hp (fun tq kq => XS.icmpNo X15.here hx rfl (hb hby at_152) rfl (feq hb23).1 kq) ?_
        show G T15 (mkF m 155 #[.val (.int p0), .val (.int p1), .val (.int p2), .val (.int p3), .val (.int p4), .val (.int p5), .val (.int z1), .val (.int z2), .val (.int z3), .val (.int z4), .val (.int z5), .val (.ref b6), .val (.int (16 : Int32)), .val (.int z10), .val (.int z12), .val (.int z14), .val (.int z16), .unset] [])
        refine hp (fun tq kq => XS.iload X15.here hx rfl (hb hby at_155) rfl kq) ?_
        show G T15 (mkF m 157 #[.val (.int p0), .val (.int p1), .val (.int p2), .val (.int p3), .val (.int p4), .val (.int p5), .val (.int z1), .val (.int z2), .val (.int z3), .val (.int z4), .val (.int z5), .val (.ref b6), .val (.int (16 : Int32)), .val (.int z10), .val (.int z12), .val (.int z14), .val (.int z16), .unset] [(.int z5)])
        refine hp (fun tq kq => XS.iconst X15.here hx rfl (hb hby at_157) kq) ?_
        show G T15 (mkF m 158 #[.val (.int p0), .val (.int p1), .val (.int p2), .val (.int p3), .val (.int p4), .val (.int p5), .val (.int z1), .val (.int z2), .val (.int z3), .val (.int z4), .val (.int z5), .val (.ref b6), .val (.int (16 : Int32)), .val (.int z10), .val (.int z12), .val (.int z14), .val (.int z16), .unset] [(.int (1 : Int32)), (.int z5)])
        by_cases hb24 : z5 < (1 : Int32)
        · refine hp (fun tq kq => XS.icmpYes X15.here hx rfl (pc0 := 158) (pc' := 175) rfl (hb hby at_158) rfl (tlt hb24).1 (by decide) (by decide) kq) ?_
          show G T15 (mkF m 175 #[.val (.int p0), .val (.int p1), .val (.int p2), .val (.int p3), .val (.int p4), .val (.int p5), .val (.int z1), .val (.int z2), .val (.int z3), .val (.int z4), .val (.int z5), .val (.ref b6), .val (.int (16 : Int32)), .val (.int z10), .val (.int z12), .val (.int z14), .val (.int z16), .unset] [])
          refine hp (fun tq kq => XS.iload X15.here hx rfl (hb hby at_175) rfl kq) ?_
          show G T15 (mkF m 177 #[.val (.int p0), .val (.int p1), .val (.int p2), .val (.int p3), .val (.int p4), .val (.int p5), .val (.int z1), .val (.int z2), .val (.int z3), .val (.int z4), .val (.int z5), .val (.ref b6), .val (.int (16 : Int32)), .val (.int z10), .val (.int z12), .val (.int z14), .val (.int z16), .unset] [(.int z5)])
          refine hp (fun tq kq => XS.iconst X15.here hx rfl (hb hby at_177) kq) ?_
          show G T15 (mkF m 178 #[.val (.int p0), .val (.int p1), .val (.int p2), .val (.int p3), .val (.int p4), .val (.int p5), .val (.int z1), .val (.int z2), .val (.int z3), .val (.int z4), .val (.int z5), .val (.ref b6), .val (.int (16 : Int32)), .val (.int z10), .val (.int z12), .val (.int z14), .val (.int z16), .unset] [(.int (3 : Int32)), (.int z5)])
          by_cases hb25 : z5 = (3 : Int32)
          · refine hp (fun tq kq => XS.icmpNo X15.here hx rfl (hb hby at_178) rfl (teq hb25).2 kq) ?_
            show G T15 (mkF m 181 #[.val (.int p0), .val (.int p1), .val (.int p2), .val (.int p3), .val (.int p4), .val (.int p5), .val (.int z1), .val (.int z2), .val (.int z3), .val (.int z4), .val (.int z5), .val (.ref b6), .val (.int (16 : Int32)), .val (.int z10), .val (.int z12), .val (.int z14), .val (.int z16), .unset] [])
            refine hp (fun tq kq => XS.iload X15.here hx rfl (hb hby at_181) rfl kq) ?_
            show G T15 (mkF m 183 #[.val (.int p0), .val (.int p1), .val (.int p2), .val (.int p3), .val (.int p4), .val (.int p5), .val (.int z1), .val (.int z2), .val (.int z3), .val (.int z4), .val (.int z5), .val (.ref b6), .val (.int (16 : Int32)), .val (.int z10), .val (.int z12), .val (.int z14), .val (.int z16), .unset] [(.int z14)])
            refine hp (fun tq kq => XS.iload X15.here hx rfl (hb hby at_183) rfl kq) ?_
            show G T15 (mkF m 185 #[.val (.int p0), .val (.int p1), .val (.int p2), .val (.int p3), .val (.int p4), .val (.int p5), .val (.int z1), .val (.int z2), .val (.int z3), .val (.int z4), .val (.int z5), .val (.ref b6), .val (.int (16 : Int32)), .val (.int z10), .val (.int z12), .val (.int z14), .val (.int z16), .unset] [(.int z4), (.int z14)])
            by_cases hb26 : z14 = z4
            · refine hp (fun tq kq => XS.icmpNo X15.here hx rfl (hb hby at_185) rfl (teq hb26).2 kq) ?_
              show G T15 (mkF m 188 #[.val (.int p0), .val (.int p1), .val (.int p2), .val (.int p3), .val (.int p4), .val (.int p5), .val (.int z1), .val (.int z2), .val (.int z3), .val (.int z4), .val (.int z5), .val (.ref b6), .val (.int (16 : Int32)), .val (.int z10), .val (.int z12), .val (.int z14), .val (.int z16), .unset] [])
              refine hp (fun tq kq => XS.iload X15.here hx rfl (hb hby at_188) rfl kq) ?_
              show G T15 (mkF m 190 #[.val (.int p0), .val (.int p1), .val (.int p2), .val (.int p3), .val (.int p4), .val (.int p5), .val (.int z1), .val (.int z2), .val (.int z3), .val (.int z4), .val (.int z5), .val (.ref b6), .val (.int (16 : Int32)), .val (.int z10), .val (.int z12), .val (.int z14), .val (.int z16), .unset] [(.int z16)])
              refine hp (fun tq kq => XS.iload X15.here hx rfl (hb hby at_190) rfl kq) ?_
              show G T15 (mkF m 192 #[.val (.int p0), .val (.int p1), .val (.int p2), .val (.int p3), .val (.int p4), .val (.int p5), .val (.int z1), .val (.int z2), .val (.int z3), .val (.int z4), .val (.int z5), .val (.ref b6), .val (.int (16 : Int32)), .val (.int z10), .val (.int z12), .val (.int z14), .val (.int z16), .unset] [(.int z1), (.int z16)])
              by_cases hb27 : z16 = z1
              · refine hp (fun tq kq => XS.icmpNo X15.here hx rfl (hb hby at_192) rfl (teq hb27).2 kq) ?_
                show G T15 (mkF m 195 #[.val (.int p0), .val (.int p1), .val (.int p2), .val (.int p3), .val (.int p4), .val (.int p5), .val (.int z1), .val (.int z2), .val (.int z3), .val (.int z4), .val (.int z5), .val (.ref b6), .val (.int (16 : Int32)), .val (.int z10), .val (.int z12), .val (.int z14), .val (.int z16), .unset] [])
                refine hp (fun tq kq => XS.iconst X15.here hx rfl (hb hby at_195) kq) ?_
                show G T15 (mkF m 196 #[.val (.int p0), .val (.int p1), .val (.int p2), .val (.int p3), .val (.int p4), .val (.int p5), .val (.int z1), .val (.int z2), .val (.int z3), .val (.int z4), .val (.int z5), .val (.ref b6), .val (.int (16 : Int32)), .val (.int z10), .val (.int z12), .val (.int z14), .val (.int z16), .unset] [(.int (1 : Int32))])
                refine hp (fun tq kq => XS.goto X15.here hx rfl (pc0 := 196) (pc' := 200) rfl (hb hby at_196) (by decide) (by decide) kq) ?_
                show G T15 (mkF m 200 #[.val (.int p0), .val (.int p1), .val (.int p2), .val (.int p3), .val (.int p4), .val (.int p5), .val (.int z1), .val (.int z2), .val (.int z3), .val (.int z4), .val (.int z5), .val (.ref b6), .val (.int (16 : Int32)), .val (.int z10), .val (.int z12), .val (.int z14), .val (.int z16), .unset] [(.int (1 : Int32))])
                exact j17 _ ((if_pos hb22).trans ((if_neg hb23).trans ((if_pos hb24).trans ((if_pos hb25).trans ((if_pos hb26).trans (if_pos hb27)))))).symm
              · refine hp (fun tq kq => XS.icmpYes X15.here hx rfl (pc0 := 192) (pc' := 199) rfl (hb hby at_192) rfl (feq hb27).2 (by decide) (by decide) kq) ?_
                show G T15 (mkF m 199 #[.val (.int p0), .val (.int p1), .val (.int p2), .val (.int p3), .val (.int p4), .val (.int p5), .val (.int z1), .val (.int z2), .val (.int z3), .val (.int z4), .val (.int z5), .val (.ref b6), .val (.int (16 : Int32)), .val (.int z10), .val (.int z12), .val (.int z14), .val (.int z16), .unset] [])
                refine hp (fun tq kq => XS.iconst X15.here hx rfl (hb hby at_199) kq) ?_
                show G T15 (mkF m 200 #[.val (.int p0), .val (.int p1), .val (.int p2), .val (.int p3), .val (.int p4), .val (.int p5), .val (.int z1), .val (.int z2), .val (.int z3), .val (.int z4), .val (.int z5), .val (.ref b6), .val (.int (16 : Int32)), .val (.int z10), .val (.int z12), .val (.int z14), .val (.int z16), .unset] [(.int (0 : Int32))])
                exact j17 _ ((if_pos hb22).trans ((if_neg hb23).trans ((if_pos hb24).trans ((if_pos hb25).trans ((if_pos hb26).trans (if_neg hb27)))))).symm
            · refine hp (fun tq kq => XS.icmpYes X15.here hx rfl (pc0 := 185) (pc' := 199) rfl (hb hby at_185) rfl (feq hb26).2 (by decide) (by decide) kq) ?_
              show G T15 (mkF m 199 #[.val (.int p0), .val (.int p1), .val (.int p2), .val (.int p3), .val (.int p4), .val (.int p5), .val (.int z1), .val (.int z2), .val (.int z3), .val (.int z4), .val (.int z5), .val (.ref b6), .val (.int (16 : Int32)), .val (.int z10), .val (.int z12), .val (.int z14), .val (.int z16), .unset] [])
              refine hp (fun tq kq => XS.iconst X15.here hx rfl (hb hby at_199) kq) ?_
              show G T15 (mkF m 200 #[.val (.int p0), .val (.int p1), .val (.int p2), .val (.int p3), .val (.int p4), .val (.int p5), .val (.int z1), .val (.int z2), .val (.int z3), .val (.int z4), .val (.int z5), .val (.ref b6), .val (.int (16 : Int32)), .val (.int z10), .val (.int z12), .val (.int z14), .val (.int z16), .unset] [(.int (0 : Int32))])
              exact j17 _ ((if_pos hb22).trans ((if_neg hb23).trans ((if_pos hb24).trans ((if_pos hb25).trans (if_neg hb26))))).symm
          · refine hp (fun tq kq => XS.icmpYes X15.here hx rfl (pc0 := 178) (pc' := 199) rfl (hb hby at_178) rfl (feq hb25).2 (by decide) (by decide) kq) ?_
            show G T15 (mkF m 199 #[.val (.int p0), .val (.int p1), .val (.int p2), .val (.int p3), .val (.int p4), .val (.int p5), .val (.int z1), .val (.int z2), .val (.int z3), .val (.int z4), .val (.int z5), .val (.ref b6), .val (.int (16 : Int32)), .val (.int z10), .val (.int z12), .val (.int z14), .val (.int z16), .unset] [])
            refine hp (fun tq kq => XS.iconst X15.here hx rfl (hb hby at_199) kq) ?_
            show G T15 (mkF m 200 #[.val (.int p0), .val (.int p1), .val (.int p2), .val (.int p3), .val (.int p4), .val (.int p5), .val (.int z1), .val (.int z2), .val (.int z3), .val (.int z4), .val (.int z5), .val (.ref b6), .val (.int (16 : Int32)), .val (.int z10), .val (.int z12), .val (.int z14), .val (.int z16), .unset] [(.int (0 : Int32))])
            exact j17 _ ((if_pos hb22).trans ((if_neg hb23).trans ((if_pos hb24).trans (if_neg hb25)))).symm
        · refine hp (fun tq kq => XS.icmpNo X15.here hx rfl (hb hby at_158) rfl (flt hb24).1 kq) ?_
          show G T15 (mkF m 161 #[.val (.int p0), .val (.int p1), .val (.int p2), .val (.int p3), .val (.int p4), .val (.int p5), .val (.int z1), .val (.int z2), .val (.int z3), .val (.int z4), .val (.int z5), .val (.ref b6), .val (.int (16 : Int32)), .val (.int z10), .val (.int z12), .val (.int z14), .val (.int z16), .unset] [])
          refine hp (fun tq kq => XS.iload X15.here hx rfl (hb hby at_161) rfl kq) ?_
          show G T15 (mkF m 163 #[.val (.int p0), .val (.int p1), .val (.int p2), .val (.int p3), .val (.int p4), .val (.int p5), .val (.int z1), .val (.int z2), .val (.int z3), .val (.int z4), .val (.int z5), .val (.ref b6), .val (.int (16 : Int32)), .val (.int z10), .val (.int z12), .val (.int z14), .val (.int z16), .unset] [(.int z14)])
          refine hp (fun tq kq => XS.iload X15.here hx rfl (hb hby at_163) rfl kq) ?_
          show G T15 (mkF m 165 #[.val (.int p0), .val (.int p1), .val (.int p2), .val (.int p3), .val (.int p4), .val (.int p5), .val (.int z1), .val (.int z2), .val (.int z3), .val (.int z4), .val (.int z5), .val (.ref b6), .val (.int (16 : Int32)), .val (.int z10), .val (.int z12), .val (.int z14), .val (.int z16), .unset] [(.int z3), (.int z14)])
          by_cases hb28 : z14 = z3
          · refine hp (fun tq kq => XS.icmpNo X15.here hx rfl (hb hby at_165) rfl (teq hb28).2 kq) ?_
            show G T15 (mkF m 168 #[.val (.int p0), .val (.int p1), .val (.int p2), .val (.int p3), .val (.int p4), .val (.int p5), .val (.int z1), .val (.int z2), .val (.int z3), .val (.int z4), .val (.int z5), .val (.ref b6), .val (.int (16 : Int32)), .val (.int z10), .val (.int z12), .val (.int z14), .val (.int z16), .unset] [])
            refine hp (fun tq kq => XS.iload X15.here hx rfl (hb hby at_168) rfl kq) ?_
            show G T15 (mkF m 170 #[.val (.int p0), .val (.int p1), .val (.int p2), .val (.int p3), .val (.int p4), .val (.int p5), .val (.int z1), .val (.int z2), .val (.int z3), .val (.int z4), .val (.int z5), .val (.ref b6), .val (.int (16 : Int32)), .val (.int z10), .val (.int z12), .val (.int z14), .val (.int z16), .unset] [(.int z16)])
            refine hp (fun tq kq => XS.iload X15.here hx rfl (hb hby at_170) rfl kq) ?_
            show G T15 (mkF m 172 #[.val (.int p0), .val (.int p1), .val (.int p2), .val (.int p3), .val (.int p4), .val (.int p5), .val (.int z1), .val (.int z2), .val (.int z3), .val (.int z4), .val (.int z5), .val (.ref b6), .val (.int (16 : Int32)), .val (.int z10), .val (.int z12), .val (.int z14), .val (.int z16), .unset] [(.int z4), (.int z16)])
            by_cases hb29 : z16 = z4
            · refine hp (fun tq kq => XS.icmpYes X15.here hx rfl (pc0 := 172) (pc' := 195) rfl (hb hby at_172) rfl (teq hb29).1 (by decide) (by decide) kq) ?_
              show G T15 (mkF m 195 #[.val (.int p0), .val (.int p1), .val (.int p2), .val (.int p3), .val (.int p4), .val (.int p5), .val (.int z1), .val (.int z2), .val (.int z3), .val (.int z4), .val (.int z5), .val (.ref b6), .val (.int (16 : Int32)), .val (.int z10), .val (.int z12), .val (.int z14), .val (.int z16), .unset] [])
              refine hp (fun tq kq => XS.iconst X15.here hx rfl (hb hby at_195) kq) ?_
              show G T15 (mkF m 196 #[.val (.int p0), .val (.int p1), .val (.int p2), .val (.int p3), .val (.int p4), .val (.int p5), .val (.int z1), .val (.int z2), .val (.int z3), .val (.int z4), .val (.int z5), .val (.ref b6), .val (.int (16 : Int32)), .val (.int z10), .val (.int z12), .val (.int z14), .val (.int z16), .unset] [(.int (1 : Int32))])
              refine hp (fun tq kq => XS.goto X15.here hx rfl (pc0 := 196) (pc' := 200) rfl (hb hby at_196) (by decide) (by decide) kq) ?_
              show G T15 (mkF m 200 #[.val (.int p0), .val (.int p1), .val (.int p2), .val (.int p3), .val (.int p4), .val (.int p5), .val (.int z1), .val (.int z2), .val (.int z3), .val (.int z4), .val (.int z5), .val (.ref b6), .val (.int (16 : Int32)), .val (.int z10), .val (.int z12), .val (.int z14), .val (.int z16), .unset] [(.int (1 : Int32))])
              exact j17 _ ((if_pos hb22).trans ((if_neg hb23).trans ((if_neg hb24).trans ((if_pos hb28).trans (if_pos hb29))))).symm
            · refine hp (fun tq kq => XS.icmpNo X15.here hx rfl (hb hby at_172) rfl (feq hb29).1 kq) ?_
              show G T15 (mkF m 175 #[.val (.int p0), .val (.int p1), .val (.int p2), .val (.int p3), .val (.int p4), .val (.int p5), .val (.int z1), .val (.int z2), .val (.int z3), .val (.int z4), .val (.int z5), .val (.ref b6), .val (.int (16 : Int32)), .val (.int z10), .val (.int z12), .val (.int z14), .val (.int z16), .unset] [])
              refine hp (fun tq kq => XS.iload X15.here hx rfl (hb hby at_175) rfl kq) ?_
              show G T15 (mkF m 177 #[.val (.int p0), .val (.int p1), .val (.int p2), .val (.int p3), .val (.int p4), .val (.int p5), .val (.int z1), .val (.int z2), .val (.int z3), .val (.int z4), .val (.int z5), .val (.ref b6), .val (.int (16 : Int32)), .val (.int z10), .val (.int z12), .val (.int z14), .val (.int z16), .unset] [(.int z5)])
              refine hp (fun tq kq => XS.iconst X15.here hx rfl (hb hby at_177) kq) ?_
              show G T15 (mkF m 178 #[.val (.int p0), .val (.int p1), .val (.int p2), .val (.int p3), .val (.int p4), .val (.int p5), .val (.int z1), .val (.int z2), .val (.int z3), .val (.int z4), .val (.int z5), .val (.ref b6), .val (.int (16 : Int32)), .val (.int z10), .val (.int z12), .val (.int z14), .val (.int z16), .unset] [(.int (3 : Int32)), (.int z5)])
              by_cases hb30 : z5 = (3 : Int32)
              · refine hp (fun tq kq => XS.icmpNo X15.here hx rfl (hb hby at_178) rfl (teq hb30).2 kq) ?_
                show G T15 (mkF m 181 #[.val (.int p0), .val (.int p1), .val (.int p2), .val (.int p3), .val (.int p4), .val (.int p5), .val (.int z1), .val (.int z2), .val (.int z3), .val (.int z4), .val (.int z5), .val (.ref b6), .val (.int (16 : Int32)), .val (.int z10), .val (.int z12), .val (.int z14), .val (.int z16), .unset] [])
                refine hp (fun tq kq => XS.iload X15.here hx rfl (hb hby at_181) rfl kq) ?_
                show G T15 (mkF m 183 #[.val (.int p0), .val (.int p1), .val (.int p2), .val (.int p3), .val (.int p4), .val (.int p5), .val (.int z1), .val (.int z2), .val (.int z3), .val (.int z4), .val (.int z5), .val (.ref b6), .val (.int (16 : Int32)), .val (.int z10), .val (.int z12), .val (.int z14), .val (.int z16), .unset] [(.int z14)])
                refine hp (fun tq kq => XS.iload X15.here hx rfl (hb hby at_183) rfl kq) ?_
                show G T15 (mkF m 185 #[.val (.int p0), .val (.int p1), .val (.int p2), .val (.int p3), .val (.int p4), .val (.int p5), .val (.int z1), .val (.int z2), .val (.int z3), .val (.int z4), .val (.int z5), .val (.ref b6), .val (.int (16 : Int32)), .val (.int z10), .val (.int z12), .val (.int z14), .val (.int z16), .unset] [(.int z4), (.int z14)])
                by_cases hb31 : z14 = z4
                · refine hp (fun tq kq => XS.icmpNo X15.here hx rfl (hb hby at_185) rfl (teq hb31).2 kq) ?_
                  show G T15 (mkF m 188 #[.val (.int p0), .val (.int p1), .val (.int p2), .val (.int p3), .val (.int p4), .val (.int p5), .val (.int z1), .val (.int z2), .val (.int z3), .val (.int z4), .val (.int z5), .val (.ref b6), .val (.int (16 : Int32)), .val (.int z10), .val (.int z12), .val (.int z14), .val (.int z16), .unset] [])
                  refine hp (fun tq kq => XS.iload X15.here hx rfl (hb hby at_188) rfl kq) ?_
                  show G T15 (mkF m 190 #[.val (.int p0), .val (.int p1), .val (.int p2), .val (.int p3), .val (.int p4), .val (.int p5), .val (.int z1), .val (.int z2), .val (.int z3), .val (.int z4), .val (.int z5), .val (.ref b6), .val (.int (16 : Int32)), .val (.int z10), .val (.int z12), .val (.int z14), .val (.int z16), .unset] [(.int z16)])
                  refine hp (fun tq kq => XS.iload X15.here hx rfl (hb hby at_190) rfl kq) ?_
                  show G T15 (mkF m 192 #[.val (.int p0), .val (.int p1), .val (.int p2), .val (.int p3), .val (.int p4), .val (.int p5), .val (.int z1), .val (.int z2), .val (.int z3), .val (.int z4), .val (.int z5), .val (.ref b6), .val (.int (16 : Int32)), .val (.int z10), .val (.int z12), .val (.int z14), .val (.int z16), .unset] [(.int z1), (.int z16)])
                  by_cases hb32 : z16 = z1
                  · refine hp (fun tq kq => XS.icmpNo X15.here hx rfl (hb hby at_192) rfl (teq hb32).2 kq) ?_
                    show G T15 (mkF m 195 #[.val (.int p0), .val (.int p1), .val (.int p2), .val (.int p3), .val (.int p4), .val (.int p5), .val (.int z1), .val (.int z2), .val (.int z3), .val (.int z4), .val (.int z5), .val (.ref b6), .val (.int (16 : Int32)), .val (.int z10), .val (.int z12), .val (.int z14), .val (.int z16), .unset] [])
                    refine hp (fun tq kq => XS.iconst X15.here hx rfl (hb hby at_195) kq) ?_
                    show G T15 (mkF m 196 #[.val (.int p0), .val (.int p1), .val (.int p2), .val (.int p3), .val (.int p4), .val (.int p5), .val (.int z1), .val (.int z2), .val (.int z3), .val (.int z4), .val (.int z5), .val (.ref b6), .val (.int (16 : Int32)), .val (.int z10), .val (.int z12), .val (.int z14), .val (.int z16), .unset] [(.int (1 : Int32))])
                    refine hp (fun tq kq => XS.goto X15.here hx rfl (pc0 := 196) (pc' := 200) rfl (hb hby at_196) (by decide) (by decide) kq) ?_
                    show G T15 (mkF m 200 #[.val (.int p0), .val (.int p1), .val (.int p2), .val (.int p3), .val (.int p4), .val (.int p5), .val (.int z1), .val (.int z2), .val (.int z3), .val (.int z4), .val (.int z5), .val (.ref b6), .val (.int (16 : Int32)), .val (.int z10), .val (.int z12), .val (.int z14), .val (.int z16), .unset] [(.int (1 : Int32))])
                    exact j17 _ ((if_pos hb22).trans ((if_neg hb23).trans ((if_neg hb24).trans ((if_pos hb28).trans ((if_neg hb29).trans ((if_pos hb30).trans ((if_pos hb31).trans (if_pos hb32)))))))).symm
                  · refine hp (fun tq kq => XS.icmpYes X15.here hx rfl (pc0 := 192) (pc' := 199) rfl (hb hby at_192) rfl (feq hb32).2 (by decide) (by decide) kq) ?_
                    show G T15 (mkF m 199 #[.val (.int p0), .val (.int p1), .val (.int p2), .val (.int p3), .val (.int p4), .val (.int p5), .val (.int z1), .val (.int z2), .val (.int z3), .val (.int z4), .val (.int z5), .val (.ref b6), .val (.int (16 : Int32)), .val (.int z10), .val (.int z12), .val (.int z14), .val (.int z16), .unset] [])
                    refine hp (fun tq kq => XS.iconst X15.here hx rfl (hb hby at_199) kq) ?_
                    show G T15 (mkF m 200 #[.val (.int p0), .val (.int p1), .val (.int p2), .val (.int p3), .val (.int p4), .val (.int p5), .val (.int z1), .val (.int z2), .val (.int z3), .val (.int z4), .val (.int z5), .val (.ref b6), .val (.int (16 : Int32)), .val (.int z10), .val (.int z12), .val (.int z14), .val (.int z16), .unset] [(.int (0 : Int32))])
                    exact j17 _ ((if_pos hb22).trans ((if_neg hb23).trans ((if_neg hb24).trans ((if_pos hb28).trans ((if_neg hb29).trans ((if_pos hb30).trans ((if_pos hb31).trans (if_neg hb32)))))))).symm
                · refine hp (fun tq kq => XS.icmpYes X15.here hx rfl (pc0 := 185) (pc' := 199) rfl (hb hby at_185) rfl (feq hb31).2 (by decide) (by decide) kq) ?_
                  show G T15 (mkF m 199 #[.val (.int p0), .val (.int p1), .val (.int p2), .val (.int p3), .val (.int p4), .val (.int p5), .val (.int z1), .val (.int z2), .val (.int z3), .val (.int z4), .val (.int z5), .val (.ref b6), .val (.int (16 : Int32)), .val (.int z10), .val (.int z12), .val (.int z14), .val (.int z16), .unset] [])
                  refine hp (fun tq kq => XS.iconst X15.here hx rfl (hb hby at_199) kq) ?_
                  show G T15 (mkF m 200 #[.val (.int p0), .val (.int p1), .val (.int p2), .val (.int p3), .val (.int p4), .val (.int p5), .val (.int z1), .val (.int z2), .val (.int z3), .val (.int z4), .val (.int z5), .val (.ref b6), .val (.int (16 : Int32)), .val (.int z10), .val (.int z12), .val (.int z14), .val (.int z16), .unset] [(.int (0 : Int32))])
                  exact j17 _ ((if_pos hb22).trans ((if_neg hb23).trans ((if_neg hb24).trans ((if_pos hb28).trans ((if_neg hb29).trans ((if_pos hb30).trans (if_neg hb31))))))).symm
              · refine hp (fun tq kq => XS.icmpYes X15.here hx rfl (pc0 := 178) (pc' := 199) rfl (hb hby at_178) rfl (feq hb30).2 (by decide) (by decide) kq) ?_
                show G T15 (mkF m 199 #[.val (.int p0), .val (.int p1), .val (.int p2), .val (.int p3), .val (.int p4), .val (.int p5), .val (.int z1), .val (.int z2), .val (.int z3), .val (.int z4), .val (.int z5), .val (.ref b6), .val (.int (16 : Int32)), .val (.int z10), .val (.int z12), .val (.int z14), .val (.int z16), .unset] [])
                refine hp (fun tq kq => XS.iconst X15.here hx rfl (hb hby at_199) kq) ?_
                show G T15 (mkF m 200 #[.val (.int p0), .val (.int p1), .val (.int p2), .val (.int p3), .val (.int p4), .val (.int p5), .val (.int z1), .val (.int z2), .val (.int z3), .val (.int z4), .val (.int z5), .val (.ref b6), .val (.int (16 : Int32)), .val (.int z10), .val (.int z12), .val (.int z14), .val (.int z16), .unset] [(.int (0 : Int32))])
                exact j17 _ ((if_pos hb22).trans ((if_neg hb23).trans ((if_neg hb24).trans ((if_pos hb28).trans ((if_neg hb29).trans (if_neg hb30)))))).symm
          · refine hp (fun tq kq => XS.icmpYes X15.here hx rfl (pc0 := 165) (pc' := 175) rfl (hb hby at_165) rfl (feq hb28).2 (by decide) (by decide) kq) ?_
            show G T15 (mkF m 175 #[.val (.int p0), .val (.int p1), .val (.int p2), .val (.int p3), .val (.int p4), .val (.int p5), .val (.int z1), .val (.int z2), .val (.int z3), .val (.int z4), .val (.int z5), .val (.ref b6), .val (.int (16 : Int32)), .val (.int z10), .val (.int z12), .val (.int z14), .val (.int z16), .unset] [])
            refine hp (fun tq kq => XS.iload X15.here hx rfl (hb hby at_175) rfl kq) ?_
            show G T15 (mkF m 177 #[.val (.int p0), .val (.int p1), .val (.int p2), .val (.int p3), .val (.int p4), .val (.int p5), .val (.int z1), .val (.int z2), .val (.int z3), .val (.int z4), .val (.int z5), .val (.ref b6), .val (.int (16 : Int32)), .val (.int z10), .val (.int z12), .val (.int z14), .val (.int z16), .unset] [(.int z5)])
            refine hp (fun tq kq => XS.iconst X15.here hx rfl (hb hby at_177) kq) ?_
            show G T15 (mkF m 178 #[.val (.int p0), .val (.int p1), .val (.int p2), .val (.int p3), .val (.int p4), .val (.int p5), .val (.int z1), .val (.int z2), .val (.int z3), .val (.int z4), .val (.int z5), .val (.ref b6), .val (.int (16 : Int32)), .val (.int z10), .val (.int z12), .val (.int z14), .val (.int z16), .unset] [(.int (3 : Int32)), (.int z5)])
            by_cases hb33 : z5 = (3 : Int32)
            · refine hp (fun tq kq => XS.icmpNo X15.here hx rfl (hb hby at_178) rfl (teq hb33).2 kq) ?_
              show G T15 (mkF m 181 #[.val (.int p0), .val (.int p1), .val (.int p2), .val (.int p3), .val (.int p4), .val (.int p5), .val (.int z1), .val (.int z2), .val (.int z3), .val (.int z4), .val (.int z5), .val (.ref b6), .val (.int (16 : Int32)), .val (.int z10), .val (.int z12), .val (.int z14), .val (.int z16), .unset] [])
              refine hp (fun tq kq => XS.iload X15.here hx rfl (hb hby at_181) rfl kq) ?_
              show G T15 (mkF m 183 #[.val (.int p0), .val (.int p1), .val (.int p2), .val (.int p3), .val (.int p4), .val (.int p5), .val (.int z1), .val (.int z2), .val (.int z3), .val (.int z4), .val (.int z5), .val (.ref b6), .val (.int (16 : Int32)), .val (.int z10), .val (.int z12), .val (.int z14), .val (.int z16), .unset] [(.int z14)])
              refine hp (fun tq kq => XS.iload X15.here hx rfl (hb hby at_183) rfl kq) ?_
              show G T15 (mkF m 185 #[.val (.int p0), .val (.int p1), .val (.int p2), .val (.int p3), .val (.int p4), .val (.int p5), .val (.int z1), .val (.int z2), .val (.int z3), .val (.int z4), .val (.int z5), .val (.ref b6), .val (.int (16 : Int32)), .val (.int z10), .val (.int z12), .val (.int z14), .val (.int z16), .unset] [(.int z4), (.int z14)])
              by_cases hb34 : z14 = z4
              · refine hp (fun tq kq => XS.icmpNo X15.here hx rfl (hb hby at_185) rfl (teq hb34).2 kq) ?_
                show G T15 (mkF m 188 #[.val (.int p0), .val (.int p1), .val (.int p2), .val (.int p3), .val (.int p4), .val (.int p5), .val (.int z1), .val (.int z2), .val (.int z3), .val (.int z4), .val (.int z5), .val (.ref b6), .val (.int (16 : Int32)), .val (.int z10), .val (.int z12), .val (.int z14), .val (.int z16), .unset] [])
                refine hp (fun tq kq => XS.iload X15.here hx rfl (hb hby at_188) rfl kq) ?_
                show G T15 (mkF m 190 #[.val (.int p0), .val (.int p1), .val (.int p2), .val (.int p3), .val (.int p4), .val (.int p5), .val (.int z1), .val (.int z2), .val (.int z3), .val (.int z4), .val (.int z5), .val (.ref b6), .val (.int (16 : Int32)), .val (.int z10), .val (.int z12), .val (.int z14), .val (.int z16), .unset] [(.int z16)])
                refine hp (fun tq kq => XS.iload X15.here hx rfl (hb hby at_190) rfl kq) ?_
                show G T15 (mkF m 192 #[.val (.int p0), .val (.int p1), .val (.int p2), .val (.int p3), .val (.int p4), .val (.int p5), .val (.int z1), .val (.int z2), .val (.int z3), .val (.int z4), .val (.int z5), .val (.ref b6), .val (.int (16 : Int32)), .val (.int z10), .val (.int z12), .val (.int z14), .val (.int z16), .unset] [(.int z1), (.int z16)])
                by_cases hb35 : z16 = z1
                · refine hp (fun tq kq => XS.icmpNo X15.here hx rfl (hb hby at_192) rfl (teq hb35).2 kq) ?_
                  show G T15 (mkF m 195 #[.val (.int p0), .val (.int p1), .val (.int p2), .val (.int p3), .val (.int p4), .val (.int p5), .val (.int z1), .val (.int z2), .val (.int z3), .val (.int z4), .val (.int z5), .val (.ref b6), .val (.int (16 : Int32)), .val (.int z10), .val (.int z12), .val (.int z14), .val (.int z16), .unset] [])
                  refine hp (fun tq kq => XS.iconst X15.here hx rfl (hb hby at_195) kq) ?_
                  show G T15 (mkF m 196 #[.val (.int p0), .val (.int p1), .val (.int p2), .val (.int p3), .val (.int p4), .val (.int p5), .val (.int z1), .val (.int z2), .val (.int z3), .val (.int z4), .val (.int z5), .val (.ref b6), .val (.int (16 : Int32)), .val (.int z10), .val (.int z12), .val (.int z14), .val (.int z16), .unset] [(.int (1 : Int32))])
                  refine hp (fun tq kq => XS.goto X15.here hx rfl (pc0 := 196) (pc' := 200) rfl (hb hby at_196) (by decide) (by decide) kq) ?_
                  show G T15 (mkF m 200 #[.val (.int p0), .val (.int p1), .val (.int p2), .val (.int p3), .val (.int p4), .val (.int p5), .val (.int z1), .val (.int z2), .val (.int z3), .val (.int z4), .val (.int z5), .val (.ref b6), .val (.int (16 : Int32)), .val (.int z10), .val (.int z12), .val (.int z14), .val (.int z16), .unset] [(.int (1 : Int32))])
                  exact j17 _ ((if_pos hb22).trans ((if_neg hb23).trans ((if_neg hb24).trans ((if_neg hb28).trans ((if_pos hb33).trans ((if_pos hb34).trans (if_pos hb35))))))).symm
                · refine hp (fun tq kq => XS.icmpYes X15.here hx rfl (pc0 := 192) (pc' := 199) rfl (hb hby at_192) rfl (feq hb35).2 (by decide) (by decide) kq) ?_
                  show G T15 (mkF m 199 #[.val (.int p0), .val (.int p1), .val (.int p2), .val (.int p3), .val (.int p4), .val (.int p5), .val (.int z1), .val (.int z2), .val (.int z3), .val (.int z4), .val (.int z5), .val (.ref b6), .val (.int (16 : Int32)), .val (.int z10), .val (.int z12), .val (.int z14), .val (.int z16), .unset] [])
                  refine hp (fun tq kq => XS.iconst X15.here hx rfl (hb hby at_199) kq) ?_
                  show G T15 (mkF m 200 #[.val (.int p0), .val (.int p1), .val (.int p2), .val (.int p3), .val (.int p4), .val (.int p5), .val (.int z1), .val (.int z2), .val (.int z3), .val (.int z4), .val (.int z5), .val (.ref b6), .val (.int (16 : Int32)), .val (.int z10), .val (.int z12), .val (.int z14), .val (.int z16), .unset] [(.int (0 : Int32))])
                  exact j17 _ ((if_pos hb22).trans ((if_neg hb23).trans ((if_neg hb24).trans ((if_neg hb28).trans ((if_pos hb33).trans ((if_pos hb34).trans (if_neg hb35))))))).symm
              · refine hp (fun tq kq => XS.icmpYes X15.here hx rfl (pc0 := 185) (pc' := 199) rfl (hb hby at_185) rfl (feq hb34).2 (by decide) (by decide) kq) ?_
                show G T15 (mkF m 199 #[.val (.int p0), .val (.int p1), .val (.int p2), .val (.int p3), .val (.int p4), .val (.int p5), .val (.int z1), .val (.int z2), .val (.int z3), .val (.int z4), .val (.int z5), .val (.ref b6), .val (.int (16 : Int32)), .val (.int z10), .val (.int z12), .val (.int z14), .val (.int z16), .unset] [])
                refine hp (fun tq kq => XS.iconst X15.here hx rfl (hb hby at_199) kq) ?_
                show G T15 (mkF m 200 #[.val (.int p0), .val (.int p1), .val (.int p2), .val (.int p3), .val (.int p4), .val (.int p5), .val (.int z1), .val (.int z2), .val (.int z3), .val (.int z4), .val (.int z5), .val (.ref b6), .val (.int (16 : Int32)), .val (.int z10), .val (.int z12), .val (.int z14), .val (.int z16), .unset] [(.int (0 : Int32))])
                exact j17 _ ((if_pos hb22).trans ((if_neg hb23).trans ((if_neg hb24).trans ((if_neg hb28).trans ((if_pos hb33).trans (if_neg hb34)))))).symm
            · refine hp (fun tq kq => XS.icmpYes X15.here hx rfl (pc0 := 178) (pc' := 199) rfl (hb hby at_178) rfl (feq hb33).2 (by decide) (by decide) kq) ?_
              show G T15 (mkF m 199 #[.val (.int p0), .val (.int p1), .val (.int p2), .val (.int p3), .val (.int p4), .val (.int p5), .val (.int z1), .val (.int z2), .val (.int z3), .val (.int z4), .val (.int z5), .val (.ref b6), .val (.int (16 : Int32)), .val (.int z10), .val (.int z12), .val (.int z14), .val (.int z16), .unset] [])
              refine hp (fun tq kq => XS.iconst X15.here hx rfl (hb hby at_199) kq) ?_
              show G T15 (mkF m 200 #[.val (.int p0), .val (.int p1), .val (.int p2), .val (.int p3), .val (.int p4), .val (.int p5), .val (.int z1), .val (.int z2), .val (.int z3), .val (.int z4), .val (.int z5), .val (.ref b6), .val (.int (16 : Int32)), .val (.int z10), .val (.int z12), .val (.int z14), .val (.int z16), .unset] [(.int (0 : Int32))])
              exact j17 _ ((if_pos hb22).trans ((if_neg hb23).trans ((if_neg hb24).trans ((if_neg hb28).trans (if_neg hb33))))).symm
    · refine hp (fun tq kq => XS.icmpYes X15.here hx rfl (pc0 := 145) (pc' := 155) rfl (hb hby at_145) rfl (feq hb22).2 (by decide) (by decide) kq) ?_
      show G T15 (mkF m 155 #[.val (.int p0), .val (.int p1), .val (.int p2), .val (.int p3), .val (.int p4), .val (.int p5), .val (.int z1), .val (.int z2), .val (.int z3), .val (.int z4), .val (.int z5), .val (.ref b6), .val (.int (16 : Int32)), .val (.int z10), .val (.int z12), .val (.int z14), .val (.int z16), .unset] [])
      refine hp (fun tq kq => XS.iload X15.here hx rfl (hb hby at_155) rfl kq) ?_
      show G T15 (mkF m 157 #[.val (.int p0), .val (.int p1), .val (.int p2), .val (.int p3), .val (.int p4), .val (.int p5), .val (.int z1), .val (.int z2), .val (.int z3), .val (.int z4), .val (.int z5), .val (.ref b6), .val (.int (16 : Int32)), .val (.int z10), .val (.int z12), .val (.int z14), .val (.int z16), .unset] [(.int z5)])
      refine hp (fun tq kq => XS.iconst X15.here hx rfl (hb hby at_157) kq) ?_
      show G T15 (mkF m 158 #[.val (.int p0), .val (.int p1), .val (.int p2), .val (.int p3), .val (.int p4), .val (.int p5), .val (.int z1), .val (.int z2), .val (.int z3), .val (.int z4), .val (.int z5), .val (.ref b6), .val (.int (16 : Int32)), .val (.int z10), .val (.int z12), .val (.int z14), .val (.int z16), .unset] [(.int (1 : Int32)), (.int z5)])
      by_cases hb36 : z5 < (1 : Int32)
      · refine hp (fun tq kq => XS.icmpYes X15.here hx rfl (pc0 := 158) (pc' := 175) rfl (hb hby at_158) rfl (tlt hb36).1 (by decide) (by decide) kq) ?_
        show G T15 (mkF m 175 #[.val (.int p0), .val (.int p1), .val (.int p2), .val (.int p3), .val (.int p4), .val (.int p5), .val (.int z1), .val (.int z2), .val (.int z3), .val (.int z4), .val (.int z5), .val (.ref b6), .val (.int (16 : Int32)), .val (.int z10), .val (.int z12), .val (.int z14), .val (.int z16), .unset] [])
        refine hp (fun tq kq => XS.iload X15.here hx rfl (hb hby at_175) rfl kq) ?_
        show G T15 (mkF m 177 #[.val (.int p0), .val (.int p1), .val (.int p2), .val (.int p3), .val (.int p4), .val (.int p5), .val (.int z1), .val (.int z2), .val (.int z3), .val (.int z4), .val (.int z5), .val (.ref b6), .val (.int (16 : Int32)), .val (.int z10), .val (.int z12), .val (.int z14), .val (.int z16), .unset] [(.int z5)])
        refine hp (fun tq kq => XS.iconst X15.here hx rfl (hb hby at_177) kq) ?_
        show G T15 (mkF m 178 #[.val (.int p0), .val (.int p1), .val (.int p2), .val (.int p3), .val (.int p4), .val (.int p5), .val (.int z1), .val (.int z2), .val (.int z3), .val (.int z4), .val (.int z5), .val (.ref b6), .val (.int (16 : Int32)), .val (.int z10), .val (.int z12), .val (.int z14), .val (.int z16), .unset] [(.int (3 : Int32)), (.int z5)])
        by_cases hb37 : z5 = (3 : Int32)
        · refine hp (fun tq kq => XS.icmpNo X15.here hx rfl (hb hby at_178) rfl (teq hb37).2 kq) ?_
          show G T15 (mkF m 181 #[.val (.int p0), .val (.int p1), .val (.int p2), .val (.int p3), .val (.int p4), .val (.int p5), .val (.int z1), .val (.int z2), .val (.int z3), .val (.int z4), .val (.int z5), .val (.ref b6), .val (.int (16 : Int32)), .val (.int z10), .val (.int z12), .val (.int z14), .val (.int z16), .unset] [])
          refine hp (fun tq kq => XS.iload X15.here hx rfl (hb hby at_181) rfl kq) ?_
          show G T15 (mkF m 183 #[.val (.int p0), .val (.int p1), .val (.int p2), .val (.int p3), .val (.int p4), .val (.int p5), .val (.int z1), .val (.int z2), .val (.int z3), .val (.int z4), .val (.int z5), .val (.ref b6), .val (.int (16 : Int32)), .val (.int z10), .val (.int z12), .val (.int z14), .val (.int z16), .unset] [(.int z14)])
          refine hp (fun tq kq => XS.iload X15.here hx rfl (hb hby at_183) rfl kq) ?_
          show G T15 (mkF m 185 #[.val (.int p0), .val (.int p1), .val (.int p2), .val (.int p3), .val (.int p4), .val (.int p5), .val (.int z1), .val (.int z2), .val (.int z3), .val (.int z4), .val (.int z5), .val (.ref b6), .val (.int (16 : Int32)), .val (.int z10), .val (.int z12), .val (.int z14), .val (.int z16), .unset] [(.int z4), (.int z14)])
          by_cases hb38 : z14 = z4
          · refine hp (fun tq kq => XS.icmpNo X15.here hx rfl (hb hby at_185) rfl (teq hb38).2 kq) ?_
            show G T15 (mkF m 188 #[.val (.int p0), .val (.int p1), .val (.int p2), .val (.int p3), .val (.int p4), .val (.int p5), .val (.int z1), .val (.int z2), .val (.int z3), .val (.int z4), .val (.int z5), .val (.ref b6), .val (.int (16 : Int32)), .val (.int z10), .val (.int z12), .val (.int z14), .val (.int z16), .unset] [])
            refine hp (fun tq kq => XS.iload X15.here hx rfl (hb hby at_188) rfl kq) ?_
            show G T15 (mkF m 190 #[.val (.int p0), .val (.int p1), .val (.int p2), .val (.int p3), .val (.int p4), .val (.int p5), .val (.int z1), .val (.int z2), .val (.int z3), .val (.int z4), .val (.int z5), .val (.ref b6), .val (.int (16 : Int32)), .val (.int z10), .val (.int z12), .val (.int z14), .val (.int z16), .unset] [(.int z16)])
            refine hp (fun tq kq => XS.iload X15.here hx rfl (hb hby at_190) rfl kq) ?_
            show G T15 (mkF m 192 #[.val (.int p0), .val (.int p1), .val (.int p2), .val (.int p3), .val (.int p4), .val (.int p5), .val (.int z1), .val (.int z2), .val (.int z3), .val (.int z4), .val (.int z5), .val (.ref b6), .val (.int (16 : Int32)), .val (.int z10), .val (.int z12), .val (.int z14), .val (.int z16), .unset] [(.int z1), (.int z16)])
            by_cases hb39 : z16 = z1
            · refine hp (fun tq kq => XS.icmpNo X15.here hx rfl (hb hby at_192) rfl (teq hb39).2 kq) ?_
              show G T15 (mkF m 195 #[.val (.int p0), .val (.int p1), .val (.int p2), .val (.int p3), .val (.int p4), .val (.int p5), .val (.int z1), .val (.int z2), .val (.int z3), .val (.int z4), .val (.int z5), .val (.ref b6), .val (.int (16 : Int32)), .val (.int z10), .val (.int z12), .val (.int z14), .val (.int z16), .unset] [])
              refine hp (fun tq kq => XS.iconst X15.here hx rfl (hb hby at_195) kq) ?_
              show G T15 (mkF m 196 #[.val (.int p0), .val (.int p1), .val (.int p2), .val (.int p3), .val (.int p4), .val (.int p5), .val (.int z1), .val (.int z2), .val (.int z3), .val (.int z4), .val (.int z5), .val (.ref b6), .val (.int (16 : Int32)), .val (.int z10), .val (.int z12), .val (.int z14), .val (.int z16), .unset] [(.int (1 : Int32))])
              refine hp (fun tq kq => XS.goto X15.here hx rfl (pc0 := 196) (pc' := 200) rfl (hb hby at_196) (by decide) (by decide) kq) ?_
              show G T15 (mkF m 200 #[.val (.int p0), .val (.int p1), .val (.int p2), .val (.int p3), .val (.int p4), .val (.int p5), .val (.int z1), .val (.int z2), .val (.int z3), .val (.int z4), .val (.int z5), .val (.ref b6), .val (.int (16 : Int32)), .val (.int z10), .val (.int z12), .val (.int z14), .val (.int z16), .unset] [(.int (1 : Int32))])
              exact j17 _ ((if_neg hb22).trans ((if_pos hb36).trans ((if_pos hb37).trans ((if_pos hb38).trans (if_pos hb39))))).symm
            · refine hp (fun tq kq => XS.icmpYes X15.here hx rfl (pc0 := 192) (pc' := 199) rfl (hb hby at_192) rfl (feq hb39).2 (by decide) (by decide) kq) ?_
              show G T15 (mkF m 199 #[.val (.int p0), .val (.int p1), .val (.int p2), .val (.int p3), .val (.int p4), .val (.int p5), .val (.int z1), .val (.int z2), .val (.int z3), .val (.int z4), .val (.int z5), .val (.ref b6), .val (.int (16 : Int32)), .val (.int z10), .val (.int z12), .val (.int z14), .val (.int z16), .unset] [])
              refine hp (fun tq kq => XS.iconst X15.here hx rfl (hb hby at_199) kq) ?_
              show G T15 (mkF m 200 #[.val (.int p0), .val (.int p1), .val (.int p2), .val (.int p3), .val (.int p4), .val (.int p5), .val (.int z1), .val (.int z2), .val (.int z3), .val (.int z4), .val (.int z5), .val (.ref b6), .val (.int (16 : Int32)), .val (.int z10), .val (.int z12), .val (.int z14), .val (.int z16), .unset] [(.int (0 : Int32))])
              exact j17 _ ((if_neg hb22).trans ((if_pos hb36).trans ((if_pos hb37).trans ((if_pos hb38).trans (if_neg hb39))))).symm
          · refine hp (fun tq kq => XS.icmpYes X15.here hx rfl (pc0 := 185) (pc' := 199) rfl (hb hby at_185) rfl (feq hb38).2 (by decide) (by decide) kq) ?_
            show G T15 (mkF m 199 #[.val (.int p0), .val (.int p1), .val (.int p2), .val (.int p3), .val (.int p4), .val (.int p5), .val (.int z1), .val (.int z2), .val (.int z3), .val (.int z4), .val (.int z5), .val (.ref b6), .val (.int (16 : Int32)), .val (.int z10), .val (.int z12), .val (.int z14), .val (.int z16), .unset] [])
            refine hp (fun tq kq => XS.iconst X15.here hx rfl (hb hby at_199) kq) ?_
            show G T15 (mkF m 200 #[.val (.int p0), .val (.int p1), .val (.int p2), .val (.int p3), .val (.int p4), .val (.int p5), .val (.int z1), .val (.int z2), .val (.int z3), .val (.int z4), .val (.int z5), .val (.ref b6), .val (.int (16 : Int32)), .val (.int z10), .val (.int z12), .val (.int z14), .val (.int z16), .unset] [(.int (0 : Int32))])
            exact j17 _ ((if_neg hb22).trans ((if_pos hb36).trans ((if_pos hb37).trans (if_neg hb38)))).symm
        · refine hp (fun tq kq => XS.icmpYes X15.here hx rfl (pc0 := 178) (pc' := 199) rfl (hb hby at_178) rfl (feq hb37).2 (by decide) (by decide) kq) ?_
          show G T15 (mkF m 199 #[.val (.int p0), .val (.int p1), .val (.int p2), .val (.int p3), .val (.int p4), .val (.int p5), .val (.int z1), .val (.int z2), .val (.int z3), .val (.int z4), .val (.int z5), .val (.ref b6), .val (.int (16 : Int32)), .val (.int z10), .val (.int z12), .val (.int z14), .val (.int z16), .unset] [])
          refine hp (fun tq kq => XS.iconst X15.here hx rfl (hb hby at_199) kq) ?_
          show G T15 (mkF m 200 #[.val (.int p0), .val (.int p1), .val (.int p2), .val (.int p3), .val (.int p4), .val (.int p5), .val (.int z1), .val (.int z2), .val (.int z3), .val (.int z4), .val (.int z5), .val (.ref b6), .val (.int (16 : Int32)), .val (.int z10), .val (.int z12), .val (.int z14), .val (.int z16), .unset] [(.int (0 : Int32))])
          exact j17 _ ((if_neg hb22).trans ((if_pos hb36).trans (if_neg hb37))).symm
      · refine hp (fun tq kq => XS.icmpNo X15.here hx rfl (hb hby at_158) rfl (flt hb36).1 kq) ?_
        show G T15 (mkF m 161 #[.val (.int p0), .val (.int p1), .val (.int p2), .val (.int p3), .val (.int p4), .val (.int p5), .val (.int z1), .val (.int z2), .val (.int z3), .val (.int z4), .val (.int z5), .val (.ref b6), .val (.int (16 : Int32)), .val (.int z10), .val (.int z12), .val (.int z14), .val (.int z16), .unset] [])
        refine hp (fun tq kq => XS.iload X15.here hx rfl (hb hby at_161) rfl kq) ?_
        show G T15 (mkF m 163 #[.val (.int p0), .val (.int p1), .val (.int p2), .val (.int p3), .val (.int p4), .val (.int p5), .val (.int z1), .val (.int z2), .val (.int z3), .val (.int z4), .val (.int z5), .val (.ref b6), .val (.int (16 : Int32)), .val (.int z10), .val (.int z12), .val (.int z14), .val (.int z16), .unset] [(.int z14)])
        refine hp (fun tq kq => XS.iload X15.here hx rfl (hb hby at_163) rfl kq) ?_
        show G T15 (mkF m 165 #[.val (.int p0), .val (.int p1), .val (.int p2), .val (.int p3), .val (.int p4), .val (.int p5), .val (.int z1), .val (.int z2), .val (.int z3), .val (.int z4), .val (.int z5), .val (.ref b6), .val (.int (16 : Int32)), .val (.int z10), .val (.int z12), .val (.int z14), .val (.int z16), .unset] [(.int z3), (.int z14)])
        by_cases hb40 : z14 = z3
        · refine hp (fun tq kq => XS.icmpNo X15.here hx rfl (hb hby at_165) rfl (teq hb40).2 kq) ?_
          show G T15 (mkF m 168 #[.val (.int p0), .val (.int p1), .val (.int p2), .val (.int p3), .val (.int p4), .val (.int p5), .val (.int z1), .val (.int z2), .val (.int z3), .val (.int z4), .val (.int z5), .val (.ref b6), .val (.int (16 : Int32)), .val (.int z10), .val (.int z12), .val (.int z14), .val (.int z16), .unset] [])
          refine hp (fun tq kq => XS.iload X15.here hx rfl (hb hby at_168) rfl kq) ?_
          show G T15 (mkF m 170 #[.val (.int p0), .val (.int p1), .val (.int p2), .val (.int p3), .val (.int p4), .val (.int p5), .val (.int z1), .val (.int z2), .val (.int z3), .val (.int z4), .val (.int z5), .val (.ref b6), .val (.int (16 : Int32)), .val (.int z10), .val (.int z12), .val (.int z14), .val (.int z16), .unset] [(.int z16)])
          refine hp (fun tq kq => XS.iload X15.here hx rfl (hb hby at_170) rfl kq) ?_
          show G T15 (mkF m 172 #[.val (.int p0), .val (.int p1), .val (.int p2), .val (.int p3), .val (.int p4), .val (.int p5), .val (.int z1), .val (.int z2), .val (.int z3), .val (.int z4), .val (.int z5), .val (.ref b6), .val (.int (16 : Int32)), .val (.int z10), .val (.int z12), .val (.int z14), .val (.int z16), .unset] [(.int z4), (.int z16)])
          by_cases hb41 : z16 = z4
          · refine hp (fun tq kq => XS.icmpYes X15.here hx rfl (pc0 := 172) (pc' := 195) rfl (hb hby at_172) rfl (teq hb41).1 (by decide) (by decide) kq) ?_
            show G T15 (mkF m 195 #[.val (.int p0), .val (.int p1), .val (.int p2), .val (.int p3), .val (.int p4), .val (.int p5), .val (.int z1), .val (.int z2), .val (.int z3), .val (.int z4), .val (.int z5), .val (.ref b6), .val (.int (16 : Int32)), .val (.int z10), .val (.int z12), .val (.int z14), .val (.int z16), .unset] [])
            refine hp (fun tq kq => XS.iconst X15.here hx rfl (hb hby at_195) kq) ?_
            show G T15 (mkF m 196 #[.val (.int p0), .val (.int p1), .val (.int p2), .val (.int p3), .val (.int p4), .val (.int p5), .val (.int z1), .val (.int z2), .val (.int z3), .val (.int z4), .val (.int z5), .val (.ref b6), .val (.int (16 : Int32)), .val (.int z10), .val (.int z12), .val (.int z14), .val (.int z16), .unset] [(.int (1 : Int32))])
            refine hp (fun tq kq => XS.goto X15.here hx rfl (pc0 := 196) (pc' := 200) rfl (hb hby at_196) (by decide) (by decide) kq) ?_
            show G T15 (mkF m 200 #[.val (.int p0), .val (.int p1), .val (.int p2), .val (.int p3), .val (.int p4), .val (.int p5), .val (.int z1), .val (.int z2), .val (.int z3), .val (.int z4), .val (.int z5), .val (.ref b6), .val (.int (16 : Int32)), .val (.int z10), .val (.int z12), .val (.int z14), .val (.int z16), .unset] [(.int (1 : Int32))])
            exact j17 _ ((if_neg hb22).trans ((if_neg hb36).trans ((if_pos hb40).trans (if_pos hb41)))).symm
          · refine hp (fun tq kq => XS.icmpNo X15.here hx rfl (hb hby at_172) rfl (feq hb41).1 kq) ?_
            show G T15 (mkF m 175 #[.val (.int p0), .val (.int p1), .val (.int p2), .val (.int p3), .val (.int p4), .val (.int p5), .val (.int z1), .val (.int z2), .val (.int z3), .val (.int z4), .val (.int z5), .val (.ref b6), .val (.int (16 : Int32)), .val (.int z10), .val (.int z12), .val (.int z14), .val (.int z16), .unset] [])
            refine hp (fun tq kq => XS.iload X15.here hx rfl (hb hby at_175) rfl kq) ?_
            show G T15 (mkF m 177 #[.val (.int p0), .val (.int p1), .val (.int p2), .val (.int p3), .val (.int p4), .val (.int p5), .val (.int z1), .val (.int z2), .val (.int z3), .val (.int z4), .val (.int z5), .val (.ref b6), .val (.int (16 : Int32)), .val (.int z10), .val (.int z12), .val (.int z14), .val (.int z16), .unset] [(.int z5)])
            refine hp (fun tq kq => XS.iconst X15.here hx rfl (hb hby at_177) kq) ?_
            show G T15 (mkF m 178 #[.val (.int p0), .val (.int p1), .val (.int p2), .val (.int p3), .val (.int p4), .val (.int p5), .val (.int z1), .val (.int z2), .val (.int z3), .val (.int z4), .val (.int z5), .val (.ref b6), .val (.int (16 : Int32)), .val (.int z10), .val (.int z12), .val (.int z14), .val (.int z16), .unset] [(.int (3 : Int32)), (.int z5)])
            by_cases hb42 : z5 = (3 : Int32)
            · refine hp (fun tq kq => XS.icmpNo X15.here hx rfl (hb hby at_178) rfl (teq hb42).2 kq) ?_
              show G T15 (mkF m 181 #[.val (.int p0), .val (.int p1), .val (.int p2), .val (.int p3), .val (.int p4), .val (.int p5), .val (.int z1), .val (.int z2), .val (.int z3), .val (.int z4), .val (.int z5), .val (.ref b6), .val (.int (16 : Int32)), .val (.int z10), .val (.int z12), .val (.int z14), .val (.int z16), .unset] [])
              refine hp (fun tq kq => XS.iload X15.here hx rfl (hb hby at_181) rfl kq) ?_
              show G T15 (mkF m 183 #[.val (.int p0), .val (.int p1), .val (.int p2), .val (.int p3), .val (.int p4), .val (.int p5), .val (.int z1), .val (.int z2), .val (.int z3), .val (.int z4), .val (.int z5), .val (.ref b6), .val (.int (16 : Int32)), .val (.int z10), .val (.int z12), .val (.int z14), .val (.int z16), .unset] [(.int z14)])
              refine hp (fun tq kq => XS.iload X15.here hx rfl (hb hby at_183) rfl kq) ?_
              show G T15 (mkF m 185 #[.val (.int p0), .val (.int p1), .val (.int p2), .val (.int p3), .val (.int p4), .val (.int p5), .val (.int z1), .val (.int z2), .val (.int z3), .val (.int z4), .val (.int z5), .val (.ref b6), .val (.int (16 : Int32)), .val (.int z10), .val (.int z12), .val (.int z14), .val (.int z16), .unset] [(.int z4), (.int z14)])
              by_cases hb43 : z14 = z4
              · refine hp (fun tq kq => XS.icmpNo X15.here hx rfl (hb hby at_185) rfl (teq hb43).2 kq) ?_
                show G T15 (mkF m 188 #[.val (.int p0), .val (.int p1), .val (.int p2), .val (.int p3), .val (.int p4), .val (.int p5), .val (.int z1), .val (.int z2), .val (.int z3), .val (.int z4), .val (.int z5), .val (.ref b6), .val (.int (16 : Int32)), .val (.int z10), .val (.int z12), .val (.int z14), .val (.int z16), .unset] [])
                refine hp (fun tq kq => XS.iload X15.here hx rfl (hb hby at_188) rfl kq) ?_
                show G T15 (mkF m 190 #[.val (.int p0), .val (.int p1), .val (.int p2), .val (.int p3), .val (.int p4), .val (.int p5), .val (.int z1), .val (.int z2), .val (.int z3), .val (.int z4), .val (.int z5), .val (.ref b6), .val (.int (16 : Int32)), .val (.int z10), .val (.int z12), .val (.int z14), .val (.int z16), .unset] [(.int z16)])
                refine hp (fun tq kq => XS.iload X15.here hx rfl (hb hby at_190) rfl kq) ?_
                show G T15 (mkF m 192 #[.val (.int p0), .val (.int p1), .val (.int p2), .val (.int p3), .val (.int p4), .val (.int p5), .val (.int z1), .val (.int z2), .val (.int z3), .val (.int z4), .val (.int z5), .val (.ref b6), .val (.int (16 : Int32)), .val (.int z10), .val (.int z12), .val (.int z14), .val (.int z16), .unset] [(.int z1), (.int z16)])
                by_cases hb44 : z16 = z1
                · refine hp (fun tq kq => XS.icmpNo X15.here hx rfl (hb hby at_192) rfl (teq hb44).2 kq) ?_
                  show G T15 (mkF m 195 #[.val (.int p0), .val (.int p1), .val (.int p2), .val (.int p3), .val (.int p4), .val (.int p5), .val (.int z1), .val (.int z2), .val (.int z3), .val (.int z4), .val (.int z5), .val (.ref b6), .val (.int (16 : Int32)), .val (.int z10), .val (.int z12), .val (.int z14), .val (.int z16), .unset] [])
                  refine hp (fun tq kq => XS.iconst X15.here hx rfl (hb hby at_195) kq) ?_
                  show G T15 (mkF m 196 #[.val (.int p0), .val (.int p1), .val (.int p2), .val (.int p3), .val (.int p4), .val (.int p5), .val (.int z1), .val (.int z2), .val (.int z3), .val (.int z4), .val (.int z5), .val (.ref b6), .val (.int (16 : Int32)), .val (.int z10), .val (.int z12), .val (.int z14), .val (.int z16), .unset] [(.int (1 : Int32))])
                  refine hp (fun tq kq => XS.goto X15.here hx rfl (pc0 := 196) (pc' := 200) rfl (hb hby at_196) (by decide) (by decide) kq) ?_
                  show G T15 (mkF m 200 #[.val (.int p0), .val (.int p1), .val (.int p2), .val (.int p3), .val (.int p4), .val (.int p5), .val (.int z1), .val (.int z2), .val (.int z3), .val (.int z4), .val (.int z5), .val (.ref b6), .val (.int (16 : Int32)), .val (.int z10), .val (.int z12), .val (.int z14), .val (.int z16), .unset] [(.int (1 : Int32))])
                  exact j17 _ ((if_neg hb22).trans ((if_neg hb36).trans ((if_pos hb40).trans ((if_neg hb41).trans ((if_pos hb42).trans ((if_pos hb43).trans (if_pos hb44))))))).symm
                · refine hp (fun tq kq => XS.icmpYes X15.here hx rfl (pc0 := 192) (pc' := 199) rfl (hb hby at_192) rfl (feq hb44).2 (by decide) (by decide) kq) ?_
                  show G T15 (mkF m 199 #[.val (.int p0), .val (.int p1), .val (.int p2), .val (.int p3), .val (.int p4), .val (.int p5), .val (.int z1), .val (.int z2), .val (.int z3), .val (.int z4), .val (.int z5), .val (.ref b6), .val (.int (16 : Int32)), .val (.int z10), .val (.int z12), .val (.int z14), .val (.int z16), .unset] [])
                  refine hp (fun tq kq => XS.iconst X15.here hx rfl (hb hby at_199) kq) ?_
                  show G T15 (mkF m 200 #[.val (.int p0), .val (.int p1), .val (.int p2), .val (.int p3), .val (.int p4), .val (.int p5), .val (.int z1), .val (.int z2), .val (.int z3), .val (.int z4), .val (.int z5), .val (.ref b6), .val (.int (16 : Int32)), .val (.int z10), .val (.int z12), .val (.int z14), .val (.int z16), .unset] [(.int (0 : Int32))])
                  exact j17 _ ((if_neg hb22).trans ((if_neg hb36).trans ((if_pos hb40).trans ((if_neg hb41).trans ((if_pos hb42).trans ((if_pos hb43).trans (if_neg hb44))))))).symm
              · refine hp (fun tq kq => XS.icmpYes X15.here hx rfl (pc0 := 185) (pc' := 199) rfl (hb hby at_185) rfl (feq hb43).2 (by decide) (by decide) kq) ?_
                show G T15 (mkF m 199 #[.val (.int p0), .val (.int p1), .val (.int p2), .val (.int p3), .val (.int p4), .val (.int p5), .val (.int z1), .val (.int z2), .val (.int z3), .val (.int z4), .val (.int z5), .val (.ref b6), .val (.int (16 : Int32)), .val (.int z10), .val (.int z12), .val (.int z14), .val (.int z16), .unset] [])
                refine hp (fun tq kq => XS.iconst X15.here hx rfl (hb hby at_199) kq) ?_
                show G T15 (mkF m 200 #[.val (.int p0), .val (.int p1), .val (.int p2), .val (.int p3), .val (.int p4), .val (.int p5), .val (.int z1), .val (.int z2), .val (.int z3), .val (.int z4), .val (.int z5), .val (.ref b6), .val (.int (16 : Int32)), .val (.int z10), .val (.int z12), .val (.int z14), .val (.int z16), .unset] [(.int (0 : Int32))])
                exact j17 _ ((if_neg hb22).trans ((if_neg hb36).trans ((if_pos hb40).trans ((if_neg hb41).trans ((if_pos hb42).trans (if_neg hb43)))))).symm
            · refine hp (fun tq kq => XS.icmpYes X15.here hx rfl (pc0 := 178) (pc' := 199) rfl (hb hby at_178) rfl (feq hb42).2 (by decide) (by decide) kq) ?_
              show G T15 (mkF m 199 #[.val (.int p0), .val (.int p1), .val (.int p2), .val (.int p3), .val (.int p4), .val (.int p5), .val (.int z1), .val (.int z2), .val (.int z3), .val (.int z4), .val (.int z5), .val (.ref b6), .val (.int (16 : Int32)), .val (.int z10), .val (.int z12), .val (.int z14), .val (.int z16), .unset] [])
              refine hp (fun tq kq => XS.iconst X15.here hx rfl (hb hby at_199) kq) ?_
              show G T15 (mkF m 200 #[.val (.int p0), .val (.int p1), .val (.int p2), .val (.int p3), .val (.int p4), .val (.int p5), .val (.int z1), .val (.int z2), .val (.int z3), .val (.int z4), .val (.int z5), .val (.ref b6), .val (.int (16 : Int32)), .val (.int z10), .val (.int z12), .val (.int z14), .val (.int z16), .unset] [(.int (0 : Int32))])
              exact j17 _ ((if_neg hb22).trans ((if_neg hb36).trans ((if_pos hb40).trans ((if_neg hb41).trans (if_neg hb42))))).symm
        · refine hp (fun tq kq => XS.icmpYes X15.here hx rfl (pc0 := 165) (pc' := 175) rfl (hb hby at_165) rfl (feq hb40).2 (by decide) (by decide) kq) ?_
          show G T15 (mkF m 175 #[.val (.int p0), .val (.int p1), .val (.int p2), .val (.int p3), .val (.int p4), .val (.int p5), .val (.int z1), .val (.int z2), .val (.int z3), .val (.int z4), .val (.int z5), .val (.ref b6), .val (.int (16 : Int32)), .val (.int z10), .val (.int z12), .val (.int z14), .val (.int z16), .unset] [])
          refine hp (fun tq kq => XS.iload X15.here hx rfl (hb hby at_175) rfl kq) ?_
          show G T15 (mkF m 177 #[.val (.int p0), .val (.int p1), .val (.int p2), .val (.int p3), .val (.int p4), .val (.int p5), .val (.int z1), .val (.int z2), .val (.int z3), .val (.int z4), .val (.int z5), .val (.ref b6), .val (.int (16 : Int32)), .val (.int z10), .val (.int z12), .val (.int z14), .val (.int z16), .unset] [(.int z5)])
          refine hp (fun tq kq => XS.iconst X15.here hx rfl (hb hby at_177) kq) ?_
          show G T15 (mkF m 178 #[.val (.int p0), .val (.int p1), .val (.int p2), .val (.int p3), .val (.int p4), .val (.int p5), .val (.int z1), .val (.int z2), .val (.int z3), .val (.int z4), .val (.int z5), .val (.ref b6), .val (.int (16 : Int32)), .val (.int z10), .val (.int z12), .val (.int z14), .val (.int z16), .unset] [(.int (3 : Int32)), (.int z5)])
          by_cases hb45 : z5 = (3 : Int32)
          · refine hp (fun tq kq => XS.icmpNo X15.here hx rfl (hb hby at_178) rfl (teq hb45).2 kq) ?_
            show G T15 (mkF m 181 #[.val (.int p0), .val (.int p1), .val (.int p2), .val (.int p3), .val (.int p4), .val (.int p5), .val (.int z1), .val (.int z2), .val (.int z3), .val (.int z4), .val (.int z5), .val (.ref b6), .val (.int (16 : Int32)), .val (.int z10), .val (.int z12), .val (.int z14), .val (.int z16), .unset] [])
            refine hp (fun tq kq => XS.iload X15.here hx rfl (hb hby at_181) rfl kq) ?_
            show G T15 (mkF m 183 #[.val (.int p0), .val (.int p1), .val (.int p2), .val (.int p3), .val (.int p4), .val (.int p5), .val (.int z1), .val (.int z2), .val (.int z3), .val (.int z4), .val (.int z5), .val (.ref b6), .val (.int (16 : Int32)), .val (.int z10), .val (.int z12), .val (.int z14), .val (.int z16), .unset] [(.int z14)])
            refine hp (fun tq kq => XS.iload X15.here hx rfl (hb hby at_183) rfl kq) ?_
            show G T15 (mkF m 185 #[.val (.int p0), .val (.int p1), .val (.int p2), .val (.int p3), .val (.int p4), .val (.int p5), .val (.int z1), .val (.int z2), .val (.int z3), .val (.int z4), .val (.int z5), .val (.ref b6), .val (.int (16 : Int32)), .val (.int z10), .val (.int z12), .val (.int z14), .val (.int z16), .unset] [(.int z4), (.int z14)])
            by_cases hb46 : z14 = z4
            · refine hp (fun tq kq => XS.icmpNo X15.here hx rfl (hb hby at_185) rfl (teq hb46).2 kq) ?_
              show G T15 (mkF m 188 #[.val (.int p0), .val (.int p1), .val (.int p2), .val (.int p3), .val (.int p4), .val (.int p5), .val (.int z1), .val (.int z2), .val (.int z3), .val (.int z4), .val (.int z5), .val (.ref b6), .val (.int (16 : Int32)), .val (.int z10), .val (.int z12), .val (.int z14), .val (.int z16), .unset] [])
              refine hp (fun tq kq => XS.iload X15.here hx rfl (hb hby at_188) rfl kq) ?_
              show G T15 (mkF m 190 #[.val (.int p0), .val (.int p1), .val (.int p2), .val (.int p3), .val (.int p4), .val (.int p5), .val (.int z1), .val (.int z2), .val (.int z3), .val (.int z4), .val (.int z5), .val (.ref b6), .val (.int (16 : Int32)), .val (.int z10), .val (.int z12), .val (.int z14), .val (.int z16), .unset] [(.int z16)])
              refine hp (fun tq kq => XS.iload X15.here hx rfl (hb hby at_190) rfl kq) ?_
              show G T15 (mkF m 192 #[.val (.int p0), .val (.int p1), .val (.int p2), .val (.int p3), .val (.int p4), .val (.int p5), .val (.int z1), .val (.int z2), .val (.int z3), .val (.int z4), .val (.int z5), .val (.ref b6), .val (.int (16 : Int32)), .val (.int z10), .val (.int z12), .val (.int z14), .val (.int z16), .unset] [(.int z1), (.int z16)])
              by_cases hb47 : z16 = z1
              · refine hp (fun tq kq => XS.icmpNo X15.here hx rfl (hb hby at_192) rfl (teq hb47).2 kq) ?_
                show G T15 (mkF m 195 #[.val (.int p0), .val (.int p1), .val (.int p2), .val (.int p3), .val (.int p4), .val (.int p5), .val (.int z1), .val (.int z2), .val (.int z3), .val (.int z4), .val (.int z5), .val (.ref b6), .val (.int (16 : Int32)), .val (.int z10), .val (.int z12), .val (.int z14), .val (.int z16), .unset] [])
                refine hp (fun tq kq => XS.iconst X15.here hx rfl (hb hby at_195) kq) ?_
                show G T15 (mkF m 196 #[.val (.int p0), .val (.int p1), .val (.int p2), .val (.int p3), .val (.int p4), .val (.int p5), .val (.int z1), .val (.int z2), .val (.int z3), .val (.int z4), .val (.int z5), .val (.ref b6), .val (.int (16 : Int32)), .val (.int z10), .val (.int z12), .val (.int z14), .val (.int z16), .unset] [(.int (1 : Int32))])
                refine hp (fun tq kq => XS.goto X15.here hx rfl (pc0 := 196) (pc' := 200) rfl (hb hby at_196) (by decide) (by decide) kq) ?_
                show G T15 (mkF m 200 #[.val (.int p0), .val (.int p1), .val (.int p2), .val (.int p3), .val (.int p4), .val (.int p5), .val (.int z1), .val (.int z2), .val (.int z3), .val (.int z4), .val (.int z5), .val (.ref b6), .val (.int (16 : Int32)), .val (.int z10), .val (.int z12), .val (.int z14), .val (.int z16), .unset] [(.int (1 : Int32))])
                exact j17 _ ((if_neg hb22).trans ((if_neg hb36).trans ((if_neg hb40).trans ((if_pos hb45).trans ((if_pos hb46).trans (if_pos hb47)))))).symm
              · refine hp (fun tq kq => XS.icmpYes X15.here hx rfl (pc0 := 192) (pc' := 199) rfl (hb hby at_192) rfl (feq hb47).2 (by decide) (by decide) kq) ?_
                show G T15 (mkF m 199 #[.val (.int p0), .val (.int p1), .val (.int p2), .val (.int p3), .val (.int p4), .val (.int p5), .val (.int z1), .val (.int z2), .val (.int z3), .val (.int z4), .val (.int z5), .val (.ref b6), .val (.int (16 : Int32)), .val (.int z10), .val (.int z12), .val (.int z14), .val (.int z16), .unset] [])
                refine hp (fun tq kq => XS.iconst X15.here hx rfl (hb hby at_199) kq) ?_
                show G T15 (mkF m 200 #[.val (.int p0), .val (.int p1), .val (.int p2), .val (.int p3), .val (.int p4), .val (.int p5), .val (.int z1), .val (.int z2), .val (.int z3), .val (.int z4), .val (.int z5), .val (.ref b6), .val (.int (16 : Int32)), .val (.int z10), .val (.int z12), .val (.int z14), .val (.int z16), .unset] [(.int (0 : Int32))])
                exact j17 _ ((if_neg hb22).trans ((if_neg hb36).trans ((if_neg hb40).trans ((if_pos hb45).trans ((if_pos hb46).trans (if_neg hb47)))))).symm
            · refine hp (fun tq kq => XS.icmpYes X15.here hx rfl (pc0 := 185) (pc' := 199) rfl (hb hby at_185) rfl (feq hb46).2 (by decide) (by decide) kq) ?_
              show G T15 (mkF m 199 #[.val (.int p0), .val (.int p1), .val (.int p2), .val (.int p3), .val (.int p4), .val (.int p5), .val (.int z1), .val (.int z2), .val (.int z3), .val (.int z4), .val (.int z5), .val (.ref b6), .val (.int (16 : Int32)), .val (.int z10), .val (.int z12), .val (.int z14), .val (.int z16), .unset] [])
              refine hp (fun tq kq => XS.iconst X15.here hx rfl (hb hby at_199) kq) ?_
              show G T15 (mkF m 200 #[.val (.int p0), .val (.int p1), .val (.int p2), .val (.int p3), .val (.int p4), .val (.int p5), .val (.int z1), .val (.int z2), .val (.int z3), .val (.int z4), .val (.int z5), .val (.ref b6), .val (.int (16 : Int32)), .val (.int z10), .val (.int z12), .val (.int z14), .val (.int z16), .unset] [(.int (0 : Int32))])
              exact j17 _ ((if_neg hb22).trans ((if_neg hb36).trans ((if_neg hb40).trans ((if_pos hb45).trans (if_neg hb46))))).symm
          · refine hp (fun tq kq => XS.icmpYes X15.here hx rfl (pc0 := 178) (pc' := 199) rfl (hb hby at_178) rfl (feq hb45).2 (by decide) (by decide) kq) ?_
            show G T15 (mkF m 199 #[.val (.int p0), .val (.int p1), .val (.int p2), .val (.int p3), .val (.int p4), .val (.int p5), .val (.int z1), .val (.int z2), .val (.int z3), .val (.int z4), .val (.int z5), .val (.ref b6), .val (.int (16 : Int32)), .val (.int z10), .val (.int z12), .val (.int z14), .val (.int z16), .unset] [])
            refine hp (fun tq kq => XS.iconst X15.here hx rfl (hb hby at_199) kq) ?_
            show G T15 (mkF m 200 #[.val (.int p0), .val (.int p1), .val (.int p2), .val (.int p3), .val (.int p4), .val (.int p5), .val (.int z1), .val (.int z2), .val (.int z3), .val (.int z4), .val (.int z5), .val (.ref b6), .val (.int (16 : Int32)), .val (.int z10), .val (.int z12), .val (.int z14), .val (.int z16), .unset] [(.int (0 : Int32))])
            exact j17 _ ((if_neg hb22).trans ((if_neg hb36).trans ((if_neg hb40).trans (if_neg hb45)))).symm
  refine hp (fun tq kq => XS.iload X8.here hx rfl (hb hby at_53) rfl kq) ?_
  show G T8 (mkF m 55 #[.val (.int p0), .val (.int p1), .val (.int p2), .val (.int p3), .val (.int p4), .val (.int p5), .val (.int z1), .val (.int z2), .val (.int z3), .val (.int z4), .val (.int z5), .val (.ref b6), .unset, .unset, .unset, .unset, .unset, .unset] [(.int z5)])
  refine hp (fun tq kq => XS.iconst X8.here hx rfl (hb hby at_55) kq) ?_
  show G T8 (mkF m 56 #[.val (.int p0), .val (.int p1), .val (.int p2), .val (.int p3), .val (.int p4), .val (.int p5), .val (.int z1), .val (.int z2), .val (.int z3), .val (.int z4), .val (.int z5), .val (.ref b6), .unset, .unset, .unset, .unset, .unset, .unset] [(.int (1 : Int32)), (.int z5)])
  by_cases hb48 : z5 < (1 : Int32)
  · refine hp (fun tq kq => XS.icmpYes X8.here hx rfl (pc0 := 56) (pc' := 72) rfl (hb hby at_56) rfl (tlt hb48).1 (by decide) (by decide) kq) ?_
    show G T8 (mkF m 72 #[.val (.int p0), .val (.int p1), .val (.int p2), .val (.int p3), .val (.int p4), .val (.int p5), .val (.int z1), .val (.int z2), .val (.int z3), .val (.int z4), .val (.int z5), .val (.ref b6), .unset, .unset, .unset, .unset, .unset, .unset] [])
    refine hp (fun tq kq => XS.iload X8.here hx rfl (hb hby at_72) rfl kq) ?_
    show G T8 (mkF m 74 #[.val (.int p0), .val (.int p1), .val (.int p2), .val (.int p3), .val (.int p4), .val (.int p5), .val (.int z1), .val (.int z2), .val (.int z3), .val (.int z4), .val (.int z5), .val (.ref b6), .unset, .unset, .unset, .unset, .unset, .unset] [(.int z5)])
    refine hp (fun tq kq => XS.iconst X8.here hx rfl (hb hby at_74) kq) ?_
    show G T8 (mkF m 75 #[.val (.int p0), .val (.int p1), .val (.int p2), .val (.int p3), .val (.int p4), .val (.int p5), .val (.int z1), .val (.int z2), .val (.int z3), .val (.int z4), .val (.int z5), .val (.ref b6), .unset, .unset, .unset, .unset, .unset, .unset] [(.int (3 : Int32)), (.int z5)])
    refine hp (fun tq kq => XS.icmpYes X8.here hx rfl (pc0 := 75) (pc' := 91) rfl (hb hby at_75) rfl (feq (own_n3 hb48)).2 (by decide) (by decide) kq) ?_
    show G T8 (mkF m 91 #[.val (.int p0), .val (.int p1), .val (.int p2), .val (.int p3), .val (.int p4), .val (.int p5), .val (.int z1), .val (.int z2), .val (.int z3), .val (.int z4), .val (.int z5), .val (.ref b6), .unset, .unset, .unset, .unset, .unset, .unset] [])
    exact j91 T8 _ _ _ _ _ _ _ X8 rfl K8 N8b E8_b6 F8_keys_b6 F8_values_b6 F8_size_b6 V8_kb8 V8_vb8 (own_szne own_sr1) (own_ks1 hb48 hgood8)
  · refine hp (fun tq kq => XS.icmpNo X8.here hx rfl (hb hby at_56) rfl (flt hb48).1 kq) ?_
    show G T8 (mkF m 59 #[.val (.int p0), .val (.int p1), .val (.int p2), .val (.int p3), .val (.int p4), .val (.int p5), .val (.int z1), .val (.int z2), .val (.int z3), .val (.int z4), .val (.int z5), .val (.ref b6), .unset, .unset, .unset, .unset, .unset, .unset] [])
    refine hp (fun tq kq => XS.aload X8.here hx rfl (hb hby at_59) rfl rfl kq) ?_
    show G T8 (mkF m 61 #[.val (.int p0), .val (.int p1), .val (.int p2), .val (.int p3), .val (.int p4), .val (.int p5), .val (.int z1), .val (.int z2), .val (.int z3), .val (.int z4), .val (.int z5), .val (.ref b6), .unset, .unset, .unset, .unset, .unset, .unset] [(.ref b6)])
    refine hp (fun tq kq => XS.iload X8.here hx rfl (hb hby at_61) rfl kq) ?_
    show G T8 (mkF m 63 #[.val (.int p0), .val (.int p1), .val (.int p2), .val (.int p3), .val (.int p4), .val (.int p5), .val (.int z1), .val (.int z2), .val (.int z3), .val (.int z4), .val (.int z5), .val (.ref b6), .unset, .unset, .unset, .unset, .unset, .unset] [(.int z3), (.ref b6)])
    refine hp (fun tq kq => XS.iload X8.here hx rfl (hb hby at_63) rfl kq) ?_
    show G T8 (mkF m 65 #[.val (.int p0), .val (.int p1), .val (.int p2), .val (.int p3), .val (.int p4), .val (.int p5), .val (.int z1), .val (.int z2), .val (.int z3), .val (.int z4), .val (.int z5), .val (.ref b6), .unset, .unset, .unset, .unset, .unset, .unset] [(.int z4), (.int z3), (.ref b6)])
    refine hp (fun tq kq => XS.iload X8.here hx rfl (hb hby at_65) rfl kq) ?_
    show G T8 (mkF m 67 #[.val (.int p0), .val (.int p1), .val (.int p2), .val (.int p3), .val (.int p4), .val (.int p5), .val (.int z1), .val (.int z2), .val (.int z3), .val (.int z4), .val (.int z5), .val (.ref b6), .unset, .unset, .unset, .unset, .unset, .unset] [(.int p4), (.int z4), (.int z3), (.ref b6)])
    refine hp (fun tq kq => XS.iconst X8.here hx rfl (hb hby at_67) kq) ?_
    show G T8 (mkF m 68 #[.val (.int p0), .val (.int p1), .val (.int p2), .val (.int p3), .val (.int p4), .val (.int p5), .val (.int z1), .val (.int z2), .val (.int z3), .val (.int z4), .val (.int z5), .val (.ref b6), .unset, .unset, .unset, .unset, .unset, .unset] [(.int (1 : Int32)), (.int p4), (.int z4), (.int z3), (.ref b6)])
    refine hp (fun tq kq => XS.iushr X8.here hx rfl (hb hby at_68) rfl kq) ?_
    show G T8 (mkF m 69 #[.val (.int p0), .val (.int p1), .val (.int p2), .val (.int p3), .val (.int p4), .val (.int p5), .val (.int z1), .val (.int z2), .val (.int z3), .val (.int z4), .val (.int z5), .val (.ref b6), .unset, .unset, .unset, .unset, .unset, .unset] [(.int ((p4.toUInt32 >>> ((1 : Int32) &&& 31).toUInt32).toInt32)), (.int z4), (.int z3), (.ref b6)])
    obtain ⟨te50, hte50⟩ := own_te hgood8 (own_key z3 z4) (Nat.le_of_ble_eq_true rfl)
    obtain ⟨v49, T49, L49, X49, hQ49, st49⟩ := own_callV X8 hx hZ (y := (⟨"com/example/referent/referent/solver/IntPairMap", "put", "(III)V"⟩ : MethodName)) (rm := ({ frames := 2, cells := 0, slots := 0, locals := 33 } : Room)) 0 hown (hw _ (List.mem_of_getElem? (i := 16) rfl)) (hw _ (List.mem_of_getElem? (i := 17) rfl)) (hw _ (List.mem_of_getElem? (i := 19) rfl)) (hw _ (List.mem_of_getElem? (i := 18) rfl)) (hw _ (List.mem_of_getElem? (i := 3) rfl)) (hw _ (List.mem_of_getElem? (i := 20) rfl)) (by decide) (rm3 l Z a0 hw [] b6 z3 z4 ((p4.toUInt32 >>> ((1 : Int32) &&& 31).toUInt32).toInt32) kb8 vb8 (1 : Int32) fk8 fv8 te50 T8.heap n0 E8_b6 F8_keys_b6 F8_values_b6 F8_size_b6 V8_kb8 V8_vb8 g_b6 g_kb8 g_vb8 nn8 ne8_b6_kb8 ne8_b6_vb8 (own_nnz hz3) (own_nnz hz4) (own_nns1 _) hte50 (own_szok own_sr1 (by decide))) rfl E8_b6 (by decide) (by decide) (g := (mkF m 69 #[.val (.int p0), .val (.int p1), .val (.int p2), .val (.int p3), .val (.int p4), .val (.int p5), .val (.int z1), .val (.int z2), .val (.int z3), .val (.int z4), .val (.int z5), .val (.ref b6), .unset, .unset, .unset, .unset, .unset, .unset] [(.int ((p4.toUInt32 >>> ((1 : Int32) &&& 31).toUInt32).toInt32)), (.int z4), (.int z3), (.ref b6)])) rfl (by rw [hml]; rfl) [(.int z3), (.int z4), (.int ((p4.toUInt32 >>> ((1 : Int32) &&& 31).toUInt32).toInt32))] [] own_pd7 rfl rfl (by show 2 * 0 + _ ≤ _; exact Nat.le_of_eq rfl) (hb hby at_69) rfl (by decide) (by decide)
    obtain ⟨fk49, fv49, sz49, rv49, rfl, N49, Kc49, E49_b6, F49_keys_b6, F49_values_b6, F49_size_b6, V49_kb8, V49_vb8, hrel49, hsz49⟩ := hQ49
    have N49b := Fr.app N8b N49
    have V49_ka7 := V8_ka7.keep Kc49 (ninS (Ne.symm ne7_b6_ka7) (ninS ne8_ka7_kb8 (ninS ne8_ka7_vb8 nin0)))
    have V49_va7 := V8_va7.keep Kc49 (ninS (Ne.symm ne7_b6_va7) (ninS ne8_va7_kb8 (ninS ne8_va7_vb8 nin0)))
    have E49_b6 := E8_b6.keep Kc49
    have K49 := K8.trans Kc49 (allS (Or.inr sz_b6) (allS (Or.inr sz_kb8) (allS (Or.inr sz_vb8) all0)))
    have hszr49 := own_srn own_sr1 (by decide) hsz49
    have hgood49 := own_goodS hgood8 (own_keyne (own_nnz hz3) (own_nnz hz4)) hrel49
    refine hp st49 ?_
    show G T49 (mkF m 72 #[.val (.int p0), .val (.int p1), .val (.int p2), .val (.int p3), .val (.int p4), .val (.int p5), .val (.int z1), .val (.int z2), .val (.int z3), .val (.int z4), .val (.int z5), .val (.ref b6), .unset, .unset, .unset, .unset, .unset, .unset] [])
    refine hp (fun tq kq => XS.iload X49.here hx rfl (hb hby at_72) rfl kq) ?_
    show G T49 (mkF m 74 #[.val (.int p0), .val (.int p1), .val (.int p2), .val (.int p3), .val (.int p4), .val (.int p5), .val (.int z1), .val (.int z2), .val (.int z3), .val (.int z4), .val (.int z5), .val (.ref b6), .unset, .unset, .unset, .unset, .unset, .unset] [(.int z5)])
    refine hp (fun tq kq => XS.iconst X49.here hx rfl (hb hby at_74) kq) ?_
    show G T49 (mkF m 75 #[.val (.int p0), .val (.int p1), .val (.int p2), .val (.int p3), .val (.int p4), .val (.int p5), .val (.int z1), .val (.int z2), .val (.int z3), .val (.int z4), .val (.int z5), .val (.ref b6), .unset, .unset, .unset, .unset, .unset, .unset] [(.int (3 : Int32)), (.int z5)])
    by_cases hb51 : z5 = (3 : Int32)
    · refine hp (fun tq kq => XS.icmpNo X49.here hx rfl (hb hby at_75) rfl (teq hb51).2 kq) ?_
      show G T49 (mkF m 78 #[.val (.int p0), .val (.int p1), .val (.int p2), .val (.int p3), .val (.int p4), .val (.int p5), .val (.int z1), .val (.int z2), .val (.int z3), .val (.int z4), .val (.int z5), .val (.ref b6), .unset, .unset, .unset, .unset, .unset, .unset] [])
      refine hp (fun tq kq => XS.aload X49.here hx rfl (hb hby at_78) rfl rfl kq) ?_
      show G T49 (mkF m 80 #[.val (.int p0), .val (.int p1), .val (.int p2), .val (.int p3), .val (.int p4), .val (.int p5), .val (.int z1), .val (.int z2), .val (.int z3), .val (.int z4), .val (.int z5), .val (.ref b6), .unset, .unset, .unset, .unset, .unset, .unset] [(.ref b6)])
      refine hp (fun tq kq => XS.iload X49.here hx rfl (hb hby at_80) rfl kq) ?_
      show G T49 (mkF m 82 #[.val (.int p0), .val (.int p1), .val (.int p2), .val (.int p3), .val (.int p4), .val (.int p5), .val (.int z1), .val (.int z2), .val (.int z3), .val (.int z4), .val (.int z5), .val (.ref b6), .unset, .unset, .unset, .unset, .unset, .unset] [(.int z4), (.ref b6)])
      refine hp (fun tq kq => XS.iload X49.here hx rfl (hb hby at_82) rfl kq) ?_
      show G T49 (mkF m 84 #[.val (.int p0), .val (.int p1), .val (.int p2), .val (.int p3), .val (.int p4), .val (.int p5), .val (.int z1), .val (.int z2), .val (.int z3), .val (.int z4), .val (.int z5), .val (.ref b6), .unset, .unset, .unset, .unset, .unset, .unset] [(.int z1), (.int z4), (.ref b6)])
      refine hp (fun tq kq => XS.iload X49.here hx rfl (hb hby at_84) rfl kq) ?_
      show G T49 (mkF m 86 #[.val (.int p0), .val (.int p1), .val (.int p2), .val (.int p3), .val (.int p4), .val (.int p5), .val (.int z1), .val (.int z2), .val (.int z3), .val (.int z4), .val (.int z5), .val (.ref b6), .unset, .unset, .unset, .unset, .unset, .unset] [(.int p4), (.int z1), (.int z4), (.ref b6)])
      refine hp (fun tq kq => XS.iconst X49.here hx rfl (hb hby at_86) kq) ?_
      show G T49 (mkF m 87 #[.val (.int p0), .val (.int p1), .val (.int p2), .val (.int p3), .val (.int p4), .val (.int p5), .val (.int z1), .val (.int z2), .val (.int z3), .val (.int z4), .val (.int z5), .val (.ref b6), .unset, .unset, .unset, .unset, .unset, .unset] [(.int (2 : Int32)), (.int p4), (.int z1), (.int z4), (.ref b6)])
      refine hp (fun tq kq => XS.iushr X49.here hx rfl (hb hby at_87) rfl kq) ?_
      show G T49 (mkF m 88 #[.val (.int p0), .val (.int p1), .val (.int p2), .val (.int p3), .val (.int p4), .val (.int p5), .val (.int z1), .val (.int z2), .val (.int z3), .val (.int z4), .val (.int z5), .val (.ref b6), .unset, .unset, .unset, .unset, .unset, .unset] [(.int ((p4.toUInt32 >>> ((2 : Int32) &&& 31).toUInt32).toInt32)), (.int z1), (.int z4), (.ref b6)])
      obtain ⟨te53, hte53⟩ := own_te hgood49 (own_key z4 z1) (Nat.le_of_ble_eq_true rfl)
      obtain ⟨v52, T52, L52, X52, hQ52, st52⟩ := own_callV X49 hx hZ (y := (⟨"com/example/referent/referent/solver/IntPairMap", "put", "(III)V"⟩ : MethodName)) (rm := ({ frames := 2, cells := 0, slots := 0, locals := 33 } : Room)) 0 hown (hw _ (List.mem_of_getElem? (i := 16) rfl)) (hw _ (List.mem_of_getElem? (i := 17) rfl)) (hw _ (List.mem_of_getElem? (i := 19) rfl)) (hw _ (List.mem_of_getElem? (i := 18) rfl)) (hw _ (List.mem_of_getElem? (i := 3) rfl)) (hw _ (List.mem_of_getElem? (i := 20) rfl)) (by decide) (rm3 l Z a0 hw [] b6 z4 z1 ((p4.toUInt32 >>> ((2 : Int32) &&& 31).toUInt32).toInt32) kb8 vb8 sz49 fk49 fv49 te53 T49.heap n0 E49_b6 F49_keys_b6 F49_values_b6 F49_size_b6 V49_kb8 V49_vb8 g_b6 g_kb8 g_vb8 nn8 ne8_b6_kb8 ne8_b6_vb8 (own_nnz hz4) (own_nnz hz1) (own_nns2 _) hte53 (own_szok hszr49 (by decide))) rfl E49_b6 (by decide) (by decide) (g := (mkF m 88 #[.val (.int p0), .val (.int p1), .val (.int p2), .val (.int p3), .val (.int p4), .val (.int p5), .val (.int z1), .val (.int z2), .val (.int z3), .val (.int z4), .val (.int z5), .val (.ref b6), .unset, .unset, .unset, .unset, .unset, .unset] [(.int ((p4.toUInt32 >>> ((2 : Int32) &&& 31).toUInt32).toInt32)), (.int z1), (.int z4), (.ref b6)])) rfl (by rw [hml]; rfl) [(.int z4), (.int z1), (.int ((p4.toUInt32 >>> ((2 : Int32) &&& 31).toUInt32).toInt32))] [] own_pd7 rfl rfl (by show 2 * 0 + _ ≤ _; exact Nat.le_of_eq rfl) (hb hby at_88) rfl (by decide) (by decide)
      obtain ⟨fk52, fv52, sz52, rv52, rfl, N52, Kc52, E52_b6, F52_keys_b6, F52_values_b6, F52_size_b6, V52_kb8, V52_vb8, hrel52, hsz52⟩ := hQ52
      have N52b := Fr.app N49b N52
      have V52_ka7 := V49_ka7.keep Kc52 (ninS (Ne.symm ne7_b6_ka7) (ninS ne8_ka7_kb8 (ninS ne8_ka7_vb8 nin0)))
      have V52_va7 := V49_va7.keep Kc52 (ninS (Ne.symm ne7_b6_va7) (ninS ne8_va7_kb8 (ninS ne8_va7_vb8 nin0)))
      have E52_b6 := E49_b6.keep Kc52
      have K52 := K49.trans Kc52 (allS (Or.inr sz_b6) (allS (Or.inr sz_kb8) (allS (Or.inr sz_vb8) all0)))
      have hszr52 := own_srn hszr49 (by decide) hsz52
      have hgood52 := own_goodS hgood49 (own_keyne (own_nnz hz4) (own_nnz hz1)) hrel52
      refine hp st52 ?_
      show G T52 (mkF m 91 #[.val (.int p0), .val (.int p1), .val (.int p2), .val (.int p3), .val (.int p4), .val (.int p5), .val (.int z1), .val (.int z2), .val (.int z3), .val (.int z4), .val (.int z5), .val (.ref b6), .unset, .unset, .unset, .unset, .unset, .unset] [])
      exact j91 T52 _ _ _ _ _ _ _ X52 rfl K52 N52b E52_b6 F52_keys_b6 F52_values_b6 F52_size_b6 V52_kb8 V52_vb8 (own_szne hszr52) (own_ks3 hb48 hb51 hgood52)
    · refine hp (fun tq kq => XS.icmpYes X49.here hx rfl (pc0 := 75) (pc' := 91) rfl (hb hby at_75) rfl (feq hb51).2 (by decide) (by decide) kq) ?_
      show G T49 (mkF m 91 #[.val (.int p0), .val (.int p1), .val (.int p2), .val (.int p3), .val (.int p4), .val (.int p5), .val (.int z1), .val (.int z2), .val (.int z3), .val (.int z4), .val (.int z5), .val (.ref b6), .unset, .unset, .unset, .unset, .unset, .unset] [])
      exact j91 T49 _ _ _ _ _ _ _ X49 rfl K49 N49b E49_b6 F49_keys_b6 F49_values_b6 F49_size_b6 V49_kb8 V49_vb8 (own_szne hszr49) (own_ks2 hb48 hb51 hgood49)
set_option maxRecDepth 65536 in
set_option maxHeartbeats 40000000 in
theorem comes_1 {Post : Tables → Env → Array Value → State → Outcome → State → Prop} (hpost : ∀ tb e args s v u, (limb_1_1.after args s (.returned v) u = true ∧ limb_1_2.after args s (.returned v) u = true ∧ True) → FrameEnd s (.returned v) u (Jvm.fieldLocs frame_1_writes args s ++ Jvm.arrayLocs frame_1_arrays args s ++ Jvm.staticLocs frame_1_statics s) 24 192 → Post tb e args s (.returned v) u) :
    ArmFor flags0 classFile x code maxLocals ret World_1 tables_1 room_1 Calls_1 rest_1 Pre_1 Post := by
  intro l hfl _ _ p e ha hc hk s m args below hf hA hF happ hP
  obtain ⟨hcalls, hrest, hpre⟩ := hP
  obtain ⟨-, -, -, hnamed, -, -, -, hat⟩ := (Spec.applies_iff hf).mp happ
  obtain ⟨hg, hn⟩ := and_e (Cond.before_iff.mp (show (Jvm.Cond.and given_1 narrow_1).before args s = true from hpre))
  obtain ⟨hcnt, hgs⟩ := and_e hg
  obtain ⟨ha0, hgs⟩ := and_e hgs
  obtain ⟨ha1, hgs⟩ := and_e hgs
  obtain ⟨ha2, hgs⟩ := and_e hgs
  obtain ⟨ha3, hgs⟩ := and_e hgs
  obtain ⟨ha4, hgs⟩ := and_e hgs
  have ha5 := hgs
  obtain ⟨w0, w1, w2, w3, w4, w5, rfl⟩ : ∃ w0 w1 w2 w3 w4 w5 : Value, args = #[w0, w1, w2, w3, w4, w5] := by
    have hs : args.size = 6 := by simpa [Cond.value, given_1] using hcnt
    obtain ⟨L⟩ := args
    match L, hs with
    | [w0, w1, w2, w3, w4, w5], _ => exact ⟨w0, w1, w2, w3, w4, w5, rfl⟩
  have hw := fun d (hd : d ∈ tables_1) => atoms_spec (ws := Jvm.Cond.code x code maxLocals ret :: tables_1) hat d (List.mem_cons_of_mem _ hd)
  obtain ⟨i0, ei0⟩ := is_v ha0
  obtain rfl : w0 = (.int i0) := Option.some.inj ei0
  obtain ⟨i1, ei1⟩ := is_v ha1
  obtain rfl : w1 = (.int i1) := Option.some.inj ei1
  obtain ⟨i2, ei2⟩ := is_v ha2
  obtain rfl : w2 = (.int i2) := Option.some.inj ei2
  obtain ⟨i3, ei3⟩ := is_v ha3
  obtain rfl : w3 = (.int i3) := Option.some.inj ei3
  obtain ⟨i4, ei4⟩ := is_v ha4
  obtain rfl : w4 = (.int i4) := Option.some.inj ei4
  obtain ⟨i5, ei5⟩ := is_v ha5
  obtain rfl : w5 = (.int i5) := Option.some.inj ei5
  obtain ⟨n, o, h1, h2, h3, _, L, rfl, ⟨rfl, N⟩, hq⟩ := rm0 l s _ hw tables_1 i0 i1 i2 i3 i4 i5 s.heap s.heap.size (Nat.le_refl _) p e ha hc hk s m _ below hf ((Spec.applies_iff_loose hf).mp happ).1 ⟨rfl, State.Warmed39.refl s, rfl⟩ trivial
  exact ⟨n, _, h1, h2, h3, hpost _ _ _ _ _ _ ⟨Cond.after_iff.mpr rfl, Cond.after_iff.mpr (eq_i res_at (Term.int_eval (1)) rfl), trivial⟩ ⟨hq.1, hq.2.1, (hq.2.2.sift fun y hy => Or.inr (N y hy)).mono (by decide) (by decide)⟩⟩
theorem main_1_1 : Claimed_1_1 := comes_1 fun _ _ _ _ _ _ h hF => ⟨h.1, hF⟩
theorem main_1_2 : Claimed_1_2 := comes_1 fun _ _ _ _ _ _ h hF => ⟨h.2.1, hF⟩
end Jvm.Pilot.@@N@@
namespace Jvm.Pilot.@@N@@
open Jvm Jvm.ClassFile Sem Op Lib Jvm.Free Jvm.Stand Jvm.Pilot.@@N@@.Jvm.D
/-! MADE BY PROGRAM (witnessworld.py) out of the Statement's table words and the real class files: 13 classes; the members and pool entries that the words name. The judged class is class 1, her method 1. -/
namespace start1
open Jvm.ClassFile
def u (s : String) : CpInfo := .utf8 (stringToUtf16 s)
/-- a pool by its gaps: so many unusable entries, then the entry; so many at the end -/
def gap : Nat → List CpInfo → List CpInfo
  | 0, r => r
  | n + 1, r => .unusable :: gap n r
def poolList (es : List (Nat × CpInfo)) (last : Nat) : List CpInfo := es.foldr (fun e r => gap e.1 (e.2 :: r)) (gap last [])
def pool (es : List (Nat × CpInfo)) (last : Nat) : Array CpInfo := ⟨poolList es last⟩
def fileOf (pool : Array CpInfo) (this : Nat) (attrs : Array Attribute := #[]) (ms : Array MethodInfo := #[]) (fl : Nat := 33) (sup : Nat := 0) (ifs : Array Nat := #[]) (fds : Array FieldInfo := #[]) : ClassFile where
  minorVersion := 0
  majorVersion := 65
  constantPool := pool
  accessFlags := fl
  thisClass := this
  superClass := sup
  interfaces := ifs
  fields := fds
  methods := ms
  attributes := attrs
def plain (name : String) (sup : Option ClassId) : Class where
  name := name
  kind := .ordinary
  loader := none
  accessFlags := 33
  super := sup
  interfaces := #[]
  cf := none
  fields := #[]
  methods := #[]
  instanceTypes := #[]
  staticTypes := #[]
  resolved := #[]
  callSites := []
  init := .initialized
  statics := none
  mirror := none

def pool0 : Array CpInfo := pool [(5, u "<init>"), (0, u "()V"), (1, .class_ 10), (1, u "java/lang/Object")] 113

def k0c0 : Code := { maxStack := 0, maxLocals := 1, code := object_method_1_code, exceptionTable := #[], attributes := #[] }
def k0m0 : Method := { name := "<init>", desc := "()V", sig := { parameters := [], returnType := none }, accessFlags := 1, code := some k0c0 }
/-- java/lang/Object -/
def k0 : Class := { plain "java/lang/Object" none with
  accessFlags := 33
  interfaces := #[]
  cf := some (fileOf pool0 8 #[] #[{ accessFlags := 1, nameIndex := 5, descriptorIndex := 6, attributes := #[] }] 33 0 #[] #[])
  fields := #[]
  methods := #[k0m0]
  instanceTypes := #[]
  staticTypes := #[]
  resolved := Array.replicate 124 none
  statics := none }

def pool1 : Array CpInfo := pool [(2, .class_ 4), (0, .nameAndType 5 6), (0, u "java/lang/Object"), (0, u "<init>"), (0, u "()V"), (0, .integer 2147483647), (0, .class_ 9), (0, u "com/example/referent/referent/solver/IntPairMap"), (0, .methodref 8 3), (0, .methodref 8 12), (0, .nameAndType 13 14), (0, u "put"), (0, u "(III)V"), (0, .methodref 8 16), (0, .nameAndType 17 18), (0, u "slots"), (0, u "()I"), (0, .methodref 8 20), (0, .nameAndType 21 22), (0, u "taken"), (0, u "(I)Z"), (0, .methodref 8 24), (0, .nameAndType 25 26), (0, u "first"), (0, u "(I)I"), (0, .methodref 8 28), (0, .nameAndType 29 26), (0, u "second"), (0, .methodref 8 31), (0, .nameAndType 32 33), (0, u "get"), (0, u "(II)I"), (0, .methodref 8 35), (0, .nameAndType 36 26), (0, u "value"), (0, .class_ 38), (0, u "com/example/referent/referent/solver/IntPairMapTakenPinLaw"), (2, u "law"), (0, u "(IIIIII)Z")] 3

def k1m0 : Method := { name := "<init>", desc := "()V", sig := { parameters := [], returnType := none }, accessFlags := 1, code := none }
def k1c1 : Code := { maxStack := 5, maxLocals := 18, code := code, exceptionTable := #[], attributes := #[] }
def k1m1 : Method := { name := "law", desc := "(IIIIII)Z", sig := { parameters := [.int, .int, .int, .int, .int, .int], returnType := some .boolean }, accessFlags := 9, code := some k1c1 }
/-- com/example/referent/referent/solver/IntPairMapTakenPinLaw -/
def k1 : Class := { plain "com/example/referent/referent/solver/IntPairMapTakenPinLaw" (some 0) with
  accessFlags := 49
  interfaces := #[]
  cf := some (fileOf pool1 37 #[] #[{ accessFlags := 1, nameIndex := 5, descriptorIndex := 6, attributes := #[] }, { accessFlags := 9, nameIndex := 41, descriptorIndex := 42, attributes := #[] }] 49 2 #[] #[])
  fields := #[]
  methods := #[k1m0, k1m1]
  instanceTypes := #[]
  staticTypes := #[]
  resolved := Array.replicate 46 none
  statics := none }

def pool2 : Array CpInfo := pool [(1, .methodref 2 3), (0, .class_ 4), (0, .nameAndType 5 6), (0, u "java/lang/Object"), (0, u "<init>"), (0, u "()V"), (0, .fieldref 8 9), (0, .class_ 10), (0, .nameAndType 11 12), (0, u "com/example/referent/referent/solver/IntPairMap"), (0, u "keys"), (0, u "[J"), (0, .fieldref 8 14), (0, .nameAndType 15 16), (0, u "values"), (0, u "[I"), (0, .fieldref 8 18), (0, .nameAndType 19 20), (0, u "size"), (0, u "I"), (0, .methodref 8 22), (0, .nameAndType 23 24), (0, u "key"), (0, u "(II)J"), (0, .methodref 8 26), (0, .nameAndType 27 28), (0, u "slot"), (0, u "(JI)I"), (0, .long 18446744073709551615), (10, .methodref 41 42), (0, .class_ 43), (0, .nameAndType 44 45), (0, u "java/lang/Math"), (0, u "max"), (0, u "(II)I"), (0, .methodref 8 47), (0, .nameAndType 48 49), (0, u "resize"), (0, u "(I)V"), (0, .methodref 8 51), (0, .nameAndType 52 53), (0, u "place"), (0, u "(JI)Z"), (2, .methodref 57 58), (0, .class_ 59), (0, .nameAndType 60 61), (0, u "java/util/Arrays"), (0, u "fill"), (0, u "([JJ)V"), (0, .long 11400714819323198485), (1, u "ABSENT"), (2, u "FREE"), (0, u "J"), (0, u "FIRST_CAPACITY"), (1, u "SPREAD"), (2, u "()I"), (0, u "get"), (1, u "put"), (0, u "(III)V"), (0, u "slots"), (0, u "taken"), (0, u "(I)Z"), (0, u "first"), (0, u "(I)I"), (0, u "second"), (0, u "value")] 19

def k2c0 : Code := { maxStack := 2, maxLocals := 1, code := prog_74_method_1_code, exceptionTable := #[], attributes := #[] }
def k2m0 : Method := { name := "<init>", desc := "()V", sig := { parameters := [], returnType := none }, accessFlags := 0, code := some k2c0 }
def k2c1 : Code := { maxStack := 4, maxLocals := 7, code := prog_74_method_3_code, exceptionTable := #[], attributes := #[] }
def k2m1 : Method := { name := "get", desc := "(II)I", sig := { parameters := [.int, .int], returnType := some .int }, accessFlags := 0, code := some k2c1 }
def k2c2 : Code := { maxStack := 5, maxLocals := 4, code := prog_74_method_4_code, exceptionTable := #[], attributes := #[] }
def k2m2 : Method := { name := "put", desc := "(III)V", sig := { parameters := [.int, .int, .int], returnType := none }, accessFlags := 0, code := some k2c2 }
def k2c3 : Code := { maxStack := 1, maxLocals := 1, code := prog_74_method_5_code, exceptionTable := #[], attributes := #[] }
def k2m3 : Method := { name := "slots", desc := "()I", sig := { parameters := [], returnType := some .int }, accessFlags := 0, code := some k2c3 }
def k2c4 : Code := { maxStack := 4, maxLocals := 2, code := prog_74_method_6_code, exceptionTable := #[], attributes := #[] }
def k2m4 : Method := { name := "taken", desc := "(I)Z", sig := { parameters := [.int], returnType := some .boolean }, accessFlags := 0, code := some k2c4 }
def k2c5 : Code := { maxStack := 3, maxLocals := 2, code := prog_74_method_7_code, exceptionTable := #[], attributes := #[] }
def k2m5 : Method := { name := "first", desc := "(I)I", sig := { parameters := [.int], returnType := some .int }, accessFlags := 0, code := some k2c5 }
def k2c6 : Code := { maxStack := 2, maxLocals := 2, code := prog_74_method_8_code, exceptionTable := #[], attributes := #[] }
def k2m6 : Method := { name := "second", desc := "(I)I", sig := { parameters := [.int], returnType := some .int }, accessFlags := 0, code := some k2c6 }
def k2c7 : Code := { maxStack := 2, maxLocals := 2, code := prog_74_method_9_code, exceptionTable := #[], attributes := #[] }
def k2m7 : Method := { name := "value", desc := "(I)I", sig := { parameters := [.int], returnType := some .int }, accessFlags := 0, code := some k2c7 }
def k2c8 : Code := { maxStack := 4, maxLocals := 6, code := prog_74_method_10_code, exceptionTable := #[], attributes := #[] }
def k2m8 : Method := { name := "place", desc := "(JI)Z", sig := { parameters := [.long, .int], returnType := some .boolean }, accessFlags := 2, code := some k2c8 }
def k2c9 : Code := { maxStack := 5, maxLocals := 5, code := prog_74_method_11_code, exceptionTable := #[], attributes := #[] }
def k2m9 : Method := { name := "resize", desc := "(I)V", sig := { parameters := [.int], returnType := none }, accessFlags := 2, code := some k2c9 }
def k2c10 : Code := { maxStack := 4, maxLocals := 2, code := prog_74_method_12_code, exceptionTable := #[], attributes := #[] }
def k2m10 : Method := { name := "key", desc := "(II)J", sig := { parameters := [.int, .int], returnType := some .long }, accessFlags := 10, code := some k2c10 }
def k2c11 : Code := { maxStack := 5, maxLocals := 5, code := prog_74_method_13_code, exceptionTable := #[], attributes := #[] }
def k2m11 : Method := { name := "slot", desc := "(JI)I", sig := { parameters := [.long, .int], returnType := some .int }, accessFlags := 10, code := some k2c11 }
/-- com/example/referent/referent/solver/IntPairMap -/
def k2 : Class := { plain "com/example/referent/referent/solver/IntPairMap" (some 0) with
  accessFlags := 48
  interfaces := #[]
  cf := some (fileOf pool2 8 #[] #[{ accessFlags := 0, nameIndex := 5, descriptorIndex := 6, attributes := #[] }, { accessFlags := 0, nameIndex := 75, descriptorIndex := 45, attributes := #[] }, { accessFlags := 0, nameIndex := 77, descriptorIndex := 78, attributes := #[] }, { accessFlags := 0, nameIndex := 79, descriptorIndex := 74, attributes := #[] }, { accessFlags := 0, nameIndex := 80, descriptorIndex := 81, attributes := #[] }, { accessFlags := 0, nameIndex := 82, descriptorIndex := 83, attributes := #[] }, { accessFlags := 0, nameIndex := 84, descriptorIndex := 83, attributes := #[] }, { accessFlags := 0, nameIndex := 85, descriptorIndex := 83, attributes := #[] }, { accessFlags := 2, nameIndex := 52, descriptorIndex := 53, attributes := #[] }, { accessFlags := 2, nameIndex := 48, descriptorIndex := 49, attributes := #[] }, { accessFlags := 10, nameIndex := 23, descriptorIndex := 24, attributes := #[] }, { accessFlags := 10, nameIndex := 27, descriptorIndex := 28, attributes := #[] }] 48 2 #[] #[{ accessFlags := 24, nameIndex := 64, descriptorIndex := 20, attributes := #[] }, { accessFlags := 26, nameIndex := 67, descriptorIndex := 68, attributes := #[] }, { accessFlags := 26, nameIndex := 69, descriptorIndex := 20, attributes := #[] }, { accessFlags := 26, nameIndex := 71, descriptorIndex := 68, attributes := #[] }, { accessFlags := 2, nameIndex := 11, descriptorIndex := 12, attributes := #[] }, { accessFlags := 2, nameIndex := 15, descriptorIndex := 16, attributes := #[] }, { accessFlags := 2, nameIndex := 19, descriptorIndex := 20, attributes := #[] }])
  fields := #[{ name := "ABSENT", type := .int, accessFlags := 24, slot := 0, constantValue := 0 }, { name := "FREE", type := .long, accessFlags := 26, slot := 1, constantValue := 0 }, { name := "FIRST_CAPACITY", type := .int, accessFlags := 26, slot := 2, constantValue := 0 }, { name := "SPREAD", type := .long, accessFlags := 26, slot := 3, constantValue := 0 }, { name := "keys", type := (.array .long), accessFlags := 2, slot := 0, constantValue := 0 }, { name := "values", type := (.array .int), accessFlags := 2, slot := 1, constantValue := 0 }, { name := "size", type := .int, accessFlags := 2, slot := 2, constantValue := 0 }]
  methods := #[k2m0, k2m1, k2m2, k2m3, k2m4, k2m5, k2m6, k2m7, k2m8, k2m9, k2m10, k2m11]
  instanceTypes := #[(.array .long), (.array .int), .int]
  staticTypes := #[.int, .long, .int, .long]
  resolved := Array.replicate 105 none
  statics := none }

def pool3 : Array CpInfo := pool [(1, .class_ 2), (0, u "java/lang/Math"), (1, .class_ 6), (1, u "java/lang/Object"), (0, u "<init>"), (0, u "()V"), (89, .class_ 100), (1, u "java/lang/Math$RandomNumberGeneratorHolder"), (71, u "negativeZeroFloatBits"), (0, u "J"), (2, u "negativeZeroDoubleBits"), (21, u "max"), (46, u "$assertionsDisabled"), (0, u "Z"), (88, u "(II)I"), (2, u "twoToTheDoubleScaleDown"), (0, u "D"), (4, u "twoToTheDoubleScaleUp"), (9, u "E"), (3, u "PI"), (2, u "TAU"), (2, u "DEGREES_TO_RADIANS"), (0, u "RADIANS_TO_DEGREES")] 94

def k3m0 : Method := { name := "<init>", desc := "()V", sig := { parameters := [], returnType := none }, accessFlags := 2, code := none }
def k3c1 : Code := { maxStack := 2, maxLocals := 2, code := jdk_29_method_65_code, exceptionTable := #[], attributes := #[] }
def k3m1 : Method := { name := "max", desc := "(II)I", sig := { parameters := [.int, .int], returnType := some .int }, accessFlags := 9, code := some k3c1 }
/-- java/lang/Math -/
def k3 : Class := { plain "java/lang/Math" (some 0) with
  accessFlags := 49
  interfaces := #[]
  cf := some (fileOf pool3 1 #[.nestMembers #[98]] #[{ accessFlags := 2, nameIndex := 7, descriptorIndex := 8, attributes := #[] }, { accessFlags := 9, nameIndex := 198, descriptorIndex := 335, attributes := #[] }] 49 4 #[] #[{ accessFlags := 25, nameIndex := 354, descriptorIndex := 339, attributes := #[] }, { accessFlags := 25, nameIndex := 358, descriptorIndex := 339, attributes := #[] }, { accessFlags := 25, nameIndex := 361, descriptorIndex := 339, attributes := #[] }, { accessFlags := 26, nameIndex := 364, descriptorIndex := 339, attributes := #[] }, { accessFlags := 26, nameIndex := 365, descriptorIndex := 339, attributes := #[] }, { accessFlags := 26, nameIndex := 172, descriptorIndex := 173, attributes := #[] }, { accessFlags := 26, nameIndex := 176, descriptorIndex := 173, attributes := #[] }, { accessFlags := 8, nameIndex := 344, descriptorIndex := 339, attributes := #[] }, { accessFlags := 8, nameIndex := 338, descriptorIndex := 339, attributes := #[] }, { accessFlags := 4120, nameIndex := 245, descriptorIndex := 246, attributes := #[] }])
  fields := #[{ name := "E", type := .double, accessFlags := 25, slot := 0, constantValue := 0 }, { name := "PI", type := .double, accessFlags := 25, slot := 1, constantValue := 0 }, { name := "TAU", type := .double, accessFlags := 25, slot := 2, constantValue := 0 }, { name := "DEGREES_TO_RADIANS", type := .double, accessFlags := 26, slot := 3, constantValue := 0 }, { name := "RADIANS_TO_DEGREES", type := .double, accessFlags := 26, slot := 4, constantValue := 0 }, { name := "negativeZeroFloatBits", type := .long, accessFlags := 26, slot := 5, constantValue := 0 }, { name := "negativeZeroDoubleBits", type := .long, accessFlags := 26, slot := 6, constantValue := 0 }, { name := "twoToTheDoubleScaleUp", type := .double, accessFlags := 8, slot := 7, constantValue := 0 }, { name := "twoToTheDoubleScaleDown", type := .double, accessFlags := 8, slot := 8, constantValue := 0 }, { name := "$assertionsDisabled", type := .boolean, accessFlags := 4120, slot := 9, constantValue := 0 }]
  methods := #[k3m0, k3m1]
  instanceTypes := #[]
  staticTypes := #[.double, .double, .double, .double, .double, .long, .long, .double, .double, .boolean]
  resolved := Array.replicate 460 none
  statics := none }

def pool4 : Array CpInfo := pool [(2, .class_ 4), (1, u "java/lang/Object"), (0, u "<init>"), (0, u "()V"), (7, .class_ 16), (1, u "java/util/Arrays"), (57, .class_ 76), (1, u "java/util/Arrays$NaturalOrder"), (36, .class_ 115), (1, u "java/util/Arrays$LegacyMergeSort"), (1, u "Z"), (257, .class_ 376), (0, u "java/util/Arrays$ArrayList"), (68, u "$assertionsDisabled"), (269, u "MIN_ARRAY_SORT_GRAN"), (0, u "I"), (2, u "INSERTIONSORT_THRESHOLD"), (120, u "fill"), (0, u "([JJ)V"), (133, .class_ 976), (0, u "java/util/Arrays$ArrayItr")] 52

def k4m0 : Method := { name := "<init>", desc := "()V", sig := { parameters := [], returnType := none }, accessFlags := 2, code := none }
def k4c1 : Code := { maxStack := 4, maxLocals := 5, code := jdk_65_method_101_code, exceptionTable := #[], attributes := #[] }
def k4m1 : Method := { name := "fill", desc := "([JJ)V", sig := { parameters := [(.array .long), .long], returnType := none }, accessFlags := 9, code := some k4c1 }
/-- java/util/Arrays -/
def k4 : Class := { plain "java/util/Arrays" (some 0) with
  accessFlags := 49
  interfaces := #[]
  cf := some (fileOf pool4 14 #[.nestMembers #[975, 375, 113, 74]] #[{ accessFlags := 2, nameIndex := 5, descriptorIndex := 6, attributes := #[] }, { accessFlags := 9, nameIndex := 840, descriptorIndex := 841, attributes := #[] }] 49 2 #[] #[{ accessFlags := 26, nameIndex := 715, descriptorIndex := 716, attributes := #[] }, { accessFlags := 26, nameIndex := 719, descriptorIndex := 716, attributes := #[] }, { accessFlags := 4120, nameIndex := 445, descriptorIndex := 117, attributes := #[] }])
  fields := #[{ name := "MIN_ARRAY_SORT_GRAN", type := .int, accessFlags := 26, slot := 0, constantValue := 0 }, { name := "INSERTIONSORT_THRESHOLD", type := .int, accessFlags := 26, slot := 1, constantValue := 0 }, { name := "$assertionsDisabled", type := .boolean, accessFlags := 4120, slot := 2, constantValue := 0 }]
  methods := #[k4m0, k4m1]
  instanceTypes := #[]
  staticTypes := #[.int, .int, .boolean]
  resolved := Array.replicate 1029 none
  statics := none }

def pool5 : Array CpInfo := pool [(1, u "java/lang/Cloneable"), (0, .class_ 1), (0, u "java/lang/Object"), (0, .class_ 3)] 3

/-- java/lang/Cloneable -/
def k5 : Class := { plain "java/lang/Cloneable" (some 0) with
  accessFlags := 1537
  interfaces := #[]
  cf := some (fileOf pool5 2 #[] #[] 1537 4 #[] #[])
  fields := #[]
  methods := #[]
  instanceTypes := #[]
  staticTypes := #[]
  resolved := Array.replicate 8 none
  statics := none }

def pool6 : Array CpInfo := pool [(1, u "java/io/Serializable"), (0, .class_ 1), (0, u "java/lang/Object"), (0, .class_ 3)] 3

/-- java/io/Serializable -/
def k6 : Class := { plain "java/io/Serializable" (some 0) with
  accessFlags := 1537
  interfaces := #[]
  cf := some (fileOf pool6 2 #[] #[] 1537 4 #[] #[])
  fields := #[]
  methods := #[]
  instanceTypes := #[]
  staticTypes := #[]
  resolved := Array.replicate 8 none
  statics := none }

/-- the primitive byte -/
def k7 : Class := { plain "byte" none with kind := .primitive 'B', accessFlags := 0x411 }
/-- [B -/
def k8 : Class := { plain "[B" (some 0) with kind := .array 7 .byte, interfaces := #[5, 6], accessFlags := 1041 }

/-- the primitive int -/
def k9 : Class := { plain "int" none with kind := .primitive 'I', accessFlags := 0x411 }
/-- [I -/
def k10 : Class := { plain "[I" (some 0) with kind := .array 9 .int, interfaces := #[5, 6], accessFlags := 1041 }

/-- the primitive long -/
def k11 : Class := { plain "long" none with kind := .primitive 'J', accessFlags := 0x411 }
/-- [J -/
def k12 : Class := { plain "[J" (some 0) with kind := .array 11 .long, interfaces := #[5, 6], accessFlags := 1041 }

def heap : Heap := #[]
def classes : Array Class := #[k0, k1, k2, k3, k4, k5, k6, k7, k8, k9, k10, k11, k12]
def interned : List (Array UInt16 × Addr) := []
def slotsUsed : Nat := 0
def theMethod : MethodId := ⟨1, 1⟩
def args0 : Array Value := #[.int 3, .int 5, .int 3, .int 2, .int 1, .int 9]
def aboutOver (below : List Frame) : State where
  vm := { classes := classes, interned := interned.toArray }
  heap := heap
  slotsUsed := slotsUsed
  threads := #[{ frames := .invoking theMethod args0 :: below }]
def below0 : List Frame := [.native { method := ⟨0, 0⟩, args := #[] }]
def about1 : State := aboutOver below0
def p0 : Program := .bare "" "" ""
def e0 : Env := launch0.env 0 0 0
theorem w_frames : about1.frames = Frame.invoking theMethod args0 :: below0 := rfl
set_option maxRecDepth 65536 in
theorem w_args : argsFit about1.vm theMethod args0 = true := by decide +kernel
set_option maxRecDepth 65536 in
theorem w_heap : heapFits about1 = true := by decide +kernel
set_option maxRecDepth 65536 in
theorem w_runnable : about1.curStatus? = some .runnable := by decide +kernel
set_option maxRecDepth 65536 in
theorem w_alone : about1.alone = true := by decide +kernel
set_option maxRecDepth 65536 in
theorem w_named : about1.methodNamed? x = some theMethod := by decide +kernel
set_option maxRecDepth 65536 in
theorem w_hears : about1.hears theMethod below0 = true := by decide +kernel
set_option maxRecDepth 65536 in
theorem w_ripe : about1.ripe theMethod args0 below0 = true := by decide +kernel
theorem w_running : about1.status = .running := rfl
set_option maxRecDepth 65536 in
theorem w_room : about1.hasRoom e0.platform room_1 = true :=
  launch0.hasRoom_least _ room_1 (by decide +kernel) (by decide +kernel) (by decide +kernel) (by decide +kernel) (by decide +kernel) (by decide +kernel)
theorem allAtoms_all (ts : List Jvm.Cond) (a : Array Jvm.Value) (st : Jvm.State) : (allAtoms ts).before a st = ts.all (fun c => c.before a st) := by
  induction ts with
  | nil => rfl
  | cons c t ih =>
    show (Jvm.Cond.and c (allAtoms t)).before a st = _
    rw [Jvm.Cond.before_and, ih, List.all_cons]
def words1 : List Jvm.Cond := Jvm.Cond.code x code maxLocals ret :: tables_1
/-- a 'code' word, met by the world's own term for the bytes: nothing is compared byte by byte -/
theorem code_word {y : MethodName} {bytes : ByteArray} {mx : Nat} {rt : Option FieldType} {a : Array Value} {s : State} {m : MethodId} {meth : Method} {c : Code} (h1 : s.methodNamed? y = some m) (h2 : s.vm.method? m = some meth) (h3 : meth.code = some c) (h4 : c.code = bytes)
    (h5 : (c.maxLocals == mx && c.exceptionTable.isEmpty && decide (c.maxStack ≤ mostOperands) && decide (meth.sig.returnType = rt) && !meth.locks && decide (parseMethodDescriptor y.desc = some meth.sig)) = true) : (Jvm.Cond.code y bytes mx rt).before a s = true := by
  simp only [Bool.and_eq_true, beq_iff_eq, Bool.not_eq_true', decide_eq_true_eq] at h5
  obtain ⟨⟨⟨⟨⟨g1, g2⟩, g3⟩, g4⟩, g5⟩, g6⟩ := h5
  simp [Cond.before, Cond.holds, Cond.value, h1, h2, h3, h4, g1, g2, g3, g4, g5, g6]
def isCode : Jvm.Cond → Bool
  | .code _ _ _ _ => true
  | _ => false
theorem all_split {L : List Jvm.Cond} {P : Jvm.Cond → Bool} (h1 : L.all (fun c => isCode c || P c) = true) (h2 : ∀ c ∈ L.filter isCode, P c = true) : L.all P = true := by
  refine List.all_eq_true.mpr fun c hc => ?_
  have h := List.all_eq_true.mp h1 c hc
  rcases Bool.eq_false_or_eq_true (isCode c) with hi | hi
  · exact h2 c (List.mem_filter.mpr ⟨hc, hi⟩)
  · simpa [hi] using h
set_option maxRecDepth 65536 in
theorem w_c0 : (Jvm.Cond.code x code maxLocals ret).before args0 about1 = true := code_word (m := ⟨1, 1⟩) (meth := k1m1) (c := k1c1) (by decide +kernel) rfl rfl rfl (by decide +kernel)
set_option maxRecDepth 65536 in
theorem w_c1 : (Jvm.Cond.code ({ cls := "com/example/referent/referent/solver/IntPairMap", name := "<init>", desc := "()V" } : Jvm.MethodName) prog_74_method_1_code (1 : Nat) (Option.none : Option Jvm.ClassFile.FieldType)).before args0 about1 = true := code_word (m := ⟨2, 0⟩) (meth := k2m0) (c := k2c0) (by decide +kernel) rfl rfl rfl (by decide +kernel)
set_option maxRecDepth 65536 in
theorem w_c2 : (Jvm.Cond.code ({ cls := "java/lang/Object", name := "<init>", desc := "()V" } : Jvm.MethodName) object_method_1_code (1 : Nat) (Option.none : Option Jvm.ClassFile.FieldType)).before args0 about1 = true := code_word (m := ⟨0, 0⟩) (meth := k0m0) (c := k0c0) (by decide +kernel) rfl rfl rfl (by decide +kernel)
set_option maxRecDepth 65536 in
theorem w_c3 : (Jvm.Cond.code ({ cls := "com/example/referent/referent/solver/IntPairMap", name := "put", desc := "(III)V" } : Jvm.MethodName) prog_74_method_4_code (4 : Nat) (Option.none : Option Jvm.ClassFile.FieldType)).before args0 about1 = true := code_word (m := ⟨2, 2⟩) (meth := k2m2) (c := k2c2) (by decide +kernel) rfl rfl rfl (by decide +kernel)
set_option maxRecDepth 65536 in
theorem w_c4 : (Jvm.Cond.code ({ cls := "java/lang/Math", name := "max", desc := "(II)I" } : Jvm.MethodName) jdk_29_method_65_code (2 : Nat) (Option.some Jvm.ClassFile.FieldType.int)).before args0 about1 = true := code_word (m := ⟨3, 1⟩) (meth := k3m1) (c := k3c1) (by decide +kernel) rfl rfl rfl (by decide +kernel)
set_option maxRecDepth 65536 in
theorem w_c5 : (Jvm.Cond.code ({ cls := "com/example/referent/referent/solver/IntPairMap", name := "resize", desc := "(I)V" } : Jvm.MethodName) prog_74_method_11_code (5 : Nat) (Option.none : Option Jvm.ClassFile.FieldType)).before args0 about1 = true := code_word (m := ⟨2, 9⟩) (meth := k2m9) (c := k2c9) (by decide +kernel) rfl rfl rfl (by decide +kernel)
set_option maxRecDepth 65536 in
theorem w_c6 : (Jvm.Cond.code ({ cls := "java/util/Arrays", name := "fill", desc := "([JJ)V" } : Jvm.MethodName) jdk_65_method_101_code (5 : Nat) (Option.none : Option Jvm.ClassFile.FieldType)).before args0 about1 = true := code_word (m := ⟨4, 1⟩) (meth := k4m1) (c := k4c1) (by decide +kernel) rfl rfl rfl (by decide +kernel)
set_option maxRecDepth 65536 in
theorem w_c7 : (Jvm.Cond.code ({ cls := "com/example/referent/referent/solver/IntPairMap", name := "key", desc := "(II)J" } : Jvm.MethodName) prog_74_method_12_code (2 : Nat) (Option.some Jvm.ClassFile.FieldType.long)).before args0 about1 = true := code_word (m := ⟨2, 10⟩) (meth := k2m10) (c := k2c10) (by decide +kernel) rfl rfl rfl (by decide +kernel)
set_option maxRecDepth 65536 in
theorem w_c8 : (Jvm.Cond.code ({ cls := "com/example/referent/referent/solver/IntPairMap", name := "place", desc := "(JI)Z" } : Jvm.MethodName) prog_74_method_10_code (6 : Nat) (Option.some Jvm.ClassFile.FieldType.boolean)).before args0 about1 = true := code_word (m := ⟨2, 8⟩) (meth := k2m8) (c := k2c8) (by decide +kernel) rfl rfl rfl (by decide +kernel)
set_option maxRecDepth 65536 in
theorem w_c9 : (Jvm.Cond.code ({ cls := "com/example/referent/referent/solver/IntPairMap", name := "slot", desc := "(JI)I" } : Jvm.MethodName) prog_74_method_13_code (5 : Nat) (Option.some Jvm.ClassFile.FieldType.int)).before args0 about1 = true := code_word (m := ⟨2, 11⟩) (meth := k2m11) (c := k2c11) (by decide +kernel) rfl rfl rfl (by decide +kernel)
set_option maxRecDepth 65536 in
theorem w_c10 : (Jvm.Cond.code ({ cls := "com/example/referent/referent/solver/IntPairMap", name := "slots", desc := "()I" } : Jvm.MethodName) prog_74_method_5_code (1 : Nat) (Option.some Jvm.ClassFile.FieldType.int)).before args0 about1 = true := code_word (m := ⟨2, 3⟩) (meth := k2m3) (c := k2c3) (by decide +kernel) rfl rfl rfl (by decide +kernel)
set_option maxRecDepth 65536 in
theorem w_c11 : (Jvm.Cond.code ({ cls := "com/example/referent/referent/solver/IntPairMap", name := "taken", desc := "(I)Z" } : Jvm.MethodName) prog_74_method_6_code (2 : Nat) (Option.some Jvm.ClassFile.FieldType.boolean)).before args0 about1 = true := code_word (m := ⟨2, 4⟩) (meth := k2m4) (c := k2c4) (by decide +kernel) rfl rfl rfl (by decide +kernel)
set_option maxRecDepth 65536 in
theorem w_c12 : (Jvm.Cond.code ({ cls := "com/example/referent/referent/solver/IntPairMap", name := "first", desc := "(I)I" } : Jvm.MethodName) prog_74_method_7_code (2 : Nat) (Option.some Jvm.ClassFile.FieldType.int)).before args0 about1 = true := code_word (m := ⟨2, 5⟩) (meth := k2m5) (c := k2c5) (by decide +kernel) rfl rfl rfl (by decide +kernel)
set_option maxRecDepth 65536 in
theorem w_c13 : (Jvm.Cond.code ({ cls := "com/example/referent/referent/solver/IntPairMap", name := "second", desc := "(I)I" } : Jvm.MethodName) prog_74_method_8_code (2 : Nat) (Option.some Jvm.ClassFile.FieldType.int)).before args0 about1 = true := code_word (m := ⟨2, 6⟩) (meth := k2m6) (c := k2c6) (by decide +kernel) rfl rfl rfl (by decide +kernel)
set_option maxRecDepth 65536 in
theorem w_c14 : (Jvm.Cond.code ({ cls := "com/example/referent/referent/solver/IntPairMap", name := "get", desc := "(II)I" } : Jvm.MethodName) prog_74_method_3_code (7 : Nat) (Option.some Jvm.ClassFile.FieldType.int)).before args0 about1 = true := code_word (m := ⟨2, 1⟩) (meth := k2m1) (c := k2c1) (by decide +kernel) rfl rfl rfl (by decide +kernel)
set_option maxRecDepth 65536 in
theorem w_c15 : (Jvm.Cond.code ({ cls := "com/example/referent/referent/solver/IntPairMap", name := "value", desc := "(I)I" } : Jvm.MethodName) prog_74_method_9_code (2 : Nat) (Option.some Jvm.ClassFile.FieldType.int)).before args0 about1 = true := code_word (m := ⟨2, 7⟩) (meth := k2m7) (c := k2c7) (by decide +kernel) rfl rfl rfl (by decide +kernel)
def codes1 : List Jvm.Cond := [Jvm.Cond.code x code maxLocals ret, Jvm.Cond.code ({ cls := "com/example/referent/referent/solver/IntPairMap", name := "<init>", desc := "()V" } : Jvm.MethodName) prog_74_method_1_code (1 : Nat) (Option.none : Option Jvm.ClassFile.FieldType), Jvm.Cond.code ({ cls := "java/lang/Object", name := "<init>", desc := "()V" } : Jvm.MethodName) object_method_1_code (1 : Nat) (Option.none : Option Jvm.ClassFile.FieldType), Jvm.Cond.code ({ cls := "com/example/referent/referent/solver/IntPairMap", name := "put", desc := "(III)V" } : Jvm.MethodName) prog_74_method_4_code (4 : Nat) (Option.none : Option Jvm.ClassFile.FieldType), Jvm.Cond.code ({ cls := "java/lang/Math", name := "max", desc := "(II)I" } : Jvm.MethodName) jdk_29_method_65_code (2 : Nat) (Option.some Jvm.ClassFile.FieldType.int), Jvm.Cond.code ({ cls := "com/example/referent/referent/solver/IntPairMap", name := "resize", desc := "(I)V" } : Jvm.MethodName) prog_74_method_11_code (5 : Nat) (Option.none : Option Jvm.ClassFile.FieldType), Jvm.Cond.code ({ cls := "java/util/Arrays", name := "fill", desc := "([JJ)V" } : Jvm.MethodName) jdk_65_method_101_code (5 : Nat) (Option.none : Option Jvm.ClassFile.FieldType), Jvm.Cond.code ({ cls := "com/example/referent/referent/solver/IntPairMap", name := "key", desc := "(II)J" } : Jvm.MethodName) prog_74_method_12_code (2 : Nat) (Option.some Jvm.ClassFile.FieldType.long), Jvm.Cond.code ({ cls := "com/example/referent/referent/solver/IntPairMap", name := "place", desc := "(JI)Z" } : Jvm.MethodName) prog_74_method_10_code (6 : Nat) (Option.some Jvm.ClassFile.FieldType.boolean), Jvm.Cond.code ({ cls := "com/example/referent/referent/solver/IntPairMap", name := "slot", desc := "(JI)I" } : Jvm.MethodName) prog_74_method_13_code (5 : Nat) (Option.some Jvm.ClassFile.FieldType.int), Jvm.Cond.code ({ cls := "com/example/referent/referent/solver/IntPairMap", name := "slots", desc := "()I" } : Jvm.MethodName) prog_74_method_5_code (1 : Nat) (Option.some Jvm.ClassFile.FieldType.int), Jvm.Cond.code ({ cls := "com/example/referent/referent/solver/IntPairMap", name := "taken", desc := "(I)Z" } : Jvm.MethodName) prog_74_method_6_code (2 : Nat) (Option.some Jvm.ClassFile.FieldType.boolean), Jvm.Cond.code ({ cls := "com/example/referent/referent/solver/IntPairMap", name := "first", desc := "(I)I" } : Jvm.MethodName) prog_74_method_7_code (2 : Nat) (Option.some Jvm.ClassFile.FieldType.int), Jvm.Cond.code ({ cls := "com/example/referent/referent/solver/IntPairMap", name := "second", desc := "(I)I" } : Jvm.MethodName) prog_74_method_8_code (2 : Nat) (Option.some Jvm.ClassFile.FieldType.int), Jvm.Cond.code ({ cls := "com/example/referent/referent/solver/IntPairMap", name := "get", desc := "(II)I" } : Jvm.MethodName) prog_74_method_3_code (7 : Nat) (Option.some Jvm.ClassFile.FieldType.int), Jvm.Cond.code ({ cls := "com/example/referent/referent/solver/IntPairMap", name := "value", desc := "(I)I" } : Jvm.MethodName) prog_74_method_9_code (2 : Nat) (Option.some Jvm.ClassFile.FieldType.int)]
set_option maxRecDepth 65536 in
theorem codes_eq : words1.filter isCode = codes1 := rfl
theorem w_codes : ∀ c ∈ words1.filter isCode, c.before args0 about1 = true := by
  rw [codes_eq]
  intro c hc
  simp only [codes1, List.mem_cons, List.not_mem_nil, or_false] at hc
  rcases hc with rfl | rfl | rfl | rfl | rfl | rfl | rfl | rfl | rfl | rfl | rfl | rfl | rfl | rfl | rfl | rfl
  · exact w_c0
  · exact w_c1
  · exact w_c2
  · exact w_c3
  · exact w_c4
  · exact w_c5
  · exact w_c6
  · exact w_c7
  · exact w_c8
  · exact w_c9
  · exact w_c10
  · exact w_c11
  · exact w_c12
  · exact w_c13
  · exact w_c14
  · exact w_c15
set_option maxRecDepth 65536 in
theorem w_t1 : (words1.take 24).all (fun c => isCode c || c.before args0 about1) = true := by decide +kernel
set_option maxRecDepth 65536 in
theorem w_t2 : ((words1.drop 24).take 24).all (fun c => isCode c || c.before args0 about1) = true := by decide +kernel
set_option maxRecDepth 65536 in
theorem w_t3 : (((words1.drop 24).drop 24).take 24).all (fun c => isCode c || c.before args0 about1) = true := by decide +kernel
set_option maxRecDepth 65536 in
theorem w_t4 : (((words1.drop 24).drop 24).drop 24).all (fun c => isCode c || c.before args0 about1) = true := by decide +kernel
theorem w_tables : (allAtoms (Jvm.Cond.code x code maxLocals ret :: tables_1)).before args0 about1 = true := by
  rw [allAtoms_all]
  show words1.all (fun c => c.before args0 about1) = true
  refine all_split ?_ w_codes
  rw [← List.take_append_drop 24 words1, List.all_append, w_t1, ← List.take_append_drop 24 (words1.drop 24), List.all_append, w_t2, ← List.take_append_drop 24 ((words1.drop 24).drop 24), List.all_append, w_t3, w_t4]
  rfl
set_option maxRecDepth 65536 in
theorem w_case : (Jvm.Cond.and given_1 narrow_1).before args0 about1 = true := by decide +kernel
theorem w_applies : (headSpec (Jvm.Cond.code x code maxLocals ret :: tables_1) room_1).applies x e0.platform about1 = true :=
  (Spec.applies_iff w_frames).mpr ⟨w_running, w_runnable, w_alone, w_named, w_hears, w_ripe, w_room, w_tables⟩
theorem atStart : AtStart classFile x code maxLocals ret World_1 tables_1 room_1 Calls_1 rest_1 Pre_1 launch0 p0 e0 about1 theMethod args0 below0 :=
  ⟨lists_1, trivial, launch0.admits_env _ _ _, launch0.least_env, fairChoices_fair.cas, fairChoices_fair.clock, w_frames, w_args, w_heap, w_applies, trivial, trivial, w_case⟩
end start1
theorem witness_1 : WitnessClaimed_1 := ⟨start1.p0, start1.e0, start1.about1, start1.theMethod, start1.args0, start1.below0, start1.atStart⟩
end Jvm.Pilot.@@N@@
