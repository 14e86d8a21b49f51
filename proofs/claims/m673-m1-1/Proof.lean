import JvmDerived
import JvmDerived.Pilot.@@N@@Statement
import JvmDerived.Pilot.@@N@@Code
set_option linter.unusedVariables false
set_option linter.unusedSimpArgs false
namespace Jvm.RoadKit
open Sem ClassFile Op Lib Jvm.Stand Jvm.Free Jvm.LawKit
section New
variable {p : Program} {l : Launch} {e : Env} {R : Room} {s : State} {m : MethodId} {args : Array Value} {below : List Frame} {meth : Method} {c : Code} {T : State} {locs : List Loc} {cells slots : Nat}
theorem retI (X : Stand p l e R s m args below meth c T locs cells slots) (hx : p.tables.exec = Jvm.exec) {pc : Nat} {Ls : Array Slot} {z : Int32} {rest : List Value} (hret : meth.sig.returnType = some .int) (hd : decode c.code pc = .ok (.ireturn, 1)) {fs : List Frame}
    (hl : ∀ (f : JFrame) (acts : List Action), f.method = m → f.locked = none → f.entered = [] → (doReturn e (T.setTop f) acts (some (.int z))).1 = T.setFrames fs) : Steps p.tables e below (T.setTop (mkF m pc Ls (.int z :: rest))) (T.setFrames fs) := by
  have hm' : T.vm.method? m = some meth := X.method'
  have hn : narrow .int (.int z) = .int z := rfl
  show Steps p.tables e below (T.setTop { method := m, pc := pc, locals := Ls, stack := _ :: rest, locked := none }) _
  jvm_step X.here [X.here.top, hx, hd, hm', hret, hn]
  first | (intro acts; rw [hl _ acts rfl rfl rfl]) | rw [hl _ _ rfl rfl rfl]
  exact Steps.refl _
end New
end Jvm.RoadKit
namespace Jvm.Pilot.@@N@@
open Jvm Jvm.ClassFile Sem Op Lib Jvm.Free Jvm.Stand Jvm.LawKit Jvm.RoadKit Bundle Jvm.Pilot.@@N@@.Jvm.D
/-! 1. own frame of the walks: a goal 'G T f' says: from the state T with the top frame f the body comes to its end as its contract says. G is kept opaque in a walk: own_Pre steps it back, own_Ret ends it. -/
abbrev own_Pre (p : Program) (e : Env) (below : List Frame) (G : State → JFrame → Prop) : Prop :=
  ∀ {T T2 : State} {f f2 : JFrame}, (∀ t, Steps p.tables e below (T2.setTop f2) t → Steps p.tables e below (T.setTop f) t) → G T2 f2 → G T f
abbrev own_Lv (p : Program) (e : Env) (below : List Frame) (m : MethodId) (T : State) (f : JFrame) (v : Option Value) : Prop :=
  ∀ fs, (∀ (f : JFrame) (acts : List Action), f.method = m → f.locked = none → f.entered = [] → (doReturn e (T.setTop f) acts v).1 = T.setFrames fs) → Steps p.tables e below (T.setTop f) (T.setFrames fs)
abbrev own_Ret (p : Program) (l : Launch) (e : Env) (R : Room) (s : State) (m : MethodId) (as' : Array Value) (below : List Frame) (meth : Method) (c : Code) (Q : Option Value → Heap → List Loc → Prop) (C S : Nat) (G : State → JFrame → Prop) : Prop :=
  ∀ {T : State} {locs : List Loc} {cells slots : Nat} {f : JFrame} {v : Option Value}, Stand p l e R s m as' below meth c T locs cells slots → own_Lv p e below m T f v → (meth.sig.returnType = none → v = none) → Q v T.heap locs → cells ≤ C → slots ≤ S → G T f
theorem own_contract {l : Launch} {Z : State} {y : MethodName} {bytes : ByteArray} {maxL : Nat} {ret : Option FieldType} {ws : List Jvm.Cond} {rm : Room} {as' : Array Value} {h0 : Heap} {Q : Option Value → Heap → List Loc → Prop} {Ls : Array Slot}
    (hpl : plainFor y = true) (hef : ∀ m, entryFrame m as' maxL = mkF m 0 Ls [])
    (H : ∀ (p : Program) (e : Env) (s : State) (m : MethodId) (below : List Frame) (meth : Method) (c : Code) (s₁ : State) (G : State → JFrame → Prop),
      p.tables.exec = Jvm.exec → c.code = bytes → c.maxLocals = maxL → s.vm.findClass y.cls = some m.cls → meth.name = y.name → meth.sig.returnType = ret → Z.Warmed39 s.vm →
      Stand p l e rm s m as' below meth c s₁ [] 0 0 → s₁.heap = h0 → own_Pre p e below G → own_Ret p l e rm s m as' below meth c Q rm.cells rm.slots G → G s₁ (mkF m 0 Ls [])) :
    MetFree l y (head1 (Jvm.Cond.code y bytes maxL ret :: ws) rm) (fun a U => a = as' ∧ Z.Warmed39 U.vm ∧ U.heap = h0) (fun _ _ _ _ _ => True) (fun _ U o U' => ∃ v L, o = .returned v ∧ Q v U'.heap L ∧ FrameEnd U o U' L rm.cells rm.slots) := by
  refine MetFree.of_bodySF hpl hisR ?_
  intro p e s m args below meth c s₁ Bd hml0 hP hK
  obtain ⟨rfl, hZ, hh⟩ := hP
  have X0 : Stand p l e rm s m args below meth c s₁ [] 0 0 := Stand.of_body Bd
  have e0 : s₁.heap = h0 := by rw [← hh, Bd.state]; rfl
  obtain ⟨T', locs, cells, slots, v, X, hst, hv, hQ, hc, hs⟩ := H p e s m below meth c s₁
    (fun T f => ∃ (T' : State) (locs : List Loc) (cells slots : Nat) (v : Option Value), Stand p l e rm s m args below meth c T' locs cells slots ∧
      (∀ fs, (∀ (f : JFrame) (acts : List Action), f.method = m → f.locked = none → f.entered = [] → (doReturn e (T'.setTop f) acts v).1 = T'.setFrames fs) → Steps p.tables e below (T.setTop f) (T'.setFrames fs)) ∧
      (meth.sig.returnType = none → v = none) ∧ Q v T'.heap locs ∧ cells ≤ rm.cells ∧ slots ≤ rm.slots)
    Bd.exec Bd.bytes hml0 (findClass_of_methodNamed Bd.named) (name_of_methodNamed Bd.named Bd.method).1 Bd.returns hZ X0 e0
    (fun {T T2 f f2} hs hG => by
      obtain ⟨T', locs, cells, slots, v, X, hst, r⟩ := hG
      exact ⟨T', locs, cells, slots, v, X, fun fs hl => hs _ (hst fs hl), r⟩)
    (fun {T locs cells slots f v} X hl hv hQ hc hs => ⟨T, locs, cells, slots, v, X, hl, hv, hQ, hc, hs⟩)
  obtain ⟨fs, hr, hrun, hended, hW, hsame⟩ := X.leave hv Bd.notSynchronized
  exact ⟨_, _, castTop (hef m) (hst fs hr), hrun, hended, _, _, rfl, hQ, ⟨_, rfl⟩, hW, hsame.mono hc hs⟩
/-- what a body without a write says: its value, nothing old written, the heap as it was -/
abbrev own_Q (r : Option Value) (h0 : Heap) (n0 : Nat) (v : Option Value) (h : Heap) (L : List Loc) : Prop := v = r ∧ Fr n0 L ∧ h = h0
section Calls
variable {p : Program} {l : Launch} {e : Env} {R : Room} {s : State} {m : MethodId} {args : Array Value} {below : List Frame} {meth : Method} {c : Code} {T : State} {locs : List Loc} {cells slots : Nat} {Z : State} {a0 : Array Value} {h : Heap}
theorem own_callS (X : Stand p l e R s m args below meth c T locs cells slots) (hx : p.tables.exec = Jvm.exec) (hZ : Z.Warmed39 s.vm) {own : String} {index : Nat} {y : MethodName} {bytes : ByteArray} {maxL : Nat} {ret : Option FieldType} {rm : Room} {as' : Array Value} {Q : Option Value → Heap → List Loc → Prop}
    (W : Nat) (hown : s.vm.findClass own = some m.cls) (w1 : (Cond.methodLink own index y).before a0 Z = true) (w2 : (Cond.static y).before a0 Z = true) (w3 : (Cond.initialized y.cls).before a0 Z = true) (w4 : (Cond.code y bytes maxL ret).before a0 Z = true)
    (hy : y.cls ≠ "java/lang/invoke/MethodHandle" ∧ y.cls ≠ "java/lang/invoke/VarHandle")
    (hM : MetFree l y (head1 [Cond.code y bytes maxL ret] rm) (fun a U => a = as' ∧ Z.Warmed39 U.vm ∧ U.heap = h) (fun _ _ _ _ _ => True) (fun _ U o U' => ∃ v L, o = .returned v ∧ Q v U'.heap L ∧ FrameEnd U o U' L rm.cells rm.slots))
    (eT : T.heap = h) (hf : rm.frames + 1 ≤ R.frames) (hl : W + (maxL + 11) + rm.locals ≤ R.locals) {g : JFrame} (hg : g.method = m) (hsize : g.locals.size = c.maxLocals) (argsL rest : List Value) {ps : List FieldType} {r : Option FieldType}
    (hd : parseMethodDescriptor y.desc = some ⟨ps, r⟩) (hlen : argsL.length = ps.length) (hstack : g.stack = argsL.reverse ++ rest) (hW : 2 * g.monitorRoom + (rest.map fun v => v.category).sum ≤ W) (hdg : decode c.code g.pc = .ok (.invokestatic index, 3))
    (has : argsL.toArray = as') (hc : cells + rm.cells ≤ R.cells) (hs : slots + rm.slots ≤ R.slots) :
    ∃ (v : Option Value) (T' : State) (L : List Loc), Stand p l e R s m args below meth c T' (locs ++ L) (cells + rm.cells) (slots + rm.slots) ∧ Q v T'.heap L ∧
      ∀ t, Steps p.tables e below (T'.setTop { g with pc := g.pc + 3, stack := v.toList ++ rest }) t → Steps p.tables e below (T.setTop g) t := by
  obtain ⟨v, _, ⟨T', L', k', n'⟩, -, X', ⟨Lc, hQ, l', y', z'⟩, st⟩ := Jvm.LawKit.callS X hx (y := y) hown (mvT hZ w1) (mvT hZ w2) (mvT hZ w3) (mvT hZ w4) hy (backOf (W := W) hM hZ w4 w3 hf hl) hg hsize (argsL := argsL) (rest := rest) (lenOf hd hlen) hstack hW hdg (fun _ _ => ⟨has, eT, hc, hs⟩)
  dsimp only [Pt.U, Pt.locs, Pt.cells, Pt.slots] at X' l' y' z' st hQ
  subst l' y' z'
  exact ⟨v, T', Lc, X', hQ, st⟩
theorem own_callI (X : Stand p l e R s m args below meth c T locs cells slots) (hx : p.tables.exec = Jvm.exec) (hZ : Z.Warmed39 s.vm) {own : String} {index : Nat} {y : MethodName} {bytes : ByteArray} {maxL : Nat} {rm : Room} {as' : Array Value} {Q : Option Value → Heap → List Loc → Prop}
    (W : Nat) (hy1 : y.name = "<init>") (hown : s.vm.findClass own = some m.cls) (w1 : (Cond.methodLink own index y).before a0 Z = true) (w2 : (Cond.instanceMethod y).before a0 Z = true) (w3 : (Cond.initialized y.cls).before a0 Z = true) (w4 : (Cond.code y bytes maxL none).before a0 Z = true)
    (hy : y.cls ≠ "java/lang/invoke/MethodHandle" ∧ y.cls ≠ "java/lang/invoke/VarHandle")
    (hM : MetFree l y (head1 [Cond.code y bytes maxL none] rm) (fun a U => a = as' ∧ Z.Warmed39 U.vm ∧ U.heap = h) (fun _ _ _ _ _ => True) (fun _ U o U' => ∃ v L, o = .returned v ∧ Q v U'.heap L ∧ FrameEnd U o U' L rm.cells rm.slots))
    (eT : T.heap = h) (hf : rm.frames + 1 ≤ R.frames) (hl : W + (maxL + 11) + rm.locals ≤ R.locals) {g : JFrame} (hg : g.method = m) (hsize : g.locals.size = c.maxLocals) (a : Addr) (argsL rest : List Value) {ps : List FieldType} {r : Option FieldType}
    (hd : parseMethodDescriptor y.desc = some ⟨ps, r⟩) (hlen : argsL.length = ps.length) (hstack : g.stack = argsL.reverse ++ .ref a :: rest) (hW : 2 * g.monitorRoom + (rest.map fun v => v.category).sum ≤ W) (hdg : decode c.code g.pc = .ok (.invokespecial index, 3))
    (has : (.ref a :: argsL).toArray = as') (hc : cells + rm.cells ≤ R.cells) (hs : slots + rm.slots ≤ R.slots) :
    ∃ (v : Option Value) (T' : State) (L : List Loc), Stand p l e R s m args below meth c T' (locs ++ L) (cells + rm.cells) (slots + rm.slots) ∧ Q v T'.heap L ∧
      ∀ t, Steps p.tables e below (T'.setTop { g with pc := g.pc + 3, stack := v.toList ++ rest }) t → Steps p.tables e below (T.setTop g) t := by
  obtain ⟨v, _, ⟨T', L', k', n'⟩, -, X', ⟨Lc, hQ, l', y', z'⟩, st⟩ := X.specialBack hx (y := y) hy1 hown (mvT hZ w1) (mvT hZ w2) (mvT hZ w4) hy (backOf (W := W) hM hZ w4 w3 hf hl) hg hsize (Steps.refl _) (a := a) (argsL := argsL) (rest := rest) (lenOf hd hlen) hstack hW hdg (fun _ _ => ⟨has, eT, hc, hs⟩)
  dsimp only [Pt.U, Pt.locs, Pt.cells, Pt.slots] at X' l' y' z' st hQ
  subst l' y' z'
  exact ⟨v, T', Lc, X', hQ, fun t k => st.trans k⟩
theorem own_callV (X : Stand p l e R s m args below meth c T locs cells slots) (hx : p.tables.exec = Jvm.exec) (hZ : Z.Warmed39 s.vm) {own C : String} {index : Nat} {y : MethodName} {bytes : ByteArray} {maxL : Nat} {ret : Option FieldType} {rm : Room} {as' : Array Value} {Q : Option Value → Heap → List Loc → Prop}
    (W : Nat) (hown : s.vm.findClass own = some m.cls) (w1 : (Cond.methodLink own index y).before a0 Z = true) (w2 : (Cond.declares y).before a0 Z = true) (w3 : (Cond.selects C y y).before a0 Z = true) (w4 : (Cond.instanceMethod y).before a0 Z = true) (w5 : (Cond.initialized y.cls).before a0 Z = true) (w6 : (Cond.code y bytes maxL ret).before a0 Z = true)
    (hy : y.cls ≠ "java/lang/invoke/MethodHandle" ∧ y.cls ≠ "java/lang/invoke/VarHandle")
    (hM : MetFree l y (head1 [Cond.code y bytes maxL ret] rm) (fun a U => a = as' ∧ Z.Warmed39 U.vm ∧ U.heap = h) (fun _ _ _ _ _ => True) (fun _ U o U' => ∃ v L, o = .returned v ∧ Q v U'.heap L ∧ FrameEnd U o U' L rm.cells rm.slots))
    (eT : T.heap = h) {b : Addr} (E : Exa Z h b C) (hf : rm.frames + 1 ≤ R.frames) (hl : W + (maxL + 11) + rm.locals ≤ R.locals) {g : JFrame} (hg : g.method = m) (hsize : g.locals.size = c.maxLocals) (argsL rest : List Value) {ps : List FieldType} {r : Option FieldType}
    (hd : parseMethodDescriptor y.desc = some ⟨ps, r⟩) (hlen : argsL.length = ps.length) (hstack : g.stack = argsL.reverse ++ .ref b :: rest) (hW : 2 * g.monitorRoom + (rest.map fun v => v.category).sum ≤ W) (hdg : decode c.code g.pc = .ok (.invokevirtual index, 3))
    (has : (.ref b :: argsL).toArray = as') (hc : cells + rm.cells ≤ R.cells) (hs : slots + rm.slots ≤ R.slots) :
    ∃ (v : Option Value) (T' : State) (L : List Loc), Stand p l e R s m args below meth c T' (locs ++ L) (cells + rm.cells) (slots + rm.slots) ∧ Q v T'.heap L ∧
      ∀ t, Steps p.tables e below (T'.setTop { g with pc := g.pc + 3, stack := v.toList ++ rest }) t → Steps p.tables e below (T.setTop g) t := by
  obtain ⟨cq, kq, qa, qb, qc⟩ := isOf hZ eT E
  obtain ⟨v, _, ⟨T', L', k', n'⟩, -, X', ⟨Lc, hQ, l', y', z'⟩, st⟩ := X.virtualBack hx (y := y) (z := y) hown (mvT hZ w1) (mvT hZ w2) (notFace_of_selects (args := #[]) (mvT hZ w3)) (mvT hZ w3) (mvT hZ w4) hy (backOf (W := W) hM hZ w6 w5 hf hl) qa qc hg hsize (Steps.refl _) (argsL := argsL) (rest := rest) (lenOf hd hlen) hstack hW hdg (fun _ _ => ⟨has, eT, hc, hs⟩)
  dsimp only [Pt.U, Pt.locs, Pt.cells, Pt.slots] at X' l' y' z' st hQ
  subst l' y' z'
  exact ⟨v, T', Lc, X', hQ, fun t k => st.trans k⟩
end Calls
theorem own_lrem {tb : Tables} [Ours tb] {e : Env} {below : List Frame} {T target : State} {m : MethodId} {c : Code} {g : JFrame} (h : At T m c below) (hx : tb.exec = Jvm.exec) (hg : g.method = m) {x y : Int64} {rest : List Value} (hd : decode c.code g.pc = .ok (.lrem, 1)) (hs : g.stack = .long y :: .long x :: rest) (hy : y ≠ 0)
    (hr : Steps tb e below (T.setTop { g with pc := g.pc + 1, stack := .long (x % y) :: rest }) target) : Steps tb e below (T.setTop g) target := XS.lrem h hx hg hd hs hy (by rw [lrem_mod]; exact hr)
theorem own_pd0 : parseMethodDescriptor "(II)Z" = some ⟨[.int, .int], some .boolean⟩ := by decide +kernel
theorem d1_0 : decode prog_31_method_2_code 0 = .ok (.iload_n 0, 1) := by decide +kernel
theorem d1_1 : decode prog_31_method_2_code 1 = .ok (.iload_n 1, 1) := by decide +kernel
theorem d1_2 : decode prog_31_method_2_code 2 = .ok (.irem, 1) := by decide +kernel
theorem d1_3 : decode prog_31_method_2_code 3 = .ok (.ifCond .eq 7, 3) := by decide +kernel
theorem d1_6 : decode prog_31_method_2_code 6 = .ok (.iconst 1, 1) := by decide +kernel
theorem d1_7 : decode prog_31_method_2_code 7 = .ok (.goto 4, 3) := by decide +kernel
theorem d1_10 : decode prog_31_method_2_code 10 = .ok (.iconst 0, 1) := by decide +kernel
theorem d1_11 : decode prog_31_method_2_code 11 = .ok (.ireturn, 1) := by decide +kernel
theorem own_ef1 (m : MethodId) (p0 : Int32) (p1 : Int32) : entryFrame m #[(.int p0), (.int p1)] 2 = mkF m 0 #[.val (.int p0), .val (.int p1)] [] := by first | (simp [entryFrame, mkF, argsToLocals, Value.category]; done) | rfl
def own_carves (p0 : Int32) (p1 : Int32) : Int32 := if (p0 % p1) = (0 : Int32) then (0 : Int32) else (1 : Int32)
theorem own_pn1 : plainName "com/example/slabwarden/slabwarden/chunk/Slab" = true := by first | (simp [plainName, overriddenIn]; done) | decide +kernel
set_option maxRecDepth 65536 in
set_option maxHeartbeats 40000000 in
theorem rm1 (l : Launch) (Z : State) (a0 : Array Value) (hw : ∀ d ∈ tables_1, d.before a0 Z = true) (ws : List Jvm.Cond) (p0 : Int32) (p1 : Int32) (h0 : Heap) (n0 : Nat) (hne : p1 ≠ (0 : Int32)) :
    MetFree l (⟨"com/example/slabwarden/slabwarden/chunk/Slab", "carves", "(II)Z"⟩ : MethodName) (head1 (Jvm.Cond.code (⟨"com/example/slabwarden/slabwarden/chunk/Slab", "carves", "(II)Z"⟩ : MethodName) prog_31_method_2_code 2 (some .boolean) :: ws) ({ frames := 0, cells := 0, slots := 0, locals := 0 } : Room)) (fun a U => a = #[(.int p0), (.int p1)] ∧ Z.Warmed39 U.vm ∧ U.heap = h0) (fun _ _ _ _ _ => True) (fun _ U o U' => ∃ v L, o = .returned v ∧ own_Q (some (.int (own_carves p0 p1))) h0 n0 v U'.heap L ∧ FrameEnd U o U' L ({ frames := 0, cells := 0, slots := 0, locals := 0 } : Room).cells ({ frames := 0, cells := 0, slots := 0, locals := 0 } : Room).slots) := by
  refine own_contract (plainFor_of_name own_pn1) (fun m => own_ef1 m p0 p1) ?_
  intro p e s m below meth c s₁ G hx hby hml0 hown0 hnm hret hZ X0 e0 hp hR
  have hml : c.maxLocals = 2 := hml0
  have hown : s.vm.findClass "com/example/slabwarden/slabwarden/chunk/Slab" = some m.cls := hown0
  have N0 := Fr.nil n0
  show G s₁ (mkF m 0 #[.val (.int p0), .val (.int p1)] [])
  refine hp (fun tq kq => XS.iloadN X0.here hx rfl (hb hby d1_0) rfl kq) ?_
  show G s₁ (mkF m 1 #[.val (.int p0), .val (.int p1)] [(.int p0)])
  refine hp (fun tq kq => XS.iloadN X0.here hx rfl (hb hby d1_1) rfl kq) ?_
  show G s₁ (mkF m 2 #[.val (.int p0), .val (.int p1)] [(.int p1), (.int p0)])
  refine hp (fun tq kq => iremM X0 hx rfl (hb hby d1_2) rfl hne kq) ?_
  show G s₁ (mkF m 3 #[.val (.int p0), .val (.int p1)] [(.int (p0 % p1))])
  by_cases hb1 : (p0 % p1) = (0 : Int32)
  · refine hp (fun tq kq => XS.ifYes X0.here hx rfl (pc0 := 3) (pc' := 10) rfl (hb hby d1_3) rfl ((if0 _ _).trans (teq hb1).1) (by decide) (by decide) kq) ?_
    show G s₁ (mkF m 10 #[.val (.int p0), .val (.int p1)] [])
    refine hp (fun tq kq => XS.iconst X0.here hx rfl (hb hby d1_10) kq) ?_
    show G s₁ (mkF m 11 #[.val (.int p0), .val (.int p1)] [(.int (0 : Int32))])
    exact hR X0 (fun fs hl => retN X0 hx (t := .boolean) hret (by simp) (hb hby d1_11) hl) (fun q => by rw [hret] at q; cases q) ⟨(congrArg (fun q => some (Value.int q)) (if_pos hb1).symm), N0, e0⟩ (by decide) (by decide)
  · refine hp (fun tq kq => XS.ifNo X0.here hx rfl (hb hby d1_3) rfl ((if0 _ _).trans (feq hb1).1) kq) ?_
    show G s₁ (mkF m 6 #[.val (.int p0), .val (.int p1)] [])
    refine hp (fun tq kq => XS.iconst X0.here hx rfl (hb hby d1_6) kq) ?_
    show G s₁ (mkF m 7 #[.val (.int p0), .val (.int p1)] [(.int (1 : Int32))])
    refine hp (fun tq kq => XS.goto X0.here hx rfl (pc0 := 7) (pc' := 11) rfl (hb hby d1_7) (by decide) (by decide) kq) ?_
    show G s₁ (mkF m 11 #[.val (.int p0), .val (.int p1)] [(.int (1 : Int32))])
    exact hR X0 (fun fs hl => retN X0 hx (t := .boolean) hret (by simp) (hb hby d1_11) hl) (fun q => by rw [hret] at q; cases q) ⟨(congrArg (fun q => some (Value.int q)) (if_neg hb1).symm), N0, e0⟩ (by decide) (by decide)
theorem own_ps (p0 z1 : Int32) (hz1 : z1 = ((4096 : Int32) <<< (((p0 &&& (2147483647 : Int32)) % (5 : Int32)) &&& 31))) : z1 = 4096 ∨ z1 = 8192 ∨ z1 = 16384 ∨ z1 = 32768 ∨ z1 = 65536 := by
  have h := c_mask p0 2147483647 31 (by decide) (by decide)
  have h2 := (c_irem (p0 &&& 2147483647) 5 5 (by decide)).1 (by omega)
  generalize ((p0 &&& (2147483647 : Int32)) % (5 : Int32)) = q at *
  have k : ∀ d : Int32, q.toInt = d.toInt → q = d := fun d q => Int32.toInt_inj.mp q
  rcases (by omega : q.toInt = 0 ∨ q.toInt = 1 ∨ q.toInt = 2 ∨ q.toInt = 3 ∨ q.toInt = 4) with e | e | e | e | e
  · have := k 0 e; subst this; subst hz1; exact Or.inl (by decide)
  · have := k 1 e; subst this; subst hz1; exact Or.inr (Or.inl (by decide))
  · have := k 2 e; subst this; subst hz1; exact Or.inr (Or.inr (Or.inl (by decide)))
  · have := k 3 e; subst this; subst hz1; exact Or.inr (Or.inr (Or.inr (Or.inl (by decide))))
  · have := k 4 e; subst this; subst hz1; exact Or.inr (Or.inr (Or.inr (Or.inr (by decide))))
theorem own_core (z1 z2 z3 z5 p1 p2 p3 : Int32) (P : Int) (k : Nat) (hP : z1.toInt = P) (hp : P = 4096 ∨ P = 8192 ∨ P = 16384 ∨ P = 32768 ∨ P = 65536) (hk : (z1 - 1).toBitVec.toNat = 2 ^ k - 1) (hk2 : ((2 ^ k : Nat) : Int) = P) (hk3 : k ≤ 31)
    (Q : Int) (hQ : ((2147483647 / z1) + 1 : Int32).toInt = Q) (hQP : Q * P = 2147483648)
    (hz2 : z2 = (p2 &&& (z1 - (1 : Int32)))) (hz3 : z3 = ((p1 &&& (2147483647 : Int32)) % (((2147483647 : Int32) / z1) + (1 : Int32)))) (hz5 : z5 = (if (p3 &&& (1 : Int32)) = (0 : Int32) then ((z3 * z1) + z2) else (-((z3 * z1) + z2)))) : (z5 % z1).toInt = 0 ↔ z2.toInt = 0 := by
  have a1 := c_mask p2 (z1 - 1) k hk3 hk
  rw [← hz2, hk2] at a1
  have a2 := c_mask p1 2147483647 31 (by decide) (by decide)
  have a3 := (c_irem (p1 &&& 2147483647) (2147483647 / z1 + 1) Q hQ).1 (by omega)
  rw [← hz3] at a3
  have a4 := c_imul z3 z1
  have a5 := c_iadd (z3 * z1) z2
  have a6 := c_ineg ((z3 * z1) + z2)
  have r1 := rng32 (z3 * z1)
  have r2 := rng32 (z3 * z1 + z2)
  have r3 := rng32 (-(z3 * z1 + z2))
  have a7 := c_irem z5 z1 P hP
  have b0 : 0 ≤ z3.toInt ∧ z3.toInt < Q := by
    have : 0 < Q := by rcases hp with h | h | h | h | h <;> (subst h; omega)
    rw [a3]; exact ⟨Int.emod_nonneg _ (by omega), Int.emod_lt_of_pos _ this⟩
  rw [hP] at a4
  have s : (z3 * z1 + z2).toInt = z3.toInt * P + z2.toInt := by
    clear a2 a3 a6 a7 r3 hz5
    rcases hp with h | h | h | h | h <;> (subst h; omega)
  have t : z5.toInt = z3.toInt * P + z2.toInt ∨ z5.toInt = -(z3.toInt * P + z2.toInt) := by
    rw [hz5]
    split
    · exact Or.inl s
    · right; rw [← s]
      have : 0 ≤ (z3 * z1 + z2).toInt := by rw [s]; rcases hp with h | h | h | h | h <;> (subst h; omega)
      omega
  clear a2 a3 a4 a5 a6 r1 r2 r3 hz5 hz3 hz2 s
  rcases hp with h | h | h | h | h <;> (subst h; rcases t with t | t <;> omega)

theorem own_ne1 (p0 : Int32) (p1 : Int32) (p2 : Int32) (p3 : Int32) (z1 : Int32) (hz1 : z1 = ((4096 : Int32) <<< (((p0 &&& (2147483647 : Int32)) % (5 : Int32)) &&& 31))) (z2 : Int32) (hz2 : z2 = (p2 &&& (z1 - (1 : Int32)))) : z1 ≠ (0 : Int32) := by
  rcases own_ps p0 z1 hz1 with h | h | h | h | h <;> (rw [h]; decide)
theorem own_ne2 (p0 : Int32) (p1 : Int32) (p2 : Int32) (p3 : Int32) (z1 : Int32) (hz1 : z1 = ((4096 : Int32) <<< (((p0 &&& (2147483647 : Int32)) % (5 : Int32)) &&& 31))) (z2 : Int32) (hz2 : z2 = (p2 &&& (z1 - (1 : Int32)))) : (((2147483647 : Int32) / z1) + (1 : Int32)) ≠ (0 : Int32) := by
  rcases own_ps p0 z1 hz1 with h | h | h | h | h <;> (rw [h]; decide)
theorem own_ne3 (p0 : Int32) (p1 : Int32) (p2 : Int32) (p3 : Int32) (z1 : Int32) (hz1 : z1 = ((4096 : Int32) <<< (((p0 &&& (2147483647 : Int32)) % (5 : Int32)) &&& 31))) (z2 : Int32) (hz2 : z2 = (p2 &&& (z1 - (1 : Int32)))) (z3 : Int32) (hz3 : z3 = ((p1 &&& (2147483647 : Int32)) % (((2147483647 : Int32) / z1) + (1 : Int32)))) (z5 : Int32) (hz5 : z5 = (if (p3 &&& (1 : Int32)) = (0 : Int32) then ((z3 * z1) + z2) else (-((z3 * z1) + z2)))) : z1 ≠ (0 : Int32) := by
  rcases own_ps p0 z1 hz1 with h | h | h | h | h <;> (rw [h]; decide)
theorem own_ob (p0 : Int32) (p1 : Int32) (p2 : Int32) (p3 : Int32) (z1 : Int32) (hz1 : z1 = ((4096 : Int32) <<< (((p0 &&& (2147483647 : Int32)) % (5 : Int32)) &&& 31))) (z2 : Int32) (hz2 : z2 = (p2 &&& (z1 - (1 : Int32)))) (z3 : Int32) (hz3 : z3 = ((p1 &&& (2147483647 : Int32)) % (((2147483647 : Int32) / z1) + (1 : Int32)))) (z5 : Int32) (hz5 : z5 = (if (p3 &&& (1 : Int32)) = (0 : Int32) then ((z3 * z1) + z2) else (-((z3 * z1) + z2)))) (z8 : Int32) (hz8 : z8 = (if z2 = (0 : Int32) then (0 : Int32) else (1 : Int32))) : (own_carves z5 z1) = z8 := by
  have q : (z5 % z1).toInt = 0 ↔ z2.toInt = 0 := by
    rcases own_ps p0 z1 hz1 with h | h | h | h | h
    · exact own_core z1 z2 z3 z5 p1 p2 p3 4096 12 (by rw [h]; decide) (by omega) (by rw [h]; decide) (by decide) (by decide) 524288 (by rw [h]; decide) (by decide) hz2 hz3 hz5
    · exact own_core z1 z2 z3 z5 p1 p2 p3 8192 13 (by rw [h]; decide) (by omega) (by rw [h]; decide) (by decide) (by decide) 262144 (by rw [h]; decide) (by decide) hz2 hz3 hz5
    · exact own_core z1 z2 z3 z5 p1 p2 p3 16384 14 (by rw [h]; decide) (by omega) (by rw [h]; decide) (by decide) (by decide) 131072 (by rw [h]; decide) (by decide) hz2 hz3 hz5
    · exact own_core z1 z2 z3 z5 p1 p2 p3 32768 15 (by rw [h]; decide) (by omega) (by rw [h]; decide) (by decide) (by decide) 65536 (by rw [h]; decide) (by decide) hz2 hz3 hz5
    · exact own_core z1 z2 z3 z5 p1 p2 p3 65536 16 (by rw [h]; decide) (by omega) (by rw [h]; decide) (by decide) (by decide) 32768 (by rw [h]; decide) (by decide) hz2 hz3 hz5
  have q2 : z5 % z1 = 0 ↔ z2 = 0 := by
    rw [← Int32.toInt_inj, ← Int32.toInt_inj (x := z2)]; exact q
  rw [hz8]
  unfold own_carves
  by_cases h : z2 = 0
  · rw [if_pos (q2.mpr h), if_pos h]
  · rw [if_neg (fun z => h (q2.mp z)), if_neg h]
theorem own_ef0 (m : MethodId) (p0 : Int32) (p1 : Int32) (p2 : Int32) (p3 : Int32) : entryFrame m #[(.int p0), (.int p1), (.int p2), (.int p3)] maxLocals = mkF m 0 #[.val (.int p0), .val (.int p1), .val (.int p2), .val (.int p3), .unset, .unset, .unset, .unset] [] := by first | (simp [entryFrame, mkF, argsToLocals, Value.category, maxLocals]; done) | rfl
abbrev own_Q0 (n0 : Nat) (v : Option Value) (h : Heap) (L : List Loc) : Prop := v = some (.int 1) ∧ Fr n0 L
theorem own_pn0 : plainName "com/example/slabwarden/slabwarden/chunk/SlabCarvesPinLaw" = true := by first | (simp [plainName, overriddenIn]; done) | decide +kernel
set_option maxRecDepth 65536 in
set_option maxHeartbeats 40000000 in
theorem rm0 (l : Launch) (Z : State) (a0 : Array Value) (hw : ∀ d ∈ tables_1, d.before a0 Z = true) (ws : List Jvm.Cond) (p0 : Int32) (p1 : Int32) (p2 : Int32) (p3 : Int32) (h0 : Heap) (n0 : Nat)  :
    MetFree l x (head1 (Jvm.Cond.code x code maxLocals ret :: ws) room_1) (fun a U => a = #[(.int p0), (.int p1), (.int p2), (.int p3)] ∧ Z.Warmed39 U.vm ∧ U.heap = h0) (fun _ _ _ _ _ => True) (fun _ U o U' => ∃ v L, o = .returned v ∧ own_Q0 n0 v U'.heap L ∧ FrameEnd U o U' L room_1.cells room_1.slots) := by
  refine own_contract (plainFor_of_name own_pn0) (fun m => own_ef0 m p0 p1 p2 p3) ?_
  intro p e s m below meth c s₁ G hx hby hml0 hown0 hnm hret hZ X0 e0 hp hR
  have hml : c.maxLocals = 8 := hml0
  have hown : s.vm.findClass "com/example/slabwarden/slabwarden/chunk/SlabCarvesPinLaw" = some m.cls := hown0
  have N0 := Fr.nil n0
  show G s₁ (mkF m 0 #[.val (.int p0), .val (.int p1), .val (.int p2), .val (.int p3), .unset, .unset, .unset, .unset] [])
  refine hp (fun tq kq => XS.sipush X0.here hx rfl (hb hby at_0) kq) ?_
  show G s₁ (mkF m 3 #[.val (.int p0), .val (.int p1), .val (.int p2), .val (.int p3), .unset, .unset, .unset, .unset] [(.int (4096 : Int32))])
  refine hp (fun tq kq => XS.iloadN X0.here hx rfl (hb hby at_3) rfl kq) ?_
  show G s₁ (mkF m 4 #[.val (.int p0), .val (.int p1), .val (.int p2), .val (.int p3), .unset, .unset, .unset, .unset] [(.int p0), (.int (4096 : Int32))])
  refine hp (fun tq kq => X0.ldcInt hx hown (mvT hZ (hw _ (List.mem_of_getElem? (i := 0) rfl))) (g := (mkF m 4 #[.val (.int p0), .val (.int p1), .val (.int p2), .val (.int p3), .unset, .unset, .unset, .unset] [(.int p0), (.int (4096 : Int32))])) rfl (hb hby at_4) _ kq) ?_
  show G s₁ (mkF m 6 #[.val (.int p0), .val (.int p1), .val (.int p2), .val (.int p3), .unset, .unset, .unset, .unset] [(.int (2147483647 : Int32)), (.int p0), (.int (4096 : Int32))])
  refine hp (fun tq kq => XS.iand X0.here hx rfl (hb hby at_6) rfl kq) ?_
  show G s₁ (mkF m 7 #[.val (.int p0), .val (.int p1), .val (.int p2), .val (.int p3), .unset, .unset, .unset, .unset] [(.int (p0 &&& (2147483647 : Int32))), (.int (4096 : Int32))])
  refine hp (fun tq kq => XS.iconst X0.here hx rfl (hb hby at_7) kq) ?_
  show G s₁ (mkF m 8 #[.val (.int p0), .val (.int p1), .val (.int p2), .val (.int p3), .unset, .unset, .unset, .unset] [(.int (5 : Int32)), (.int (p0 &&& (2147483647 : Int32))), (.int (4096 : Int32))])
  refine hp (fun tq kq => iremM X0 hx rfl (hb hby at_8) rfl (by decide) kq) ?_
  show G s₁ (mkF m 9 #[.val (.int p0), .val (.int p1), .val (.int p2), .val (.int p3), .unset, .unset, .unset, .unset] [(.int ((p0 &&& (2147483647 : Int32)) % (5 : Int32))), (.int (4096 : Int32))])
  refine hp (fun tq kq => XS.ishl X0.here hx rfl (hb hby at_9) rfl kq) ?_
  show G s₁ (mkF m 10 #[.val (.int p0), .val (.int p1), .val (.int p2), .val (.int p3), .unset, .unset, .unset, .unset] [(.int ((4096 : Int32) <<< (((p0 &&& (2147483647 : Int32)) % (5 : Int32)) &&& 31)))])
  refine hp (fun tq kq => XS.istore X0.here hx rfl (hb hby at_10) rfl (l' := #[.val (.int p0), .val (.int p1), .val (.int p2), .val (.int p3), .val (.int ((4096 : Int32) <<< (((p0 &&& (2147483647 : Int32)) % (5 : Int32)) &&& 31))), .unset, .unset, .unset]) rfl kq) ?_
  show G s₁ (mkF m 12 #[.val (.int p0), .val (.int p1), .val (.int p2), .val (.int p3), .val (.int ((4096 : Int32) <<< (((p0 &&& (2147483647 : Int32)) % (5 : Int32)) &&& 31))), .unset, .unset, .unset] [])
  refine (?_ : ∀ (z1 : Int32), z1 = ((4096 : Int32) <<< (((p0 &&& (2147483647 : Int32)) % (5 : Int32)) &&& 31)) → G s₁ (mkF m 12 #[.val (.int p0), .val (.int p1), .val (.int p2), .val (.int p3), .val (.int z1), .unset, .unset, .unset] [])) _ rfl
  intro z1 hz1
  refine hp (fun tq kq => XS.iloadN X0.here hx rfl (hb hby at_12) rfl kq) ?_
  show G s₁ (mkF m 13 #[.val (.int p0), .val (.int p1), .val (.int p2), .val (.int p3), .val (.int z1), .unset, .unset, .unset] [(.int p2)])
  refine hp (fun tq kq => XS.iload X0.here hx rfl (hb hby at_13) rfl kq) ?_
  show G s₁ (mkF m 15 #[.val (.int p0), .val (.int p1), .val (.int p2), .val (.int p3), .val (.int z1), .unset, .unset, .unset] [(.int z1), (.int p2)])
  refine hp (fun tq kq => XS.iconst X0.here hx rfl (hb hby at_15) kq) ?_
  show G s₁ (mkF m 16 #[.val (.int p0), .val (.int p1), .val (.int p2), .val (.int p3), .val (.int z1), .unset, .unset, .unset] [(.int (1 : Int32)), (.int z1), (.int p2)])
  refine hp (fun tq kq => XS.isub X0.here hx rfl (hb hby at_16) rfl kq) ?_
  show G s₁ (mkF m 17 #[.val (.int p0), .val (.int p1), .val (.int p2), .val (.int p3), .val (.int z1), .unset, .unset, .unset] [(.int (z1 - (1 : Int32))), (.int p2)])
  refine hp (fun tq kq => XS.iand X0.here hx rfl (hb hby at_17) rfl kq) ?_
  show G s₁ (mkF m 18 #[.val (.int p0), .val (.int p1), .val (.int p2), .val (.int p3), .val (.int z1), .unset, .unset, .unset] [(.int (p2 &&& (z1 - (1 : Int32))))])
  refine hp (fun tq kq => XS.istore X0.here hx rfl (hb hby at_18) rfl (l' := #[.val (.int p0), .val (.int p1), .val (.int p2), .val (.int p3), .val (.int z1), .val (.int (p2 &&& (z1 - (1 : Int32)))), .unset, .unset]) rfl kq) ?_
  show G s₁ (mkF m 20 #[.val (.int p0), .val (.int p1), .val (.int p2), .val (.int p3), .val (.int z1), .val (.int (p2 &&& (z1 - (1 : Int32)))), .unset, .unset] [])
  refine (?_ : ∀ (z2 : Int32), z2 = (p2 &&& (z1 - (1 : Int32))) → G s₁ (mkF m 20 #[.val (.int p0), .val (.int p1), .val (.int p2), .val (.int p3), .val (.int z1), .val (.int z2), .unset, .unset] [])) _ rfl
  intro z2 hz2
  refine hp (fun tq kq => XS.iloadN X0.here hx rfl (hb hby at_20) rfl kq) ?_
  show G s₁ (mkF m 21 #[.val (.int p0), .val (.int p1), .val (.int p2), .val (.int p3), .val (.int z1), .val (.int z2), .unset, .unset] [(.int p1)])
  refine hp (fun tq kq => X0.ldcInt hx hown (mvT hZ (hw _ (List.mem_of_getElem? (i := 0) rfl))) (g := (mkF m 21 #[.val (.int p0), .val (.int p1), .val (.int p2), .val (.int p3), .val (.int z1), .val (.int z2), .unset, .unset] [(.int p1)])) rfl (hb hby at_21) _ kq) ?_
  show G s₁ (mkF m 23 #[.val (.int p0), .val (.int p1), .val (.int p2), .val (.int p3), .val (.int z1), .val (.int z2), .unset, .unset] [(.int (2147483647 : Int32)), (.int p1)])
  refine hp (fun tq kq => XS.iand X0.here hx rfl (hb hby at_23) rfl kq) ?_
  show G s₁ (mkF m 24 #[.val (.int p0), .val (.int p1), .val (.int p2), .val (.int p3), .val (.int z1), .val (.int z2), .unset, .unset] [(.int (p1 &&& (2147483647 : Int32)))])
  refine hp (fun tq kq => X0.ldcInt hx hown (mvT hZ (hw _ (List.mem_of_getElem? (i := 0) rfl))) (g := (mkF m 24 #[.val (.int p0), .val (.int p1), .val (.int p2), .val (.int p3), .val (.int z1), .val (.int z2), .unset, .unset] [(.int (p1 &&& (2147483647 : Int32)))])) rfl (hb hby at_24) _ kq) ?_
  show G s₁ (mkF m 26 #[.val (.int p0), .val (.int p1), .val (.int p2), .val (.int p3), .val (.int z1), .val (.int z2), .unset, .unset] [(.int (2147483647 : Int32)), (.int (p1 &&& (2147483647 : Int32)))])
  refine hp (fun tq kq => XS.iload X0.here hx rfl (hb hby at_26) rfl kq) ?_
  show G s₁ (mkF m 28 #[.val (.int p0), .val (.int p1), .val (.int p2), .val (.int p3), .val (.int z1), .val (.int z2), .unset, .unset] [(.int z1), (.int (2147483647 : Int32)), (.int (p1 &&& (2147483647 : Int32)))])
  refine hp (fun tq kq => XS.idiv X0.here hx rfl (hb hby at_28) rfl (own_ne1 p0 p1 p2 p3 z1 hz1 z2 hz2) kq) ?_
  show G s₁ (mkF m 29 #[.val (.int p0), .val (.int p1), .val (.int p2), .val (.int p3), .val (.int z1), .val (.int z2), .unset, .unset] [(.int ((2147483647 : Int32) / z1)), (.int (p1 &&& (2147483647 : Int32)))])
  refine hp (fun tq kq => XS.iconst X0.here hx rfl (hb hby at_29) kq) ?_
  show G s₁ (mkF m 30 #[.val (.int p0), .val (.int p1), .val (.int p2), .val (.int p3), .val (.int z1), .val (.int z2), .unset, .unset] [(.int (1 : Int32)), (.int ((2147483647 : Int32) / z1)), (.int (p1 &&& (2147483647 : Int32)))])
  refine hp (fun tq kq => XS.iadd X0.here hx rfl (hb hby at_30) rfl kq) ?_
  show G s₁ (mkF m 31 #[.val (.int p0), .val (.int p1), .val (.int p2), .val (.int p3), .val (.int z1), .val (.int z2), .unset, .unset] [(.int (((2147483647 : Int32) / z1) + (1 : Int32))), (.int (p1 &&& (2147483647 : Int32)))])
  refine hp (fun tq kq => iremM X0 hx rfl (hb hby at_31) rfl (own_ne2 p0 p1 p2 p3 z1 hz1 z2 hz2) kq) ?_
  show G s₁ (mkF m 32 #[.val (.int p0), .val (.int p1), .val (.int p2), .val (.int p3), .val (.int z1), .val (.int z2), .unset, .unset] [(.int ((p1 &&& (2147483647 : Int32)) % (((2147483647 : Int32) / z1) + (1 : Int32))))])
  refine hp (fun tq kq => XS.istore X0.here hx rfl (hb hby at_32) rfl (l' := #[.val (.int p0), .val (.int p1), .val (.int p2), .val (.int p3), .val (.int z1), .val (.int z2), .val (.int ((p1 &&& (2147483647 : Int32)) % (((2147483647 : Int32) / z1) + (1 : Int32)))), .unset]) rfl kq) ?_
  show G s₁ (mkF m 34 #[.val (.int p0), .val (.int p1), .val (.int p2), .val (.int p3), .val (.int z1), .val (.int z2), .val (.int ((p1 &&& (2147483647 : Int32)) % (((2147483647 : Int32) / z1) + (1 : Int32)))), .unset] [])
  refine (?_ : ∀ (z3 : Int32), z3 = ((p1 &&& (2147483647 : Int32)) % (((2147483647 : Int32) / z1) + (1 : Int32))) → G s₁ (mkF m 34 #[.val (.int p0), .val (.int p1), .val (.int p2), .val (.int p3), .val (.int z1), .val (.int z2), .val (.int z3), .unset] [])) _ rfl
  intro z3 hz3
  refine hp (fun tq kq => XS.iload X0.here hx rfl (hb hby at_34) rfl kq) ?_
  show G s₁ (mkF m 36 #[.val (.int p0), .val (.int p1), .val (.int p2), .val (.int p3), .val (.int z1), .val (.int z2), .val (.int z3), .unset] [(.int z3)])
  refine hp (fun tq kq => XS.iload X0.here hx rfl (hb hby at_36) rfl kq) ?_
  show G s₁ (mkF m 38 #[.val (.int p0), .val (.int p1), .val (.int p2), .val (.int p3), .val (.int z1), .val (.int z2), .val (.int z3), .unset] [(.int z1), (.int z3)])
  refine hp (fun tq kq => XS.imul X0.here hx rfl (hb hby at_38) rfl kq) ?_
  show G s₁ (mkF m 39 #[.val (.int p0), .val (.int p1), .val (.int p2), .val (.int p3), .val (.int z1), .val (.int z2), .val (.int z3), .unset] [(.int (z3 * z1))])
  refine hp (fun tq kq => XS.iload X0.here hx rfl (hb hby at_39) rfl kq) ?_
  show G s₁ (mkF m 41 #[.val (.int p0), .val (.int p1), .val (.int p2), .val (.int p3), .val (.int z1), .val (.int z2), .val (.int z3), .unset] [(.int z2), (.int (z3 * z1))])
  refine hp (fun tq kq => XS.iadd X0.here hx rfl (hb hby at_41) rfl kq) ?_
  show G s₁ (mkF m 42 #[.val (.int p0), .val (.int p1), .val (.int p2), .val (.int p3), .val (.int z1), .val (.int z2), .val (.int z3), .unset] [(.int ((z3 * z1) + z2))])
  refine hp (fun tq kq => XS.istore X0.here hx rfl (hb hby at_42) rfl (l' := #[.val (.int p0), .val (.int p1), .val (.int p2), .val (.int p3), .val (.int z1), .val (.int z2), .val (.int z3), .val (.int ((z3 * z1) + z2))]) rfl kq) ?_
  show G s₁ (mkF m 44 #[.val (.int p0), .val (.int p1), .val (.int p2), .val (.int p3), .val (.int z1), .val (.int z2), .val (.int z3), .val (.int ((z3 * z1) + z2))] [])
  refine hp (fun tq kq => XS.iloadN X0.here hx rfl (hb hby at_44) rfl kq) ?_
  show G s₁ (mkF m 45 #[.val (.int p0), .val (.int p1), .val (.int p2), .val (.int p3), .val (.int z1), .val (.int z2), .val (.int z3), .val (.int ((z3 * z1) + z2))] [(.int p3)])
  refine hp (fun tq kq => XS.iconst X0.here hx rfl (hb hby at_45) kq) ?_
  show G s₁ (mkF m 46 #[.val (.int p0), .val (.int p1), .val (.int p2), .val (.int p3), .val (.int z1), .val (.int z2), .val (.int z3), .val (.int ((z3 * z1) + z2))] [(.int (1 : Int32)), (.int p3)])
  refine hp (fun tq kq => XS.iand X0.here hx rfl (hb hby at_46) rfl kq) ?_
  show G s₁ (mkF m 47 #[.val (.int p0), .val (.int p1), .val (.int p2), .val (.int p3), .val (.int z1), .val (.int z2), .val (.int z3), .val (.int ((z3 * z1) + z2))] [(.int (p3 &&& (1 : Int32)))])
  have j4 : ∀ (z5 : Int32), z5 = (if (p3 &&& (1 : Int32)) = (0 : Int32) then ((z3 * z1) + z2) else (-((z3 * z1) + z2))) → G s₁ (mkF m 55 #[.val (.int p0), .val (.int p1), .val (.int p2), .val (.int p3), .val (.int z1), .val (.int z2), .val (.int z3), .val (.int z5)] []) := by
    intro z5 hz5
    refine hp (fun tq kq => XS.iload X0.here hx rfl (hb hby at_55) rfl kq) ?_
    show G s₁ (mkF m 57 #[.val (.int p0), .val (.int p1), .val (.int p2), .val (.int p3), .val (.int z1), .val (.int z2), .val (.int z3), .val (.int z5)] [(.int z5)])
    refine hp (fun tq kq => XS.iload X0.here hx rfl (hb hby at_57) rfl kq) ?_
    show G s₁ (mkF m 59 #[.val (.int p0), .val (.int p1), .val (.int p2), .val (.int p3), .val (.int z1), .val (.int z2), .val (.int z3), .val (.int z5)] [(.int z1), (.int z5)])
    obtain ⟨v6, T6, L6, X6, hQ6, st6⟩ := own_callS X0 hx hZ (y := (⟨"com/example/slabwarden/slabwarden/chunk/Slab", "carves", "(II)Z"⟩ : MethodName)) (rm := ({ frames := 0, cells := 0, slots := 0, locals := 0 } : Room)) 0 hown (hw _ (List.mem_of_getElem? (i := 1) rfl)) (hw _ (List.mem_of_getElem? (i := 2) rfl)) (hw _ (List.mem_of_getElem? (i := 3) rfl)) (hw _ (List.mem_of_getElem? (i := 4) rfl)) (by decide) (rm1 l Z a0 hw [] z5 z1 h0 n0 (own_ne3 p0 p1 p2 p3 z1 hz1 z2 hz2 z3 hz3 z5 hz5)) e0 (by decide) (by decide) (g := (mkF m 59 #[.val (.int p0), .val (.int p1), .val (.int p2), .val (.int p3), .val (.int z1), .val (.int z2), .val (.int z3), .val (.int z5)] [(.int z1), (.int z5)])) rfl (by rw [hml]; rfl) [(.int z5), (.int z1)] [] own_pd0 rfl rfl (by show 2 * 0 + _ ≤ _; exact Nat.le_of_eq rfl) (hb hby at_59) rfl (by decide) (by decide)
    obtain ⟨rfl, N6, e6⟩ := hQ6
    have F6 := Fr.app N0 N6
    refine hp st6 ?_
    show G T6 (mkF m 62 #[.val (.int p0), .val (.int p1), .val (.int p2), .val (.int p3), .val (.int z1), .val (.int z2), .val (.int z3), .val (.int z5)] [(.int (own_carves z5 z1))])
    refine hp (fun tq kq => XS.iload X6.here hx rfl (hb hby at_62) rfl kq) ?_
    show G T6 (mkF m 64 #[.val (.int p0), .val (.int p1), .val (.int p2), .val (.int p3), .val (.int z1), .val (.int z2), .val (.int z3), .val (.int z5)] [(.int z2), (.int (own_carves z5 z1))])
    have j7 : ∀ (z8 : Int32), z8 = (if z2 = (0 : Int32) then (0 : Int32) else (1 : Int32)) → G T6 (mkF m 72 #[.val (.int p0), .val (.int p1), .val (.int p2), .val (.int p3), .val (.int z1), .val (.int z2), .val (.int z3), .val (.int z5)] [(.int z8), (.int (own_carves z5 z1))]) := by
      intro z8 hz8
      refine hp (fun tq kq => XS.icmpNo X6.here hx rfl (hb hby at_72) rfl (teq (own_ob p0 p1 p2 p3 z1 hz1 z2 hz2 z3 hz3 z5 hz5 z8 hz8)).2 kq) ?_
      show G T6 (mkF m 75 #[.val (.int p0), .val (.int p1), .val (.int p2), .val (.int p3), .val (.int z1), .val (.int z2), .val (.int z3), .val (.int z5)] [])
      refine hp (fun tq kq => XS.iconst X6.here hx rfl (hb hby at_75) kq) ?_
      show G T6 (mkF m 76 #[.val (.int p0), .val (.int p1), .val (.int p2), .val (.int p3), .val (.int z1), .val (.int z2), .val (.int z3), .val (.int z5)] [(.int (1 : Int32))])
      refine hp (fun tq kq => XS.goto X6.here hx rfl (pc0 := 76) (pc' := 80) rfl (hb hby at_76) (by decide) (by decide) kq) ?_
      show G T6 (mkF m 80 #[.val (.int p0), .val (.int p1), .val (.int p2), .val (.int p3), .val (.int z1), .val (.int z2), .val (.int z3), .val (.int z5)] [(.int (1 : Int32))])
      exact hR X6 (fun fs hl => retN X6 hx (t := .boolean) hret (by simp) (hb hby at_80) hl) (fun q => by rw [hret] at q; cases q) ⟨rfl, F6⟩ (by decide) (by decide)
    by_cases hb9 : z2 = (0 : Int32)
    · refine hp (fun tq kq => XS.ifYes X6.here hx rfl (pc0 := 64) (pc' := 71) rfl (hb hby at_64) rfl ((if0 _ _).trans (teq hb9).1) (by decide) (by decide) kq) ?_
      show G T6 (mkF m 71 #[.val (.int p0), .val (.int p1), .val (.int p2), .val (.int p3), .val (.int z1), .val (.int z2), .val (.int z3), .val (.int z5)] [(.int (own_carves z5 z1))])
      refine hp (fun tq kq => XS.iconst X6.here hx rfl (hb hby at_71) kq) ?_
      show G T6 (mkF m 72 #[.val (.int p0), .val (.int p1), .val (.int p2), .val (.int p3), .val (.int z1), .val (.int z2), .val (.int z3), .val (.int z5)] [(.int (0 : Int32)), (.int (own_carves z5 z1))])
      exact j7 _ ((if_pos hb9)).symm
    · refine hp (fun tq kq => XS.ifNo X6.here hx rfl (hb hby at_64) rfl ((if0 _ _).trans (feq hb9).1) kq) ?_
      show G T6 (mkF m 67 #[.val (.int p0), .val (.int p1), .val (.int p2), .val (.int p3), .val (.int z1), .val (.int z2), .val (.int z3), .val (.int z5)] [(.int (own_carves z5 z1))])
      refine hp (fun tq kq => XS.iconst X6.here hx rfl (hb hby at_67) kq) ?_
      show G T6 (mkF m 68 #[.val (.int p0), .val (.int p1), .val (.int p2), .val (.int p3), .val (.int z1), .val (.int z2), .val (.int z3), .val (.int z5)] [(.int (1 : Int32)), (.int (own_carves z5 z1))])
      refine hp (fun tq kq => XS.goto X6.here hx rfl (pc0 := 68) (pc' := 72) rfl (hb hby at_68) (by decide) (by decide) kq) ?_
      show G T6 (mkF m 72 #[.val (.int p0), .val (.int p1), .val (.int p2), .val (.int p3), .val (.int z1), .val (.int z2), .val (.int z3), .val (.int z5)] [(.int (1 : Int32)), (.int (own_carves z5 z1))])
      exact j7 _ ((if_neg hb9)).symm
  by_cases hb10 : (p3 &&& (1 : Int32)) = (0 : Int32)
  · refine hp (fun tq kq => XS.ifYes X0.here hx rfl (pc0 := 47) (pc' := 55) rfl (hb hby at_47) rfl ((if0 _ _).trans (teq hb10).1) (by decide) (by decide) kq) ?_
    show G s₁ (mkF m 55 #[.val (.int p0), .val (.int p1), .val (.int p2), .val (.int p3), .val (.int z1), .val (.int z2), .val (.int z3), .val (.int ((z3 * z1) + z2))] [])
    exact j4 _ ((if_pos hb10)).symm
  · refine hp (fun tq kq => XS.ifNo X0.here hx rfl (hb hby at_47) rfl ((if0 _ _).trans (feq hb10).1) kq) ?_
    show G s₁ (mkF m 50 #[.val (.int p0), .val (.int p1), .val (.int p2), .val (.int p3), .val (.int z1), .val (.int z2), .val (.int z3), .val (.int ((z3 * z1) + z2))] [])
    refine hp (fun tq kq => XS.iload X0.here hx rfl (hb hby at_50) rfl kq) ?_
    show G s₁ (mkF m 52 #[.val (.int p0), .val (.int p1), .val (.int p2), .val (.int p3), .val (.int z1), .val (.int z2), .val (.int z3), .val (.int ((z3 * z1) + z2))] [(.int ((z3 * z1) + z2))])
    refine hp (fun tq kq => XS.ineg X0.here hx rfl (hb hby at_52) rfl kq) ?_
    show G s₁ (mkF m 53 #[.val (.int p0), .val (.int p1), .val (.int p2), .val (.int p3), .val (.int z1), .val (.int z2), .val (.int z3), .val (.int ((z3 * z1) + z2))] [(.int (-((z3 * z1) + z2)))])
    refine hp (fun tq kq => XS.istore X0.here hx rfl (hb hby at_53) rfl (l' := #[.val (.int p0), .val (.int p1), .val (.int p2), .val (.int p3), .val (.int z1), .val (.int z2), .val (.int z3), .val (.int (-((z3 * z1) + z2)))]) rfl kq) ?_
    show G s₁ (mkF m 55 #[.val (.int p0), .val (.int p1), .val (.int p2), .val (.int p3), .val (.int z1), .val (.int z2), .val (.int z3), .val (.int (-((z3 * z1) + z2)))] [])
    exact j4 _ ((if_neg hb10)).symm
set_option maxRecDepth 65536 in
set_option maxHeartbeats 40000000 in
theorem comes_1 {Post : Tables → Env → Array Value → State → Outcome → State → Prop} (hpost : ∀ tb e args s v u, (limb_1_1.after args s (.returned v) u = true ∧ limb_1_2.after args s (.returned v) u = true ∧ True) → FrameEnd s (.returned v) u (Jvm.fieldLocs frame_1_writes args s ++ Jvm.arrayLocs frame_1_arrays args s ++ Jvm.staticLocs frame_1_statics s) 0 0 → Post tb e args s (.returned v) u) :
    ArmFor flags0 classFile x code maxLocals ret World_1 tables_1 room_1 Calls_1 rest_1 Pre_1 Post := by
  intro l hfl _ _ p e ha hc hk s m args below hf hA hF happ hP
  obtain ⟨hcalls, hrest, hpre⟩ := hP
  obtain ⟨-, -, -, hnamed, -, -, -, hat⟩ := (Spec.applies_iff hf).mp happ
  obtain ⟨hg, hn⟩ := and_e (Cond.before_iff.mp (show (Jvm.Cond.and given_1 narrow_1).before args s = true from hpre))
  obtain ⟨hcnt, hgs⟩ := and_e hg
  obtain ⟨ha0, hgs⟩ := and_e hgs
  obtain ⟨ha1, hgs⟩ := and_e hgs
  obtain ⟨ha2, hgs⟩ := and_e hgs
  have ha3 := hgs
  obtain ⟨w0, w1, w2, w3, rfl⟩ : ∃ w0 w1 w2 w3 : Value, args = #[w0, w1, w2, w3] := by
    have hs : args.size = 4 := by simpa [Cond.value, given_1] using hcnt
    obtain ⟨L⟩ := args
    match L, hs with
    | [w0, w1, w2, w3], _ => exact ⟨w0, w1, w2, w3, rfl⟩
  have hw := fun d (hd : d ∈ tables_1) => atoms_spec (ws := Jvm.Cond.code x code maxLocals ret :: tables_1) hat d (List.mem_cons_of_mem _ hd)
  obtain ⟨i0, ei0⟩ := is_v ha0
  obtain rfl : w0 = (.int i0) := Option.some.inj ei0
  obtain ⟨i1, ei1⟩ := is_v ha1
  obtain rfl : w1 = (.int i1) := Option.some.inj ei1
  obtain ⟨i2, ei2⟩ := is_v ha2
  obtain rfl : w2 = (.int i2) := Option.some.inj ei2
  obtain ⟨i3, ei3⟩ := is_v ha3
  obtain rfl : w3 = (.int i3) := Option.some.inj ei3
  obtain ⟨n, o, h1, h2, h3, _, L, rfl, ⟨rfl, N⟩, hq⟩ := rm0 l s _ hw tables_1 i0 i1 i2 i3 s.heap s.heap.size p e ha hc hk s m _ below hf ((Spec.applies_iff_loose hf).mp happ).1 ⟨rfl, State.Warmed39.refl s, rfl⟩ trivial
  exact ⟨n, _, h1, h2, h3, hpost _ _ _ _ _ _ ⟨Cond.after_iff.mpr rfl, Cond.after_iff.mpr (eq_i res_at (Term.int_eval (1)) rfl), trivial⟩ ⟨hq.1, hq.2.1, (hq.2.2.sift fun y hy => Or.inr (N y hy)).mono (by decide) (by decide)⟩⟩
theorem main_1_1 : Claimed_1_1 := comes_1 fun _ _ _ _ _ _ h hF => ⟨h.1, hF⟩
theorem main_1_2 : Claimed_1_2 := comes_1 fun _ _ _ _ _ _ h hF => ⟨h.2.1, hF⟩
end Jvm.Pilot.@@N@@
namespace Jvm.Pilot.@@N@@
open Jvm Jvm.ClassFile Sem Op Lib Jvm.Free Jvm.Stand Jvm.Pilot.@@N@@.Jvm.D
/-! MADE BY PROGRAM (witnessworld.py) out of the Statement's table words and the real class files: 9 classes; the members and pool entries that the words name. The judged class is class 1, her method 1. -/
namespace start1
open Jvm.ClassFile
def u (s : String) : CpInfo := .utf8 (stringToUtf16 s)
/-- a pool by its gaps: so many unusable entries, then the entry; so many at the end -/
def gap : Nat → List CpInfo → List CpInfo
  | 0, r => r
  | n + 1, r => .unusable :: gap n r
def poolList (es : List (Nat × CpInfo)) (last : Nat) : List CpInfo := es.foldr (fun e r => gap e.1 (e.2 :: r)) (gap last [])
def pool (es : List (Nat × CpInfo)) (last : Nat) : Array CpInfo := ⟨poolList es last⟩
def fileOf (pool : Array CpInfo) (this : Nat) (attrs : Array Attribute := #[]) (ms : Array MethodInfo := #[]) (fl : Nat := 33) (sup : Nat := 0) (ifs : Array Nat := #[]) (fds : Array FieldInfo := #[]) : ClassFile where
  minorVersion := 0
  majorVersion := 65
  constantPool := pool
  accessFlags := fl
  thisClass := this
  superClass := sup
  interfaces := ifs
  fields := fds
  methods := ms
  attributes := attrs
def plain (name : String) (sup : Option ClassId) : Class where
  name := name
  kind := .ordinary
  loader := none
  accessFlags := 33
  super := sup
  interfaces := #[]
  cf := none
  fields := #[]
  methods := #[]
  instanceTypes := #[]
  staticTypes := #[]
  resolved := #[]
  callSites := []
  init := .initialized
  statics := none
  mirror := none

def pool0 : Array CpInfo := pool [(5, u "<init>"), (0, u "()V"), (1, .class_ 10), (1, u "java/lang/Object")] 113

def k0m0 : Method := { name := "<init>", desc := "()V", sig := { parameters := [], returnType := none }, accessFlags := 1, code := none }
/-- java/lang/Object -/
def k0 : Class := { plain "java/lang/Object" none with
  accessFlags := 33
  interfaces := #[]
  cf := some (fileOf pool0 8 #[] #[{ accessFlags := 1, nameIndex := 5, descriptorIndex := 6, attributes := #[] }] 33 0 #[] #[])
  fields := #[]
  methods := #[k0m0]
  instanceTypes := #[]
  staticTypes := #[]
  resolved := Array.replicate 124 none
  statics := none }

def pool1 : Array CpInfo := pool [(2, .class_ 4), (1, u "java/lang/Object"), (0, u "<init>"), (0, u "()V"), (0, .integer 2147483647), (2, .methodref 11 12), (0, .class_ 13), (0, .nameAndType 14 15), (0, u "com/example/slabwarden/slabwarden/chunk/Slab"), (0, u "carves"), (0, u "(II)Z"), (0, .class_ 17), (0, u "com/example/slabwarden/slabwarden/chunk/SlabCarvesPinLaw"), (2, u "law"), (0, u "(IIII)Z")] 3

def k1m0 : Method := { name := "<init>", desc := "()V", sig := { parameters := [], returnType := none }, accessFlags := 1, code := none }
def k1c1 : Code := { maxStack := 3, maxLocals := 8, code := code, exceptionTable := #[], attributes := #[] }
def k1m1 : Method := { name := "law", desc := "(IIII)Z", sig := { parameters := [.int, .int, .int, .int], returnType := some .boolean }, accessFlags := 9, code := some k1c1 }
/-- com/example/slabwarden/slabwarden/chunk/SlabCarvesPinLaw -/
def k1 : Class := { plain "com/example/slabwarden/slabwarden/chunk/SlabCarvesPinLaw" (some 0) with
  accessFlags := 49
  interfaces := #[]
  cf := some (fileOf pool1 16 #[] #[{ accessFlags := 1, nameIndex := 5, descriptorIndex := 6, attributes := #[] }, { accessFlags := 9, nameIndex := 20, descriptorIndex := 21, attributes := #[] }] 49 2 #[] #[])
  fields := #[]
  methods := #[k1m0, k1m1]
  instanceTypes := #[]
  staticTypes := #[]
  resolved := Array.replicate 25 none
  statics := none }

def pool2 : Array CpInfo := pool [(2, .class_ 4), (1, u "java/lang/Object"), (3, .class_ 10), (1, u "com/example/slabwarden/slabwarden/chunk/Slab"), (0, u "run"), (0, u "Lcom/example/slabwarden/slabwarden/chunk/Chunk$Run;"), (2, u "sizeClass"), (0, u "I"), (2, u "slotSize"), (8, u "slots"), (4, u "free"), (0, u "[J"), (4, u "freeSlots"), (15, .class_ 56), (0, u "com/example/slabwarden/slabwarden/chunk/Slab$Slot"), (5, u "$assertionsDisabled"), (0, u "Z"), (19, u "previous"), (0, u "Lcom/example/slabwarden/slabwarden/chunk/Slab;"), (0, u "next"), (5, u "carves"), (0, u "(II)Z")] 30

def k2c0 : Code := { maxStack := 2, maxLocals := 2, code := prog_31_method_2_code, exceptionTable := #[], attributes := #[] }
def k2m0 : Method := { name := "carves", desc := "(II)Z", sig := { parameters := [.int, .int], returnType := some .boolean }, accessFlags := 8, code := some k2c0 }
/-- com/example/slabwarden/slabwarden/chunk/Slab -/
def k2 : Class := { plain "com/example/slabwarden/slabwarden/chunk/Slab" (some 0) with
  accessFlags := 48
  interfaces := #[]
  cf := some (fileOf pool2 8 #[.nestMembers #[55]] #[{ accessFlags := 8, nameIndex := 91, descriptorIndex := 92, attributes := #[] }] 48 2 #[] #[{ accessFlags := 16, nameIndex := 11, descriptorIndex := 12, attributes := #[] }, { accessFlags := 16, nameIndex := 15, descriptorIndex := 16, attributes := #[] }, { accessFlags := 18, nameIndex := 19, descriptorIndex := 16, attributes := #[] }, { accessFlags := 18, nameIndex := 28, descriptorIndex := 16, attributes := #[] }, { accessFlags := 18, nameIndex := 33, descriptorIndex := 34, attributes := #[] }, { accessFlags := 2, nameIndex := 39, descriptorIndex := 16, attributes := #[] }, { accessFlags := 0, nameIndex := 83, descriptorIndex := 84, attributes := #[] }, { accessFlags := 0, nameIndex := 85, descriptorIndex := 84, attributes := #[] }, { accessFlags := 4120, nameIndex := 62, descriptorIndex := 63, attributes := #[] }])
  fields := #[{ name := "run", type := (.object "com/example/slabwarden/slabwarden/chunk/Chunk$Run"), accessFlags := 16, slot := 0, constantValue := 0 }, { name := "sizeClass", type := .int, accessFlags := 16, slot := 1, constantValue := 0 }, { name := "slotSize", type := .int, accessFlags := 18, slot := 2, constantValue := 0 }, { name := "slots", type := .int, accessFlags := 18, slot := 3, constantValue := 0 }, { name := "free", type := (.array .long), accessFlags := 18, slot := 4, constantValue := 0 }, { name := "freeSlots", type := .int, accessFlags := 2, slot := 5, constantValue := 0 }, { name := "previous", type := (.object "com/example/slabwarden/slabwarden/chunk/Slab"), accessFlags := 0, slot := 6, constantValue := 0 }, { name := "next", type := (.object "com/example/slabwarden/slabwarden/chunk/Slab"), accessFlags := 0, slot := 7, constantValue := 0 }, { name := "$assertionsDisabled", type := .boolean, accessFlags := 4120, slot := 0, constantValue := 0 }]
  methods := #[k2m0]
  instanceTypes := #[(.object "com/example/slabwarden/slabwarden/chunk/Chunk$Run"), .int, .int, .int, (.array .long), .int, (.object "com/example/slabwarden/slabwarden/chunk/Slab"), (.object "com/example/slabwarden/slabwarden/chunk/Slab")]
  staticTypes := #[.boolean]
  resolved := Array.replicate 123 none
  statics := none }

def pool3 : Array CpInfo := pool [(1, u "java/lang/Cloneable"), (0, .class_ 1), (0, u "java/lang/Object"), (0, .class_ 3)] 3

/-- java/lang/Cloneable -/
def k3 : Class := { plain "java/lang/Cloneable" (some 0) with
  accessFlags := 1537
  interfaces := #[]
  cf := some (fileOf pool3 2 #[] #[] 1537 4 #[] #[])
  fields := #[]
  methods := #[]
  instanceTypes := #[]
  staticTypes := #[]
  resolved := Array.replicate 8 none
  statics := none }

def pool4 : Array CpInfo := pool [(1, u "java/io/Serializable"), (0, .class_ 1), (0, u "java/lang/Object"), (0, .class_ 3)] 3

/-- java/io/Serializable -/
def k4 : Class := { plain "java/io/Serializable" (some 0) with
  accessFlags := 1537
  interfaces := #[]
  cf := some (fileOf pool4 2 #[] #[] 1537 4 #[] #[])
  fields := #[]
  methods := #[]
  instanceTypes := #[]
  staticTypes := #[]
  resolved := Array.replicate 8 none
  statics := none }

/-- the primitive byte -/
def k5 : Class := { plain "byte" none with kind := .primitive 'B', accessFlags := 0x411 }
/-- [B -/
def k6 : Class := { plain "[B" (some 0) with kind := .array 5 .byte, interfaces := #[3, 4], accessFlags := 1041 }

/-- the primitive int -/
def k7 : Class := { plain "int" none with kind := .primitive 'I', accessFlags := 0x411 }
/-- [I -/
def k8 : Class := { plain "[I" (some 0) with kind := .array 7 .int, interfaces := #[3, 4], accessFlags := 1041 }

def heap : Heap := #[]
def classes : Array Class := #[k0, k1, k2, k3, k4, k5, k6, k7, k8]
def interned : List (Array UInt16 × Addr) := []
def slotsUsed : Nat := 0
def theMethod : MethodId := ⟨1, 1⟩
def args0 : Array Value := #[.int 5, .int 3, .int 7, .int 9]
def aboutOver (below : List Frame) : State where
  vm := { classes := classes, interned := interned.toArray }
  heap := heap
  slotsUsed := slotsUsed
  threads := #[{ frames := .invoking theMethod args0 :: below }]
def below0 : List Frame := [.native { method := ⟨0, 0⟩, args := #[] }]
def about1 : State := aboutOver below0
def p0 : Program := .bare "" "" ""
def e0 : Env := launch0.env 0 0 0
theorem w_frames : about1.frames = Frame.invoking theMethod args0 :: below0 := rfl
set_option maxRecDepth 65536 in
theorem w_args : argsFit about1.vm theMethod args0 = true := by decide +kernel
set_option maxRecDepth 65536 in
theorem w_heap : heapFits about1 = true := by decide +kernel
set_option maxRecDepth 65536 in
theorem w_runnable : about1.curStatus? = some .runnable := by decide +kernel
set_option maxRecDepth 65536 in
theorem w_alone : about1.alone = true := by decide +kernel
set_option maxRecDepth 65536 in
theorem w_named : about1.methodNamed? x = some theMethod := by decide +kernel
set_option maxRecDepth 65536 in
theorem w_hears : about1.hears theMethod below0 = true := by decide +kernel
set_option maxRecDepth 65536 in
theorem w_ripe : about1.ripe theMethod args0 below0 = true := by decide +kernel
theorem w_running : about1.status = .running := rfl
set_option maxRecDepth 65536 in
theorem w_room : about1.hasRoom e0.platform room_1 = true :=
  launch0.hasRoom_least _ room_1 (by decide +kernel) (by decide +kernel) (by decide +kernel) (by decide +kernel) (by decide +kernel) (by decide +kernel)
theorem allAtoms_all (ts : List Jvm.Cond) (a : Array Jvm.Value) (st : Jvm.State) : (allAtoms ts).before a st = ts.all (fun c => c.before a st) := by
  induction ts with
  | nil => rfl
  | cons c t ih =>
    show (Jvm.Cond.and c (allAtoms t)).before a st = _
    rw [Jvm.Cond.before_and, ih, List.all_cons]
def words1 : List Jvm.Cond := Jvm.Cond.code x code maxLocals ret :: tables_1
/-- a 'code' word, met by the world's own term for the bytes: nothing is compared byte by byte -/
theorem code_word {y : MethodName} {bytes : ByteArray} {mx : Nat} {rt : Option FieldType} {a : Array Value} {s : State} {m : MethodId} {meth : Method} {c : Code} (h1 : s.methodNamed? y = some m) (h2 : s.vm.method? m = some meth) (h3 : meth.code = some c) (h4 : c.code = bytes)
    (h5 : (c.maxLocals == mx && c.exceptionTable.isEmpty && decide (c.maxStack ≤ mostOperands) && decide (meth.sig.returnType = rt) && !meth.locks && decide (parseMethodDescriptor y.desc = some meth.sig)) = true) : (Jvm.Cond.code y bytes mx rt).before a s = true := by
  simp only [Bool.and_eq_true, beq_iff_eq, Bool.not_eq_true', decide_eq_true_eq] at h5
  obtain ⟨⟨⟨⟨⟨g1, g2⟩, g3⟩, g4⟩, g5⟩, g6⟩ := h5
  simp [Cond.before, Cond.holds, Cond.value, h1, h2, h3, h4, g1, g2, g3, g4, g5, g6]
def isCode : Jvm.Cond → Bool
  | .code _ _ _ _ => true
  | _ => false
theorem all_split {L : List Jvm.Cond} {P : Jvm.Cond → Bool} (h1 : L.all (fun c => isCode c || P c) = true) (h2 : ∀ c ∈ L.filter isCode, P c = true) : L.all P = true := by
  refine List.all_eq_true.mpr fun c hc => ?_
  have h := List.all_eq_true.mp h1 c hc
  rcases Bool.eq_false_or_eq_true (isCode c) with hi | hi
  · exact h2 c (List.mem_filter.mpr ⟨hc, hi⟩)
  · simpa [hi] using h
set_option maxRecDepth 65536 in
theorem w_c0 : (Jvm.Cond.code x code maxLocals ret).before args0 about1 = true := code_word (m := ⟨1, 1⟩) (meth := k1m1) (c := k1c1) (by decide +kernel) rfl rfl rfl (by decide +kernel)
set_option maxRecDepth 65536 in
theorem w_c1 : (Jvm.Cond.code ({ cls := "com/example/slabwarden/slabwarden/chunk/Slab", name := "carves", desc := "(II)Z" } : Jvm.MethodName) prog_31_method_2_code (2 : Nat) (Option.some Jvm.ClassFile.FieldType.boolean)).before args0 about1 = true := code_word (m := ⟨2, 0⟩) (meth := k2m0) (c := k2c0) (by decide +kernel) rfl rfl rfl (by decide +kernel)
def codes1 : List Jvm.Cond := [Jvm.Cond.code x code maxLocals ret, Jvm.Cond.code ({ cls := "com/example/slabwarden/slabwarden/chunk/Slab", name := "carves", desc := "(II)Z" } : Jvm.MethodName) prog_31_method_2_code (2 : Nat) (Option.some Jvm.ClassFile.FieldType.boolean)]
set_option maxRecDepth 65536 in
theorem codes_eq : words1.filter isCode = codes1 := rfl
theorem w_codes : ∀ c ∈ words1.filter isCode, c.before args0 about1 = true := by
  rw [codes_eq]
  intro c hc
  simp only [codes1, List.mem_cons, List.not_mem_nil, or_false] at hc
  rcases hc with rfl | rfl
  · exact w_c0
  · exact w_c1
set_option maxRecDepth 65536 in
theorem w_t1 : words1.all (fun c => isCode c || c.before args0 about1) = true := by decide +kernel
theorem w_tables : (allAtoms (Jvm.Cond.code x code maxLocals ret :: tables_1)).before args0 about1 = true := by
  rw [allAtoms_all]
  show words1.all (fun c => c.before args0 about1) = true
  refine all_split ?_ w_codes
  rw [w_t1]
set_option maxRecDepth 65536 in
theorem w_case : (Jvm.Cond.and given_1 narrow_1).before args0 about1 = true := by decide +kernel
theorem w_applies : (headSpec (Jvm.Cond.code x code maxLocals ret :: tables_1) room_1).applies x e0.platform about1 = true :=
  (Spec.applies_iff w_frames).mpr ⟨w_running, w_runnable, w_alone, w_named, w_hears, w_ripe, w_room, w_tables⟩
theorem atStart : AtStart classFile x code maxLocals ret World_1 tables_1 room_1 Calls_1 rest_1 Pre_1 launch0 p0 e0 about1 theMethod args0 below0 :=
  ⟨lists_1, trivial, launch0.admits_env _ _ _, launch0.least_env, fairChoices_fair.cas, fairChoices_fair.clock, w_frames, w_args, w_heap, w_applies, trivial, trivial, w_case⟩
end start1
theorem witness_1 : WitnessClaimed_1 := ⟨start1.p0, start1.e0, start1.about1, start1.theMethod, start1.args0, start1.below0, start1.atStart⟩
end Jvm.Pilot.@@N@@
