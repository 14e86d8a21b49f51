import JvmDerived
import JvmDerived.Pilot.@@N@@Statement
import JvmDerived.Pilot.@@N@@Code
set_option linter.unusedVariables false
set_option linter.unusedSimpArgs false
namespace Jvm.RoadKit
open Sem ClassFile Op Lib Jvm.Stand Jvm.Free Jvm.LawKit
section New
variable {p : Program} {l : Launch} {e : Env} {R : Room} {s : State} {m : MethodId} {args : Array Value} {below : List Frame} {meth : Method} {c : Code} {T : State} {locs : List Loc} {cells slots : Nat}
theorem retI (X : Stand p l e R s m args below meth c T locs cells slots) (hx : p.tables.exec = Jvm.exec) {pc : Nat} {Ls : Array Slot} {z : Int32} {rest : List Value} (hret : meth.sig.returnType = some .int) (hd : decode c.code pc = .ok (.ireturn, 1)) {fs : List Frame}
    (hl : ∀ (f : JFrame) (acts : List Action), f.method = m → f.locked = none → f.entered = [] → (doReturn e (T.setTop f) acts (some (.int z))).1 = T.setFrames fs) : Steps p.tables e below (T.setTop (mkF m pc Ls (.int z :: rest))) (T.setFrames fs) := by
  have hm' : T.vm.method? m = some meth := X.method'
  have hn : narrow .int (.int z) = .int z := rfl
  show Steps p.tables e below (T.setTop { method := m, pc := pc, locals := Ls, stack := _ :: rest, locked := none }) _
  jvm_step X.here [X.here.top, hx, hd, hm', hret, hn]
  first | (intro acts; rw [hl _ acts rfl rfl rfl]) | rw [hl _ _ rfl rfl rfl]
  exact Steps.refl _
end New
end Jvm.RoadKit
namespace Jvm.Pilot.@@N@@
open Jvm Jvm.ClassFile Sem Op Lib Jvm.Free Jvm.Stand Jvm.LawKit Jvm.RoadKit Bundle Jvm.Pilot.@@N@@.Jvm.D
/-! 1. own frame of the walks: a goal 'G T f' says: from the state T with the top frame f the body comes to its end as its contract says. G is kept opaque in a walk: own_Pre steps it back, own_Ret ends it. -/
abbrev own_Pre (p : Program) (e : Env) (below : List Frame) (G : State → JFrame → Prop) : Prop :=
  ∀ {T T2 : State} {f f2 : JFrame}, (∀ t, Steps p.tables e below (T2.setTop f2) t → Steps p.tables e below (T.setTop f) t) → G T2 f2 → G T f
abbrev own_Lv (p : Program) (e : Env) (below : List Frame) (m : MethodId) (T : State) (f : JFrame) (v : Option Value) : Prop :=
  ∀ fs, (∀ (f : JFrame) (acts : List Action), f.method = m → f.locked = none → f.entered = [] → (doReturn e (T.setTop f) acts v).1 = T.setFrames fs) → Steps p.tables e below (T.setTop f) (T.setFrames fs)
abbrev own_Ret (p : Program) (l : Launch) (e : Env) (R : Room) (s : State) (m : MethodId) (as' : Array Value) (below : List Frame) (meth : Method) (c : Code) (Q : Option Value → Heap → List Loc → Prop) (C S : Nat) (G : State → JFrame → Prop) : Prop :=
  ∀ {T : State} {locs : List Loc} {cells slots : Nat} {f : JFrame} {v : Option Value}, Stand p l e R s m as' below meth c T locs cells slots → own_Lv p e below m T f v → (meth.sig.returnType = none → v = none) → Q v T.heap locs → cells ≤ C → slots ≤ S → G T f
theorem own_contract {l : Launch} {Z : State} {y : MethodName} {bytes : ByteArray} {maxL : Nat} {ret : Option FieldType} {ws : List Jvm.Cond} {rm : Room} {as' : Array Value} {h0 : Heap} {Q : Option Value → Heap → List Loc → Prop} {Ls : Array Slot}
    (hpl : plainFor y = true) (hef : ∀ m, entryFrame m as' maxL = mkF m 0 Ls [])
    (H : ∀ (p : Program) (e : Env) (s : State) (m : MethodId) (below : List Frame) (meth : Method) (c : Code) (s₁ : State) (G : State → JFrame → Prop),
      p.tables.exec = Jvm.exec → c.code = bytes → c.maxLocals = maxL → s.vm.findClass y.cls = some m.cls → meth.name = y.name → meth.sig.returnType = ret → Z.Warmed39 s.vm →
      Stand p l e rm s m as' below meth c s₁ [] 0 0 → s₁.heap = h0 → own_Pre p e below G → own_Ret p l e rm s m as' below meth c Q rm.cells rm.slots G → G s₁ (mkF m 0 Ls [])) :
    MetFree l y (head1 (Jvm.Cond.code y bytes maxL ret :: ws) rm) (fun a U => a = as' ∧ Z.Warmed39 U.vm ∧ U.heap = h0) (fun _ _ _ _ _ => True) (fun _ U o U' => ∃ v L, o = .returned v ∧ Q v U'.heap L ∧ FrameEnd U o U' L rm.cells rm.slots) := by
  refine MetFree.of_bodySF hpl hisR ?_
  intro p e s m args below meth c s₁ Bd hml0 hP hK
  obtain ⟨rfl, hZ, hh⟩ := hP
  have X0 : Stand p l e rm s m args below meth c s₁ [] 0 0 := Stand.of_body Bd
  have e0 : s₁.heap = h0 := by rw [← hh, Bd.state]; rfl
  obtain ⟨T', locs, cells, slots, v, X, hst, hv, hQ, hc, hs⟩ := H p e s m below meth c s₁
    (fun T f => ∃ (T' : State) (locs : List Loc) (cells slots : Nat) (v : Option Value), Stand p l e rm s m args below meth c T' locs cells slots ∧
      (∀ fs, (∀ (f : JFrame) (acts : List Action), f.method = m → f.locked = none → f.entered = [] → (doReturn e (T'.setTop f) acts v).1 = T'.setFrames fs) → Steps p.tables e below (T.setTop f) (T'.setFrames fs)) ∧
      (meth.sig.returnType = none → v = none) ∧ Q v T'.heap locs ∧ cells ≤ rm.cells ∧ slots ≤ rm.slots)
    Bd.exec Bd.bytes hml0 (findClass_of_methodNamed Bd.named) (name_of_methodNamed Bd.named Bd.method).1 Bd.returns hZ X0 e0
    (fun {T T2 f f2} hs hG => by
      obtain ⟨T', locs, cells, slots, v, X, hst, r⟩ := hG
      exact ⟨T', locs, cells, slots, v, X, fun fs hl => hs _ (hst fs hl), r⟩)
    (fun {T locs cells slots f v} X hl hv hQ hc hs => ⟨T, locs, cells, slots, v, X, hl, hv, hQ, hc, hs⟩)
  obtain ⟨fs, hr, hrun, hended, hW, hsame⟩ := X.leave hv Bd.notSynchronized
  exact ⟨_, _, castTop (hef m) (hst fs hr), hrun, hended, _, _, rfl, hQ, ⟨_, rfl⟩, hW, hsame.mono hc hs⟩
/-- what a body without a write says: its value, nothing old written, the heap as it was -/
abbrev own_Q (r : Option Value) (h0 : Heap) (n0 : Nat) (v : Option Value) (h : Heap) (L : List Loc) : Prop := v = r ∧ Fr n0 L ∧ h = h0
section Calls
variable {p : Program} {l : Launch} {e : Env} {R : Room} {s : State} {m : MethodId} {args : Array Value} {below : List Frame} {meth : Method} {c : Code} {T : State} {locs : List Loc} {cells slots : Nat} {Z : State} {a0 : Array Value} {h : Heap}
theorem own_callS (X : Stand p l e R s m args below meth c T locs cells slots) (hx : p.tables.exec = Jvm.exec) (hZ : Z.Warmed39 s.vm) {own : String} {index : Nat} {y : MethodName} {bytes : ByteArray} {maxL : Nat} {ret : Option FieldType} {rm : Room} {as' : Array Value} {Q : Option Value → Heap → List Loc → Prop}
    (W : Nat) (hown : s.vm.findClass own = some m.cls) (w1 : (Cond.methodLink own index y).before a0 Z = true) (w2 : (Cond.static y).before a0 Z = true) (w3 : (Cond.initialized y.cls).before a0 Z = true) (w4 : (Cond.code y bytes maxL ret).before a0 Z = true)
    (hy : y.cls ≠ "java/lang/invoke/MethodHandle" ∧ y.cls ≠ "java/lang/invoke/VarHandle")
    (hM : MetFree l y (head1 [Cond.code y bytes maxL ret] rm) (fun a U => a = as' ∧ Z.Warmed39 U.vm ∧ U.heap = h) (fun _ _ _ _ _ => True) (fun _ U o U' => ∃ v L, o = .returned v ∧ Q v U'.heap L ∧ FrameEnd U o U' L rm.cells rm.slots))
    (eT : T.heap = h) (hf : rm.frames + 1 ≤ R.frames) (hl : W + (maxL + 11) + rm.locals ≤ R.locals) {g : JFrame} (hg : g.method = m) (hsize : g.locals.size = c.maxLocals) (argsL rest : List Value) {ps : List FieldType} {r : Option FieldType}
    (hd : parseMethodDescriptor y.desc = some ⟨ps, r⟩) (hlen : argsL.length = ps.length) (hstack : g.stack = argsL.reverse ++ rest) (hW : 2 * g.monitorRoom + (rest.map fun v => v.category).sum ≤ W) (hdg : decode c.code g.pc = .ok (.invokestatic index, 3))
    (has : argsL.toArray = as') (hc : cells + rm.cells ≤ R.cells) (hs : slots + rm.slots ≤ R.slots) :
    ∃ (v : Option Value) (T' : State) (L : List Loc), Stand p l e R s m args below meth c T' (locs ++ L) (cells + rm.cells) (slots + rm.slots) ∧ Q v T'.heap L ∧
      ∀ t, Steps p.tables e below (T'.setTop { g with pc := g.pc + 3, stack := v.toList ++ rest }) t → Steps p.tables e below (T.setTop g) t := by
  obtain ⟨v, _, ⟨T', L', k', n'⟩, -, X', ⟨Lc, hQ, l', y', z'⟩, st⟩ := Jvm.LawKit.callS X hx (y := y) hown (mvT hZ w1) (mvT hZ w2) (mvT hZ w3) (mvT hZ w4) hy (backOf (W := W) hM hZ w4 w3 hf hl) hg hsize (argsL := argsL) (rest := rest) (lenOf hd hlen) hstack hW hdg (fun _ _ => ⟨has, eT, hc, hs⟩)
  dsimp only [Pt.U, Pt.locs, Pt.cells, Pt.slots] at X' l' y' z' st hQ
  subst l' y' z'
  exact ⟨v, T', Lc, X', hQ, st⟩
theorem own_callI (X : Stand p l e R s m args below meth c T locs cells slots) (hx : p.tables.exec = Jvm.exec) (hZ : Z.Warmed39 s.vm) {own : String} {index : Nat} {y : MethodName} {bytes : ByteArray} {maxL : Nat} {rm : Room} {as' : Array Value} {Q : Option Value → Heap → List Loc → Prop}
    (W : Nat) (hy1 : y.name = "<init>") (hown : s.vm.findClass own = some m.cls) (w1 : (Cond.methodLink own index y).before a0 Z = true) (w2 : (Cond.instanceMethod y).before a0 Z = true) (w3 : (Cond.initialized y.cls).before a0 Z = true) (w4 : (Cond.code y bytes maxL none).before a0 Z = true)
    (hy : y.cls ≠ "java/lang/invoke/MethodHandle" ∧ y.cls ≠ "java/lang/invoke/VarHandle")
    (hM : MetFree l y (head1 [Cond.code y bytes maxL none] rm) (fun a U => a = as' ∧ Z.Warmed39 U.vm ∧ U.heap = h) (fun _ _ _ _ _ => True) (fun _ U o U' => ∃ v L, o = .returned v ∧ Q v U'.heap L ∧ FrameEnd U o U' L rm.cells rm.slots))
    (eT : T.heap = h) (hf : rm.frames + 1 ≤ R.frames) (hl : W + (maxL + 11) + rm.locals ≤ R.locals) {g : JFrame} (hg : g.method = m) (hsize : g.locals.size = c.maxLocals) (a : Addr) (argsL rest : List Value) {ps : List FieldType} {r : Option FieldType}
    (hd : parseMethodDescriptor y.desc = some ⟨ps, r⟩) (hlen : argsL.length = ps.length) (hstack : g.stack = argsL.reverse ++ .ref a :: rest) (hW : 2 * g.monitorRoom + (rest.map fun v => v.category).sum ≤ W) (hdg : decode c.code g.pc = .ok (.invokespecial index, 3))
    (has : (.ref a :: argsL).toArray = as') (hc : cells + rm.cells ≤ R.cells) (hs : slots + rm.slots ≤ R.slots) :
    ∃ (v : Option Value) (T' : State) (L : List Loc), Stand p l e R s m args below meth c T' (locs ++ L) (cells + rm.cells) (slots + rm.slots) ∧ Q v T'.heap L ∧
      ∀ t, Steps p.tables e below (T'.setTop { g with pc := g.pc + 3, stack := v.toList ++ rest }) t → Steps p.tables e below (T.setTop g) t := by
  obtain ⟨v, _, ⟨T', L', k', n'⟩, -, X', ⟨Lc, hQ, l', y', z'⟩, st⟩ := X.specialBack hx (y := y) hy1 hown (mvT hZ w1) (mvT hZ w2) (mvT hZ w4) hy (backOf (W := W) hM hZ w4 w3 hf hl) hg hsize (Steps.refl _) (a := a) (argsL := argsL) (rest := rest) (lenOf hd hlen) hstack hW hdg (fun _ _ => ⟨has, eT, hc, hs⟩)
  dsimp only [Pt.U, Pt.locs, Pt.cells, Pt.slots] at X' l' y' z' st hQ
  subst l' y' z'
  exact ⟨v, T', Lc, X', hQ, fun t k => st.trans k⟩
theorem own_callV (X : Stand p l e R s m args below meth c T locs cells slots) (hx : p.tables.exec = Jvm.exec) (hZ : Z.Warmed39 s.vm) {own C : String} {index : Nat} {y : MethodName} {bytes : ByteArray} {maxL : Nat} {ret : Option FieldType} {rm : Room} {as' : Array Value} {Q : Option Value → Heap → List Loc → Prop}
    (W : Nat) (hown : s.vm.findClass own = some m.cls) (w1 : (Cond.methodLink own index y).before a0 Z = true) (w2 : (Cond.declares y).before a0 Z = true) (w3 : (Cond.selects C y y).before a0 Z = true) (w4 : (Cond.instanceMethod y).before a0 Z = true) (w5 : (Cond.initialized y.cls).before a0 Z = true) (w6 : (Cond.code y bytes maxL ret).before a0 Z = true)
    (hy : y.cls ≠ "java/lang/invoke/MethodHandle" ∧ y.cls ≠ "java/lang/invoke/VarHandle")
    (hM : MetFree l y (head1 [Cond.code y bytes maxL ret] rm) (fun a U => a = as' ∧ Z.Warmed39 U.vm ∧ U.heap = h) (fun _ _ _ _ _ => True) (fun _ U o U' => ∃ v L, o = .returned v ∧ Q v U'.heap L ∧ FrameEnd U o U' L rm.cells rm.slots))
    (eT : T.heap = h) {b : Addr} (E : Exa Z h b C) (hf : rm.frames + 1 ≤ R.frames) (hl : W + (maxL + 11) + rm.locals ≤ R.locals) {g : JFrame} (hg : g.method = m) (hsize : g.locals.size = c.maxLocals) (argsL rest : List Value) {ps : List FieldType} {r : Option FieldType}
    (hd : parseMethodDescriptor y.desc = some ⟨ps, r⟩) (hlen : argsL.length = ps.length) (hstack : g.stack = argsL.reverse ++ .ref b :: rest) (hW : 2 * g.monitorRoom + (rest.map fun v => v.category).sum ≤ W) (hdg : decode c.code g.pc = .ok (.invokevirtual index, 3))
    (has : (.ref b :: argsL).toArray = as') (hc : cells + rm.cells ≤ R.cells) (hs : slots + rm.slots ≤ R.slots) :
    ∃ (v : Option Value) (T' : State) (L : List Loc), Stand p l e R s m args below meth c T' (locs ++ L) (cells + rm.cells) (slots + rm.slots) ∧ Q v T'.heap L ∧
      ∀ t, Steps p.tables e below (T'.setTop { g with pc := g.pc + 3, stack := v.toList ++ rest }) t → Steps p.tables e below (T.setTop g) t := by
  obtain ⟨cq, kq, qa, qb, qc⟩ := isOf hZ eT E
  obtain ⟨v, _, ⟨T', L', k', n'⟩, -, X', ⟨Lc, hQ, l', y', z'⟩, st⟩ := X.virtualBack hx (y := y) (z := y) hown (mvT hZ w1) (mvT hZ w2) (notFace_of_selects (args := #[]) (mvT hZ w3)) (mvT hZ w3) (mvT hZ w4) hy (backOf (W := W) hM hZ w6 w5 hf hl) qa qc hg hsize (Steps.refl _) (argsL := argsL) (rest := rest) (lenOf hd hlen) hstack hW hdg (fun _ _ => ⟨has, eT, hc, hs⟩)
  dsimp only [Pt.U, Pt.locs, Pt.cells, Pt.slots] at X' l' y' z' st hQ
  subst l' y' z'
  exact ⟨v, T', Lc, X', hQ, fun t k => st.trans k⟩
end Calls
theorem own_lrem {tb : Tables} [Ours tb] {e : Env} {below : List Frame} {T target : State} {m : MethodId} {c : Code} {g : JFrame} (h : At T m c below) (hx : tb.exec = Jvm.exec) (hg : g.method = m) {x y : Int64} {rest : List Value} (hd : decode c.code g.pc = .ok (.lrem, 1)) (hs : g.stack = .long y :: .long x :: rest) (hy : y ≠ 0)
    (hr : Steps tb e below (T.setTop { g with pc := g.pc + 1, stack := .long (x % y) :: rest }) target) : Steps tb e below (T.setTop g) target := XS.lrem h hx hg hd hs hy (by rw [lrem_mod]; exact hr)
theorem own_pd0 : parseMethodDescriptor "()V" = some ⟨[], none⟩ := by decide +kernel
theorem own_pd1 : parseMethodDescriptor "(II)V" = some ⟨[.int, .int], none⟩ := by decide +kernel
theorem own_pd2 : parseMethodDescriptor "(I)Z" = some ⟨[.int], some .boolean⟩ := by decide +kernel
theorem own_pd3 : parseMethodDescriptor "(III)Z" = some ⟨[.int, .int, .int], some .boolean⟩ := by decide +kernel
theorem d2_0 : decode jdk_30_method_1_code 0 = .ok (.aload_n 0, 1) := by decide +kernel
theorem d2_1 : decode jdk_30_method_1_code 1 = .ok (.invokespecial 1, 3) := by decide +kernel
theorem d2_4 : decode jdk_30_method_1_code 4 = .ok (.return_, 1) := by decide +kernel
theorem own_ef2 (m : MethodId) (p0 : Addr) : entryFrame m #[(.ref p0)] 1 = mkF m 0 #[.val (.ref p0)] [] := by first | (simp [entryFrame, mkF, argsToLocals, Value.category]; done) | rfl
theorem own_pn2 : plainName "java/lang/Record" = true := by first | (simp [plainName, overriddenIn]; done) | decide +kernel
set_option maxRecDepth 65536 in
set_option maxHeartbeats 40000000 in
theorem rm2 (l : Launch) (Z : State) (a0 : Array Value) (hw : ∀ d ∈ tables_1, d.before a0 Z = true) (ws : List Jvm.Cond) (p0 : Addr) (h0 : Heap) (n0 : Nat)  :
    MetFree l (⟨"java/lang/Record", "<init>", "()V"⟩ : MethodName) (head1 (Jvm.Cond.code (⟨"java/lang/Record", "<init>", "()V"⟩ : MethodName) jdk_30_method_1_code 1 none :: ws) ({ frames := 1, cells := 0, slots := 0, locals := 12 } : Room)) (fun a U => a = #[(.ref p0)] ∧ Z.Warmed39 U.vm ∧ U.heap = h0) (fun _ _ _ _ _ => True) (fun _ U o U' => ∃ v L, o = .returned v ∧ own_Q none h0 n0 v U'.heap L ∧ FrameEnd U o U' L ({ frames := 1, cells := 0, slots := 0, locals := 12 } : Room).cells ({ frames := 1, cells := 0, slots := 0, locals := 12 } : Room).slots) := by
  refine own_contract (plainFor_of_name own_pn2) (fun m => own_ef2 m p0) ?_
  intro p e s m below meth c s₁ G hx hby hml0 hown0 hnm hret hZ X0 e0 hp hR
  have hml : c.maxLocals = 1 := hml0
  have hown : s.vm.findClass "java/lang/Record" = some m.cls := hown0
  have N0 := Fr.nil n0
  show G s₁ (mkF m 0 #[.val (.ref p0)] [])
  refine hp (fun tq kq => XS.aloadN X0.here hx rfl (hb hby d2_0) rfl rfl kq) ?_
  show G s₁ (mkF m 1 #[.val (.ref p0)] [(.ref p0)])
  obtain ⟨T1, X1, e1, st1⟩ := initO X0 hx hZ hown (hw _ (List.mem_of_getElem? (i := 11) rfl)) (hw _ (List.mem_of_getElem? (i := 12) rfl)) (hw _ (List.mem_of_getElem? (i := 13) rfl)) e0 (g := (mkF m 1 #[.val (.ref p0)] [(.ref p0)])) rfl (by rw [hml]; rfl) rfl (hb hby d2_1) (by decide) (W := 0) (by show 2 * 0 + _ ≤ _; exact Nat.le_of_eq rfl) (by decide)
  refine hp st1 ?_
  show G T1 (mkF m 4 #[.val (.ref p0)] [])
  exact hR X1 (fun fs hl => X1.returnOut hx hret (hb hby d2_4) hl) (fun _ => rfl) ⟨rfl, N0, e1⟩ (by decide) (by decide)
theorem d1_0 : decode prog_28_method_1_code 0 = .ok (.aload_n 0, 1) := by decide +kernel
theorem d1_1 : decode prog_28_method_1_code 1 = .ok (.invokespecial 3, 3) := by decide +kernel
theorem d1_4 : decode prog_28_method_1_code 4 = .ok (.aload_n 0, 1) := by decide +kernel
theorem d1_5 : decode prog_28_method_1_code 5 = .ok (.iload_n 1, 1) := by decide +kernel
theorem d1_6 : decode prog_28_method_1_code 6 = .ok (.putfield 9, 3) := by decide +kernel
theorem d1_9 : decode prog_28_method_1_code 9 = .ok (.aload_n 0, 1) := by decide +kernel
theorem d1_10 : decode prog_28_method_1_code 10 = .ok (.iload_n 2, 1) := by decide +kernel
theorem d1_11 : decode prog_28_method_1_code 11 = .ok (.putfield 15, 3) := by decide +kernel
theorem d1_14 : decode prog_28_method_1_code 14 = .ok (.return_, 1) := by decide +kernel
theorem own_ef1 (m : MethodId) (p0 : Addr) (p1 : Int32) (p2 : Int32) : entryFrame m #[(.ref p0), (.int p1), (.int p2)] 3 = mkF m 0 #[.val (.ref p0), .val (.int p1), .val (.int p2)] [] := by first | (simp [entryFrame, mkF, argsToLocals, Value.category]; done) | rfl
abbrev own_Q1 (Z : State) (p0 : Addr) (p1 p2 : Int32) (h0 : Heap) (n0 : Nat) (v : Option Value) (h : Heap) (L : List Loc) : Prop := v = none ∧ Fr n0 L ∧ Keep h0 h [p0] ∧ Exa Z h p0 "com/example/tracewright/tracewright/Cardinality" ∧ Fld Z h p0 "com/example/tracewright/tracewright/Cardinality" "min" "I" (.int p1) ∧ Fld Z h p0 "com/example/tracewright/tracewright/Cardinality" "max" "I" (.int p2)
theorem own_pn1 : plainName "com/example/tracewright/tracewright/Cardinality" = true := by first | (simp [plainName, overriddenIn]; done) | decide +kernel
set_option maxRecDepth 65536 in
set_option maxHeartbeats 40000000 in
theorem rm1 (l : Launch) (Z : State) (a0 : Array Value) (hw : ∀ d ∈ tables_1, d.before a0 Z = true) (ws : List Jvm.Cond) (p0 : Addr) (p1 : Int32) (p2 : Int32)  (h0 : Heap) (n0 : Nat) (E_p0 : Exa Z h0 p0 "com/example/tracewright/tracewright/Cardinality") (F_min : Fld Z h0 p0 "com/example/tracewright/tracewright/Cardinality" "min" "I" (.int (0 : Int32))) (F_max : Fld Z h0 p0 "com/example/tracewright/tracewright/Cardinality" "max" "I" (.int (0 : Int32))) (g_p0 : n0 ≤ p0) :
    MetFree l (⟨"com/example/tracewright/tracewright/Cardinality", "<init>", "(II)V"⟩ : MethodName) (head1 (Jvm.Cond.code (⟨"com/example/tracewright/tracewright/Cardinality", "<init>", "(II)V"⟩ : MethodName) prog_28_method_1_code 3 none :: ws) ({ frames := 2, cells := 0, slots := 0, locals := 24 } : Room)) (fun a U => a = #[(.ref p0), (.int p1), (.int p2)] ∧ Z.Warmed39 U.vm ∧ U.heap = h0) (fun _ _ _ _ _ => True) (fun _ U o U' => ∃ v L, o = .returned v ∧ own_Q1 Z p0 p1 p2 h0 n0 v U'.heap L ∧ FrameEnd U o U' L ({ frames := 2, cells := 0, slots := 0, locals := 24 } : Room).cells ({ frames := 2, cells := 0, slots := 0, locals := 24 } : Room).slots) := by
  refine own_contract (plainFor_of_name own_pn1) (fun m => own_ef1 m p0 p1 p2) ?_
  intro p e s m below meth c s₁ G hx hby hml0 hown0 hnm hret hZ X0 e0 hp hR
  have hml : c.maxLocals = 3 := hml0
  have hown : s.vm.findClass "com/example/tracewright/tracewright/Cardinality" = some m.cls := hown0
  have N0 := Fr.nil n0
  show G s₁ (mkF m 0 #[.val (.ref p0), .val (.int p1), .val (.int p2)] [])
  have K0 : Keep h0 h0 [p0] := Keep.refl _ _
  refine hp (fun tq kq => XS.aloadN X0.here hx rfl (hb hby d1_0) rfl rfl kq) ?_
  show G s₁ (mkF m 1 #[.val (.ref p0), .val (.int p1), .val (.int p2)] [(.ref p0)])
  obtain ⟨v1, T1, L1, X1, hQ1, st1⟩ := own_callI X0 hx hZ (y := (⟨"java/lang/Record", "<init>", "()V"⟩ : MethodName)) (rm := ({ frames := 1, cells := 0, slots := 0, locals := 12 } : Room)) 0 rfl hown (hw _ (List.mem_of_getElem? (i := 6) rfl)) (hw _ (List.mem_of_getElem? (i := 7) rfl)) (hw _ (List.mem_of_getElem? (i := 9) rfl)) (hw _ (List.mem_of_getElem? (i := 10) rfl)) (by decide) (rm2 l Z a0 hw [] p0 h0 n0) e0 (by decide) (by decide) (g := (mkF m 1 #[.val (.ref p0), .val (.int p1), .val (.int p2)] [(.ref p0)])) rfl (by rw [hml]; rfl) p0 [] [] own_pd0 rfl rfl (by show 2 * 0 + _ ≤ _; exact Nat.le_of_eq rfl) (hb hby d1_1) rfl (by decide) (by decide)
  obtain ⟨rfl, N1, e1⟩ := hQ1
  have F1 := Fr.app N0 N1
  refine hp st1 ?_
  show G T1 (mkF m 4 #[.val (.ref p0), .val (.int p1), .val (.int p2)] [])
  refine hp (fun tq kq => XS.aloadN X1.here hx rfl (hb hby d1_4) rfl rfl kq) ?_
  show G T1 (mkF m 5 #[.val (.ref p0), .val (.int p1), .val (.int p2)] [(.ref p0)])
  refine hp (fun tq kq => XS.iloadN X1.here hx rfl (hb hby d1_5) rfl kq) ?_
  show G T1 (mkF m 6 #[.val (.ref p0), .val (.int p1), .val (.int p2)] [(.int p1), (.ref p0)])
  obtain ⟨T2, h2, X2, e2, W2, st2⟩ := putF X1 hx hZ hown (host := "") (Or.inl (hw _ (List.mem_of_getElem? (i := 14) rfl))) Via.refl e1 F_min E_p0 (Or.inr ⟨(hw _ (List.mem_of_getElem? (i := 15) rfl)), rfl, hnm⟩) (hw _ (List.mem_of_getElem? (i := 1) rfl)) (ty := .int) (by decide) rfl rfl (g := (mkF m 6 #[.val (.ref p0), .val (.int p1), .val (.int p2)] [(.int p1), (.ref p0)])) rfl rfl (hb hby d1_6)
  have F2_min_p0 := Fld.same W2 F_min
  have E2_p0 := Exa.wr W2 E_p0
  have F2_max_p0 := Fld.other W2 F_max (Or.inr (slot_ne (Or.inr (hw _ (List.mem_of_getElem? (i := 17) rfl))) (Or.inr (hw _ (List.mem_of_getElem? (i := 15) rfl))) (by decide) (t := .int) (t' := .int) (by decide) (by decide)))
  have K2 := K0.wr W2 (Or.inl (by simp))
  have N2 := Fr.snoc X2 F1 g_p0
  refine hp st2 ?_
  show G T2 (mkF m 9 #[.val (.ref p0), .val (.int p1), .val (.int p2)] [])
  refine hp (fun tq kq => XS.aloadN X2.here hx rfl (hb hby d1_9) rfl rfl kq) ?_
  show G T2 (mkF m 10 #[.val (.ref p0), .val (.int p1), .val (.int p2)] [(.ref p0)])
  refine hp (fun tq kq => XS.iloadN X2.here hx rfl (hb hby d1_10) rfl kq) ?_
  show G T2 (mkF m 11 #[.val (.ref p0), .val (.int p1), .val (.int p2)] [(.int p2), (.ref p0)])
  obtain ⟨T3, h3, X3, e3, W3, st3⟩ := putF X2 hx hZ hown (host := "") (Or.inl (hw _ (List.mem_of_getElem? (i := 16) rfl))) Via.refl e2 F2_max_p0 E2_p0 (Or.inr ⟨(hw _ (List.mem_of_getElem? (i := 17) rfl)), rfl, hnm⟩) (hw _ (List.mem_of_getElem? (i := 1) rfl)) (ty := .int) (by decide) rfl rfl (g := (mkF m 11 #[.val (.ref p0), .val (.int p1), .val (.int p2)] [(.int p2), (.ref p0)])) rfl rfl (hb hby d1_11)
  have F3_max_p0 := Fld.same W3 F2_max_p0
  have E3_p0 := Exa.wr W3 E2_p0
  have F3_min_p0 := Fld.other W3 F2_min_p0 (Or.inr (slot_ne (Or.inr (hw _ (List.mem_of_getElem? (i := 15) rfl))) (Or.inr (hw _ (List.mem_of_getElem? (i := 17) rfl))) (by decide) (t := .int) (t' := .int) (by decide) (by decide)))
  have K3 := K2.wr W3 (Or.inl (by simp))
  have N3 := Fr.snoc X3 N2 g_p0
  refine hp st3 ?_
  show G T3 (mkF m 14 #[.val (.ref p0), .val (.int p1), .val (.int p2)] [])
  exact hR X3 (fun fs hl => X3.returnOut hx hret (hb hby d1_14) hl) (fun _ => rfl) (by rw [e3]; exact ⟨rfl, N3, K3, E3_p0, F3_min_p0, F3_max_p0⟩) (by decide) (by decide)
theorem d4_0 : decode prog_28_method_2_code 0 = .ok (.iload_n 1, 1) := by decide +kernel
theorem d4_1 : decode prog_28_method_2_code 1 = .ok (.aload_n 0, 1) := by decide +kernel
theorem d4_2 : decode prog_28_method_2_code 2 = .ok (.getfield 9, 3) := by decide +kernel
theorem d4_5 : decode prog_28_method_2_code 5 = .ok (.if_icmp .lt 15, 3) := by decide +kernel
theorem d4_8 : decode prog_28_method_2_code 8 = .ok (.iload_n 1, 1) := by decide +kernel
theorem d4_9 : decode prog_28_method_2_code 9 = .ok (.aload_n 0, 1) := by decide +kernel
theorem d4_10 : decode prog_28_method_2_code 10 = .ok (.getfield 15, 3) := by decide +kernel
theorem d4_13 : decode prog_28_method_2_code 13 = .ok (.if_icmp .gt 7, 3) := by decide +kernel
theorem d4_16 : decode prog_28_method_2_code 16 = .ok (.iconst 1, 1) := by decide +kernel
theorem d4_17 : decode prog_28_method_2_code 17 = .ok (.goto 4, 3) := by decide +kernel
theorem d4_20 : decode prog_28_method_2_code 20 = .ok (.iconst 0, 1) := by decide +kernel
theorem d4_21 : decode prog_28_method_2_code 21 = .ok (.ireturn, 1) := by decide +kernel
theorem own_ef4 (m : MethodId) (p0 : Addr) (p1 : Int32) : entryFrame m #[(.ref p0), (.int p1)] 2 = mkF m 0 #[.val (.ref p0), .val (.int p1)] [] := by first | (simp [entryFrame, mkF, argsToLocals, Value.category]; done) | rfl
def own_alw (mn mx p1 : Int32) : Int32 := if p1 < mn then (0 : Int32) else if mx < p1 then (0 : Int32) else (1 : Int32)
theorem own_pn4 : plainName "com/example/tracewright/tracewright/Cardinality" = true := by first | (simp [plainName, overriddenIn]; done) | decide +kernel
set_option maxRecDepth 65536 in
set_option maxHeartbeats 40000000 in
theorem rm4 (l : Launch) (Z : State) (a0 : Array Value) (hw : ∀ d ∈ tables_1, d.before a0 Z = true) (ws : List Jvm.Cond) (p0 : Addr) (p1 : Int32) (mn mx : Int32) (h0 : Heap) (n0 : Nat) (F_min : Fld Z h0 p0 "com/example/tracewright/tracewright/Cardinality" "min" "I" (.int mn)) (F_max : Fld Z h0 p0 "com/example/tracewright/tracewright/Cardinality" "max" "I" (.int mx)) :
    MetFree l (⟨"com/example/tracewright/tracewright/Cardinality", "allows", "(I)Z"⟩ : MethodName) (head1 (Jvm.Cond.code (⟨"com/example/tracewright/tracewright/Cardinality", "allows", "(I)Z"⟩ : MethodName) prog_28_method_2_code 2 (some .boolean) :: ws) ({ frames := 0, cells := 0, slots := 0, locals := 0 } : Room)) (fun a U => a = #[(.ref p0), (.int p1)] ∧ Z.Warmed39 U.vm ∧ U.heap = h0) (fun _ _ _ _ _ => True) (fun _ U o U' => ∃ v L, o = .returned v ∧ own_Q (some (.int (own_alw mn mx p1))) h0 n0 v U'.heap L ∧ FrameEnd U o U' L ({ frames := 0, cells := 0, slots := 0, locals := 0 } : Room).cells ({ frames := 0, cells := 0, slots := 0, locals := 0 } : Room).slots) := by
  refine own_contract (plainFor_of_name own_pn4) (fun m => own_ef4 m p0 p1) ?_
  intro p e s m below meth c s₁ G hx hby hml0 hown0 hnm hret hZ X0 e0 hp hR
  have hml : c.maxLocals = 2 := hml0
  have hown : s.vm.findClass "com/example/tracewright/tracewright/Cardinality" = some m.cls := hown0
  have N0 := Fr.nil n0
  show G s₁ (mkF m 0 #[.val (.ref p0), .val (.int p1)] [])
  have K0 : Keep h0 h0 [] := Keep.refl _ _
  refine hp (fun tq kq => XS.iloadN X0.here hx rfl (hb hby d4_0) rfl kq) ?_
  show G s₁ (mkF m 1 #[.val (.ref p0), .val (.int p1)] [(.int p1)])
  refine hp (fun tq kq => XS.aloadN X0.here hx rfl (hb hby d4_1) rfl rfl kq) ?_
  show G s₁ (mkF m 2 #[.val (.ref p0), .val (.int p1)] [(.ref p0), (.int p1)])
  obtain ⟨T1, X1, e1, st1⟩ := getF X0 hx hZ hown (host := "") (Or.inl (hw _ (List.mem_of_getElem? (i := 14) rfl))) Via.refl e0 F_min (g := (mkF m 2 #[.val (.ref p0), .val (.int p1)] [(.ref p0), (.int p1)])) rfl rfl (hb hby d4_2)
  refine hp st1 ?_
  show G T1 (mkF m 5 #[.val (.ref p0), .val (.int p1)] [(.int mn), (.int p1)])
  by_cases hb2 : p1 < mn
  · refine hp (fun tq kq => XS.icmpYes X1.here hx rfl (pc0 := 5) (pc' := 20) rfl (hb hby d4_5) rfl (tlt hb2).1 (by decide) (by decide) kq) ?_
    show G T1 (mkF m 20 #[.val (.ref p0), .val (.int p1)] [])
    refine hp (fun tq kq => XS.iconst X1.here hx rfl (hb hby d4_20) kq) ?_
    show G T1 (mkF m 21 #[.val (.ref p0), .val (.int p1)] [(.int (0 : Int32))])
    exact hR X1 (fun fs hl => retN X1 hx (t := .boolean) hret (by simp) (hb hby d4_21) hl) (fun q => by rw [hret] at q; cases q) (by rw [e1]; exact ⟨(congrArg (fun q => some (Value.int q)) (if_pos hb2).symm), N0, rfl⟩) (by decide) (by decide)
  · refine hp (fun tq kq => XS.icmpNo X1.here hx rfl (hb hby d4_5) rfl (flt hb2).1 kq) ?_
    show G T1 (mkF m 8 #[.val (.ref p0), .val (.int p1)] [])
    refine hp (fun tq kq => XS.iloadN X1.here hx rfl (hb hby d4_8) rfl kq) ?_
    show G T1 (mkF m 9 #[.val (.ref p0), .val (.int p1)] [(.int p1)])
    refine hp (fun tq kq => XS.aloadN X1.here hx rfl (hb hby d4_9) rfl rfl kq) ?_
    show G T1 (mkF m 10 #[.val (.ref p0), .val (.int p1)] [(.ref p0), (.int p1)])
    obtain ⟨T3, X3, e3, st3⟩ := getF X1 hx hZ hown (host := "") (Or.inl (hw _ (List.mem_of_getElem? (i := 16) rfl))) Via.refl e1 F_max (g := (mkF m 10 #[.val (.ref p0), .val (.int p1)] [(.ref p0), (.int p1)])) rfl rfl (hb hby d4_10)
    refine hp st3 ?_
    show G T3 (mkF m 13 #[.val (.ref p0), .val (.int p1)] [(.int mx), (.int p1)])
    by_cases hb4 : mx < p1
    · refine hp (fun tq kq => XS.icmpYes X3.here hx rfl (pc0 := 13) (pc' := 20) rfl (hb hby d4_13) rfl (tlt hb4).2.2.1 (by decide) (by decide) kq) ?_
      show G T3 (mkF m 20 #[.val (.ref p0), .val (.int p1)] [])
      refine hp (fun tq kq => XS.iconst X3.here hx rfl (hb hby d4_20) kq) ?_
      show G T3 (mkF m 21 #[.val (.ref p0), .val (.int p1)] [(.int (0 : Int32))])
      exact hR X3 (fun fs hl => retN X3 hx (t := .boolean) hret (by simp) (hb hby d4_21) hl) (fun q => by rw [hret] at q; cases q) (by rw [e3]; exact ⟨(congrArg (fun q => some (Value.int q)) ((if_neg hb2).trans (if_pos hb4)).symm), N0, rfl⟩) (by decide) (by decide)
    · refine hp (fun tq kq => XS.icmpNo X3.here hx rfl (hb hby d4_13) rfl (flt hb4).2.2.1 kq) ?_
      show G T3 (mkF m 16 #[.val (.ref p0), .val (.int p1)] [])
      refine hp (fun tq kq => XS.iconst X3.here hx rfl (hb hby d4_16) kq) ?_
      show G T3 (mkF m 17 #[.val (.ref p0), .val (.int p1)] [(.int (1 : Int32))])
      refine hp (fun tq kq => XS.goto X3.here hx rfl (pc0 := 17) (pc' := 21) rfl (hb hby d4_17) (by decide) (by decide) kq) ?_
      show G T3 (mkF m 21 #[.val (.ref p0), .val (.int p1)] [(.int (1 : Int32))])
      exact hR X3 (fun fs hl => retN X3 hx (t := .boolean) hret (by simp) (hb hby d4_21) hl) (fun q => by rw [hret] at q; cases q) (by rw [e3]; exact ⟨(congrArg (fun q => some (Value.int q)) ((if_neg hb2).trans (if_neg hb4)).symm), N0, rfl⟩) (by decide) (by decide)
theorem d5_0 : decode method_2_code 0 = .ok (.iload_n 2, 1) := by decide +kernel
theorem d5_1 : decode method_2_code 1 = .ok (.i2l, 1) := by decide +kernel
theorem d5_2 : decode method_2_code 2 = .ok (.iload_n 0, 1) := by decide +kernel
theorem d5_3 : decode method_2_code 3 = .ok (.i2l, 1) := by decide +kernel
theorem d5_4 : decode method_2_code 4 = .ok (.lsub, 1) := by decide +kernel
theorem d5_5 : decode method_2_code 5 = .ok (.lstore_n 3, 1) := by decide +kernel
theorem d5_6 : decode method_2_code 6 = .ok (.iload_n 1, 1) := by decide +kernel
theorem d5_7 : decode method_2_code 7 = .ok (.i2l, 1) := by decide +kernel
theorem d5_8 : decode method_2_code 8 = .ok (.iload_n 2, 1) := by decide +kernel
theorem d5_9 : decode method_2_code 9 = .ok (.i2l, 1) := by decide +kernel
theorem d5_10 : decode method_2_code 10 = .ok (.lsub, 1) := by decide +kernel
theorem d5_11 : decode method_2_code 11 = .ok (.lstore 5, 2) := by decide +kernel
theorem d5_13 : decode method_2_code 13 = .ok (.lload_n 3, 1) := by decide +kernel
theorem d5_14 : decode method_2_code 14 = .ok (.lconst 0, 1) := by decide +kernel
theorem d5_15 : decode method_2_code 15 = .ok (.lcmp, 1) := by decide +kernel
theorem d5_16 : decode method_2_code 16 = .ok (.ifCond .lt 14, 3) := by decide +kernel
theorem d5_19 : decode method_2_code 19 = .ok (.lload 5, 2) := by decide +kernel
theorem d5_21 : decode method_2_code 21 = .ok (.lconst 0, 1) := by decide +kernel
theorem d5_22 : decode method_2_code 22 = .ok (.lcmp, 1) := by decide +kernel
theorem d5_23 : decode method_2_code 23 = .ok (.ifCond .lt 7, 3) := by decide +kernel
theorem d5_26 : decode method_2_code 26 = .ok (.iconst 1, 1) := by decide +kernel
theorem d5_27 : decode method_2_code 27 = .ok (.goto 4, 3) := by decide +kernel
theorem d5_30 : decode method_2_code 30 = .ok (.iconst 0, 1) := by decide +kernel
theorem d5_31 : decode method_2_code 31 = .ok (.ireturn, 1) := by decide +kernel
theorem own_ef5 (m : MethodId) (p0 : Int32) (p1 : Int32) (p2 : Int32) : entryFrame m #[(.int p0), (.int p1), (.int p2)] 7 = mkF m 0 #[.val (.int p0), .val (.int p1), .val (.int p2), .unset, .unset, .unset, .unset] [] := by first | (simp [entryFrame, mkF, argsToLocals, Value.category]; done) | rfl
def own_rng (p0 : Int32) (p1 : Int32) (p2 : Int32) : Int32 := let z1 : Int64 := (p2.toInt64 - p0.toInt64)
  let z2 : Int64 := (p1.toInt64 - p2.toInt64)
  if z1 < (0 : Int64) then (0 : Int32) else if z2 < (0 : Int64) then (0 : Int32) else (1 : Int32)
theorem own_pn5 : plainName "com/example/tracewright/tracewright/CardinalityAllowsPinLaw" = true := by first | (simp [plainName, overriddenIn]; done) | decide +kernel
set_option maxRecDepth 65536 in
set_option maxHeartbeats 40000000 in
theorem rm5 (l : Launch) (Z : State) (a0 : Array Value) (hw : ∀ d ∈ tables_1, d.before a0 Z = true) (ws : List Jvm.Cond) (p0 : Int32) (p1 : Int32) (p2 : Int32) (h0 : Heap) (n0 : Nat)  :
    MetFree l (⟨"com/example/tracewright/tracewright/CardinalityAllowsPinLaw", "inRange", "(III)Z"⟩ : MethodName) (head1 (Jvm.Cond.code (⟨"com/example/tracewright/tracewright/CardinalityAllowsPinLaw", "inRange", "(III)Z"⟩ : MethodName) method_2_code 7 (some .boolean) :: ws) ({ frames := 0, cells := 0, slots := 0, locals := 0 } : Room)) (fun a U => a = #[(.int p0), (.int p1), (.int p2)] ∧ Z.Warmed39 U.vm ∧ U.heap = h0) (fun _ _ _ _ _ => True) (fun _ U o U' => ∃ v L, o = .returned v ∧ own_Q (some (.int (own_rng p0 p1 p2))) h0 n0 v U'.heap L ∧ FrameEnd U o U' L ({ frames := 0, cells := 0, slots := 0, locals := 0 } : Room).cells ({ frames := 0, cells := 0, slots := 0, locals := 0 } : Room).slots) := by
  refine own_contract (plainFor_of_name own_pn5) (fun m => own_ef5 m p0 p1 p2) ?_
  intro p e s m below meth c s₁ G hx hby hml0 hown0 hnm hret hZ X0 e0 hp hR
  have hml : c.maxLocals = 7 := hml0
  have hown : s.vm.findClass "com/example/tracewright/tracewright/CardinalityAllowsPinLaw" = some m.cls := hown0
  have N0 := Fr.nil n0
  show G s₁ (mkF m 0 #[.val (.int p0), .val (.int p1), .val (.int p2), .unset, .unset, .unset, .unset] [])
  refine hp (fun tq kq => XS.iloadN X0.here hx rfl (hb hby d5_0) rfl kq) ?_
  show G s₁ (mkF m 1 #[.val (.int p0), .val (.int p1), .val (.int p2), .unset, .unset, .unset, .unset] [(.int p2)])
  refine hp (fun tq kq => XS.i2l X0.here hx rfl (hb hby d5_1) rfl kq) ?_
  show G s₁ (mkF m 2 #[.val (.int p0), .val (.int p1), .val (.int p2), .unset, .unset, .unset, .unset] [(.long p2.toInt64)])
  refine hp (fun tq kq => XS.iloadN X0.here hx rfl (hb hby d5_2) rfl kq) ?_
  show G s₁ (mkF m 3 #[.val (.int p0), .val (.int p1), .val (.int p2), .unset, .unset, .unset, .unset] [(.int p0), (.long p2.toInt64)])
  refine hp (fun tq kq => XS.i2l X0.here hx rfl (hb hby d5_3) rfl kq) ?_
  show G s₁ (mkF m 4 #[.val (.int p0), .val (.int p1), .val (.int p2), .unset, .unset, .unset, .unset] [(.long p0.toInt64), (.long p2.toInt64)])
  refine hp (fun tq kq => XS.lsub X0.here hx rfl (hb hby d5_4) rfl kq) ?_
  show G s₁ (mkF m 5 #[.val (.int p0), .val (.int p1), .val (.int p2), .unset, .unset, .unset, .unset] [(.long (p2.toInt64 - p0.toInt64))])
  refine hp (fun tq kq => XS.lstoreN X0.here hx rfl (hb hby d5_5) rfl (l' := #[.val (.int p0), .val (.int p1), .val (.int p2), .val (.long (p2.toInt64 - p0.toInt64)), .second, .unset, .unset]) rfl kq) ?_
  show G s₁ (mkF m 6 #[.val (.int p0), .val (.int p1), .val (.int p2), .val (.long (p2.toInt64 - p0.toInt64)), .second, .unset, .unset] [])
  refine (?_ : ∀ (z1 : Int64), z1 = (p2.toInt64 - p0.toInt64) → G s₁ (mkF m 6 #[.val (.int p0), .val (.int p1), .val (.int p2), .val (.long z1), .second, .unset, .unset] [])) _ rfl
  intro z1 hz1
  refine hp (fun tq kq => XS.iloadN X0.here hx rfl (hb hby d5_6) rfl kq) ?_
  show G s₁ (mkF m 7 #[.val (.int p0), .val (.int p1), .val (.int p2), .val (.long z1), .second, .unset, .unset] [(.int p1)])
  refine hp (fun tq kq => XS.i2l X0.here hx rfl (hb hby d5_7) rfl kq) ?_
  show G s₁ (mkF m 8 #[.val (.int p0), .val (.int p1), .val (.int p2), .val (.long z1), .second, .unset, .unset] [(.long p1.toInt64)])
  refine hp (fun tq kq => XS.iloadN X0.here hx rfl (hb hby d5_8) rfl kq) ?_
  show G s₁ (mkF m 9 #[.val (.int p0), .val (.int p1), .val (.int p2), .val (.long z1), .second, .unset, .unset] [(.int p2), (.long p1.toInt64)])
  refine hp (fun tq kq => XS.i2l X0.here hx rfl (hb hby d5_9) rfl kq) ?_
  show G s₁ (mkF m 10 #[.val (.int p0), .val (.int p1), .val (.int p2), .val (.long z1), .second, .unset, .unset] [(.long p2.toInt64), (.long p1.toInt64)])
  refine hp (fun tq kq => XS.lsub X0.here hx rfl (hb hby d5_10) rfl kq) ?_
  show G s₁ (mkF m 11 #[.val (.int p0), .val (.int p1), .val (.int p2), .val (.long z1), .second, .unset, .unset] [(.long (p1.toInt64 - p2.toInt64))])
  refine hp (fun tq kq => XS.lstore X0.here hx rfl (hb hby d5_11) rfl (l' := #[.val (.int p0), .val (.int p1), .val (.int p2), .val (.long z1), .second, .val (.long (p1.toInt64 - p2.toInt64)), .second]) rfl kq) ?_
  show G s₁ (mkF m 13 #[.val (.int p0), .val (.int p1), .val (.int p2), .val (.long z1), .second, .val (.long (p1.toInt64 - p2.toInt64)), .second] [])
  refine (?_ : ∀ (z2 : Int64), z2 = (p1.toInt64 - p2.toInt64) → G s₁ (mkF m 13 #[.val (.int p0), .val (.int p1), .val (.int p2), .val (.long z1), .second, .val (.long z2), .second] [])) _ rfl
  intro z2 hz2
  refine hp (fun tq kq => XS.lloadN X0.here hx rfl (hb hby d5_13) rfl kq) ?_
  show G s₁ (mkF m 14 #[.val (.int p0), .val (.int p1), .val (.int p2), .val (.long z1), .second, .val (.long z2), .second] [(.long z1)])
  refine hp (fun tq kq => XS.lconst X0.here hx rfl (hb hby d5_14) kq) ?_
  show G s₁ (mkF m 15 #[.val (.int p0), .val (.int p1), .val (.int p2), .val (.long z1), .second, .val (.long z2), .second] [(.long (0 : Int64)), (.long z1)])
  refine hp (fun tq kq => XS.lcmp X0.here hx rfl (hb hby d5_15) rfl kq) ?_
  show G s₁ (mkF m 16 #[.val (.int p0), .val (.int p1), .val (.int p2), .val (.long z1), .second, .val (.long z2), .second] [(.int (lcmpW z1 (0 : Int64)))])
  by_cases hb3 : z1 < (0 : Int64)
  · refine hp (fun tq kq => XS.ifYes X0.here hx rfl (pc0 := 16) (pc' := 30) rfl (hb hby d5_16) rfl ((if0 _ _).trans (tlt ((lw_lt _ _).mpr hb3)).1) (by decide) (by decide) kq) ?_
    show G s₁ (mkF m 30 #[.val (.int p0), .val (.int p1), .val (.int p2), .val (.long z1), .second, .val (.long z2), .second] [])
    refine hp (fun tq kq => XS.iconst X0.here hx rfl (hb hby d5_30) kq) ?_
    show G s₁ (mkF m 31 #[.val (.int p0), .val (.int p1), .val (.int p2), .val (.long z1), .second, .val (.long z2), .second] [(.int (0 : Int32))])
    exact hR X0 (fun fs hl => retN X0 hx (t := .boolean) hret (by simp) (hb hby d5_31) hl) (fun q => by rw [hret] at q; cases q) ⟨(by subst hz2 hz1; exact (congrArg (fun q => some (Value.int q)) (if_pos hb3).symm)), N0, e0⟩ (by decide) (by decide)
  · refine hp (fun tq kq => XS.ifNo X0.here hx rfl (hb hby d5_16) rfl ((if0 _ _).trans (flt (fun q => hb3 ((lw_lt _ _).mp q))).1) kq) ?_
    show G s₁ (mkF m 19 #[.val (.int p0), .val (.int p1), .val (.int p2), .val (.long z1), .second, .val (.long z2), .second] [])
    refine hp (fun tq kq => XS.lload X0.here hx rfl (hb hby d5_19) rfl kq) ?_
    show G s₁ (mkF m 21 #[.val (.int p0), .val (.int p1), .val (.int p2), .val (.long z1), .second, .val (.long z2), .second] [(.long z2)])
    refine hp (fun tq kq => XS.lconst X0.here hx rfl (hb hby d5_21) kq) ?_
    show G s₁ (mkF m 22 #[.val (.int p0), .val (.int p1), .val (.int p2), .val (.long z1), .second, .val (.long z2), .second] [(.long (0 : Int64)), (.long z2)])
    refine hp (fun tq kq => XS.lcmp X0.here hx rfl (hb hby d5_22) rfl kq) ?_
    show G s₁ (mkF m 23 #[.val (.int p0), .val (.int p1), .val (.int p2), .val (.long z1), .second, .val (.long z2), .second] [(.int (lcmpW z2 (0 : Int64)))])
    by_cases hb4 : z2 < (0 : Int64)
    · refine hp (fun tq kq => XS.ifYes X0.here hx rfl (pc0 := 23) (pc' := 30) rfl (hb hby d5_23) rfl ((if0 _ _).trans (tlt ((lw_lt _ _).mpr hb4)).1) (by decide) (by decide) kq) ?_
      show G s₁ (mkF m 30 #[.val (.int p0), .val (.int p1), .val (.int p2), .val (.long z1), .second, .val (.long z2), .second] [])
      refine hp (fun tq kq => XS.iconst X0.here hx rfl (hb hby d5_30) kq) ?_
      show G s₁ (mkF m 31 #[.val (.int p0), .val (.int p1), .val (.int p2), .val (.long z1), .second, .val (.long z2), .second] [(.int (0 : Int32))])
      exact hR X0 (fun fs hl => retN X0 hx (t := .boolean) hret (by simp) (hb hby d5_31) hl) (fun q => by rw [hret] at q; cases q) ⟨(by subst hz2 hz1; exact (congrArg (fun q => some (Value.int q)) ((if_neg hb3).trans (if_pos hb4)).symm)), N0, e0⟩ (by decide) (by decide)
    · refine hp (fun tq kq => XS.ifNo X0.here hx rfl (hb hby d5_23) rfl ((if0 _ _).trans (flt (fun q => hb4 ((lw_lt _ _).mp q))).1) kq) ?_
      show G s₁ (mkF m 26 #[.val (.int p0), .val (.int p1), .val (.int p2), .val (.long z1), .second, .val (.long z2), .second] [])
      refine hp (fun tq kq => XS.iconst X0.here hx rfl (hb hby d5_26) kq) ?_
      show G s₁ (mkF m 27 #[.val (.int p0), .val (.int p1), .val (.int p2), .val (.long z1), .second, .val (.long z2), .second] [(.int (1 : Int32))])
      refine hp (fun tq kq => XS.goto X0.here hx rfl (pc0 := 27) (pc' := 31) rfl (hb hby d5_27) (by decide) (by decide) kq) ?_
      show G s₁ (mkF m 31 #[.val (.int p0), .val (.int p1), .val (.int p2), .val (.long z1), .second, .val (.long z2), .second] [(.int (1 : Int32))])
      exact hR X0 (fun fs hl => retN X0 hx (t := .boolean) hret (by simp) (hb hby d5_31) hl) (fun q => by rw [hret] at q; cases q) ⟨(by subst hz2 hz1; exact (congrArg (fun q => some (Value.int q)) ((if_neg hb3).trans (if_neg hb4)).symm)), N0, e0⟩ (by decide) (by decide)
theorem own_low {p0 p1 : Int32} (h : (-2147483648 : Int32) < p0) : (own_alw p0 p1 (p0 - (1 : Int32))) = (0 : Int32) := by
  have h1 : p0 - (1 : Int32) < p0 := by
    rw [Int32.lt_iff_toInt_lt] at h ⊢
    have e1 : (-2147483648 : Int32).toInt = -2147483648 := by decide
    have e2 : (1 : Int32).toInt = 1 := by decide
    have e3 := c_isub p0 1
    have e4 := rng32 p0
    have e5 := rng32 (p0 - 1)
    omega
  exact if_pos h1
theorem own_high {p0 p1 : Int32} (h : p1 < (2147483647 : Int32)) : (own_alw p0 p1 (p1 + (1 : Int32))) = (0 : Int32) := by
  have h1 : p1 < p1 + (1 : Int32) := by
    rw [Int32.lt_iff_toInt_lt] at h ⊢
    have e1 : (2147483647 : Int32).toInt = 2147483647 := by decide
    have e2 : (1 : Int32).toInt = 1 := by decide
    have e3 := c_iadd p1 1
    have e4 := rng32 p1
    have e5 := rng32 (p1 + 1)
    omega
  unfold own_alw
  by_cases q : p1 + (1 : Int32) < p0
  · rw [if_pos q]
  · rw [if_neg q, if_pos h1]
theorem own_ob1 (p0 : Int32) (p1 : Int32) (p2 : Int32) : (own_alw p0 p1 p2) = (own_rng p0 p1 p2) := by
  have r0 := rng32 p0
  have r1 := rng32 p1
  have r2 := rng32 p2
  have i0 := c_i2l p0
  have i1 := c_i2l p1
  have i2 := c_i2l p2
  have s1 := c_lsub p2.toInt64 p0.toInt64
  have s2 := c_lsub p1.toInt64 p2.toInt64
  have q1 := rng64 (p2.toInt64 - p0.toInt64)
  have q2 := rng64 (p1.toInt64 - p2.toInt64)
  have e : (0 : Int64).toInt = 0 := by decide
  unfold own_alw own_rng
  simp only [Int32.lt_iff_toInt_lt, Int64.lt_iff_toInt_lt, e]
  (repeat' split) <;> first | rfl | (exfalso; omega)
theorem own_ob2 (p0 : Int32) (p1 : Int32) (p2 : Int32) (hb5 : ¬ (p1 < p0)) : ¬ ((own_alw p0 p1 p0) = (0 : Int32)) := by
  have q : ¬ p0 < p0 := Int32.lt_irrefl
  unfold own_alw
  rw [if_neg q, if_neg hb5]; decide
theorem own_ob3 (p0 : Int32) (p1 : Int32) (p2 : Int32) (hb5 : ¬ (p1 < p0)) : ¬ ((own_alw p0 p1 p1) = (0 : Int32)) := by
  have q : ¬ p1 < p1 := Int32.lt_irrefl
  unfold own_alw
  rw [if_neg hb5, if_neg q]; decide
theorem own_ef0 (m : MethodId) (p0 : Int32) (p1 : Int32) (p2 : Int32) : entryFrame m #[(.int p0), (.int p1), (.int p2)] maxLocals = mkF m 0 #[.val (.int p0), .val (.int p1), .val (.int p2), .unset, .unset] [] := by first | (simp [entryFrame, mkF, argsToLocals, Value.category, maxLocals]; done) | rfl
abbrev own_Q0 (n0 : Nat) (v : Option Value) (h : Heap) (L : List Loc) : Prop := v = some (.int 1) ∧ Fr n0 L
theorem own_pn0 : plainName "com/example/tracewright/tracewright/CardinalityAllowsPinLaw" = true := by first | (simp [plainName, overriddenIn]; done) | decide +kernel
set_option maxRecDepth 65536 in
set_option maxHeartbeats 40000000 in
theorem rm0 (l : Launch) (Z : State) (a0 : Array Value) (hw : ∀ d ∈ tables_1, d.before a0 Z = true) (ws : List Jvm.Cond) (p0 : Int32) (p1 : Int32) (p2 : Int32) (h0 : Heap) (n0 : Nat) (Z0 : n0 ≤ h0.size) :
    MetFree l x (head1 (Jvm.Cond.code x code maxLocals ret :: ws) room_1) (fun a U => a = #[(.int p0), (.int p1), (.int p2)] ∧ Z.Warmed39 U.vm ∧ U.heap = h0) (fun _ _ _ _ _ => True) (fun _ U o U' => ∃ v L, o = .returned v ∧ own_Q0 n0 v U'.heap L ∧ FrameEnd U o U' L room_1.cells room_1.slots) := by
  refine own_contract (plainFor_of_name own_pn0) (fun m => own_ef0 m p0 p1 p2) ?_
  intro p e s m below meth c s₁ G hx hby hml0 hown0 hnm hret hZ X0 e0 hp hR
  have hml : c.maxLocals = 5 := hml0
  have hown : s.vm.findClass "com/example/tracewright/tracewright/CardinalityAllowsPinLaw" = some m.cls := hown0
  have N0 := Fr.nil n0
  show G s₁ (mkF m 0 #[.val (.int p0), .val (.int p1), .val (.int p2), .unset, .unset] [])
  have K0 : Keep h0 h0 [] := Keep.refl _ _
  obtain ⟨T1, h1, X1, e1, E1, A1, D1, -, st1⟩ := newO X0 hx hZ hown (hw _ (List.mem_of_getElem? (i := 0) rfl)) (hw _ (List.mem_of_getElem? (i := 1) rfl)) (hw _ (List.mem_of_getElem? (i := 2) rfl)) e0 (g := (mkF m 0 #[.val (.int p0), .val (.int p1), .val (.int p2), .unset, .unset] [])) rfl (hb hby at_0) (by decide) (by decide)
  obtain ⟨b1, g1⟩ : ∃ z, z = h0.size := ⟨_, rfl⟩
  rw [← g1] at A1 D1 st1
  have sz_b1 : h0.size ≤ b1 := Nat.le_trans K0.1 (Nat.le_of_eq g1.symm)
  have g_b1 : n0 ≤ b1 := Nat.le_trans Z0 sz_b1
  have K1 := K0.ext E1
  have F1_min_b1 : Fld Z h1 b1 "com/example/tracewright/tracewright/Cardinality" "min" "I" (.int (0 : Int32)) := D1 (Or.inr (hw _ (List.mem_of_getElem? (i := 15) rfl))) (ty := .int) (by decide)
  have F1_max_b1 : Fld Z h1 b1 "com/example/tracewright/tracewright/Cardinality" "max" "I" (.int (0 : Int32)) := D1 (Or.inr (hw _ (List.mem_of_getElem? (i := 17) rfl))) (ty := .int) (by decide)
  refine hp st1 ?_
  show G T1 (mkF m 3 #[.val (.int p0), .val (.int p1), .val (.int p2), .unset, .unset] [(.ref b1)])
  refine hp (fun tq kq => XS.dup X1.here hx rfl (hb hby at_3) rfl rfl kq) ?_
  show G T1 (mkF m 4 #[.val (.int p0), .val (.int p1), .val (.int p2), .unset, .unset] [(.ref b1), (.ref b1)])
  refine hp (fun tq kq => XS.iloadN X1.here hx rfl (hb hby at_4) rfl kq) ?_
  show G T1 (mkF m 5 #[.val (.int p0), .val (.int p1), .val (.int p2), .unset, .unset] [(.int p0), (.ref b1), (.ref b1)])
  refine hp (fun tq kq => XS.iloadN X1.here hx rfl (hb hby at_5) rfl kq) ?_
  show G T1 (mkF m 6 #[.val (.int p0), .val (.int p1), .val (.int p2), .unset, .unset] [(.int p1), (.int p0), (.ref b1), (.ref b1)])
  obtain ⟨v2, T2, L2, X2, hQ2, st2⟩ := own_callI X1 hx hZ (y := (⟨"com/example/tracewright/tracewright/Cardinality", "<init>", "(II)V"⟩ : MethodName)) (rm := ({ frames := 2, cells := 0, slots := 0, locals := 24 } : Room)) 1 rfl hown (hw _ (List.mem_of_getElem? (i := 3) rfl)) (hw _ (List.mem_of_getElem? (i := 4) rfl)) (hw _ (List.mem_of_getElem? (i := 2) rfl)) (hw _ (List.mem_of_getElem? (i := 5) rfl)) (by decide) (rm1 l Z a0 hw [] b1 p0 p1 h1 n0 A1 F1_min_b1 F1_max_b1 g_b1) e1 (by decide) (by decide) (g := (mkF m 6 #[.val (.int p0), .val (.int p1), .val (.int p2), .unset, .unset] [(.int p1), (.int p0), (.ref b1), (.ref b1)])) rfl (by rw [hml]; rfl) b1 [(.int p0), (.int p1)] [(.ref b1)] own_pd1 rfl rfl (by show 2 * 0 + _ ≤ _; exact Nat.le_of_eq rfl) (hb hby at_6) rfl (by decide) (by decide)
  obtain ⟨rfl, N2, Kc2, E2_b1, F2_min_b1, F2_max_b1⟩ := hQ2
  have N2b := Fr.app N0 N2
  have E2_b1 := A1.keep Kc2
  have K2 := K1.trans Kc2 (allS (Or.inr sz_b1) all0)
  refine hp st2 ?_
  show G T2 (mkF m 9 #[.val (.int p0), .val (.int p1), .val (.int p2), .unset, .unset] [(.ref b1)])
  refine hp (fun tq kq => XS.astoreN X2.here hx rfl (hb hby at_9) rfl rfl (l' := #[.val (.int p0), .val (.int p1), .val (.int p2), .val (.ref b1), .unset]) rfl kq) ?_
  show G T2 (mkF m 10 #[.val (.int p0), .val (.int p1), .val (.int p2), .val (.ref b1), .unset] [])
  refine hp (fun tq kq => XS.aloadN X2.here hx rfl (hb hby at_10) rfl rfl kq) ?_
  show G T2 (mkF m 11 #[.val (.int p0), .val (.int p1), .val (.int p2), .val (.ref b1), .unset] [(.ref b1)])
  refine hp (fun tq kq => XS.iloadN X2.here hx rfl (hb hby at_11) rfl kq) ?_
  show G T2 (mkF m 12 #[.val (.int p0), .val (.int p1), .val (.int p2), .val (.ref b1), .unset] [(.int p2), (.ref b1)])
  obtain ⟨v3, T3, L3, X3, hQ3, st3⟩ := own_callV X2 hx hZ (y := (⟨"com/example/tracewright/tracewright/Cardinality", "allows", "(I)Z"⟩ : MethodName)) (rm := ({ frames := 0, cells := 0, slots := 0, locals := 0 } : Room)) 0 hown (hw _ (List.mem_of_getElem? (i := 18) rfl)) (hw _ (List.mem_of_getElem? (i := 19) rfl)) (hw _ (List.mem_of_getElem? (i := 21) rfl)) (hw _ (List.mem_of_getElem? (i := 20) rfl)) (hw _ (List.mem_of_getElem? (i := 2) rfl)) (hw _ (List.mem_of_getElem? (i := 22) rfl)) (by decide) (rm4 l Z a0 hw [] b1 p2 p0 p1 T2.heap n0 F2_min_b1 F2_max_b1) rfl E2_b1 (by decide) (by decide) (g := (mkF m 12 #[.val (.int p0), .val (.int p1), .val (.int p2), .val (.ref b1), .unset] [(.int p2), (.ref b1)])) rfl (by rw [hml]; rfl) [(.int p2)] [] own_pd2 rfl rfl (by show 2 * 0 + _ ≤ _; exact Nat.le_of_eq rfl) (hb hby at_12) rfl (by decide) (by decide)
  obtain ⟨rfl, N3, e3⟩ := hQ3
  have F3 := Fr.app N2b N3
  refine hp st3 ?_
  show G T3 (mkF m 15 #[.val (.int p0), .val (.int p1), .val (.int p2), .val (.ref b1), .unset] [(.int (own_alw p0 p1 p2))])
  refine hp (fun tq kq => XS.iloadN X3.here hx rfl (hb hby at_15) rfl kq) ?_
  show G T3 (mkF m 16 #[.val (.int p0), .val (.int p1), .val (.int p2), .val (.ref b1), .unset] [(.int p0), (.int (own_alw p0 p1 p2))])
  refine hp (fun tq kq => XS.iloadN X3.here hx rfl (hb hby at_16) rfl kq) ?_
  show G T3 (mkF m 17 #[.val (.int p0), .val (.int p1), .val (.int p2), .val (.ref b1), .unset] [(.int p1), (.int p0), (.int (own_alw p0 p1 p2))])
  refine hp (fun tq kq => XS.iloadN X3.here hx rfl (hb hby at_17) rfl kq) ?_
  show G T3 (mkF m 18 #[.val (.int p0), .val (.int p1), .val (.int p2), .val (.ref b1), .unset] [(.int p2), (.int p1), (.int p0), (.int (own_alw p0 p1 p2))])
  obtain ⟨v4, T4, L4, X4, hQ4, st4⟩ := own_callS X3 hx hZ (y := (⟨"com/example/tracewright/tracewright/CardinalityAllowsPinLaw", "inRange", "(III)Z"⟩ : MethodName)) (rm := ({ frames := 0, cells := 0, slots := 0, locals := 0 } : Room)) 1 hown (hw _ (List.mem_of_getElem? (i := 23) rfl)) (hw _ (List.mem_of_getElem? (i := 24) rfl)) (hw _ (List.mem_of_getElem? (i := 25) rfl)) (hw _ (List.mem_of_getElem? (i := 26) rfl)) (by decide) (rm5 l Z a0 hw [] p0 p1 p2 T2.heap n0) e3 (by decide) (by decide) (g := (mkF m 18 #[.val (.int p0), .val (.int p1), .val (.int p2), .val (.ref b1), .unset] [(.int p2), (.int p1), (.int p0), (.int (own_alw p0 p1 p2))])) rfl (by rw [hml]; rfl) [(.int p0), (.int p1), (.int p2)] [(.int (own_alw p0 p1 p2))] own_pd3 rfl rfl (by show 2 * 0 + _ ≤ _; exact Nat.le_of_eq rfl) (hb hby at_18) rfl (by decide) (by decide)
  obtain ⟨rfl, N4, e4⟩ := hQ4
  have F4 := Fr.app F3 N4
  refine hp st4 ?_
  show G T4 (mkF m 21 #[.val (.int p0), .val (.int p1), .val (.int p2), .val (.ref b1), .unset] [(.int (own_rng p0 p1 p2)), (.int (own_alw p0 p1 p2))])
  refine hp (fun tq kq => XS.icmpNo X4.here hx rfl (hb hby at_21) rfl (teq (own_ob1 p0 p1 p2)).2 kq) ?_
  show G T4 (mkF m 24 #[.val (.int p0), .val (.int p1), .val (.int p2), .val (.ref b1), .unset] [])
  refine hp (fun tq kq => XS.iconst X4.here hx rfl (hb hby at_24) kq) ?_
  show G T4 (mkF m 25 #[.val (.int p0), .val (.int p1), .val (.int p2), .val (.ref b1), .unset] [(.int (1 : Int32))])
  refine hp (fun tq kq => XS.goto X4.here hx rfl (pc0 := 25) (pc' := 29) rfl (hb hby at_25) (by decide) (by decide) kq) ?_
  show G T4 (mkF m 29 #[.val (.int p0), .val (.int p1), .val (.int p2), .val (.ref b1), .unset] [(.int (1 : Int32))])
  refine hp (fun tq kq => XS.istore X4.here hx rfl (hb hby at_29) rfl (l' := #[.val (.int p0), .val (.int p1), .val (.int p2), .val (.ref b1), .val (.int (1 : Int32))]) rfl kq) ?_
  show G T4 (mkF m 31 #[.val (.int p0), .val (.int p1), .val (.int p2), .val (.ref b1), .val (.int (1 : Int32))] [])
  refine hp (fun tq kq => XS.iloadN X4.here hx rfl (hb hby at_31) rfl kq) ?_
  show G T4 (mkF m 32 #[.val (.int p0), .val (.int p1), .val (.int p2), .val (.ref b1), .val (.int (1 : Int32))] [(.int p0)])
  refine hp (fun tq kq => XS.iloadN X4.here hx rfl (hb hby at_32) rfl kq) ?_
  show G T4 (mkF m 33 #[.val (.int p0), .val (.int p1), .val (.int p2), .val (.ref b1), .val (.int (1 : Int32))] [(.int p1), (.int p0)])
  by_cases hb5 : p1 < p0
  · refine hp (fun tq kq => XS.icmpYes X4.here hx rfl (pc0 := 33) (pc' := 64) rfl (hb hby at_33) rfl (tlt hb5).2.2.1 (by decide) (by decide) kq) ?_
    show G T4 (mkF m 64 #[.val (.int p0), .val (.int p1), .val (.int p2), .val (.ref b1), .val (.int (1 : Int32))] [])
    refine hp (fun tq kq => XS.iloadN X4.here hx rfl (hb hby at_64) rfl kq) ?_
    show G T4 (mkF m 65 #[.val (.int p0), .val (.int p1), .val (.int p2), .val (.ref b1), .val (.int (1 : Int32))] [(.int p0)])
    refine hp (fun tq kq => X4.ldcInt hx hown (mvT hZ (hw _ (List.mem_of_getElem? (i := 27) rfl))) (g := (mkF m 65 #[.val (.int p0), .val (.int p1), .val (.int p2), .val (.ref b1), .val (.int (1 : Int32))] [(.int p0)])) rfl (hb hby at_65) _ kq) ?_
    show G T4 (mkF m 67 #[.val (.int p0), .val (.int p1), .val (.int p2), .val (.ref b1), .val (.int (1 : Int32))] [(.int (-2147483648 : Int32)), (.int p0)])
    by_cases hb6 : (-2147483648 : Int32) < p0
    · refine hp (fun tq kq => XS.icmpNo X4.here hx rfl (hb hby at_67) rfl (tlt hb6).2.2.2 kq) ?_
      show G T4 (mkF m 70 #[.val (.int p0), .val (.int p1), .val (.int p2), .val (.ref b1), .val (.int (1 : Int32))] [])
      refine hp (fun tq kq => XS.iload X4.here hx rfl (hb hby at_70) rfl kq) ?_
      show G T4 (mkF m 72 #[.val (.int p0), .val (.int p1), .val (.int p2), .val (.ref b1), .val (.int (1 : Int32))] [(.int (1 : Int32))])
      refine hp (fun tq kq => XS.ifNo X4.here hx rfl (hb hby at_72) rfl ((if0 _ _).trans (feq (by decide)).1) kq) ?_
      show G T4 (mkF m 75 #[.val (.int p0), .val (.int p1), .val (.int p2), .val (.ref b1), .val (.int (1 : Int32))] [])
      refine hp (fun tq kq => XS.aloadN X4.here hx rfl (hb hby at_75) rfl rfl kq) ?_
      show G T4 (mkF m 76 #[.val (.int p0), .val (.int p1), .val (.int p2), .val (.ref b1), .val (.int (1 : Int32))] [(.ref b1)])
      refine hp (fun tq kq => XS.iloadN X4.here hx rfl (hb hby at_76) rfl kq) ?_
      show G T4 (mkF m 77 #[.val (.int p0), .val (.int p1), .val (.int p2), .val (.ref b1), .val (.int (1 : Int32))] [(.int p0), (.ref b1)])
      refine hp (fun tq kq => XS.iconst X4.here hx rfl (hb hby at_77) kq) ?_
      show G T4 (mkF m 78 #[.val (.int p0), .val (.int p1), .val (.int p2), .val (.ref b1), .val (.int (1 : Int32))] [(.int (1 : Int32)), (.int p0), (.ref b1)])
      refine hp (fun tq kq => XS.isub X4.here hx rfl (hb hby at_78) rfl kq) ?_
      show G T4 (mkF m 79 #[.val (.int p0), .val (.int p1), .val (.int p2), .val (.ref b1), .val (.int (1 : Int32))] [(.int (p0 - (1 : Int32))), (.ref b1)])
      obtain ⟨v7, T7, L7, X7, hQ7, st7⟩ := own_callV X4 hx hZ (y := (⟨"com/example/tracewright/tracewright/Cardinality", "allows", "(I)Z"⟩ : MethodName)) (rm := ({ frames := 0, cells := 0, slots := 0, locals := 0 } : Room)) 0 hown (hw _ (List.mem_of_getElem? (i := 18) rfl)) (hw _ (List.mem_of_getElem? (i := 19) rfl)) (hw _ (List.mem_of_getElem? (i := 21) rfl)) (hw _ (List.mem_of_getElem? (i := 20) rfl)) (hw _ (List.mem_of_getElem? (i := 2) rfl)) (hw _ (List.mem_of_getElem? (i := 22) rfl)) (by decide) (rm4 l Z a0 hw [] b1 (p0 - (1 : Int32)) p0 p1 T2.heap n0 F2_min_b1 F2_max_b1) e4 E2_b1 (by decide) (by decide) (g := (mkF m 79 #[.val (.int p0), .val (.int p1), .val (.int p2), .val (.ref b1), .val (.int (1 : Int32))] [(.int (p0 - (1 : Int32))), (.ref b1)])) rfl (by rw [hml]; rfl) [(.int (p0 - (1 : Int32)))] [] own_pd2 rfl rfl (by show 2 * 0 + _ ≤ _; exact Nat.le_of_eq rfl) (hb hby at_79) rfl (by decide) (by decide)
      obtain ⟨rfl, N7, e7⟩ := hQ7
      have F7 := Fr.app F4 N7
      refine hp st7 ?_
      show G T7 (mkF m 82 #[.val (.int p0), .val (.int p1), .val (.int p2), .val (.ref b1), .val (.int (1 : Int32))] [(.int (own_alw p0 p1 (p0 - (1 : Int32))))])
      refine hp (fun tq kq => XS.ifNo X7.here hx rfl (hb hby at_82) rfl ((if0 _ _).trans (teq (own_low hb6)).2) kq) ?_
      show G T7 (mkF m 85 #[.val (.int p0), .val (.int p1), .val (.int p2), .val (.ref b1), .val (.int (1 : Int32))] [])
      refine hp (fun tq kq => XS.iconst X7.here hx rfl (hb hby at_85) kq) ?_
      show G T7 (mkF m 86 #[.val (.int p0), .val (.int p1), .val (.int p2), .val (.ref b1), .val (.int (1 : Int32))] [(.int (1 : Int32))])
      refine hp (fun tq kq => XS.goto X7.here hx rfl (pc0 := 86) (pc' := 90) rfl (hb hby at_86) (by decide) (by decide) kq) ?_
      show G T7 (mkF m 90 #[.val (.int p0), .val (.int p1), .val (.int p2), .val (.ref b1), .val (.int (1 : Int32))] [(.int (1 : Int32))])
      refine hp (fun tq kq => XS.istore X7.here hx rfl (hb hby at_90) rfl (l' := #[.val (.int p0), .val (.int p1), .val (.int p2), .val (.ref b1), .val (.int (1 : Int32))]) rfl kq) ?_
      show G T7 (mkF m 92 #[.val (.int p0), .val (.int p1), .val (.int p2), .val (.ref b1), .val (.int (1 : Int32))] [])
      refine hp (fun tq kq => XS.iloadN X7.here hx rfl (hb hby at_92) rfl kq) ?_
      show G T7 (mkF m 93 #[.val (.int p0), .val (.int p1), .val (.int p2), .val (.ref b1), .val (.int (1 : Int32))] [(.int p1)])
      refine hp (fun tq kq => X7.ldcInt hx hown (mvT hZ (hw _ (List.mem_of_getElem? (i := 28) rfl))) (g := (mkF m 93 #[.val (.int p0), .val (.int p1), .val (.int p2), .val (.ref b1), .val (.int (1 : Int32))] [(.int p1)])) rfl (hb hby at_93) _ kq) ?_
      show G T7 (mkF m 95 #[.val (.int p0), .val (.int p1), .val (.int p2), .val (.ref b1), .val (.int (1 : Int32))] [(.int (2147483647 : Int32)), (.int p1)])
      by_cases hb8 : p1 < (2147483647 : Int32)
      · refine hp (fun tq kq => XS.icmpNo X7.here hx rfl (hb hby at_95) rfl (tlt hb8).2.1 kq) ?_
        show G T7 (mkF m 98 #[.val (.int p0), .val (.int p1), .val (.int p2), .val (.ref b1), .val (.int (1 : Int32))] [])
        refine hp (fun tq kq => XS.iload X7.here hx rfl (hb hby at_98) rfl kq) ?_
        show G T7 (mkF m 100 #[.val (.int p0), .val (.int p1), .val (.int p2), .val (.ref b1), .val (.int (1 : Int32))] [(.int (1 : Int32))])
        refine hp (fun tq kq => XS.ifNo X7.here hx rfl (hb hby at_100) rfl ((if0 _ _).trans (feq (by decide)).1) kq) ?_
        show G T7 (mkF m 103 #[.val (.int p0), .val (.int p1), .val (.int p2), .val (.ref b1), .val (.int (1 : Int32))] [])
        refine hp (fun tq kq => XS.aloadN X7.here hx rfl (hb hby at_103) rfl rfl kq) ?_
        show G T7 (mkF m 104 #[.val (.int p0), .val (.int p1), .val (.int p2), .val (.ref b1), .val (.int (1 : Int32))] [(.ref b1)])
        refine hp (fun tq kq => XS.iloadN X7.here hx rfl (hb hby at_104) rfl kq) ?_
        show G T7 (mkF m 105 #[.val (.int p0), .val (.int p1), .val (.int p2), .val (.ref b1), .val (.int (1 : Int32))] [(.int p1), (.ref b1)])
        refine hp (fun tq kq => XS.iconst X7.here hx rfl (hb hby at_105) kq) ?_
        show G T7 (mkF m 106 #[.val (.int p0), .val (.int p1), .val (.int p2), .val (.ref b1), .val (.int (1 : Int32))] [(.int (1 : Int32)), (.int p1), (.ref b1)])
        refine hp (fun tq kq => XS.iadd X7.here hx rfl (hb hby at_106) rfl kq) ?_
        show G T7 (mkF m 107 #[.val (.int p0), .val (.int p1), .val (.int p2), .val (.ref b1), .val (.int (1 : Int32))] [(.int (p1 + (1 : Int32))), (.ref b1)])
        obtain ⟨v9, T9, L9, X9, hQ9, st9⟩ := own_callV X7 hx hZ (y := (⟨"com/example/tracewright/tracewright/Cardinality", "allows", "(I)Z"⟩ : MethodName)) (rm := ({ frames := 0, cells := 0, slots := 0, locals := 0 } : Room)) 0 hown (hw _ (List.mem_of_getElem? (i := 18) rfl)) (hw _ (List.mem_of_getElem? (i := 19) rfl)) (hw _ (List.mem_of_getElem? (i := 21) rfl)) (hw _ (List.mem_of_getElem? (i := 20) rfl)) (hw _ (List.mem_of_getElem? (i := 2) rfl)) (hw _ (List.mem_of_getElem? (i := 22) rfl)) (by decide) (rm4 l Z a0 hw [] b1 (p1 + (1 : Int32)) p0 p1 T2.heap n0 F2_min_b1 F2_max_b1) e7 E2_b1 (by decide) (by decide) (g := (mkF m 107 #[.val (.int p0), .val (.int p1), .val (.int p2), .val (.ref b1), .val (.int (1 : Int32))] [(.int (p1 + (1 : Int32))), (.ref b1)])) rfl (by rw [hml]; rfl) [(.int (p1 + (1 : Int32)))] [] own_pd2 rfl rfl (by show 2 * 0 + _ ≤ _; exact Nat.le_of_eq rfl) (hb hby at_107) rfl (by decide) (by decide)
        obtain ⟨rfl, N9, e9⟩ := hQ9
        have F9 := Fr.app F7 N9
        refine hp st9 ?_
        show G T9 (mkF m 110 #[.val (.int p0), .val (.int p1), .val (.int p2), .val (.ref b1), .val (.int (1 : Int32))] [(.int (own_alw p0 p1 (p1 + (1 : Int32))))])
        refine hp (fun tq kq => XS.ifNo X9.here hx rfl (hb hby at_110) rfl ((if0 _ _).trans (teq (own_high hb8)).2) kq) ?_
        show G T9 (mkF m 113 #[.val (.int p0), .val (.int p1), .val (.int p2), .val (.ref b1), .val (.int (1 : Int32))] [])
        refine hp (fun tq kq => XS.iconst X9.here hx rfl (hb hby at_113) kq) ?_
        show G T9 (mkF m 114 #[.val (.int p0), .val (.int p1), .val (.int p2), .val (.ref b1), .val (.int (1 : Int32))] [(.int (1 : Int32))])
        refine hp (fun tq kq => XS.goto X9.here hx rfl (pc0 := 114) (pc' := 118) rfl (hb hby at_114) (by decide) (by decide) kq) ?_
        show G T9 (mkF m 118 #[.val (.int p0), .val (.int p1), .val (.int p2), .val (.ref b1), .val (.int (1 : Int32))] [(.int (1 : Int32))])
        refine hp (fun tq kq => XS.istore X9.here hx rfl (hb hby at_118) rfl (l' := #[.val (.int p0), .val (.int p1), .val (.int p2), .val (.ref b1), .val (.int (1 : Int32))]) rfl kq) ?_
        show G T9 (mkF m 120 #[.val (.int p0), .val (.int p1), .val (.int p2), .val (.ref b1), .val (.int (1 : Int32))] [])
        refine hp (fun tq kq => XS.iload X9.here hx rfl (hb hby at_120) rfl kq) ?_
        show G T9 (mkF m 122 #[.val (.int p0), .val (.int p1), .val (.int p2), .val (.ref b1), .val (.int (1 : Int32))] [(.int (1 : Int32))])
        exact hR X9 (fun fs hl => retN X9 hx (t := .boolean) hret (by simp) (hb hby at_122) hl) (fun q => by rw [hret] at q; cases q) ⟨rfl, F9⟩ (by decide) (by decide)
      · refine hp (fun tq kq => XS.icmpYes X7.here hx rfl (pc0 := 95) (pc' := 120) rfl (hb hby at_95) rfl (flt hb8).2.1 (by decide) (by decide) kq) ?_
        show G T7 (mkF m 120 #[.val (.int p0), .val (.int p1), .val (.int p2), .val (.ref b1), .val (.int (1 : Int32))] [])
        refine hp (fun tq kq => XS.iload X7.here hx rfl (hb hby at_120) rfl kq) ?_
        show G T7 (mkF m 122 #[.val (.int p0), .val (.int p1), .val (.int p2), .val (.ref b1), .val (.int (1 : Int32))] [(.int (1 : Int32))])
        exact hR X7 (fun fs hl => retN X7 hx (t := .boolean) hret (by simp) (hb hby at_122) hl) (fun q => by rw [hret] at q; cases q) ⟨rfl, F7⟩ (by decide) (by decide)
    · refine hp (fun tq kq => XS.icmpYes X4.here hx rfl (pc0 := 67) (pc' := 92) rfl (hb hby at_67) rfl (flt hb6).2.2.2 (by decide) (by decide) kq) ?_
      show G T4 (mkF m 92 #[.val (.int p0), .val (.int p1), .val (.int p2), .val (.ref b1), .val (.int (1 : Int32))] [])
      refine hp (fun tq kq => XS.iloadN X4.here hx rfl (hb hby at_92) rfl kq) ?_
      show G T4 (mkF m 93 #[.val (.int p0), .val (.int p1), .val (.int p2), .val (.ref b1), .val (.int (1 : Int32))] [(.int p1)])
      refine hp (fun tq kq => X4.ldcInt hx hown (mvT hZ (hw _ (List.mem_of_getElem? (i := 28) rfl))) (g := (mkF m 93 #[.val (.int p0), .val (.int p1), .val (.int p2), .val (.ref b1), .val (.int (1 : Int32))] [(.int p1)])) rfl (hb hby at_93) _ kq) ?_
      show G T4 (mkF m 95 #[.val (.int p0), .val (.int p1), .val (.int p2), .val (.ref b1), .val (.int (1 : Int32))] [(.int (2147483647 : Int32)), (.int p1)])
      by_cases hb10 : p1 < (2147483647 : Int32)
      · refine hp (fun tq kq => XS.icmpNo X4.here hx rfl (hb hby at_95) rfl (tlt hb10).2.1 kq) ?_
        show G T4 (mkF m 98 #[.val (.int p0), .val (.int p1), .val (.int p2), .val (.ref b1), .val (.int (1 : Int32))] [])
        refine hp (fun tq kq => XS.iload X4.here hx rfl (hb hby at_98) rfl kq) ?_
        show G T4 (mkF m 100 #[.val (.int p0), .val (.int p1), .val (.int p2), .val (.ref b1), .val (.int (1 : Int32))] [(.int (1 : Int32))])
        refine hp (fun tq kq => XS.ifNo X4.here hx rfl (hb hby at_100) rfl ((if0 _ _).trans (feq (by decide)).1) kq) ?_
        show G T4 (mkF m 103 #[.val (.int p0), .val (.int p1), .val (.int p2), .val (.ref b1), .val (.int (1 : Int32))] [])
        refine hp (fun tq kq => XS.aloadN X4.here hx rfl (hb hby at_103) rfl rfl kq) ?_
        show G T4 (mkF m 104 #[.val (.int p0), .val (.int p1), .val (.int p2), .val (.ref b1), .val (.int (1 : Int32))] [(.ref b1)])
        refine hp (fun tq kq => XS.iloadN X4.here hx rfl (hb hby at_104) rfl kq) ?_
        show G T4 (mkF m 105 #[.val (.int p0), .val (.int p1), .val (.int p2), .val (.ref b1), .val (.int (1 : Int32))] [(.int p1), (.ref b1)])
        refine hp (fun tq kq => XS.iconst X4.here hx rfl (hb hby at_105) kq) ?_
        show G T4 (mkF m 106 #[.val (.int p0), .val (.int p1), .val (.int p2), .val (.ref b1), .val (.int (1 : Int32))] [(.int (1 : Int32)), (.int p1), (.ref b1)])
        refine hp (fun tq kq => XS.iadd X4.here hx rfl (hb hby at_106) rfl kq) ?_
        show G T4 (mkF m 107 #[.val (.int p0), .val (.int p1), .val (.int p2), .val (.ref b1), .val (.int (1 : Int32))] [(.int (p1 + (1 : Int32))), (.ref b1)])
        obtain ⟨v11, T11, L11, X11, hQ11, st11⟩ := own_callV X4 hx hZ (y := (⟨"com/example/tracewright/tracewright/Cardinality", "allows", "(I)Z"⟩ : MethodName)) (rm := ({ frames := 0, cells := 0, slots := 0, locals := 0 } : Room)) 0 hown (hw _ (List.mem_of_getElem? (i := 18) rfl)) (hw _ (List.mem_of_getElem? (i := 19) rfl)) (hw _ (List.mem_of_getElem? (i := 21) rfl)) (hw _ (List.mem_of_getElem? (i := 20) rfl)) (hw _ (List.mem_of_getElem? (i := 2) rfl)) (hw _ (List.mem_of_getElem? (i := 22) rfl)) (by decide) (rm4 l Z a0 hw [] b1 (p1 + (1 : Int32)) p0 p1 T2.heap n0 F2_min_b1 F2_max_b1) e4 E2_b1 (by decide) (by decide) (g := (mkF m 107 #[.val (.int p0), .val (.int p1), .val (.int p2), .val (.ref b1), .val (.int (1 : Int32))] [(.int (p1 + (1 : Int32))), (.ref b1)])) rfl (by rw [hml]; rfl) [(.int (p1 + (1 : Int32)))] [] own_pd2 rfl rfl (by show 2 * 0 + _ ≤ _; exact Nat.le_of_eq rfl) (hb hby at_107) rfl (by decide) (by decide)
        obtain ⟨rfl, N11, e11⟩ := hQ11
        have F11 := Fr.app F4 N11
        refine hp st11 ?_
        show G T11 (mkF m 110 #[.val (.int p0), .val (.int p1), .val (.int p2), .val (.ref b1), .val (.int (1 : Int32))] [(.int (own_alw p0 p1 (p1 + (1 : Int32))))])
        refine hp (fun tq kq => XS.ifNo X11.here hx rfl (hb hby at_110) rfl ((if0 _ _).trans (teq (own_high hb10)).2) kq) ?_
        show G T11 (mkF m 113 #[.val (.int p0), .val (.int p1), .val (.int p2), .val (.ref b1), .val (.int (1 : Int32))] [])
        refine hp (fun tq kq => XS.iconst X11.here hx rfl (hb hby at_113) kq) ?_
        show G T11 (mkF m 114 #[.val (.int p0), .val (.int p1), .val (.int p2), .val (.ref b1), .val (.int (1 : Int32))] [(.int (1 : Int32))])
        refine hp (fun tq kq => XS.goto X11.here hx rfl (pc0 := 114) (pc' := 118) rfl (hb hby at_114) (by decide) (by decide) kq) ?_
        show G T11 (mkF m 118 #[.val (.int p0), .val (.int p1), .val (.int p2), .val (.ref b1), .val (.int (1 : Int32))] [(.int (1 : Int32))])
        refine hp (fun tq kq => XS.istore X11.here hx rfl (hb hby at_118) rfl (l' := #[.val (.int p0), .val (.int p1), .val (.int p2), .val (.ref b1), .val (.int (1 : Int32))]) rfl kq) ?_
        show G T11 (mkF m 120 #[.val (.int p0), .val (.int p1), .val (.int p2), .val (.ref b1), .val (.int (1 : Int32))] [])
        refine hp (fun tq kq => XS.iload X11.here hx rfl (hb hby at_120) rfl kq) ?_
        show G T11 (mkF m 122 #[.val (.int p0), .val (.int p1), .val (.int p2), .val (.ref b1), .val (.int (1 : Int32))] [(.int (1 : Int32))])
        exact hR X11 (fun fs hl => retN X11 hx (t := .boolean) hret (by simp) (hb hby at_122) hl) (fun q => by rw [hret] at q; cases q) ⟨rfl, F11⟩ (by decide) (by decide)
      · refine hp (fun tq kq => XS.icmpYes X4.here hx rfl (pc0 := 95) (pc' := 120) rfl (hb hby at_95) rfl (flt hb10).2.1 (by decide) (by decide) kq) ?_
        show G T4 (mkF m 120 #[.val (.int p0), .val (.int p1), .val (.int p2), .val (.ref b1), .val (.int (1 : Int32))] [])
        refine hp (fun tq kq => XS.iload X4.here hx rfl (hb hby at_120) rfl kq) ?_
        show G T4 (mkF m 122 #[.val (.int p0), .val (.int p1), .val (.int p2), .val (.ref b1), .val (.int (1 : Int32))] [(.int (1 : Int32))])
        exact hR X4 (fun fs hl => retN X4 hx (t := .boolean) hret (by simp) (hb hby at_122) hl) (fun q => by rw [hret] at q; cases q) ⟨rfl, F4⟩ (by decide) (by decide)
  · refine hp (fun tq kq => XS.icmpNo X4.here hx rfl (hb hby at_33) rfl (flt hb5).2.2.1 kq) ?_
    show G T4 (mkF m 36 #[.val (.int p0), .val (.int p1), .val (.int p2), .val (.ref b1), .val (.int (1 : Int32))] [])
    refine hp (fun tq kq => XS.iload X4.here hx rfl (hb hby at_36) rfl kq) ?_
    show G T4 (mkF m 38 #[.val (.int p0), .val (.int p1), .val (.int p2), .val (.ref b1), .val (.int (1 : Int32))] [(.int (1 : Int32))])
    refine hp (fun tq kq => XS.ifNo X4.here hx rfl (hb hby at_38) rfl ((if0 _ _).trans (feq (by decide)).1) kq) ?_
    show G T4 (mkF m 41 #[.val (.int p0), .val (.int p1), .val (.int p2), .val (.ref b1), .val (.int (1 : Int32))] [])
    refine hp (fun tq kq => XS.aloadN X4.here hx rfl (hb hby at_41) rfl rfl kq) ?_
    show G T4 (mkF m 42 #[.val (.int p0), .val (.int p1), .val (.int p2), .val (.ref b1), .val (.int (1 : Int32))] [(.ref b1)])
    refine hp (fun tq kq => XS.iloadN X4.here hx rfl (hb hby at_42) rfl kq) ?_
    show G T4 (mkF m 43 #[.val (.int p0), .val (.int p1), .val (.int p2), .val (.ref b1), .val (.int (1 : Int32))] [(.int p0), (.ref b1)])
    obtain ⟨v12, T12, L12, X12, hQ12, st12⟩ := own_callV X4 hx hZ (y := (⟨"com/example/tracewright/tracewright/Cardinality", "allows", "(I)Z"⟩ : MethodName)) (rm := ({ frames := 0, cells := 0, slots := 0, locals := 0 } : Room)) 0 hown (hw _ (List.mem_of_getElem? (i := 18) rfl)) (hw _ (List.mem_of_getElem? (i := 19) rfl)) (hw _ (List.mem_of_getElem? (i := 21) rfl)) (hw _ (List.mem_of_getElem? (i := 20) rfl)) (hw _ (List.mem_of_getElem? (i := 2) rfl)) (hw _ (List.mem_of_getElem? (i := 22) rfl)) (by decide) (rm4 l Z a0 hw [] b1 p0 p0 p1 T2.heap n0 F2_min_b1 F2_max_b1) e4 E2_b1 (by decide) (by decide) (g := (mkF m 43 #[.val (.int p0), .val (.int p1), .val (.int p2), .val (.ref b1), .val (.int (1 : Int32))] [(.int p0), (.ref b1)])) rfl (by rw [hml]; rfl) [(.int p0)] [] own_pd2 rfl rfl (by show 2 * 0 + _ ≤ _; exact Nat.le_of_eq rfl) (hb hby at_43) rfl (by decide) (by decide)
    obtain ⟨rfl, N12, e12⟩ := hQ12
    have F12 := Fr.app F4 N12
    refine hp st12 ?_
    show G T12 (mkF m 46 #[.val (.int p0), .val (.int p1), .val (.int p2), .val (.ref b1), .val (.int (1 : Int32))] [(.int (own_alw p0 p1 p0))])
    refine hp (fun tq kq => XS.ifNo X12.here hx rfl (hb hby at_46) rfl ((if0 _ _).trans (feq (own_ob2 p0 p1 p2 hb5)).1) kq) ?_
    show G T12 (mkF m 49 #[.val (.int p0), .val (.int p1), .val (.int p2), .val (.ref b1), .val (.int (1 : Int32))] [])
    refine hp (fun tq kq => XS.aloadN X12.here hx rfl (hb hby at_49) rfl rfl kq) ?_
    show G T12 (mkF m 50 #[.val (.int p0), .val (.int p1), .val (.int p2), .val (.ref b1), .val (.int (1 : Int32))] [(.ref b1)])
    refine hp (fun tq kq => XS.iloadN X12.here hx rfl (hb hby at_50) rfl kq) ?_
    show G T12 (mkF m 51 #[.val (.int p0), .val (.int p1), .val (.int p2), .val (.ref b1), .val (.int (1 : Int32))] [(.int p1), (.ref b1)])
    obtain ⟨v13, T13, L13, X13, hQ13, st13⟩ := own_callV X12 hx hZ (y := (⟨"com/example/tracewright/tracewright/Cardinality", "allows", "(I)Z"⟩ : MethodName)) (rm := ({ frames := 0, cells := 0, slots := 0, locals := 0 } : Room)) 0 hown (hw _ (List.mem_of_getElem? (i := 18) rfl)) (hw _ (List.mem_of_getElem? (i := 19) rfl)) (hw _ (List.mem_of_getElem? (i := 21) rfl)) (hw _ (List.mem_of_getElem? (i := 20) rfl)) (hw _ (List.mem_of_getElem? (i := 2) rfl)) (hw _ (List.mem_of_getElem? (i := 22) rfl)) (by decide) (rm4 l Z a0 hw [] b1 p1 p0 p1 T2.heap n0 F2_min_b1 F2_max_b1) e12 E2_b1 (by decide) (by decide) (g := (mkF m 51 #[.val (.int p0), .val (.int p1), .val (.int p2), .val (.ref b1), .val (.int (1 : Int32))] [(.int p1), (.ref b1)])) rfl (by rw [hml]; rfl) [(.int p1)] [] own_pd2 rfl rfl (by show 2 * 0 + _ ≤ _; exact Nat.le_of_eq rfl) (hb hby at_51) rfl (by decide) (by decide)
    obtain ⟨rfl, N13, e13⟩ := hQ13
    have F13 := Fr.app F12 N13
    refine hp st13 ?_
    show G T13 (mkF m 54 #[.val (.int p0), .val (.int p1), .val (.int p2), .val (.ref b1), .val (.int (1 : Int32))] [(.int (own_alw p0 p1 p1))])
    refine hp (fun tq kq => XS.ifNo X13.here hx rfl (hb hby at_54) rfl ((if0 _ _).trans (feq (own_ob3 p0 p1 p2 hb5)).1) kq) ?_
    show G T13 (mkF m 57 #[.val (.int p0), .val (.int p1), .val (.int p2), .val (.ref b1), .val (.int (1 : Int32))] [])
    refine hp (fun tq kq => XS.iconst X13.here hx rfl (hb hby at_57) kq) ?_
    show G T13 (mkF m 58 #[.val (.int p0), .val (.int p1), .val (.int p2), .val (.ref b1), .val (.int (1 : Int32))] [(.int (1 : Int32))])
    refine hp (fun tq kq => XS.goto X13.here hx rfl (pc0 := 58) (pc' := 62) rfl (hb hby at_58) (by decide) (by decide) kq) ?_
    show G T13 (mkF m 62 #[.val (.int p0), .val (.int p1), .val (.int p2), .val (.ref b1), .val (.int (1 : Int32))] [(.int (1 : Int32))])
    refine hp (fun tq kq => XS.istore X13.here hx rfl (hb hby at_62) rfl (l' := #[.val (.int p0), .val (.int p1), .val (.int p2), .val (.ref b1), .val (.int (1 : Int32))]) rfl kq) ?_
    show G T13 (mkF m 64 #[.val (.int p0), .val (.int p1), .val (.int p2), .val (.ref b1), .val (.int (1 : Int32))] [])
    refine hp (fun tq kq => XS.iloadN X13.here hx rfl (hb hby at_64) rfl kq) ?_
    show G T13 (mkF m 65 #[.val (.int p0), .val (.int p1), .val (.int p2), .val (.ref b1), .val (.int (1 : Int32))] [(.int p0)])
    refine hp (fun tq kq => X13.ldcInt hx hown (mvT hZ (hw _ (List.mem_of_getElem? (i := 27) rfl))) (g := (mkF m 65 #[.val (.int p0), .val (.int p1), .val (.int p2), .val (.ref b1), .val (.int (1 : Int32))] [(.int p0)])) rfl (hb hby at_65) _ kq) ?_
    show G T13 (mkF m 67 #[.val (.int p0), .val (.int p1), .val (.int p2), .val (.ref b1), .val (.int (1 : Int32))] [(.int (-2147483648 : Int32)), (.int p0)])
    by_cases hb14 : (-2147483648 : Int32) < p0
    · refine hp (fun tq kq => XS.icmpNo X13.here hx rfl (hb hby at_67) rfl (tlt hb14).2.2.2 kq) ?_
      show G T13 (mkF m 70 #[.val (.int p0), .val (.int p1), .val (.int p2), .val (.ref b1), .val (.int (1 : Int32))] [])
      refine hp (fun tq kq => XS.iload X13.here hx rfl (hb hby at_70) rfl kq) ?_
      show G T13 (mkF m 72 #[.val (.int p0), .val (.int p1), .val (.int p2), .val (.ref b1), .val (.int (1 : Int32))] [(.int (1 : Int32))])
      refine hp (fun tq kq => XS.ifNo X13.here hx rfl (hb hby at_72) rfl ((if0 _ _).trans (feq (by decide)).1) kq) ?_
      show G T13 (mkF m 75 #[.val (.int p0), .val (.int p1), .val (.int p2), .val (.ref b1), .val (.int (1 : Int32))] [])
      refine hp (fun tq kq => XS.aloadN X13.here hx rfl (hb hby at_75) rfl rfl kq) ?_
      show G T13 (mkF m 76 #[.val (.int p0), .val (.int p1), .val (.int p2), .val (.ref b1), .val (.int (1 : Int32))] [(.ref b1)])
      refine hp (fun tq kq => XS.iloadN X13.here hx rfl (hb hby at_76) rfl kq) ?_
      show G T13 (mkF m 77 #[.val (.int p0), .val (.int p1), .val (.int p2), .val (.ref b1), .val (.int (1 : Int32))] [(.int p0), (.ref b1)])
      refine hp (fun tq kq => XS.iconst X13.here hx rfl (hb hby at_77) kq) ?_
      show G T13 (mkF m 78 #[.val (.int p0), .val (.int p1), .val (.int p2), .val (.ref b1), .val (.int (1 : Int32))] [(.int (1 : Int32)), (.int p0), (.ref b1)])
      refine hp (fun tq kq => XS.isub X13.here hx rfl (hb hby at_78) rfl kq) ?_
      show G T13 (mkF m 79 #[.val (.int p0), .val (.int p1), .val (.int p2), .val (.ref b1), .val (.int (1 : Int32))] [(.int (p0 - (1 : Int32))), (.ref b1)])
      obtain ⟨v15, T15, L15, X15, hQ15, st15⟩ := own_callV X13 hx hZ (y := (⟨"com/example/tracewright/tracewright/Cardinality", "allows", "(I)Z"⟩ : MethodName)) (rm := ({ frames := 0, cells := 0, slots := 0, locals := 0 } : Room)) 0 hown (hw _ (List.mem_of_getElem? (i := 18) rfl)) (hw _ (List.mem_of_getElem? (i := 19) rfl)) (hw _ (List.mem_of_getElem? (i := 21) rfl)) (hw _ (List.mem_of_getElem? (i := 20) rfl)) (hw _ (List.mem_of_getElem? (i := 2) rfl)) (hw _ (List.mem_of_getElem? (i := 22) rfl)) (by decide) (rm4 l Z a0 hw [] b1 (p0 - (1 : Int32)) p0 p1 T2.heap n0 F2_min_b1 F2_max_b1) e13 E2_b1 (by decide) (by decide) (g := (mkF m 79 #[.val (.int p0), .val (.int p1), .val (.int p2), .val (.ref b1), .val (.int (1 : Int32))] [(.int (p0 - (1 : Int32))), (.ref b1)])) rfl (by rw [hml]; rfl) [(.int (p0 - (1 : Int32)))] [] own_pd2 rfl rfl (by show 2 * 0 + _ ≤ _; exact Nat.le_of_eq rfl) (hb hby at_79) rfl (by decide) (by decide)
      obtain ⟨rfl, N15, e15⟩ := hQ15
      have F15 := Fr.app F13 N15
      refine hp st15 ?_
      show G T15 (mkF m 82 #[.val (.int p0), .val (.int p1), .val (.int p2), .val (.ref b1), .val (.int (1 : Int32))] [(.int (own_alw p0 p1 (p0 - (1 : Int32))))])
      refine hp (fun tq kq => XS.ifNo X15.here hx rfl (hb hby at_82) rfl ((if0 _ _).trans (teq (own_low hb14)).2) kq) ?_
      show G T15 (mkF m 85 #[.val (.int p0), .val (.int p1), .val (.int p2), .val (.ref b1), .val (.int (1 : Int32))] [])
      refine hp (fun tq kq => XS.iconst X15.here hx rfl (hb hby at_85) kq) ?_
      show G T15 (mkF m 86 #[.val (.int p0), .val (.int p1), .val (.int p2), .val (.ref b1), .val (.int (1 : Int32))] [(.int (1 : Int32))])
      refine hp (fun tq kq => XS.goto X15.here hx rfl (pc0 := 86) (pc' := 90) rfl (hb hby at_86) (by decide) (by decide) kq) ?_
      show G T15 (mkF m 90 #[.val (.int p0), .val (.int p1), .val (.int p2), .val (.ref b1), .val (.int (1 : Int32))] [(.int (1 : Int32))])
      refine hp (fun tq kq => XS.istore X15.here hx rfl (hb hby at_90) rfl (l' := #[.val (.int p0), .val (.int p1), .val (.int p2), .val (.ref b1), .val (.int (1 : Int32))]) rfl kq) ?_
      show G T15 (mkF m 92 #[.val (.int p0), .val (.int p1), .val (.int p2), .val (.ref b1), .val (.int (1 : Int32))] [])
      refine hp (fun tq kq => XS.iloadN X15.here hx rfl (hb hby at_92) rfl kq) ?_
      show G T15 (mkF m 93 #[.val (.int p0), .val (.int p1), .val (.int p2), .val (.ref b1), .val (.int (1 : Int32))] [(.int p1)])
      refine hp (fun tq kq => X15.ldcInt hx hown (mvT hZ (hw _ (List.mem_of_getElem? (i := 28) rfl))) (g := (mkF m 93 #[.val (.int p0), .val (.int p1), .val (.int p2), .val (.ref b1), .val (.int (1 : Int32))] [(.int p1)])) rfl (hb hby at_93) _ kq) ?_
      show G T15 (mkF m 95 #[.val (.int p0), .val (.int p1), .val (.int p2), .val (.ref b1), .val (.int (1 : Int32))] [(.int (2147483647 : Int32)), (.int p1)])
      by_cases hb16 : p1 < (2147483647 : Int32)
      · refine hp (fun tq kq => XS.icmpNo X15.here hx rfl (hb hby at_95) rfl (tlt hb16).2.1 kq) ?_
        show G T15 (mkF m 98 #[.val (.int p0), .val (.int p1), .val (.int p2), .val (.ref b1), .val (.int (1 : Int32))] [])
        refine hp (fun tq kq => XS.iload X15.here hx rfl (hb hby at_98) rfl kq) ?_
        show G T15 (mkF m 100 #[.val (.int p0), .val (.int p1), .val (.int p2), .val (.ref b1), .val (.int (1 : Int32))] [(.int (1 : Int32))])
        refine hp (fun tq kq => XS.ifNo X15.here hx rfl (hb hby at_100) rfl ((if0 _ _).trans (feq (by decide)).1) kq) ?_
        show G T15 (mkF m 103 #[.val (.int p0), .val (.int p1), .val (.int p2), .val (.ref b1), .val (.int (1 : Int32))] [])
        refine hp (fun tq kq => XS.aloadN X15.here hx rfl (hb hby at_103) rfl rfl kq) ?_
        show G T15 (mkF m 104 #[.val (.int p0), .val (.int p1), .val (.int p2), .val (.ref b1), .val (.int (1 : Int32))] [(.ref b1)])
        refine hp (fun tq kq => XS.iloadN X15.here hx rfl (hb hby at_104) rfl kq) ?_
        show G T15 (mkF m 105 #[.val (.int p0), .val (.int p1), .val (.int p2), .val (.ref b1), .val (.int (1 : Int32))] [(.int p1), (.ref b1)])
        refine hp (fun tq kq => XS.iconst X15.here hx rfl (hb hby at_105) kq) ?_
        show G T15 (mkF m 106 #[.val (.int p0), .val (.int p1), .val (.int p2), .val (.ref b1), .val (.int (1 : Int32))] [(.int (1 : Int32)), (.int p1), (.ref b1)])
        refine hp (fun tq kq => XS.iadd X15.here hx rfl (hb hby at_106) rfl kq) ?_
        show G T15 (mkF m 107 #[.val (.int p0), .val (.int p1), .val (.int p2), .val (.ref b1), .val (.int (1 : Int32))] [(.int (p1 + (1 : Int32))), (.ref b1)])
        obtain ⟨v17, T17, L17, X17, hQ17, st17⟩ := own_callV X15 hx hZ (y := (⟨"com/example/tracewright/tracewright/Cardinality", "allows", "(I)Z"⟩ : MethodName)) (rm := ({ frames := 0, cells := 0, slots := 0, locals := 0 } : Room)) 0 hown (hw _ (List.mem_of_getElem? (i := 18) rfl)) (hw _ (List.mem_of_getElem? (i := 19) rfl)) (hw _ (List.mem_of_getElem? (i := 21) rfl)) (hw _ (List.mem_of_getElem? (i := 20) rfl)) (hw _ (List.mem_of_getElem? (i := 2) rfl)) (hw _ (List.mem_of_getElem? (i := 22) rfl)) (by decide) (rm4 l Z a0 hw [] b1 (p1 + (1 : Int32)) p0 p1 T2.heap n0 F2_min_b1 F2_max_b1) e15 E2_b1 (by decide) (by decide) (g := (mkF m 107 #[.val (.int p0), .val (.int p1), .val (.int p2), .val (.ref b1), .val (.int (1 : Int32))] [(.int (p1 + (1 : Int32))), (.ref b1)])) rfl (by rw [hml]; rfl) [(.int (p1 + (1 : Int32)))] [] own_pd2 rfl rfl (by show 2 * 0 + _ ≤ _; exact Nat.le_of_eq rfl) (hb hby at_107) rfl (by decide) (by decide)
        obtain ⟨rfl, N17, e17⟩ := hQ17
        have F17 := Fr.app F15 N17
        refine hp st17 ?_
        show G T17 (mkF m 110 #[.val (.int p0), .val (.int p1), .val (.int p2), .val (.ref b1), .val (.int (1 : Int32))] [(.int (own_alw p0 p1 (p1 + (1 : Int32))))])
        refine hp (fun tq kq => XS.ifNo X17.here hx rfl (hb hby at_110) rfl ((if0 _ _).trans (teq (own_high hb16)).2) kq) ?_
        show G T17 (mkF m 113 #[.val (.int p0), .val (.int p1), .val (.int p2), .val (.ref b1), .val (.int (1 : Int32))] [])
        refine hp (fun tq kq => XS.iconst X17.here hx rfl (hb hby at_113) kq) ?_
        show G T17 (mkF m 114 #[.val (.int p0), .val (.int p1), .val (.int p2), .val (.ref b1), .val (.int (1 : Int32))] [(.int (1 : Int32))])
        refine hp (fun tq kq => XS.goto X17.here hx rfl (pc0 := 114) (pc' := 118) rfl (hb hby at_114) (by decide) (by decide) kq) ?_
        show G T17 (mkF m 118 #[.val (.int p0), .val (.int p1), .val (.int p2), .val (.ref b1), .val (.int (1 : Int32))] [(.int (1 : Int32))])
        refine hp (fun tq kq => XS.istore X17.here hx rfl (hb hby at_118) rfl (l' := #[.val (.int p0), .val (.int p1), .val (.int p2), .val (.ref b1), .val (.int (1 : Int32))]) rfl kq) ?_
        show G T17 (mkF m 120 #[.val (.int p0), .val (.int p1), .val (.int p2), .val (.ref b1), .val (.int (1 : Int32))] [])
        refine hp (fun tq kq => XS.iload X17.here hx rfl (hb hby at_120) rfl kq) ?_
        show G T17 (mkF m 122 #[.val (.int p0), .val (.int p1), .val (.int p2), .val (.ref b1), .val (.int (1 : Int32))] [(.int (1 : Int32))])
        exact hR X17 (fun fs hl => retN X17 hx (t := .boolean) hret (by simp) (hb hby at_122) hl) (fun q => by rw [hret] at q; cases q) ⟨rfl, F17⟩ (by decide) (by decide)
      · refine hp (fun tq kq => XS.icmpYes X15.here hx rfl (pc0 := 95) (pc' := 120) rfl (hb hby at_95) rfl (flt hb16).2.1 (by decide) (by decide) kq) ?_
        show G T15 (mkF m 120 #[.val (.int p0), .val (.int p1), .val (.int p2), .val (.ref b1), .val (.int (1 : Int32))] [])
        refine hp (fun tq kq => XS.iload X15.here hx rfl (hb hby at_120) rfl kq) ?_
        show G T15 (mkF m 122 #[.val (.int p0), .val (.int p1), .val (.int p2), .val (.ref b1), .val (.int (1 : Int32))] [(.int (1 : Int32))])
        exact hR X15 (fun fs hl => retN X15 hx (t := .boolean) hret (by simp) (hb hby at_122) hl) (fun q => by rw [hret] at q; cases q) ⟨rfl, F15⟩ (by decide) (by decide)
    · refine hp (fun tq kq => XS.icmpYes X13.here hx rfl (pc0 := 67) (pc' := 92) rfl (hb hby at_67) rfl (flt hb14).2.2.2 (by decide) (by decide) kq) ?_
      show G T13 (mkF m 92 #[.val (.int p0), .val (.int p1), .val (.int p2), .val (.ref b1), .val (.int (1 : Int32))] [])
      refine hp (fun tq kq => XS.iloadN X13.here hx rfl (hb hby at_92) rfl kq) ?_
      show G T13 (mkF m 93 #[.val (.int p0), .val (.int p1), .val (.int p2), .val (.ref b1), .val (.int (1 : Int32))] [(.int p1)])
      refine hp (fun tq kq => X13.ldcInt hx hown (mvT hZ (hw _ (List.mem_of_getElem? (i := 28) rfl))) (g := (mkF m 93 #[.val (.int p0), .val (.int p1), .val (.int p2), .val (.ref b1), .val (.int (1 : Int32))] [(.int p1)])) rfl (hb hby at_93) _ kq) ?_
      show G T13 (mkF m 95 #[.val (.int p0), .val (.int p1), .val (.int p2), .val (.ref b1), .val (.int (1 : Int32))] [(.int (2147483647 : Int32)), (.int p1)])
      by_cases hb18 : p1 < (2147483647 : Int32)
      · refine hp (fun tq kq => XS.icmpNo X13.here hx rfl (hb hby at_95) rfl (tlt hb18).2.1 kq) ?_
        show G T13 (mkF m 98 #[.val (.int p0), .val (.int p1), .val (.int p2), .val (.ref b1), .val (.int (1 : Int32))] [])
        refine hp (fun tq kq => XS.iload X13.here hx rfl (hb hby at_98) rfl kq) ?_
        show G T13 (mkF m 100 #[.val (.int p0), .val (.int p1), .val (.int p2), .val (.ref b1), .val (.int (1 : Int32))] [(.int (1 : Int32))])
        refine hp (fun tq kq => XS.ifNo X13.here hx rfl (hb hby at_100) rfl ((if0 _ _).trans (feq (by decide)).1) kq) ?_
        show G T13 (mkF m 103 #[.val (.int p0), .val (.int p1), .val (.int p2), .val (.ref b1), .val (.int (1 : Int32))] [])
        refine hp (fun tq kq => XS.aloadN X13.here hx rfl (hb hby at_103) rfl rfl kq) ?_
        show G T13 (mkF m 104 #[.val (.int p0), .val (.int p1), .val (.int p2), .val (.ref b1), .val (.int (1 : Int32))] [(.ref b1)])
        refine hp (fun tq kq => XS.iloadN X13.here hx rfl (hb hby at_104) rfl kq) ?_
        show G T13 (mkF m 105 #[.val (.int p0), .val (.int p1), .val (.int p2), .val (.ref b1), .val (.int (1 : Int32))] [(.int p1), (.ref b1)])
        refine hp (fun tq kq => XS.iconst X13.here hx rfl (hb hby at_105) kq) ?_
        show G T13 (mkF m 106 #[.val (.int p0), .val (.int p1), .val (.int p2), .val (.ref b1), .val (.int (1 : Int32))] [(.int (1 : Int32)), (.int p1), (.ref b1)])
        refine hp (fun tq kq => XS.iadd X13.here hx rfl (hb hby at_106) rfl kq) ?_
        show G T13 (mkF m 107 #[.val (.int p0), .val (.int p1), .val (.int p2), .val (.ref b1), .val (.int (1 : Int32))] [(.int (p1 + (1 : Int32))), (.ref b1)])
        obtain ⟨v19, T19, L19, X19, hQ19, st19⟩ := own_callV X13 hx hZ (y := (⟨"com/example/tracewright/tracewright/Cardinality", "allows", "(I)Z"⟩ : MethodName)) (rm := ({ frames := 0, cells := 0, slots := 0, locals := 0 } : Room)) 0 hown (hw _ (List.mem_of_getElem? (i := 18) rfl)) (hw _ (List.mem_of_getElem? (i := 19) rfl)) (hw _ (List.mem_of_getElem? (i := 21) rfl)) (hw _ (List.mem_of_getElem? (i := 20) rfl)) (hw _ (List.mem_of_getElem? (i := 2) rfl)) (hw _ (List.mem_of_getElem? (i := 22) rfl)) (by decide) (rm4 l Z a0 hw [] b1 (p1 + (1 : Int32)) p0 p1 T2.heap n0 F2_min_b1 F2_max_b1) e13 E2_b1 (by decide) (by decide) (g := (mkF m 107 #[.val (.int p0), .val (.int p1), .val (.int p2), .val (.ref b1), .val (.int (1 : Int32))] [(.int (p1 + (1 : Int32))), (.ref b1)])) rfl (by rw [hml]; rfl) [(.int (p1 + (1 : Int32)))] [] own_pd2 rfl rfl (by show 2 * 0 + _ ≤ _; exact Nat.le_of_eq rfl) (hb hby at_107) rfl (by decide) (by decide)
        obtain ⟨rfl, N19, e19⟩ := hQ19
        have F19 := Fr.app F13 N19
        refine hp st19 ?_
        show G T19 (mkF m 110 #[.val (.int p0), .val (.int p1), .val (.int p2), .val (.ref b1), .val (.int (1 : Int32))] [(.int (own_alw p0 p1 (p1 + (1 : Int32))))])
        refine hp (fun tq kq => XS.ifNo X19.here hx rfl (hb hby at_110) rfl ((if0 _ _).trans (teq (own_high hb18)).2) kq) ?_
        show G T19 (mkF m 113 #[.val (.int p0), .val (.int p1), .val (.int p2), .val (.ref b1), .val (.int (1 : Int32))] [])
        refine hp (fun tq kq => XS.iconst X19.here hx rfl (hb hby at_113) kq) ?_
        show G T19 (mkF m 114 #[.val (.int p0), .val (.int p1), .val (.int p2), .val (.ref b1), .val (.int (1 : Int32))] [(.int (1 : Int32))])
        refine hp (fun tq kq => XS.goto X19.here hx rfl (pc0 := 114) (pc' := 118) rfl (hb hby at_114) (by decide) (by decide) kq) ?_
        show G T19 (mkF m 118 #[.val (.int p0), .val (.int p1), .val (.int p2), .val (.ref b1), .val (.int (1 : Int32))] [(.int (1 : Int32))])
        refine hp (fun tq kq => XS.istore X19.here hx rfl (hb hby at_118) rfl (l' := #[.val (.int p0), .val (.int p1), .val (.int p2), .val (.ref b1), .val (.int (1 : Int32))]) rfl kq) ?_
        show G T19 (mkF m 120 #[.val (.int p0), .val (.int p1), .val (.int p2), .val (.ref b1), .val (.int (1 : Int32))] [])
        refine hp (fun tq kq => XS.iload X19.here hx rfl (hb hby at_120) rfl kq) ?_
        show G T19 (mkF m 122 #[.val (.int p0), .val (.int p1), .val (.int p2), .val (.ref b1), .val (.int (1 : Int32))] [(.int (1 : Int32))])
        exact hR X19 (fun fs hl => retN X19 hx (t := .boolean) hret (by simp) (hb hby at_122) hl) (fun q => by rw [hret] at q; cases q) ⟨rfl, F19⟩ (by decide) (by decide)
      · refine hp (fun tq kq => XS.icmpYes X13.here hx rfl (pc0 := 95) (pc' := 120) rfl (hb hby at_95) rfl (flt hb18).2.1 (by decide) (by decide) kq) ?_
        show G T13 (mkF m 120 #[.val (.int p0), .val (.int p1), .val (.int p2), .val (.ref b1), .val (.int (1 : Int32))] [])
        refine hp (fun tq kq => XS.iload X13.here hx rfl (hb hby at_120) rfl kq) ?_
        show G T13 (mkF m 122 #[.val (.int p0), .val (.int p1), .val (.int p2), .val (.ref b1), .val (.int (1 : Int32))] [(.int (1 : Int32))])
        exact hR X13 (fun fs hl => retN X13 hx (t := .boolean) hret (by simp) (hb hby at_122) hl) (fun q => by rw [hret] at q; cases q) ⟨rfl, F13⟩ (by decide) (by decide)
set_option maxRecDepth 65536 in
set_option maxHeartbeats 40000000 in
theorem comes_1 {Post : Tables → Env → Array Value → State → Outcome → State → Prop} (hpost : ∀ tb e args s v u, (limb_1_1.after args s (.returned v) u = true ∧ limb_1_2.after args s (.returned v) u = true ∧ True) → FrameEnd s (.returned v) u (Jvm.fieldLocs frame_1_writes args s ++ Jvm.arrayLocs frame_1_arrays args s ++ Jvm.staticLocs frame_1_statics s) 16 128 → Post tb e args s (.returned v) u) :
    ArmFor flags0 classFile x code maxLocals ret World_1 tables_1 room_1 Calls_1 rest_1 Pre_1 Post := by
  intro l hfl _ _ p e ha hc hk s m args below hf hA hF happ hP
  obtain ⟨hcalls, hrest, hpre⟩ := hP
  obtain ⟨-, -, -, hnamed, -, -, -, hat⟩ := (Spec.applies_iff hf).mp happ
  obtain ⟨hg, hn⟩ := and_e (Cond.before_iff.mp (show (Jvm.Cond.and given_1 narrow_1).before args s = true from hpre))
  obtain ⟨hcnt, hgs⟩ := and_e hg
  obtain ⟨ha0, hgs⟩ := and_e hgs
  obtain ⟨ha1, hgs⟩ := and_e hgs
  have ha2 := hgs
  obtain ⟨w0, w1, w2, rfl⟩ : ∃ w0 w1 w2 : Value, args = #[w0, w1, w2] := by
    have hs : args.size = 3 := by simpa [Cond.value, given_1] using hcnt
    obtain ⟨L⟩ := args
    match L, hs with
    | [w0, w1, w2], _ => exact ⟨w0, w1, w2, rfl⟩
  have hw := fun d (hd : d ∈ tables_1) => atoms_spec (ws := Jvm.Cond.code x code maxLocals ret :: tables_1) hat d (List.mem_cons_of_mem _ hd)
  obtain ⟨i0, ei0⟩ := is_v ha0
  obtain rfl : w0 = (.int i0) := Option.some.inj ei0
  obtain ⟨i1, ei1⟩ := is_v ha1
  obtain rfl : w1 = (.int i1) := Option.some.inj ei1
  obtain ⟨i2, ei2⟩ := is_v ha2
  obtain rfl : w2 = (.int i2) := Option.some.inj ei2
  obtain ⟨n, o, h1, h2, h3, _, L, rfl, ⟨rfl, N⟩, hq⟩ := rm0 l s _ hw tables_1 i0 i1 i2 s.heap s.heap.size (Nat.le_refl _) p e ha hc hk s m _ below hf ((Spec.applies_iff_loose hf).mp happ).1 ⟨rfl, State.Warmed39.refl s, rfl⟩ trivial
  exact ⟨n, _, h1, h2, h3, hpost _ _ _ _ _ _ ⟨Cond.after_iff.mpr rfl, Cond.after_iff.mpr (eq_i res_at (Term.int_eval (1)) rfl), trivial⟩ ⟨hq.1, hq.2.1, (hq.2.2.sift fun y hy => Or.inr (N y hy)).mono (by decide) (by decide)⟩⟩
theorem main_1_1 : Claimed_1_1 := comes_1 fun _ _ _ _ _ _ h hF => ⟨h.1, hF⟩
theorem main_1_2 : Claimed_1_2 := comes_1 fun _ _ _ _ _ _ h hF => ⟨h.2.1, hF⟩
end Jvm.Pilot.@@N@@
namespace Jvm.Pilot.@@N@@
open Jvm Jvm.ClassFile Sem Op Lib Jvm.Free Jvm.Stand Jvm.Pilot.@@N@@.Jvm.D
/-! MADE BY PROGRAM (witnessworld.py) out of the Statement's table words and the real class files: 10 classes; the members and pool entries that the words name. The judged class is class 1, her method 2. -/
namespace start1
open Jvm.ClassFile
def u (s : String) : CpInfo := .utf8 (stringToUtf16 s)
/-- a pool by its gaps: so many unusable entries, then the entry; so many at the end -/
def gap : Nat → List CpInfo → List CpInfo
  | 0, r => r
  | n + 1, r => .unusable :: gap n r
def poolList (es : List (Nat × CpInfo)) (last : Nat) : List CpInfo := es.foldr (fun e r => gap e.1 (e.2 :: r)) (gap last [])
def pool (es : List (Nat × CpInfo)) (last : Nat) : Array CpInfo := ⟨poolList es last⟩
def fileOf (pool : Array CpInfo) (this : Nat) (attrs : Array Attribute := #[]) (ms : Array MethodInfo := #[]) (fl : Nat := 33) (sup : Nat := 0) (ifs : Array Nat := #[]) (fds : Array FieldInfo := #[]) : ClassFile where
  minorVersion := 0
  majorVersion := 65
  constantPool := pool
  accessFlags := fl
  thisClass := this
  superClass := sup
  interfaces := ifs
  fields := fds
  methods := ms
  attributes := attrs
def plain (name : String) (sup : Option ClassId) : Class where
  name := name
  kind := .ordinary
  loader := none
  accessFlags := 33
  super := sup
  interfaces := #[]
  cf := none
  fields := #[]
  methods := #[]
  instanceTypes := #[]
  staticTypes := #[]
  resolved := #[]
  callSites := []
  init := .initialized
  statics := none
  mirror := none

def pool0 : Array CpInfo := pool [(5, u "<init>"), (0, u "()V"), (1, .class_ 10), (1, u "java/lang/Object")] 113

def k0c0 : Code := { maxStack := 0, maxLocals := 1, code := object_method_1_code, exceptionTable := #[], attributes := #[] }
def k0m0 : Method := { name := "<init>", desc := "()V", sig := { parameters := [], returnType := none }, accessFlags := 1, code := some k0c0 }
/-- java/lang/Object -/
def k0 : Class := { plain "java/lang/Object" none with
  accessFlags := 33
  interfaces := #[]
  cf := some (fileOf pool0 8 #[] #[{ accessFlags := 1, nameIndex := 5, descriptorIndex := 6, attributes := #[] }] 33 0 #[] #[])
  fields := #[]
  methods := #[k0m0]
  instanceTypes := #[]
  staticTypes := #[]
  resolved := Array.replicate 124 none
  statics := none }

def pool1 : Array CpInfo := pool [(2, .class_ 4), (1, u "java/lang/Object"), (0, u "<init>"), (0, u "()V"), (0, .class_ 8), (0, u "com/example/tracewright/tracewright/Cardinality"), (0, .methodref 7 10), (0, .nameAndType 5 11), (0, u "(II)V"), (0, .methodref 7 13), (0, .nameAndType 14 15), (0, u "allows"), (0, u "(I)Z"), (0, .methodref 17 18), (0, .class_ 19), (0, .nameAndType 20 21), (0, u "com/example/tracewright/tracewright/CardinalityAllowsPinLaw"), (0, u "inRange"), (0, u "(III)Z"), (2, .integer 2147483648), (0, .integer 2147483647), (3, u "law")] 2

def k1m0 : Method := { name := "<init>", desc := "()V", sig := { parameters := [], returnType := none }, accessFlags := 2, code := none }
def k1c1 : Code := { maxStack := 4, maxLocals := 7, code := method_2_code, exceptionTable := #[], attributes := #[] }
def k1m1 : Method := { name := "inRange", desc := "(III)Z", sig := { parameters := [.int, .int, .int], returnType := some .boolean }, accessFlags := 10, code := some k1c1 }
def k1c2 : Code := { maxStack := 4, maxLocals := 5, code := code, exceptionTable := #[], attributes := #[] }
def k1m2 : Method := { name := "law", desc := "(III)Z", sig := { parameters := [.int, .int, .int], returnType := some .boolean }, accessFlags := 9, code := some k1c2 }
/-- com/example/tracewright/tracewright/CardinalityAllowsPinLaw -/
def k1 : Class := { plain "com/example/tracewright/tracewright/CardinalityAllowsPinLaw" (some 0) with
  accessFlags := 49
  interfaces := #[]
  cf := some (fileOf pool1 17 #[] #[{ accessFlags := 2, nameIndex := 5, descriptorIndex := 6, attributes := #[] }, { accessFlags := 10, nameIndex := 20, descriptorIndex := 21, attributes := #[] }, { accessFlags := 9, nameIndex := 29, descriptorIndex := 21, attributes := #[] }] 49 2 #[] #[])
  fields := #[]
  methods := #[k1m0, k1m1, k1m2]
  instanceTypes := #[]
  staticTypes := #[]
  resolved := Array.replicate 32 none
  statics := none }

def pool2 : Array CpInfo := pool [(1, .methodref 2 3), (0, .class_ 4), (0, .nameAndType 5 6), (0, u "java/lang/Object"), (0, u "<init>"), (0, u "()V"), (0, .class_ 8), (0, u "java/lang/Record")] 13

def k2c0 : Code := { maxStack := 1, maxLocals := 1, code := jdk_30_method_1_code, exceptionTable := #[], attributes := #[] }
def k2m0 : Method := { name := "<init>", desc := "()V", sig := { parameters := [], returnType := none }, accessFlags := 4, code := some k2c0 }
/-- java/lang/Record -/
def k2 : Class := { plain "java/lang/Record" (some 0) with
  accessFlags := 1057
  interfaces := #[]
  cf := some (fileOf pool2 7 #[] #[{ accessFlags := 4, nameIndex := 5, descriptorIndex := 6, attributes := #[] }] 1057 2 #[] #[])
  fields := #[]
  methods := #[k2m0]
  instanceTypes := #[]
  staticTypes := #[]
  resolved := Array.replicate 22 none
  statics := none }

def pool3 : Array CpInfo := pool [(3, .methodref 4 5), (0, .class_ 6), (0, .nameAndType 7 8), (0, u "java/lang/Record"), (0, u "<init>"), (0, u "()V"), (0, .fieldref 10 11), (0, .class_ 12), (0, .nameAndType 13 14), (0, u "com/example/tracewright/tracewright/Cardinality"), (0, u "min"), (0, u "I"), (0, .fieldref 10 16), (0, .nameAndType 17 14), (0, u "max"), (3, u "(II)V"), (27, u "ONE"), (0, u "Lcom/example/tracewright/tracewright/Cardinality;"), (2, u "AT_MOST_ONE"), (2, u "ONE_OR_TWO"), (2, u "AT_LEAST_ONE"), (2, u "ANY"), (0, u "MANY"), (4, u "allows"), (0, u "(I)Z")] 45

def k3c0 : Code := { maxStack := 2, maxLocals := 3, code := prog_28_method_1_code, exceptionTable := #[], attributes := #[] }
def k3m0 : Method := { name := "<init>", desc := "(II)V", sig := { parameters := [.int, .int], returnType := none }, accessFlags := 0, code := some k3c0 }
def k3c1 : Code := { maxStack := 2, maxLocals := 2, code := prog_28_method_2_code, exceptionTable := #[], attributes := #[] }
def k3m1 : Method := { name := "allows", desc := "(I)Z", sig := { parameters := [.int], returnType := some .boolean }, accessFlags := 0, code := some k3c1 }
/-- com/example/tracewright/tracewright/Cardinality -/
def k3 : Class := { plain "com/example/tracewright/tracewright/Cardinality" (some 2) with
  accessFlags := 48
  interfaces := #[]
  cf := some (fileOf pool3 10 #[] #[{ accessFlags := 0, nameIndex := 7, descriptorIndex := 21, attributes := #[] }, { accessFlags := 0, nameIndex := 68, descriptorIndex := 69, attributes := #[] }] 48 4 #[] #[{ accessFlags := 18, nameIndex := 13, descriptorIndex := 14, attributes := #[] }, { accessFlags := 18, nameIndex := 17, descriptorIndex := 14, attributes := #[] }, { accessFlags := 24, nameIndex := 63, descriptorIndex := 14, attributes := #[] }, { accessFlags := 24, nameIndex := 49, descriptorIndex := 50, attributes := #[] }, { accessFlags := 24, nameIndex := 53, descriptorIndex := 50, attributes := #[] }, { accessFlags := 24, nameIndex := 56, descriptorIndex := 50, attributes := #[] }, { accessFlags := 24, nameIndex := 59, descriptorIndex := 50, attributes := #[] }, { accessFlags := 24, nameIndex := 62, descriptorIndex := 50, attributes := #[] }])
  fields := #[{ name := "min", type := .int, accessFlags := 18, slot := 0, constantValue := 0 }, { name := "max", type := .int, accessFlags := 18, slot := 1, constantValue := 0 }, { name := "MANY", type := .int, accessFlags := 24, slot := 0, constantValue := 0 }, { name := "ONE", type := (.object "com/example/tracewright/tracewright/Cardinality"), accessFlags := 24, slot := 1, constantValue := 0 }, { name := "AT_MOST_ONE", type := (.object "com/example/tracewright/tracewright/Cardinality"), accessFlags := 24, slot := 2, constantValue := 0 }, { name := "ONE_OR_TWO", type := (.object "com/example/tracewright/tracewright/Cardinality"), accessFlags := 24, slot := 3, constantValue := 0 }, { name := "AT_LEAST_ONE", type := (.object "com/example/tracewright/tracewright/Cardinality"), accessFlags := 24, slot := 4, constantValue := 0 }, { name := "ANY", type := (.object "com/example/tracewright/tracewright/Cardinality"), accessFlags := 24, slot := 5, constantValue := 0 }]
  methods := #[k3m0, k3m1]
  instanceTypes := #[.int, .int]
  staticTypes := #[.int, (.object "com/example/tracewright/tracewright/Cardinality"), (.object "com/example/tracewright/tracewright/Cardinality"), (.object "com/example/tracewright/tracewright/Cardinality"), (.object "com/example/tracewright/tracewright/Cardinality"), (.object "com/example/tracewright/tracewright/Cardinality")]
  resolved := Array.replicate 115 none
  statics := none }

def pool4 : Array CpInfo := pool [(1, u "java/lang/Cloneable"), (0, .class_ 1), (0, u "java/lang/Object"), (0, .class_ 3)] 3

/-- java/lang/Cloneable -/
def k4 : Class := { plain "java/lang/Cloneable" (some 0) with
  accessFlags := 1537
  interfaces := #[]
  cf := some (fileOf pool4 2 #[] #[] 1537 4 #[] #[])
  fields := #[]
  methods := #[]
  instanceTypes := #[]
  staticTypes := #[]
  resolved := Array.replicate 8 none
  statics := none }

def pool5 : Array CpInfo := pool [(1, u "java/io/Serializable"), (0, .class_ 1), (0, u "java/lang/Object"), (0, .class_ 3)] 3

/-- java/io/Serializable -/
def k5 : Class := { plain "java/io/Serializable" (some 0) with
  accessFlags := 1537
  interfaces := #[]
  cf := some (fileOf pool5 2 #[] #[] 1537 4 #[] #[])
  fields := #[]
  methods := #[]
  instanceTypes := #[]
  staticTypes := #[]
  resolved := Array.replicate 8 none
  statics := none }

/-- the primitive byte -/
def k6 : Class := { plain "byte" none with kind := .primitive 'B', accessFlags := 0x411 }
/-- [B -/
def k7 : Class := { plain "[B" (some 0) with kind := .array 6 .byte, interfaces := #[4, 5], accessFlags := 1041 }

/-- the primitive int -/
def k8 : Class := { plain "int" none with kind := .primitive 'I', accessFlags := 0x411 }
/-- [I -/
def k9 : Class := { plain "[I" (some 0) with kind := .array 8 .int, interfaces := #[4, 5], accessFlags := 1041 }

def heap : Heap := #[]
def classes : Array Class := #[k0, k1, k2, k3, k4, k5, k6, k7, k8, k9]
def interned : List (Array UInt16 × Addr) := []
def slotsUsed : Nat := 0
def theMethod : MethodId := ⟨1, 2⟩
def args0 : Array Value := #[.int 5, .int 9, .int 7]
def aboutOver (below : List Frame) : State where
  vm := { classes := classes, interned := interned.toArray }
  heap := heap
  slotsUsed := slotsUsed
  threads := #[{ frames := .invoking theMethod args0 :: below }]
def below0 : List Frame := [.native { method := ⟨0, 0⟩, args := #[] }]
def about1 : State := aboutOver below0
def p0 : Program := .bare "" "" ""
def e0 : Env := launch0.env 0 0 0
theorem w_frames : about1.frames = Frame.invoking theMethod args0 :: below0 := rfl
set_option maxRecDepth 65536 in
theorem w_args : argsFit about1.vm theMethod args0 = true := by decide +kernel
set_option maxRecDepth 65536 in
theorem w_heap : heapFits about1 = true := by decide +kernel
set_option maxRecDepth 65536 in
theorem w_runnable : about1.curStatus? = some .runnable := by decide +kernel
set_option maxRecDepth 65536 in
theorem w_alone : about1.alone = true := by decide +kernel
set_option maxRecDepth 65536 in
theorem w_named : about1.methodNamed? x = some theMethod := by decide +kernel
set_option maxRecDepth 65536 in
theorem w_hears : about1.hears theMethod below0 = true := by decide +kernel
set_option maxRecDepth 65536 in
theorem w_ripe : about1.ripe theMethod args0 below0 = true := by decide +kernel
theorem w_running : about1.status = .running := rfl
set_option maxRecDepth 65536 in
theorem w_room : about1.hasRoom e0.platform room_1 = true :=
  launch0.hasRoom_least _ room_1 (by decide +kernel) (by decide +kernel) (by decide +kernel) (by decide +kernel) (by decide +kernel) (by decide +kernel)
theorem allAtoms_all (ts : List Jvm.Cond) (a : Array Jvm.Value) (st : Jvm.State) : (allAtoms ts).before a st = ts.all (fun c => c.before a st) := by
  induction ts with
  | nil => rfl
  | cons c t ih =>
    show (Jvm.Cond.and c (allAtoms t)).before a st = _
    rw [Jvm.Cond.before_and, ih, List.all_cons]
def words1 : List Jvm.Cond := Jvm.Cond.code x code maxLocals ret :: tables_1
/-- a 'code' word, met by the world's own term for the bytes: nothing is compared byte by byte -/
theorem code_word {y : MethodName} {bytes : ByteArray} {mx : Nat} {rt : Option FieldType} {a : Array Value} {s : State} {m : MethodId} {meth : Method} {c : Code} (h1 : s.methodNamed? y = some m) (h2 : s.vm.method? m = some meth) (h3 : meth.code = some c) (h4 : c.code = bytes)
    (h5 : (c.maxLocals == mx && c.exceptionTable.isEmpty && decide (c.maxStack ≤ mostOperands) && decide (meth.sig.returnType = rt) && !meth.locks && decide (parseMethodDescriptor y.desc = some meth.sig)) = true) : (Jvm.Cond.code y bytes mx rt).before a s = true := by
  simp only [Bool.and_eq_true, beq_iff_eq, Bool.not_eq_true', decide_eq_true_eq] at h5
  obtain ⟨⟨⟨⟨⟨g1, g2⟩, g3⟩, g4⟩, g5⟩, g6⟩ := h5
  simp [Cond.before, Cond.holds, Cond.value, h1, h2, h3, h4, g1, g2, g3, g4, g5, g6]
def isCode : Jvm.Cond → Bool
  | .code _ _ _ _ => true
  | _ => false
theorem all_split {L : List Jvm.Cond} {P : Jvm.Cond → Bool} (h1 : L.all (fun c => isCode c || P c) = true) (h2 : ∀ c ∈ L.filter isCode, P c = true) : L.all P = true := by
  refine List.all_eq_true.mpr fun c hc => ?_
  have h := List.all_eq_true.mp h1 c hc
  rcases Bool.eq_false_or_eq_true (isCode c) with hi | hi
  · exact h2 c (List.mem_filter.mpr ⟨hc, hi⟩)
  · simpa [hi] using h
set_option maxRecDepth 65536 in
theorem w_c0 : (Jvm.Cond.code x code maxLocals ret).before args0 about1 = true := code_word (m := ⟨1, 2⟩) (meth := k1m2) (c := k1c2) (by decide +kernel) rfl rfl rfl (by decide +kernel)
set_option maxRecDepth 65536 in
theorem w_c1 : (Jvm.Cond.code ({ cls := "com/example/tracewright/tracewright/Cardinality", name := "<init>", desc := "(II)V" } : Jvm.MethodName) prog_28_method_1_code (3 : Nat) (Option.none : Option Jvm.ClassFile.FieldType)).before args0 about1 = true := code_word (m := ⟨3, 0⟩) (meth := k3m0) (c := k3c0) (by decide +kernel) rfl rfl rfl (by decide +kernel)
set_option maxRecDepth 65536 in
theorem w_c2 : (Jvm.Cond.code ({ cls := "java/lang/Record", name := "<init>", desc := "()V" } : Jvm.MethodName) jdk_30_method_1_code (1 : Nat) (Option.none : Option Jvm.ClassFile.FieldType)).before args0 about1 = true := code_word (m := ⟨2, 0⟩) (meth := k2m0) (c := k2c0) (by decide +kernel) rfl rfl rfl (by decide +kernel)
set_option maxRecDepth 65536 in
theorem w_c3 : (Jvm.Cond.code ({ cls := "java/lang/Object", name := "<init>", desc := "()V" } : Jvm.MethodName) object_method_1_code (1 : Nat) (Option.none : Option Jvm.ClassFile.FieldType)).before args0 about1 = true := code_word (m := ⟨0, 0⟩) (meth := k0m0) (c := k0c0) (by decide +kernel) rfl rfl rfl (by decide +kernel)
set_option maxRecDepth 65536 in
theorem w_c4 : (Jvm.Cond.code ({ cls := "com/example/tracewright/tracewright/Cardinality", name := "allows", desc := "(I)Z" } : Jvm.MethodName) prog_28_method_2_code (2 : Nat) (Option.some Jvm.ClassFile.FieldType.boolean)).before args0 about1 = true := code_word (m := ⟨3, 1⟩) (meth := k3m1) (c := k3c1) (by decide +kernel) rfl rfl rfl (by decide +kernel)
set_option maxRecDepth 65536 in
theorem w_c5 : (Jvm.Cond.code ({ cls := "com/example/tracewright/tracewright/CardinalityAllowsPinLaw", name := "inRange", desc := "(III)Z" } : Jvm.MethodName) method_2_code (7 : Nat) (Option.some Jvm.ClassFile.FieldType.boolean)).before args0 about1 = true := code_word (m := ⟨1, 1⟩) (meth := k1m1) (c := k1c1) (by decide +kernel) rfl rfl rfl (by decide +kernel)
def codes1 : List Jvm.Cond := [Jvm.Cond.code x code maxLocals ret, Jvm.Cond.code ({ cls := "com/example/tracewright/tracewright/Cardinality", name := "<init>", desc := "(II)V" } : Jvm.MethodName) prog_28_method_1_code (3 : Nat) (Option.none : Option Jvm.ClassFile.FieldType), Jvm.Cond.code ({ cls := "java/lang/Record", name := "<init>", desc := "()V" } : Jvm.MethodName) jdk_30_method_1_code (1 : Nat) (Option.none : Option Jvm.ClassFile.FieldType), Jvm.Cond.code ({ cls := "java/lang/Object", name := "<init>", desc := "()V" } : Jvm.MethodName) object_method_1_code (1 : Nat) (Option.none : Option Jvm.ClassFile.FieldType), Jvm.Cond.code ({ cls := "com/example/tracewright/tracewright/Cardinality", name := "allows", desc := "(I)Z" } : Jvm.MethodName) prog_28_method_2_code (2 : Nat) (Option.some Jvm.ClassFile.FieldType.boolean), Jvm.Cond.code ({ cls := "com/example/tracewright/tracewright/CardinalityAllowsPinLaw", name := "inRange", desc := "(III)Z" } : Jvm.MethodName) method_2_code (7 : Nat) (Option.some Jvm.ClassFile.FieldType.boolean)]
set_option maxRecDepth 65536 in
theorem codes_eq : words1.filter isCode = codes1 := rfl
theorem w_codes : ∀ c ∈ words1.filter isCode, c.before args0 about1 = true := by
  rw [codes_eq]
  intro c hc
  simp only [codes1, List.mem_cons, List.not_mem_nil, or_false] at hc
  rcases hc with rfl | rfl | rfl | rfl | rfl | rfl
  · exact w_c0
  · exact w_c1
  · exact w_c2
  · exact w_c3
  · exact w_c4
  · exact w_c5
set_option maxRecDepth 65536 in
theorem w_t1 : (words1.take 24).all (fun c => isCode c || c.before args0 about1) = true := by decide +kernel
set_option maxRecDepth 65536 in
theorem w_t2 : (words1.drop 24).all (fun c => isCode c || c.before args0 about1) = true := by decide +kernel
theorem w_tables : (allAtoms (Jvm.Cond.code x code maxLocals ret :: tables_1)).before args0 about1 = true := by
  rw [allAtoms_all]
  show words1.all (fun c => c.before args0 about1) = true
  refine all_split ?_ w_codes
  rw [← List.take_append_drop 24 words1, List.all_append, w_t1, w_t2]
  rfl
set_option maxRecDepth 65536 in
theorem w_case : (Jvm.Cond.and given_1 narrow_1).before args0 about1 = true := by decide +kernel
theorem w_applies : (headSpec (Jvm.Cond.code x code maxLocals ret :: tables_1) room_1).applies x e0.platform about1 = true :=
  (Spec.applies_iff w_frames).mpr ⟨w_running, w_runnable, w_alone, w_named, w_hears, w_ripe, w_room, w_tables⟩
theorem atStart : AtStart classFile x code maxLocals ret World_1 tables_1 room_1 Calls_1 rest_1 Pre_1 launch0 p0 e0 about1 theMethod args0 below0 :=
  ⟨lists_1, trivial, launch0.admits_env _ _ _, launch0.least_env, fairChoices_fair.cas, fairChoices_fair.clock, w_frames, w_args, w_heap, w_applies, trivial, trivial, w_case⟩
end start1
theorem witness_1 : WitnessClaimed_1 := ⟨start1.p0, start1.e0, start1.about1, start1.theMethod, start1.args0, start1.below0, start1.atStart⟩
end Jvm.Pilot.@@N@@
