import JvmDerived
import JvmDerived.Pilot.@@N@@Statement
import JvmDerived.Pilot.@@N@@Code
set_option linter.unusedVariables false
set_option linter.unusedSimpArgs false
namespace Jvm.RoadKit
open Sem ClassFile Op Lib Jvm.Stand Jvm.Free Jvm.LawKit
section New
variable {p : Program} {l : Launch} {e : Env} {R : Room} {s : State} {m : MethodId} {args : Array Value} {below : List Frame} {meth : Method} {c : Code} {T : State} {locs : List Loc} {cells slots : Nat}
theorem retI (X : Stand p l e R s m args below meth c T locs cells slots) (hx : p.tables.exec = Jvm.exec) {pc : Nat} {Ls : Array Slot} {z : Int32} {rest : List Value} (hret : meth.sig.returnType = some .int) (hd : decode c.code pc = .ok (.ireturn, 1)) {fs : List Frame}
    (hl : ∀ (f : JFrame) (acts : List Action), f.method = m → f.locked = none → f.entered = [] → (doReturn e (T.setTop f) acts (some (.int z))).1 = T.setFrames fs) : Steps p.tables e below (T.setTop (mkF m pc Ls (.int z :: rest))) (T.setFrames fs) := by
  have hm' : T.vm.method? m = some meth := X.method'
  have hn : narrow .int (.int z) = .int z := rfl
  show Steps p.tables e below (T.setTop { method := m, pc := pc, locals := Ls, stack := _ :: rest, locked := none }) _
  jvm_step X.here [X.here.top, hx, hd, hm', hret, hn]
  first | (intro acts; rw [hl _ acts rfl rfl rfl]) | rw [hl _ _ rfl rfl rfl]
  exact Steps.refl _
end New
end Jvm.RoadKit
namespace Jvm.Pilot.@@N@@
open Jvm Jvm.ClassFile Sem Op Lib Jvm.Free Jvm.Stand Jvm.LawKit Jvm.RoadKit Bundle Jvm.Pilot.@@N@@.Jvm.D
/-! 1. own frame of the walks: a goal 'G T f' says: from the state T with the top frame f the body comes to its end as its contract says. G is kept opaque in a walk: own_Pre steps it back, own_Ret ends it. -/
abbrev own_Pre (p : Program) (e : Env) (below : List Frame) (G : State → JFrame → Prop) : Prop :=
  ∀ {T T2 : State} {f f2 : JFrame}, (∀ t, Steps p.tables e below (T2.setTop f2) t → Steps p.tables e below (T.setTop f) t) → G T2 f2 → G T f
abbrev own_Lv (p : Program) (e : Env) (below : List Frame) (m : MethodId) (T : State) (f : JFrame) (v : Option Value) : Prop :=
  ∀ fs, (∀ (f : JFrame) (acts : List Action), f.method = m → f.locked = none → f.entered = [] → (doReturn e (T.setTop f) acts v).1 = T.setFrames fs) → Steps p.tables e below (T.setTop f) (T.setFrames fs)
abbrev own_Ret (p : Program) (l : Launch) (e : Env) (R : Room) (s : State) (m : MethodId) (as' : Array Value) (below : List Frame) (meth : Method) (c : Code) (Q : Option Value → Heap → List Loc → Prop) (C S : Nat) (G : State → JFrame → Prop) : Prop :=
  ∀ {T : State} {locs : List Loc} {cells slots : Nat} {f : JFrame} {v : Option Value}, Stand p l e R s m as' below meth c T locs cells slots → own_Lv p e below m T f v → (meth.sig.returnType = none → v = none) → Q v T.heap locs → cells ≤ C → slots ≤ S → G T f
theorem own_contract {l : Launch} {Z : State} {y : MethodName} {bytes : ByteArray} {maxL : Nat} {ret : Option FieldType} {ws : List Jvm.Cond} {rm : Room} {as' : Array Value} {h0 : Heap} {Q : Option Value → Heap → List Loc → Prop} {Ls : Array Slot}
    (hpl : plainFor y = true) (hef : ∀ m, entryFrame m as' maxL = mkF m 0 Ls [])
    (H : ∀ (p : Program) (e : Env) (s : State) (m : MethodId) (below : List Frame) (meth : Method) (c : Code) (s₁ : State) (G : State → JFrame → Prop),
      p.tables.exec = Jvm.exec → c.code = bytes → c.maxLocals = maxL → s.vm.findClass y.cls = some m.cls → meth.name = y.name → meth.sig.returnType = ret → Z.Warmed39 s.vm →
      Stand p l e rm s m as' below meth c s₁ [] 0 0 → s₁.heap = h0 → own_Pre p e below G → own_Ret p l e rm s m as' below meth c Q rm.cells rm.slots G → G s₁ (mkF m 0 Ls [])) :
    MetFree l y (head1 (Jvm.Cond.code y bytes maxL ret :: ws) rm) (fun a U => a = as' ∧ Z.Warmed39 U.vm ∧ U.heap = h0) (fun _ _ _ _ _ => True) (fun _ U o U' => ∃ v L, o = .returned v ∧ Q v U'.heap L ∧ FrameEnd U o U' L rm.cells rm.slots) := by
  refine MetFree.of_bodySF hpl hisR ?_
  intro p e s m args below meth c s₁ Bd hml0 hP hK
  obtain ⟨rfl, hZ, hh⟩ := hP
  have X0 : Stand p l e rm s m args below meth c s₁ [] 0 0 := Stand.of_body Bd
  have e0 : s₁.heap = h0 := by rw [← hh, Bd.state]; rfl
  obtain ⟨T', locs, cells, slots, v, X, hst, hv, hQ, hc, hs⟩ := H p e s m below meth c s₁
    (fun T f => ∃ (T' : State) (locs : List Loc) (cells slots : Nat) (v : Option Value), Stand p l e rm s m args below meth c T' locs cells slots ∧
      (∀ fs, (∀ (f : JFrame) (acts : List Action), f.method = m → f.locked = none → f.entered = [] → (doReturn e (T'.setTop f) acts v).1 = T'.setFrames fs) → Steps p.tables e below (T.setTop f) (T'.setFrames fs)) ∧
      (meth.sig.returnType = none → v = none) ∧ Q v T'.heap locs ∧ cells ≤ rm.cells ∧ slots ≤ rm.slots)
    Bd.exec Bd.bytes hml0 (findClass_of_methodNamed Bd.named) (name_of_methodNamed Bd.named Bd.method).1 Bd.returns hZ X0 e0
    (fun {T T2 f f2} hs hG => by
      obtain ⟨T', locs, cells, slots, v, X, hst, r⟩ := hG
      exact ⟨T', locs, cells, slots, v, X, fun fs hl => hs _ (hst fs hl), r⟩)
    (fun {T locs cells slots f v} X hl hv hQ hc hs => ⟨T, locs, cells, slots, v, X, hl, hv, hQ, hc, hs⟩)
  obtain ⟨fs, hr, hrun, hended, hW, hsame⟩ := X.leave hv Bd.notSynchronized
  exact ⟨_, _, castTop (hef m) (hst fs hr), hrun, hended, _, _, rfl, hQ, ⟨_, rfl⟩, hW, hsame.mono hc hs⟩
/-- what a body without a write says: its value, nothing old written, the heap as it was -/
abbrev own_Q (r : Option Value) (h0 : Heap) (n0 : Nat) (v : Option Value) (h : Heap) (L : List Loc) : Prop := v = r ∧ Fr n0 L ∧ h = h0
section Calls
variable {p : Program} {l : Launch} {e : Env} {R : Room} {s : State} {m : MethodId} {args : Array Value} {below : List Frame} {meth : Method} {c : Code} {T : State} {locs : List Loc} {cells slots : Nat} {Z : State} {a0 : Array Value} {h : Heap}
theorem own_callS (X : Stand p l e R s m args below meth c T locs cells slots) (hx : p.tables.exec = Jvm.exec) (hZ : Z.Warmed39 s.vm) {own : String} {index : Nat} {y : MethodName} {bytes : ByteArray} {maxL : Nat} {ret : Option FieldType} {rm : Room} {as' : Array Value} {Q : Option Value → Heap → List Loc → Prop}
    (W : Nat) (hown : s.vm.findClass own = some m.cls) (w1 : (Cond.methodLink own index y).before a0 Z = true) (w2 : (Cond.static y).before a0 Z = true) (w3 : (Cond.initialized y.cls).before a0 Z = true) (w4 : (Cond.code y bytes maxL ret).before a0 Z = true)
    (hy : y.cls ≠ "java/lang/invoke/MethodHandle" ∧ y.cls ≠ "java/lang/invoke/VarHandle")
    (hM : MetFree l y (head1 [Cond.code y bytes maxL ret] rm) (fun a U => a = as' ∧ Z.Warmed39 U.vm ∧ U.heap = h) (fun _ _ _ _ _ => True) (fun _ U o U' => ∃ v L, o = .returned v ∧ Q v U'.heap L ∧ FrameEnd U o U' L rm.cells rm.slots))
    (eT : T.heap = h) (hf : rm.frames + 1 ≤ R.frames) (hl : W + (maxL + 11) + rm.locals ≤ R.locals) {g : JFrame} (hg : g.method = m) (hsize : g.locals.size = c.maxLocals) (argsL rest : List Value) {ps : List FieldType} {r : Option FieldType}
    (hd : parseMethodDescriptor y.desc = some ⟨ps, r⟩) (hlen : argsL.length = ps.length) (hstack : g.stack = argsL.reverse ++ rest) (hW : 2 * g.monitorRoom + (rest.map fun v => v.category).sum ≤ W) (hdg : decode c.code g.pc = .ok (.invokestatic index, 3))
    (has : argsL.toArray = as') (hc : cells + rm.cells ≤ R.cells) (hs : slots + rm.slots ≤ R.slots) :
    ∃ (v : Option Value) (T' : State) (L : List Loc), Stand p l e R s m args below meth c T' (locs ++ L) (cells + rm.cells) (slots + rm.slots) ∧ Q v T'.heap L ∧
      ∀ t, Steps p.tables e below (T'.setTop { g with pc := g.pc + 3, stack := v.toList ++ rest }) t → Steps p.tables e below (T.setTop g) t := by
  obtain ⟨v, _, ⟨T', L', k', n'⟩, -, X', ⟨Lc, hQ, l', y', z'⟩, st⟩ := Jvm.LawKit.callS X hx (y := y) hown (mvT hZ w1) (mvT hZ w2) (mvT hZ w3) (mvT hZ w4) hy (backOf (W := W) hM hZ w4 w3 hf hl) hg hsize (argsL := argsL) (rest := rest) (lenOf hd hlen) hstack hW hdg (fun _ _ => ⟨has, eT, hc, hs⟩)
  dsimp only [Pt.U, Pt.locs, Pt.cells, Pt.slots] at X' l' y' z' st hQ
  subst l' y' z'
  exact ⟨v, T', Lc, X', hQ, st⟩
theorem own_callI (X : Stand p l e R s m args below meth c T locs cells slots) (hx : p.tables.exec = Jvm.exec) (hZ : Z.Warmed39 s.vm) {own : String} {index : Nat} {y : MethodName} {bytes : ByteArray} {maxL : Nat} {rm : Room} {as' : Array Value} {Q : Option Value → Heap → List Loc → Prop}
    (W : Nat) (hy1 : y.name = "<init>") (hown : s.vm.findClass own = some m.cls) (w1 : (Cond.methodLink own index y).before a0 Z = true) (w2 : (Cond.instanceMethod y).before a0 Z = true) (w3 : (Cond.initialized y.cls).before a0 Z = true) (w4 : (Cond.code y bytes maxL none).before a0 Z = true)
    (hy : y.cls ≠ "java/lang/invoke/MethodHandle" ∧ y.cls ≠ "java/lang/invoke/VarHandle")
    (hM : MetFree l y (head1 [Cond.code y bytes maxL none] rm) (fun a U => a = as' ∧ Z.Warmed39 U.vm ∧ U.heap = h) (fun _ _ _ _ _ => True) (fun _ U o U' => ∃ v L, o = .returned v ∧ Q v U'.heap L ∧ FrameEnd U o U' L rm.cells rm.slots))
    (eT : T.heap = h) (hf : rm.frames + 1 ≤ R.frames) (hl : W + (maxL + 11) + rm.locals ≤ R.locals) {g : JFrame} (hg : g.method = m) (hsize : g.locals.size = c.maxLocals) (a : Addr) (argsL rest : List Value) {ps : List FieldType} {r : Option FieldType}
    (hd : parseMethodDescriptor y.desc = some ⟨ps, r⟩) (hlen : argsL.length = ps.length) (hstack : g.stack = argsL.reverse ++ .ref a :: rest) (hW : 2 * g.monitorRoom + (rest.map fun v => v.category).sum ≤ W) (hdg : decode c.code g.pc = .ok (.invokespecial index, 3))
    (has : (.ref a :: argsL).toArray = as') (hc : cells + rm.cells ≤ R.cells) (hs : slots + rm.slots ≤ R.slots) :
    ∃ (v : Option Value) (T' : State) (L : List Loc), Stand p l e R s m args below meth c T' (locs ++ L) (cells + rm.cells) (slots + rm.slots) ∧ Q v T'.heap L ∧
      ∀ t, Steps p.tables e below (T'.setTop { g with pc := g.pc + 3, stack := v.toList ++ rest }) t → Steps p.tables e below (T.setTop g) t := by
  obtain ⟨v, _, ⟨T', L', k', n'⟩, -, X', ⟨Lc, hQ, l', y', z'⟩, st⟩ := X.specialBack hx (y := y) hy1 hown (mvT hZ w1) (mvT hZ w2) (mvT hZ w4) hy (backOf (W := W) hM hZ w4 w3 hf hl) hg hsize (Steps.refl _) (a := a) (argsL := argsL) (rest := rest) (lenOf hd hlen) hstack hW hdg (fun _ _ => ⟨has, eT, hc, hs⟩)
  dsimp only [Pt.U, Pt.locs, Pt.cells, Pt.slots] at X' l' y' z' st hQ
  subst l' y' z'
  exact ⟨v, T', Lc, X', hQ, fun t k => st.trans k⟩
theorem own_callV (X : Stand p l e R s m args below meth c T locs cells slots) (hx : p.tables.exec = Jvm.exec) (hZ : Z.Warmed39 s.vm) {own C : String} {index : Nat} {y : MethodName} {bytes : ByteArray} {maxL : Nat} {ret : Option FieldType} {rm : Room} {as' : Array Value} {Q : Option Value → Heap → List Loc → Prop}
    (W : Nat) (hown : s.vm.findClass own = some m.cls) (w1 : (Cond.methodLink own index y).before a0 Z = true) (w2 : (Cond.declares y).before a0 Z = true) (w3 : (Cond.selects C y y).before a0 Z = true) (w4 : (Cond.instanceMethod y).before a0 Z = true) (w5 : (Cond.initialized y.cls).before a0 Z = true) (w6 : (Cond.code y bytes maxL ret).before a0 Z = true)
    (hy : y.cls ≠ "java/lang/invoke/MethodHandle" ∧ y.cls ≠ "java/lang/invoke/VarHandle")
    (hM : MetFree l y (head1 [Cond.code y bytes maxL ret] rm) (fun a U => a = as' ∧ Z.Warmed39 U.vm ∧ U.heap = h) (fun _ _ _ _ _ => True) (fun _ U o U' => ∃ v L, o = .returned v ∧ Q v U'.heap L ∧ FrameEnd U o U' L rm.cells rm.slots))
    (eT : T.heap = h) {b : Addr} (E : Exa Z h b C) (hf : rm.frames + 1 ≤ R.frames) (hl : W + (maxL + 11) + rm.locals ≤ R.locals) {g : JFrame} (hg : g.method = m) (hsize : g.locals.size = c.maxLocals) (argsL rest : List Value) {ps : List FieldType} {r : Option FieldType}
    (hd : parseMethodDescriptor y.desc = some ⟨ps, r⟩) (hlen : argsL.length = ps.length) (hstack : g.stack = argsL.reverse ++ .ref b :: rest) (hW : 2 * g.monitorRoom + (rest.map fun v => v.category).sum ≤ W) (hdg : decode c.code g.pc = .ok (.invokevirtual index, 3))
    (has : (.ref b :: argsL).toArray = as') (hc : cells + rm.cells ≤ R.cells) (hs : slots + rm.slots ≤ R.slots) :
    ∃ (v : Option Value) (T' : State) (L : List Loc), Stand p l e R s m args below meth c T' (locs ++ L) (cells + rm.cells) (slots + rm.slots) ∧ Q v T'.heap L ∧
      ∀ t, Steps p.tables e below (T'.setTop { g with pc := g.pc + 3, stack := v.toList ++ rest }) t → Steps p.tables e below (T.setTop g) t := by
  obtain ⟨cq, kq, qa, qb, qc⟩ := isOf hZ eT E
  obtain ⟨v, _, ⟨T', L', k', n'⟩, -, X', ⟨Lc, hQ, l', y', z'⟩, st⟩ := X.virtualBack hx (y := y) (z := y) hown (mvT hZ w1) (mvT hZ w2) (notFace_of_selects (args := #[]) (mvT hZ w3)) (mvT hZ w3) (mvT hZ w4) hy (backOf (W := W) hM hZ w6 w5 hf hl) qa qc hg hsize (Steps.refl _) (argsL := argsL) (rest := rest) (lenOf hd hlen) hstack hW hdg (fun _ _ => ⟨has, eT, hc, hs⟩)
  dsimp only [Pt.U, Pt.locs, Pt.cells, Pt.slots] at X' l' y' z' st hQ
  subst l' y' z'
  exact ⟨v, T', Lc, X', hQ, fun t k => st.trans k⟩
end Calls
theorem own_lrem {tb : Tables} [Ours tb] {e : Env} {below : List Frame} {T target : State} {m : MethodId} {c : Code} {g : JFrame} (h : At T m c below) (hx : tb.exec = Jvm.exec) (hg : g.method = m) {x y : Int64} {rest : List Value} (hd : decode c.code g.pc = .ok (.lrem, 1)) (hs : g.stack = .long y :: .long x :: rest) (hy : y ≠ 0)
    (hr : Steps tb e below (T.setTop { g with pc := g.pc + 1, stack := .long (x % y) :: rest }) target) : Steps tb e below (T.setTop g) target := XS.lrem h hx hg hd hs hy (by rw [lrem_mod]; exact hr)
theorem own_pd0 : parseMethodDescriptor "(I)Z" = some ⟨[.int], some .boolean⟩ := by decide +kernel
theorem d2_0 : decode prog_11_method_30_code 0 = .ok (.iload_n 0, 1) := by decide +kernel
theorem d2_1 : decode prog_11_method_30_code 1 = .ok (.bipush 97, 2) := by decide +kernel
theorem d2_3 : decode prog_11_method_30_code 3 = .ok (.if_icmp .lt 9, 3) := by decide +kernel
theorem d2_6 : decode prog_11_method_30_code 6 = .ok (.iload_n 0, 1) := by decide +kernel
theorem d2_7 : decode prog_11_method_30_code 7 = .ok (.bipush 122, 2) := by decide +kernel
theorem d2_9 : decode prog_11_method_30_code 9 = .ok (.if_icmp .le 21, 3) := by decide +kernel
theorem d2_12 : decode prog_11_method_30_code 12 = .ok (.iload_n 0, 1) := by decide +kernel
theorem d2_13 : decode prog_11_method_30_code 13 = .ok (.bipush 65, 2) := by decide +kernel
theorem d2_15 : decode prog_11_method_30_code 15 = .ok (.if_icmp .lt 9, 3) := by decide +kernel
theorem d2_18 : decode prog_11_method_30_code 18 = .ok (.iload_n 0, 1) := by decide +kernel
theorem d2_19 : decode prog_11_method_30_code 19 = .ok (.bipush 90, 2) := by decide +kernel
theorem d2_21 : decode prog_11_method_30_code 21 = .ok (.if_icmp .le 9, 3) := by decide +kernel
theorem d2_24 : decode prog_11_method_30_code 24 = .ok (.iload_n 0, 1) := by decide +kernel
theorem d2_25 : decode prog_11_method_30_code 25 = .ok (.bipush 95, 2) := by decide +kernel
theorem d2_27 : decode prog_11_method_30_code 27 = .ok (.if_icmp .ne 7, 3) := by decide +kernel
theorem d2_30 : decode prog_11_method_30_code 30 = .ok (.iconst 1, 1) := by decide +kernel
theorem d2_31 : decode prog_11_method_30_code 31 = .ok (.goto 4, 3) := by decide +kernel
theorem d2_34 : decode prog_11_method_30_code 34 = .ok (.iconst 0, 1) := by decide +kernel
theorem d2_35 : decode prog_11_method_30_code 35 = .ok (.ireturn, 1) := by decide +kernel
theorem own_ef2 (m : MethodId) (p0 : Int32) : entryFrame m #[(.int p0)] 1 = mkF m 0 #[.val (.int p0)] [] := by first | (simp [entryFrame, mkF, argsToLocals, Value.category]; done) | rfl
def own_start (p0 : Int32) : Int32 := if p0 < (97 : Int32) then (if p0 < (65 : Int32) then (if p0 = (95 : Int32) then (1 : Int32) else (0 : Int32)) else if (90 : Int32) < p0 then (if p0 = (95 : Int32) then (1 : Int32) else (0 : Int32)) else (1 : Int32)) else if (122 : Int32) < p0 then (if p0 < (65 : Int32) then (if p0 = (95 : Int32) then (1 : Int32) else (0 : Int32)) else if (90 : Int32) < p0 then (if p0 = (95 : Int32) then (1 : Int32) else (0 : Int32)) else (1 : Int32)) else (1 : Int32)
theorem own_pn2 : plainName "com/example/idly/idly/io/IdlScanner" = true := by first | (simp [plainName, overriddenIn]; done) | decide +kernel
set_option maxRecDepth 65536 in
set_option maxHeartbeats 40000000 in
theorem rm2 (l : Launch) (Z : State) (a0 : Array Value) (hw : ∀ d ∈ tables_1, d.before a0 Z = true) (ws : List Jvm.Cond) (p0 : Int32) (h0 : Heap) (n0 : Nat)  :
    MetFree l (⟨"com/example/idly/idly/io/IdlScanner", "isIdentifierStart", "(I)Z"⟩ : MethodName) (head1 (Jvm.Cond.code (⟨"com/example/idly/idly/io/IdlScanner", "isIdentifierStart", "(I)Z"⟩ : MethodName) prog_11_method_30_code 1 (some .boolean) :: ws) ({ frames := 0, cells := 0, slots := 0, locals := 0 } : Room)) (fun a U => a = #[(.int p0)] ∧ Z.Warmed39 U.vm ∧ U.heap = h0) (fun _ _ _ _ _ => True) (fun _ U o U' => ∃ v L, o = .returned v ∧ own_Q (some (.int (own_start p0))) h0 n0 v U'.heap L ∧ FrameEnd U o U' L ({ frames := 0, cells := 0, slots := 0, locals := 0 } : Room).cells ({ frames := 0, cells := 0, slots := 0, locals := 0 } : Room).slots) := by
  refine own_contract (plainFor_of_name own_pn2) (fun m => own_ef2 m p0) ?_
  intro p e s m below meth c s₁ G hx hby hml0 hown0 hnm hret hZ X0 e0 hp hR
  have hml : c.maxLocals = 1 := hml0
  have hown : s.vm.findClass "com/example/idly/idly/io/IdlScanner" = some m.cls := hown0
  have N0 := Fr.nil n0
  show G s₁ (mkF m 0 #[.val (.int p0)] [])
  refine hp (fun tq kq => XS.iloadN X0.here hx rfl (hb hby d2_0) rfl kq) ?_
  show G s₁ (mkF m 1 #[.val (.int p0)] [(.int p0)])
  refine hp (fun tq kq => XS.bipush X0.here hx rfl (hb hby d2_1) kq) ?_
  show G s₁ (mkF m 3 #[.val (.int p0)] [(.int (97 : Int32)), (.int p0)])
  by_cases hb1 : p0 < (97 : Int32)
  · refine hp (fun tq kq => XS.icmpYes X0.here hx rfl (pc0 := 3) (pc' := 12) rfl (hb hby d2_3) rfl (tlt hb1).1 (by decide) (by decide) kq) ?_
    show G s₁ (mkF m 12 #[.val (.int p0)] [])
    refine hp (fun tq kq => XS.iloadN X0.here hx rfl (hb hby d2_12) rfl kq) ?_
    show G s₁ (mkF m 13 #[.val (.int p0)] [(.int p0)])
    refine hp (fun tq kq => XS.bipush X0.here hx rfl (hb hby d2_13) kq) ?_
    show G s₁ (mkF m 15 #[.val (.int p0)] [(.int (65 : Int32)), (.int p0)])
    by_cases hb2 : p0 < (65 : Int32)
    · refine hp (fun tq kq => XS.icmpYes X0.here hx rfl (pc0 := 15) (pc' := 24) rfl (hb hby d2_15) rfl (tlt hb2).1 (by decide) (by decide) kq) ?_
      show G s₁ (mkF m 24 #[.val (.int p0)] [])
      refine hp (fun tq kq => XS.iloadN X0.here hx rfl (hb hby d2_24) rfl kq) ?_
      show G s₁ (mkF m 25 #[.val (.int p0)] [(.int p0)])
      refine hp (fun tq kq => XS.bipush X0.here hx rfl (hb hby d2_25) kq) ?_
      show G s₁ (mkF m 27 #[.val (.int p0)] [(.int (95 : Int32)), (.int p0)])
      by_cases hb3 : p0 = (95 : Int32)
      · refine hp (fun tq kq => XS.icmpNo X0.here hx rfl (hb hby d2_27) rfl (teq hb3).2 kq) ?_
        show G s₁ (mkF m 30 #[.val (.int p0)] [])
        refine hp (fun tq kq => XS.iconst X0.here hx rfl (hb hby d2_30) kq) ?_
        show G s₁ (mkF m 31 #[.val (.int p0)] [(.int (1 : Int32))])
        refine hp (fun tq kq => XS.goto X0.here hx rfl (pc0 := 31) (pc' := 35) rfl (hb hby d2_31) (by decide) (by decide) kq) ?_
        show G s₁ (mkF m 35 #[.val (.int p0)] [(.int (1 : Int32))])
        exact hR X0 (fun fs hl => retN X0 hx (t := .boolean) hret (by simp) (hb hby d2_35) hl) (fun q => by rw [hret] at q; cases q) ⟨(congrArg (fun q => some (Value.int q)) ((if_pos hb1).trans ((if_pos hb2).trans (if_pos hb3))).symm), N0, e0⟩ (by decide) (by decide)
      · refine hp (fun tq kq => XS.icmpYes X0.here hx rfl (pc0 := 27) (pc' := 34) rfl (hb hby d2_27) rfl (feq hb3).2 (by decide) (by decide) kq) ?_
        show G s₁ (mkF m 34 #[.val (.int p0)] [])
        refine hp (fun tq kq => XS.iconst X0.here hx rfl (hb hby d2_34) kq) ?_
        show G s₁ (mkF m 35 #[.val (.int p0)] [(.int (0 : Int32))])
        exact hR X0 (fun fs hl => retN X0 hx (t := .boolean) hret (by simp) (hb hby d2_35) hl) (fun q => by rw [hret] at q; cases q) ⟨(congrArg (fun q => some (Value.int q)) ((if_pos hb1).trans ((if_pos hb2).trans (if_neg hb3))).symm), N0, e0⟩ (by decide) (by decide)
    · refine hp (fun tq kq => XS.icmpNo X0.here hx rfl (hb hby d2_15) rfl (flt hb2).1 kq) ?_
      show G s₁ (mkF m 18 #[.val (.int p0)] [])
      refine hp (fun tq kq => XS.iloadN X0.here hx rfl (hb hby d2_18) rfl kq) ?_
      show G s₁ (mkF m 19 #[.val (.int p0)] [(.int p0)])
      refine hp (fun tq kq => XS.bipush X0.here hx rfl (hb hby d2_19) kq) ?_
      show G s₁ (mkF m 21 #[.val (.int p0)] [(.int (90 : Int32)), (.int p0)])
      by_cases hb4 : (90 : Int32) < p0
      · refine hp (fun tq kq => XS.icmpNo X0.here hx rfl (hb hby d2_21) rfl (tlt hb4).2.2.2 kq) ?_
        show G s₁ (mkF m 24 #[.val (.int p0)] [])
        refine hp (fun tq kq => XS.iloadN X0.here hx rfl (hb hby d2_24) rfl kq) ?_
        show G s₁ (mkF m 25 #[.val (.int p0)] [(.int p0)])
        refine hp (fun tq kq => XS.bipush X0.here hx rfl (hb hby d2_25) kq) ?_
        show G s₁ (mkF m 27 #[.val (.int p0)] [(.int (95 : Int32)), (.int p0)])
        by_cases hb5 : p0 = (95 : Int32)
        · refine hp (fun tq kq => XS.icmpNo X0.here hx rfl (hb hby d2_27) rfl (teq hb5).2 kq) ?_
          show G s₁ (mkF m 30 #[.val (.int p0)] [])
          refine hp (fun tq kq => XS.iconst X0.here hx rfl (hb hby d2_30) kq) ?_
          show G s₁ (mkF m 31 #[.val (.int p0)] [(.int (1 : Int32))])
          refine hp (fun tq kq => XS.goto X0.here hx rfl (pc0 := 31) (pc' := 35) rfl (hb hby d2_31) (by decide) (by decide) kq) ?_
          show G s₁ (mkF m 35 #[.val (.int p0)] [(.int (1 : Int32))])
          exact hR X0 (fun fs hl => retN X0 hx (t := .boolean) hret (by simp) (hb hby d2_35) hl) (fun q => by rw [hret] at q; cases q) ⟨(congrArg (fun q => some (Value.int q)) ((if_pos hb1).trans ((if_neg hb2).trans ((if_pos hb4).trans (if_pos hb5)))).symm), N0, e0⟩ (by decide) (by decide)
        · refine hp (fun tq kq => XS.icmpYes X0.here hx rfl (pc0 := 27) (pc' := 34) rfl (hb hby d2_27) rfl (feq hb5).2 (by decide) (by decide) kq) ?_
          show G s₁ (mkF m 34 #[.val (.int p0)] [])
          refine hp (fun tq kq => XS.iconst X0.here hx rfl (hb hby d2_34) kq) ?_
          show G s₁ (mkF m 35 #[.val (.int p0)] [(.int (0 : Int32))])
          exact hR X0 (fun fs hl => retN X0 hx (t := .boolean) hret (by simp) (hb hby d2_35) hl) (fun q => by rw [hret] at q; cases q) ⟨(congrArg (fun q => some (Value.int q)) ((if_pos hb1).trans ((if_neg hb2).trans ((if_pos hb4).trans (if_neg hb5)))).symm), N0, e0⟩ (by decide) (by decide)
      · refine hp (fun tq kq => XS.icmpYes X0.here hx rfl (pc0 := 21) (pc' := 30) rfl (hb hby d2_21) rfl (flt hb4).2.2.2 (by decide) (by decide) kq) ?_
        show G s₁ (mkF m 30 #[.val (.int p0)] [])
        refine hp (fun tq kq => XS.iconst X0.here hx rfl (hb hby d2_30) kq) ?_
        show G s₁ (mkF m 31 #[.val (.int p0)] [(.int (1 : Int32))])
        refine hp (fun tq kq => XS.goto X0.here hx rfl (pc0 := 31) (pc' := 35) rfl (hb hby d2_31) (by decide) (by decide) kq) ?_
        show G s₁ (mkF m 35 #[.val (.int p0)] [(.int (1 : Int32))])
        exact hR X0 (fun fs hl => retN X0 hx (t := .boolean) hret (by simp) (hb hby d2_35) hl) (fun q => by rw [hret] at q; cases q) ⟨(congrArg (fun q => some (Value.int q)) ((if_pos hb1).trans ((if_neg hb2).trans (if_neg hb4))).symm), N0, e0⟩ (by decide) (by decide)
  · refine hp (fun tq kq => XS.icmpNo X0.here hx rfl (hb hby d2_3) rfl (flt hb1).1 kq) ?_
    show G s₁ (mkF m 6 #[.val (.int p0)] [])
    refine hp (fun tq kq => XS.iloadN X0.here hx rfl (hb hby d2_6) rfl kq) ?_
    show G s₁ (mkF m 7 #[.val (.int p0)] [(.int p0)])
    refine hp (fun tq kq => XS.bipush X0.here hx rfl (hb hby d2_7) kq) ?_
    show G s₁ (mkF m 9 #[.val (.int p0)] [(.int (122 : Int32)), (.int p0)])
    by_cases hb6 : (122 : Int32) < p0
    · refine hp (fun tq kq => XS.icmpNo X0.here hx rfl (hb hby d2_9) rfl (tlt hb6).2.2.2 kq) ?_
      show G s₁ (mkF m 12 #[.val (.int p0)] [])
      refine hp (fun tq kq => XS.iloadN X0.here hx rfl (hb hby d2_12) rfl kq) ?_
      show G s₁ (mkF m 13 #[.val (.int p0)] [(.int p0)])
      refine hp (fun tq kq => XS.bipush X0.here hx rfl (hb hby d2_13) kq) ?_
      show G s₁ (mkF m 15 #[.val (.int p0)] [(.int (65 : Int32)), (.int p0)])
      by_cases hb7 : p0 < (65 : Int32)
      · refine hp (fun tq kq => XS.icmpYes X0.here hx rfl (pc0 := 15) (pc' := 24) rfl (hb hby d2_15) rfl (tlt hb7).1 (by decide) (by decide) kq) ?_
        show G s₁ (mkF m 24 #[.val (.int p0)] [])
        refine hp (fun tq kq => XS.iloadN X0.here hx rfl (hb hby d2_24) rfl kq) ?_
        show G s₁ (mkF m 25 #[.val (.int p0)] [(.int p0)])
        refine hp (fun tq kq => XS.bipush X0.here hx rfl (hb hby d2_25) kq) ?_
        show G s₁ (mkF m 27 #[.val (.int p0)] [(.int (95 : Int32)), (.int p0)])
        by_cases hb8 : p0 = (95 : Int32)
        · refine hp (fun tq kq => XS.icmpNo X0.here hx rfl (hb hby d2_27) rfl (teq hb8).2 kq) ?_
          show G s₁ (mkF m 30 #[.val (.int p0)] [])
          refine hp (fun tq kq => XS.iconst X0.here hx rfl (hb hby d2_30) kq) ?_
          show G s₁ (mkF m 31 #[.val (.int p0)] [(.int (1 : Int32))])
          refine hp (fun tq kq => XS.goto X0.here hx rfl (pc0 := 31) (pc' := 35) rfl (hb hby d2_31) (by decide) (by decide) kq) ?_
          show G s₁ (mkF m 35 #[.val (.int p0)] [(.int (1 : Int32))])
          exact hR X0 (fun fs hl => retN X0 hx (t := .boolean) hret (by simp) (hb hby d2_35) hl) (fun q => by rw [hret] at q; cases q) ⟨(congrArg (fun q => some (Value.int q)) ((if_neg hb1).trans ((if_pos hb6).trans ((if_pos hb7).trans (if_pos hb8)))).symm), N0, e0⟩ (by decide) (by decide)
        · refine hp (fun tq kq => XS.icmpYes X0.here hx rfl (pc0 := 27) (pc' := 34) rfl (hb hby d2_27) rfl (feq hb8).2 (by decide) (by decide) kq) ?_
          show G s₁ (mkF m 34 #[.val (.int p0)] [])
          refine hp (fun tq kq => XS.iconst X0.here hx rfl (hb hby d2_34) kq) ?_
          show G s₁ (mkF m 35 #[.val (.int p0)] [(.int (0 : Int32))])
          exact hR X0 (fun fs hl => retN X0 hx (t := .boolean) hret (by simp) (hb hby d2_35) hl) (fun q => by rw [hret] at q; cases q) ⟨(congrArg (fun q => some (Value.int q)) ((if_neg hb1).trans ((if_pos hb6).trans ((if_pos hb7).trans (if_neg hb8)))).symm), N0, e0⟩ (by decide) (by decide)
      · refine hp (fun tq kq => XS.icmpNo X0.here hx rfl (hb hby d2_15) rfl (flt hb7).1 kq) ?_
        show G s₁ (mkF m 18 #[.val (.int p0)] [])
        refine hp (fun tq kq => XS.iloadN X0.here hx rfl (hb hby d2_18) rfl kq) ?_
        show G s₁ (mkF m 19 #[.val (.int p0)] [(.int p0)])
        refine hp (fun tq kq => XS.bipush X0.here hx rfl (hb hby d2_19) kq) ?_
        show G s₁ (mkF m 21 #[.val (.int p0)] [(.int (90 : Int32)), (.int p0)])
        by_cases hb9 : (90 : Int32) < p0
        · refine hp (fun tq kq => XS.icmpNo X0.here hx rfl (hb hby d2_21) rfl (tlt hb9).2.2.2 kq) ?_
          show G s₁ (mkF m 24 #[.val (.int p0)] [])
          refine hp (fun tq kq => XS.iloadN X0.here hx rfl (hb hby d2_24) rfl kq) ?_
          show G s₁ (mkF m 25 #[.val (.int p0)] [(.int p0)])
          refine hp (fun tq kq => XS.bipush X0.here hx rfl (hb hby d2_25) kq) ?_
          show G s₁ (mkF m 27 #[.val (.int p0)] [(.int (95 : Int32)), (.int p0)])
          by_cases hb10 : p0 = (95 : Int32)
          · refine hp (fun tq kq => XS.icmpNo X0.here hx rfl (hb hby d2_27) rfl (teq hb10).2 kq) ?_
            show G s₁ (mkF m 30 #[.val (.int p0)] [])
            refine hp (fun tq kq => XS.iconst X0.here hx rfl (hb hby d2_30) kq) ?_
            show G s₁ (mkF m 31 #[.val (.int p0)] [(.int (1 : Int32))])
            refine hp (fun tq kq => XS.goto X0.here hx rfl (pc0 := 31) (pc' := 35) rfl (hb hby d2_31) (by decide) (by decide) kq) ?_
            show G s₁ (mkF m 35 #[.val (.int p0)] [(.int (1 : Int32))])
            exact hR X0 (fun fs hl => retN X0 hx (t := .boolean) hret (by simp) (hb hby d2_35) hl) (fun q => by rw [hret] at q; cases q) ⟨(congrArg (fun q => some (Value.int q)) ((if_neg hb1).trans ((if_pos hb6).trans ((if_neg hb7).trans ((if_pos hb9).trans (if_pos hb10))))).symm), N0, e0⟩ (by decide) (by decide)
          · refine hp (fun tq kq => XS.icmpYes X0.here hx rfl (pc0 := 27) (pc' := 34) rfl (hb hby d2_27) rfl (feq hb10).2 (by decide) (by decide) kq) ?_
            show G s₁ (mkF m 34 #[.val (.int p0)] [])
            refine hp (fun tq kq => XS.iconst X0.here hx rfl (hb hby d2_34) kq) ?_
            show G s₁ (mkF m 35 #[.val (.int p0)] [(.int (0 : Int32))])
            exact hR X0 (fun fs hl => retN X0 hx (t := .boolean) hret (by simp) (hb hby d2_35) hl) (fun q => by rw [hret] at q; cases q) ⟨(congrArg (fun q => some (Value.int q)) ((if_neg hb1).trans ((if_pos hb6).trans ((if_neg hb7).trans ((if_pos hb9).trans (if_neg hb10))))).symm), N0, e0⟩ (by decide) (by decide)
        · refine hp (fun tq kq => XS.icmpYes X0.here hx rfl (pc0 := 21) (pc' := 30) rfl (hb hby d2_21) rfl (flt hb9).2.2.2 (by decide) (by decide) kq) ?_
          show G s₁ (mkF m 30 #[.val (.int p0)] [])
          refine hp (fun tq kq => XS.iconst X0.here hx rfl (hb hby d2_30) kq) ?_
          show G s₁ (mkF m 31 #[.val (.int p0)] [(.int (1 : Int32))])
          refine hp (fun tq kq => XS.goto X0.here hx rfl (pc0 := 31) (pc' := 35) rfl (hb hby d2_31) (by decide) (by decide) kq) ?_
          show G s₁ (mkF m 35 #[.val (.int p0)] [(.int (1 : Int32))])
          exact hR X0 (fun fs hl => retN X0 hx (t := .boolean) hret (by simp) (hb hby d2_35) hl) (fun q => by rw [hret] at q; cases q) ⟨(congrArg (fun q => some (Value.int q)) ((if_neg hb1).trans ((if_pos hb6).trans ((if_neg hb7).trans (if_neg hb9)))).symm), N0, e0⟩ (by decide) (by decide)
    · refine hp (fun tq kq => XS.icmpYes X0.here hx rfl (pc0 := 9) (pc' := 30) rfl (hb hby d2_9) rfl (flt hb6).2.2.2 (by decide) (by decide) kq) ?_
      show G s₁ (mkF m 30 #[.val (.int p0)] [])
      refine hp (fun tq kq => XS.iconst X0.here hx rfl (hb hby d2_30) kq) ?_
      show G s₁ (mkF m 31 #[.val (.int p0)] [(.int (1 : Int32))])
      refine hp (fun tq kq => XS.goto X0.here hx rfl (pc0 := 31) (pc' := 35) rfl (hb hby d2_31) (by decide) (by decide) kq) ?_
      show G s₁ (mkF m 35 #[.val (.int p0)] [(.int (1 : Int32))])
      exact hR X0 (fun fs hl => retN X0 hx (t := .boolean) hret (by simp) (hb hby d2_35) hl) (fun q => by rw [hret] at q; cases q) ⟨(congrArg (fun q => some (Value.int q)) ((if_neg hb1).trans (if_neg hb6)).symm), N0, e0⟩ (by decide) (by decide)
theorem d3_0 : decode method_2_code 0 = .ok (.iload_n 0, 1) := by decide +kernel
theorem d3_1 : decode method_2_code 1 = .ok (.bipush 32, 2) := by decide +kernel
theorem d3_3 : decode method_2_code 3 = .ok (.ior, 1) := by decide +kernel
theorem d3_4 : decode method_2_code 4 = .ok (.istore_n 1, 1) := by decide +kernel
theorem d3_5 : decode method_2_code 5 = .ok (.iload_n 1, 1) := by decide +kernel
theorem d3_6 : decode method_2_code 6 = .ok (.bipush 97, 2) := by decide +kernel
theorem d3_8 : decode method_2_code 8 = .ok (.if_icmp .lt 9, 3) := by decide +kernel
theorem d3_11 : decode method_2_code 11 = .ok (.iload_n 1, 1) := by decide +kernel
theorem d3_12 : decode method_2_code 12 = .ok (.bipush 122, 2) := by decide +kernel
theorem d3_14 : decode method_2_code 14 = .ok (.if_icmp .le 9, 3) := by decide +kernel
theorem d3_17 : decode method_2_code 17 = .ok (.iload_n 0, 1) := by decide +kernel
theorem d3_18 : decode method_2_code 18 = .ok (.bipush 95, 2) := by decide +kernel
theorem d3_20 : decode method_2_code 20 = .ok (.if_icmp .ne 7, 3) := by decide +kernel
theorem d3_23 : decode method_2_code 23 = .ok (.iconst 1, 1) := by decide +kernel
theorem d3_24 : decode method_2_code 24 = .ok (.goto 4, 3) := by decide +kernel
theorem d3_27 : decode method_2_code 27 = .ok (.iconst 0, 1) := by decide +kernel
theorem d3_28 : decode method_2_code 28 = .ok (.ireturn, 1) := by decide +kernel
theorem own_ef3 (m : MethodId) (p0 : Int32) : entryFrame m #[(.int p0)] 2 = mkF m 0 #[.val (.int p0), .unset] [] := by first | (simp [entryFrame, mkF, argsToLocals, Value.category]; done) | rfl
def own_exp (p0 : Int32) : Int32 := if (p0 ||| (32 : Int32)) < (97 : Int32) then (if p0 = (95 : Int32) then (1 : Int32) else (0 : Int32)) else if (122 : Int32) < (p0 ||| (32 : Int32)) then (if p0 = (95 : Int32) then (1 : Int32) else (0 : Int32)) else (1 : Int32)
theorem own_pn3 : plainName "com/example/idly/idly/io/IdlScannerIsIdentifierStartPinLaw" = true := by first | (simp [plainName, overriddenIn]; done) | decide +kernel
set_option maxRecDepth 65536 in
set_option maxHeartbeats 40000000 in
theorem rm3 (l : Launch) (Z : State) (a0 : Array Value) (hw : ∀ d ∈ tables_1, d.before a0 Z = true) (ws : List Jvm.Cond) (p0 : Int32) (h0 : Heap) (n0 : Nat)  :
    MetFree l (⟨"com/example/idly/idly/io/IdlScannerIsIdentifierStartPinLaw", "expected", "(I)Z"⟩ : MethodName) (head1 (Jvm.Cond.code (⟨"com/example/idly/idly/io/IdlScannerIsIdentifierStartPinLaw", "expected", "(I)Z"⟩ : MethodName) method_2_code 2 (some .boolean) :: ws) ({ frames := 0, cells := 0, slots := 0, locals := 0 } : Room)) (fun a U => a = #[(.int p0)] ∧ Z.Warmed39 U.vm ∧ U.heap = h0) (fun _ _ _ _ _ => True) (fun _ U o U' => ∃ v L, o = .returned v ∧ own_Q (some (.int (own_exp p0))) h0 n0 v U'.heap L ∧ FrameEnd U o U' L ({ frames := 0, cells := 0, slots := 0, locals := 0 } : Room).cells ({ frames := 0, cells := 0, slots := 0, locals := 0 } : Room).slots) := by
  refine own_contract (plainFor_of_name own_pn3) (fun m => own_ef3 m p0) ?_
  intro p e s m below meth c s₁ G hx hby hml0 hown0 hnm hret hZ X0 e0 hp hR
  have hml : c.maxLocals = 2 := hml0
  have hown : s.vm.findClass "com/example/idly/idly/io/IdlScannerIsIdentifierStartPinLaw" = some m.cls := hown0
  have N0 := Fr.nil n0
  show G s₁ (mkF m 0 #[.val (.int p0), .unset] [])
  refine hp (fun tq kq => XS.iloadN X0.here hx rfl (hb hby d3_0) rfl kq) ?_
  show G s₁ (mkF m 1 #[.val (.int p0), .unset] [(.int p0)])
  refine hp (fun tq kq => XS.bipush X0.here hx rfl (hb hby d3_1) kq) ?_
  show G s₁ (mkF m 3 #[.val (.int p0), .unset] [(.int (32 : Int32)), (.int p0)])
  refine hp (fun tq kq => XS.ior X0.here hx rfl (hb hby d3_3) rfl kq) ?_
  show G s₁ (mkF m 4 #[.val (.int p0), .unset] [(.int (p0 ||| (32 : Int32)))])
  refine hp (fun tq kq => XS.istoreN X0.here hx rfl (hb hby d3_4) rfl (l' := #[.val (.int p0), .val (.int (p0 ||| (32 : Int32)))]) rfl kq) ?_
  show G s₁ (mkF m 5 #[.val (.int p0), .val (.int (p0 ||| (32 : Int32)))] [])
  refine hp (fun tq kq => XS.iloadN X0.here hx rfl (hb hby d3_5) rfl kq) ?_
  show G s₁ (mkF m 6 #[.val (.int p0), .val (.int (p0 ||| (32 : Int32)))] [(.int (p0 ||| (32 : Int32)))])
  refine hp (fun tq kq => XS.bipush X0.here hx rfl (hb hby d3_6) kq) ?_
  show G s₁ (mkF m 8 #[.val (.int p0), .val (.int (p0 ||| (32 : Int32)))] [(.int (97 : Int32)), (.int (p0 ||| (32 : Int32)))])
  by_cases hb1 : (p0 ||| (32 : Int32)) < (97 : Int32)
  · refine hp (fun tq kq => XS.icmpYes X0.here hx rfl (pc0 := 8) (pc' := 17) rfl (hb hby d3_8) rfl (tlt hb1).1 (by decide) (by decide) kq) ?_
    show G s₁ (mkF m 17 #[.val (.int p0), .val (.int (p0 ||| (32 : Int32)))] [])
    refine hp (fun tq kq => XS.iloadN X0.here hx rfl (hb hby d3_17) rfl kq) ?_
    show G s₁ (mkF m 18 #[.val (.int p0), .val (.int (p0 ||| (32 : Int32)))] [(.int p0)])
    refine hp (fun tq kq => XS.bipush X0.here hx rfl (hb hby d3_18) kq) ?_
    show G s₁ (mkF m 20 #[.val (.int p0), .val (.int (p0 ||| (32 : Int32)))] [(.int (95 : Int32)), (.int p0)])
    by_cases hb2 : p0 = (95 : Int32)
    · refine hp (fun tq kq => XS.icmpNo X0.here hx rfl (hb hby d3_20) rfl (teq hb2).2 kq) ?_
      show G s₁ (mkF m 23 #[.val (.int p0), .val (.int (p0 ||| (32 : Int32)))] [])
      refine hp (fun tq kq => XS.iconst X0.here hx rfl (hb hby d3_23) kq) ?_
      show G s₁ (mkF m 24 #[.val (.int p0), .val (.int (p0 ||| (32 : Int32)))] [(.int (1 : Int32))])
      refine hp (fun tq kq => XS.goto X0.here hx rfl (pc0 := 24) (pc' := 28) rfl (hb hby d3_24) (by decide) (by decide) kq) ?_
      show G s₁ (mkF m 28 #[.val (.int p0), .val (.int (p0 ||| (32 : Int32)))] [(.int (1 : Int32))])
      exact hR X0 (fun fs hl => retN X0 hx (t := .boolean) hret (by simp) (hb hby d3_28) hl) (fun q => by rw [hret] at q; cases q) ⟨(congrArg (fun q => some (Value.int q)) ((if_pos hb1).trans (if_pos hb2)).symm), N0, e0⟩ (by decide) (by decide)
    · refine hp (fun tq kq => XS.icmpYes X0.here hx rfl (pc0 := 20) (pc' := 27) rfl (hb hby d3_20) rfl (feq hb2).2 (by decide) (by decide) kq) ?_
      show G s₁ (mkF m 27 #[.val (.int p0), .val (.int (p0 ||| (32 : Int32)))] [])
      refine hp (fun tq kq => XS.iconst X0.here hx rfl (hb hby d3_27) kq) ?_
      show G s₁ (mkF m 28 #[.val (.int p0), .val (.int (p0 ||| (32 : Int32)))] [(.int (0 : Int32))])
      exact hR X0 (fun fs hl => retN X0 hx (t := .boolean) hret (by simp) (hb hby d3_28) hl) (fun q => by rw [hret] at q; cases q) ⟨(congrArg (fun q => some (Value.int q)) ((if_pos hb1).trans (if_neg hb2)).symm), N0, e0⟩ (by decide) (by decide)
  · refine hp (fun tq kq => XS.icmpNo X0.here hx rfl (hb hby d3_8) rfl (flt hb1).1 kq) ?_
    show G s₁ (mkF m 11 #[.val (.int p0), .val (.int (p0 ||| (32 : Int32)))] [])
    refine hp (fun tq kq => XS.iloadN X0.here hx rfl (hb hby d3_11) rfl kq) ?_
    show G s₁ (mkF m 12 #[.val (.int p0), .val (.int (p0 ||| (32 : Int32)))] [(.int (p0 ||| (32 : Int32)))])
    refine hp (fun tq kq => XS.bipush X0.here hx rfl (hb hby d3_12) kq) ?_
    show G s₁ (mkF m 14 #[.val (.int p0), .val (.int (p0 ||| (32 : Int32)))] [(.int (122 : Int32)), (.int (p0 ||| (32 : Int32)))])
    by_cases hb3 : (122 : Int32) < (p0 ||| (32 : Int32))
    · refine hp (fun tq kq => XS.icmpNo X0.here hx rfl (hb hby d3_14) rfl (tlt hb3).2.2.2 kq) ?_
      show G s₁ (mkF m 17 #[.val (.int p0), .val (.int (p0 ||| (32 : Int32)))] [])
      refine hp (fun tq kq => XS.iloadN X0.here hx rfl (hb hby d3_17) rfl kq) ?_
      show G s₁ (mkF m 18 #[.val (.int p0), .val (.int (p0 ||| (32 : Int32)))] [(.int p0)])
      refine hp (fun tq kq => XS.bipush X0.here hx rfl (hb hby d3_18) kq) ?_
      show G s₁ (mkF m 20 #[.val (.int p0), .val (.int (p0 ||| (32 : Int32)))] [(.int (95 : Int32)), (.int p0)])
      by_cases hb4 : p0 = (95 : Int32)
      · refine hp (fun tq kq => XS.icmpNo X0.here hx rfl (hb hby d3_20) rfl (teq hb4).2 kq) ?_
        show G s₁ (mkF m 23 #[.val (.int p0), .val (.int (p0 ||| (32 : Int32)))] [])
        refine hp (fun tq kq => XS.iconst X0.here hx rfl (hb hby d3_23) kq) ?_
        show G s₁ (mkF m 24 #[.val (.int p0), .val (.int (p0 ||| (32 : Int32)))] [(.int (1 : Int32))])
        refine hp (fun tq kq => XS.goto X0.here hx rfl (pc0 := 24) (pc' := 28) rfl (hb hby d3_24) (by decide) (by decide) kq) ?_
        show G s₁ (mkF m 28 #[.val (.int p0), .val (.int (p0 ||| (32 : Int32)))] [(.int (1 : Int32))])
        exact hR X0 (fun fs hl => retN X0 hx (t := .boolean) hret (by simp) (hb hby d3_28) hl) (fun q => by rw [hret] at q; cases q) ⟨(congrArg (fun q => some (Value.int q)) ((if_neg hb1).trans ((if_pos hb3).trans (if_pos hb4))).symm), N0, e0⟩ (by decide) (by decide)
      · refine hp (fun tq kq => XS.icmpYes X0.here hx rfl (pc0 := 20) (pc' := 27) rfl (hb hby d3_20) rfl (feq hb4).2 (by decide) (by decide) kq) ?_
        show G s₁ (mkF m 27 #[.val (.int p0), .val (.int (p0 ||| (32 : Int32)))] [])
        refine hp (fun tq kq => XS.iconst X0.here hx rfl (hb hby d3_27) kq) ?_
        show G s₁ (mkF m 28 #[.val (.int p0), .val (.int (p0 ||| (32 : Int32)))] [(.int (0 : Int32))])
        exact hR X0 (fun fs hl => retN X0 hx (t := .boolean) hret (by simp) (hb hby d3_28) hl) (fun q => by rw [hret] at q; cases q) ⟨(congrArg (fun q => some (Value.int q)) ((if_neg hb1).trans ((if_pos hb3).trans (if_neg hb4))).symm), N0, e0⟩ (by decide) (by decide)
    · refine hp (fun tq kq => XS.icmpYes X0.here hx rfl (pc0 := 14) (pc' := 23) rfl (hb hby d3_14) rfl (flt hb3).2.2.2 (by decide) (by decide) kq) ?_
      show G s₁ (mkF m 23 #[.val (.int p0), .val (.int (p0 ||| (32 : Int32)))] [])
      refine hp (fun tq kq => XS.iconst X0.here hx rfl (hb hby d3_23) kq) ?_
      show G s₁ (mkF m 24 #[.val (.int p0), .val (.int (p0 ||| (32 : Int32)))] [(.int (1 : Int32))])
      refine hp (fun tq kq => XS.goto X0.here hx rfl (pc0 := 24) (pc' := 28) rfl (hb hby d3_24) (by decide) (by decide) kq) ?_
      show G s₁ (mkF m 28 #[.val (.int p0), .val (.int (p0 ||| (32 : Int32)))] [(.int (1 : Int32))])
      exact hR X0 (fun fs hl => retN X0 hx (t := .boolean) hret (by simp) (hb hby d3_28) hl) (fun q => by rw [hret] at q; cases q) ⟨(congrArg (fun q => some (Value.int q)) ((if_neg hb1).trans (if_neg hb3)).symm), N0, e0⟩ (by decide) (by decide)
theorem own_or_add (x m : BitVec 32) : x ||| m = (x &&& ~~~m) + m := by
  rw [BitVec.add_eq_or_of_and_eq_zero]
  · ext i hi; simp; cases x[i] <;> cases m[i] <;> rfl
  · ext i hi; simp
theorem own_and_add (x a b : BitVec 32) (h : a &&& b = 0#32) : (x &&& a) + (x &&& b) = x &&& (a ||| b) := by
  rw [BitVec.add_eq_or_of_and_eq_zero]
  · ext i hi; simp; cases x[i] <;> simp
  · ext i hi
    have q := congrArg (fun v => v.getLsbD i) h
    simp [hi] at q ⊢
    intro _ h1 _; exact q h1
theorem own_andI (x a b : Int32) (h : a &&& b = 0) : (x &&& a) + (x &&& b) = x &&& (a ||| b) := by
  apply Int32.toBitVec_inj.mp
  simp only [Int32.toBitVec_add, Int32.toBitVec_and, Int32.toBitVec_or]
  exact own_and_add _ _ _ (by rw [← Int32.toBitVec_and, h]; rfl)
theorem own_orI (x m : Int32) : x ||| m = (x &&& ~~~m) + m := by
  apply Int32.toBitVec_inj.mp
  simp only [Int32.toBitVec_add, Int32.toBitVec_and, Int32.toBitVec_or, Int32.toBitVec_not]
  exact own_or_add _ _
theorem own_b5 (c : Int32) : ((c ||| (32 : Int32)).toInt - (c.toInt + 32 - (c.toInt % 64 - c.toInt % 32))) % 4294967296 = 0 := by
  have h1 := own_orI c 32
  have h2 := own_andI c (~~~32) 32 (by decide)
  have h3 : (~~~32 : Int32) ||| 32 = -1 := by decide
  have h4 : c &&& (-1 : Int32) = c := by simp
  rw [h3, h4] at h2
  have h5 := own_andI c 32 31 (by decide)
  have h6 : (32 : Int32) ||| 31 = 63 := by decide
  rw [h6] at h5
  have m1 := c_mask c 63 6 (by decide) (by decide)
  have m2 := c_mask c 31 5 (by decide) (by decide)
  have a1 := c_iadd (c &&& 32) (c &&& 31)
  rw [h5] at a1
  have a2 := c_iadd (c &&& ~~~32) (c &&& 32)
  rw [h2] at a2
  have a3 := c_iadd (c &&& ~~~32) 32
  rw [← h1] at a3
  have e : (32 : Int32).toInt = 32 := by decide
  omega
theorem own_same (c : Int32) : own_start c = own_exp c := by
  have h1 := own_b5 c
  have h3 := rng32 c
  have h4 := rng32 (c ||| 32)
  have e1 : (97 : Int32).toInt = 97 := by decide
  have e2 : (122 : Int32).toInt = 122 := by decide
  have e3 : (65 : Int32).toInt = 65 := by decide
  have e4 : (90 : Int32).toInt = 90 := by decide
  have e5 : (95 : Int32).toInt = 95 := by decide
  unfold own_start own_exp
  simp only [Int32.lt_iff_toInt_lt, ← Int32.toInt_inj, e1, e2, e3, e4, e5]
  (repeat' split) <;> first | rfl | (exfalso; omega)

theorem d1_0 : decode method_3_code 0 = .ok (.iload_n 0, 1) := by decide +kernel
theorem d1_1 : decode method_3_code 1 = .ok (.invokestatic 7, 3) := by decide +kernel
theorem d1_4 : decode method_3_code 4 = .ok (.iload_n 0, 1) := by decide +kernel
theorem d1_5 : decode method_3_code 5 = .ok (.invokestatic 13, 3) := by decide +kernel
theorem d1_8 : decode method_3_code 8 = .ok (.if_icmp .ne 7, 3) := by decide +kernel
theorem d1_11 : decode method_3_code 11 = .ok (.iconst 1, 1) := by decide +kernel
theorem d1_12 : decode method_3_code 12 = .ok (.goto 4, 3) := by decide +kernel
theorem d1_15 : decode method_3_code 15 = .ok (.iconst 0, 1) := by decide +kernel
theorem d1_16 : decode method_3_code 16 = .ok (.ireturn, 1) := by decide +kernel
theorem own_ef1 (m : MethodId) (p0 : Int32) : entryFrame m #[(.int p0)] 1 = mkF m 0 #[.val (.int p0)] [] := by first | (simp [entryFrame, mkF, argsToLocals, Value.category]; done) | rfl
theorem own_pn1 : plainName "com/example/idly/idly/io/IdlScannerIsIdentifierStartPinLaw" = true := by first | (simp [plainName, overriddenIn]; done) | decide +kernel
set_option maxRecDepth 65536 in
set_option maxHeartbeats 40000000 in
theorem rm1 (l : Launch) (Z : State) (a0 : Array Value) (hw : ∀ d ∈ tables_1, d.before a0 Z = true) (ws : List Jvm.Cond) (p0 : Int32) (h0 : Heap) (n0 : Nat)  :
    MetFree l (⟨"com/example/idly/idly/io/IdlScannerIsIdentifierStartPinLaw", "agrees", "(I)Z"⟩ : MethodName) (head1 (Jvm.Cond.code (⟨"com/example/idly/idly/io/IdlScannerIsIdentifierStartPinLaw", "agrees", "(I)Z"⟩ : MethodName) method_3_code 1 (some .boolean) :: ws) ({ frames := 1, cells := 0, slots := 0, locals := 14 } : Room)) (fun a U => a = #[(.int p0)] ∧ Z.Warmed39 U.vm ∧ U.heap = h0) (fun _ _ _ _ _ => True) (fun _ U o U' => ∃ v L, o = .returned v ∧ own_Q (some (.int (1 : Int32))) h0 n0 v U'.heap L ∧ FrameEnd U o U' L ({ frames := 1, cells := 0, slots := 0, locals := 14 } : Room).cells ({ frames := 1, cells := 0, slots := 0, locals := 14 } : Room).slots) := by
  refine own_contract (plainFor_of_name own_pn1) (fun m => own_ef1 m p0) ?_
  intro p e s m below meth c s₁ G hx hby hml0 hown0 hnm hret hZ X0 e0 hp hR
  have hml : c.maxLocals = 1 := hml0
  have hown : s.vm.findClass "com/example/idly/idly/io/IdlScannerIsIdentifierStartPinLaw" = some m.cls := hown0
  have N0 := Fr.nil n0
  show G s₁ (mkF m 0 #[.val (.int p0)] [])
  refine hp (fun tq kq => XS.iloadN X0.here hx rfl (hb hby d1_0) rfl kq) ?_
  show G s₁ (mkF m 1 #[.val (.int p0)] [(.int p0)])
  obtain ⟨v1, T1, L1, X1, hQ1, st1⟩ := own_callS X0 hx hZ (y := (⟨"com/example/idly/idly/io/IdlScanner", "isIdentifierStart", "(I)Z"⟩ : MethodName)) (rm := ({ frames := 0, cells := 0, slots := 0, locals := 0 } : Room)) 0 hown (hw _ (List.mem_of_getElem? (i := 4) rfl)) (hw _ (List.mem_of_getElem? (i := 5) rfl)) (hw _ (List.mem_of_getElem? (i := 6) rfl)) (hw _ (List.mem_of_getElem? (i := 7) rfl)) (by decide) (rm2 l Z a0 hw [] p0 h0 n0) e0 (by decide) (by decide) (g := (mkF m 1 #[.val (.int p0)] [(.int p0)])) rfl (by rw [hml]; rfl) [(.int p0)] [] own_pd0 rfl rfl (by show 2 * 0 + _ ≤ _; exact Nat.le_of_eq rfl) (hb hby d1_1) rfl (by decide) (by decide)
  obtain ⟨rfl, N1, e1⟩ := hQ1
  have F1 := Fr.app N0 N1
  refine hp st1 ?_
  show G T1 (mkF m 4 #[.val (.int p0)] [(.int (own_start p0))])
  refine hp (fun tq kq => XS.iloadN X1.here hx rfl (hb hby d1_4) rfl kq) ?_
  show G T1 (mkF m 5 #[.val (.int p0)] [(.int p0), (.int (own_start p0))])
  obtain ⟨v2, T2, L2, X2, hQ2, st2⟩ := own_callS X1 hx hZ (y := (⟨"com/example/idly/idly/io/IdlScannerIsIdentifierStartPinLaw", "expected", "(I)Z"⟩ : MethodName)) (rm := ({ frames := 0, cells := 0, slots := 0, locals := 0 } : Room)) 1 hown (hw _ (List.mem_of_getElem? (i := 8) rfl)) (hw _ (List.mem_of_getElem? (i := 9) rfl)) (hw _ (List.mem_of_getElem? (i := 2) rfl)) (hw _ (List.mem_of_getElem? (i := 10) rfl)) (by decide) (rm3 l Z a0 hw [] p0 h0 n0) e1 (by decide) (by decide) (g := (mkF m 5 #[.val (.int p0)] [(.int p0), (.int (own_start p0))])) rfl (by rw [hml]; rfl) [(.int p0)] [(.int (own_start p0))] own_pd0 rfl rfl (by show 2 * 0 + _ ≤ _; exact Nat.le_of_eq rfl) (hb hby d1_5) rfl (by decide) (by decide)
  obtain ⟨rfl, N2, e2⟩ := hQ2
  have F2 := Fr.app F1 N2
  refine hp st2 ?_
  show G T2 (mkF m 8 #[.val (.int p0)] [(.int (own_exp p0)), (.int (own_start p0))])
  refine hp (fun tq kq => XS.icmpNo X2.here hx rfl (hb hby d1_8) rfl (teq (own_same _)).2 kq) ?_
  show G T2 (mkF m 11 #[.val (.int p0)] [])
  refine hp (fun tq kq => XS.iconst X2.here hx rfl (hb hby d1_11) kq) ?_
  show G T2 (mkF m 12 #[.val (.int p0)] [(.int (1 : Int32))])
  refine hp (fun tq kq => XS.goto X2.here hx rfl (pc0 := 12) (pc' := 16) rfl (hb hby d1_12) (by decide) (by decide) kq) ?_
  show G T2 (mkF m 16 #[.val (.int p0)] [(.int (1 : Int32))])
  exact hR X2 (fun fs hl => retN X2 hx (t := .boolean) hret (by simp) (hb hby d1_16) hl) (fun q => by rw [hret] at q; cases q) ⟨rfl, F2, e2⟩ (by decide) (by decide)
theorem own_ef0 (m : MethodId) (p0 : Int32) : entryFrame m #[(.int p0)] maxLocals = mkF m 0 #[.val (.int p0)] [] := by first | (simp [entryFrame, mkF, argsToLocals, Value.category, maxLocals]; done) | rfl
abbrev own_Q0 (n0 : Nat) (v : Option Value) (h : Heap) (L : List Loc) : Prop := v = some (.int 1) ∧ Fr n0 L
theorem own_pn0 : plainName "com/example/idly/idly/io/IdlScannerIsIdentifierStartPinLaw" = true := by first | (simp [plainName, overriddenIn]; done) | decide +kernel
set_option maxRecDepth 65536 in
set_option maxHeartbeats 40000000 in
theorem rm0 (l : Launch) (Z : State) (a0 : Array Value) (hw : ∀ d ∈ tables_1, d.before a0 Z = true) (ws : List Jvm.Cond) (p0 : Int32) (h0 : Heap) (n0 : Nat)  :
    MetFree l x (head1 (Jvm.Cond.code x code maxLocals ret :: ws) room_1) (fun a U => a = #[(.int p0)] ∧ Z.Warmed39 U.vm ∧ U.heap = h0) (fun _ _ _ _ _ => True) (fun _ U o U' => ∃ v L, o = .returned v ∧ own_Q0 n0 v U'.heap L ∧ FrameEnd U o U' L room_1.cells room_1.slots) := by
  refine own_contract (plainFor_of_name own_pn0) (fun m => own_ef0 m p0) ?_
  intro p e s m below meth c s₁ G hx hby hml0 hown0 hnm hret hZ X0 e0 hp hR
  have hml : c.maxLocals = 1 := hml0
  have hown : s.vm.findClass "com/example/idly/idly/io/IdlScannerIsIdentifierStartPinLaw" = some m.cls := hown0
  have N0 := Fr.nil n0
  show G s₁ (mkF m 0 #[.val (.int p0)] [])
  refine hp (fun tq kq => XS.iloadN X0.here hx rfl (hb hby at_0) rfl kq) ?_
  show G s₁ (mkF m 1 #[.val (.int p0)] [(.int p0)])
  obtain ⟨v1, T1, L1, X1, hQ1, st1⟩ := own_callS X0 hx hZ (y := (⟨"com/example/idly/idly/io/IdlScannerIsIdentifierStartPinLaw", "agrees", "(I)Z"⟩ : MethodName)) (rm := ({ frames := 1, cells := 0, slots := 0, locals := 14 } : Room)) 0 hown (hw _ (List.mem_of_getElem? (i := 0) rfl)) (hw _ (List.mem_of_getElem? (i := 1) rfl)) (hw _ (List.mem_of_getElem? (i := 2) rfl)) (hw _ (List.mem_of_getElem? (i := 3) rfl)) (by decide) (rm1 l Z a0 hw [] p0 h0 n0) e0 (by decide) (by decide) (g := (mkF m 1 #[.val (.int p0)] [(.int p0)])) rfl (by rw [hml]; rfl) [(.int p0)] [] own_pd0 rfl rfl (by show 2 * 0 + _ ≤ _; exact Nat.le_of_eq rfl) (hb hby at_1) rfl (by decide) (by decide)
  obtain ⟨rfl, N1, e1⟩ := hQ1
  have F1 := Fr.app N0 N1
  refine hp st1 ?_
  show G T1 (mkF m 4 #[.val (.int p0)] [(.int (1 : Int32))])
  refine hp (fun tq kq => XS.ifNo X1.here hx rfl (hb hby at_4) rfl ((if0 _ _).trans (feq (by decide)).1) kq) ?_
  show G T1 (mkF m 7 #[.val (.int p0)] [])
  refine hp (fun tq kq => XS.iloadN X1.here hx rfl (hb hby at_7) rfl kq) ?_
  show G T1 (mkF m 8 #[.val (.int p0)] [(.int p0)])
  refine hp (fun tq kq => XS.bipush X1.here hx rfl (hb hby at_8) kq) ?_
  show G T1 (mkF m 10 #[.val (.int p0)] [(.int (127 : Int32)), (.int p0)])
  refine hp (fun tq kq => XS.iand X1.here hx rfl (hb hby at_10) rfl kq) ?_
  show G T1 (mkF m 11 #[.val (.int p0)] [(.int (p0 &&& (127 : Int32)))])
  obtain ⟨v2, T2, L2, X2, hQ2, st2⟩ := own_callS X1 hx hZ (y := (⟨"com/example/idly/idly/io/IdlScannerIsIdentifierStartPinLaw", "agrees", "(I)Z"⟩ : MethodName)) (rm := ({ frames := 1, cells := 0, slots := 0, locals := 14 } : Room)) 0 hown (hw _ (List.mem_of_getElem? (i := 0) rfl)) (hw _ (List.mem_of_getElem? (i := 1) rfl)) (hw _ (List.mem_of_getElem? (i := 2) rfl)) (hw _ (List.mem_of_getElem? (i := 3) rfl)) (by decide) (rm1 l Z a0 hw [] (p0 &&& (127 : Int32)) h0 n0) e1 (by decide) (by decide) (g := (mkF m 11 #[.val (.int p0)] [(.int (p0 &&& (127 : Int32)))])) rfl (by rw [hml]; rfl) [(.int (p0 &&& (127 : Int32)))] [] own_pd0 rfl rfl (by show 2 * 0 + _ ≤ _; exact Nat.le_of_eq rfl) (hb hby at_11) rfl (by decide) (by decide)
  obtain ⟨rfl, N2, e2⟩ := hQ2
  have F2 := Fr.app F1 N2
  refine hp st2 ?_
  show G T2 (mkF m 14 #[.val (.int p0)] [(.int (1 : Int32))])
  refine hp (fun tq kq => XS.ifNo X2.here hx rfl (hb hby at_14) rfl ((if0 _ _).trans (feq (by decide)).1) kq) ?_
  show G T2 (mkF m 17 #[.val (.int p0)] [])
  refine hp (fun tq kq => XS.iloadN X2.here hx rfl (hb hby at_17) rfl kq) ?_
  show G T2 (mkF m 18 #[.val (.int p0)] [(.int p0)])
  refine hp (fun tq kq => X2.ldcInt hx hown (mvT hZ (hw _ (List.mem_of_getElem? (i := 11) rfl))) (g := (mkF m 18 #[.val (.int p0)] [(.int p0)])) rfl (hb hby at_18) _ kq) ?_
  show G T2 (mkF m 20 #[.val (.int p0)] [(.int (65535 : Int32)), (.int p0)])
  refine hp (fun tq kq => XS.iand X2.here hx rfl (hb hby at_20) rfl kq) ?_
  show G T2 (mkF m 21 #[.val (.int p0)] [(.int (p0 &&& (65535 : Int32)))])
  obtain ⟨v3, T3, L3, X3, hQ3, st3⟩ := own_callS X2 hx hZ (y := (⟨"com/example/idly/idly/io/IdlScannerIsIdentifierStartPinLaw", "agrees", "(I)Z"⟩ : MethodName)) (rm := ({ frames := 1, cells := 0, slots := 0, locals := 14 } : Room)) 0 hown (hw _ (List.mem_of_getElem? (i := 0) rfl)) (hw _ (List.mem_of_getElem? (i := 1) rfl)) (hw _ (List.mem_of_getElem? (i := 2) rfl)) (hw _ (List.mem_of_getElem? (i := 3) rfl)) (by decide) (rm1 l Z a0 hw [] (p0 &&& (65535 : Int32)) h0 n0) e2 (by decide) (by decide) (g := (mkF m 21 #[.val (.int p0)] [(.int (p0 &&& (65535 : Int32)))])) rfl (by rw [hml]; rfl) [(.int (p0 &&& (65535 : Int32)))] [] own_pd0 rfl rfl (by show 2 * 0 + _ ≤ _; exact Nat.le_of_eq rfl) (hb hby at_21) rfl (by decide) (by decide)
  obtain ⟨rfl, N3, e3⟩ := hQ3
  have F3 := Fr.app F2 N3
  refine hp st3 ?_
  show G T3 (mkF m 24 #[.val (.int p0)] [(.int (1 : Int32))])
  refine hp (fun tq kq => XS.ifNo X3.here hx rfl (hb hby at_24) rfl ((if0 _ _).trans (feq (by decide)).1) kq) ?_
  show G T3 (mkF m 27 #[.val (.int p0)] [])
  refine hp (fun tq kq => XS.iconst X3.here hx rfl (hb hby at_27) kq) ?_
  show G T3 (mkF m 28 #[.val (.int p0)] [(.int (1 : Int32))])
  refine hp (fun tq kq => XS.goto X3.here hx rfl (pc0 := 28) (pc' := 32) rfl (hb hby at_28) (by decide) (by decide) kq) ?_
  show G T3 (mkF m 32 #[.val (.int p0)] [(.int (1 : Int32))])
  exact hR X3 (fun fs hl => retN X3 hx (t := .boolean) hret (by simp) (hb hby at_32) hl) (fun q => by rw [hret] at q; cases q) ⟨rfl, F3⟩ (by decide) (by decide)
set_option maxRecDepth 65536 in
set_option maxHeartbeats 40000000 in
theorem comes_1 {Post : Tables → Env → Array Value → State → Outcome → State → Prop} (hpost : ∀ tb e args s v u, (limb_1_1.after args s (.returned v) u = true ∧ limb_1_2.after args s (.returned v) u = true ∧ True) → FrameEnd s (.returned v) u (Jvm.fieldLocs frame_1_writes args s ++ Jvm.arrayLocs frame_1_arrays args s ++ Jvm.staticLocs frame_1_statics s) 0 0 → Post tb e args s (.returned v) u) :
    ArmFor flags0 classFile x code maxLocals ret World_1 tables_1 room_1 Calls_1 rest_1 Pre_1 Post := by
  intro l hfl _ _ p e ha hc hk s m args below hf hA hF happ hP
  obtain ⟨hcalls, hrest, hpre⟩ := hP
  obtain ⟨-, -, -, hnamed, -, -, -, hat⟩ := (Spec.applies_iff hf).mp happ
  obtain ⟨hg, hn⟩ := and_e (Cond.before_iff.mp (show (Jvm.Cond.and given_1 narrow_1).before args s = true from hpre))
  obtain ⟨hcnt, hgs⟩ := and_e hg
  have ha0 := hgs
  obtain ⟨w0, rfl⟩ : ∃ w0 : Value, args = #[w0] := by
    have hs : args.size = 1 := by simpa [Cond.value, given_1] using hcnt
    obtain ⟨L⟩ := args
    match L, hs with
    | [w0], _ => exact ⟨w0, rfl⟩
  have hw := fun d (hd : d ∈ tables_1) => atoms_spec (ws := Jvm.Cond.code x code maxLocals ret :: tables_1) hat d (List.mem_cons_of_mem _ hd)
  obtain ⟨i0, ei0⟩ := is_v ha0
  obtain rfl : w0 = (.int i0) := Option.some.inj ei0
  obtain ⟨n, o, h1, h2, h3, _, L, rfl, ⟨rfl, N⟩, hq⟩ := rm0 l s _ hw tables_1 i0 s.heap s.heap.size p e ha hc hk s m _ below hf ((Spec.applies_iff_loose hf).mp happ).1 ⟨rfl, State.Warmed39.refl s, rfl⟩ trivial
  exact ⟨n, _, h1, h2, h3, hpost _ _ _ _ _ _ ⟨Cond.after_iff.mpr rfl, Cond.after_iff.mpr (eq_i res_at (Term.int_eval (1)) rfl), trivial⟩ ⟨hq.1, hq.2.1, (hq.2.2.sift fun y hy => Or.inr (N y hy)).mono (by decide) (by decide)⟩⟩
theorem main_1_1 : Claimed_1_1 := comes_1 fun _ _ _ _ _ _ h hF => ⟨h.1, hF⟩
theorem main_1_2 : Claimed_1_2 := comes_1 fun _ _ _ _ _ _ h hF => ⟨h.2.1, hF⟩
end Jvm.Pilot.@@N@@
namespace Jvm.Pilot.@@N@@
open Jvm Jvm.ClassFile Sem Op Lib Jvm.Free Jvm.Stand Jvm.Pilot.@@N@@.Jvm.D
/-! MADE BY PROGRAM (witnessworld.py) out of the Statement's table words and the real class files: 9 classes; the members and pool entries that the words name. The judged class is class 1, her method 3. -/
namespace start1
open Jvm.ClassFile
def u (s : String) : CpInfo := .utf8 (stringToUtf16 s)
/-- a pool by its gaps: so many unusable entries, then the entry; so many at the end -/
def gap : Nat → List CpInfo → List CpInfo
  | 0, r => r
  | n + 1, r => .unusable :: gap n r
def poolList (es : List (Nat × CpInfo)) (last : Nat) : List CpInfo := es.foldr (fun e r => gap e.1 (e.2 :: r)) (gap last [])
def pool (es : List (Nat × CpInfo)) (last : Nat) : Array CpInfo := ⟨poolList es last⟩
def fileOf (pool : Array CpInfo) (this : Nat) (attrs : Array Attribute := #[]) (ms : Array MethodInfo := #[]) (fl : Nat := 33) (sup : Nat := 0) (ifs : Array Nat := #[]) (fds : Array FieldInfo := #[]) : ClassFile where
  minorVersion := 0
  majorVersion := 65
  constantPool := pool
  accessFlags := fl
  thisClass := this
  superClass := sup
  interfaces := ifs
  fields := fds
  methods := ms
  attributes := attrs
def plain (name : String) (sup : Option ClassId) : Class where
  name := name
  kind := .ordinary
  loader := none
  accessFlags := 33
  super := sup
  interfaces := #[]
  cf := none
  fields := #[]
  methods := #[]
  instanceTypes := #[]
  staticTypes := #[]
  resolved := #[]
  callSites := []
  init := .initialized
  statics := none
  mirror := none

def pool0 : Array CpInfo := pool [(5, u "<init>"), (0, u "()V"), (1, .class_ 10), (1, u "java/lang/Object")] 113

def k0m0 : Method := { name := "<init>", desc := "()V", sig := { parameters := [], returnType := none }, accessFlags := 1, code := none }
/-- java/lang/Object -/
def k0 : Class := { plain "java/lang/Object" none with
  accessFlags := 33
  interfaces := #[]
  cf := some (fileOf pool0 8 #[] #[{ accessFlags := 1, nameIndex := 5, descriptorIndex := 6, attributes := #[] }] 33 0 #[] #[])
  fields := #[]
  methods := #[k0m0]
  instanceTypes := #[]
  staticTypes := #[]
  resolved := Array.replicate 124 none
  statics := none }

def pool1 : Array CpInfo := pool [(2, .class_ 4), (1, u "java/lang/Object"), (0, u "<init>"), (0, u "()V"), (0, .methodref 8 9), (0, .class_ 10), (0, .nameAndType 11 12), (0, u "com/example/idly/idly/io/IdlScanner"), (0, u "isIdentifierStart"), (0, u "(I)Z"), (0, .methodref 14 15), (0, .class_ 16), (0, .nameAndType 17 12), (0, u "com/example/idly/idly/io/IdlScannerIsIdentifierStartPinLaw"), (0, u "expected"), (0, .methodref 14 19), (0, .nameAndType 20 12), (0, u "agrees"), (0, .integer 65535), (3, u "law")] 2

def k1m0 : Method := { name := "<init>", desc := "()V", sig := { parameters := [], returnType := none }, accessFlags := 2, code := none }
def k1c1 : Code := { maxStack := 2, maxLocals := 2, code := method_2_code, exceptionTable := #[], attributes := #[] }
def k1m1 : Method := { name := "expected", desc := "(I)Z", sig := { parameters := [.int], returnType := some .boolean }, accessFlags := 10, code := some k1c1 }
def k1c2 : Code := { maxStack := 2, maxLocals := 1, code := method_3_code, exceptionTable := #[], attributes := #[] }
def k1m2 : Method := { name := "agrees", desc := "(I)Z", sig := { parameters := [.int], returnType := some .boolean }, accessFlags := 10, code := some k1c2 }
def k1c3 : Code := { maxStack := 2, maxLocals := 1, code := code, exceptionTable := #[], attributes := #[] }
def k1m3 : Method := { name := "law", desc := "(I)Z", sig := { parameters := [.int], returnType := some .boolean }, accessFlags := 9, code := some k1c3 }
/-- com/example/idly/idly/io/IdlScannerIsIdentifierStartPinLaw -/
def k1 : Class := { plain "com/example/idly/idly/io/IdlScannerIsIdentifierStartPinLaw" (some 0) with
  accessFlags := 49
  interfaces := #[]
  cf := some (fileOf pool1 14 #[] #[{ accessFlags := 2, nameIndex := 5, descriptorIndex := 6, attributes := #[] }, { accessFlags := 10, nameIndex := 17, descriptorIndex := 12, attributes := #[] }, { accessFlags := 10, nameIndex := 20, descriptorIndex := 12, attributes := #[] }, { accessFlags := 9, nameIndex := 25, descriptorIndex := 12, attributes := #[] }] 49 2 #[] #[])
  fields := #[]
  methods := #[k1m0, k1m1, k1m2, k1m3]
  instanceTypes := #[]
  staticTypes := #[]
  resolved := Array.replicate 28 none
  statics := none }

def pool2 : Array CpInfo := pool [(2, .class_ 4), (1, u "java/lang/Object"), (3, .class_ 10), (1, u "com/example/idly/idly/io/IdlScanner"), (0, u "line"), (0, u "I"), (2, u "column"), (2, u "sourceName"), (0, u "Ljava/lang/String;"), (2, u "text"), (0, .class_ 24), (0, u "com/example/idly/idly/io/IdlScanner$Mark"), (2, u "position"), (50, u "(I)Z"), (148, u "isIdentifierStart"), (6, u "TEXT_BLOCK_QUOTES")] 69

def k2c0 : Code := { maxStack := 2, maxLocals := 1, code := prog_11_method_30_code, exceptionTable := #[], attributes := #[] }
def k2m0 : Method := { name := "isIdentifierStart", desc := "(I)Z", sig := { parameters := [.int], returnType := some .boolean }, accessFlags := 8, code := some k2c0 }
/-- com/example/idly/idly/io/IdlScanner -/
def k2 : Class := { plain "com/example/idly/idly/io/IdlScanner" (some 0) with
  accessFlags := 48
  interfaces := #[]
  cf := some (fileOf pool2 8 #[.nestMembers #[23]] #[{ accessFlags := 8, nameIndex := 227, descriptorIndex := 78, attributes := #[] }] 48 2 #[] #[{ accessFlags := 26, nameIndex := 234, descriptorIndex := 19, attributes := #[] }, { accessFlags := 18, nameIndex := 18, descriptorIndex := 19, attributes := #[] }, { accessFlags := 18, nameIndex := 22, descriptorIndex := 19, attributes := #[] }, { accessFlags := 2, nameIndex := 27, descriptorIndex := 12, attributes := #[] }, { accessFlags := 2, nameIndex := 11, descriptorIndex := 12, attributes := #[] }, { accessFlags := 2, nameIndex := 15, descriptorIndex := 12, attributes := #[] }])
  fields := #[{ name := "TEXT_BLOCK_QUOTES", type := (.object "java/lang/String"), accessFlags := 26, slot := 0, constantValue := 0 }, { name := "sourceName", type := (.object "java/lang/String"), accessFlags := 18, slot := 0, constantValue := 0 }, { name := "text", type := (.object "java/lang/String"), accessFlags := 18, slot := 1, constantValue := 0 }, { name := "position", type := .int, accessFlags := 2, slot := 2, constantValue := 0 }, { name := "line", type := .int, accessFlags := 2, slot := 3, constantValue := 0 }, { name := "column", type := .int, accessFlags := 2, slot := 4, constantValue := 0 }]
  methods := #[k2m0]
  instanceTypes := #[(.object "java/lang/String"), (.object "java/lang/String"), .int, .int, .int]
  staticTypes := #[(.object "java/lang/String")]
  resolved := Array.replicate 304 none
  statics := none }

def pool3 : Array CpInfo := pool [(1, u "java/lang/Cloneable"), (0, .class_ 1), (0, u "java/lang/Object"), (0, .class_ 3)] 3

/-- java/lang/Cloneable -/
def k3 : Class := { plain "java/lang/Cloneable" (some 0) with
  accessFlags := 1537
  interfaces := #[]
  cf := some (fileOf pool3 2 #[] #[] 1537 4 #[] #[])
  fields := #[]
  methods := #[]
  instanceTypes := #[]
  staticTypes := #[]
  resolved := Array.replicate 8 none
  statics := none }

def pool4 : Array CpInfo := pool [(1, u "java/io/Serializable"), (0, .class_ 1), (0, u "java/lang/Object"), (0, .class_ 3)] 3

/-- java/io/Serializable -/
def k4 : Class := { plain "java/io/Serializable" (some 0) with
  accessFlags := 1537
  interfaces := #[]
  cf := some (fileOf pool4 2 #[] #[] 1537 4 #[] #[])
  fields := #[]
  methods := #[]
  instanceTypes := #[]
  staticTypes := #[]
  resolved := Array.replicate 8 none
  statics := none }

/-- the primitive byte -/
def k5 : Class := { plain "byte" none with kind := .primitive 'B', accessFlags := 0x411 }
/-- [B -/
def k6 : Class := { plain "[B" (some 0) with kind := .array 5 .byte, interfaces := #[3, 4], accessFlags := 1041 }

/-- the primitive int -/
def k7 : Class := { plain "int" none with kind := .primitive 'I', accessFlags := 0x411 }
/-- [I -/
def k8 : Class := { plain "[I" (some 0) with kind := .array 7 .int, interfaces := #[3, 4], accessFlags := 1041 }

def heap : Heap := #[]
def classes : Array Class := #[k0, k1, k2, k3, k4, k5, k6, k7, k8]
def interned : List (Array UInt16 × Addr) := []
def slotsUsed : Nat := 0
def theMethod : MethodId := ⟨1, 3⟩
def args0 : Array Value := #[.int 5]
def aboutOver (below : List Frame) : State where
  vm := { classes := classes, interned := interned.toArray }
  heap := heap
  slotsUsed := slotsUsed
  threads := #[{ frames := .invoking theMethod args0 :: below }]
def below0 : List Frame := [.native { method := ⟨0, 0⟩, args := #[] }]
def about1 : State := aboutOver below0
def p0 : Program := .bare "" "" ""
def e0 : Env := launch0.env 0 0 0
theorem w_frames : about1.frames = Frame.invoking theMethod args0 :: below0 := rfl
set_option maxRecDepth 65536 in
theorem w_args : argsFit about1.vm theMethod args0 = true := by decide +kernel
set_option maxRecDepth 65536 in
theorem w_heap : heapFits about1 = true := by decide +kernel
set_option maxRecDepth 65536 in
theorem w_runnable : about1.curStatus? = some .runnable := by decide +kernel
set_option maxRecDepth 65536 in
theorem w_alone : about1.alone = true := by decide +kernel
set_option maxRecDepth 65536 in
theorem w_named : about1.methodNamed? x = some theMethod := by decide +kernel
set_option maxRecDepth 65536 in
theorem w_hears : about1.hears theMethod below0 = true := by decide +kernel
set_option maxRecDepth 65536 in
theorem w_ripe : about1.ripe theMethod args0 below0 = true := by decide +kernel
theorem w_running : about1.status = .running := rfl
set_option maxRecDepth 65536 in
theorem w_room : about1.hasRoom e0.platform room_1 = true :=
  launch0.hasRoom_least _ room_1 (by decide +kernel) (by decide +kernel) (by decide +kernel) (by decide +kernel) (by decide +kernel) (by decide +kernel)
theorem allAtoms_all (ts : List Jvm.Cond) (a : Array Jvm.Value) (st : Jvm.State) : (allAtoms ts).before a st = ts.all (fun c => c.before a st) := by
  induction ts with
  | nil => rfl
  | cons c t ih =>
    show (Jvm.Cond.and c (allAtoms t)).before a st = _
    rw [Jvm.Cond.before_and, ih, List.all_cons]
def words1 : List Jvm.Cond := Jvm.Cond.code x code maxLocals ret :: tables_1
/-- a 'code' word, met by the world's own term for the bytes: nothing is compared byte by byte -/
theorem code_word {y : MethodName} {bytes : ByteArray} {mx : Nat} {rt : Option FieldType} {a : Array Value} {s : State} {m : MethodId} {meth : Method} {c : Code} (h1 : s.methodNamed? y = some m) (h2 : s.vm.method? m = some meth) (h3 : meth.code = some c) (h4 : c.code = bytes)
    (h5 : (c.maxLocals == mx && c.exceptionTable.isEmpty && decide (c.maxStack ≤ mostOperands) && decide (meth.sig.returnType = rt) && !meth.locks && decide (parseMethodDescriptor y.desc = some meth.sig)) = true) : (Jvm.Cond.code y bytes mx rt).before a s = true := by
  simp only [Bool.and_eq_true, beq_iff_eq, Bool.not_eq_true', decide_eq_true_eq] at h5
  obtain ⟨⟨⟨⟨⟨g1, g2⟩, g3⟩, g4⟩, g5⟩, g6⟩ := h5
  simp [Cond.before, Cond.holds, Cond.value, h1, h2, h3, h4, g1, g2, g3, g4, g5, g6]
def isCode : Jvm.Cond → Bool
  | .code _ _ _ _ => true
  | _ => false
theorem all_split {L : List Jvm.Cond} {P : Jvm.Cond → Bool} (h1 : L.all (fun c => isCode c || P c) = true) (h2 : ∀ c ∈ L.filter isCode, P c = true) : L.all P = true := by
  refine List.all_eq_true.mpr fun c hc => ?_
  have h := List.all_eq_true.mp h1 c hc
  rcases Bool.eq_false_or_eq_true (isCode c) with hi | hi
  · exact h2 c (List.mem_filter.mpr ⟨hc, hi⟩)
  · simpa [hi] using h
set_option maxRecDepth 65536 in
theorem w_c0 : (Jvm.Cond.code x code maxLocals ret).before args0 about1 = true := code_word (m := ⟨1, 3⟩) (meth := k1m3) (c := k1c3) (by decide +kernel) rfl rfl rfl (by decide +kernel)
set_option maxRecDepth 65536 in
theorem w_c1 : (Jvm.Cond.code ({ cls := "com/example/idly/idly/io/IdlScannerIsIdentifierStartPinLaw", name := "agrees", desc := "(I)Z" } : Jvm.MethodName) method_3_code (1 : Nat) (Option.some Jvm.ClassFile.FieldType.boolean)).before args0 about1 = true := code_word (m := ⟨1, 2⟩) (meth := k1m2) (c := k1c2) (by decide +kernel) rfl rfl rfl (by decide +kernel)
set_option maxRecDepth 65536 in
theorem w_c2 : (Jvm.Cond.code ({ cls := "com/example/idly/idly/io/IdlScanner", name := "isIdentifierStart", desc := "(I)Z" } : Jvm.MethodName) prog_11_method_30_code (1 : Nat) (Option.some Jvm.ClassFile.FieldType.boolean)).before args0 about1 = true := code_word (m := ⟨2, 0⟩) (meth := k2m0) (c := k2c0) (by decide +kernel) rfl rfl rfl (by decide +kernel)
set_option maxRecDepth 65536 in
theorem w_c3 : (Jvm.Cond.code ({ cls := "com/example/idly/idly/io/IdlScannerIsIdentifierStartPinLaw", name := "expected", desc := "(I)Z" } : Jvm.MethodName) method_2_code (2 : Nat) (Option.some Jvm.ClassFile.FieldType.boolean)).before args0 about1 = true := code_word (m := ⟨1, 1⟩) (meth := k1m1) (c := k1c1) (by decide +kernel) rfl rfl rfl (by decide +kernel)
def codes1 : List Jvm.Cond := [Jvm.Cond.code x code maxLocals ret, Jvm.Cond.code ({ cls := "com/example/idly/idly/io/IdlScannerIsIdentifierStartPinLaw", name := "agrees", desc := "(I)Z" } : Jvm.MethodName) method_3_code (1 : Nat) (Option.some Jvm.ClassFile.FieldType.boolean), Jvm.Cond.code ({ cls := "com/example/idly/idly/io/IdlScanner", name := "isIdentifierStart", desc := "(I)Z" } : Jvm.MethodName) prog_11_method_30_code (1 : Nat) (Option.some Jvm.ClassFile.FieldType.boolean), Jvm.Cond.code ({ cls := "com/example/idly/idly/io/IdlScannerIsIdentifierStartPinLaw", name := "expected", desc := "(I)Z" } : Jvm.MethodName) method_2_code (2 : Nat) (Option.some Jvm.ClassFile.FieldType.boolean)]
set_option maxRecDepth 65536 in
theorem codes_eq : words1.filter isCode = codes1 := rfl
theorem w_codes : ∀ c ∈ words1.filter isCode, c.before args0 about1 = true := by
  rw [codes_eq]
  intro c hc
  simp only [codes1, List.mem_cons, List.not_mem_nil, or_false] at hc
  rcases hc with rfl | rfl | rfl | rfl
  · exact w_c0
  · exact w_c1
  · exact w_c2
  · exact w_c3
set_option maxRecDepth 65536 in
theorem w_t1 : words1.all (fun c => isCode c || c.before args0 about1) = true := by decide +kernel
theorem w_tables : (allAtoms (Jvm.Cond.code x code maxLocals ret :: tables_1)).before args0 about1 = true := by
  rw [allAtoms_all]
  show words1.all (fun c => c.before args0 about1) = true
  refine all_split ?_ w_codes
  rw [w_t1]
set_option maxRecDepth 65536 in
theorem w_case : (Jvm.Cond.and given_1 narrow_1).before args0 about1 = true := by decide +kernel
theorem w_applies : (headSpec (Jvm.Cond.code x code maxLocals ret :: tables_1) room_1).applies x e0.platform about1 = true :=
  (Spec.applies_iff w_frames).mpr ⟨w_running, w_runnable, w_alone, w_named, w_hears, w_ripe, w_room, w_tables⟩
theorem atStart : AtStart classFile x code maxLocals ret World_1 tables_1 room_1 Calls_1 rest_1 Pre_1 launch0 p0 e0 about1 theMethod args0 below0 :=
  ⟨lists_1, trivial, launch0.admits_env _ _ _, launch0.least_env, fairChoices_fair.cas, fairChoices_fair.clock, w_frames, w_args, w_heap, w_applies, trivial, trivial, w_case⟩
end start1
theorem witness_1 : WitnessClaimed_1 := ⟨start1.p0, start1.e0, start1.about1, start1.theMethod, start1.args0, start1.below0, start1.atStart⟩
end Jvm.Pilot.@@N@@
