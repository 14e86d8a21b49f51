import JvmDerived
import JvmDerived.Pilot.@@N@@Statement
import JvmDerived.Pilot.@@N@@Code
set_option linter.unusedVariables false
set_option linter.unusedSimpArgs false
namespace Jvm.RoadKit
open Sem ClassFile Op Lib Jvm.Stand Jvm.Free Jvm.LawKit
section New
variable {p : Program} {l : Launch} {e : Env} {R : Room} {s : State} {m : MethodId} {args : Array Value} {below : List Frame} {meth : Method} {c : Code} {T : State} {locs : List Loc} {cells slots : Nat}
theorem retI (X : Stand p l e R s m args below meth c T locs cells slots) (hx : p.tables.exec = Jvm.exec) {pc : Nat} {Ls : Array Slot} {z : Int32} {rest : List Value} (hret : meth.sig.returnType = some .int) (hd : decode c.code pc = .ok (.ireturn, 1)) {fs : List Frame}
    (hl : ∀ (f : JFrame) (acts : List Action), f.method = m → f.locked = none → f.entered = [] → (doReturn e (T.setTop f) acts (some (.int z))).1 = T.setFrames fs) : Steps p.tables e below (T.setTop (mkF m pc Ls (.int z :: rest))) (T.setFrames fs) := by
  have hm' : T.vm.method? m = some meth := X.method'
  have hn : narrow .int (.int z) = .int z := rfl
  show Steps p.tables e below (T.setTop { method := m, pc := pc, locals := Ls, stack := _ :: rest, locked := none }) _
  jvm_step X.here [X.here.top, hx, hd, hm', hret, hn]
  first | (intro acts; rw [hl _ acts rfl rfl rfl]) | rw [hl _ _ rfl rfl rfl]
  exact Steps.refl _
end New
end Jvm.RoadKit
namespace Jvm.Pilot.@@N@@
open Jvm Jvm.ClassFile Sem Op Lib Jvm.Free Jvm.Stand Jvm.LawKit Jvm.RoadKit Bundle Jvm.Pilot.@@N@@.Jvm.D
/-! 1. own frame of the walks: a goal 'G T f' says: from the state T with the top frame f the body comes to its end as its contract says. G is kept opaque in a walk: own_Pre steps it back, own_Ret ends it. -/
abbrev own_Pre (p : Program) (e : Env) (below : List Frame) (G : State → JFrame → Prop) : Prop :=
  ∀ {T T2 : State} {f f2 : JFrame}, (∀ t, Steps p.tables e below (T2.setTop f2) t → Steps p.tables e below (T.setTop f) t) → G T2 f2 → G T f
abbrev own_Lv (p : Program) (e : Env) (below : List Frame) (m : MethodId) (T : State) (f : JFrame) (v : Option Value) : Prop :=
  ∀ fs, (∀ (f : JFrame) (acts : List Action), f.method = m → f.locked = none → f.entered = [] → (doReturn e (T.setTop f) acts v).1 = T.setFrames fs) → Steps p.tables e below (T.setTop f) (T.setFrames fs)
abbrev own_Ret (p : Program) (l : Launch) (e : Env) (R : Room) (s : State) (m : MethodId) (as' : Array Value) (below : List Frame) (meth : Method) (c : Code) (Q : Option Value → Heap → List Loc → Prop) (C S : Nat) (G : State → JFrame → Prop) : Prop :=
  ∀ {T : State} {locs : List Loc} {cells slots : Nat} {f : JFrame} {v : Option Value}, Stand p l e R s m as' below meth c T locs cells slots → own_Lv p e below m T f v → (meth.sig.returnType = none → v = none) → Q v T.heap locs → cells ≤ C → slots ≤ S → G T f
theorem own_contract {l : Launch} {Z : State} {y : MethodName} {bytes : ByteArray} {maxL : Nat} {ret : Option FieldType} {ws : List Jvm.Cond} {rm : Room} {as' : Array Value} {h0 : Heap} {Q : Option Value → Heap → List Loc → Prop} {Ls : Array Slot}
    (hpl : plainFor y = true) (hef : ∀ m, entryFrame m as' maxL = mkF m 0 Ls [])
    (H : ∀ (p : Program) (e : Env) (s : State) (m : MethodId) (below : List Frame) (meth : Method) (c : Code) (s₁ : State) (G : State → JFrame → Prop),
      p.tables.exec = Jvm.exec → c.code = bytes → c.maxLocals = maxL → s.vm.findClass y.cls = some m.cls → meth.name = y.name → meth.sig.returnType = ret → Z.Warmed39 s.vm →
      Stand p l e rm s m as' below meth c s₁ [] 0 0 → s₁.heap = h0 → own_Pre p e below G → own_Ret p l e rm s m as' below meth c Q rm.cells rm.slots G → G s₁ (mkF m 0 Ls [])) :
    MetFree l y (head1 (Jvm.Cond.code y bytes maxL ret :: ws) rm) (fun a U => a = as' ∧ Z.Warmed39 U.vm ∧ U.heap = h0) (fun _ _ _ _ _ => True) (fun _ U o U' => ∃ v L, o = .returned v ∧ Q v U'.heap L ∧ FrameEnd U o U' L rm.cells rm.slots) := by
  refine MetFree.of_bodySF hpl hisR ?_
  intro p e s m args below meth c s₁ Bd hml0 hP hK
  obtain ⟨rfl, hZ, hh⟩ := hP
  have X0 : Stand p l e rm s m args below meth c s₁ [] 0 0 := Stand.of_body Bd
  have e0 : s₁.heap = h0 := by rw [← hh, Bd.state]; rfl
  obtain ⟨T', locs, cells, slots, v, X, hst, hv, hQ, hc, hs⟩ := H p e s m below meth c s₁
    (fun T f => ∃ (T' : State) (locs : List Loc) (cells slots : Nat) (v : Option Value), Stand p l e rm s m args below meth c T' locs cells slots ∧
      (∀ fs, (∀ (f : JFrame) (acts : List Action), f.method = m → f.locked = none → f.entered = [] → (doReturn e (T'.setTop f) acts v).1 = T'.setFrames fs) → Steps p.tables e below (T.setTop f) (T'.setFrames fs)) ∧
      (meth.sig.returnType = none → v = none) ∧ Q v T'.heap locs ∧ cells ≤ rm.cells ∧ slots ≤ rm.slots)
    Bd.exec Bd.bytes hml0 (findClass_of_methodNamed Bd.named) (name_of_methodNamed Bd.named Bd.method).1 Bd.returns hZ X0 e0
    (fun {T T2 f f2} hs hG => by
      obtain ⟨T', locs, cells, slots, v, X, hst, r⟩ := hG
      exact ⟨T', locs, cells, slots, v, X, fun fs hl => hs _ (hst fs hl), r⟩)
    (fun {T locs cells slots f v} X hl hv hQ hc hs => ⟨T, locs, cells, slots, v, X, hl, hv, hQ, hc, hs⟩)
  obtain ⟨fs, hr, hrun, hended, hW, hsame⟩ := X.leave hv Bd.notSynchronized
  exact ⟨_, _, castTop (hef m) (hst fs hr), hrun, hended, _, _, rfl, hQ, ⟨_, rfl⟩, hW, hsame.mono hc hs⟩
/-- what a body without a write says: its value, nothing old written, the heap as it was -/
abbrev own_Q (r : Option Value) (h0 : Heap) (n0 : Nat) (v : Option Value) (h : Heap) (L : List Loc) : Prop := v = r ∧ Fr n0 L ∧ h = h0
section Calls
variable {p : Program} {l : Launch} {e : Env} {R : Room} {s : State} {m : MethodId} {args : Array Value} {below : List Frame} {meth : Method} {c : Code} {T : State} {locs : List Loc} {cells slots : Nat} {Z : State} {a0 : Array Value} {h : Heap}
theorem own_callS (X : Stand p l e R s m args below meth c T locs cells slots) (hx : p.tables.exec = Jvm.exec) (hZ : Z.Warmed39 s.vm) {own : String} {index : Nat} {y : MethodName} {bytes : ByteArray} {maxL : Nat} {ret : Option FieldType} {rm : Room} {as' : Array Value} {Q : Option Value → Heap → List Loc → Prop}
    (W : Nat) (hown : s.vm.findClass own = some m.cls) (w1 : (Cond.methodLink own index y).before a0 Z = true) (w2 : (Cond.static y).before a0 Z = true) (w3 : (Cond.initialized y.cls).before a0 Z = true) (w4 : (Cond.code y bytes maxL ret).before a0 Z = true)
    (hy : y.cls ≠ "java/lang/invoke/MethodHandle" ∧ y.cls ≠ "java/lang/invoke/VarHandle")
    (hM : MetFree l y (head1 [Cond.code y bytes maxL ret] rm) (fun a U => a = as' ∧ Z.Warmed39 U.vm ∧ U.heap = h) (fun _ _ _ _ _ => True) (fun _ U o U' => ∃ v L, o = .returned v ∧ Q v U'.heap L ∧ FrameEnd U o U' L rm.cells rm.slots))
    (eT : T.heap = h) (hf : rm.frames + 1 ≤ R.frames) (hl : W + (maxL + 11) + rm.locals ≤ R.locals) {g : JFrame} (hg : g.method = m) (hsize : g.locals.size = c.maxLocals) (argsL rest : List Value) {ps : List FieldType} {r : Option FieldType}
    (hd : parseMethodDescriptor y.desc = some ⟨ps, r⟩) (hlen : argsL.length = ps.length) (hstack : g.stack = argsL.reverse ++ rest) (hW : 2 * g.monitorRoom + (rest.map fun v => v.category).sum ≤ W) (hdg : decode c.code g.pc = .ok (.invokestatic index, 3))
    (has : argsL.toArray = as') (hc : cells + rm.cells ≤ R.cells) (hs : slots + rm.slots ≤ R.slots) :
    ∃ (v : Option Value) (T' : State) (L : List Loc), Stand p l e R s m args below meth c T' (locs ++ L) (cells + rm.cells) (slots + rm.slots) ∧ Q v T'.heap L ∧
      ∀ t, Steps p.tables e below (T'.setTop { g with pc := g.pc + 3, stack := v.toList ++ rest }) t → Steps p.tables e below (T.setTop g) t := by
  obtain ⟨v, _, ⟨T', L', k', n'⟩, -, X', ⟨Lc, hQ, l', y', z'⟩, st⟩ := Jvm.LawKit.callS X hx (y := y) hown (mvT hZ w1) (mvT hZ w2) (mvT hZ w3) (mvT hZ w4) hy (backOf (W := W) hM hZ w4 w3 hf hl) hg hsize (argsL := argsL) (rest := rest) (lenOf hd hlen) hstack hW hdg (fun _ _ => ⟨has, eT, hc, hs⟩)
  dsimp only [Pt.U, Pt.locs, Pt.cells, Pt.slots] at X' l' y' z' st hQ
  subst l' y' z'
  exact ⟨v, T', Lc, X', hQ, st⟩
theorem own_callI (X : Stand p l e R s m args below meth c T locs cells slots) (hx : p.tables.exec = Jvm.exec) (hZ : Z.Warmed39 s.vm) {own : String} {index : Nat} {y : MethodName} {bytes : ByteArray} {maxL : Nat} {rm : Room} {as' : Array Value} {Q : Option Value → Heap → List Loc → Prop}
    (W : Nat) (hy1 : y.name = "<init>") (hown : s.vm.findClass own = some m.cls) (w1 : (Cond.methodLink own index y).before a0 Z = true) (w2 : (Cond.instanceMethod y).before a0 Z = true) (w3 : (Cond.initialized y.cls).before a0 Z = true) (w4 : (Cond.code y bytes maxL none).before a0 Z = true)
    (hy : y.cls ≠ "java/lang/invoke/MethodHandle" ∧ y.cls ≠ "java/lang/invoke/VarHandle")
    (hM : MetFree l y (head1 [Cond.code y bytes maxL none] rm) (fun a U => a = as' ∧ Z.Warmed39 U.vm ∧ U.heap = h) (fun _ _ _ _ _ => True) (fun _ U o U' => ∃ v L, o = .returned v ∧ Q v U'.heap L ∧ FrameEnd U o U' L rm.cells rm.slots))
    (eT : T.heap = h) (hf : rm.frames + 1 ≤ R.frames) (hl : W + (maxL + 11) + rm.locals ≤ R.locals) {g : JFrame} (hg : g.method = m) (hsize : g.locals.size = c.maxLocals) (a : Addr) (argsL rest : List Value) {ps : List FieldType} {r : Option FieldType}
    (hd : parseMethodDescriptor y.desc = some ⟨ps, r⟩) (hlen : argsL.length = ps.length) (hstack : g.stack = argsL.reverse ++ .ref a :: rest) (hW : 2 * g.monitorRoom + (rest.map fun v => v.category).sum ≤ W) (hdg : decode c.code g.pc = .ok (.invokespecial index, 3))
    (has : (.ref a :: argsL).toArray = as') (hc : cells + rm.cells ≤ R.cells) (hs : slots + rm.slots ≤ R.slots) :
    ∃ (v : Option Value) (T' : State) (L : List Loc), Stand p l e R s m args below meth c T' (locs ++ L) (cells + rm.cells) (slots + rm.slots) ∧ Q v T'.heap L ∧
      ∀ t, Steps p.tables e below (T'.setTop { g with pc := g.pc + 3, stack := v.toList ++ rest }) t → Steps p.tables e below (T.setTop g) t := by
  obtain ⟨v, _, ⟨T', L', k', n'⟩, -, X', ⟨Lc, hQ, l', y', z'⟩, st⟩ := X.specialBack hx (y := y) hy1 hown (mvT hZ w1) (mvT hZ w2) (mvT hZ w4) hy (backOf (W := W) hM hZ w4 w3 hf hl) hg hsize (Steps.refl _) (a := a) (argsL := argsL) (rest := rest) (lenOf hd hlen) hstack hW hdg (fun _ _ => ⟨has, eT, hc, hs⟩)
  dsimp only [Pt.U, Pt.locs, Pt.cells, Pt.slots] at X' l' y' z' st hQ
  subst l' y' z'
  exact ⟨v, T', Lc, X', hQ, fun t k => st.trans k⟩
theorem own_callV (X : Stand p l e R s m args below meth c T locs cells slots) (hx : p.tables.exec = Jvm.exec) (hZ : Z.Warmed39 s.vm) {own C : String} {index : Nat} {y : MethodName} {bytes : ByteArray} {maxL : Nat} {ret : Option FieldType} {rm : Room} {as' : Array Value} {Q : Option Value → Heap → List Loc → Prop}
    (W : Nat) (hown : s.vm.findClass own = some m.cls) (w1 : (Cond.methodLink own index y).before a0 Z = true) (w2 : (Cond.declares y).before a0 Z = true) (w3 : (Cond.selects C y y).before a0 Z = true) (w4 : (Cond.instanceMethod y).before a0 Z = true) (w5 : (Cond.initialized y.cls).before a0 Z = true) (w6 : (Cond.code y bytes maxL ret).before a0 Z = true)
    (hy : y.cls ≠ "java/lang/invoke/MethodHandle" ∧ y.cls ≠ "java/lang/invoke/VarHandle")
    (hM : MetFree l y (head1 [Cond.code y bytes maxL ret] rm) (fun a U => a = as' ∧ Z.Warmed39 U.vm ∧ U.heap = h) (fun _ _ _ _ _ => True) (fun _ U o U' => ∃ v L, o = .returned v ∧ Q v U'.heap L ∧ FrameEnd U o U' L rm.cells rm.slots))
    (eT : T.heap = h) {b : Addr} (E : Exa Z h b C) (hf : rm.frames + 1 ≤ R.frames) (hl : W + (maxL + 11) + rm.locals ≤ R.locals) {g : JFrame} (hg : g.method = m) (hsize : g.locals.size = c.maxLocals) (argsL rest : List Value) {ps : List FieldType} {r : Option FieldType}
    (hd : parseMethodDescriptor y.desc = some ⟨ps, r⟩) (hlen : argsL.length = ps.length) (hstack : g.stack = argsL.reverse ++ .ref b :: rest) (hW : 2 * g.monitorRoom + (rest.map fun v => v.category).sum ≤ W) (hdg : decode c.code g.pc = .ok (.invokevirtual index, 3))
    (has : (.ref b :: argsL).toArray = as') (hc : cells + rm.cells ≤ R.cells) (hs : slots + rm.slots ≤ R.slots) :
    ∃ (v : Option Value) (T' : State) (L : List Loc), Stand p l e R s m args below meth c T' (locs ++ L) (cells + rm.cells) (slots + rm.slots) ∧ Q v T'.heap L ∧
      ∀ t, Steps p.tables e below (T'.setTop { g with pc := g.pc + 3, stack := v.toList ++ rest }) t → Steps p.tables e below (T.setTop g) t := by
  obtain ⟨cq, kq, qa, qb, qc⟩ := isOf hZ eT E
  obtain ⟨v, _, ⟨T', L', k', n'⟩, -, X', ⟨Lc, hQ, l', y', z'⟩, st⟩ := X.virtualBack hx (y := y) (z := y) hown (mvT hZ w1) (mvT hZ w2) (notFace_of_selects (args := #[]) (mvT hZ w3)) (mvT hZ w3) (mvT hZ w4) hy (backOf (W := W) hM hZ w6 w5 hf hl) qa qc hg hsize (Steps.refl _) (argsL := argsL) (rest := rest) (lenOf hd hlen) hstack hW hdg (fun _ _ => ⟨has, eT, hc, hs⟩)
  dsimp only [Pt.U, Pt.locs, Pt.cells, Pt.slots] at X' l' y' z' st hQ
  subst l' y' z'
  exact ⟨v, T', Lc, X', hQ, fun t k => st.trans k⟩
end Calls
theorem own_lrem {tb : Tables} [Ours tb] {e : Env} {below : List Frame} {T target : State} {m : MethodId} {c : Code} {g : JFrame} (h : At T m c below) (hx : tb.exec = Jvm.exec) (hg : g.method = m) {x y : Int64} {rest : List Value} (hd : decode c.code g.pc = .ok (.lrem, 1)) (hs : g.stack = .long y :: .long x :: rest) (hy : y ≠ 0)
    (hr : Steps tb e below (T.setTop { g with pc := g.pc + 1, stack := .long (x % y) :: rest }) target) : Steps tb e below (T.setTop g) target := XS.lrem h hx hg hd hs hy (by rw [lrem_mod]; exact hr)
theorem own_pd0 : parseMethodDescriptor "(J)J" = some ⟨[.long], some .long⟩ := by decide +kernel
theorem own_pd1 : parseMethodDescriptor "(JJ)J" = some ⟨[.long, .long], some .long⟩ := by decide +kernel
theorem d2_0 : decode prog_66_method_7_code 0 = .ok (.lload_n 0, 1) := by decide +kernel
theorem d2_1 : decode prog_66_method_7_code 1 = .ok (.lload_n 0, 1) := by decide +kernel
theorem d2_2 : decode prog_66_method_7_code 2 = .ok (.bipush 30, 2) := by decide +kernel
theorem d2_4 : decode prog_66_method_7_code 4 = .ok (.lushr, 1) := by decide +kernel
theorem d2_5 : decode prog_66_method_7_code 5 = .ok (.lxor, 1) := by decide +kernel
theorem d2_6 : decode prog_66_method_7_code 6 = .ok (.ldc2_w 59, 3) := by decide +kernel
theorem d2_9 : decode prog_66_method_7_code 9 = .ok (.lmul, 1) := by decide +kernel
theorem d2_10 : decode prog_66_method_7_code 10 = .ok (.lstore_n 0, 1) := by decide +kernel
theorem d2_11 : decode prog_66_method_7_code 11 = .ok (.lload_n 0, 1) := by decide +kernel
theorem d2_12 : decode prog_66_method_7_code 12 = .ok (.lload_n 0, 1) := by decide +kernel
theorem d2_13 : decode prog_66_method_7_code 13 = .ok (.bipush 27, 2) := by decide +kernel
theorem d2_15 : decode prog_66_method_7_code 15 = .ok (.lushr, 1) := by decide +kernel
theorem d2_16 : decode prog_66_method_7_code 16 = .ok (.lxor, 1) := by decide +kernel
theorem d2_17 : decode prog_66_method_7_code 17 = .ok (.ldc2_w 61, 3) := by decide +kernel
theorem d2_20 : decode prog_66_method_7_code 20 = .ok (.lmul, 1) := by decide +kernel
theorem d2_21 : decode prog_66_method_7_code 21 = .ok (.lstore_n 0, 1) := by decide +kernel
theorem d2_22 : decode prog_66_method_7_code 22 = .ok (.lload_n 0, 1) := by decide +kernel
theorem d2_23 : decode prog_66_method_7_code 23 = .ok (.lload_n 0, 1) := by decide +kernel
theorem d2_24 : decode prog_66_method_7_code 24 = .ok (.bipush 31, 2) := by decide +kernel
theorem d2_26 : decode prog_66_method_7_code 26 = .ok (.lushr, 1) := by decide +kernel
theorem d2_27 : decode prog_66_method_7_code 27 = .ok (.lxor, 1) := by decide +kernel
theorem d2_28 : decode prog_66_method_7_code 28 = .ok (.lreturn, 1) := by decide +kernel
theorem own_ef2 (m : MethodId) (p0 : Int64) : entryFrame m #[(.long p0)] 2 = mkF m 0 #[.val (.long p0), .second] [] := by first | (simp [entryFrame, mkF, argsToLocals, Value.category]; done) | rfl
def own_mix (p0 : Int64) : Int64 := let z1 : Int64 := ((p0 ^^^ ((p0.toUInt64 >>> ((30 : Int32) &&& 0x3f).toInt64.toUInt64).toInt64)) * (-4658895280553007687 : Int64))
  let z2 : Int64 := ((z1 ^^^ ((z1.toUInt64 >>> ((27 : Int32) &&& 0x3f).toInt64.toUInt64).toInt64)) * (-7723592293110705685 : Int64))
  (z2 ^^^ ((z2.toUInt64 >>> ((31 : Int32) &&& 0x3f).toInt64.toUInt64).toInt64))
theorem own_pn2 : plainName "com/example/slabwarden/slabwarden/verify/FillPattern" = true := by first | (simp [plainName, overriddenIn]; done) | decide +kernel
set_option maxRecDepth 65536 in
set_option maxHeartbeats 40000000 in
theorem rm2 (l : Launch) (Z : State) (a0 : Array Value) (hw : ∀ d ∈ tables_1, d.before a0 Z = true) (ws : List Jvm.Cond) (p0 : Int64) (h0 : Heap) (n0 : Nat)  :
    MetFree l (⟨"com/example/slabwarden/slabwarden/verify/FillPattern", "mix", "(J)J"⟩ : MethodName) (head1 (Jvm.Cond.code (⟨"com/example/slabwarden/slabwarden/verify/FillPattern", "mix", "(J)J"⟩ : MethodName) prog_66_method_7_code 2 (some .long) :: ws) ({ frames := 0, cells := 0, slots := 0, locals := 0 } : Room)) (fun a U => a = #[(.long p0)] ∧ Z.Warmed39 U.vm ∧ U.heap = h0) (fun _ _ _ _ _ => True) (fun _ U o U' => ∃ v L, o = .returned v ∧ own_Q (some (.long (own_mix p0))) h0 n0 v U'.heap L ∧ FrameEnd U o U' L ({ frames := 0, cells := 0, slots := 0, locals := 0 } : Room).cells ({ frames := 0, cells := 0, slots := 0, locals := 0 } : Room).slots) := by
  refine own_contract (plainFor_of_name own_pn2) (fun m => own_ef2 m p0) ?_
  intro p e s m below meth c s₁ G hx hby hml0 hown0 hnm hret hZ X0 e0 hp hR
  have hml : c.maxLocals = 2 := hml0
  have hown : s.vm.findClass "com/example/slabwarden/slabwarden/verify/FillPattern" = some m.cls := hown0
  have N0 := Fr.nil n0
  show G s₁ (mkF m 0 #[.val (.long p0), .second] [])
  refine hp (fun tq kq => XS.lloadN X0.here hx rfl (hb hby d2_0) rfl kq) ?_
  show G s₁ (mkF m 1 #[.val (.long p0), .second] [(.long p0)])
  refine hp (fun tq kq => XS.lloadN X0.here hx rfl (hb hby d2_1) rfl kq) ?_
  show G s₁ (mkF m 2 #[.val (.long p0), .second] [(.long p0), (.long p0)])
  refine hp (fun tq kq => XS.bipush X0.here hx rfl (hb hby d2_2) kq) ?_
  show G s₁ (mkF m 4 #[.val (.long p0), .second] [(.int (30 : Int32)), (.long p0), (.long p0)])
  refine hp (fun tq kq => XS.lushr X0.here hx rfl (hb hby d2_4) rfl kq) ?_
  show G s₁ (mkF m 5 #[.val (.long p0), .second] [(.long ((p0.toUInt64 >>> ((30 : Int32) &&& 0x3f).toInt64.toUInt64).toInt64)), (.long p0)])
  refine hp (fun tq kq => XS.lxor X0.here hx rfl (hb hby d2_5) rfl kq) ?_
  show G s₁ (mkF m 6 #[.val (.long p0), .second] [(.long (p0 ^^^ ((p0.toUInt64 >>> ((30 : Int32) &&& 0x3f).toInt64.toUInt64).toInt64)))])
  refine hp (fun tq kq => X0.ldc2Long hx hown (mvT hZ (hw _ (List.mem_of_getElem? (i := 7) rfl))) (g := (mkF m 6 #[.val (.long p0), .second] [(.long (p0 ^^^ ((p0.toUInt64 >>> ((30 : Int32) &&& 0x3f).toInt64.toUInt64).toInt64)))])) rfl (hb hby d2_6) _ kq) ?_
  show G s₁ (mkF m 9 #[.val (.long p0), .second] [(.long (-4658895280553007687 : Int64)), (.long (p0 ^^^ ((p0.toUInt64 >>> ((30 : Int32) &&& 0x3f).toInt64.toUInt64).toInt64)))])
  refine hp (fun tq kq => XS.lmul X0.here hx rfl (hb hby d2_9) rfl kq) ?_
  show G s₁ (mkF m 10 #[.val (.long p0), .second] [(.long ((p0 ^^^ ((p0.toUInt64 >>> ((30 : Int32) &&& 0x3f).toInt64.toUInt64).toInt64)) * (-4658895280553007687 : Int64)))])
  refine hp (fun tq kq => XS.lstoreN X0.here hx rfl (hb hby d2_10) rfl (l' := #[.val (.long ((p0 ^^^ ((p0.toUInt64 >>> ((30 : Int32) &&& 0x3f).toInt64.toUInt64).toInt64)) * (-4658895280553007687 : Int64))), .second]) rfl kq) ?_
  show G s₁ (mkF m 11 #[.val (.long ((p0 ^^^ ((p0.toUInt64 >>> ((30 : Int32) &&& 0x3f).toInt64.toUInt64).toInt64)) * (-4658895280553007687 : Int64))), .second] [])
  refine (?_ : ∀ (z1 : Int64), z1 = ((p0 ^^^ ((p0.toUInt64 >>> ((30 : Int32) &&& 0x3f).toInt64.toUInt64).toInt64)) * (-4658895280553007687 : Int64)) → G s₁ (mkF m 11 #[.val (.long z1), .second] [])) _ rfl
  intro z1 hz1
  refine hp (fun tq kq => XS.lloadN X0.here hx rfl (hb hby d2_11) rfl kq) ?_
  show G s₁ (mkF m 12 #[.val (.long z1), .second] [(.long z1)])
  refine hp (fun tq kq => XS.lloadN X0.here hx rfl (hb hby d2_12) rfl kq) ?_
  show G s₁ (mkF m 13 #[.val (.long z1), .second] [(.long z1), (.long z1)])
  refine hp (fun tq kq => XS.bipush X0.here hx rfl (hb hby d2_13) kq) ?_
  show G s₁ (mkF m 15 #[.val (.long z1), .second] [(.int (27 : Int32)), (.long z1), (.long z1)])
  refine hp (fun tq kq => XS.lushr X0.here hx rfl (hb hby d2_15) rfl kq) ?_
  show G s₁ (mkF m 16 #[.val (.long z1), .second] [(.long ((z1.toUInt64 >>> ((27 : Int32) &&& 0x3f).toInt64.toUInt64).toInt64)), (.long z1)])
  refine hp (fun tq kq => XS.lxor X0.here hx rfl (hb hby d2_16) rfl kq) ?_
  show G s₁ (mkF m 17 #[.val (.long z1), .second] [(.long (z1 ^^^ ((z1.toUInt64 >>> ((27 : Int32) &&& 0x3f).toInt64.toUInt64).toInt64)))])
  refine hp (fun tq kq => X0.ldc2Long hx hown (mvT hZ (hw _ (List.mem_of_getElem? (i := 8) rfl))) (g := (mkF m 17 #[.val (.long z1), .second] [(.long (z1 ^^^ ((z1.toUInt64 >>> ((27 : Int32) &&& 0x3f).toInt64.toUInt64).toInt64)))])) rfl (hb hby d2_17) _ kq) ?_
  show G s₁ (mkF m 20 #[.val (.long z1), .second] [(.long (-7723592293110705685 : Int64)), (.long (z1 ^^^ ((z1.toUInt64 >>> ((27 : Int32) &&& 0x3f).toInt64.toUInt64).toInt64)))])
  refine hp (fun tq kq => XS.lmul X0.here hx rfl (hb hby d2_20) rfl kq) ?_
  show G s₁ (mkF m 21 #[.val (.long z1), .second] [(.long ((z1 ^^^ ((z1.toUInt64 >>> ((27 : Int32) &&& 0x3f).toInt64.toUInt64).toInt64)) * (-7723592293110705685 : Int64)))])
  refine hp (fun tq kq => XS.lstoreN X0.here hx rfl (hb hby d2_21) rfl (l' := #[.val (.long ((z1 ^^^ ((z1.toUInt64 >>> ((27 : Int32) &&& 0x3f).toInt64.toUInt64).toInt64)) * (-7723592293110705685 : Int64))), .second]) rfl kq) ?_
  show G s₁ (mkF m 22 #[.val (.long ((z1 ^^^ ((z1.toUInt64 >>> ((27 : Int32) &&& 0x3f).toInt64.toUInt64).toInt64)) * (-7723592293110705685 : Int64))), .second] [])
  refine (?_ : ∀ (z2 : Int64), z2 = ((z1 ^^^ ((z1.toUInt64 >>> ((27 : Int32) &&& 0x3f).toInt64.toUInt64).toInt64)) * (-7723592293110705685 : Int64)) → G s₁ (mkF m 22 #[.val (.long z2), .second] [])) _ rfl
  intro z2 hz2
  refine hp (fun tq kq => XS.lloadN X0.here hx rfl (hb hby d2_22) rfl kq) ?_
  show G s₁ (mkF m 23 #[.val (.long z2), .second] [(.long z2)])
  refine hp (fun tq kq => XS.lloadN X0.here hx rfl (hb hby d2_23) rfl kq) ?_
  show G s₁ (mkF m 24 #[.val (.long z2), .second] [(.long z2), (.long z2)])
  refine hp (fun tq kq => XS.bipush X0.here hx rfl (hb hby d2_24) kq) ?_
  show G s₁ (mkF m 26 #[.val (.long z2), .second] [(.int (31 : Int32)), (.long z2), (.long z2)])
  refine hp (fun tq kq => XS.lushr X0.here hx rfl (hb hby d2_26) rfl kq) ?_
  show G s₁ (mkF m 27 #[.val (.long z2), .second] [(.long ((z2.toUInt64 >>> ((31 : Int32) &&& 0x3f).toInt64.toUInt64).toInt64)), (.long z2)])
  refine hp (fun tq kq => XS.lxor X0.here hx rfl (hb hby d2_27) rfl kq) ?_
  show G s₁ (mkF m 28 #[.val (.long z2), .second] [(.long (z2 ^^^ ((z2.toUInt64 >>> ((31 : Int32) &&& 0x3f).toInt64.toUInt64).toInt64)))])
  exact hR X0 (fun fs hl => X0.lreturnOut hx hret (hb hby d2_28) hl) (fun q => by rw [hret] at q; cases q) ⟨(by subst hz2 hz1; exact rfl), N0, e0⟩ (by decide) (by decide)
theorem d1_0 : decode prog_66_method_2_code 0 = .ok (.lload_n 0, 1) := by decide +kernel
theorem d1_1 : decode prog_66_method_2_code 1 = .ok (.invokestatic 7, 3) := by decide +kernel
theorem d1_4 : decode prog_66_method_2_code 4 = .ok (.lload_n 2, 1) := by decide +kernel
theorem d1_5 : decode prog_66_method_2_code 5 = .ok (.ldc2_w 13, 3) := by decide +kernel
theorem d1_8 : decode prog_66_method_2_code 8 = .ok (.lmul, 1) := by decide +kernel
theorem d1_9 : decode prog_66_method_2_code 9 = .ok (.ladd, 1) := by decide +kernel
theorem d1_10 : decode prog_66_method_2_code 10 = .ok (.invokestatic 7, 3) := by decide +kernel
theorem d1_13 : decode prog_66_method_2_code 13 = .ok (.lreturn, 1) := by decide +kernel
theorem own_ef1 (m : MethodId) (p0 : Int64) (p1 : Int64) : entryFrame m #[(.long p0), (.long p1)] 4 = mkF m 0 #[.val (.long p0), .second, .val (.long p1), .second] [] := by first | (simp [entryFrame, mkF, argsToLocals, Value.category]; done) | rfl
def own_seed (p0 : Int64) (p1 : Int64) : Int64 := (own_mix ((own_mix p0) + (p1 * (-7046029254386353131 : Int64))))
theorem own_pn1 : plainName "com/example/slabwarden/slabwarden/verify/FillPattern" = true := by first | (simp [plainName, overriddenIn]; done) | decide +kernel
set_option maxRecDepth 65536 in
set_option maxHeartbeats 40000000 in
theorem rm1 (l : Launch) (Z : State) (a0 : Array Value) (hw : ∀ d ∈ tables_1, d.before a0 Z = true) (ws : List Jvm.Cond) (p0 : Int64) (p1 : Int64) (h0 : Heap) (n0 : Nat)  :
    MetFree l (⟨"com/example/slabwarden/slabwarden/verify/FillPattern", "seed", "(JJ)J"⟩ : MethodName) (head1 (Jvm.Cond.code (⟨"com/example/slabwarden/slabwarden/verify/FillPattern", "seed", "(JJ)J"⟩ : MethodName) prog_66_method_2_code 4 (some .long) :: ws) ({ frames := 1, cells := 0, slots := 0, locals := 13 } : Room)) (fun a U => a = #[(.long p0), (.long p1)] ∧ Z.Warmed39 U.vm ∧ U.heap = h0) (fun _ _ _ _ _ => True) (fun _ U o U' => ∃ v L, o = .returned v ∧ own_Q (some (.long (own_seed p0 p1))) h0 n0 v U'.heap L ∧ FrameEnd U o U' L ({ frames := 1, cells := 0, slots := 0, locals := 13 } : Room).cells ({ frames := 1, cells := 0, slots := 0, locals := 13 } : Room).slots) := by
  refine own_contract (plainFor_of_name own_pn1) (fun m => own_ef1 m p0 p1) ?_
  intro p e s m below meth c s₁ G hx hby hml0 hown0 hnm hret hZ X0 e0 hp hR
  have hml : c.maxLocals = 4 := hml0
  have hown : s.vm.findClass "com/example/slabwarden/slabwarden/verify/FillPattern" = some m.cls := hown0
  have N0 := Fr.nil n0
  show G s₁ (mkF m 0 #[.val (.long p0), .second, .val (.long p1), .second] [])
  refine hp (fun tq kq => XS.lloadN X0.here hx rfl (hb hby d1_0) rfl kq) ?_
  show G s₁ (mkF m 1 #[.val (.long p0), .second, .val (.long p1), .second] [(.long p0)])
  obtain ⟨v1, T1, L1, X1, hQ1, st1⟩ := own_callS X0 hx hZ (y := (⟨"com/example/slabwarden/slabwarden/verify/FillPattern", "mix", "(J)J"⟩ : MethodName)) (rm := ({ frames := 0, cells := 0, slots := 0, locals := 0 } : Room)) 0 hown (hw _ (List.mem_of_getElem? (i := 4) rfl)) (hw _ (List.mem_of_getElem? (i := 5) rfl)) (hw _ (List.mem_of_getElem? (i := 2) rfl)) (hw _ (List.mem_of_getElem? (i := 6) rfl)) (by decide) (rm2 l Z a0 hw [] p0 h0 n0) e0 (by decide) (by decide) (g := (mkF m 1 #[.val (.long p0), .second, .val (.long p1), .second] [(.long p0)])) rfl (by rw [hml]; rfl) [(.long p0)] [] own_pd0 rfl rfl (by show 2 * 0 + _ ≤ _; exact Nat.le_of_eq rfl) (hb hby d1_1) rfl (by decide) (by decide)
  obtain ⟨rfl, N1, e1⟩ := hQ1
  have F1 := Fr.app N0 N1
  refine hp st1 ?_
  show G T1 (mkF m 4 #[.val (.long p0), .second, .val (.long p1), .second] [(.long (own_mix p0))])
  refine hp (fun tq kq => XS.lloadN X1.here hx rfl (hb hby d1_4) rfl kq) ?_
  show G T1 (mkF m 5 #[.val (.long p0), .second, .val (.long p1), .second] [(.long p1), (.long (own_mix p0))])
  refine hp (fun tq kq => X1.ldc2Long hx hown (mvT hZ (hw _ (List.mem_of_getElem? (i := 9) rfl))) (g := (mkF m 5 #[.val (.long p0), .second, .val (.long p1), .second] [(.long p1), (.long (own_mix p0))])) rfl (hb hby d1_5) _ kq) ?_
  show G T1 (mkF m 8 #[.val (.long p0), .second, .val (.long p1), .second] [(.long (-7046029254386353131 : Int64)), (.long p1), (.long (own_mix p0))])
  refine hp (fun tq kq => XS.lmul X1.here hx rfl (hb hby d1_8) rfl kq) ?_
  show G T1 (mkF m 9 #[.val (.long p0), .second, .val (.long p1), .second] [(.long (p1 * (-7046029254386353131 : Int64))), (.long (own_mix p0))])
  refine hp (fun tq kq => XS.ladd X1.here hx rfl (hb hby d1_9) rfl kq) ?_
  show G T1 (mkF m 10 #[.val (.long p0), .second, .val (.long p1), .second] [(.long ((own_mix p0) + (p1 * (-7046029254386353131 : Int64))))])
  obtain ⟨v2, T2, L2, X2, hQ2, st2⟩ := own_callS X1 hx hZ (y := (⟨"com/example/slabwarden/slabwarden/verify/FillPattern", "mix", "(J)J"⟩ : MethodName)) (rm := ({ frames := 0, cells := 0, slots := 0, locals := 0 } : Room)) 0 hown (hw _ (List.mem_of_getElem? (i := 4) rfl)) (hw _ (List.mem_of_getElem? (i := 5) rfl)) (hw _ (List.mem_of_getElem? (i := 2) rfl)) (hw _ (List.mem_of_getElem? (i := 6) rfl)) (by decide) (rm2 l Z a0 hw [] ((own_mix p0) + (p1 * (-7046029254386353131 : Int64))) h0 n0) e1 (by decide) (by decide) (g := (mkF m 10 #[.val (.long p0), .second, .val (.long p1), .second] [(.long ((own_mix p0) + (p1 * (-7046029254386353131 : Int64))))])) rfl (by rw [hml]; rfl) [(.long ((own_mix p0) + (p1 * (-7046029254386353131 : Int64))))] [] own_pd0 rfl rfl (by show 2 * 0 + _ ≤ _; exact Nat.le_of_eq rfl) (hb hby d1_10) rfl (by decide) (by decide)
  obtain ⟨rfl, N2, e2⟩ := hQ2
  have F2 := Fr.app F1 N2
  refine hp st2 ?_
  show G T2 (mkF m 13 #[.val (.long p0), .second, .val (.long p1), .second] [(.long (own_mix ((own_mix p0) + (p1 * (-7046029254386353131 : Int64)))))])
  exact hR X2 (fun fs hl => X2.lreturnOut hx hret (hb hby d1_13) hl) (fun q => by rw [hret] at q; cases q) ⟨rfl, F2, e2⟩ (by decide) (by decide)
theorem d3_0 : decode method_2_code 0 = .ok (.lload_n 0, 1) := by decide +kernel
theorem d3_1 : decode method_2_code 1 = .ok (.lload_n 0, 1) := by decide +kernel
theorem d3_2 : decode method_2_code 2 = .ok (.bipush 31, 2) := by decide +kernel
theorem d3_4 : decode method_2_code 4 = .ok (.lushr, 1) := by decide +kernel
theorem d3_5 : decode method_2_code 5 = .ok (.lxor, 1) := by decide +kernel
theorem d3_6 : decode method_2_code 6 = .ok (.lload_n 0, 1) := by decide +kernel
theorem d3_7 : decode method_2_code 7 = .ok (.bipush 62, 2) := by decide +kernel
theorem d3_9 : decode method_2_code 9 = .ok (.lushr, 1) := by decide +kernel
theorem d3_10 : decode method_2_code 10 = .ok (.lxor, 1) := by decide +kernel
theorem d3_11 : decode method_2_code 11 = .ok (.ldc2_w 7, 3) := by decide +kernel
theorem d3_14 : decode method_2_code 14 = .ok (.lmul, 1) := by decide +kernel
theorem d3_15 : decode method_2_code 15 = .ok (.lstore_n 0, 1) := by decide +kernel
theorem d3_16 : decode method_2_code 16 = .ok (.lload_n 0, 1) := by decide +kernel
theorem d3_17 : decode method_2_code 17 = .ok (.lload_n 0, 1) := by decide +kernel
theorem d3_18 : decode method_2_code 18 = .ok (.bipush 27, 2) := by decide +kernel
theorem d3_20 : decode method_2_code 20 = .ok (.lushr, 1) := by decide +kernel
theorem d3_21 : decode method_2_code 21 = .ok (.lxor, 1) := by decide +kernel
theorem d3_22 : decode method_2_code 22 = .ok (.lload_n 0, 1) := by decide +kernel
theorem d3_23 : decode method_2_code 23 = .ok (.bipush 54, 2) := by decide +kernel
theorem d3_25 : decode method_2_code 25 = .ok (.lushr, 1) := by decide +kernel
theorem d3_26 : decode method_2_code 26 = .ok (.lxor, 1) := by decide +kernel
theorem d3_27 : decode method_2_code 27 = .ok (.ldc2_w 9, 3) := by decide +kernel
theorem d3_30 : decode method_2_code 30 = .ok (.lmul, 1) := by decide +kernel
theorem d3_31 : decode method_2_code 31 = .ok (.lstore_n 0, 1) := by decide +kernel
theorem d3_32 : decode method_2_code 32 = .ok (.lload_n 0, 1) := by decide +kernel
theorem d3_33 : decode method_2_code 33 = .ok (.lload_n 0, 1) := by decide +kernel
theorem d3_34 : decode method_2_code 34 = .ok (.bipush 30, 2) := by decide +kernel
theorem d3_36 : decode method_2_code 36 = .ok (.lushr, 1) := by decide +kernel
theorem d3_37 : decode method_2_code 37 = .ok (.lxor, 1) := by decide +kernel
theorem d3_38 : decode method_2_code 38 = .ok (.lload_n 0, 1) := by decide +kernel
theorem d3_39 : decode method_2_code 39 = .ok (.bipush 60, 2) := by decide +kernel
theorem d3_41 : decode method_2_code 41 = .ok (.lushr, 1) := by decide +kernel
theorem d3_42 : decode method_2_code 42 = .ok (.lxor, 1) := by decide +kernel
theorem d3_43 : decode method_2_code 43 = .ok (.lstore_n 0, 1) := by decide +kernel
theorem d3_44 : decode method_2_code 44 = .ok (.lload_n 0, 1) := by decide +kernel
theorem d3_45 : decode method_2_code 45 = .ok (.lreturn, 1) := by decide +kernel
theorem own_ef3 (m : MethodId) (p0 : Int64) : entryFrame m #[(.long p0)] 2 = mkF m 0 #[.val (.long p0), .second] [] := by first | (simp [entryFrame, mkF, argsToLocals, Value.category]; done) | rfl
def own_unmix (p0 : Int64) : Int64 := let z1 : Int64 := (((p0 ^^^ ((p0.toUInt64 >>> ((31 : Int32) &&& 0x3f).toInt64.toUInt64).toInt64)) ^^^ ((p0.toUInt64 >>> ((62 : Int32) &&& 0x3f).toInt64.toUInt64).toInt64)) * (3573116690164977347 : Int64))
  let z2 : Int64 := (((z1 ^^^ ((z1.toUInt64 >>> ((27 : Int32) &&& 0x3f).toInt64.toUInt64).toInt64)) ^^^ ((z1.toUInt64 >>> ((54 : Int32) &&& 0x3f).toInt64.toUInt64).toInt64)) * (-7575587736534282103 : Int64))
  let z3 : Int64 := ((z2 ^^^ ((z2.toUInt64 >>> ((30 : Int32) &&& 0x3f).toInt64.toUInt64).toInt64)) ^^^ ((z2.toUInt64 >>> ((60 : Int32) &&& 0x3f).toInt64.toUInt64).toInt64))
  z3
theorem own_pn3 : plainName "com/example/slabwarden/slabwarden/verify/FillPatternSeedPinLaw" = true := by first | (simp [plainName, overriddenIn]; done) | decide +kernel
set_option maxRecDepth 65536 in
set_option maxHeartbeats 40000000 in
theorem rm3 (l : Launch) (Z : State) (a0 : Array Value) (hw : ∀ d ∈ tables_1, d.before a0 Z = true) (ws : List Jvm.Cond) (p0 : Int64) (h0 : Heap) (n0 : Nat)  :
    MetFree l (⟨"com/example/slabwarden/slabwarden/verify/FillPatternSeedPinLaw", "unmix", "(J)J"⟩ : MethodName) (head1 (Jvm.Cond.code (⟨"com/example/slabwarden/slabwarden/verify/FillPatternSeedPinLaw", "unmix", "(J)J"⟩ : MethodName) method_2_code 2 (some .long) :: ws) ({ frames := 0, cells := 0, slots := 0, locals := 0 } : Room)) (fun a U => a = #[(.long p0)] ∧ Z.Warmed39 U.vm ∧ U.heap = h0) (fun _ _ _ _ _ => True) (fun _ U o U' => ∃ v L, o = .returned v ∧ own_Q (some (.long (own_unmix p0))) h0 n0 v U'.heap L ∧ FrameEnd U o U' L ({ frames := 0, cells := 0, slots := 0, locals := 0 } : Room).cells ({ frames := 0, cells := 0, slots := 0, locals := 0 } : Room).slots) := by
  refine own_contract (plainFor_of_name own_pn3) (fun m => own_ef3 m p0) ?_
  intro p e s m below meth c s₁ G hx hby hml0 hown0 hnm hret hZ X0 e0 hp hR
  have hml : c.maxLocals = 2 := hml0
  have hown : s.vm.findClass "com/example/slabwarden/slabwarden/verify/FillPatternSeedPinLaw" = some m.cls := hown0
  have N0 := Fr.nil n0
  show G s₁ (mkF m 0 #[.val (.long p0), .second] [])
  refine hp (fun tq kq => XS.lloadN X0.here hx rfl (hb hby d3_0) rfl kq) ?_
  show G s₁ (mkF m 1 #[.val (.long p0), .second] [(.long p0)])
  refine hp (fun tq kq => XS.lloadN X0.here hx rfl (hb hby d3_1) rfl kq) ?_
  show G s₁ (mkF m 2 #[.val (.long p0), .second] [(.long p0), (.long p0)])
  refine hp (fun tq kq => XS.bipush X0.here hx rfl (hb hby d3_2) kq) ?_
  show G s₁ (mkF m 4 #[.val (.long p0), .second] [(.int (31 : Int32)), (.long p0), (.long p0)])
  refine hp (fun tq kq => XS.lushr X0.here hx rfl (hb hby d3_4) rfl kq) ?_
  show G s₁ (mkF m 5 #[.val (.long p0), .second] [(.long ((p0.toUInt64 >>> ((31 : Int32) &&& 0x3f).toInt64.toUInt64).toInt64)), (.long p0)])
  refine hp (fun tq kq => XS.lxor X0.here hx rfl (hb hby d3_5) rfl kq) ?_
  show G s₁ (mkF m 6 #[.val (.long p0), .second] [(.long (p0 ^^^ ((p0.toUInt64 >>> ((31 : Int32) &&& 0x3f).toInt64.toUInt64).toInt64)))])
  refine hp (fun tq kq => XS.lloadN X0.here hx rfl (hb hby d3_6) rfl kq) ?_
  show G s₁ (mkF m 7 #[.val (.long p0), .second] [(.long p0), (.long (p0 ^^^ ((p0.toUInt64 >>> ((31 : Int32) &&& 0x3f).toInt64.toUInt64).toInt64)))])
  refine hp (fun tq kq => XS.bipush X0.here hx rfl (hb hby d3_7) kq) ?_
  show G s₁ (mkF m 9 #[.val (.long p0), .second] [(.int (62 : Int32)), (.long p0), (.long (p0 ^^^ ((p0.toUInt64 >>> ((31 : Int32) &&& 0x3f).toInt64.toUInt64).toInt64)))])
  refine hp (fun tq kq => XS.lushr X0.here hx rfl (hb hby d3_9) rfl kq) ?_
  show G s₁ (mkF m 10 #[.val (.long p0), .second] [(.long ((p0.toUInt64 >>> ((62 : Int32) &&& 0x3f).toInt64.toUInt64).toInt64)), (.long (p0 ^^^ ((p0.toUInt64 >>> ((31 : Int32) &&& 0x3f).toInt64.toUInt64).toInt64)))])
  refine hp (fun tq kq => XS.lxor X0.here hx rfl (hb hby d3_10) rfl kq) ?_
  show G s₁ (mkF m 11 #[.val (.long p0), .second] [(.long ((p0 ^^^ ((p0.toUInt64 >>> ((31 : Int32) &&& 0x3f).toInt64.toUInt64).toInt64)) ^^^ ((p0.toUInt64 >>> ((62 : Int32) &&& 0x3f).toInt64.toUInt64).toInt64)))])
  refine hp (fun tq kq => X0.ldc2Long hx hown (mvT hZ (hw _ (List.mem_of_getElem? (i := 14) rfl))) (g := (mkF m 11 #[.val (.long p0), .second] [(.long ((p0 ^^^ ((p0.toUInt64 >>> ((31 : Int32) &&& 0x3f).toInt64.toUInt64).toInt64)) ^^^ ((p0.toUInt64 >>> ((62 : Int32) &&& 0x3f).toInt64.toUInt64).toInt64)))])) rfl (hb hby d3_11) _ kq) ?_
  show G s₁ (mkF m 14 #[.val (.long p0), .second] [(.long (3573116690164977347 : Int64)), (.long ((p0 ^^^ ((p0.toUInt64 >>> ((31 : Int32) &&& 0x3f).toInt64.toUInt64).toInt64)) ^^^ ((p0.toUInt64 >>> ((62 : Int32) &&& 0x3f).toInt64.toUInt64).toInt64)))])
  refine hp (fun tq kq => XS.lmul X0.here hx rfl (hb hby d3_14) rfl kq) ?_
  show G s₁ (mkF m 15 #[.val (.long p0), .second] [(.long (((p0 ^^^ ((p0.toUInt64 >>> ((31 : Int32) &&& 0x3f).toInt64.toUInt64).toInt64)) ^^^ ((p0.toUInt64 >>> ((62 : Int32) &&& 0x3f).toInt64.toUInt64).toInt64)) * (3573116690164977347 : Int64)))])
  refine hp (fun tq kq => XS.lstoreN X0.here hx rfl (hb hby d3_15) rfl (l' := #[.val (.long (((p0 ^^^ ((p0.toUInt64 >>> ((31 : Int32) &&& 0x3f).toInt64.toUInt64).toInt64)) ^^^ ((p0.toUInt64 >>> ((62 : Int32) &&& 0x3f).toInt64.toUInt64).toInt64)) * (3573116690164977347 : Int64))), .second]) rfl kq) ?_
  show G s₁ (mkF m 16 #[.val (.long (((p0 ^^^ ((p0.toUInt64 >>> ((31 : Int32) &&& 0x3f).toInt64.toUInt64).toInt64)) ^^^ ((p0.toUInt64 >>> ((62 : Int32) &&& 0x3f).toInt64.toUInt64).toInt64)) * (3573116690164977347 : Int64))), .second] [])
  refine (?_ : ∀ (z1 : Int64), z1 = (((p0 ^^^ ((p0.toUInt64 >>> ((31 : Int32) &&& 0x3f).toInt64.toUInt64).toInt64)) ^^^ ((p0.toUInt64 >>> ((62 : Int32) &&& 0x3f).toInt64.toUInt64).toInt64)) * (3573116690164977347 : Int64)) → G s₁ (mkF m 16 #[.val (.long z1), .second] [])) _ rfl
  intro z1 hz1
  refine hp (fun tq kq => XS.lloadN X0.here hx rfl (hb hby d3_16) rfl kq) ?_
  show G s₁ (mkF m 17 #[.val (.long z1), .second] [(.long z1)])
  refine hp (fun tq kq => XS.lloadN X0.here hx rfl (hb hby d3_17) rfl kq) ?_
  show G s₁ (mkF m 18 #[.val (.long z1), .second] [(.long z1), (.long z1)])
  refine hp (fun tq kq => XS.bipush X0.here hx rfl (hb hby d3_18) kq) ?_
  show G s₁ (mkF m 20 #[.val (.long z1), .second] [(.int (27 : Int32)), (.long z1), (.long z1)])
  refine hp (fun tq kq => XS.lushr X0.here hx rfl (hb hby d3_20) rfl kq) ?_
  show G s₁ (mkF m 21 #[.val (.long z1), .second] [(.long ((z1.toUInt64 >>> ((27 : Int32) &&& 0x3f).toInt64.toUInt64).toInt64)), (.long z1)])
  refine hp (fun tq kq => XS.lxor X0.here hx rfl (hb hby d3_21) rfl kq) ?_
  show G s₁ (mkF m 22 #[.val (.long z1), .second] [(.long (z1 ^^^ ((z1.toUInt64 >>> ((27 : Int32) &&& 0x3f).toInt64.toUInt64).toInt64)))])
  refine hp (fun tq kq => XS.lloadN X0.here hx rfl (hb hby d3_22) rfl kq) ?_
  show G s₁ (mkF m 23 #[.val (.long z1), .second] [(.long z1), (.long (z1 ^^^ ((z1.toUInt64 >>> ((27 : Int32) &&& 0x3f).toInt64.toUInt64).toInt64)))])
  refine hp (fun tq kq => XS.bipush X0.here hx rfl (hb hby d3_23) kq) ?_
  show G s₁ (mkF m 25 #[.val (.long z1), .second] [(.int (54 : Int32)), (.long z1), (.long (z1 ^^^ ((z1.toUInt64 >>> ((27 : Int32) &&& 0x3f).toInt64.toUInt64).toInt64)))])
  refine hp (fun tq kq => XS.lushr X0.here hx rfl (hb hby d3_25) rfl kq) ?_
  show G s₁ (mkF m 26 #[.val (.long z1), .second] [(.long ((z1.toUInt64 >>> ((54 : Int32) &&& 0x3f).toInt64.toUInt64).toInt64)), (.long (z1 ^^^ ((z1.toUInt64 >>> ((27 : Int32) &&& 0x3f).toInt64.toUInt64).toInt64)))])
  refine hp (fun tq kq => XS.lxor X0.here hx rfl (hb hby d3_26) rfl kq) ?_
  show G s₁ (mkF m 27 #[.val (.long z1), .second] [(.long ((z1 ^^^ ((z1.toUInt64 >>> ((27 : Int32) &&& 0x3f).toInt64.toUInt64).toInt64)) ^^^ ((z1.toUInt64 >>> ((54 : Int32) &&& 0x3f).toInt64.toUInt64).toInt64)))])
  refine hp (fun tq kq => X0.ldc2Long hx hown (mvT hZ (hw _ (List.mem_of_getElem? (i := 15) rfl))) (g := (mkF m 27 #[.val (.long z1), .second] [(.long ((z1 ^^^ ((z1.toUInt64 >>> ((27 : Int32) &&& 0x3f).toInt64.toUInt64).toInt64)) ^^^ ((z1.toUInt64 >>> ((54 : Int32) &&& 0x3f).toInt64.toUInt64).toInt64)))])) rfl (hb hby d3_27) _ kq) ?_
  show G s₁ (mkF m 30 #[.val (.long z1), .second] [(.long (-7575587736534282103 : Int64)), (.long ((z1 ^^^ ((z1.toUInt64 >>> ((27 : Int32) &&& 0x3f).toInt64.toUInt64).toInt64)) ^^^ ((z1.toUInt64 >>> ((54 : Int32) &&& 0x3f).toInt64.toUInt64).toInt64)))])
  refine hp (fun tq kq => XS.lmul X0.here hx rfl (hb hby d3_30) rfl kq) ?_
  show G s₁ (mkF m 31 #[.val (.long z1), .second] [(.long (((z1 ^^^ ((z1.toUInt64 >>> ((27 : Int32) &&& 0x3f).toInt64.toUInt64).toInt64)) ^^^ ((z1.toUInt64 >>> ((54 : Int32) &&& 0x3f).toInt64.toUInt64).toInt64)) * (-7575587736534282103 : Int64)))])
  refine hp (fun tq kq => XS.lstoreN X0.here hx rfl (hb hby d3_31) rfl (l' := #[.val (.long (((z1 ^^^ ((z1.toUInt64 >>> ((27 : Int32) &&& 0x3f).toInt64.toUInt64).toInt64)) ^^^ ((z1.toUInt64 >>> ((54 : Int32) &&& 0x3f).toInt64.toUInt64).toInt64)) * (-7575587736534282103 : Int64))), .second]) rfl kq) ?_
  show G s₁ (mkF m 32 #[.val (.long (((z1 ^^^ ((z1.toUInt64 >>> ((27 : Int32) &&& 0x3f).toInt64.toUInt64).toInt64)) ^^^ ((z1.toUInt64 >>> ((54 : Int32) &&& 0x3f).toInt64.toUInt64).toInt64)) * (-7575587736534282103 : Int64))), .second] [])
  refine (?_ : ∀ (z2 : Int64), z2 = (((z1 ^^^ ((z1.toUInt64 >>> ((27 : Int32) &&& 0x3f).toInt64.toUInt64).toInt64)) ^^^ ((z1.toUInt64 >>> ((54 : Int32) &&& 0x3f).toInt64.toUInt64).toInt64)) * (-7575587736534282103 : Int64)) → G s₁ (mkF m 32 #[.val (.long z2), .second] [])) _ rfl
  intro z2 hz2
  refine hp (fun tq kq => XS.lloadN X0.here hx rfl (hb hby d3_32) rfl kq) ?_
  show G s₁ (mkF m 33 #[.val (.long z2), .second] [(.long z2)])
  refine hp (fun tq kq => XS.lloadN X0.here hx rfl (hb hby d3_33) rfl kq) ?_
  show G s₁ (mkF m 34 #[.val (.long z2), .second] [(.long z2), (.long z2)])
  refine hp (fun tq kq => XS.bipush X0.here hx rfl (hb hby d3_34) kq) ?_
  show G s₁ (mkF m 36 #[.val (.long z2), .second] [(.int (30 : Int32)), (.long z2), (.long z2)])
  refine hp (fun tq kq => XS.lushr X0.here hx rfl (hb hby d3_36) rfl kq) ?_
  show G s₁ (mkF m 37 #[.val (.long z2), .second] [(.long ((z2.toUInt64 >>> ((30 : Int32) &&& 0x3f).toInt64.toUInt64).toInt64)), (.long z2)])
  refine hp (fun tq kq => XS.lxor X0.here hx rfl (hb hby d3_37) rfl kq) ?_
  show G s₁ (mkF m 38 #[.val (.long z2), .second] [(.long (z2 ^^^ ((z2.toUInt64 >>> ((30 : Int32) &&& 0x3f).toInt64.toUInt64).toInt64)))])
  refine hp (fun tq kq => XS.lloadN X0.here hx rfl (hb hby d3_38) rfl kq) ?_
  show G s₁ (mkF m 39 #[.val (.long z2), .second] [(.long z2), (.long (z2 ^^^ ((z2.toUInt64 >>> ((30 : Int32) &&& 0x3f).toInt64.toUInt64).toInt64)))])
  refine hp (fun tq kq => XS.bipush X0.here hx rfl (hb hby d3_39) kq) ?_
  show G s₁ (mkF m 41 #[.val (.long z2), .second] [(.int (60 : Int32)), (.long z2), (.long (z2 ^^^ ((z2.toUInt64 >>> ((30 : Int32) &&& 0x3f).toInt64.toUInt64).toInt64)))])
  refine hp (fun tq kq => XS.lushr X0.here hx rfl (hb hby d3_41) rfl kq) ?_
  show G s₁ (mkF m 42 #[.val (.long z2), .second] [(.long ((z2.toUInt64 >>> ((60 : Int32) &&& 0x3f).toInt64.toUInt64).toInt64)), (.long (z2 ^^^ ((z2.toUInt64 >>> ((30 : Int32) &&& 0x3f).toInt64.toUInt64).toInt64)))])
  refine hp (fun tq kq => XS.lxor X0.here hx rfl (hb hby d3_42) rfl kq) ?_
  show G s₁ (mkF m 43 #[.val (.long z2), .second] [(.long ((z2 ^^^ ((z2.toUInt64 >>> ((30 : Int32) &&& 0x3f).toInt64.toUInt64).toInt64)) ^^^ ((z2.toUInt64 >>> ((60 : Int32) &&& 0x3f).toInt64.toUInt64).toInt64)))])
  refine hp (fun tq kq => XS.lstoreN X0.here hx rfl (hb hby d3_43) rfl (l' := #[.val (.long ((z2 ^^^ ((z2.toUInt64 >>> ((30 : Int32) &&& 0x3f).toInt64.toUInt64).toInt64)) ^^^ ((z2.toUInt64 >>> ((60 : Int32) &&& 0x3f).toInt64.toUInt64).toInt64))), .second]) rfl kq) ?_
  show G s₁ (mkF m 44 #[.val (.long ((z2 ^^^ ((z2.toUInt64 >>> ((30 : Int32) &&& 0x3f).toInt64.toUInt64).toInt64)) ^^^ ((z2.toUInt64 >>> ((60 : Int32) &&& 0x3f).toInt64.toUInt64).toInt64))), .second] [])
  refine (?_ : ∀ (z3 : Int64), z3 = ((z2 ^^^ ((z2.toUInt64 >>> ((30 : Int32) &&& 0x3f).toInt64.toUInt64).toInt64)) ^^^ ((z2.toUInt64 >>> ((60 : Int32) &&& 0x3f).toInt64.toUInt64).toInt64)) → G s₁ (mkF m 44 #[.val (.long z3), .second] [])) _ rfl
  intro z3 hz3
  refine hp (fun tq kq => XS.lloadN X0.here hx rfl (hb hby d3_44) rfl kq) ?_
  show G s₁ (mkF m 45 #[.val (.long z3), .second] [(.long z3)])
  exact hR X0 (fun fs hl => X0.lreturnOut hx hret (hb hby d3_45) hl) (fun q => by rw [hret] at q; cases q) ⟨(by subst hz3 hz2 hz1; exact rfl), N0, e0⟩ (by decide) (by decide)
/-- the shift of a long by a constant, without a sign -/
def own_sh (x : Int64) (k : Int32) : Int64 := (x.toUInt64 >>> (k &&& 0x3f).toInt64.toUInt64).toInt64
theorem own_sh_bv (x : Int64) (k : Int32) (n : Nat) (hk : (k &&& 0x3f).toInt64.toUInt64.toBitVec.toNat % 64 = n) : (own_sh x k).toBitVec = x.toBitVec >>> n := by
  subst hk
  show (x.toUInt64 >>> (k &&& 0x3f).toInt64.toUInt64).toBitVec = _
  rw [UInt64.toBitVec_shiftRight]
  rfl
theorem own_inv3 (x : BitVec 64) (k : Nat) (h : 64 ≤ 3 * k) : ((x ^^^ (x >>> k)) ^^^ ((x ^^^ (x >>> k)) >>> k)) ^^^ ((x ^^^ (x >>> k)) >>> (k + k)) = x := by
  ext i hi
  have e1 : k + k + i = k + (k + i) := by omega
  have e2 : x.getLsbD (k + (k + (k + i))) = false := BitVec.getLsbD_of_ge _ _ (by omega)
  simp only [BitVec.getElem_xor, BitVec.getElem_ushiftRight, BitVec.getLsbD_xor, BitVec.getLsbD_ushiftRight, e1, e2]
  generalize x.getLsbD (k + i) = u
  generalize x.getLsbD (k + (k + i)) = v
  cases x[i] <;> cases u <;> cases v <;> rfl
theorem own_un (x : Int64) (k k2 : Int32) (n : Nat) (hk : (k &&& 0x3f).toInt64.toUInt64.toBitVec.toNat % 64 = n) (hk2 : (k2 &&& 0x3f).toInt64.toUInt64.toBitVec.toNat % 64 = n + n) (h : 64 ≤ 3 * n) :
    ((x ^^^ own_sh x k) ^^^ own_sh (x ^^^ own_sh x k) k) ^^^ own_sh (x ^^^ own_sh x k) k2 = x := by
  apply Int64.toBitVec_inj.mp
  simp only [Int64.toBitVec_xor, own_sh_bv _ k n hk, own_sh_bv _ k2 (n + n) hk2]
  exact own_inv3 _ n h
theorem own_mulinv (x a b : Int64) (h : a * b = 1) : x * a * b = x := by rw [Int64.mul_assoc, h, Int64.mul_one]
theorem own_same (x : Int64) : own_unmix (own_mix x) = x := by
  have hm : own_mix x = (((x ^^^ own_sh x 30) * (-4658895280553007687)) ^^^ own_sh ((x ^^^ own_sh x 30) * (-4658895280553007687)) 27) * (-7723592293110705685) ^^^ own_sh ((((x ^^^ own_sh x 30) * (-4658895280553007687)) ^^^ own_sh ((x ^^^ own_sh x 30) * (-4658895280553007687)) 27) * (-7723592293110705685)) 31 := rfl
  have hu : ∀ y : Int64, own_unmix y = (((((((y ^^^ own_sh y 31) ^^^ own_sh y 62) * 3573116690164977347) ^^^ own_sh (((y ^^^ own_sh y 31) ^^^ own_sh y 62) * 3573116690164977347) 27) ^^^ own_sh (((y ^^^ own_sh y 31) ^^^ own_sh y 62) * 3573116690164977347) 54) * (-7575587736534282103)) ^^^ own_sh ((((((y ^^^ own_sh y 31) ^^^ own_sh y 62) * 3573116690164977347) ^^^ own_sh (((y ^^^ own_sh y 31) ^^^ own_sh y 62) * 3573116690164977347) 27) ^^^ own_sh (((y ^^^ own_sh y 31) ^^^ own_sh y 62) * 3573116690164977347) 54) * (-7575587736534282103)) 30) ^^^ own_sh ((((((y ^^^ own_sh y 31) ^^^ own_sh y 62) * 3573116690164977347) ^^^ own_sh (((y ^^^ own_sh y 31) ^^^ own_sh y 62) * 3573116690164977347) 27) ^^^ own_sh (((y ^^^ own_sh y 31) ^^^ own_sh y 62) * 3573116690164977347) 54) * (-7575587736534282103)) 60 := fun y => rfl
  rw [hu, hm, own_un _ 31 62 31 (by decide) (by decide) (by decide), own_mulinv _ _ _ (by decide), own_un _ 27 54 27 (by decide) (by decide) (by decide), own_mulinv _ _ _ (by decide), own_un _ 30 60 30 (by decide) (by decide) (by decide)]
theorem own_zero (x : Int64) : own_mix x + (0 : Int64) * (-7046029254386353131 : Int64) = own_mix x := by rw [Int64.zero_mul, Int64.add_zero]
theorem own_one (x : Int64) : (own_unmix (own_unmix (own_seed x (0 : Int64)))) = x := by
  rw [own_seed, own_zero, own_same, own_same]
theorem own_two (x y : Int64) : ((own_unmix (own_seed x y)) - (own_unmix (own_seed x (0 : Int64)))) = (y * (-7046029254386353131 : Int64)) := by
  rw [own_seed, own_seed, own_zero, own_same, own_same]
  rw [Int64.add_comm, Int64.add_sub_cancel]

theorem own_ef0 (m : MethodId) (p0 : Int64) (p1 : Int64) : entryFrame m #[(.long p0), (.long p1)] maxLocals = mkF m 0 #[.val (.long p0), .second, .val (.long p1), .second, .unset, .unset, .unset, .unset, .unset, .unset, .unset, .unset] [] := by first | (simp [entryFrame, mkF, argsToLocals, Value.category, maxLocals]; done) | rfl
abbrev own_Q0 (n0 : Nat) (v : Option Value) (h : Heap) (L : List Loc) : Prop := v = some (.int 1) ∧ Fr n0 L
theorem own_pn0 : plainName "com/example/slabwarden/slabwarden/verify/FillPatternSeedPinLaw" = true := by first | (simp [plainName, overriddenIn]; done) | decide +kernel
set_option maxRecDepth 65536 in
set_option maxHeartbeats 40000000 in
theorem rm0 (l : Launch) (Z : State) (a0 : Array Value) (hw : ∀ d ∈ tables_1, d.before a0 Z = true) (ws : List Jvm.Cond) (p0 : Int64) (p1 : Int64) (h0 : Heap) (n0 : Nat)  :
    MetFree l x (head1 (Jvm.Cond.code x code maxLocals ret :: ws) room_1) (fun a U => a = #[(.long p0), (.long p1)] ∧ Z.Warmed39 U.vm ∧ U.heap = h0) (fun _ _ _ _ _ => True) (fun _ U o U' => ∃ v L, o = .returned v ∧ own_Q0 n0 v U'.heap L ∧ FrameEnd U o U' L room_1.cells room_1.slots) := by
  refine own_contract (plainFor_of_name own_pn0) (fun m => own_ef0 m p0 p1) ?_
  intro p e s m below meth c s₁ G hx hby hml0 hown0 hnm hret hZ X0 e0 hp hR
  have hml : c.maxLocals = 12 := hml0
  have hown : s.vm.findClass "com/example/slabwarden/slabwarden/verify/FillPatternSeedPinLaw" = some m.cls := hown0
  have N0 := Fr.nil n0
  show G s₁ (mkF m 0 #[.val (.long p0), .second, .val (.long p1), .second, .unset, .unset, .unset, .unset, .unset, .unset, .unset, .unset] [])
  refine hp (fun tq kq => XS.lloadN X0.here hx rfl (hb hby at_0) rfl kq) ?_
  show G s₁ (mkF m 1 #[.val (.long p0), .second, .val (.long p1), .second, .unset, .unset, .unset, .unset, .unset, .unset, .unset, .unset] [(.long p0)])
  refine hp (fun tq kq => XS.lloadN X0.here hx rfl (hb hby at_1) rfl kq) ?_
  show G s₁ (mkF m 2 #[.val (.long p0), .second, .val (.long p1), .second, .unset, .unset, .unset, .unset, .unset, .unset, .unset, .unset] [(.long p1), (.long p0)])
  obtain ⟨v1, T1, L1, X1, hQ1, st1⟩ := own_callS X0 hx hZ (y := (⟨"com/example/slabwarden/slabwarden/verify/FillPattern", "seed", "(JJ)J"⟩ : MethodName)) (rm := ({ frames := 1, cells := 0, slots := 0, locals := 13 } : Room)) 0 hown (hw _ (List.mem_of_getElem? (i := 0) rfl)) (hw _ (List.mem_of_getElem? (i := 1) rfl)) (hw _ (List.mem_of_getElem? (i := 2) rfl)) (hw _ (List.mem_of_getElem? (i := 3) rfl)) (by decide) (rm1 l Z a0 hw [] p0 p1 h0 n0) e0 (by decide) (by decide) (g := (mkF m 2 #[.val (.long p0), .second, .val (.long p1), .second, .unset, .unset, .unset, .unset, .unset, .unset, .unset, .unset] [(.long p1), (.long p0)])) rfl (by rw [hml]; rfl) [(.long p0), (.long p1)] [] own_pd1 rfl rfl (by show 2 * 0 + _ ≤ _; exact Nat.le_of_eq rfl) (hb hby at_2) rfl (by decide) (by decide)
  obtain ⟨rfl, N1, e1⟩ := hQ1
  have F1 := Fr.app N0 N1
  refine hp st1 ?_
  show G T1 (mkF m 5 #[.val (.long p0), .second, .val (.long p1), .second, .unset, .unset, .unset, .unset, .unset, .unset, .unset, .unset] [(.long (own_seed p0 p1))])
  refine hp (fun tq kq => XS.lstore X1.here hx rfl (hb hby at_5) rfl (l' := #[.val (.long p0), .second, .val (.long p1), .second, .val (.long (own_seed p0 p1)), .second, .unset, .unset, .unset, .unset, .unset, .unset]) rfl kq) ?_
  show G T1 (mkF m 7 #[.val (.long p0), .second, .val (.long p1), .second, .val (.long (own_seed p0 p1)), .second, .unset, .unset, .unset, .unset, .unset, .unset] [])
  refine hp (fun tq kq => XS.lloadN X1.here hx rfl (hb hby at_7) rfl kq) ?_
  show G T1 (mkF m 8 #[.val (.long p0), .second, .val (.long p1), .second, .val (.long (own_seed p0 p1)), .second, .unset, .unset, .unset, .unset, .unset, .unset] [(.long p0)])
  refine hp (fun tq kq => XS.lconst X1.here hx rfl (hb hby at_8) kq) ?_
  show G T1 (mkF m 9 #[.val (.long p0), .second, .val (.long p1), .second, .val (.long (own_seed p0 p1)), .second, .unset, .unset, .unset, .unset, .unset, .unset] [(.long (0 : Int64)), (.long p0)])
  obtain ⟨v2, T2, L2, X2, hQ2, st2⟩ := own_callS X1 hx hZ (y := (⟨"com/example/slabwarden/slabwarden/verify/FillPattern", "seed", "(JJ)J"⟩ : MethodName)) (rm := ({ frames := 1, cells := 0, slots := 0, locals := 13 } : Room)) 0 hown (hw _ (List.mem_of_getElem? (i := 0) rfl)) (hw _ (List.mem_of_getElem? (i := 1) rfl)) (hw _ (List.mem_of_getElem? (i := 2) rfl)) (hw _ (List.mem_of_getElem? (i := 3) rfl)) (by decide) (rm1 l Z a0 hw [] p0 (0 : Int64) h0 n0) e1 (by decide) (by decide) (g := (mkF m 9 #[.val (.long p0), .second, .val (.long p1), .second, .val (.long (own_seed p0 p1)), .second, .unset, .unset, .unset, .unset, .unset, .unset] [(.long (0 : Int64)), (.long p0)])) rfl (by rw [hml]; rfl) [(.long p0), (.long (0 : Int64))] [] own_pd1 rfl rfl (by show 2 * 0 + _ ≤ _; exact Nat.le_of_eq rfl) (hb hby at_9) rfl (by decide) (by decide)
  obtain ⟨rfl, N2, e2⟩ := hQ2
  have F2 := Fr.app F1 N2
  refine hp st2 ?_
  show G T2 (mkF m 12 #[.val (.long p0), .second, .val (.long p1), .second, .val (.long (own_seed p0 p1)), .second, .unset, .unset, .unset, .unset, .unset, .unset] [(.long (own_seed p0 (0 : Int64)))])
  refine hp (fun tq kq => XS.lstore X2.here hx rfl (hb hby at_12) rfl (l' := #[.val (.long p0), .second, .val (.long p1), .second, .val (.long (own_seed p0 p1)), .second, .val (.long (own_seed p0 (0 : Int64))), .second, .unset, .unset, .unset, .unset]) rfl kq) ?_
  show G T2 (mkF m 14 #[.val (.long p0), .second, .val (.long p1), .second, .val (.long (own_seed p0 p1)), .second, .val (.long (own_seed p0 (0 : Int64))), .second, .unset, .unset, .unset, .unset] [])
  refine hp (fun tq kq => XS.lload X2.here hx rfl (hb hby at_14) rfl kq) ?_
  show G T2 (mkF m 16 #[.val (.long p0), .second, .val (.long p1), .second, .val (.long (own_seed p0 p1)), .second, .val (.long (own_seed p0 (0 : Int64))), .second, .unset, .unset, .unset, .unset] [(.long (own_seed p0 (0 : Int64)))])
  obtain ⟨v3, T3, L3, X3, hQ3, st3⟩ := own_callS X2 hx hZ (y := (⟨"com/example/slabwarden/slabwarden/verify/FillPatternSeedPinLaw", "unmix", "(J)J"⟩ : MethodName)) (rm := ({ frames := 0, cells := 0, slots := 0, locals := 0 } : Room)) 0 hown (hw _ (List.mem_of_getElem? (i := 10) rfl)) (hw _ (List.mem_of_getElem? (i := 11) rfl)) (hw _ (List.mem_of_getElem? (i := 12) rfl)) (hw _ (List.mem_of_getElem? (i := 13) rfl)) (by decide) (rm3 l Z a0 hw [] (own_seed p0 (0 : Int64)) h0 n0) e2 (by decide) (by decide) (g := (mkF m 16 #[.val (.long p0), .second, .val (.long p1), .second, .val (.long (own_seed p0 p1)), .second, .val (.long (own_seed p0 (0 : Int64))), .second, .unset, .unset, .unset, .unset] [(.long (own_seed p0 (0 : Int64)))])) rfl (by rw [hml]; rfl) [(.long (own_seed p0 (0 : Int64)))] [] own_pd0 rfl rfl (by show 2 * 0 + _ ≤ _; exact Nat.le_of_eq rfl) (hb hby at_16) rfl (by decide) (by decide)
  obtain ⟨rfl, N3, e3⟩ := hQ3
  have F3 := Fr.app F2 N3
  refine hp st3 ?_
  show G T3 (mkF m 19 #[.val (.long p0), .second, .val (.long p1), .second, .val (.long (own_seed p0 p1)), .second, .val (.long (own_seed p0 (0 : Int64))), .second, .unset, .unset, .unset, .unset] [(.long (own_unmix (own_seed p0 (0 : Int64))))])
  refine hp (fun tq kq => XS.lstore X3.here hx rfl (hb hby at_19) rfl (l' := #[.val (.long p0), .second, .val (.long p1), .second, .val (.long (own_seed p0 p1)), .second, .val (.long (own_seed p0 (0 : Int64))), .second, .val (.long (own_unmix (own_seed p0 (0 : Int64)))), .second, .unset, .unset]) rfl kq) ?_
  show G T3 (mkF m 21 #[.val (.long p0), .second, .val (.long p1), .second, .val (.long (own_seed p0 p1)), .second, .val (.long (own_seed p0 (0 : Int64))), .second, .val (.long (own_unmix (own_seed p0 (0 : Int64)))), .second, .unset, .unset] [])
  refine hp (fun tq kq => XS.lload X3.here hx rfl (hb hby at_21) rfl kq) ?_
  show G T3 (mkF m 23 #[.val (.long p0), .second, .val (.long p1), .second, .val (.long (own_seed p0 p1)), .second, .val (.long (own_seed p0 (0 : Int64))), .second, .val (.long (own_unmix (own_seed p0 (0 : Int64)))), .second, .unset, .unset] [(.long (own_unmix (own_seed p0 (0 : Int64))))])
  obtain ⟨v4, T4, L4, X4, hQ4, st4⟩ := own_callS X3 hx hZ (y := (⟨"com/example/slabwarden/slabwarden/verify/FillPatternSeedPinLaw", "unmix", "(J)J"⟩ : MethodName)) (rm := ({ frames := 0, cells := 0, slots := 0, locals := 0 } : Room)) 0 hown (hw _ (List.mem_of_getElem? (i := 10) rfl)) (hw _ (List.mem_of_getElem? (i := 11) rfl)) (hw _ (List.mem_of_getElem? (i := 12) rfl)) (hw _ (List.mem_of_getElem? (i := 13) rfl)) (by decide) (rm3 l Z a0 hw [] (own_unmix (own_seed p0 (0 : Int64))) h0 n0) e3 (by decide) (by decide) (g := (mkF m 23 #[.val (.long p0), .second, .val (.long p1), .second, .val (.long (own_seed p0 p1)), .second, .val (.long (own_seed p0 (0 : Int64))), .second, .val (.long (own_unmix (own_seed p0 (0 : Int64)))), .second, .unset, .unset] [(.long (own_unmix (own_seed p0 (0 : Int64))))])) rfl (by rw [hml]; rfl) [(.long (own_unmix (own_seed p0 (0 : Int64))))] [] own_pd0 rfl rfl (by show 2 * 0 + _ ≤ _; exact Nat.le_of_eq rfl) (hb hby at_23) rfl (by decide) (by decide)
  obtain ⟨rfl, N4, e4⟩ := hQ4
  have F4 := Fr.app F3 N4
  refine hp st4 ?_
  show G T4 (mkF m 26 #[.val (.long p0), .second, .val (.long p1), .second, .val (.long (own_seed p0 p1)), .second, .val (.long (own_seed p0 (0 : Int64))), .second, .val (.long (own_unmix (own_seed p0 (0 : Int64)))), .second, .unset, .unset] [(.long (own_unmix (own_unmix (own_seed p0 (0 : Int64)))))])
  refine hp (fun tq kq => XS.lloadN X4.here hx rfl (hb hby at_26) rfl kq) ?_
  show G T4 (mkF m 27 #[.val (.long p0), .second, .val (.long p1), .second, .val (.long (own_seed p0 p1)), .second, .val (.long (own_seed p0 (0 : Int64))), .second, .val (.long (own_unmix (own_seed p0 (0 : Int64)))), .second, .unset, .unset] [(.long p0), (.long (own_unmix (own_unmix (own_seed p0 (0 : Int64)))))])
  refine hp (fun tq kq => XS.lcmp X4.here hx rfl (hb hby at_27) rfl kq) ?_
  show G T4 (mkF m 28 #[.val (.long p0), .second, .val (.long p1), .second, .val (.long (own_seed p0 p1)), .second, .val (.long (own_seed p0 (0 : Int64))), .second, .val (.long (own_unmix (own_seed p0 (0 : Int64)))), .second, .unset, .unset] [(.int (lcmpW (own_unmix (own_unmix (own_seed p0 (0 : Int64)))) p0))])
  refine hp (fun tq kq => XS.ifNo X4.here hx rfl (hb hby at_28) rfl ((if0 _ _).trans (teq ((lw_eq _ _).mpr (own_one _))).2) kq) ?_
  show G T4 (mkF m 31 #[.val (.long p0), .second, .val (.long p1), .second, .val (.long (own_seed p0 p1)), .second, .val (.long (own_seed p0 (0 : Int64))), .second, .val (.long (own_unmix (own_seed p0 (0 : Int64)))), .second, .unset, .unset] [])
  refine hp (fun tq kq => XS.iconst X4.here hx rfl (hb hby at_31) kq) ?_
  show G T4 (mkF m 32 #[.val (.long p0), .second, .val (.long p1), .second, .val (.long (own_seed p0 p1)), .second, .val (.long (own_seed p0 (0 : Int64))), .second, .val (.long (own_unmix (own_seed p0 (0 : Int64)))), .second, .unset, .unset] [(.int (1 : Int32))])
  refine hp (fun tq kq => XS.goto X4.here hx rfl (pc0 := 32) (pc' := 36) rfl (hb hby at_32) (by decide) (by decide) kq) ?_
  show G T4 (mkF m 36 #[.val (.long p0), .second, .val (.long p1), .second, .val (.long (own_seed p0 p1)), .second, .val (.long (own_seed p0 (0 : Int64))), .second, .val (.long (own_unmix (own_seed p0 (0 : Int64)))), .second, .unset, .unset] [(.int (1 : Int32))])
  refine hp (fun tq kq => XS.istore X4.here hx rfl (hb hby at_36) rfl (l' := #[.val (.long p0), .second, .val (.long p1), .second, .val (.long (own_seed p0 p1)), .second, .val (.long (own_seed p0 (0 : Int64))), .second, .val (.long (own_unmix (own_seed p0 (0 : Int64)))), .second, .val (.int (1 : Int32)), .unset]) rfl kq) ?_
  show G T4 (mkF m 38 #[.val (.long p0), .second, .val (.long p1), .second, .val (.long (own_seed p0 p1)), .second, .val (.long (own_seed p0 (0 : Int64))), .second, .val (.long (own_unmix (own_seed p0 (0 : Int64)))), .second, .val (.int (1 : Int32)), .unset] [])
  refine hp (fun tq kq => XS.lload X4.here hx rfl (hb hby at_38) rfl kq) ?_
  show G T4 (mkF m 40 #[.val (.long p0), .second, .val (.long p1), .second, .val (.long (own_seed p0 p1)), .second, .val (.long (own_seed p0 (0 : Int64))), .second, .val (.long (own_unmix (own_seed p0 (0 : Int64)))), .second, .val (.int (1 : Int32)), .unset] [(.long (own_seed p0 p1))])
  obtain ⟨v5, T5, L5, X5, hQ5, st5⟩ := own_callS X4 hx hZ (y := (⟨"com/example/slabwarden/slabwarden/verify/FillPatternSeedPinLaw", "unmix", "(J)J"⟩ : MethodName)) (rm := ({ frames := 0, cells := 0, slots := 0, locals := 0 } : Room)) 0 hown (hw _ (List.mem_of_getElem? (i := 10) rfl)) (hw _ (List.mem_of_getElem? (i := 11) rfl)) (hw _ (List.mem_of_getElem? (i := 12) rfl)) (hw _ (List.mem_of_getElem? (i := 13) rfl)) (by decide) (rm3 l Z a0 hw [] (own_seed p0 p1) h0 n0) e4 (by decide) (by decide) (g := (mkF m 40 #[.val (.long p0), .second, .val (.long p1), .second, .val (.long (own_seed p0 p1)), .second, .val (.long (own_seed p0 (0 : Int64))), .second, .val (.long (own_unmix (own_seed p0 (0 : Int64)))), .second, .val (.int (1 : Int32)), .unset] [(.long (own_seed p0 p1))])) rfl (by rw [hml]; rfl) [(.long (own_seed p0 p1))] [] own_pd0 rfl rfl (by show 2 * 0 + _ ≤ _; exact Nat.le_of_eq rfl) (hb hby at_40) rfl (by decide) (by decide)
  obtain ⟨rfl, N5, e5⟩ := hQ5
  have F5 := Fr.app F4 N5
  refine hp st5 ?_
  show G T5 (mkF m 43 #[.val (.long p0), .second, .val (.long p1), .second, .val (.long (own_seed p0 p1)), .second, .val (.long (own_seed p0 (0 : Int64))), .second, .val (.long (own_unmix (own_seed p0 (0 : Int64)))), .second, .val (.int (1 : Int32)), .unset] [(.long (own_unmix (own_seed p0 p1)))])
  refine hp (fun tq kq => XS.lload X5.here hx rfl (hb hby at_43) rfl kq) ?_
  show G T5 (mkF m 45 #[.val (.long p0), .second, .val (.long p1), .second, .val (.long (own_seed p0 p1)), .second, .val (.long (own_seed p0 (0 : Int64))), .second, .val (.long (own_unmix (own_seed p0 (0 : Int64)))), .second, .val (.int (1 : Int32)), .unset] [(.long (own_unmix (own_seed p0 (0 : Int64)))), (.long (own_unmix (own_seed p0 p1)))])
  refine hp (fun tq kq => XS.lsub X5.here hx rfl (hb hby at_45) rfl kq) ?_
  show G T5 (mkF m 46 #[.val (.long p0), .second, .val (.long p1), .second, .val (.long (own_seed p0 p1)), .second, .val (.long (own_seed p0 (0 : Int64))), .second, .val (.long (own_unmix (own_seed p0 (0 : Int64)))), .second, .val (.int (1 : Int32)), .unset] [(.long ((own_unmix (own_seed p0 p1)) - (own_unmix (own_seed p0 (0 : Int64)))))])
  refine hp (fun tq kq => XS.lloadN X5.here hx rfl (hb hby at_46) rfl kq) ?_
  show G T5 (mkF m 47 #[.val (.long p0), .second, .val (.long p1), .second, .val (.long (own_seed p0 p1)), .second, .val (.long (own_seed p0 (0 : Int64))), .second, .val (.long (own_unmix (own_seed p0 (0 : Int64)))), .second, .val (.int (1 : Int32)), .unset] [(.long p1), (.long ((own_unmix (own_seed p0 p1)) - (own_unmix (own_seed p0 (0 : Int64)))))])
  refine hp (fun tq kq => X5.ldc2Long hx hown (mvT hZ (hw _ (List.mem_of_getElem? (i := 16) rfl))) (g := (mkF m 47 #[.val (.long p0), .second, .val (.long p1), .second, .val (.long (own_seed p0 p1)), .second, .val (.long (own_seed p0 (0 : Int64))), .second, .val (.long (own_unmix (own_seed p0 (0 : Int64)))), .second, .val (.int (1 : Int32)), .unset] [(.long p1), (.long ((own_unmix (own_seed p0 p1)) - (own_unmix (own_seed p0 (0 : Int64)))))])) rfl (hb hby at_47) _ kq) ?_
  show G T5 (mkF m 50 #[.val (.long p0), .second, .val (.long p1), .second, .val (.long (own_seed p0 p1)), .second, .val (.long (own_seed p0 (0 : Int64))), .second, .val (.long (own_unmix (own_seed p0 (0 : Int64)))), .second, .val (.int (1 : Int32)), .unset] [(.long (-7046029254386353131 : Int64)), (.long p1), (.long ((own_unmix (own_seed p0 p1)) - (own_unmix (own_seed p0 (0 : Int64)))))])
  refine hp (fun tq kq => XS.lmul X5.here hx rfl (hb hby at_50) rfl kq) ?_
  show G T5 (mkF m 51 #[.val (.long p0), .second, .val (.long p1), .second, .val (.long (own_seed p0 p1)), .second, .val (.long (own_seed p0 (0 : Int64))), .second, .val (.long (own_unmix (own_seed p0 (0 : Int64)))), .second, .val (.int (1 : Int32)), .unset] [(.long (p1 * (-7046029254386353131 : Int64))), (.long ((own_unmix (own_seed p0 p1)) - (own_unmix (own_seed p0 (0 : Int64)))))])
  refine hp (fun tq kq => XS.lcmp X5.here hx rfl (hb hby at_51) rfl kq) ?_
  show G T5 (mkF m 52 #[.val (.long p0), .second, .val (.long p1), .second, .val (.long (own_seed p0 p1)), .second, .val (.long (own_seed p0 (0 : Int64))), .second, .val (.long (own_unmix (own_seed p0 (0 : Int64)))), .second, .val (.int (1 : Int32)), .unset] [(.int (lcmpW ((own_unmix (own_seed p0 p1)) - (own_unmix (own_seed p0 (0 : Int64)))) (p1 * (-7046029254386353131 : Int64))))])
  refine hp (fun tq kq => XS.ifNo X5.here hx rfl (hb hby at_52) rfl ((if0 _ _).trans (teq ((lw_eq _ _).mpr (own_two _ _))).2) kq) ?_
  show G T5 (mkF m 55 #[.val (.long p0), .second, .val (.long p1), .second, .val (.long (own_seed p0 p1)), .second, .val (.long (own_seed p0 (0 : Int64))), .second, .val (.long (own_unmix (own_seed p0 (0 : Int64)))), .second, .val (.int (1 : Int32)), .unset] [])
  refine hp (fun tq kq => XS.iconst X5.here hx rfl (hb hby at_55) kq) ?_
  show G T5 (mkF m 56 #[.val (.long p0), .second, .val (.long p1), .second, .val (.long (own_seed p0 p1)), .second, .val (.long (own_seed p0 (0 : Int64))), .second, .val (.long (own_unmix (own_seed p0 (0 : Int64)))), .second, .val (.int (1 : Int32)), .unset] [(.int (1 : Int32))])
  refine hp (fun tq kq => XS.goto X5.here hx rfl (pc0 := 56) (pc' := 60) rfl (hb hby at_56) (by decide) (by decide) kq) ?_
  show G T5 (mkF m 60 #[.val (.long p0), .second, .val (.long p1), .second, .val (.long (own_seed p0 p1)), .second, .val (.long (own_seed p0 (0 : Int64))), .second, .val (.long (own_unmix (own_seed p0 (0 : Int64)))), .second, .val (.int (1 : Int32)), .unset] [(.int (1 : Int32))])
  refine hp (fun tq kq => XS.istore X5.here hx rfl (hb hby at_60) rfl (l' := #[.val (.long p0), .second, .val (.long p1), .second, .val (.long (own_seed p0 p1)), .second, .val (.long (own_seed p0 (0 : Int64))), .second, .val (.long (own_unmix (own_seed p0 (0 : Int64)))), .second, .val (.int (1 : Int32)), .val (.int (1 : Int32))]) rfl kq) ?_
  show G T5 (mkF m 62 #[.val (.long p0), .second, .val (.long p1), .second, .val (.long (own_seed p0 p1)), .second, .val (.long (own_seed p0 (0 : Int64))), .second, .val (.long (own_unmix (own_seed p0 (0 : Int64)))), .second, .val (.int (1 : Int32)), .val (.int (1 : Int32))] [])
  refine hp (fun tq kq => XS.iload X5.here hx rfl (hb hby at_62) rfl kq) ?_
  show G T5 (mkF m 64 #[.val (.long p0), .second, .val (.long p1), .second, .val (.long (own_seed p0 p1)), .second, .val (.long (own_seed p0 (0 : Int64))), .second, .val (.long (own_unmix (own_seed p0 (0 : Int64)))), .second, .val (.int (1 : Int32)), .val (.int (1 : Int32))] [(.int (1 : Int32))])
  refine hp (fun tq kq => XS.ifNo X5.here hx rfl (hb hby at_64) rfl ((if0 _ _).trans (feq (by decide)).1) kq) ?_
  show G T5 (mkF m 67 #[.val (.long p0), .second, .val (.long p1), .second, .val (.long (own_seed p0 p1)), .second, .val (.long (own_seed p0 (0 : Int64))), .second, .val (.long (own_unmix (own_seed p0 (0 : Int64)))), .second, .val (.int (1 : Int32)), .val (.int (1 : Int32))] [])
  refine hp (fun tq kq => XS.iload X5.here hx rfl (hb hby at_67) rfl kq) ?_
  show G T5 (mkF m 69 #[.val (.long p0), .second, .val (.long p1), .second, .val (.long (own_seed p0 p1)), .second, .val (.long (own_seed p0 (0 : Int64))), .second, .val (.long (own_unmix (own_seed p0 (0 : Int64)))), .second, .val (.int (1 : Int32)), .val (.int (1 : Int32))] [(.int (1 : Int32))])
  refine hp (fun tq kq => XS.ifNo X5.here hx rfl (hb hby at_69) rfl ((if0 _ _).trans (feq (by decide)).1) kq) ?_
  show G T5 (mkF m 72 #[.val (.long p0), .second, .val (.long p1), .second, .val (.long (own_seed p0 p1)), .second, .val (.long (own_seed p0 (0 : Int64))), .second, .val (.long (own_unmix (own_seed p0 (0 : Int64)))), .second, .val (.int (1 : Int32)), .val (.int (1 : Int32))] [])
  refine hp (fun tq kq => XS.iconst X5.here hx rfl (hb hby at_72) kq) ?_
  show G T5 (mkF m 73 #[.val (.long p0), .second, .val (.long p1), .second, .val (.long (own_seed p0 p1)), .second, .val (.long (own_seed p0 (0 : Int64))), .second, .val (.long (own_unmix (own_seed p0 (0 : Int64)))), .second, .val (.int (1 : Int32)), .val (.int (1 : Int32))] [(.int (1 : Int32))])
  refine hp (fun tq kq => XS.goto X5.here hx rfl (pc0 := 73) (pc' := 77) rfl (hb hby at_73) (by decide) (by decide) kq) ?_
  show G T5 (mkF m 77 #[.val (.long p0), .second, .val (.long p1), .second, .val (.long (own_seed p0 p1)), .second, .val (.long (own_seed p0 (0 : Int64))), .second, .val (.long (own_unmix (own_seed p0 (0 : Int64)))), .second, .val (.int (1 : Int32)), .val (.int (1 : Int32))] [(.int (1 : Int32))])
  exact hR X5 (fun fs hl => retN X5 hx (t := .boolean) hret (by simp) (hb hby at_77) hl) (fun q => by rw [hret] at q; cases q) ⟨rfl, F5⟩ (by decide) (by decide)
set_option maxRecDepth 65536 in
set_option maxHeartbeats 40000000 in
theorem comes_1 {Post : Tables → Env → Array Value → State → Outcome → State → Prop} (hpost : ∀ tb e args s v u, (limb_1_1.after args s (.returned v) u = true ∧ limb_1_2.after args s (.returned v) u = true ∧ True) → FrameEnd s (.returned v) u (Jvm.fieldLocs frame_1_writes args s ++ Jvm.arrayLocs frame_1_arrays args s ++ Jvm.staticLocs frame_1_statics s) 0 0 → Post tb e args s (.returned v) u) :
    ArmFor flags0 classFile x code maxLocals ret World_1 tables_1 room_1 Calls_1 rest_1 Pre_1 Post := by
  intro l hfl _ _ p e ha hc hk s m args below hf hA hF happ hP
  obtain ⟨hcalls, hrest, hpre⟩ := hP
  obtain ⟨-, -, -, hnamed, -, -, -, hat⟩ := (Spec.applies_iff hf).mp happ
  obtain ⟨hg, hn⟩ := and_e (Cond.before_iff.mp (show (Jvm.Cond.and given_1 narrow_1).before args s = true from hpre))
  obtain ⟨hcnt, hgs⟩ := and_e hg
  obtain ⟨ha0, hgs⟩ := and_e hgs
  have ha1 := hgs
  obtain ⟨w0, w1, rfl⟩ : ∃ w0 w1 : Value, args = #[w0, w1] := by
    have hs : args.size = 2 := by simpa [Cond.value, given_1] using hcnt
    obtain ⟨L⟩ := args
    match L, hs with
    | [w0, w1], _ => exact ⟨w0, w1, rfl⟩
  have hw := fun d (hd : d ∈ tables_1) => atoms_spec (ws := Jvm.Cond.code x code maxLocals ret :: tables_1) hat d (List.mem_cons_of_mem _ hd)
  obtain ⟨i0, ei0⟩ := isL_v ha0
  obtain rfl : w0 = (.long i0) := Option.some.inj ei0
  obtain ⟨i1, ei1⟩ := isL_v ha1
  obtain rfl : w1 = (.long i1) := Option.some.inj ei1
  obtain ⟨n, o, h1, h2, h3, _, L, rfl, ⟨rfl, N⟩, hq⟩ := rm0 l s _ hw tables_1 i0 i1 s.heap s.heap.size p e ha hc hk s m _ below hf ((Spec.applies_iff_loose hf).mp happ).1 ⟨rfl, State.Warmed39.refl s, rfl⟩ trivial
  exact ⟨n, _, h1, h2, h3, hpost _ _ _ _ _ _ ⟨Cond.after_iff.mpr rfl, Cond.after_iff.mpr (eq_i res_at (Term.int_eval (1)) rfl), trivial⟩ ⟨hq.1, hq.2.1, (hq.2.2.sift fun y hy => Or.inr (N y hy)).mono (by decide) (by decide)⟩⟩
theorem main_1_1 : Claimed_1_1 := comes_1 fun _ _ _ _ _ _ h hF => ⟨h.1, hF⟩
theorem main_1_2 : Claimed_1_2 := comes_1 fun _ _ _ _ _ _ h hF => ⟨h.2.1, hF⟩
end Jvm.Pilot.@@N@@
namespace Jvm.Pilot.@@N@@
open Jvm Jvm.ClassFile Sem Op Lib Jvm.Free Jvm.Stand Jvm.Pilot.@@N@@.Jvm.D
/-! MADE BY PROGRAM (witnessworld.py) out of the Statement's table words and the real class files: 9 classes; the members and pool entries that the words name. The judged class is class 1, her method 2. -/
namespace start1
open Jvm.ClassFile
def u (s : String) : CpInfo := .utf8 (stringToUtf16 s)
/-- a pool by its gaps: so many unusable entries, then the entry; so many at the end -/
def gap : Nat → List CpInfo → List CpInfo
  | 0, r => r
  | n + 1, r => .unusable :: gap n r
def poolList (es : List (Nat × CpInfo)) (last : Nat) : List CpInfo := es.foldr (fun e r => gap e.1 (e.2 :: r)) (gap last [])
def pool (es : List (Nat × CpInfo)) (last : Nat) : Array CpInfo := ⟨poolList es last⟩
def fileOf (pool : Array CpInfo) (this : Nat) (attrs : Array Attribute := #[]) (ms : Array MethodInfo := #[]) (fl : Nat := 33) (sup : Nat := 0) (ifs : Array Nat := #[]) (fds : Array FieldInfo := #[]) : ClassFile where
  minorVersion := 0
  majorVersion := 65
  constantPool := pool
  accessFlags := fl
  thisClass := this
  superClass := sup
  interfaces := ifs
  fields := fds
  methods := ms
  attributes := attrs
def plain (name : String) (sup : Option ClassId) : Class where
  name := name
  kind := .ordinary
  loader := none
  accessFlags := 33
  super := sup
  interfaces := #[]
  cf := none
  fields := #[]
  methods := #[]
  instanceTypes := #[]
  staticTypes := #[]
  resolved := #[]
  callSites := []
  init := .initialized
  statics := none
  mirror := none

def pool0 : Array CpInfo := pool [(5, u "<init>"), (0, u "()V"), (1, .class_ 10), (1, u "java/lang/Object")] 113

def k0m0 : Method := { name := "<init>", desc := "()V", sig := { parameters := [], returnType := none }, accessFlags := 1, code := none }
/-- java/lang/Object -/
def k0 : Class := { plain "java/lang/Object" none with
  accessFlags := 33
  interfaces := #[]
  cf := some (fileOf pool0 8 #[] #[{ accessFlags := 1, nameIndex := 5, descriptorIndex := 6, attributes := #[] }] 33 0 #[] #[])
  fields := #[]
  methods := #[k0m0]
  instanceTypes := #[]
  staticTypes := #[]
  resolved := Array.replicate 124 none
  statics := none }

def pool1 : Array CpInfo := pool [(2, .class_ 4), (1, u "java/lang/Object"), (0, u "<init>"), (0, u "()V"), (0, .long 3573116690164977347), (1, .long 10871156337175269513), (1, .methodref 12 13), (0, .class_ 14), (0, .nameAndType 15 16), (0, u "com/example/slabwarden/slabwarden/verify/FillPattern"), (0, u "seed"), (0, u "(JJ)J"), (0, .methodref 18 19), (0, .class_ 20), (0, .nameAndType 21 22), (0, u "com/example/slabwarden/slabwarden/verify/FillPatternSeedPinLaw"), (0, u "unmix"), (0, u "(J)J"), (0, .long 11400714819323198485), (1, u "GAMMA"), (0, u "J"), (3, u "law"), (0, u "(JJ)Z")] 3

def k1m0 : Method := { name := "<init>", desc := "()V", sig := { parameters := [], returnType := none }, accessFlags := 2, code := none }
def k1c1 : Code := { maxStack := 5, maxLocals := 2, code := method_2_code, exceptionTable := #[], attributes := #[] }
def k1m1 : Method := { name := "unmix", desc := "(J)J", sig := { parameters := [.long], returnType := some .long }, accessFlags := 10, code := some k1c1 }
def k1c2 : Code := { maxStack := 6, maxLocals := 12, code := code, exceptionTable := #[], attributes := #[] }
def k1m2 : Method := { name := "law", desc := "(JJ)Z", sig := { parameters := [.long, .long], returnType := some .boolean }, accessFlags := 9, code := some k1c2 }
/-- com/example/slabwarden/slabwarden/verify/FillPatternSeedPinLaw -/
def k1 : Class := { plain "com/example/slabwarden/slabwarden/verify/FillPatternSeedPinLaw" (some 0) with
  accessFlags := 49
  interfaces := #[]
  cf := some (fileOf pool1 18 #[] #[{ accessFlags := 2, nameIndex := 5, descriptorIndex := 6, attributes := #[] }, { accessFlags := 10, nameIndex := 21, descriptorIndex := 22, attributes := #[] }, { accessFlags := 9, nameIndex := 30, descriptorIndex := 31, attributes := #[] }] 49 2 #[] #[{ accessFlags := 26, nameIndex := 25, descriptorIndex := 26, attributes := #[] }])
  fields := #[{ name := "GAMMA", type := .long, accessFlags := 26, slot := 0, constantValue := 0 }]
  methods := #[k1m0, k1m1, k1m2]
  instanceTypes := #[]
  staticTypes := #[.long]
  resolved := Array.replicate 35 none
  statics := none }

def pool2 : Array CpInfo := pool [(2, .class_ 4), (1, u "java/lang/Object"), (0, u "<init>"), (0, u "()V"), (0, .methodref 8 9), (0, .class_ 10), (0, .nameAndType 11 12), (0, u "com/example/slabwarden/slabwarden/verify/FillPattern"), (0, u "mix"), (0, u "(J)J"), (0, .long 11400714819323198485), (45, .long 13787848793156543929), (1, .long 10723151780598845931), (1, u "GOLDEN_GAMMA"), (0, u "J"), (3, u "seed"), (0, u "(JJ)J")] 7

def k2m0 : Method := { name := "<init>", desc := "()V", sig := { parameters := [], returnType := none }, accessFlags := 2, code := none }
def k2c1 : Code := { maxStack := 6, maxLocals := 4, code := prog_66_method_2_code, exceptionTable := #[], attributes := #[] }
def k2m1 : Method := { name := "seed", desc := "(JJ)J", sig := { parameters := [.long, .long], returnType := some .long }, accessFlags := 9, code := some k2c1 }
def k2c2 : Code := { maxStack := 5, maxLocals := 2, code := prog_66_method_7_code, exceptionTable := #[], attributes := #[] }
def k2m2 : Method := { name := "mix", desc := "(J)J", sig := { parameters := [.long], returnType := some .long }, accessFlags := 10, code := some k2c2 }
/-- com/example/slabwarden/slabwarden/verify/FillPattern -/
def k2 : Class := { plain "com/example/slabwarden/slabwarden/verify/FillPattern" (some 0) with
  accessFlags := 49
  interfaces := #[]
  cf := some (fileOf pool2 8 #[] #[{ accessFlags := 2, nameIndex := 5, descriptorIndex := 6, attributes := #[] }, { accessFlags := 9, nameIndex := 68, descriptorIndex := 69, attributes := #[] }, { accessFlags := 10, nameIndex := 11, descriptorIndex := 12, attributes := #[] }] 49 2 #[] #[{ accessFlags := 26, nameIndex := 63, descriptorIndex := 64, attributes := #[] }])
  fields := #[{ name := "GOLDEN_GAMMA", type := .long, accessFlags := 26, slot := 0, constantValue := 0 }]
  methods := #[k2m0, k2m1, k2m2]
  instanceTypes := #[]
  staticTypes := #[.long]
  resolved := Array.replicate 77 none
  statics := none }

def pool3 : Array CpInfo := pool [(1, u "java/lang/Cloneable"), (0, .class_ 1), (0, u "java/lang/Object"), (0, .class_ 3)] 3

/-- java/lang/Cloneable -/
def k3 : Class := { plain "java/lang/Cloneable" (some 0) with
  accessFlags := 1537
  interfaces := #[]
  cf := some (fileOf pool3 2 #[] #[] 1537 4 #[] #[])
  fields := #[]
  methods := #[]
  instanceTypes := #[]
  staticTypes := #[]
  resolved := Array.replicate 8 none
  statics := none }

def pool4 : Array CpInfo := pool [(1, u "java/io/Serializable"), (0, .class_ 1), (0, u "java/lang/Object"), (0, .class_ 3)] 3

/-- java/io/Serializable -/
def k4 : Class := { plain "java/io/Serializable" (some 0) with
  accessFlags := 1537
  interfaces := #[]
  cf := some (fileOf pool4 2 #[] #[] 1537 4 #[] #[])
  fields := #[]
  methods := #[]
  instanceTypes := #[]
  staticTypes := #[]
  resolved := Array.replicate 8 none
  statics := none }

/-- the primitive byte -/
def k5 : Class := { plain "byte" none with kind := .primitive 'B', accessFlags := 0x411 }
/-- [B -/
def k6 : Class := { plain "[B" (some 0) with kind := .array 5 .byte, interfaces := #[3, 4], accessFlags := 1041 }

/-- the primitive int -/
def k7 : Class := { plain "int" none with kind := .primitive 'I', accessFlags := 0x411 }
/-- [I -/
def k8 : Class := { plain "[I" (some 0) with kind := .array 7 .int, interfaces := #[3, 4], accessFlags := 1041 }

def heap : Heap := #[]
def classes : Array Class := #[k0, k1, k2, k3, k4, k5, k6, k7, k8]
def interned : List (Array UInt16 × Addr) := []
def slotsUsed : Nat := 0
def theMethod : MethodId := ⟨1, 2⟩
def args0 : Array Value := #[.long 5, .long 3]
def aboutOver (below : List Frame) : State where
  vm := { classes := classes, interned := interned.toArray }
  heap := heap
  slotsUsed := slotsUsed
  threads := #[{ frames := .invoking theMethod args0 :: below }]
def below0 : List Frame := [.native { method := ⟨0, 0⟩, args := #[] }]
def about1 : State := aboutOver below0
def p0 : Program := .bare "" "" ""
def e0 : Env := launch0.env 0 0 0
theorem w_frames : about1.frames = Frame.invoking theMethod args0 :: below0 := rfl
set_option maxRecDepth 65536 in
theorem w_args : argsFit about1.vm theMethod args0 = true := by decide +kernel
set_option maxRecDepth 65536 in
theorem w_heap : heapFits about1 = true := by decide +kernel
set_option maxRecDepth 65536 in
theorem w_runnable : about1.curStatus? = some .runnable := by decide +kernel
set_option maxRecDepth 65536 in
theorem w_alone : about1.alone = true := by decide +kernel
set_option maxRecDepth 65536 in
theorem w_named : about1.methodNamed? x = some theMethod := by decide +kernel
set_option maxRecDepth 65536 in
theorem w_hears : about1.hears theMethod below0 = true := by decide +kernel
set_option maxRecDepth 65536 in
theorem w_ripe : about1.ripe theMethod args0 below0 = true := by decide +kernel
theorem w_running : about1.status = .running := rfl
set_option maxRecDepth 65536 in
theorem w_room : about1.hasRoom e0.platform room_1 = true :=
  launch0.hasRoom_least _ room_1 (by decide +kernel) (by decide +kernel) (by decide +kernel) (by decide +kernel) (by decide +kernel) (by decide +kernel)
theorem allAtoms_all (ts : List Jvm.Cond) (a : Array Jvm.Value) (st : Jvm.State) : (allAtoms ts).before a st = ts.all (fun c => c.before a st) := by
  induction ts with
  | nil => rfl
  | cons c t ih =>
    show (Jvm.Cond.and c (allAtoms t)).before a st = _
    rw [Jvm.Cond.before_and, ih, List.all_cons]
def words1 : List Jvm.Cond := Jvm.Cond.code x code maxLocals ret :: tables_1
/-- a 'code' word, met by the world's own term for the bytes: nothing is compared byte by byte -/
theorem code_word {y : MethodName} {bytes : ByteArray} {mx : Nat} {rt : Option FieldType} {a : Array Value} {s : State} {m : MethodId} {meth : Method} {c : Code} (h1 : s.methodNamed? y = some m) (h2 : s.vm.method? m = some meth) (h3 : meth.code = some c) (h4 : c.code = bytes)
    (h5 : (c.maxLocals == mx && c.exceptionTable.isEmpty && decide (c.maxStack ≤ mostOperands) && decide (meth.sig.returnType = rt) && !meth.locks && decide (parseMethodDescriptor y.desc = some meth.sig)) = true) : (Jvm.Cond.code y bytes mx rt).before a s = true := by
  simp only [Bool.and_eq_true, beq_iff_eq, Bool.not_eq_true', decide_eq_true_eq] at h5
  obtain ⟨⟨⟨⟨⟨g1, g2⟩, g3⟩, g4⟩, g5⟩, g6⟩ := h5
  simp [Cond.before, Cond.holds, Cond.value, h1, h2, h3, h4, g1, g2, g3, g4, g5, g6]
def isCode : Jvm.Cond → Bool
  | .code _ _ _ _ => true
  | _ => false
theorem all_split {L : List Jvm.Cond} {P : Jvm.Cond → Bool} (h1 : L.all (fun c => isCode c || P c) = true) (h2 : ∀ c ∈ L.filter isCode, P c = true) : L.all P = true := by
  refine List.all_eq_true.mpr fun c hc => ?_
  have h := List.all_eq_true.mp h1 c hc
  rcases Bool.eq_false_or_eq_true (isCode c) with hi | hi
  · exact h2 c (List.mem_filter.mpr ⟨hc, hi⟩)
  · simpa [hi] using h
set_option maxRecDepth 65536 in
theorem w_c0 : (Jvm.Cond.code x code maxLocals ret).before args0 about1 = true := code_word (m := ⟨1, 2⟩) (meth := k1m2) (c := k1c2) (by decide +kernel) rfl rfl rfl (by decide +kernel)
set_option maxRecDepth 65536 in
theorem w_c1 : (Jvm.Cond.code ({ cls := "com/example/slabwarden/slabwarden/verify/FillPattern", name := "seed", desc := "(JJ)J" } : Jvm.MethodName) prog_66_method_2_code (4 : Nat) (Option.some Jvm.ClassFile.FieldType.long)).before args0 about1 = true := code_word (m := ⟨2, 1⟩) (meth := k2m1) (c := k2c1) (by decide +kernel) rfl rfl rfl (by decide +kernel)
set_option maxRecDepth 65536 in
theorem w_c2 : (Jvm.Cond.code ({ cls := "com/example/slabwarden/slabwarden/verify/FillPattern", name := "mix", desc := "(J)J" } : Jvm.MethodName) prog_66_method_7_code (2 : Nat) (Option.some Jvm.ClassFile.FieldType.long)).before args0 about1 = true := code_word (m := ⟨2, 2⟩) (meth := k2m2) (c := k2c2) (by decide +kernel) rfl rfl rfl (by decide +kernel)
set_option maxRecDepth 65536 in
theorem w_c3 : (Jvm.Cond.code ({ cls := "com/example/slabwarden/slabwarden/verify/FillPatternSeedPinLaw", name := "unmix", desc := "(J)J" } : Jvm.MethodName) method_2_code (2 : Nat) (Option.some Jvm.ClassFile.FieldType.long)).before args0 about1 = true := code_word (m := ⟨1, 1⟩) (meth := k1m1) (c := k1c1) (by decide +kernel) rfl rfl rfl (by decide +kernel)
def codes1 : List Jvm.Cond := [Jvm.Cond.code x code maxLocals ret, Jvm.Cond.code ({ cls := "com/example/slabwarden/slabwarden/verify/FillPattern", name := "seed", desc := "(JJ)J" } : Jvm.MethodName) prog_66_method_2_code (4 : Nat) (Option.some Jvm.ClassFile.FieldType.long), Jvm.Cond.code ({ cls := "com/example/slabwarden/slabwarden/verify/FillPattern", name := "mix", desc := "(J)J" } : Jvm.MethodName) prog_66_method_7_code (2 : Nat) (Option.some Jvm.ClassFile.FieldType.long), Jvm.Cond.code ({ cls := "com/example/slabwarden/slabwarden/verify/FillPatternSeedPinLaw", name := "unmix", desc := "(J)J" } : Jvm.MethodName) method_2_code (2 : Nat) (Option.some Jvm.ClassFile.FieldType.long)]
set_option maxRecDepth 65536 in
theorem codes_eq : words1.filter isCode = codes1 := rfl
theorem w_codes : ∀ c ∈ words1.filter isCode, c.before args0 about1 = true := by
  rw [codes_eq]
  intro c hc
  simp only [codes1, List.mem_cons, List.not_mem_nil, or_false] at hc
  rcases hc with rfl | rfl | rfl | rfl
  · exact w_c0
  · exact w_c1
  · exact w_c2
  · exact w_c3
set_option maxRecDepth 65536 in
theorem w_t1 : words1.all (fun c => isCode c || c.before args0 about1) = true := by decide +kernel
theorem w_tables : (allAtoms (Jvm.Cond.code x code maxLocals ret :: tables_1)).before args0 about1 = true := by
  rw [allAtoms_all]
  show words1.all (fun c => c.before args0 about1) = true
  refine all_split ?_ w_codes
  rw [w_t1]
set_option maxRecDepth 65536 in
theorem w_case : (Jvm.Cond.and given_1 narrow_1).before args0 about1 = true := by decide +kernel
theorem w_applies : (headSpec (Jvm.Cond.code x code maxLocals ret :: tables_1) room_1).applies x e0.platform about1 = true :=
  (Spec.applies_iff w_frames).mpr ⟨w_running, w_runnable, w_alone, w_named, w_hears, w_ripe, w_room, w_tables⟩
theorem atStart : AtStart classFile x code maxLocals ret World_1 tables_1 room_1 Calls_1 rest_1 Pre_1 launch0 p0 e0 about1 theMethod args0 below0 :=
  ⟨lists_1, trivial, launch0.admits_env _ _ _, launch0.least_env, fairChoices_fair.cas, fairChoices_fair.clock, w_frames, w_args, w_heap, w_applies, trivial, trivial, w_case⟩
end start1
theorem witness_1 : WitnessClaimed_1 := ⟨start1.p0, start1.e0, start1.about1, start1.theMethod, start1.args0, start1.below0, start1.atStart⟩
end Jvm.Pilot.@@N@@
