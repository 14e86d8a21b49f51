import JvmDerived
import JvmDerived.Pilot.@@N@@Statement
import JvmDerived.Pilot.@@N@@Code
set_option linter.unusedVariables false
set_option linter.unusedSimpArgs false
namespace Jvm.RoadKit
open Sem ClassFile Op Lib Jvm.Stand Jvm.Free Jvm.LawKit
section New
variable {p : Program} {l : Launch} {e : Env} {R : Room} {s : State} {m : MethodId} {args : Array Value} {below : List Frame} {meth : Method} {c : Code} {T : State} {locs : List Loc} {cells slots : Nat}
theorem retI (X : Stand p l e R s m args below meth c T locs cells slots) (hx : p.tables.exec = Jvm.exec) {pc : Nat} {Ls : Array Slot} {z : Int32} {rest : List Value} (hret : meth.sig.returnType = some .int) (hd : decode c.code pc = .ok (.ireturn, 1)) {fs : List Frame}
    (hl : ∀ (f : JFrame) (acts : List Action), f.method = m → f.locked = none → f.entered = [] → (doReturn e (T.setTop f) acts (some (.int z))).1 = T.setFrames fs) : Steps p.tables e below (T.setTop (mkF m pc Ls (.int z :: rest))) (T.setFrames fs) := by
  have hm' : T.vm.method? m = some meth := X.method'
  have hn : narrow .int (.int z) = .int z := rfl
  show Steps p.tables e below (T.setTop { method := m, pc := pc, locals := Ls, stack := _ :: rest, locked := none }) _
  jvm_step X.here [X.here.top, hx, hd, hm', hret, hn]
  first | (intro acts; rw [hl _ acts rfl rfl rfl]) | rw [hl _ _ rfl rfl rfl]
  exact Steps.refl _
end New
end Jvm.RoadKit
namespace Jvm.Pilot.@@N@@
open Jvm Jvm.ClassFile Sem Op Lib Jvm.Free Jvm.Stand Jvm.LawKit Jvm.RoadKit Bundle Jvm.Pilot.@@N@@.Jvm.D
/-! 1. own frame of the walks: a goal 'G T f' says: from the state T with the top frame f the body comes to its end as its contract says. G is kept opaque in a walk: own_Pre steps it back, own_Ret ends it. -/
abbrev own_Pre (p : Program) (e : Env) (below : List Frame) (G : State → JFrame → Prop) : Prop :=
  ∀ {T T2 : State} {f f2 : JFrame}, (∀ t, Steps p.tables e below (T2.setTop f2) t → Steps p.tables e below (T.setTop f) t) → G T2 f2 → G T f
abbrev own_Lv (p : Program) (e : Env) (below : List Frame) (m : MethodId) (T : State) (f : JFrame) (v : Option Value) : Prop :=
  ∀ fs, (∀ (f : JFrame) (acts : List Action), f.method = m → f.locked = none → f.entered = [] → (doReturn e (T.setTop f) acts v).1 = T.setFrames fs) → Steps p.tables e below (T.setTop f) (T.setFrames fs)
abbrev own_Ret (p : Program) (l : Launch) (e : Env) (R : Room) (s : State) (m : MethodId) (as' : Array Value) (below : List Frame) (meth : Method) (c : Code) (Q : Option Value → Heap → List Loc → Prop) (C S : Nat) (G : State → JFrame → Prop) : Prop :=
  ∀ {T : State} {locs : List Loc} {cells slots : Nat} {f : JFrame} {v : Option Value}, Stand p l e R s m as' below meth c T locs cells slots → own_Lv p e below m T f v → (meth.sig.returnType = none → v = none) → Q v T.heap locs → cells ≤ C → slots ≤ S → G T f
theorem own_contract {l : Launch} {Z : State} {y : MethodName} {bytes : ByteArray} {maxL : Nat} {ret : Option FieldType} {ws : List Jvm.Cond} {rm : Room} {as' : Array Value} {h0 : Heap} {Q : Option Value → Heap → List Loc → Prop} {Ls : Array Slot}
    (hpl : plainFor y = true) (hef : ∀ m, entryFrame m as' maxL = mkF m 0 Ls [])
    (H : ∀ (p : Program) (e : Env) (s : State) (m : MethodId) (below : List Frame) (meth : Method) (c : Code) (s₁ : State) (G : State → JFrame → Prop),
      p.tables.exec = Jvm.exec → c.code = bytes → c.maxLocals = maxL → s.vm.findClass y.cls = some m.cls → meth.name = y.name → meth.sig.returnType = ret → Z.Warmed39 s.vm →
      Stand p l e rm s m as' below meth c s₁ [] 0 0 → s₁.heap = h0 → own_Pre p e below G → own_Ret p l e rm s m as' below meth c Q rm.cells rm.slots G → G s₁ (mkF m 0 Ls [])) :
    MetFree l y (head1 (Jvm.Cond.code y bytes maxL ret :: ws) rm) (fun a U => a = as' ∧ Z.Warmed39 U.vm ∧ U.heap = h0) (fun _ _ _ _ _ => True) (fun _ U o U' => ∃ v L, o = .returned v ∧ Q v U'.heap L ∧ FrameEnd U o U' L rm.cells rm.slots) := by
  refine MetFree.of_bodySF hpl hisR ?_
  intro p e s m args below meth c s₁ Bd hml0 hP hK
  obtain ⟨rfl, hZ, hh⟩ := hP
  have X0 : Stand p l e rm s m args below meth c s₁ [] 0 0 := Stand.of_body Bd
  have e0 : s₁.heap = h0 := by rw [← hh, Bd.state]; rfl
  obtain ⟨T', locs, cells, slots, v, X, hst, hv, hQ, hc, hs⟩ := H p e s m below meth c s₁
    (fun T f => ∃ (T' : State) (locs : List Loc) (cells slots : Nat) (v : Option Value), Stand p l e rm s m args below meth c T' locs cells slots ∧
      (∀ fs, (∀ (f : JFrame) (acts : List Action), f.method = m → f.locked = none → f.entered = [] → (doReturn e (T'.setTop f) acts v).1 = T'.setFrames fs) → Steps p.tables e below (T.setTop f) (T'.setFrames fs)) ∧
      (meth.sig.returnType = none → v = none) ∧ Q v T'.heap locs ∧ cells ≤ rm.cells ∧ slots ≤ rm.slots)
    Bd.exec Bd.bytes hml0 (findClass_of_methodNamed Bd.named) (name_of_methodNamed Bd.named Bd.method).1 Bd.returns hZ X0 e0
    (fun {T T2 f f2} hs hG => by
      obtain ⟨T', locs, cells, slots, v, X, hst, r⟩ := hG
      exact ⟨T', locs, cells, slots, v, X, fun fs hl => hs _ (hst fs hl), r⟩)
    (fun {T locs cells slots f v} X hl hv hQ hc hs => ⟨T, locs, cells, slots, v, X, hl, hv, hQ, hc, hs⟩)
  obtain ⟨fs, hr, hrun, hended, hW, hsame⟩ := X.leave hv Bd.notSynchronized
  exact ⟨_, _, castTop (hef m) (hst fs hr), hrun, hended, _, _, rfl, hQ, ⟨_, rfl⟩, hW, hsame.mono hc hs⟩
/-- what a body without a write says: its value, nothing old written, the heap as it was -/
abbrev own_Q (r : Option Value) (h0 : Heap) (n0 : Nat) (v : Option Value) (h : Heap) (L : List Loc) : Prop := v = r ∧ Fr n0 L ∧ h = h0
section Calls
variable {p : Program} {l : Launch} {e : Env} {R : Room} {s : State} {m : MethodId} {args : Array Value} {below : List Frame} {meth : Method} {c : Code} {T : State} {locs : List Loc} {cells slots : Nat} {Z : State} {a0 : Array Value} {h : Heap}
theorem own_callS (X : Stand p l e R s m args below meth c T locs cells slots) (hx : p.tables.exec = Jvm.exec) (hZ : Z.Warmed39 s.vm) {own : String} {index : Nat} {y : MethodName} {bytes : ByteArray} {maxL : Nat} {ret : Option FieldType} {rm : Room} {as' : Array Value} {Q : Option Value → Heap → List Loc → Prop}
    (W : Nat) (hown : s.vm.findClass own = some m.cls) (w1 : (Cond.methodLink own index y).before a0 Z = true) (w2 : (Cond.static y).before a0 Z = true) (w3 : (Cond.initialized y.cls).before a0 Z = true) (w4 : (Cond.code y bytes maxL ret).before a0 Z = true)
    (hy : y.cls ≠ "java/lang/invoke/MethodHandle" ∧ y.cls ≠ "java/lang/invoke/VarHandle")
    (hM : MetFree l y (head1 [Cond.code y bytes maxL ret] rm) (fun a U => a = as' ∧ Z.Warmed39 U.vm ∧ U.heap = h) (fun _ _ _ _ _ => True) (fun _ U o U' => ∃ v L, o = .returned v ∧ Q v U'.heap L ∧ FrameEnd U o U' L rm.cells rm.slots))
    (eT : T.heap = h) (hf : rm.frames + 1 ≤ R.frames) (hl : W + (maxL + 11) + rm.locals ≤ R.locals) {g : JFrame} (hg : g.method = m) (hsize : g.locals.size = c.maxLocals) (argsL rest : List Value) {ps : List FieldType} {r : Option FieldType}
    (hd : parseMethodDescriptor y.desc = some ⟨ps, r⟩) (hlen : argsL.length = ps.length) (hstack : g.stack = argsL.reverse ++ rest) (hW : 2 * g.monitorRoom + (rest.map fun v => v.category).sum ≤ W) (hdg : decode c.code g.pc = .ok (.invokestatic index, 3))
    (has : argsL.toArray = as') (hc : cells + rm.cells ≤ R.cells) (hs : slots + rm.slots ≤ R.slots) :
    ∃ (v : Option Value) (T' : State) (L : List Loc), Stand p l e R s m args below meth c T' (locs ++ L) (cells + rm.cells) (slots + rm.slots) ∧ Q v T'.heap L ∧
      ∀ t, Steps p.tables e below (T'.setTop { g with pc := g.pc + 3, stack := v.toList ++ rest }) t → Steps p.tables e below (T.setTop g) t := by
  obtain ⟨v, _, ⟨T', L', k', n'⟩, -, X', ⟨Lc, hQ, l', y', z'⟩, st⟩ := Jvm.LawKit.callS X hx (y := y) hown (mvT hZ w1) (mvT hZ w2) (mvT hZ w3) (mvT hZ w4) hy (backOf (W := W) hM hZ w4 w3 hf hl) hg hsize (argsL := argsL) (rest := rest) (lenOf hd hlen) hstack hW hdg (fun _ _ => ⟨has, eT, hc, hs⟩)
  dsimp only [Pt.U, Pt.locs, Pt.cells, Pt.slots] at X' l' y' z' st hQ
  subst l' y' z'
  exact ⟨v, T', Lc, X', hQ, st⟩
theorem own_callI (X : Stand p l e R s m args below meth c T locs cells slots) (hx : p.tables.exec = Jvm.exec) (hZ : Z.Warmed39 s.vm) {own : String} {index : Nat} {y : MethodName} {bytes : ByteArray} {maxL : Nat} {rm : Room} {as' : Array Value} {Q : Option Value → Heap → List Loc → Prop}
    (W : Nat) (hy1 : y.name = "<init>") (hown : s.vm.findClass own = some m.cls) (w1 : (Cond.methodLink own index y).before a0 Z = true) (w2 : (Cond.instanceMethod y).before a0 Z = true) (w3 : (Cond.initialized y.cls).before a0 Z = true) (w4 : (Cond.code y bytes maxL none).before a0 Z = true)
    (hy : y.cls ≠ "java/lang/invoke/MethodHandle" ∧ y.cls ≠ "java/lang/invoke/VarHandle")
    (hM : MetFree l y (head1 [Cond.code y bytes maxL none] rm) (fun a U => a = as' ∧ Z.Warmed39 U.vm ∧ U.heap = h) (fun _ _ _ _ _ => True) (fun _ U o U' => ∃ v L, o = .returned v ∧ Q v U'.heap L ∧ FrameEnd U o U' L rm.cells rm.slots))
    (eT : T.heap = h) (hf : rm.frames + 1 ≤ R.frames) (hl : W + (maxL + 11) + rm.locals ≤ R.locals) {g : JFrame} (hg : g.method = m) (hsize : g.locals.size = c.maxLocals) (a : Addr) (argsL rest : List Value) {ps : List FieldType} {r : Option FieldType}
    (hd : parseMethodDescriptor y.desc = some ⟨ps, r⟩) (hlen : argsL.length = ps.length) (hstack : g.stack = argsL.reverse ++ .ref a :: rest) (hW : 2 * g.monitorRoom + (rest.map fun v => v.category).sum ≤ W) (hdg : decode c.code g.pc = .ok (.invokespecial index, 3))
    (has : (.ref a :: argsL).toArray = as') (hc : cells + rm.cells ≤ R.cells) (hs : slots + rm.slots ≤ R.slots) :
    ∃ (v : Option Value) (T' : State) (L : List Loc), Stand p l e R s m args below meth c T' (locs ++ L) (cells + rm.cells) (slots + rm.slots) ∧ Q v T'.heap L ∧
      ∀ t, Steps p.tables e below (T'.setTop { g with pc := g.pc + 3, stack := v.toList ++ rest }) t → Steps p.tables e below (T.setTop g) t := by
  obtain ⟨v, _, ⟨T', L', k', n'⟩, -, X', ⟨Lc, hQ, l', y', z'⟩, st⟩ := X.specialBack hx (y := y) hy1 hown (mvT hZ w1) (mvT hZ w2) (mvT hZ w4) hy (backOf (W := W) hM hZ w4 w3 hf hl) hg hsize (Steps.refl _) (a := a) (argsL := argsL) (rest := rest) (lenOf hd hlen) hstack hW hdg (fun _ _ => ⟨has, eT, hc, hs⟩)
  dsimp only [Pt.U, Pt.locs, Pt.cells, Pt.slots] at X' l' y' z' st hQ
  subst l' y' z'
  exact ⟨v, T', Lc, X', hQ, fun t k => st.trans k⟩
theorem own_callV (X : Stand p l e R s m args below meth c T locs cells slots) (hx : p.tables.exec = Jvm.exec) (hZ : Z.Warmed39 s.vm) {own C : String} {index : Nat} {y : MethodName} {bytes : ByteArray} {maxL : Nat} {ret : Option FieldType} {rm : Room} {as' : Array Value} {Q : Option Value → Heap → List Loc → Prop}
    (W : Nat) (hown : s.vm.findClass own = some m.cls) (w1 : (Cond.methodLink own index y).before a0 Z = true) (w2 : (Cond.declares y).before a0 Z = true) (w3 : (Cond.selects C y y).before a0 Z = true) (w4 : (Cond.instanceMethod y).before a0 Z = true) (w5 : (Cond.initialized y.cls).before a0 Z = true) (w6 : (Cond.code y bytes maxL ret).before a0 Z = true)
    (hy : y.cls ≠ "java/lang/invoke/MethodHandle" ∧ y.cls ≠ "java/lang/invoke/VarHandle")
    (hM : MetFree l y (head1 [Cond.code y bytes maxL ret] rm) (fun a U => a = as' ∧ Z.Warmed39 U.vm ∧ U.heap = h) (fun _ _ _ _ _ => True) (fun _ U o U' => ∃ v L, o = .returned v ∧ Q v U'.heap L ∧ FrameEnd U o U' L rm.cells rm.slots))
    (eT : T.heap = h) {b : Addr} (E : Exa Z h b C) (hf : rm.frames + 1 ≤ R.frames) (hl : W + (maxL + 11) + rm.locals ≤ R.locals) {g : JFrame} (hg : g.method = m) (hsize : g.locals.size = c.maxLocals) (argsL rest : List Value) {ps : List FieldType} {r : Option FieldType}
    (hd : parseMethodDescriptor y.desc = some ⟨ps, r⟩) (hlen : argsL.length = ps.length) (hstack : g.stack = argsL.reverse ++ .ref b :: rest) (hW : 2 * g.monitorRoom + (rest.map fun v => v.category).sum ≤ W) (hdg : decode c.code g.pc = .ok (.invokevirtual index, 3))
    (has : (.ref b :: argsL).toArray = as') (hc : cells + rm.cells ≤ R.cells) (hs : slots + rm.slots ≤ R.slots) :
    ∃ (v : Option Value) (T' : State) (L : List Loc), Stand p l e R s m args below meth c T' (locs ++ L) (cells + rm.cells) (slots + rm.slots) ∧ Q v T'.heap L ∧
      ∀ t, Steps p.tables e below (T'.setTop { g with pc := g.pc + 3, stack := v.toList ++ rest }) t → Steps p.tables e below (T.setTop g) t := by
  obtain ⟨cq, kq, qa, qb, qc⟩ := isOf hZ eT E
  obtain ⟨v, _, ⟨T', L', k', n'⟩, -, X', ⟨Lc, hQ, l', y', z'⟩, st⟩ := X.virtualBack hx (y := y) (z := y) hown (mvT hZ w1) (mvT hZ w2) (notFace_of_selects (args := #[]) (mvT hZ w3)) (mvT hZ w3) (mvT hZ w4) hy (backOf (W := W) hM hZ w6 w5 hf hl) qa qc hg hsize (Steps.refl _) (argsL := argsL) (rest := rest) (lenOf hd hlen) hstack hW hdg (fun _ _ => ⟨has, eT, hc, hs⟩)
  dsimp only [Pt.U, Pt.locs, Pt.cells, Pt.slots] at X' l' y' z' st hQ
  subst l' y' z'
  exact ⟨v, T', Lc, X', hQ, fun t k => st.trans k⟩
end Calls
theorem own_lrem {tb : Tables} [Ours tb] {e : Env} {below : List Frame} {T target : State} {m : MethodId} {c : Code} {g : JFrame} (h : At T m c below) (hx : tb.exec = Jvm.exec) (hg : g.method = m) {x y : Int64} {rest : List Value} (hd : decode c.code g.pc = .ok (.lrem, 1)) (hs : g.stack = .long y :: .long x :: rest) (hy : y ≠ 0)
    (hr : Steps tb e below (T.setTop { g with pc := g.pc + 1, stack := .long (x % y) :: rest }) target) : Steps tb e below (T.setTop g) target := XS.lrem h hx hg hd hs hy (by rw [lrem_mod]; exact hr)
theorem own_pd0 : parseMethodDescriptor "(II)I" = some ⟨[.int, .int], some .int⟩ := by decide +kernel
theorem own_pd1 : parseMethodDescriptor "(I)Z" = some ⟨[.int], some .boolean⟩ := by decide +kernel
theorem d1_0 : decode method_3_code 0 = .ok (.iload_n 1, 1) := by decide +kernel
theorem d1_1 : decode method_3_code 1 = .ok (.bipush 7, 2) := by decide +kernel
theorem d1_3 : decode method_3_code 3 = .ok (.iand, 1) := by decide +kernel
theorem d1_4 : decode method_3_code 4 = .ok (.istore_n 2, 1) := by decide +kernel
theorem d1_5 : decode method_3_code 5 = .ok (.iload_n 2, 1) := by decide +kernel
theorem d1_6 : decode method_3_code 6 = .ok (.ifCond .ne 5, 3) := by decide +kernel
theorem d1_9 : decode method_3_code 9 = .ok (.iload_n 0, 1) := by decide +kernel
theorem d1_10 : decode method_3_code 10 = .ok (.ireturn, 1) := by decide +kernel
theorem d1_11 : decode method_3_code 11 = .ok (.iload_n 2, 1) := by decide +kernel
theorem d1_12 : decode method_3_code 12 = .ok (.iconst 1, 1) := by decide +kernel
theorem d1_13 : decode method_3_code 13 = .ok (.if_icmp .ne 6, 3) := by decide +kernel
theorem d1_16 : decode method_3_code 16 = .ok (.bipush 9, 2) := by decide +kernel
theorem d1_18 : decode method_3_code 18 = .ok (.ireturn, 1) := by decide +kernel
theorem d1_19 : decode method_3_code 19 = .ok (.iload_n 2, 1) := by decide +kernel
theorem d1_20 : decode method_3_code 20 = .ok (.iconst 2, 1) := by decide +kernel
theorem d1_21 : decode method_3_code 21 = .ok (.if_icmp .ne 6, 3) := by decide +kernel
theorem d1_24 : decode method_3_code 24 = .ok (.bipush 32, 2) := by decide +kernel
theorem d1_26 : decode method_3_code 26 = .ok (.ireturn, 1) := by decide +kernel
theorem d1_27 : decode method_3_code 27 = .ok (.iload_n 2, 1) := by decide +kernel
theorem d1_28 : decode method_3_code 28 = .ok (.iconst 3, 1) := by decide +kernel
theorem d1_29 : decode method_3_code 29 = .ok (.if_icmp .ne 10, 3) := by decide +kernel
theorem d1_32 : decode method_3_code 32 = .ok (.bipush 9, 2) := by decide +kernel
theorem d1_34 : decode method_3_code 34 = .ok (.iload_n 0, 1) := by decide +kernel
theorem d1_35 : decode method_3_code 35 = .ok (.iconst 5, 1) := by decide +kernel
theorem d1_36 : decode method_3_code 36 = .ok (.irem, 1) := by decide +kernel
theorem d1_37 : decode method_3_code 37 = .ok (.iadd, 1) := by decide +kernel
theorem d1_38 : decode method_3_code 38 = .ok (.ireturn, 1) := by decide +kernel
theorem d1_39 : decode method_3_code 39 = .ok (.iload_n 2, 1) := by decide +kernel
theorem d1_40 : decode method_3_code 40 = .ok (.iconst 4, 1) := by decide +kernel
theorem d1_41 : decode method_3_code 41 = .ok (.if_icmp .ne 10, 3) := by decide +kernel
theorem d1_44 : decode method_3_code 44 = .ok (.bipush 32, 2) := by decide +kernel
theorem d1_46 : decode method_3_code 46 = .ok (.iload_n 0, 1) := by decide +kernel
theorem d1_47 : decode method_3_code 47 = .ok (.iconst 5, 1) := by decide +kernel
theorem d1_48 : decode method_3_code 48 = .ok (.irem, 1) := by decide +kernel
theorem d1_49 : decode method_3_code 49 = .ok (.iadd, 1) := by decide +kernel
theorem d1_50 : decode method_3_code 50 = .ok (.ireturn, 1) := by decide +kernel
theorem d1_51 : decode method_3_code 51 = .ok (.iload_n 2, 1) := by decide +kernel
theorem d1_52 : decode method_3_code 52 = .ok (.iconst 5, 1) := by decide +kernel
theorem d1_53 : decode method_3_code 53 = .ok (.if_icmp .ne 8, 3) := by decide +kernel
theorem d1_56 : decode method_3_code 56 = .ok (.iload_n 0, 1) := by decide +kernel
theorem d1_57 : decode method_3_code 57 = .ok (.ldc 23, 2) := by decide +kernel
theorem d1_59 : decode method_3_code 59 = .ok (.iand, 1) := by decide +kernel
theorem d1_60 : decode method_3_code 60 = .ok (.ireturn, 1) := by decide +kernel
theorem d1_61 : decode method_3_code 61 = .ok (.iload_n 2, 1) := by decide +kernel
theorem d1_62 : decode method_3_code 62 = .ok (.bipush 6, 2) := by decide +kernel
theorem d1_64 : decode method_3_code 64 = .ok (.if_icmp .ne 8, 3) := by decide +kernel
theorem d1_67 : decode method_3_code 67 = .ok (.iload_n 0, 1) := by decide +kernel
theorem d1_68 : decode method_3_code 68 = .ok (.bipush 127, 2) := by decide +kernel
theorem d1_70 : decode method_3_code 70 = .ok (.iand, 1) := by decide +kernel
theorem d1_71 : decode method_3_code 71 = .ok (.ireturn, 1) := by decide +kernel
theorem d1_72 : decode method_3_code 72 = .ok (.iload_n 1, 1) := by decide +kernel
theorem d1_73 : decode method_3_code 73 = .ok (.iconst 3, 1) := by decide +kernel
theorem d1_74 : decode method_3_code 74 = .ok (.iushr, 1) := by decide +kernel
theorem d1_75 : decode method_3_code 75 = .ok (.iconst 1, 1) := by decide +kernel
theorem d1_76 : decode method_3_code 76 = .ok (.iand, 1) := by decide +kernel
theorem d1_77 : decode method_3_code 77 = .ok (.ifCond .ne 8, 3) := by decide +kernel
theorem d1_80 : decode method_3_code 80 = .ok (.bipush 32, 2) := by decide +kernel
theorem d1_82 : decode method_3_code 82 = .ok (.goto 5, 3) := by decide +kernel
theorem d1_85 : decode method_3_code 85 = .ok (.bipush 9, 2) := by decide +kernel
theorem d1_87 : decode method_3_code 87 = .ok (.istore_n 3, 1) := by decide +kernel
theorem d1_88 : decode method_3_code 88 = .ok (.iload_n 3, 1) := by decide +kernel
theorem d1_89 : decode method_3_code 89 = .ok (.ldc 24, 2) := by decide +kernel
theorem d1_91 : decode method_3_code 91 = .ok (.iload_n 0, 1) := by decide +kernel
theorem d1_92 : decode method_3_code 92 = .ok (.iconst 1, 1) := by decide +kernel
theorem d1_93 : decode method_3_code 93 = .ok (.ior, 1) := by decide +kernel
theorem d1_94 : decode method_3_code 94 = .ok (.imul, 1) := by decide +kernel
theorem d1_95 : decode method_3_code 95 = .ok (.iadd, 1) := by decide +kernel
theorem d1_96 : decode method_3_code 96 = .ok (.ireturn, 1) := by decide +kernel
theorem own_ef1 (m : MethodId) (p0 : Int32) (p1 : Int32) : entryFrame m #[(.int p0), (.int p1)] 4 = mkF m 0 #[.val (.int p0), .val (.int p1), .unset, .unset] [] := by first | (simp [entryFrame, mkF, argsToLocals, Value.category]; done) | rfl
def own_pick (p0 : Int32) (p1 : Int32) : Int32 := if (p1 &&& (7 : Int32)) = (0 : Int32) then p0 else if (p1 &&& (7 : Int32)) = (1 : Int32) then (9 : Int32) else if (p1 &&& (7 : Int32)) = (2 : Int32) then (32 : Int32) else if (p1 &&& (7 : Int32)) = (3 : Int32) then ((9 : Int32) + (p0 % (5 : Int32))) else if (p1 &&& (7 : Int32)) = (4 : Int32) then ((32 : Int32) + (p0 % (5 : Int32))) else if (p1 &&& (7 : Int32)) = (5 : Int32) then (p0 &&& (65535 : Int32)) else if (p1 &&& (7 : Int32)) = (6 : Int32) then (p0 &&& (127 : Int32)) else let z9 : Int32 := (if (((p1.toUInt32 >>> ((3 : Int32) &&& 31).toUInt32).toInt32) &&& (1 : Int32)) = (0 : Int32) then (32 : Int32) else (9 : Int32))
  (z9 + ((65536 : Int32) * (p0 ||| (1 : Int32))))
theorem own_pn1 : plainName "com/example/idly/idly/io/IdlScannerIsSpacePinLaw" = true := by first | (simp [plainName, overriddenIn]; done) | decide +kernel
set_option maxRecDepth 65536 in
set_option maxHeartbeats 40000000 in
theorem rm1 (l : Launch) (Z : State) (a0 : Array Value) (hw : ∀ d ∈ tables_1, d.before a0 Z = true) (ws : List Jvm.Cond) (p0 : Int32) (p1 : Int32) (h0 : Heap) (n0 : Nat)  :
    MetFree l (⟨"com/example/idly/idly/io/IdlScannerIsSpacePinLaw", "pick", "(II)I"⟩ : MethodName) (head1 (Jvm.Cond.code (⟨"com/example/idly/idly/io/IdlScannerIsSpacePinLaw", "pick", "(II)I"⟩ : MethodName) method_3_code 4 (some .int) :: ws) ({ frames := 0, cells := 0, slots := 0, locals := 0 } : Room)) (fun a U => a = #[(.int p0), (.int p1)] ∧ Z.Warmed39 U.vm ∧ U.heap = h0) (fun _ _ _ _ _ => True) (fun _ U o U' => ∃ v L, o = .returned v ∧ own_Q (some (.int (own_pick p0 p1))) h0 n0 v U'.heap L ∧ FrameEnd U o U' L ({ frames := 0, cells := 0, slots := 0, locals := 0 } : Room).cells ({ frames := 0, cells := 0, slots := 0, locals := 0 } : Room).slots) := by
  refine own_contract (plainFor_of_name own_pn1) (fun m => own_ef1 m p0 p1) ?_
  intro p e s m below meth c s₁ G hx hby hml0 hown0 hnm hret hZ X0 e0 hp hR
  have hml : c.maxLocals = 4 := hml0
  have hown : s.vm.findClass "com/example/idly/idly/io/IdlScannerIsSpacePinLaw" = some m.cls := hown0
  have N0 := Fr.nil n0
  show G s₁ (mkF m 0 #[.val (.int p0), .val (.int p1), .unset, .unset] [])
  refine hp (fun tq kq => XS.iloadN X0.here hx rfl (hb hby d1_0) rfl kq) ?_
  show G s₁ (mkF m 1 #[.val (.int p0), .val (.int p1), .unset, .unset] [(.int p1)])
  refine hp (fun tq kq => XS.bipush X0.here hx rfl (hb hby d1_1) kq) ?_
  show G s₁ (mkF m 3 #[.val (.int p0), .val (.int p1), .unset, .unset] [(.int (7 : Int32)), (.int p1)])
  refine hp (fun tq kq => XS.iand X0.here hx rfl (hb hby d1_3) rfl kq) ?_
  show G s₁ (mkF m 4 #[.val (.int p0), .val (.int p1), .unset, .unset] [(.int (p1 &&& (7 : Int32)))])
  refine hp (fun tq kq => XS.istoreN X0.here hx rfl (hb hby d1_4) rfl (l' := #[.val (.int p0), .val (.int p1), .val (.int (p1 &&& (7 : Int32))), .unset]) rfl kq) ?_
  show G s₁ (mkF m 5 #[.val (.int p0), .val (.int p1), .val (.int (p1 &&& (7 : Int32))), .unset] [])
  refine hp (fun tq kq => XS.iloadN X0.here hx rfl (hb hby d1_5) rfl kq) ?_
  show G s₁ (mkF m 6 #[.val (.int p0), .val (.int p1), .val (.int (p1 &&& (7 : Int32))), .unset] [(.int (p1 &&& (7 : Int32)))])
  by_cases hb1 : (p1 &&& (7 : Int32)) = (0 : Int32)
  · refine hp (fun tq kq => XS.ifNo X0.here hx rfl (hb hby d1_6) rfl ((if0 _ _).trans (teq hb1).2) kq) ?_
    show G s₁ (mkF m 9 #[.val (.int p0), .val (.int p1), .val (.int (p1 &&& (7 : Int32))), .unset] [])
    refine hp (fun tq kq => XS.iloadN X0.here hx rfl (hb hby d1_9) rfl kq) ?_
    show G s₁ (mkF m 10 #[.val (.int p0), .val (.int p1), .val (.int (p1 &&& (7 : Int32))), .unset] [(.int p0)])
    exact hR X0 (fun fs hl => retI X0 hx hret (hb hby d1_10) hl) (fun q => by rw [hret] at q; cases q) ⟨(congrArg (fun q => some (Value.int q)) (if_pos hb1).symm), N0, e0⟩ (by decide) (by decide)
  · refine hp (fun tq kq => XS.ifYes X0.here hx rfl (pc0 := 6) (pc' := 11) rfl (hb hby d1_6) rfl ((if0 _ _).trans (feq hb1).2) (by decide) (by decide) kq) ?_
    show G s₁ (mkF m 11 #[.val (.int p0), .val (.int p1), .val (.int (p1 &&& (7 : Int32))), .unset] [])
    refine hp (fun tq kq => XS.iloadN X0.here hx rfl (hb hby d1_11) rfl kq) ?_
    show G s₁ (mkF m 12 #[.val (.int p0), .val (.int p1), .val (.int (p1 &&& (7 : Int32))), .unset] [(.int (p1 &&& (7 : Int32)))])
    refine hp (fun tq kq => XS.iconst X0.here hx rfl (hb hby d1_12) kq) ?_
    show G s₁ (mkF m 13 #[.val (.int p0), .val (.int p1), .val (.int (p1 &&& (7 : Int32))), .unset] [(.int (1 : Int32)), (.int (p1 &&& (7 : Int32)))])
    by_cases hb2 : (p1 &&& (7 : Int32)) = (1 : Int32)
    · refine hp (fun tq kq => XS.icmpNo X0.here hx rfl (hb hby d1_13) rfl (teq hb2).2 kq) ?_
      show G s₁ (mkF m 16 #[.val (.int p0), .val (.int p1), .val (.int (p1 &&& (7 : Int32))), .unset] [])
      refine hp (fun tq kq => XS.bipush X0.here hx rfl (hb hby d1_16) kq) ?_
      show G s₁ (mkF m 18 #[.val (.int p0), .val (.int p1), .val (.int (p1 &&& (7 : Int32))), .unset] [(.int (9 : Int32))])
      exact hR X0 (fun fs hl => retI X0 hx hret (hb hby d1_18) hl) (fun q => by rw [hret] at q; cases q) ⟨(congrArg (fun q => some (Value.int q)) ((if_neg hb1).trans (if_pos hb2)).symm), N0, e0⟩ (by decide) (by decide)
    · refine hp (fun tq kq => XS.icmpYes X0.here hx rfl (pc0 := 13) (pc' := 19) rfl (hb hby d1_13) rfl (feq hb2).2 (by decide) (by decide) kq) ?_
      show G s₁ (mkF m 19 #[.val (.int p0), .val (.int p1), .val (.int (p1 &&& (7 : Int32))), .unset] [])
      refine hp (fun tq kq => XS.iloadN X0.here hx rfl (hb hby d1_19) rfl kq) ?_
      show G s₁ (mkF m 20 #[.val (.int p0), .val (.int p1), .val (.int (p1 &&& (7 : Int32))), .unset] [(.int (p1 &&& (7 : Int32)))])
      refine hp (fun tq kq => XS.iconst X0.here hx rfl (hb hby d1_20) kq) ?_
      show G s₁ (mkF m 21 #[.val (.int p0), .val (.int p1), .val (.int (p1 &&& (7 : Int32))), .unset] [(.int (2 : Int32)), (.int (p1 &&& (7 : Int32)))])
      by_cases hb3 : (p1 &&& (7 : Int32)) = (2 : Int32)
      · refine hp (fun tq kq => XS.icmpNo X0.here hx rfl (hb hby d1_21) rfl (teq hb3).2 kq) ?_
        show G s₁ (mkF m 24 #[.val (.int p0), .val (.int p1), .val (.int (p1 &&& (7 : Int32))), .unset] [])
        refine hp (fun tq kq => XS.bipush X0.here hx rfl (hb hby d1_24) kq) ?_
        show G s₁ (mkF m 26 #[.val (.int p0), .val (.int p1), .val (.int (p1 &&& (7 : Int32))), .unset] [(.int (32 : Int32))])
        exact hR X0 (fun fs hl => retI X0 hx hret (hb hby d1_26) hl) (fun q => by rw [hret] at q; cases q) ⟨(congrArg (fun q => some (Value.int q)) ((if_neg hb1).trans ((if_neg hb2).trans (if_pos hb3))).symm), N0, e0⟩ (by decide) (by decide)
      · refine hp (fun tq kq => XS.icmpYes X0.here hx rfl (pc0 := 21) (pc' := 27) rfl (hb hby d1_21) rfl (feq hb3).2 (by decide) (by decide) kq) ?_
        show G s₁ (mkF m 27 #[.val (.int p0), .val (.int p1), .val (.int (p1 &&& (7 : Int32))), .unset] [])
        refine hp (fun tq kq => XS.iloadN X0.here hx rfl (hb hby d1_27) rfl kq) ?_
        show G s₁ (mkF m 28 #[.val (.int p0), .val (.int p1), .val (.int (p1 &&& (7 : Int32))), .unset] [(.int (p1 &&& (7 : Int32)))])
        refine hp (fun tq kq => XS.iconst X0.here hx rfl (hb hby d1_28) kq) ?_
        show G s₁ (mkF m 29 #[.val (.int p0), .val (.int p1), .val (.int (p1 &&& (7 : Int32))), .unset] [(.int (3 : Int32)), (.int (p1 &&& (7 : Int32)))])
        by_cases hb4 : (p1 &&& (7 : Int32)) = (3 : Int32)
        · refine hp (fun tq kq => XS.icmpNo X0.here hx rfl (hb hby d1_29) rfl (teq hb4).2 kq) ?_
          show G s₁ (mkF m 32 #[.val (.int p0), .val (.int p1), .val (.int (p1 &&& (7 : Int32))), .unset] [])
          refine hp (fun tq kq => XS.bipush X0.here hx rfl (hb hby d1_32) kq) ?_
          show G s₁ (mkF m 34 #[.val (.int p0), .val (.int p1), .val (.int (p1 &&& (7 : Int32))), .unset] [(.int (9 : Int32))])
          refine hp (fun tq kq => XS.iloadN X0.here hx rfl (hb hby d1_34) rfl kq) ?_
          show G s₁ (mkF m 35 #[.val (.int p0), .val (.int p1), .val (.int (p1 &&& (7 : Int32))), .unset] [(.int p0), (.int (9 : Int32))])
          refine hp (fun tq kq => XS.iconst X0.here hx rfl (hb hby d1_35) kq) ?_
          show G s₁ (mkF m 36 #[.val (.int p0), .val (.int p1), .val (.int (p1 &&& (7 : Int32))), .unset] [(.int (5 : Int32)), (.int p0), (.int (9 : Int32))])
          refine hp (fun tq kq => iremM X0 hx rfl (hb hby d1_36) rfl (by decide) kq) ?_
          show G s₁ (mkF m 37 #[.val (.int p0), .val (.int p1), .val (.int (p1 &&& (7 : Int32))), .unset] [(.int (p0 % (5 : Int32))), (.int (9 : Int32))])
          refine hp (fun tq kq => XS.iadd X0.here hx rfl (hb hby d1_37) rfl kq) ?_
          show G s₁ (mkF m 38 #[.val (.int p0), .val (.int p1), .val (.int (p1 &&& (7 : Int32))), .unset] [(.int ((9 : Int32) + (p0 % (5 : Int32))))])
          exact hR X0 (fun fs hl => retI X0 hx hret (hb hby d1_38) hl) (fun q => by rw [hret] at q; cases q) ⟨(congrArg (fun q => some (Value.int q)) ((if_neg hb1).trans ((if_neg hb2).trans ((if_neg hb3).trans (if_pos hb4)))).symm), N0, e0⟩ (by decide) (by decide)
        · refine hp (fun tq kq => XS.icmpYes X0.here hx rfl (pc0 := 29) (pc' := 39) rfl (hb hby d1_29) rfl (feq hb4).2 (by decide) (by decide) kq) ?_
          show G s₁ (mkF m 39 #[.val (.int p0), .val (.int p1), .val (.int (p1 &&& (7 : Int32))), .unset] [])
          refine hp (fun tq kq => XS.iloadN X0.here hx rfl (hb hby d1_39) rfl kq) ?_
          show G s₁ (mkF m 40 #[.val (.int p0), .val (.int p1), .val (.int (p1 &&& (7 : Int32))), .unset] [(.int (p1 &&& (7 : Int32)))])
          refine hp (fun tq kq => XS.iconst X0.here hx rfl (hb hby d1_40) kq) ?_
          show G s₁ (mkF m 41 #[.val (.int p0), .val (.int p1), .val (.int (p1 &&& (7 : Int32))), .unset] [(.int (4 : Int32)), (.int (p1 &&& (7 : Int32)))])
          by_cases hb5 : (p1 &&& (7 : Int32)) = (4 : Int32)
          · refine hp (fun tq kq => XS.icmpNo X0.here hx rfl (hb hby d1_41) rfl (teq hb5).2 kq) ?_
            show G s₁ (mkF m 44 #[.val (.int p0), .val (.int p1), .val (.int (p1 &&& (7 : Int32))), .unset] [])
            refine hp (fun tq kq => XS.bipush X0.here hx rfl (hb hby d1_44) kq) ?_
            show G s₁ (mkF m 46 #[.val (.int p0), .val (.int p1), .val (.int (p1 &&& (7 : Int32))), .unset] [(.int (32 : Int32))])
            refine hp (fun tq kq => XS.iloadN X0.here hx rfl (hb hby d1_46) rfl kq) ?_
            show G s₁ (mkF m 47 #[.val (.int p0), .val (.int p1), .val (.int (p1 &&& (7 : Int32))), .unset] [(.int p0), (.int (32 : Int32))])
            refine hp (fun tq kq => XS.iconst X0.here hx rfl (hb hby d1_47) kq) ?_
            show G s₁ (mkF m 48 #[.val (.int p0), .val (.int p1), .val (.int (p1 &&& (7 : Int32))), .unset] [(.int (5 : Int32)), (.int p0), (.int (32 : Int32))])
            refine hp (fun tq kq => iremM X0 hx rfl (hb hby d1_48) rfl (by decide) kq) ?_
            show G s₁ (mkF m 49 #[.val (.int p0), .val (.int p1), .val (.int (p1 &&& (7 : Int32))), .unset] [(.int (p0 % (5 : Int32))), (.int (32 : Int32))])
            refine hp (fun tq kq => XS.iadd X0.here hx rfl (hb hby d1_49) rfl kq) ?_
            show G s₁ (mkF m 50 #[.val (.int p0), .val (.int p1), .val (.int (p1 &&& (7 : Int32))), .unset] [(.int ((32 : Int32) + (p0 % (5 : Int32))))])
            exact hR X0 (fun fs hl => retI X0 hx hret (hb hby d1_50) hl) (fun q => by rw [hret] at q; cases q) ⟨(congrArg (fun q => some (Value.int q)) ((if_neg hb1).trans ((if_neg hb2).trans ((if_neg hb3).trans ((if_neg hb4).trans (if_pos hb5))))).symm), N0, e0⟩ (by decide) (by decide)
          · refine hp (fun tq kq => XS.icmpYes X0.here hx rfl (pc0 := 41) (pc' := 51) rfl (hb hby d1_41) rfl (feq hb5).2 (by decide) (by decide) kq) ?_
            show G s₁ (mkF m 51 #[.val (.int p0), .val (.int p1), .val (.int (p1 &&& (7 : Int32))), .unset] [])
            refine hp (fun tq kq => XS.iloadN X0.here hx rfl (hb hby d1_51) rfl kq) ?_
            show G s₁ (mkF m 52 #[.val (.int p0), .val (.int p1), .val (.int (p1 &&& (7 : Int32))), .unset] [(.int (p1 &&& (7 : Int32)))])
            refine hp (fun tq kq => XS.iconst X0.here hx rfl (hb hby d1_52) kq) ?_
            show G s₁ (mkF m 53 #[.val (.int p0), .val (.int p1), .val (.int (p1 &&& (7 : Int32))), .unset] [(.int (5 : Int32)), (.int (p1 &&& (7 : Int32)))])
            by_cases hb6 : (p1 &&& (7 : Int32)) = (5 : Int32)
            · refine hp (fun tq kq => XS.icmpNo X0.here hx rfl (hb hby d1_53) rfl (teq hb6).2 kq) ?_
              show G s₁ (mkF m 56 #[.val (.int p0), .val (.int p1), .val (.int (p1 &&& (7 : Int32))), .unset] [])
              refine hp (fun tq kq => XS.iloadN X0.here hx rfl (hb hby d1_56) rfl kq) ?_
              show G s₁ (mkF m 57 #[.val (.int p0), .val (.int p1), .val (.int (p1 &&& (7 : Int32))), .unset] [(.int p0)])
              refine hp (fun tq kq => X0.ldcInt hx hown (mvT hZ (hw _ (List.mem_of_getElem? (i := 10) rfl))) (g := (mkF m 57 #[.val (.int p0), .val (.int p1), .val (.int (p1 &&& (7 : Int32))), .unset] [(.int p0)])) rfl (hb hby d1_57) _ kq) ?_
              show G s₁ (mkF m 59 #[.val (.int p0), .val (.int p1), .val (.int (p1 &&& (7 : Int32))), .unset] [(.int (65535 : Int32)), (.int p0)])
              refine hp (fun tq kq => XS.iand X0.here hx rfl (hb hby d1_59) rfl kq) ?_
              show G s₁ (mkF m 60 #[.val (.int p0), .val (.int p1), .val (.int (p1 &&& (7 : Int32))), .unset] [(.int (p0 &&& (65535 : Int32)))])
              exact hR X0 (fun fs hl => retI X0 hx hret (hb hby d1_60) hl) (fun q => by rw [hret] at q; cases q) ⟨(congrArg (fun q => some (Value.int q)) ((if_neg hb1).trans ((if_neg hb2).trans ((if_neg hb3).trans ((if_neg hb4).trans ((if_neg hb5).trans (if_pos hb6)))))).symm), N0, e0⟩ (by decide) (by decide)
            · refine hp (fun tq kq => XS.icmpYes X0.here hx rfl (pc0 := 53) (pc' := 61) rfl (hb hby d1_53) rfl (feq hb6).2 (by decide) (by decide) kq) ?_
              show G s₁ (mkF m 61 #[.val (.int p0), .val (.int p1), .val (.int (p1 &&& (7 : Int32))), .unset] [])
              refine hp (fun tq kq => XS.iloadN X0.here hx rfl (hb hby d1_61) rfl kq) ?_
              show G s₁ (mkF m 62 #[.val (.int p0), .val (.int p1), .val (.int (p1 &&& (7 : Int32))), .unset] [(.int (p1 &&& (7 : Int32)))])
              refine hp (fun tq kq => XS.bipush X0.here hx rfl (hb hby d1_62) kq) ?_
              show G s₁ (mkF m 64 #[.val (.int p0), .val (.int p1), .val (.int (p1 &&& (7 : Int32))), .unset] [(.int (6 : Int32)), (.int (p1 &&& (7 : Int32)))])
              by_cases hb7 : (p1 &&& (7 : Int32)) = (6 : Int32)
              · refine hp (fun tq kq => XS.icmpNo X0.here hx rfl (hb hby d1_64) rfl (teq hb7).2 kq) ?_
                show G s₁ (mkF m 67 #[.val (.int p0), .val (.int p1), .val (.int (p1 &&& (7 : Int32))), .unset] [])
                refine hp (fun tq kq => XS.iloadN X0.here hx rfl (hb hby d1_67) rfl kq) ?_
                show G s₁ (mkF m 68 #[.val (.int p0), .val (.int p1), .val (.int (p1 &&& (7 : Int32))), .unset] [(.int p0)])
                refine hp (fun tq kq => XS.bipush X0.here hx rfl (hb hby d1_68) kq) ?_
                show G s₁ (mkF m 70 #[.val (.int p0), .val (.int p1), .val (.int (p1 &&& (7 : Int32))), .unset] [(.int (127 : Int32)), (.int p0)])
                refine hp (fun tq kq => XS.iand X0.here hx rfl (hb hby d1_70) rfl kq) ?_
                show G s₁ (mkF m 71 #[.val (.int p0), .val (.int p1), .val (.int (p1 &&& (7 : Int32))), .unset] [(.int (p0 &&& (127 : Int32)))])
                exact hR X0 (fun fs hl => retI X0 hx hret (hb hby d1_71) hl) (fun q => by rw [hret] at q; cases q) ⟨(congrArg (fun q => some (Value.int q)) ((if_neg hb1).trans ((if_neg hb2).trans ((if_neg hb3).trans ((if_neg hb4).trans ((if_neg hb5).trans ((if_neg hb6).trans (if_pos hb7))))))).symm), N0, e0⟩ (by decide) (by decide)
              · refine hp (fun tq kq => XS.icmpYes X0.here hx rfl (pc0 := 64) (pc' := 72) rfl (hb hby d1_64) rfl (feq hb7).2 (by decide) (by decide) kq) ?_
                show G s₁ (mkF m 72 #[.val (.int p0), .val (.int p1), .val (.int (p1 &&& (7 : Int32))), .unset] [])
                refine hp (fun tq kq => XS.iloadN X0.here hx rfl (hb hby d1_72) rfl kq) ?_
                show G s₁ (mkF m 73 #[.val (.int p0), .val (.int p1), .val (.int (p1 &&& (7 : Int32))), .unset] [(.int p1)])
                refine hp (fun tq kq => XS.iconst X0.here hx rfl (hb hby d1_73) kq) ?_
                show G s₁ (mkF m 74 #[.val (.int p0), .val (.int p1), .val (.int (p1 &&& (7 : Int32))), .unset] [(.int (3 : Int32)), (.int p1)])
                refine hp (fun tq kq => XS.iushr X0.here hx rfl (hb hby d1_74) rfl kq) ?_
                show G s₁ (mkF m 75 #[.val (.int p0), .val (.int p1), .val (.int (p1 &&& (7 : Int32))), .unset] [(.int ((p1.toUInt32 >>> ((3 : Int32) &&& 31).toUInt32).toInt32))])
                refine hp (fun tq kq => XS.iconst X0.here hx rfl (hb hby d1_75) kq) ?_
                show G s₁ (mkF m 76 #[.val (.int p0), .val (.int p1), .val (.int (p1 &&& (7 : Int32))), .unset] [(.int (1 : Int32)), (.int ((p1.toUInt32 >>> ((3 : Int32) &&& 31).toUInt32).toInt32))])
                refine hp (fun tq kq => XS.iand X0.here hx rfl (hb hby d1_76) rfl kq) ?_
                show G s₁ (mkF m 77 #[.val (.int p0), .val (.int p1), .val (.int (p1 &&& (7 : Int32))), .unset] [(.int (((p1.toUInt32 >>> ((3 : Int32) &&& 31).toUInt32).toInt32) &&& (1 : Int32)))])
                have j8 : ∀ (z9 : Int32), z9 = (if (((p1.toUInt32 >>> ((3 : Int32) &&& 31).toUInt32).toInt32) &&& (1 : Int32)) = (0 : Int32) then (32 : Int32) else (9 : Int32)) → G s₁ (mkF m 87 #[.val (.int p0), .val (.int p1), .val (.int (p1 &&& (7 : Int32))), .unset] [(.int z9)]) := by
                  intro z9 hz9
                  refine hp (fun tq kq => XS.istoreN X0.here hx rfl (hb hby d1_87) rfl (l' := #[.val (.int p0), .val (.int p1), .val (.int (p1 &&& (7 : Int32))), .val (.int z9)]) rfl kq) ?_
                  show G s₁ (mkF m 88 #[.val (.int p0), .val (.int p1), .val (.int (p1 &&& (7 : Int32))), .val (.int z9)] [])
                  refine hp (fun tq kq => XS.iloadN X0.here hx rfl (hb hby d1_88) rfl kq) ?_
                  show G s₁ (mkF m 89 #[.val (.int p0), .val (.int p1), .val (.int (p1 &&& (7 : Int32))), .val (.int z9)] [(.int z9)])
                  refine hp (fun tq kq => X0.ldcInt hx hown (mvT hZ (hw _ (List.mem_of_getElem? (i := 11) rfl))) (g := (mkF m 89 #[.val (.int p0), .val (.int p1), .val (.int (p1 &&& (7 : Int32))), .val (.int z9)] [(.int z9)])) rfl (hb hby d1_89) _ kq) ?_
                  show G s₁ (mkF m 91 #[.val (.int p0), .val (.int p1), .val (.int (p1 &&& (7 : Int32))), .val (.int z9)] [(.int (65536 : Int32)), (.int z9)])
                  refine hp (fun tq kq => XS.iloadN X0.here hx rfl (hb hby d1_91) rfl kq) ?_
                  show G s₁ (mkF m 92 #[.val (.int p0), .val (.int p1), .val (.int (p1 &&& (7 : Int32))), .val (.int z9)] [(.int p0), (.int (65536 : Int32)), (.int z9)])
                  refine hp (fun tq kq => XS.iconst X0.here hx rfl (hb hby d1_92) kq) ?_
                  show G s₁ (mkF m 93 #[.val (.int p0), .val (.int p1), .val (.int (p1 &&& (7 : Int32))), .val (.int z9)] [(.int (1 : Int32)), (.int p0), (.int (65536 : Int32)), (.int z9)])
                  refine hp (fun tq kq => XS.ior X0.here hx rfl (hb hby d1_93) rfl kq) ?_
                  show G s₁ (mkF m 94 #[.val (.int p0), .val (.int p1), .val (.int (p1 &&& (7 : Int32))), .val (.int z9)] [(.int (p0 ||| (1 : Int32))), (.int (65536 : Int32)), (.int z9)])
                  refine hp (fun tq kq => XS.imul X0.here hx rfl (hb hby d1_94) rfl kq) ?_
                  show G s₁ (mkF m 95 #[.val (.int p0), .val (.int p1), .val (.int (p1 &&& (7 : Int32))), .val (.int z9)] [(.int ((65536 : Int32) * (p0 ||| (1 : Int32)))), (.int z9)])
                  refine hp (fun tq kq => XS.iadd X0.here hx rfl (hb hby d1_95) rfl kq) ?_
                  show G s₁ (mkF m 96 #[.val (.int p0), .val (.int p1), .val (.int (p1 &&& (7 : Int32))), .val (.int z9)] [(.int (z9 + ((65536 : Int32) * (p0 ||| (1 : Int32)))))])
                  exact hR X0 (fun fs hl => retI X0 hx hret (hb hby d1_96) hl) (fun q => by rw [hret] at q; cases q) ⟨(by subst hz9; exact (congrArg (fun q => some (Value.int q)) ((if_neg hb1).trans ((if_neg hb2).trans ((if_neg hb3).trans ((if_neg hb4).trans ((if_neg hb5).trans ((if_neg hb6).trans (if_neg hb7))))))).symm)), N0, e0⟩ (by decide) (by decide)
                by_cases hb10 : (((p1.toUInt32 >>> ((3 : Int32) &&& 31).toUInt32).toInt32) &&& (1 : Int32)) = (0 : Int32)
                · refine hp (fun tq kq => XS.ifNo X0.here hx rfl (hb hby d1_77) rfl ((if0 _ _).trans (teq hb10).2) kq) ?_
                  show G s₁ (mkF m 80 #[.val (.int p0), .val (.int p1), .val (.int (p1 &&& (7 : Int32))), .unset] [])
                  refine hp (fun tq kq => XS.bipush X0.here hx rfl (hb hby d1_80) kq) ?_
                  show G s₁ (mkF m 82 #[.val (.int p0), .val (.int p1), .val (.int (p1 &&& (7 : Int32))), .unset] [(.int (32 : Int32))])
                  refine hp (fun tq kq => XS.goto X0.here hx rfl (pc0 := 82) (pc' := 87) rfl (hb hby d1_82) (by decide) (by decide) kq) ?_
                  show G s₁ (mkF m 87 #[.val (.int p0), .val (.int p1), .val (.int (p1 &&& (7 : Int32))), .unset] [(.int (32 : Int32))])
                  exact j8 _ ((if_pos hb10)).symm
                · refine hp (fun tq kq => XS.ifYes X0.here hx rfl (pc0 := 77) (pc' := 85) rfl (hb hby d1_77) rfl ((if0 _ _).trans (feq hb10).2) (by decide) (by decide) kq) ?_
                  show G s₁ (mkF m 85 #[.val (.int p0), .val (.int p1), .val (.int (p1 &&& (7 : Int32))), .unset] [])
                  refine hp (fun tq kq => XS.bipush X0.here hx rfl (hb hby d1_85) kq) ?_
                  show G s₁ (mkF m 87 #[.val (.int p0), .val (.int p1), .val (.int (p1 &&& (7 : Int32))), .unset] [(.int (9 : Int32))])
                  exact j8 _ ((if_neg hb10)).symm
theorem d2_0 : decode prog_11_method_28_code 0 = .ok (.iload_n 0, 1) := by decide +kernel
theorem d2_1 : decode prog_11_method_28_code 1 = .ok (.bipush 32, 2) := by decide +kernel
theorem d2_3 : decode prog_11_method_28_code 3 = .ok (.if_icmp .eq 9, 3) := by decide +kernel
theorem d2_6 : decode prog_11_method_28_code 6 = .ok (.iload_n 0, 1) := by decide +kernel
theorem d2_7 : decode prog_11_method_28_code 7 = .ok (.bipush 9, 2) := by decide +kernel
theorem d2_9 : decode prog_11_method_28_code 9 = .ok (.if_icmp .ne 7, 3) := by decide +kernel
theorem d2_12 : decode prog_11_method_28_code 12 = .ok (.iconst 1, 1) := by decide +kernel
theorem d2_13 : decode prog_11_method_28_code 13 = .ok (.goto 4, 3) := by decide +kernel
theorem d2_16 : decode prog_11_method_28_code 16 = .ok (.iconst 0, 1) := by decide +kernel
theorem d2_17 : decode prog_11_method_28_code 17 = .ok (.ireturn, 1) := by decide +kernel
theorem own_ef2 (m : MethodId) (p0 : Int32) : entryFrame m #[(.int p0)] 1 = mkF m 0 #[.val (.int p0)] [] := by first | (simp [entryFrame, mkF, argsToLocals, Value.category]; done) | rfl
def own_isSpace (p0 : Int32) : Int32 := if p0 = (32 : Int32) then (1 : Int32) else if p0 = (9 : Int32) then (1 : Int32) else (0 : Int32)
theorem own_pn2 : plainName "com/example/idly/idly/io/IdlScanner" = true := by first | (simp [plainName, overriddenIn]; done) | decide +kernel
set_option maxRecDepth 65536 in
set_option maxHeartbeats 40000000 in
theorem rm2 (l : Launch) (Z : State) (a0 : Array Value) (hw : ∀ d ∈ tables_1, d.before a0 Z = true) (ws : List Jvm.Cond) (p0 : Int32) (h0 : Heap) (n0 : Nat)  :
    MetFree l (⟨"com/example/idly/idly/io/IdlScanner", "isSpace", "(I)Z"⟩ : MethodName) (head1 (Jvm.Cond.code (⟨"com/example/idly/idly/io/IdlScanner", "isSpace", "(I)Z"⟩ : MethodName) prog_11_method_28_code 1 (some .boolean) :: ws) ({ frames := 0, cells := 0, slots := 0, locals := 0 } : Room)) (fun a U => a = #[(.int p0)] ∧ Z.Warmed39 U.vm ∧ U.heap = h0) (fun _ _ _ _ _ => True) (fun _ U o U' => ∃ v L, o = .returned v ∧ own_Q (some (.int (own_isSpace p0))) h0 n0 v U'.heap L ∧ FrameEnd U o U' L ({ frames := 0, cells := 0, slots := 0, locals := 0 } : Room).cells ({ frames := 0, cells := 0, slots := 0, locals := 0 } : Room).slots) := by
  refine own_contract (plainFor_of_name own_pn2) (fun m => own_ef2 m p0) ?_
  intro p e s m below meth c s₁ G hx hby hml0 hown0 hnm hret hZ X0 e0 hp hR
  have hml : c.maxLocals = 1 := hml0
  have hown : s.vm.findClass "com/example/idly/idly/io/IdlScanner" = some m.cls := hown0
  have N0 := Fr.nil n0
  show G s₁ (mkF m 0 #[.val (.int p0)] [])
  refine hp (fun tq kq => XS.iloadN X0.here hx rfl (hb hby d2_0) rfl kq) ?_
  show G s₁ (mkF m 1 #[.val (.int p0)] [(.int p0)])
  refine hp (fun tq kq => XS.bipush X0.here hx rfl (hb hby d2_1) kq) ?_
  show G s₁ (mkF m 3 #[.val (.int p0)] [(.int (32 : Int32)), (.int p0)])
  by_cases hb1 : p0 = (32 : Int32)
  · refine hp (fun tq kq => XS.icmpYes X0.here hx rfl (pc0 := 3) (pc' := 12) rfl (hb hby d2_3) rfl (teq hb1).1 (by decide) (by decide) kq) ?_
    show G s₁ (mkF m 12 #[.val (.int p0)] [])
    refine hp (fun tq kq => XS.iconst X0.here hx rfl (hb hby d2_12) kq) ?_
    show G s₁ (mkF m 13 #[.val (.int p0)] [(.int (1 : Int32))])
    refine hp (fun tq kq => XS.goto X0.here hx rfl (pc0 := 13) (pc' := 17) rfl (hb hby d2_13) (by decide) (by decide) kq) ?_
    show G s₁ (mkF m 17 #[.val (.int p0)] [(.int (1 : Int32))])
    exact hR X0 (fun fs hl => retN X0 hx (t := .boolean) hret (by simp) (hb hby d2_17) hl) (fun q => by rw [hret] at q; cases q) ⟨(congrArg (fun q => some (Value.int q)) (if_pos hb1).symm), N0, e0⟩ (by decide) (by decide)
  · refine hp (fun tq kq => XS.icmpNo X0.here hx rfl (hb hby d2_3) rfl (feq hb1).1 kq) ?_
    show G s₁ (mkF m 6 #[.val (.int p0)] [])
    refine hp (fun tq kq => XS.iloadN X0.here hx rfl (hb hby d2_6) rfl kq) ?_
    show G s₁ (mkF m 7 #[.val (.int p0)] [(.int p0)])
    refine hp (fun tq kq => XS.bipush X0.here hx rfl (hb hby d2_7) kq) ?_
    show G s₁ (mkF m 9 #[.val (.int p0)] [(.int (9 : Int32)), (.int p0)])
    by_cases hb2 : p0 = (9 : Int32)
    · refine hp (fun tq kq => XS.icmpNo X0.here hx rfl (hb hby d2_9) rfl (teq hb2).2 kq) ?_
      show G s₁ (mkF m 12 #[.val (.int p0)] [])
      refine hp (fun tq kq => XS.iconst X0.here hx rfl (hb hby d2_12) kq) ?_
      show G s₁ (mkF m 13 #[.val (.int p0)] [(.int (1 : Int32))])
      refine hp (fun tq kq => XS.goto X0.here hx rfl (pc0 := 13) (pc' := 17) rfl (hb hby d2_13) (by decide) (by decide) kq) ?_
      show G s₁ (mkF m 17 #[.val (.int p0)] [(.int (1 : Int32))])
      exact hR X0 (fun fs hl => retN X0 hx (t := .boolean) hret (by simp) (hb hby d2_17) hl) (fun q => by rw [hret] at q; cases q) ⟨(congrArg (fun q => some (Value.int q)) ((if_neg hb1).trans (if_pos hb2)).symm), N0, e0⟩ (by decide) (by decide)
    · refine hp (fun tq kq => XS.icmpYes X0.here hx rfl (pc0 := 9) (pc' := 16) rfl (hb hby d2_9) rfl (feq hb2).2 (by decide) (by decide) kq) ?_
      show G s₁ (mkF m 16 #[.val (.int p0)] [])
      refine hp (fun tq kq => XS.iconst X0.here hx rfl (hb hby d2_16) kq) ?_
      show G s₁ (mkF m 17 #[.val (.int p0)] [(.int (0 : Int32))])
      exact hR X0 (fun fs hl => retN X0 hx (t := .boolean) hret (by simp) (hb hby d2_17) hl) (fun q => by rw [hret] at q; cases q) ⟨(congrArg (fun q => some (Value.int q)) ((if_neg hb1).trans (if_neg hb2)).symm), N0, e0⟩ (by decide) (by decide)
theorem own_same (c : Int32) : own_isSpace c = (if ((c.toInt64 - (9 : Int64)) * (c.toInt64 - (32 : Int64))) = (0 : Int64) then (1 : Int32) else (0 : Int32)) := by
  have r := rng32 c
  have e1 : (9 : Int64).toInt = 9 := by decide
  have e2 : (32 : Int64).toInt = 32 := by decide
  have e3 : (0 : Int64).toInt = 0 := by decide
  have e4 : (9 : Int32).toInt = 9 := by decide
  have e5 : (32 : Int32).toInt = 32 := by decide
  have i1 := c_i2l c
  have s1 := c_lsub c.toInt64 9
  have s2 := c_lsub c.toInt64 32
  have r1 := rng64 (c.toInt64 - 9)
  have r2 := rng64 (c.toInt64 - 32)
  have a : (c.toInt64 - 9).toInt = c.toInt - 9 := by omega
  have b : (c.toInt64 - 32).toInt = c.toInt - 32 := by omega
  have m := c_lmul (c.toInt64 - 9) (c.toInt64 - 32)
  have rm := rng64 ((c.toInt64 - 9) * (c.toInt64 - 32))
  rw [a, b] at m
  have bnd := mc (a := c.toInt - 9) (b := c.toInt - 32) (l1 := -2147483657) (h1 := 2147483639) (l2 := -2147483680) (h2 := 2147483616) (by omega) (by omega) (by omega) (by omega)
  have p : ((c.toInt64 - 9) * (c.toInt64 - 32)).toInt = (c.toInt - 9) * (c.toInt - 32) := by
    generalize (c.toInt - 9) * (c.toInt - 32) = P at *
    omega
  have q : ((c.toInt64 - 9) * (c.toInt64 - 32)) = 0 ↔ c = 32 ∨ c = 9 := by
    rw [← Int64.toInt_inj, p, e3, Int.mul_eq_zero, ← Int32.toInt_inj, ← Int32.toInt_inj]
    omega
  unfold own_isSpace
  by_cases h1 : c = 32
  · rw [if_pos h1, if_pos (q.mpr (Or.inl h1))]
  · by_cases h2 : c = 9
    · rw [if_neg h1, if_pos h2, if_pos (q.mpr (Or.inr h2))]
    · rw [if_neg h1, if_neg h2, if_neg (fun z => (q.mp z).elim h1 h2)]

theorem own_ef0 (m : MethodId) (p0 : Int32) (p1 : Int32) : entryFrame m #[(.int p0), (.int p1)] maxLocals = mkF m 0 #[.val (.int p0), .val (.int p1), .unset, .unset] [] := by first | (simp [entryFrame, mkF, argsToLocals, Value.category, maxLocals]; done) | rfl
abbrev own_Q0 (n0 : Nat) (v : Option Value) (h : Heap) (L : List Loc) : Prop := v = some (.int 1) ∧ Fr n0 L
theorem own_pn0 : plainName "com/example/idly/idly/io/IdlScannerIsSpacePinLaw" = true := by first | (simp [plainName, overriddenIn]; done) | decide +kernel
set_option maxRecDepth 65536 in
set_option maxHeartbeats 40000000 in
theorem rm0 (l : Launch) (Z : State) (a0 : Array Value) (hw : ∀ d ∈ tables_1, d.before a0 Z = true) (ws : List Jvm.Cond) (p0 : Int32) (p1 : Int32) (h0 : Heap) (n0 : Nat)  :
    MetFree l x (head1 (Jvm.Cond.code x code maxLocals ret :: ws) room_1) (fun a U => a = #[(.int p0), (.int p1)] ∧ Z.Warmed39 U.vm ∧ U.heap = h0) (fun _ _ _ _ _ => True) (fun _ U o U' => ∃ v L, o = .returned v ∧ own_Q0 n0 v U'.heap L ∧ FrameEnd U o U' L room_1.cells room_1.slots) := by
  refine own_contract (plainFor_of_name own_pn0) (fun m => own_ef0 m p0 p1) ?_
  intro p e s m below meth c s₁ G hx hby hml0 hown0 hnm hret hZ X0 e0 hp hR
  have hml : c.maxLocals = 4 := hml0
  have hown : s.vm.findClass "com/example/idly/idly/io/IdlScannerIsSpacePinLaw" = some m.cls := hown0
  have N0 := Fr.nil n0
  show G s₁ (mkF m 0 #[.val (.int p0), .val (.int p1), .unset, .unset] [])
  refine hp (fun tq kq => XS.iloadN X0.here hx rfl (hb hby at_0) rfl kq) ?_
  show G s₁ (mkF m 1 #[.val (.int p0), .val (.int p1), .unset, .unset] [(.int p0)])
  refine hp (fun tq kq => XS.iloadN X0.here hx rfl (hb hby at_1) rfl kq) ?_
  show G s₁ (mkF m 2 #[.val (.int p0), .val (.int p1), .unset, .unset] [(.int p1), (.int p0)])
  obtain ⟨v1, T1, L1, X1, hQ1, st1⟩ := own_callS X0 hx hZ (y := (⟨"com/example/idly/idly/io/IdlScannerIsSpacePinLaw", "pick", "(II)I"⟩ : MethodName)) (rm := ({ frames := 0, cells := 0, slots := 0, locals := 0 } : Room)) 0 hown (hw _ (List.mem_of_getElem? (i := 0) rfl)) (hw _ (List.mem_of_getElem? (i := 1) rfl)) (hw _ (List.mem_of_getElem? (i := 2) rfl)) (hw _ (List.mem_of_getElem? (i := 3) rfl)) (by decide) (rm1 l Z a0 hw [] p0 p1 h0 n0) e0 (by decide) (by decide) (g := (mkF m 2 #[.val (.int p0), .val (.int p1), .unset, .unset] [(.int p1), (.int p0)])) rfl (by rw [hml]; rfl) [(.int p0), (.int p1)] [] own_pd0 rfl rfl (by show 2 * 0 + _ ≤ _; exact Nat.le_of_eq rfl) (hb hby at_2) rfl (by decide) (by decide)
  obtain ⟨rfl, N1, e1⟩ := hQ1
  have F1 := Fr.app N0 N1
  refine hp st1 ?_
  show G T1 (mkF m 5 #[.val (.int p0), .val (.int p1), .unset, .unset] [(.int (own_pick p0 p1))])
  refine hp (fun tq kq => XS.istoreN X1.here hx rfl (hb hby at_5) rfl (l' := #[.val (.int p0), .val (.int p1), .val (.int (own_pick p0 p1)), .unset]) rfl kq) ?_
  show G T1 (mkF m 6 #[.val (.int p0), .val (.int p1), .val (.int (own_pick p0 p1)), .unset] [])
  refine hp (fun tq kq => XS.iloadN X1.here hx rfl (hb hby at_6) rfl kq) ?_
  show G T1 (mkF m 7 #[.val (.int p0), .val (.int p1), .val (.int (own_pick p0 p1)), .unset] [(.int (own_pick p0 p1))])
  refine hp (fun tq kq => XS.i2l X1.here hx rfl (hb hby at_7) rfl kq) ?_
  show G T1 (mkF m 8 #[.val (.int p0), .val (.int p1), .val (.int (own_pick p0 p1)), .unset] [(.long (own_pick p0 p1).toInt64)])
  refine hp (fun tq kq => X1.ldc2Long hx hown (mvT hZ (hw _ (List.mem_of_getElem? (i := 4) rfl))) (g := (mkF m 8 #[.val (.int p0), .val (.int p1), .val (.int (own_pick p0 p1)), .unset] [(.long (own_pick p0 p1).toInt64)])) rfl (hb hby at_8) _ kq) ?_
  show G T1 (mkF m 11 #[.val (.int p0), .val (.int p1), .val (.int (own_pick p0 p1)), .unset] [(.long (9 : Int64)), (.long (own_pick p0 p1).toInt64)])
  refine hp (fun tq kq => XS.lsub X1.here hx rfl (hb hby at_11) rfl kq) ?_
  show G T1 (mkF m 12 #[.val (.int p0), .val (.int p1), .val (.int (own_pick p0 p1)), .unset] [(.long ((own_pick p0 p1).toInt64 - (9 : Int64)))])
  refine hp (fun tq kq => XS.iloadN X1.here hx rfl (hb hby at_12) rfl kq) ?_
  show G T1 (mkF m 13 #[.val (.int p0), .val (.int p1), .val (.int (own_pick p0 p1)), .unset] [(.int (own_pick p0 p1)), (.long ((own_pick p0 p1).toInt64 - (9 : Int64)))])
  refine hp (fun tq kq => XS.i2l X1.here hx rfl (hb hby at_13) rfl kq) ?_
  show G T1 (mkF m 14 #[.val (.int p0), .val (.int p1), .val (.int (own_pick p0 p1)), .unset] [(.long (own_pick p0 p1).toInt64), (.long ((own_pick p0 p1).toInt64 - (9 : Int64)))])
  refine hp (fun tq kq => X1.ldc2Long hx hown (mvT hZ (hw _ (List.mem_of_getElem? (i := 5) rfl))) (g := (mkF m 14 #[.val (.int p0), .val (.int p1), .val (.int (own_pick p0 p1)), .unset] [(.long (own_pick p0 p1).toInt64), (.long ((own_pick p0 p1).toInt64 - (9 : Int64)))])) rfl (hb hby at_14) _ kq) ?_
  show G T1 (mkF m 17 #[.val (.int p0), .val (.int p1), .val (.int (own_pick p0 p1)), .unset] [(.long (32 : Int64)), (.long (own_pick p0 p1).toInt64), (.long ((own_pick p0 p1).toInt64 - (9 : Int64)))])
  refine hp (fun tq kq => XS.lsub X1.here hx rfl (hb hby at_17) rfl kq) ?_
  show G T1 (mkF m 18 #[.val (.int p0), .val (.int p1), .val (.int (own_pick p0 p1)), .unset] [(.long ((own_pick p0 p1).toInt64 - (32 : Int64))), (.long ((own_pick p0 p1).toInt64 - (9 : Int64)))])
  refine hp (fun tq kq => XS.lmul X1.here hx rfl (hb hby at_18) rfl kq) ?_
  show G T1 (mkF m 19 #[.val (.int p0), .val (.int p1), .val (.int (own_pick p0 p1)), .unset] [(.long (((own_pick p0 p1).toInt64 - (9 : Int64)) * ((own_pick p0 p1).toInt64 - (32 : Int64))))])
  refine hp (fun tq kq => XS.lconst X1.here hx rfl (hb hby at_19) kq) ?_
  show G T1 (mkF m 20 #[.val (.int p0), .val (.int p1), .val (.int (own_pick p0 p1)), .unset] [(.long (0 : Int64)), (.long (((own_pick p0 p1).toInt64 - (9 : Int64)) * ((own_pick p0 p1).toInt64 - (32 : Int64))))])
  refine hp (fun tq kq => XS.lcmp X1.here hx rfl (hb hby at_20) rfl kq) ?_
  show G T1 (mkF m 21 #[.val (.int p0), .val (.int p1), .val (.int (own_pick p0 p1)), .unset] [(.int (lcmpW (((own_pick p0 p1).toInt64 - (9 : Int64)) * ((own_pick p0 p1).toInt64 - (32 : Int64))) (0 : Int64)))])
  have j2 : ∀ (z3 : Int32), z3 = (if (((own_pick p0 p1).toInt64 - (9 : Int64)) * ((own_pick p0 p1).toInt64 - (32 : Int64))) = (0 : Int64) then (1 : Int32) else (0 : Int32)) → G T1 (mkF m 29 #[.val (.int p0), .val (.int p1), .val (.int (own_pick p0 p1)), .unset] [(.int z3)]) := by
    intro z3 hz3
    refine hp (fun tq kq => XS.istoreN X1.here hx rfl (hb hby at_29) rfl (l' := #[.val (.int p0), .val (.int p1), .val (.int (own_pick p0 p1)), .val (.int z3)]) rfl kq) ?_
    show G T1 (mkF m 30 #[.val (.int p0), .val (.int p1), .val (.int (own_pick p0 p1)), .val (.int z3)] [])
    refine hp (fun tq kq => XS.iloadN X1.here hx rfl (hb hby at_30) rfl kq) ?_
    show G T1 (mkF m 31 #[.val (.int p0), .val (.int p1), .val (.int (own_pick p0 p1)), .val (.int z3)] [(.int (own_pick p0 p1))])
    obtain ⟨v4, T4, L4, X4, hQ4, st4⟩ := own_callS X1 hx hZ (y := (⟨"com/example/idly/idly/io/IdlScanner", "isSpace", "(I)Z"⟩ : MethodName)) (rm := ({ frames := 0, cells := 0, slots := 0, locals := 0 } : Room)) 0 hown (hw _ (List.mem_of_getElem? (i := 6) rfl)) (hw _ (List.mem_of_getElem? (i := 7) rfl)) (hw _ (List.mem_of_getElem? (i := 8) rfl)) (hw _ (List.mem_of_getElem? (i := 9) rfl)) (by decide) (rm2 l Z a0 hw [] (own_pick p0 p1) h0 n0) e1 (by decide) (by decide) (g := (mkF m 31 #[.val (.int p0), .val (.int p1), .val (.int (own_pick p0 p1)), .val (.int z3)] [(.int (own_pick p0 p1))])) rfl (by rw [hml]; rfl) [(.int (own_pick p0 p1))] [] own_pd1 rfl rfl (by show 2 * 0 + _ ≤ _; exact Nat.le_of_eq rfl) (hb hby at_31) rfl (by decide) (by decide)
    obtain ⟨rfl, N4, e4⟩ := hQ4
    have F4 := Fr.app F1 N4
    refine hp st4 ?_
    show G T4 (mkF m 34 #[.val (.int p0), .val (.int p1), .val (.int (own_pick p0 p1)), .val (.int z3)] [(.int (own_isSpace (own_pick p0 p1)))])
    refine hp (fun tq kq => XS.iloadN X4.here hx rfl (hb hby at_34) rfl kq) ?_
    show G T4 (mkF m 35 #[.val (.int p0), .val (.int p1), .val (.int (own_pick p0 p1)), .val (.int z3)] [(.int z3), (.int (own_isSpace (own_pick p0 p1)))])
    refine hp (fun tq kq => XS.icmpNo X4.here hx rfl (hb hby at_35) rfl (teq (by subst hz3; exact own_same _)).2 kq) ?_
    show G T4 (mkF m 38 #[.val (.int p0), .val (.int p1), .val (.int (own_pick p0 p1)), .val (.int z3)] [])
    refine hp (fun tq kq => XS.iconst X4.here hx rfl (hb hby at_38) kq) ?_
    show G T4 (mkF m 39 #[.val (.int p0), .val (.int p1), .val (.int (own_pick p0 p1)), .val (.int z3)] [(.int (1 : Int32))])
    refine hp (fun tq kq => XS.goto X4.here hx rfl (pc0 := 39) (pc' := 43) rfl (hb hby at_39) (by decide) (by decide) kq) ?_
    show G T4 (mkF m 43 #[.val (.int p0), .val (.int p1), .val (.int (own_pick p0 p1)), .val (.int z3)] [(.int (1 : Int32))])
    exact hR X4 (fun fs hl => retN X4 hx (t := .boolean) hret (by simp) (hb hby at_43) hl) (fun q => by rw [hret] at q; cases q) ⟨rfl, F4⟩ (by decide) (by decide)
  by_cases hb5 : (((own_pick p0 p1).toInt64 - (9 : Int64)) * ((own_pick p0 p1).toInt64 - (32 : Int64))) = (0 : Int64)
  · refine hp (fun tq kq => XS.ifNo X1.here hx rfl (hb hby at_21) rfl ((if0 _ _).trans (teq ((lw_eq _ _).mpr hb5)).2) kq) ?_
    show G T1 (mkF m 24 #[.val (.int p0), .val (.int p1), .val (.int (own_pick p0 p1)), .unset] [])
    refine hp (fun tq kq => XS.iconst X1.here hx rfl (hb hby at_24) kq) ?_
    show G T1 (mkF m 25 #[.val (.int p0), .val (.int p1), .val (.int (own_pick p0 p1)), .unset] [(.int (1 : Int32))])
    refine hp (fun tq kq => XS.goto X1.here hx rfl (pc0 := 25) (pc' := 29) rfl (hb hby at_25) (by decide) (by decide) kq) ?_
    show G T1 (mkF m 29 #[.val (.int p0), .val (.int p1), .val (.int (own_pick p0 p1)), .unset] [(.int (1 : Int32))])
    exact j2 _ ((if_pos hb5)).symm
  · refine hp (fun tq kq => XS.ifYes X1.here hx rfl (pc0 := 21) (pc' := 28) rfl (hb hby at_21) rfl ((if0 _ _).trans (feq (fun q => hb5 ((lw_eq _ _).mp q))).2) (by decide) (by decide) kq) ?_
    show G T1 (mkF m 28 #[.val (.int p0), .val (.int p1), .val (.int (own_pick p0 p1)), .unset] [])
    refine hp (fun tq kq => XS.iconst X1.here hx rfl (hb hby at_28) kq) ?_
    show G T1 (mkF m 29 #[.val (.int p0), .val (.int p1), .val (.int (own_pick p0 p1)), .unset] [(.int (0 : Int32))])
    exact j2 _ ((if_neg hb5)).symm
set_option maxRecDepth 65536 in
set_option maxHeartbeats 40000000 in
theorem comes_1 {Post : Tables → Env → Array Value → State → Outcome → State → Prop} (hpost : ∀ tb e args s v u, (limb_1_1.after args s (.returned v) u = true ∧ limb_1_2.after args s (.returned v) u = true ∧ True) → FrameEnd s (.returned v) u (Jvm.fieldLocs frame_1_writes args s ++ Jvm.arrayLocs frame_1_arrays args s ++ Jvm.staticLocs frame_1_statics s) 0 0 → Post tb e args s (.returned v) u) :
    ArmFor flags0 classFile x code maxLocals ret World_1 tables_1 room_1 Calls_1 rest_1 Pre_1 Post := by
  intro l hfl _ _ p e ha hc hk s m args below hf hA hF happ hP
  obtain ⟨hcalls, hrest, hpre⟩ := hP
  obtain ⟨-, -, -, hnamed, -, -, -, hat⟩ := (Spec.applies_iff hf).mp happ
  obtain ⟨hg, hn⟩ := and_e (Cond.before_iff.mp (show (Jvm.Cond.and given_1 narrow_1).before args s = true from hpre))
  obtain ⟨hcnt, hgs⟩ := and_e hg
  obtain ⟨ha0, hgs⟩ := and_e hgs
  have ha1 := hgs
  obtain ⟨w0, w1, rfl⟩ : ∃ w0 w1 : Value, args = #[w0, w1] := by
    have hs : args.size = 2 := by simpa [Cond.value, given_1] using hcnt
    obtain ⟨L⟩ := args
    match L, hs with
    | [w0, w1], _ => exact ⟨w0, w1, rfl⟩
  have hw := fun d (hd : d ∈ tables_1) => atoms_spec (ws := Jvm.Cond.code x code maxLocals ret :: tables_1) hat d (List.mem_cons_of_mem _ hd)
  obtain ⟨i0, ei0⟩ := is_v ha0
  obtain rfl : w0 = (.int i0) := Option.some.inj ei0
  obtain ⟨i1, ei1⟩ := is_v ha1
  obtain rfl : w1 = (.int i1) := Option.some.inj ei1
  obtain ⟨n, o, h1, h2, h3, _, L, rfl, ⟨rfl, N⟩, hq⟩ := rm0 l s _ hw tables_1 i0 i1 s.heap s.heap.size p e ha hc hk s m _ below hf ((Spec.applies_iff_loose hf).mp happ).1 ⟨rfl, State.Warmed39.refl s, rfl⟩ trivial
  exact ⟨n, _, h1, h2, h3, hpost _ _ _ _ _ _ ⟨Cond.after_iff.mpr rfl, Cond.after_iff.mpr (eq_i res_at (Term.int_eval (1)) rfl), trivial⟩ ⟨hq.1, hq.2.1, (hq.2.2.sift fun y hy => Or.inr (N y hy)).mono (by decide) (by decide)⟩⟩
theorem main_1_1 : Claimed_1_1 := comes_1 fun _ _ _ _ _ _ h hF => ⟨h.1, hF⟩
theorem main_1_2 : Claimed_1_2 := comes_1 fun _ _ _ _ _ _ h hF => ⟨h.2.1, hF⟩
end Jvm.Pilot.@@N@@
namespace Jvm.Pilot.@@N@@
open Jvm Jvm.ClassFile Sem Op Lib Jvm.Free Jvm.Stand Jvm.Pilot.@@N@@.Jvm.D
/-! MADE BY PROGRAM (witnessworld.py) out of the Statement's table words and the real class files: 9 classes; the members and pool entries that the words name. The judged class is class 1, her method 1. -/
namespace start1
open Jvm.ClassFile
def u (s : String) : CpInfo := .utf8 (stringToUtf16 s)
/-- a pool by its gaps: so many unusable entries, then the entry; so many at the end -/
def gap : Nat → List CpInfo → List CpInfo
  | 0, r => r
  | n + 1, r => .unusable :: gap n r
def poolList (es : List (Nat × CpInfo)) (last : Nat) : List CpInfo := es.foldr (fun e r => gap e.1 (e.2 :: r)) (gap last [])
def pool (es : List (Nat × CpInfo)) (last : Nat) : Array CpInfo := ⟨poolList es last⟩
def fileOf (pool : Array CpInfo) (this : Nat) (attrs : Array Attribute := #[]) (ms : Array MethodInfo := #[]) (fl : Nat := 33) (sup : Nat := 0) (ifs : Array Nat := #[]) (fds : Array FieldInfo := #[]) : ClassFile where
  minorVersion := 0
  majorVersion := 65
  constantPool := pool
  accessFlags := fl
  thisClass := this
  superClass := sup
  interfaces := ifs
  fields := fds
  methods := ms
  attributes := attrs
def plain (name : String) (sup : Option ClassId) : Class where
  name := name
  kind := .ordinary
  loader := none
  accessFlags := 33
  super := sup
  interfaces := #[]
  cf := none
  fields := #[]
  methods := #[]
  instanceTypes := #[]
  staticTypes := #[]
  resolved := #[]
  callSites := []
  init := .initialized
  statics := none
  mirror := none

def pool0 : Array CpInfo := pool [(5, u "<init>"), (0, u "()V"), (1, .class_ 10), (1, u "java/lang/Object")] 113

def k0m0 : Method := { name := "<init>", desc := "()V", sig := { parameters := [], returnType := none }, accessFlags := 1, code := none }
/-- java/lang/Object -/
def k0 : Class := { plain "java/lang/Object" none with
  accessFlags := 33
  interfaces := #[]
  cf := some (fileOf pool0 8 #[] #[{ accessFlags := 1, nameIndex := 5, descriptorIndex := 6, attributes := #[] }] 33 0 #[] #[])
  fields := #[]
  methods := #[k0m0]
  instanceTypes := #[]
  staticTypes := #[]
  resolved := Array.replicate 124 none
  statics := none }

def pool1 : Array CpInfo := pool [(2, .class_ 4), (1, u "java/lang/Object"), (0, u "<init>"), (0, u "()V"), (0, .methodref 8 9), (0, .class_ 10), (0, .nameAndType 11 12), (0, u "com/example/idly/idly/io/IdlScannerIsSpacePinLaw"), (0, u "pick"), (0, u "(II)I"), (0, .long 9), (1, .long 32), (1, .methodref 18 19), (0, .class_ 20), (0, .nameAndType 21 22), (0, u "com/example/idly/idly/io/IdlScanner"), (0, u "isSpace"), (0, u "(I)Z"), (0, .integer 65535), (0, .integer 65536), (2, u "law"), (0, u "(II)Z")] 3

def k1m0 : Method := { name := "<init>", desc := "()V", sig := { parameters := [], returnType := none }, accessFlags := 2, code := none }
def k1c1 : Code := { maxStack := 6, maxLocals := 4, code := code, exceptionTable := #[], attributes := #[] }
def k1m1 : Method := { name := "law", desc := "(II)Z", sig := { parameters := [.int, .int], returnType := some .boolean }, accessFlags := 9, code := some k1c1 }
def k1c2 : Code := { maxStack := 4, maxLocals := 4, code := method_3_code, exceptionTable := #[], attributes := #[] }
def k1m2 : Method := { name := "pick", desc := "(II)I", sig := { parameters := [.int, .int], returnType := some .int }, accessFlags := 10, code := some k1c2 }
/-- com/example/idly/idly/io/IdlScannerIsSpacePinLaw -/
def k1 : Class := { plain "com/example/idly/idly/io/IdlScannerIsSpacePinLaw" (some 0) with
  accessFlags := 49
  interfaces := #[]
  cf := some (fileOf pool1 8 #[] #[{ accessFlags := 2, nameIndex := 5, descriptorIndex := 6, attributes := #[] }, { accessFlags := 9, nameIndex := 27, descriptorIndex := 28, attributes := #[] }, { accessFlags := 10, nameIndex := 11, descriptorIndex := 12, attributes := #[] }] 49 2 #[] #[])
  fields := #[]
  methods := #[k1m0, k1m1, k1m2]
  instanceTypes := #[]
  staticTypes := #[]
  resolved := Array.replicate 32 none
  statics := none }

def pool2 : Array CpInfo := pool [(2, .class_ 4), (1, u "java/lang/Object"), (3, .class_ 10), (1, u "com/example/idly/idly/io/IdlScanner"), (0, u "line"), (0, u "I"), (2, u "column"), (2, u "sourceName"), (0, u "Ljava/lang/String;"), (2, u "text"), (0, .class_ 24), (0, u "com/example/idly/idly/io/IdlScanner$Mark"), (2, u "position"), (49, u "isSpace"), (0, u "(I)Z"), (155, u "TEXT_BLOCK_QUOTES")] 69

def k2c0 : Code := { maxStack := 2, maxLocals := 1, code := prog_11_method_28_code, exceptionTable := #[], attributes := #[] }
def k2m0 : Method := { name := "isSpace", desc := "(I)Z", sig := { parameters := [.int], returnType := some .boolean }, accessFlags := 8, code := some k2c0 }
/-- com/example/idly/idly/io/IdlScanner -/
def k2 : Class := { plain "com/example/idly/idly/io/IdlScanner" (some 0) with
  accessFlags := 48
  interfaces := #[]
  cf := some (fileOf pool2 8 #[.nestMembers #[23]] #[{ accessFlags := 8, nameIndex := 77, descriptorIndex := 78, attributes := #[] }] 48 2 #[] #[{ accessFlags := 26, nameIndex := 234, descriptorIndex := 19, attributes := #[] }, { accessFlags := 18, nameIndex := 18, descriptorIndex := 19, attributes := #[] }, { accessFlags := 18, nameIndex := 22, descriptorIndex := 19, attributes := #[] }, { accessFlags := 2, nameIndex := 27, descriptorIndex := 12, attributes := #[] }, { accessFlags := 2, nameIndex := 11, descriptorIndex := 12, attributes := #[] }, { accessFlags := 2, nameIndex := 15, descriptorIndex := 12, attributes := #[] }])
  fields := #[{ name := "TEXT_BLOCK_QUOTES", type := (.object "java/lang/String"), accessFlags := 26, slot := 0, constantValue := 0 }, { name := "sourceName", type := (.object "java/lang/String"), accessFlags := 18, slot := 0, constantValue := 0 }, { name := "text", type := (.object "java/lang/String"), accessFlags := 18, slot := 1, constantValue := 0 }, { name := "position", type := .int, accessFlags := 2, slot := 2, constantValue := 0 }, { name := "line", type := .int, accessFlags := 2, slot := 3, constantValue := 0 }, { name := "column", type := .int, accessFlags := 2, slot := 4, constantValue := 0 }]
  methods := #[k2m0]
  instanceTypes := #[(.object "java/lang/String"), (.object "java/lang/String"), .int, .int, .int]
  staticTypes := #[(.object "java/lang/String")]
  resolved := Array.replicate 304 none
  statics := none }

def pool3 : Array CpInfo := pool [(1, u "java/lang/Cloneable"), (0, .class_ 1), (0, u "java/lang/Object"), (0, .class_ 3)] 3

/-- java/lang/Cloneable -/
def k3 : Class := { plain "java/lang/Cloneable" (some 0) with
  accessFlags := 1537
  interfaces := #[]
  cf := some (fileOf pool3 2 #[] #[] 1537 4 #[] #[])
  fields := #[]
  methods := #[]
  instanceTypes := #[]
  staticTypes := #[]
  resolved := Array.replicate 8 none
  statics := none }

def pool4 : Array CpInfo := pool [(1, u "java/io/Serializable"), (0, .class_ 1), (0, u "java/lang/Object"), (0, .class_ 3)] 3

/-- java/io/Serializable -/
def k4 : Class := { plain "java/io/Serializable" (some 0) with
  accessFlags := 1537
  interfaces := #[]
  cf := some (fileOf pool4 2 #[] #[] 1537 4 #[] #[])
  fields := #[]
  methods := #[]
  instanceTypes := #[]
  staticTypes := #[]
  resolved := Array.replicate 8 none
  statics := none }

/-- the primitive byte -/
def k5 : Class := { plain "byte" none with kind := .primitive 'B', accessFlags := 0x411 }
/-- [B -/
def k6 : Class := { plain "[B" (some 0) with kind := .array 5 .byte, interfaces := #[3, 4], accessFlags := 1041 }

/-- the primitive int -/
def k7 : Class := { plain "int" none with kind := .primitive 'I', accessFlags := 0x411 }
/-- [I -/
def k8 : Class := { plain "[I" (some 0) with kind := .array 7 .int, interfaces := #[3, 4], accessFlags := 1041 }

def heap : Heap := #[]
def classes : Array Class := #[k0, k1, k2, k3, k4, k5, k6, k7, k8]
def interned : List (Array UInt16 × Addr) := []
def slotsUsed : Nat := 0
def theMethod : MethodId := ⟨1, 1⟩
def args0 : Array Value := #[.int 5, .int 3]
def aboutOver (below : List Frame) : State where
  vm := { classes := classes, interned := interned.toArray }
  heap := heap
  slotsUsed := slotsUsed
  threads := #[{ frames := .invoking theMethod args0 :: below }]
def below0 : List Frame := [.native { method := ⟨0, 0⟩, args := #[] }]
def about1 : State := aboutOver below0
def p0 : Program := .bare "" "" ""
def e0 : Env := launch0.env 0 0 0
theorem w_frames : about1.frames = Frame.invoking theMethod args0 :: below0 := rfl
set_option maxRecDepth 65536 in
theorem w_args : argsFit about1.vm theMethod args0 = true := by decide +kernel
set_option maxRecDepth 65536 in
theorem w_heap : heapFits about1 = true := by decide +kernel
set_option maxRecDepth 65536 in
theorem w_runnable : about1.curStatus? = some .runnable := by decide +kernel
set_option maxRecDepth 65536 in
theorem w_alone : about1.alone = true := by decide +kernel
set_option maxRecDepth 65536 in
theorem w_named : about1.methodNamed? x = some theMethod := by decide +kernel
set_option maxRecDepth 65536 in
theorem w_hears : about1.hears theMethod below0 = true := by decide +kernel
set_option maxRecDepth 65536 in
theorem w_ripe : about1.ripe theMethod args0 below0 = true := by decide +kernel
theorem w_running : about1.status = .running := rfl
set_option maxRecDepth 65536 in
theorem w_room : about1.hasRoom e0.platform room_1 = true :=
  launch0.hasRoom_least _ room_1 (by decide +kernel) (by decide +kernel) (by decide +kernel) (by decide +kernel) (by decide +kernel) (by decide +kernel)
theorem allAtoms_all (ts : List Jvm.Cond) (a : Array Jvm.Value) (st : Jvm.State) : (allAtoms ts).before a st = ts.all (fun c => c.before a st) := by
  induction ts with
  | nil => rfl
  | cons c t ih =>
    show (Jvm.Cond.and c (allAtoms t)).before a st = _
    rw [Jvm.Cond.before_and, ih, List.all_cons]
def words1 : List Jvm.Cond := Jvm.Cond.code x code maxLocals ret :: tables_1
/-- a 'code' word, met by the world's own term for the bytes: nothing is compared byte by byte -/
theorem code_word {y : MethodName} {bytes : ByteArray} {mx : Nat} {rt : Option FieldType} {a : Array Value} {s : State} {m : MethodId} {meth : Method} {c : Code} (h1 : s.methodNamed? y = some m) (h2 : s.vm.method? m = some meth) (h3 : meth.code = some c) (h4 : c.code = bytes)
    (h5 : (c.maxLocals == mx && c.exceptionTable.isEmpty && decide (c.maxStack ≤ mostOperands) && decide (meth.sig.returnType = rt) && !meth.locks && decide (parseMethodDescriptor y.desc = some meth.sig)) = true) : (Jvm.Cond.code y bytes mx rt).before a s = true := by
  simp only [Bool.and_eq_true, beq_iff_eq, Bool.not_eq_true', decide_eq_true_eq] at h5
  obtain ⟨⟨⟨⟨⟨g1, g2⟩, g3⟩, g4⟩, g5⟩, g6⟩ := h5
  simp [Cond.before, Cond.holds, Cond.value, h1, h2, h3, h4, g1, g2, g3, g4, g5, g6]
def isCode : Jvm.Cond → Bool
  | .code _ _ _ _ => true
  | _ => false
theorem all_split {L : List Jvm.Cond} {P : Jvm.Cond → Bool} (h1 : L.all (fun c => isCode c || P c) = true) (h2 : ∀ c ∈ L.filter isCode, P c = true) : L.all P = true := by
  refine List.all_eq_true.mpr fun c hc => ?_
  have h := List.all_eq_true.mp h1 c hc
  rcases Bool.eq_false_or_eq_true (isCode c) with hi | hi
  · exact h2 c (List.mem_filter.mpr ⟨hc, hi⟩)
  · simpa [hi] using h
set_option maxRecDepth 65536 in
theorem w_c0 : (Jvm.Cond.code x code maxLocals ret).before args0 about1 = true := code_word (m := ⟨1, 1⟩) (meth := k1m1) (c := k1c1) (by decide +kernel) rfl rfl rfl (by decide +kernel)
set_option maxRecDepth 65536 in
theorem w_c1 : (Jvm.Cond.code ({ cls := "com/example/idly/idly/io/IdlScannerIsSpacePinLaw", name := "pick", desc := "(II)I" } : Jvm.MethodName) method_3_code (4 : Nat) (Option.some Jvm.ClassFile.FieldType.int)).before args0 about1 = true := code_word (m := ⟨1, 2⟩) (meth := k1m2) (c := k1c2) (by decide +kernel) rfl rfl rfl (by decide +kernel)
set_option maxRecDepth 65536 in
theorem w_c2 : (Jvm.Cond.code ({ cls := "com/example/idly/idly/io/IdlScanner", name := "isSpace", desc := "(I)Z" } : Jvm.MethodName) prog_11_method_28_code (1 : Nat) (Option.some Jvm.ClassFile.FieldType.boolean)).before args0 about1 = true := code_word (m := ⟨2, 0⟩) (meth := k2m0) (c := k2c0) (by decide +kernel) rfl rfl rfl (by decide +kernel)
def codes1 : List Jvm.Cond := [Jvm.Cond.code x code maxLocals ret, Jvm.Cond.code ({ cls := "com/example/idly/idly/io/IdlScannerIsSpacePinLaw", name := "pick", desc := "(II)I" } : Jvm.MethodName) method_3_code (4 : Nat) (Option.some Jvm.ClassFile.FieldType.int), Jvm.Cond.code ({ cls := "com/example/idly/idly/io/IdlScanner", name := "isSpace", desc := "(I)Z" } : Jvm.MethodName) prog_11_method_28_code (1 : Nat) (Option.some Jvm.ClassFile.FieldType.boolean)]
set_option maxRecDepth 65536 in
theorem codes_eq : words1.filter isCode = codes1 := rfl
theorem w_codes : ∀ c ∈ words1.filter isCode, c.before args0 about1 = true := by
  rw [codes_eq]
  intro c hc
  simp only [codes1, List.mem_cons, List.not_mem_nil, or_false] at hc
  rcases hc with rfl | rfl | rfl
  · exact w_c0
  · exact w_c1
  · exact w_c2
set_option maxRecDepth 65536 in
theorem w_t1 : words1.all (fun c => isCode c || c.before args0 about1) = true := by decide +kernel
theorem w_tables : (allAtoms (Jvm.Cond.code x code maxLocals ret :: tables_1)).before args0 about1 = true := by
  rw [allAtoms_all]
  show words1.all (fun c => c.before args0 about1) = true
  refine all_split ?_ w_codes
  rw [w_t1]
set_option maxRecDepth 65536 in
theorem w_case : (Jvm.Cond.and given_1 narrow_1).before args0 about1 = true := by decide +kernel
theorem w_applies : (headSpec (Jvm.Cond.code x code maxLocals ret :: tables_1) room_1).applies x e0.platform about1 = true :=
  (Spec.applies_iff w_frames).mpr ⟨w_running, w_runnable, w_alone, w_named, w_hears, w_ripe, w_room, w_tables⟩
theorem atStart : AtStart classFile x code maxLocals ret World_1 tables_1 room_1 Calls_1 rest_1 Pre_1 launch0 p0 e0 about1 theMethod args0 below0 :=
  ⟨lists_1, trivial, launch0.admits_env _ _ _, launch0.least_env, fairChoices_fair.cas, fairChoices_fair.clock, w_frames, w_args, w_heap, w_applies, trivial, trivial, w_case⟩
end start1
theorem witness_1 : WitnessClaimed_1 := ⟨start1.p0, start1.e0, start1.about1, start1.theMethod, start1.args0, start1.below0, start1.atStart⟩
end Jvm.Pilot.@@N@@
