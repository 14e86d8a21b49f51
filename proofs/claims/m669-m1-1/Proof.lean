import JvmDerived
import JvmDerived.Pilot.@@N@@Statement
import JvmDerived.Pilot.@@N@@Code
set_option linter.unusedVariables false
set_option linter.unusedSimpArgs false
namespace Jvm.RoadKit
open Sem ClassFile Op Lib Jvm.Stand Jvm.Free Jvm.LawKit
section New
variable {p : Program} {l : Launch} {e : Env} {R : Room} {s : State} {m : MethodId} {args : Array Value} {below : List Frame} {meth : Method} {c : Code} {T : State} {locs : List Loc} {cells slots : Nat}
theorem retI (X : Stand p l e R s m args below meth c T locs cells slots) (hx : p.tables.exec = Jvm.exec) {pc : Nat} {Ls : Array Slot} {z : Int32} {rest : List Value} (hret : meth.sig.returnType = some .int) (hd : decode c.code pc = .ok (.ireturn, 1)) {fs : List Frame}
    (hl : ∀ (f : JFrame) (acts : List Action), f.method = m → f.locked = none → f.entered = [] → (doReturn e (T.setTop f) acts (some (.int z))).1 = T.setFrames fs) : Steps p.tables e below (T.setTop (mkF m pc Ls (.int z :: rest))) (T.setFrames fs) := by
  have hm' : T.vm.method? m = some meth := X.method'
  have hn : narrow .int (.int z) = .int z := rfl
  show Steps p.tables e below (T.setTop { method := m, pc := pc, locals := Ls, stack := _ :: rest, locked := none }) _
  jvm_step X.here [X.here.top, hx, hd, hm', hret, hn]
  first | (intro acts; rw [hl _ acts rfl rfl rfl]) | rw [hl _ _ rfl rfl rfl]
  exact Steps.refl _
end New
end Jvm.RoadKit
namespace Jvm.Pilot.@@N@@
open Jvm Jvm.ClassFile Sem Op Lib Jvm.Free Jvm.Stand Jvm.LawKit Jvm.RoadKit Bundle Jvm.Pilot.@@N@@.Jvm.D
/-! 1. own frame of the walks: a goal 'G T f' says: from the state T with the top frame f the body comes to its end as its contract says. G is kept opaque in a walk: own_Pre steps it back, own_Ret ends it. -/
abbrev own_Pre (p : Program) (e : Env) (below : List Frame) (G : State → JFrame → Prop) : Prop :=
  ∀ {T T2 : State} {f f2 : JFrame}, (∀ t, Steps p.tables e below (T2.setTop f2) t → Steps p.tables e below (T.setTop f) t) → G T2 f2 → G T f
abbrev own_Lv (p : Program) (e : Env) (below : List Frame) (m : MethodId) (T : State) (f : JFrame) (v : Option Value) : Prop :=
  ∀ fs, (∀ (f : JFrame) (acts : List Action), f.method = m → f.locked = none → f.entered = [] → (doReturn e (T.setTop f) acts v).1 = T.setFrames fs) → Steps p.tables e below (T.setTop f) (T.setFrames fs)
abbrev own_Ret (p : Program) (l : Launch) (e : Env) (R : Room) (s : State) (m : MethodId) (as' : Array Value) (below : List Frame) (meth : Method) (c : Code) (Q : Option Value → Heap → List Loc → Prop) (C S : Nat) (G : State → JFrame → Prop) : Prop :=
  ∀ {T : State} {locs : List Loc} {cells slots : Nat} {f : JFrame} {v : Option Value}, Stand p l e R s m as' below meth c T locs cells slots → own_Lv p e below m T f v → (meth.sig.returnType = none → v = none) → Q v T.heap locs → cells ≤ C → slots ≤ S → G T f
theorem own_contract {l : Launch} {Z : State} {y : MethodName} {bytes : ByteArray} {maxL : Nat} {ret : Option FieldType} {ws : List Jvm.Cond} {rm : Room} {as' : Array Value} {h0 : Heap} {Q : Option Value → Heap → List Loc → Prop} {Ls : Array Slot}
    (hpl : plainFor y = true) (hef : ∀ m, entryFrame m as' maxL = mkF m 0 Ls [])
    (H : ∀ (p : Program) (e : Env) (s : State) (m : MethodId) (below : List Frame) (meth : Method) (c : Code) (s₁ : State) (G : State → JFrame → Prop),
      p.tables.exec = Jvm.exec → c.code = bytes → c.maxLocals = maxL → s.vm.findClass y.cls = some m.cls → meth.name = y.name → meth.sig.returnType = ret → Z.Warmed39 s.vm →
      Stand p l e rm s m as' below meth c s₁ [] 0 0 → s₁.heap = h0 → own_Pre p e below G → own_Ret p l e rm s m as' below meth c Q rm.cells rm.slots G → G s₁ (mkF m 0 Ls [])) :
    MetFree l y (head1 (Jvm.Cond.code y bytes maxL ret :: ws) rm) (fun a U => a = as' ∧ Z.Warmed39 U.vm ∧ U.heap = h0) (fun _ _ _ _ _ => True) (fun _ U o U' => ∃ v L, o = .returned v ∧ Q v U'.heap L ∧ FrameEnd U o U' L rm.cells rm.slots) := by
  refine MetFree.of_bodySF hpl hisR ?_
  intro p e s m args below meth c s₁ Bd hml0 hP hK
  obtain ⟨rfl, hZ, hh⟩ := hP
  have X0 : Stand p l e rm s m args below meth c s₁ [] 0 0 := Stand.of_body Bd
  have e0 : s₁.heap = h0 := by rw [← hh, Bd.state]; rfl
  obtain ⟨T', locs, cells, slots, v, X, hst, hv, hQ, hc, hs⟩ := H p e s m below meth c s₁
    (fun T f => ∃ (T' : State) (locs : List Loc) (cells slots : Nat) (v : Option Value), Stand p l e rm s m args below meth c T' locs cells slots ∧
      (∀ fs, (∀ (f : JFrame) (acts : List Action), f.method = m → f.locked = none → f.entered = [] → (doReturn e (T'.setTop f) acts v).1 = T'.setFrames fs) → Steps p.tables e below (T.setTop f) (T'.setFrames fs)) ∧
      (meth.sig.returnType = none → v = none) ∧ Q v T'.heap locs ∧ cells ≤ rm.cells ∧ slots ≤ rm.slots)
    Bd.exec Bd.bytes hml0 (findClass_of_methodNamed Bd.named) (name_of_methodNamed Bd.named Bd.method).1 Bd.returns hZ X0 e0
    (fun {T T2 f f2} hs hG => by
      obtain ⟨T', locs, cells, slots, v, X, hst, r⟩ := hG
      exact ⟨T', locs, cells, slots, v, X, fun fs hl => hs _ (hst fs hl), r⟩)
    (fun {T locs cells slots f v} X hl hv hQ hc hs => ⟨T, locs, cells, slots, v, X, hl, hv, hQ, hc, hs⟩)
  obtain ⟨fs, hr, hrun, hended, hW, hsame⟩ := X.leave hv Bd.notSynchronized
  exact ⟨_, _, castTop (hef m) (hst fs hr), hrun, hended, _, _, rfl, hQ, ⟨_, rfl⟩, hW, hsame.mono hc hs⟩
/-- what a body without a write says: its value, nothing old written, the heap as it was -/
abbrev own_Q (r : Option Value) (h0 : Heap) (n0 : Nat) (v : Option Value) (h : Heap) (L : List Loc) : Prop := v = r ∧ Fr n0 L ∧ h = h0
section Calls
variable {p : Program} {l : Launch} {e : Env} {R : Room} {s : State} {m : MethodId} {args : Array Value} {below : List Frame} {meth : Method} {c : Code} {T : State} {locs : List Loc} {cells slots : Nat} {Z : State} {a0 : Array Value} {h : Heap}
theorem own_callS (X : Stand p l e R s m args below meth c T locs cells slots) (hx : p.tables.exec = Jvm.exec) (hZ : Z.Warmed39 s.vm) {own : String} {index : Nat} {y : MethodName} {bytes : ByteArray} {maxL : Nat} {ret : Option FieldType} {rm : Room} {as' : Array Value} {Q : Option Value → Heap → List Loc → Prop}
    (W : Nat) (hown : s.vm.findClass own = some m.cls) (w1 : (Cond.methodLink own index y).before a0 Z = true) (w2 : (Cond.static y).before a0 Z = true) (w3 : (Cond.initialized y.cls).before a0 Z = true) (w4 : (Cond.code y bytes maxL ret).before a0 Z = true)
    (hy : y.cls ≠ "java/lang/invoke/MethodHandle" ∧ y.cls ≠ "java/lang/invoke/VarHandle")
    (hM : MetFree l y (head1 [Cond.code y bytes maxL ret] rm) (fun a U => a = as' ∧ Z.Warmed39 U.vm ∧ U.heap = h) (fun _ _ _ _ _ => True) (fun _ U o U' => ∃ v L, o = .returned v ∧ Q v U'.heap L ∧ FrameEnd U o U' L rm.cells rm.slots))
    (eT : T.heap = h) (hf : rm.frames + 1 ≤ R.frames) (hl : W + (maxL + 11) + rm.locals ≤ R.locals) {g : JFrame} (hg : g.method = m) (hsize : g.locals.size = c.maxLocals) (argsL rest : List Value) {ps : List FieldType} {r : Option FieldType}
    (hd : parseMethodDescriptor y.desc = some ⟨ps, r⟩) (hlen : argsL.length = ps.length) (hstack : g.stack = argsL.reverse ++ rest) (hW : 2 * g.monitorRoom + (rest.map fun v => v.category).sum ≤ W) (hdg : decode c.code g.pc = .ok (.invokestatic index, 3))
    (has : argsL.toArray = as') (hc : cells + rm.cells ≤ R.cells) (hs : slots + rm.slots ≤ R.slots) :
    ∃ (v : Option Value) (T' : State) (L : List Loc), Stand p l e R s m args below meth c T' (locs ++ L) (cells + rm.cells) (slots + rm.slots) ∧ Q v T'.heap L ∧
      ∀ t, Steps p.tables e below (T'.setTop { g with pc := g.pc + 3, stack := v.toList ++ rest }) t → Steps p.tables e below (T.setTop g) t := by
  obtain ⟨v, _, ⟨T', L', k', n'⟩, -, X', ⟨Lc, hQ, l', y', z'⟩, st⟩ := Jvm.LawKit.callS X hx (y := y) hown (mvT hZ w1) (mvT hZ w2) (mvT hZ w3) (mvT hZ w4) hy (backOf (W := W) hM hZ w4 w3 hf hl) hg hsize (argsL := argsL) (rest := rest) (lenOf hd hlen) hstack hW hdg (fun _ _ => ⟨has, eT, hc, hs⟩)
  dsimp only [Pt.U, Pt.locs, Pt.cells, Pt.slots] at X' l' y' z' st hQ
  subst l' y' z'
  exact ⟨v, T', Lc, X', hQ, st⟩
theorem own_callI (X : Stand p l e R s m args below meth c T locs cells slots) (hx : p.tables.exec = Jvm.exec) (hZ : Z.Warmed39 s.vm) {own : String} {index : Nat} {y : MethodName} {bytes : ByteArray} {maxL : Nat} {rm : Room} {as' : Array Value} {Q : Option Value → Heap → List Loc → Prop}
    (W : Nat) (hy1 : y.name = "<init>") (hown : s.vm.findClass own = some m.cls) (w1 : (Cond.methodLink own index y).before a0 Z = true) (w2 : (Cond.instanceMethod y).before a0 Z = true) (w3 : (Cond.initialized y.cls).before a0 Z = true) (w4 : (Cond.code y bytes maxL none).before a0 Z = true)
    (hy : y.cls ≠ "java/lang/invoke/MethodHandle" ∧ y.cls ≠ "java/lang/invoke/VarHandle")
    (hM : MetFree l y (head1 [Cond.code y bytes maxL none] rm) (fun a U => a = as' ∧ Z.Warmed39 U.vm ∧ U.heap = h) (fun _ _ _ _ _ => True) (fun _ U o U' => ∃ v L, o = .returned v ∧ Q v U'.heap L ∧ FrameEnd U o U' L rm.cells rm.slots))
    (eT : T.heap = h) (hf : rm.frames + 1 ≤ R.frames) (hl : W + (maxL + 11) + rm.locals ≤ R.locals) {g : JFrame} (hg : g.method = m) (hsize : g.locals.size = c.maxLocals) (a : Addr) (argsL rest : List Value) {ps : List FieldType} {r : Option FieldType}
    (hd : parseMethodDescriptor y.desc = some ⟨ps, r⟩) (hlen : argsL.length = ps.length) (hstack : g.stack = argsL.reverse ++ .ref a :: rest) (hW : 2 * g.monitorRoom + (rest.map fun v => v.category).sum ≤ W) (hdg : decode c.code g.pc = .ok (.invokespecial index, 3))
    (has : (.ref a :: argsL).toArray = as') (hc : cells + rm.cells ≤ R.cells) (hs : slots + rm.slots ≤ R.slots) :
    ∃ (v : Option Value) (T' : State) (L : List Loc), Stand p l e R s m args below meth c T' (locs ++ L) (cells + rm.cells) (slots + rm.slots) ∧ Q v T'.heap L ∧
      ∀ t, Steps p.tables e below (T'.setTop { g with pc := g.pc + 3, stack := v.toList ++ rest }) t → Steps p.tables e below (T.setTop g) t := by
  obtain ⟨v, _, ⟨T', L', k', n'⟩, -, X', ⟨Lc, hQ, l', y', z'⟩, st⟩ := X.specialBack hx (y := y) hy1 hown (mvT hZ w1) (mvT hZ w2) (mvT hZ w4) hy (backOf (W := W) hM hZ w4 w3 hf hl) hg hsize (Steps.refl _) (a := a) (argsL := argsL) (rest := rest) (lenOf hd hlen) hstack hW hdg (fun _ _ => ⟨has, eT, hc, hs⟩)
  dsimp only [Pt.U, Pt.locs, Pt.cells, Pt.slots] at X' l' y' z' st hQ
  subst l' y' z'
  exact ⟨v, T', Lc, X', hQ, fun t k => st.trans k⟩
theorem own_callV (X : Stand p l e R s m args below meth c T locs cells slots) (hx : p.tables.exec = Jvm.exec) (hZ : Z.Warmed39 s.vm) {own C : String} {index : Nat} {y : MethodName} {bytes : ByteArray} {maxL : Nat} {ret : Option FieldType} {rm : Room} {as' : Array Value} {Q : Option Value → Heap → List Loc → Prop}
    (W : Nat) (hown : s.vm.findClass own = some m.cls) (w1 : (Cond.methodLink own index y).before a0 Z = true) (w2 : (Cond.declares y).before a0 Z = true) (w3 : (Cond.selects C y y).before a0 Z = true) (w4 : (Cond.instanceMethod y).before a0 Z = true) (w5 : (Cond.initialized y.cls).before a0 Z = true) (w6 : (Cond.code y bytes maxL ret).before a0 Z = true)
    (hy : y.cls ≠ "java/lang/invoke/MethodHandle" ∧ y.cls ≠ "java/lang/invoke/VarHandle")
    (hM : MetFree l y (head1 [Cond.code y bytes maxL ret] rm) (fun a U => a = as' ∧ Z.Warmed39 U.vm ∧ U.heap = h) (fun _ _ _ _ _ => True) (fun _ U o U' => ∃ v L, o = .returned v ∧ Q v U'.heap L ∧ FrameEnd U o U' L rm.cells rm.slots))
    (eT : T.heap = h) {b : Addr} (E : Exa Z h b C) (hf : rm.frames + 1 ≤ R.frames) (hl : W + (maxL + 11) + rm.locals ≤ R.locals) {g : JFrame} (hg : g.method = m) (hsize : g.locals.size = c.maxLocals) (argsL rest : List Value) {ps : List FieldType} {r : Option FieldType}
    (hd : parseMethodDescriptor y.desc = some ⟨ps, r⟩) (hlen : argsL.length = ps.length) (hstack : g.stack = argsL.reverse ++ .ref b :: rest) (hW : 2 * g.monitorRoom + (rest.map fun v => v.category).sum ≤ W) (hdg : decode c.code g.pc = .ok (.invokevirtual index, 3))
    (has : (.ref b :: argsL).toArray = as') (hc : cells + rm.cells ≤ R.cells) (hs : slots + rm.slots ≤ R.slots) :
    ∃ (v : Option Value) (T' : State) (L : List Loc), Stand p l e R s m args below meth c T' (locs ++ L) (cells + rm.cells) (slots + rm.slots) ∧ Q v T'.heap L ∧
      ∀ t, Steps p.tables e below (T'.setTop { g with pc := g.pc + 3, stack := v.toList ++ rest }) t → Steps p.tables e below (T.setTop g) t := by
  obtain ⟨cq, kq, qa, qb, qc⟩ := isOf hZ eT E
  obtain ⟨v, _, ⟨T', L', k', n'⟩, -, X', ⟨Lc, hQ, l', y', z'⟩, st⟩ := X.virtualBack hx (y := y) (z := y) hown (mvT hZ w1) (mvT hZ w2) (notFace_of_selects (args := #[]) (mvT hZ w3)) (mvT hZ w3) (mvT hZ w4) hy (backOf (W := W) hM hZ w6 w5 hf hl) qa qc hg hsize (Steps.refl _) (argsL := argsL) (rest := rest) (lenOf hd hlen) hstack hW hdg (fun _ _ => ⟨has, eT, hc, hs⟩)
  dsimp only [Pt.U, Pt.locs, Pt.cells, Pt.slots] at X' l' y' z' st hQ
  subst l' y' z'
  exact ⟨v, T', Lc, X', hQ, fun t k => st.trans k⟩
end Calls
theorem own_lrem {tb : Tables} [Ours tb] {e : Env} {below : List Frame} {T target : State} {m : MethodId} {c : Code} {g : JFrame} (h : At T m c below) (hx : tb.exec = Jvm.exec) (hg : g.method = m) {x y : Int64} {rest : List Value} (hd : decode c.code g.pc = .ok (.lrem, 1)) (hs : g.stack = .long y :: .long x :: rest) (hy : y ≠ 0)
    (hr : Steps tb e below (T.setTop { g with pc := g.pc + 1, stack := .long (x % y) :: rest }) target) : Steps tb e below (T.setTop g) target := XS.lrem h hx hg hd hs hy (by rw [lrem_mod]; exact hr)
theorem own_pd0 : parseMethodDescriptor "(I)Z" = some ⟨[.int], some .boolean⟩ := by decide +kernel
theorem d1_0 : decode prog_125_method_7_code 0 = .ok (.iload_n 0, 1) := by decide +kernel
theorem d1_1 : decode prog_125_method_7_code 1 = .ok (.bipush 32, 2) := by decide +kernel
theorem d1_3 : decode prog_125_method_7_code 3 = .ok (.if_icmp .lt 79, 3) := by decide +kernel
theorem d1_6 : decode prog_125_method_7_code 6 = .ok (.iload_n 0, 1) := by decide +kernel
theorem d1_7 : decode prog_125_method_7_code 7 = .ok (.bipush 127, 2) := by decide +kernel
theorem d1_9 : decode prog_125_method_7_code 9 = .ok (.if_icmp .lt 10, 3) := by decide +kernel
theorem d1_12 : decode prog_125_method_7_code 12 = .ok (.iload_n 0, 1) := by decide +kernel
theorem d1_13 : decode prog_125_method_7_code 13 = .ok (.sipush 160, 3) := by decide +kernel
theorem d1_16 : decode prog_125_method_7_code 16 = .ok (.if_icmp .lt 66, 3) := by decide +kernel
theorem d1_19 : decode prog_125_method_7_code 19 = .ok (.iload_n 0, 1) := by decide +kernel
theorem d1_20 : decode prog_125_method_7_code 20 = .ok (.sipush 8232, 3) := by decide +kernel
theorem d1_23 : decode prog_125_method_7_code 23 = .ok (.if_icmp .eq 59, 3) := by decide +kernel
theorem d1_26 : decode prog_125_method_7_code 26 = .ok (.iload_n 0, 1) := by decide +kernel
theorem d1_27 : decode prog_125_method_7_code 27 = .ok (.sipush 8233, 3) := by decide +kernel
theorem d1_30 : decode prog_125_method_7_code 30 = .ok (.if_icmp .eq 52, 3) := by decide +kernel
theorem d1_33 : decode prog_125_method_7_code 33 = .ok (.iload_n 0, 1) := by decide +kernel
theorem d1_34 : decode prog_125_method_7_code 34 = .ok (.sipush 1564, 3) := by decide +kernel
theorem d1_37 : decode prog_125_method_7_code 37 = .ok (.if_icmp .eq 45, 3) := by decide +kernel
theorem d1_40 : decode prog_125_method_7_code 40 = .ok (.iload_n 0, 1) := by decide +kernel
theorem d1_41 : decode prog_125_method_7_code 41 = .ok (.sipush 8206, 3) := by decide +kernel
theorem d1_44 : decode prog_125_method_7_code 44 = .ok (.if_icmp .eq 38, 3) := by decide +kernel
theorem d1_47 : decode prog_125_method_7_code 47 = .ok (.iload_n 0, 1) := by decide +kernel
theorem d1_48 : decode prog_125_method_7_code 48 = .ok (.sipush 8207, 3) := by decide +kernel
theorem d1_51 : decode prog_125_method_7_code 51 = .ok (.if_icmp .eq 31, 3) := by decide +kernel
theorem d1_54 : decode prog_125_method_7_code 54 = .ok (.iload_n 0, 1) := by decide +kernel
theorem d1_55 : decode prog_125_method_7_code 55 = .ok (.sipush 8234, 3) := by decide +kernel
theorem d1_58 : decode prog_125_method_7_code 58 = .ok (.if_icmp .lt 10, 3) := by decide +kernel
theorem d1_61 : decode prog_125_method_7_code 61 = .ok (.iload_n 0, 1) := by decide +kernel
theorem d1_62 : decode prog_125_method_7_code 62 = .ok (.sipush 8238, 3) := by decide +kernel
theorem d1_65 : decode prog_125_method_7_code 65 = .ok (.if_icmp .le 17, 3) := by decide +kernel
theorem d1_68 : decode prog_125_method_7_code 68 = .ok (.iload_n 0, 1) := by decide +kernel
theorem d1_69 : decode prog_125_method_7_code 69 = .ok (.sipush 8294, 3) := by decide +kernel
theorem d1_72 : decode prog_125_method_7_code 72 = .ok (.if_icmp .lt 14, 3) := by decide +kernel
theorem d1_75 : decode prog_125_method_7_code 75 = .ok (.iload_n 0, 1) := by decide +kernel
theorem d1_76 : decode prog_125_method_7_code 76 = .ok (.sipush 8297, 3) := by decide +kernel
theorem d1_79 : decode prog_125_method_7_code 79 = .ok (.if_icmp .gt 7, 3) := by decide +kernel
theorem d1_82 : decode prog_125_method_7_code 82 = .ok (.iconst 1, 1) := by decide +kernel
theorem d1_83 : decode prog_125_method_7_code 83 = .ok (.goto 4, 3) := by decide +kernel
theorem d1_86 : decode prog_125_method_7_code 86 = .ok (.iconst 0, 1) := by decide +kernel
theorem d1_87 : decode prog_125_method_7_code 87 = .ok (.ireturn, 1) := by decide +kernel
theorem own_ef1 (m : MethodId) (p0 : Int32) : entryFrame m #[(.int p0)] 1 = mkF m 0 #[.val (.int p0)] [] := by first | (simp [entryFrame, mkF, argsToLocals, Value.category]; done) | rfl
def own_ctl (p0 : Int32) : Int32 := if p0 < (32 : Int32) then (1 : Int32) else if p0 < (127 : Int32) then (if p0 = (8232 : Int32) then (1 : Int32) else if p0 = (8233 : Int32) then (1 : Int32) else if p0 = (1564 : Int32) then (1 : Int32) else if p0 = (8206 : Int32) then (1 : Int32) else if p0 = (8207 : Int32) then (1 : Int32) else if p0 < (8234 : Int32) then (if p0 < (8294 : Int32) then (0 : Int32) else if (8297 : Int32) < p0 then (0 : Int32) else (1 : Int32)) else if (8238 : Int32) < p0 then (if p0 < (8294 : Int32) then (0 : Int32) else if (8297 : Int32) < p0 then (0 : Int32) else (1 : Int32)) else (1 : Int32)) else if p0 < (160 : Int32) then (1 : Int32) else if p0 = (8232 : Int32) then (1 : Int32) else if p0 = (8233 : Int32) then (1 : Int32) else if p0 = (1564 : Int32) then (1 : Int32) else if p0 = (8206 : Int32) then (1 : Int32) else if p0 = (8207 : Int32) then (1 : Int32) else if p0 < (8234 : Int32) then (if p0 < (8294 : Int32) then (0 : Int32) else if (8297 : Int32) < p0 then (0 : Int32) else (1 : Int32)) else if (8238 : Int32) < p0 then (if p0 < (8294 : Int32) then (0 : Int32) else if (8297 : Int32) < p0 then (0 : Int32) else (1 : Int32)) else (1 : Int32)
theorem own_pn1 : plainName "com/example/tracewright/tracewright/TerminalText" = true := by first | (simp [plainName, overriddenIn]; done) | decide +kernel
set_option maxRecDepth 65536 in
set_option maxHeartbeats 40000000 in
theorem rm1 (l : Launch) (Z : State) (a0 : Array Value) (hw : ∀ d ∈ tables_1, d.before a0 Z = true) (ws : List Jvm.Cond) (p0 : Int32) (h0 : Heap) (n0 : Nat)  :
    MetFree l (⟨"com/example/tracewright/tracewright/TerminalText", "isControl", "(I)Z"⟩ : MethodName) (head1 (Jvm.Cond.code (⟨"com/example/tracewright/tracewright/TerminalText", "isControl", "(I)Z"⟩ : MethodName) prog_125_method_7_code 1 (some .boolean) :: ws) ({ frames := 0, cells := 0, slots := 0, locals := 0 } : Room)) (fun a U => a = #[(.int p0)] ∧ Z.Warmed39 U.vm ∧ U.heap = h0) (fun _ _ _ _ _ => True) (fun _ U o U' => ∃ v L, o = .returned v ∧ own_Q (some (.int (own_ctl p0))) h0 n0 v U'.heap L ∧ FrameEnd U o U' L ({ frames := 0, cells := 0, slots := 0, locals := 0 } : Room).cells ({ frames := 0, cells := 0, slots := 0, locals := 0 } : Room).slots) := by
  refine own_contract (plainFor_of_name own_pn1) (fun m => own_ef1 m p0) ?_
  intro p e s m below meth c s₁ G hx hby hml0 hown0 hnm hret hZ X0 e0 hp hR
  have hml : c.maxLocals = 1 := hml0
  have hown : s.vm.findClass "com/example/tracewright/tracewright/TerminalText" = some m.cls := hown0
  have N0 := Fr.nil n0
  show G s₁ (mkF m 0 #[.val (.int p0)] [])
  refine hp (fun tq kq => XS.iloadN X0.here hx rfl (hb hby d1_0) rfl kq) ?_
  show G s₁ (mkF m 1 #[.val (.int p0)] [(.int p0)])
  refine hp (fun tq kq => XS.bipush X0.here hx rfl (hb hby d1_1) kq) ?_
  show G s₁ (mkF m 3 #[.val (.int p0)] [(.int (32 : Int32)), (.int p0)])
  by_cases hb1 : p0 < (32 : Int32)
  · refine hp (fun tq kq => XS.icmpYes X0.here hx rfl (pc0 := 3) (pc' := 82) rfl (hb hby d1_3) rfl (tlt hb1).1 (by decide) (by decide) kq) ?_
    show G s₁ (mkF m 82 #[.val (.int p0)] [])
    refine hp (fun tq kq => XS.iconst X0.here hx rfl (hb hby d1_82) kq) ?_
    show G s₁ (mkF m 83 #[.val (.int p0)] [(.int (1 : Int32))])
    refine hp (fun tq kq => XS.goto X0.here hx rfl (pc0 := 83) (pc' := 87) rfl (hb hby d1_83) (by decide) (by decide) kq) ?_
    show G s₁ (mkF m 87 #[.val (.int p0)] [(.int (1 : Int32))])
    exact hR X0 (fun fs hl => retN X0 hx (t := .boolean) hret (by simp) (hb hby d1_87) hl) (fun q => by rw [hret] at q; cases q) ⟨(congrArg (fun q => some (Value.int q)) (if_pos hb1).symm), N0, e0⟩ (by decide) (by decide)
  · refine hp (fun tq kq => XS.icmpNo X0.here hx rfl (hb hby d1_3) rfl (flt hb1).1 kq) ?_
    show G s₁ (mkF m 6 #[.val (.int p0)] [])
    refine hp (fun tq kq => XS.iloadN X0.here hx rfl (hb hby d1_6) rfl kq) ?_
    show G s₁ (mkF m 7 #[.val (.int p0)] [(.int p0)])
    refine hp (fun tq kq => XS.bipush X0.here hx rfl (hb hby d1_7) kq) ?_
    show G s₁ (mkF m 9 #[.val (.int p0)] [(.int (127 : Int32)), (.int p0)])
    by_cases hb2 : p0 < (127 : Int32)
    · refine hp (fun tq kq => XS.icmpYes X0.here hx rfl (pc0 := 9) (pc' := 19) rfl (hb hby d1_9) rfl (tlt hb2).1 (by decide) (by decide) kq) ?_
      show G s₁ (mkF m 19 #[.val (.int p0)] [])
      refine hp (fun tq kq => XS.iloadN X0.here hx rfl (hb hby d1_19) rfl kq) ?_
      show G s₁ (mkF m 20 #[.val (.int p0)] [(.int p0)])
      refine hp (fun tq kq => XS.sipush X0.here hx rfl (hb hby d1_20) kq) ?_
      show G s₁ (mkF m 23 #[.val (.int p0)] [(.int (8232 : Int32)), (.int p0)])
      by_cases hb3 : p0 = (8232 : Int32)
      · refine hp (fun tq kq => XS.icmpYes X0.here hx rfl (pc0 := 23) (pc' := 82) rfl (hb hby d1_23) rfl (teq hb3).1 (by decide) (by decide) kq) ?_
        show G s₁ (mkF m 82 #[.val (.int p0)] [])
        refine hp (fun tq kq => XS.iconst X0.here hx rfl (hb hby d1_82) kq) ?_
        show G s₁ (mkF m 83 #[.val (.int p0)] [(.int (1 : Int32))])
        refine hp (fun tq kq => XS.goto X0.here hx rfl (pc0 := 83) (pc' := 87) rfl (hb hby d1_83) (by decide) (by decide) kq) ?_
        show G s₁ (mkF m 87 #[.val (.int p0)] [(.int (1 : Int32))])
        exact hR X0 (fun fs hl => retN X0 hx (t := .boolean) hret (by simp) (hb hby d1_87) hl) (fun q => by rw [hret] at q; cases q) ⟨(congrArg (fun q => some (Value.int q)) ((if_neg hb1).trans ((if_pos hb2).trans (if_pos hb3))).symm), N0, e0⟩ (by decide) (by decide)
      · refine hp (fun tq kq => XS.icmpNo X0.here hx rfl (hb hby d1_23) rfl (feq hb3).1 kq) ?_
        show G s₁ (mkF m 26 #[.val (.int p0)] [])
        refine hp (fun tq kq => XS.iloadN X0.here hx rfl (hb hby d1_26) rfl kq) ?_
        show G s₁ (mkF m 27 #[.val (.int p0)] [(.int p0)])
        refine hp (fun tq kq => XS.sipush X0.here hx rfl (hb hby d1_27) kq) ?_
        show G s₁ (mkF m 30 #[.val (.int p0)] [(.int (8233 : Int32)), (.int p0)])
        by_cases hb4 : p0 = (8233 : Int32)
        · refine hp (fun tq kq => XS.icmpYes X0.here hx rfl (pc0 := 30) (pc' := 82) rfl (hb hby d1_30) rfl (teq hb4).1 (by decide) (by decide) kq) ?_
          show G s₁ (mkF m 82 #[.val (.int p0)] [])
          refine hp (fun tq kq => XS.iconst X0.here hx rfl (hb hby d1_82) kq) ?_
          show G s₁ (mkF m 83 #[.val (.int p0)] [(.int (1 : Int32))])
          refine hp (fun tq kq => XS.goto X0.here hx rfl (pc0 := 83) (pc' := 87) rfl (hb hby d1_83) (by decide) (by decide) kq) ?_
          show G s₁ (mkF m 87 #[.val (.int p0)] [(.int (1 : Int32))])
          exact hR X0 (fun fs hl => retN X0 hx (t := .boolean) hret (by simp) (hb hby d1_87) hl) (fun q => by rw [hret] at q; cases q) ⟨(congrArg (fun q => some (Value.int q)) ((if_neg hb1).trans ((if_pos hb2).trans ((if_neg hb3).trans (if_pos hb4)))).symm), N0, e0⟩ (by decide) (by decide)
        · refine hp (fun tq kq => XS.icmpNo X0.here hx rfl (hb hby d1_30) rfl (feq hb4).1 kq) ?_
          show G s₁ (mkF m 33 #[.val (.int p0)] [])
          refine hp (fun tq kq => XS.iloadN X0.here hx rfl (hb hby d1_33) rfl kq) ?_
          show G s₁ (mkF m 34 #[.val (.int p0)] [(.int p0)])
          refine hp (fun tq kq => XS.sipush X0.here hx rfl (hb hby d1_34) kq) ?_
          show G s₁ (mkF m 37 #[.val (.int p0)] [(.int (1564 : Int32)), (.int p0)])
          by_cases hb5 : p0 = (1564 : Int32)
          · refine hp (fun tq kq => XS.icmpYes X0.here hx rfl (pc0 := 37) (pc' := 82) rfl (hb hby d1_37) rfl (teq hb5).1 (by decide) (by decide) kq) ?_
            show G s₁ (mkF m 82 #[.val (.int p0)] [])
            refine hp (fun tq kq => XS.iconst X0.here hx rfl (hb hby d1_82) kq) ?_
            show G s₁ (mkF m 83 #[.val (.int p0)] [(.int (1 : Int32))])
            refine hp (fun tq kq => XS.goto X0.here hx rfl (pc0 := 83) (pc' := 87) rfl (hb hby d1_83) (by decide) (by decide) kq) ?_
            show G s₁ (mkF m 87 #[.val (.int p0)] [(.int (1 : Int32))])
            exact hR X0 (fun fs hl => retN X0 hx (t := .boolean) hret (by simp) (hb hby d1_87) hl) (fun q => by rw [hret] at q; cases q) ⟨(congrArg (fun q => some (Value.int q)) ((if_neg hb1).trans ((if_pos hb2).trans ((if_neg hb3).trans ((if_neg hb4).trans (if_pos hb5))))).symm), N0, e0⟩ (by decide) (by decide)
          · refine hp (fun tq kq => XS.icmpNo X0.here hx rfl (hb hby d1_37) rfl (feq hb5).1 kq) ?_
            show G s₁ (mkF m 40 #[.val (.int p0)] [])
            refine hp (fun tq kq => XS.iloadN X0.here hx rfl (hb hby d1_40) rfl kq) ?_
            show G s₁ (mkF m 41 #[.val (.int p0)] [(.int p0)])
            refine hp (fun tq kq => XS.sipush X0.here hx rfl (hb hby d1_41) kq) ?_
            show G s₁ (mkF m 44 #[.val (.int p0)] [(.int (8206 : Int32)), (.int p0)])
            by_cases hb6 : p0 = (8206 : Int32)
            · refine hp (fun tq kq => XS.icmpYes X0.here hx rfl (pc0 := 44) (pc' := 82) rfl (hb hby d1_44) rfl (teq hb6).1 (by decide) (by decide) kq) ?_
              show G s₁ (mkF m 82 #[.val (.int p0)] [])
              refine hp (fun tq kq => XS.iconst X0.here hx rfl (hb hby d1_82) kq) ?_
              show G s₁ (mkF m 83 #[.val (.int p0)] [(.int (1 : Int32))])
              refine hp (fun tq kq => XS.goto X0.here hx rfl (pc0 := 83) (pc' := 87) rfl (hb hby d1_83) (by decide) (by decide) kq) ?_
              show G s₁ (mkF m 87 #[.val (.int p0)] [(.int (1 : Int32))])
              exact hR X0 (fun fs hl => retN X0 hx (t := .boolean) hret (by simp) (hb hby d1_87) hl) (fun q => by rw [hret] at q; cases q) ⟨(congrArg (fun q => some (Value.int q)) ((if_neg hb1).trans ((if_pos hb2).trans ((if_neg hb3).trans ((if_neg hb4).trans ((if_neg hb5).trans (if_pos hb6)))))).symm), N0, e0⟩ (by decide) (by decide)
            · refine hp (fun tq kq => XS.icmpNo X0.here hx rfl (hb hby d1_44) rfl (feq hb6).1 kq) ?_
              show G s₁ (mkF m 47 #[.val (.int p0)] [])
              refine hp (fun tq kq => XS.iloadN X0.here hx rfl (hb hby d1_47) rfl kq) ?_
              show G s₁ (mkF m 48 #[.val (.int p0)] [(.int p0)])
              refine hp (fun tq kq => XS.sipush X0.here hx rfl (hb hby d1_48) kq) ?_
              show G s₁ (mkF m 51 #[.val (.int p0)] [(.int (8207 : Int32)), (.int p0)])
              by_cases hb7 : p0 = (8207 : Int32)
              · refine hp (fun tq kq => XS.icmpYes X0.here hx rfl (pc0 := 51) (pc' := 82) rfl (hb hby d1_51) rfl (teq hb7).1 (by decide) (by decide) kq) ?_
                show G s₁ (mkF m 82 #[.val (.int p0)] [])
                refine hp (fun tq kq => XS.iconst X0.here hx rfl (hb hby d1_82) kq) ?_
                show G s₁ (mkF m 83 #[.val (.int p0)] [(.int (1 : Int32))])
                refine hp (fun tq kq => XS.goto X0.here hx rfl (pc0 := 83) (pc' := 87) rfl (hb hby d1_83) (by decide) (by decide) kq) ?_
                show G s₁ (mkF m 87 #[.val (.int p0)] [(.int (1 : Int32))])
                exact hR X0 (fun fs hl => retN X0 hx (t := .boolean) hret (by simp) (hb hby d1_87) hl) (fun q => by rw [hret] at q; cases q) ⟨(congrArg (fun q => some (Value.int q)) ((if_neg hb1).trans ((if_pos hb2).trans ((if_neg hb3).trans ((if_neg hb4).trans ((if_neg hb5).trans ((if_neg hb6).trans (if_pos hb7))))))).symm), N0, e0⟩ (by decide) (by decide)
              · refine hp (fun tq kq => XS.icmpNo X0.here hx rfl (hb hby d1_51) rfl (feq hb7).1 kq) ?_
                show G s₁ (mkF m 54 #[.val (.int p0)] [])
                refine hp (fun tq kq => XS.iloadN X0.here hx rfl (hb hby d1_54) rfl kq) ?_
                show G s₁ (mkF m 55 #[.val (.int p0)] [(.int p0)])
                refine hp (fun tq kq => XS.sipush X0.here hx rfl (hb hby d1_55) kq) ?_
                show G s₁ (mkF m 58 #[.val (.int p0)] [(.int (8234 : Int32)), (.int p0)])
                by_cases hb8 : p0 < (8234 : Int32)
                · refine hp (fun tq kq => XS.icmpYes X0.here hx rfl (pc0 := 58) (pc' := 68) rfl (hb hby d1_58) rfl (tlt hb8).1 (by decide) (by decide) kq) ?_
                  show G s₁ (mkF m 68 #[.val (.int p0)] [])
                  refine hp (fun tq kq => XS.iloadN X0.here hx rfl (hb hby d1_68) rfl kq) ?_
                  show G s₁ (mkF m 69 #[.val (.int p0)] [(.int p0)])
                  refine hp (fun tq kq => XS.sipush X0.here hx rfl (hb hby d1_69) kq) ?_
                  show G s₁ (mkF m 72 #[.val (.int p0)] [(.int (8294 : Int32)), (.int p0)])
                  by_cases hb9 : p0 < (8294 : Int32)
                  · refine hp (fun tq kq => XS.icmpYes X0.here hx rfl (pc0 := 72) (pc' := 86) rfl (hb hby d1_72) rfl (tlt hb9).1 (by decide) (by decide) kq) ?_
                    show G s₁ (mkF m 86 #[.val (.int p0)] [])
                    refine hp (fun tq kq => XS.iconst X0.here hx rfl (hb hby d1_86) kq) ?_
                    show G s₁ (mkF m 87 #[.val (.int p0)] [(.int (0 : Int32))])
                    exact hR X0 (fun fs hl => retN X0 hx (t := .boolean) hret (by simp) (hb hby d1_87) hl) (fun q => by rw [hret] at q; cases q) ⟨(congrArg (fun q => some (Value.int q)) ((if_neg hb1).trans ((if_pos hb2).trans ((if_neg hb3).trans ((if_neg hb4).trans ((if_neg hb5).trans ((if_neg hb6).trans ((if_neg hb7).trans ((if_pos hb8).trans (if_pos hb9))))))))).symm), N0, e0⟩ (by decide) (by decide)
                  · refine hp (fun tq kq => XS.icmpNo X0.here hx rfl (hb hby d1_72) rfl (flt hb9).1 kq) ?_
                    show G s₁ (mkF m 75 #[.val (.int p0)] [])
                    refine hp (fun tq kq => XS.iloadN X0.here hx rfl (hb hby d1_75) rfl kq) ?_
                    show G s₁ (mkF m 76 #[.val (.int p0)] [(.int p0)])
                    refine hp (fun tq kq => XS.sipush X0.here hx rfl (hb hby d1_76) kq) ?_
                    show G s₁ (mkF m 79 #[.val (.int p0)] [(.int (8297 : Int32)), (.int p0)])
                    by_cases hb10 : (8297 : Int32) < p0
                    · refine hp (fun tq kq => XS.icmpYes X0.here hx rfl (pc0 := 79) (pc' := 86) rfl (hb hby d1_79) rfl (tlt hb10).2.2.1 (by decide) (by decide) kq) ?_
                      show G s₁ (mkF m 86 #[.val (.int p0)] [])
                      refine hp (fun tq kq => XS.iconst X0.here hx rfl (hb hby d1_86) kq) ?_
                      show G s₁ (mkF m 87 #[.val (.int p0)] [(.int (0 : Int32))])
                      exact hR X0 (fun fs hl => retN X0 hx (t := .boolean) hret (by simp) (hb hby d1_87) hl) (fun q => by rw [hret] at q; cases q) ⟨(congrArg (fun q => some (Value.int q)) ((if_neg hb1).trans ((if_pos hb2).trans ((if_neg hb3).trans ((if_neg hb4).trans ((if_neg hb5).trans ((if_neg hb6).trans ((if_neg hb7).trans ((if_pos hb8).trans ((if_neg hb9).trans (if_pos hb10)))))))))).symm), N0, e0⟩ (by decide) (by decide)
                    · refine hp (fun tq kq => XS.icmpNo X0.here hx rfl (hb hby d1_79) rfl (flt hb10).2.2.1 kq) ?_
                      show G s₁ (mkF m 82 #[.val (.int p0)] [])
                      refine hp (fun tq kq => XS.iconst X0.here hx rfl (hb hby d1_82) kq) ?_
                      show G s₁ (mkF m 83 #[.val (.int p0)] [(.int (1 : Int32))])
                      refine hp (fun tq kq => XS.goto X0.here hx rfl (pc0 := 83) (pc' := 87) rfl (hb hby d1_83) (by decide) (by decide) kq) ?_
                      show G s₁ (mkF m 87 #[.val (.int p0)] [(.int (1 : Int32))])
                      exact hR X0 (fun fs hl => retN X0 hx (t := .boolean) hret (by simp) (hb hby d1_87) hl) (fun q => by rw [hret] at q; cases q) ⟨(congrArg (fun q => some (Value.int q)) ((if_neg hb1).trans ((if_pos hb2).trans ((if_neg hb3).trans ((if_neg hb4).trans ((if_neg hb5).trans ((if_neg hb6).trans ((if_neg hb7).trans ((if_pos hb8).trans ((if_neg hb9).trans (if_neg hb10)))))))))).symm), N0, e0⟩ (by decide) (by decide)
                · refine hp (fun tq kq => XS.icmpNo X0.here hx rfl (hb hby d1_58) rfl (flt hb8).1 kq) ?_
                  show G s₁ (mkF m 61 #[.val (.int p0)] [])
                  refine hp (fun tq kq => XS.iloadN X0.here hx rfl (hb hby d1_61) rfl kq) ?_
                  show G s₁ (mkF m 62 #[.val (.int p0)] [(.int p0)])
                  refine hp (fun tq kq => XS.sipush X0.here hx rfl (hb hby d1_62) kq) ?_
                  show G s₁ (mkF m 65 #[.val (.int p0)] [(.int (8238 : Int32)), (.int p0)])
                  by_cases hb11 : (8238 : Int32) < p0
                  · refine hp (fun tq kq => XS.icmpNo X0.here hx rfl (hb hby d1_65) rfl (tlt hb11).2.2.2 kq) ?_
                    show G s₁ (mkF m 68 #[.val (.int p0)] [])
                    refine hp (fun tq kq => XS.iloadN X0.here hx rfl (hb hby d1_68) rfl kq) ?_
                    show G s₁ (mkF m 69 #[.val (.int p0)] [(.int p0)])
                    refine hp (fun tq kq => XS.sipush X0.here hx rfl (hb hby d1_69) kq) ?_
                    show G s₁ (mkF m 72 #[.val (.int p0)] [(.int (8294 : Int32)), (.int p0)])
                    by_cases hb12 : p0 < (8294 : Int32)
                    · refine hp (fun tq kq => XS.icmpYes X0.here hx rfl (pc0 := 72) (pc' := 86) rfl (hb hby d1_72) rfl (tlt hb12).1 (by decide) (by decide) kq) ?_
                      show G s₁ (mkF m 86 #[.val (.int p0)] [])
                      refine hp (fun tq kq => XS.iconst X0.here hx rfl (hb hby d1_86) kq) ?_
                      show G s₁ (mkF m 87 #[.val (.int p0)] [(.int (0 : Int32))])
                      exact hR X0 (fun fs hl => retN X0 hx (t := .boolean) hret (by simp) (hb hby d1_87) hl) (fun q => by rw [hret] at q; cases q) ⟨(congrArg (fun q => some (Value.int q)) ((if_neg hb1).trans ((if_pos hb2).trans ((if_neg hb3).trans ((if_neg hb4).trans ((if_neg hb5).trans ((if_neg hb6).trans ((if_neg hb7).trans ((if_neg hb8).trans ((if_pos hb11).trans (if_pos hb12)))))))))).symm), N0, e0⟩ (by decide) (by decide)
                    · refine hp (fun tq kq => XS.icmpNo X0.here hx rfl (hb hby d1_72) rfl (flt hb12).1 kq) ?_
                      show G s₁ (mkF m 75 #[.val (.int p0)] [])
                      refine hp (fun tq kq => XS.iloadN X0.here hx rfl (hb hby d1_75) rfl kq) ?_
                      show G s₁ (mkF m 76 #[.val (.int p0)] [(.int p0)])
                      refine hp (fun tq kq => XS.sipush X0.here hx rfl (hb hby d1_76) kq) ?_
                      show G s₁ (mkF m 79 #[.val (.int p0)] [(.int (8297 : Int32)), (.int p0)])
                      by_cases hb13 : (8297 : Int32) < p0
                      · refine hp (fun tq kq => XS.icmpYes X0.here hx rfl (pc0 := 79) (pc' := 86) rfl (hb hby d1_79) rfl (tlt hb13).2.2.1 (by decide) (by decide) kq) ?_
                        show G s₁ (mkF m 86 #[.val (.int p0)] [])
                        refine hp (fun tq kq => XS.iconst X0.here hx rfl (hb hby d1_86) kq) ?_
                        show G s₁ (mkF m 87 #[.val (.int p0)] [(.int (0 : Int32))])
                        exact hR X0 (fun fs hl => retN X0 hx (t := .boolean) hret (by simp) (hb hby d1_87) hl) (fun q => by rw [hret] at q; cases q) ⟨(congrArg (fun q => some (Value.int q)) ((if_neg hb1).trans ((if_pos hb2).trans ((if_neg hb3).trans ((if_neg hb4).trans ((if_neg hb5).trans ((if_neg hb6).trans ((if_neg hb7).trans ((if_neg hb8).trans ((if_pos hb11).trans ((if_neg hb12).trans (if_pos hb13))))))))))).symm), N0, e0⟩ (by decide) (by decide)
                      · refine hp (fun tq kq => XS.icmpNo X0.here hx rfl (hb hby d1_79) rfl (flt hb13).2.2.1 kq) ?_
                        show G s₁ (mkF m 82 #[.val (.int p0)] [])
                        refine hp (fun tq kq => XS.iconst X0.here hx rfl (hb hby d1_82) kq) ?_
                        show G s₁ (mkF m 83 #[.val (.int p0)] [(.int (1 : Int32))])
                        refine hp (fun tq kq => XS.goto X0.here hx rfl (pc0 := 83) (pc' := 87) rfl (hb hby d1_83) (by decide) (by decide) kq) ?_
                        show G s₁ (mkF m 87 #[.val (.int p0)] [(.int (1 : Int32))])
                        exact hR X0 (fun fs hl => retN X0 hx (t := .boolean) hret (by simp) (hb hby d1_87) hl) (fun q => by rw [hret] at q; cases q) ⟨(congrArg (fun q => some (Value.int q)) ((if_neg hb1).trans ((if_pos hb2).trans ((if_neg hb3).trans ((if_neg hb4).trans ((if_neg hb5).trans ((if_neg hb6).trans ((if_neg hb7).trans ((if_neg hb8).trans ((if_pos hb11).trans ((if_neg hb12).trans (if_neg hb13))))))))))).symm), N0, e0⟩ (by decide) (by decide)
                  · refine hp (fun tq kq => XS.icmpYes X0.here hx rfl (pc0 := 65) (pc' := 82) rfl (hb hby d1_65) rfl (flt hb11).2.2.2 (by decide) (by decide) kq) ?_
                    show G s₁ (mkF m 82 #[.val (.int p0)] [])
                    refine hp (fun tq kq => XS.iconst X0.here hx rfl (hb hby d1_82) kq) ?_
                    show G s₁ (mkF m 83 #[.val (.int p0)] [(.int (1 : Int32))])
                    refine hp (fun tq kq => XS.goto X0.here hx rfl (pc0 := 83) (pc' := 87) rfl (hb hby d1_83) (by decide) (by decide) kq) ?_
                    show G s₁ (mkF m 87 #[.val (.int p0)] [(.int (1 : Int32))])
                    exact hR X0 (fun fs hl => retN X0 hx (t := .boolean) hret (by simp) (hb hby d1_87) hl) (fun q => by rw [hret] at q; cases q) ⟨(congrArg (fun q => some (Value.int q)) ((if_neg hb1).trans ((if_pos hb2).trans ((if_neg hb3).trans ((if_neg hb4).trans ((if_neg hb5).trans ((if_neg hb6).trans ((if_neg hb7).trans ((if_neg hb8).trans (if_neg hb11))))))))).symm), N0, e0⟩ (by decide) (by decide)
    · refine hp (fun tq kq => XS.icmpNo X0.here hx rfl (hb hby d1_9) rfl (flt hb2).1 kq) ?_
      show G s₁ (mkF m 12 #[.val (.int p0)] [])
      refine hp (fun tq kq => XS.iloadN X0.here hx rfl (hb hby d1_12) rfl kq) ?_
      show G s₁ (mkF m 13 #[.val (.int p0)] [(.int p0)])
      refine hp (fun tq kq => XS.sipush X0.here hx rfl (hb hby d1_13) kq) ?_
      show G s₁ (mkF m 16 #[.val (.int p0)] [(.int (160 : Int32)), (.int p0)])
      by_cases hb14 : p0 < (160 : Int32)
      · refine hp (fun tq kq => XS.icmpYes X0.here hx rfl (pc0 := 16) (pc' := 82) rfl (hb hby d1_16) rfl (tlt hb14).1 (by decide) (by decide) kq) ?_
        show G s₁ (mkF m 82 #[.val (.int p0)] [])
        refine hp (fun tq kq => XS.iconst X0.here hx rfl (hb hby d1_82) kq) ?_
        show G s₁ (mkF m 83 #[.val (.int p0)] [(.int (1 : Int32))])
        refine hp (fun tq kq => XS.goto X0.here hx rfl (pc0 := 83) (pc' := 87) rfl (hb hby d1_83) (by decide) (by decide) kq) ?_
        show G s₁ (mkF m 87 #[.val (.int p0)] [(.int (1 : Int32))])
        exact hR X0 (fun fs hl => retN X0 hx (t := .boolean) hret (by simp) (hb hby d1_87) hl) (fun q => by rw [hret] at q; cases q) ⟨(congrArg (fun q => some (Value.int q)) ((if_neg hb1).trans ((if_neg hb2).trans (if_pos hb14))).symm), N0, e0⟩ (by decide) (by decide)
      · refine hp (fun tq kq => XS.icmpNo X0.here hx rfl (hb hby d1_16) rfl (flt hb14).1 kq) ?_
        show G s₁ (mkF m 19 #[.val (.int p0)] [])
        refine hp (fun tq kq => XS.iloadN X0.here hx rfl (hb hby d1_19) rfl kq) ?_
        show G s₁ (mkF m 20 #[.val (.int p0)] [(.int p0)])
        refine hp (fun tq kq => XS.sipush X0.here hx rfl (hb hby d1_20) kq) ?_
        show G s₁ (mkF m 23 #[.val (.int p0)] [(.int (8232 : Int32)), (.int p0)])
        by_cases hb15 : p0 = (8232 : Int32)
        · refine hp (fun tq kq => XS.icmpYes X0.here hx rfl (pc0 := 23) (pc' := 82) rfl (hb hby d1_23) rfl (teq hb15).1 (by decide) (by decide) kq) ?_
          show G s₁ (mkF m 82 #[.val (.int p0)] [])
          refine hp (fun tq kq => XS.iconst X0.here hx rfl (hb hby d1_82) kq) ?_
          show G s₁ (mkF m 83 #[.val (.int p0)] [(.int (1 : Int32))])
          refine hp (fun tq kq => XS.goto X0.here hx rfl (pc0 := 83) (pc' := 87) rfl (hb hby d1_83) (by decide) (by decide) kq) ?_
          show G s₁ (mkF m 87 #[.val (.int p0)] [(.int (1 : Int32))])
          exact hR X0 (fun fs hl => retN X0 hx (t := .boolean) hret (by simp) (hb hby d1_87) hl) (fun q => by rw [hret] at q; cases q) ⟨(congrArg (fun q => some (Value.int q)) ((if_neg hb1).trans ((if_neg hb2).trans ((if_neg hb14).trans (if_pos hb15)))).symm), N0, e0⟩ (by decide) (by decide)
        · refine hp (fun tq kq => XS.icmpNo X0.here hx rfl (hb hby d1_23) rfl (feq hb15).1 kq) ?_
          show G s₁ (mkF m 26 #[.val (.int p0)] [])
          refine hp (fun tq kq => XS.iloadN X0.here hx rfl (hb hby d1_26) rfl kq) ?_
          show G s₁ (mkF m 27 #[.val (.int p0)] [(.int p0)])
          refine hp (fun tq kq => XS.sipush X0.here hx rfl (hb hby d1_27) kq) ?_
          show G s₁ (mkF m 30 #[.val (.int p0)] [(.int (8233 : Int32)), (.int p0)])
          by_cases hb16 : p0 = (8233 : Int32)
          · refine hp (fun tq kq => XS.icmpYes X0.here hx rfl (pc0 := 30) (pc' := 82) rfl (hb hby d1_30) rfl (teq hb16).1 (by decide) (by decide) kq) ?_
            show G s₁ (mkF m 82 #[.val (.int p0)] [])
            refine hp (fun tq kq => XS.iconst X0.here hx rfl (hb hby d1_82) kq) ?_
            show G s₁ (mkF m 83 #[.val (.int p0)] [(.int (1 : Int32))])
            refine hp (fun tq kq => XS.goto X0.here hx rfl (pc0 := 83) (pc' := 87) rfl (hb hby d1_83) (by decide) (by decide) kq) ?_
            show G s₁ (mkF m 87 #[.val (.int p0)] [(.int (1 : Int32))])
            exact hR X0 (fun fs hl => retN X0 hx (t := .boolean) hret (by simp) (hb hby d1_87) hl) (fun q => by rw [hret] at q; cases q) ⟨(congrArg (fun q => some (Value.int q)) ((if_neg hb1).trans ((if_neg hb2).trans ((if_neg hb14).trans ((if_neg hb15).trans (if_pos hb16))))).symm), N0, e0⟩ (by decide) (by decide)
          · refine hp (fun tq kq => XS.icmpNo X0.here hx rfl (hb hby d1_30) rfl (feq hb16).1 kq) ?_
            show G s₁ (mkF m 33 #[.val (.int p0)] [])
            refine hp (fun tq kq => XS.iloadN X0.here hx rfl (hb hby d1_33) rfl kq) ?_
            show G s₁ (mkF m 34 #[.val (.int p0)] [(.int p0)])
            refine hp (fun tq kq => XS.sipush X0.here hx rfl (hb hby d1_34) kq) ?_
            show G s₁ (mkF m 37 #[.val (.int p0)] [(.int (1564 : Int32)), (.int p0)])
            by_cases hb17 : p0 = (1564 : Int32)
            · refine hp (fun tq kq => XS.icmpYes X0.here hx rfl (pc0 := 37) (pc' := 82) rfl (hb hby d1_37) rfl (teq hb17).1 (by decide) (by decide) kq) ?_
              show G s₁ (mkF m 82 #[.val (.int p0)] [])
              refine hp (fun tq kq => XS.iconst X0.here hx rfl (hb hby d1_82) kq) ?_
              show G s₁ (mkF m 83 #[.val (.int p0)] [(.int (1 : Int32))])
              refine hp (fun tq kq => XS.goto X0.here hx rfl (pc0 := 83) (pc' := 87) rfl (hb hby d1_83) (by decide) (by decide) kq) ?_
              show G s₁ (mkF m 87 #[.val (.int p0)] [(.int (1 : Int32))])
              exact hR X0 (fun fs hl => retN X0 hx (t := .boolean) hret (by simp) (hb hby d1_87) hl) (fun q => by rw [hret] at q; cases q) ⟨(congrArg (fun q => some (Value.int q)) ((if_neg hb1).trans ((if_neg hb2).trans ((if_neg hb14).trans ((if_neg hb15).trans ((if_neg hb16).trans (if_pos hb17)))))).symm), N0, e0⟩ (by decide) (by decide)
            · refine hp (fun tq kq => XS.icmpNo X0.here hx rfl (hb hby d1_37) rfl (feq hb17).1 kq) ?_
              show G s₁ (mkF m 40 #[.val (.int p0)] [])
              refine hp (fun tq kq => XS.iloadN X0.here hx rfl (hb hby d1_40) rfl kq) ?_
              show G s₁ (mkF m 41 #[.val (.int p0)] [(.int p0)])
              refine hp (fun tq kq => XS.sipush X0.here hx rfl (hb hby d1_41) kq) ?_
              show G s₁ (mkF m 44 #[.val (.int p0)] [(.int (8206 : Int32)), (.int p0)])
              by_cases hb18 : p0 = (8206 : Int32)
              · refine hp (fun tq kq => XS.icmpYes X0.here hx rfl (pc0 := 44) (pc' := 82) rfl (hb hby d1_44) rfl (teq hb18).1 (by decide) (by decide) kq) ?_
                show G s₁ (mkF m 82 #[.val (.int p0)] [])
                refine hp (fun tq kq => XS.iconst X0.here hx rfl (hb hby d1_82) kq) ?_
                show G s₁ (mkF m 83 #[.val (.int p0)] [(.int (1 : Int32))])
                refine hp (fun tq kq => XS.goto X0.here hx rfl (pc0 := 83) (pc' := 87) rfl (hb hby d1_83) (by decide) (by decide) kq) ?_
                show G s₁ (mkF m 87 #[.val (.int p0)] [(.int (1 : Int32))])
                exact hR X0 (fun fs hl => retN X0 hx (t := .boolean) hret (by simp) (hb hby d1_87) hl) (fun q => by rw [hret] at q; cases q) ⟨(congrArg (fun q => some (Value.int q)) ((if_neg hb1).trans ((if_neg hb2).trans ((if_neg hb14).trans ((if_neg hb15).trans ((if_neg hb16).trans ((if_neg hb17).trans (if_pos hb18))))))).symm), N0, e0⟩ (by decide) (by decide)
              · refine hp (fun tq kq => XS.icmpNo X0.here hx rfl (hb hby d1_44) rfl (feq hb18).1 kq) ?_
                show G s₁ (mkF m 47 #[.val (.int p0)] [])
                refine hp (fun tq kq => XS.iloadN X0.here hx rfl (hb hby d1_47) rfl kq) ?_
                show G s₁ (mkF m 48 #[.val (.int p0)] [(.int p0)])
                refine hp (fun tq kq => XS.sipush X0.here hx rfl (hb hby d1_48) kq) ?_
                show G s₁ (mkF m 51 #[.val (.int p0)] [(.int (8207 : Int32)), (.int p0)])
                by_cases hb19 : p0 = (8207 : Int32)
                · refine hp (fun tq kq => XS.icmpYes X0.here hx rfl (pc0 := 51) (pc' := 82) rfl (hb hby d1_51) rfl (teq hb19).1 (by decide) (by decide) kq) ?_
                  show G s₁ (mkF m 82 #[.val (.int p0)] [])
                  refine hp (fun tq kq => XS.iconst X0.here hx rfl (hb hby d1_82) kq) ?_
                  show G s₁ (mkF m 83 #[.val (.int p0)] [(.int (1 : Int32))])
                  refine hp (fun tq kq => XS.goto X0.here hx rfl (pc0 := 83) (pc' := 87) rfl (hb hby d1_83) (by decide) (by decide) kq) ?_
                  show G s₁ (mkF m 87 #[.val (.int p0)] [(.int (1 : Int32))])
                  exact hR X0 (fun fs hl => retN X0 hx (t := .boolean) hret (by simp) (hb hby d1_87) hl) (fun q => by rw [hret] at q; cases q) ⟨(congrArg (fun q => some (Value.int q)) ((if_neg hb1).trans ((if_neg hb2).trans ((if_neg hb14).trans ((if_neg hb15).trans ((if_neg hb16).trans ((if_neg hb17).trans ((if_neg hb18).trans (if_pos hb19)))))))).symm), N0, e0⟩ (by decide) (by decide)
                · refine hp (fun tq kq => XS.icmpNo X0.here hx rfl (hb hby d1_51) rfl (feq hb19).1 kq) ?_
                  show G s₁ (mkF m 54 #[.val (.int p0)] [])
                  refine hp (fun tq kq => XS.iloadN X0.here hx rfl (hb hby d1_54) rfl kq) ?_
                  show G s₁ (mkF m 55 #[.val (.int p0)] [(.int p0)])
                  refine hp (fun tq kq => XS.sipush X0.here hx rfl (hb hby d1_55) kq) ?_
                  show G s₁ (mkF m 58 #[.val (.int p0)] [(.int (8234 : Int32)), (.int p0)])
                  by_cases hb20 : p0 < (8234 : Int32)
                  · refine hp (fun tq kq => XS.icmpYes X0.here hx rfl (pc0 := 58) (pc' := 68) rfl (hb hby d1_58) rfl (tlt hb20).1 (by decide) (by decide) kq) ?_
                    show G s₁ (mkF m 68 #[.val (.int p0)] [])
                    refine hp (fun tq kq => XS.iloadN X0.here hx rfl (hb hby d1_68) rfl kq) ?_
                    show G s₁ (mkF m 69 #[.val (.int p0)] [(.int p0)])
                    refine hp (fun tq kq => XS.sipush X0.here hx rfl (hb hby d1_69) kq) ?_
                    show G s₁ (mkF m 72 #[.val (.int p0)] [(.int (8294 : Int32)), (.int p0)])
                    by_cases hb21 : p0 < (8294 : Int32)
                    · refine hp (fun tq kq => XS.icmpYes X0.here hx rfl (pc0 := 72) (pc' := 86) rfl (hb hby d1_72) rfl (tlt hb21).1 (by decide) (by decide) kq) ?_
                      show G s₁ (mkF m 86 #[.val (.int p0)] [])
                      refine hp (fun tq kq => XS.iconst X0.here hx rfl (hb hby d1_86) kq) ?_
                      show G s₁ (mkF m 87 #[.val (.int p0)] [(.int (0 : Int32))])
                      exact hR X0 (fun fs hl => retN X0 hx (t := .boolean) hret (by simp) (hb hby d1_87) hl) (fun q => by rw [hret] at q; cases q) ⟨(congrArg (fun q => some (Value.int q)) ((if_neg hb1).trans ((if_neg hb2).trans ((if_neg hb14).trans ((if_neg hb15).trans ((if_neg hb16).trans ((if_neg hb17).trans ((if_neg hb18).trans ((if_neg hb19).trans ((if_pos hb20).trans (if_pos hb21)))))))))).symm), N0, e0⟩ (by decide) (by decide)
                    · refine hp (fun tq kq => XS.icmpNo X0.here hx rfl (hb hby d1_72) rfl (flt hb21).1 kq) ?_
                      show G s₁ (mkF m 75 #[.val (.int p0)] [])
                      refine hp (fun tq kq => XS.iloadN X0.here hx rfl (hb hby d1_75) rfl kq) ?_
                      show G s₁ (mkF m 76 #[.val (.int p0)] [(.int p0)])
                      refine hp (fun tq kq => XS.sipush X0.here hx rfl (hb hby d1_76) kq) ?_
                      show G s₁ (mkF m 79 #[.val (.int p0)] [(.int (8297 : Int32)), (.int p0)])
                      by_cases hb22 : (8297 : Int32) < p0
                      · refine hp (fun tq kq => XS.icmpYes X0.here hx rfl (pc0 := 79) (pc' := 86) rfl (hb hby d1_79) rfl (tlt hb22).2.2.1 (by decide) (by decide) kq) ?_
                        show G s₁ (mkF m 86 #[.val (.int p0)] [])
                        refine hp (fun tq kq => XS.iconst X0.here hx rfl (hb hby d1_86) kq) ?_
                        show G s₁ (mkF m 87 #[.val (.int p0)] [(.int (0 : Int32))])
                        exact hR X0 (fun fs hl => retN X0 hx (t := .boolean) hret (by simp) (hb hby d1_87) hl) (fun q => by rw [hret] at q; cases q) ⟨(congrArg (fun q => some (Value.int q)) ((if_neg hb1).trans ((if_neg hb2).trans ((if_neg hb14).trans ((if_neg hb15).trans ((if_neg hb16).trans ((if_neg hb17).trans ((if_neg hb18).trans ((if_neg hb19).trans ((if_pos hb20).trans ((if_neg hb21).trans (if_pos hb22))))))))))).symm), N0, e0⟩ (by decide) (by decide)
                      · refine hp (fun tq kq => XS.icmpNo X0.here hx rfl (hb hby d1_79) rfl (flt hb22).2.2.1 kq) ?_
                        show G s₁ (mkF m 82 #[.val (.int p0)] [])
                        refine hp (fun tq kq => XS.iconst X0.here hx rfl (hb hby d1_82) kq) ?_
                        show G s₁ (mkF m 83 #[.val (.int p0)] [(.int (1 : Int32))])
                        refine hp (fun tq kq => XS.goto X0.here hx rfl (pc0 := 83) (pc' := 87) rfl (hb hby d1_83) (by decide) (by decide) kq) ?_
                        show G s₁ (mkF m 87 #[.val (.int p0)] [(.int (1 : Int32))])
                        exact hR X0 (fun fs hl => retN X0 hx (t := .boolean) hret (by simp) (hb hby d1_87) hl) (fun q => by rw [hret] at q; cases q) ⟨(congrArg (fun q => some (Value.int q)) ((if_neg hb1).trans ((if_neg hb2).trans ((if_neg hb14).trans ((if_neg hb15).trans ((if_neg hb16).trans ((if_neg hb17).trans ((if_neg hb18).trans ((if_neg hb19).trans ((if_pos hb20).trans ((if_neg hb21).trans (if_neg hb22))))))))))).symm), N0, e0⟩ (by decide) (by decide)
                  · refine hp (fun tq kq => XS.icmpNo X0.here hx rfl (hb hby d1_58) rfl (flt hb20).1 kq) ?_
                    show G s₁ (mkF m 61 #[.val (.int p0)] [])
                    refine hp (fun tq kq => XS.iloadN X0.here hx rfl (hb hby d1_61) rfl kq) ?_
                    show G s₁ (mkF m 62 #[.val (.int p0)] [(.int p0)])
                    refine hp (fun tq kq => XS.sipush X0.here hx rfl (hb hby d1_62) kq) ?_
                    show G s₁ (mkF m 65 #[.val (.int p0)] [(.int (8238 : Int32)), (.int p0)])
                    by_cases hb23 : (8238 : Int32) < p0
                    · refine hp (fun tq kq => XS.icmpNo X0.here hx rfl (hb hby d1_65) rfl (tlt hb23).2.2.2 kq) ?_
                      show G s₁ (mkF m 68 #[.val (.int p0)] [])
                      refine hp (fun tq kq => XS.iloadN X0.here hx rfl (hb hby d1_68) rfl kq) ?_
                      show G s₁ (mkF m 69 #[.val (.int p0)] [(.int p0)])
                      refine hp (fun tq kq => XS.sipush X0.here hx rfl (hb hby d1_69) kq) ?_
                      show G s₁ (mkF m 72 #[.val (.int p0)] [(.int (8294 : Int32)), (.int p0)])
                      by_cases hb24 : p0 < (8294 : Int32)
                      · refine hp (fun tq kq => XS.icmpYes X0.here hx rfl (pc0 := 72) (pc' := 86) rfl (hb hby d1_72) rfl (tlt hb24).1 (by decide) (by decide) kq) ?_
                        show G s₁ (mkF m 86 #[.val (.int p0)] [])
                        refine hp (fun tq kq => XS.iconst X0.here hx rfl (hb hby d1_86) kq) ?_
                        show G s₁ (mkF m 87 #[.val (.int p0)] [(.int (0 : Int32))])
                        exact hR X0 (fun fs hl => retN X0 hx (t := .boolean) hret (by simp) (hb hby d1_87) hl) (fun q => by rw [hret] at q; cases q) ⟨(congrArg (fun q => some (Value.int q)) ((if_neg hb1).trans ((if_neg hb2).trans ((if_neg hb14).trans ((if_neg hb15).trans ((if_neg hb16).trans ((if_neg hb17).trans ((if_neg hb18).trans ((if_neg hb19).trans ((if_neg hb20).trans ((if_pos hb23).trans (if_pos hb24))))))))))).symm), N0, e0⟩ (by decide) (by decide)
                      · refine hp (fun tq kq => XS.icmpNo X0.here hx rfl (hb hby d1_72) rfl (flt hb24).1 kq) ?_
                        show G s₁ (mkF m 75 #[.val (.int p0)] [])
                        refine hp (fun tq kq => XS.iloadN X0.here hx rfl (hb hby d1_75) rfl kq) ?_
                        show G s₁ (mkF m 76 #[.val (.int p0)] [(.int p0)])
                        refine hp (fun tq kq => XS.sipush X0.here hx rfl (hb hby d1_76) kq) ?_
                        show G s₁ (mkF m 79 #[.val (.int p0)] [(.int (8297 : Int32)), (.int p0)])
                        by_cases hb25 : (8297 : Int32) < p0
                        · refine hp (fun tq kq => XS.icmpYes X0.here hx rfl (pc0 := 79) (pc' := 86) rfl (hb hby d1_79) rfl (tlt hb25).2.2.1 (by decide) (by decide) kq) ?_
                          show G s₁ (mkF m 86 #[.val (.int p0)] [])
                          refine hp (fun tq kq => XS.iconst X0.here hx rfl (hb hby d1_86) kq) ?_
                          show G s₁ (mkF m 87 #[.val (.int p0)] [(.int (0 : Int32))])
                          exact hR X0 (fun fs hl => retN X0 hx (t := .boolean) hret (by simp) (hb hby d1_87) hl) (fun q => by rw [hret] at q; cases q) ⟨(congrArg (fun q => some (Value.int q)) ((if_neg hb1).trans ((if_neg hb2).trans ((if_neg hb14).trans ((if_neg hb15).trans ((if_neg hb16).trans ((if_neg hb17).trans ((if_neg hb18).trans ((if_neg hb19).trans ((if_neg hb20).trans ((if_pos hb23).trans ((if_neg hb24).trans (if_pos hb25)))))))))))).symm), N0, e0⟩ (by decide) (by decide)
                        · refine hp (fun tq kq => XS.icmpNo X0.here hx rfl (hb hby d1_79) rfl (flt hb25).2.2.1 kq) ?_
                          show G s₁ (mkF m 82 #[.val (.int p0)] [])
                          refine hp (fun tq kq => XS.iconst X0.here hx rfl (hb hby d1_82) kq) ?_
                          show G s₁ (mkF m 83 #[.val (.int p0)] [(.int (1 : Int32))])
                          refine hp (fun tq kq => XS.goto X0.here hx rfl (pc0 := 83) (pc' := 87) rfl (hb hby d1_83) (by decide) (by decide) kq) ?_
                          show G s₁ (mkF m 87 #[.val (.int p0)] [(.int (1 : Int32))])
                          exact hR X0 (fun fs hl => retN X0 hx (t := .boolean) hret (by simp) (hb hby d1_87) hl) (fun q => by rw [hret] at q; cases q) ⟨(congrArg (fun q => some (Value.int q)) ((if_neg hb1).trans ((if_neg hb2).trans ((if_neg hb14).trans ((if_neg hb15).trans ((if_neg hb16).trans ((if_neg hb17).trans ((if_neg hb18).trans ((if_neg hb19).trans ((if_neg hb20).trans ((if_pos hb23).trans ((if_neg hb24).trans (if_neg hb25)))))))))))).symm), N0, e0⟩ (by decide) (by decide)
                    · refine hp (fun tq kq => XS.icmpYes X0.here hx rfl (pc0 := 65) (pc' := 82) rfl (hb hby d1_65) rfl (flt hb23).2.2.2 (by decide) (by decide) kq) ?_
                      show G s₁ (mkF m 82 #[.val (.int p0)] [])
                      refine hp (fun tq kq => XS.iconst X0.here hx rfl (hb hby d1_82) kq) ?_
                      show G s₁ (mkF m 83 #[.val (.int p0)] [(.int (1 : Int32))])
                      refine hp (fun tq kq => XS.goto X0.here hx rfl (pc0 := 83) (pc' := 87) rfl (hb hby d1_83) (by decide) (by decide) kq) ?_
                      show G s₁ (mkF m 87 #[.val (.int p0)] [(.int (1 : Int32))])
                      exact hR X0 (fun fs hl => retN X0 hx (t := .boolean) hret (by simp) (hb hby d1_87) hl) (fun q => by rw [hret] at q; cases q) ⟨(congrArg (fun q => some (Value.int q)) ((if_neg hb1).trans ((if_neg hb2).trans ((if_neg hb14).trans ((if_neg hb15).trans ((if_neg hb16).trans ((if_neg hb17).trans ((if_neg hb18).trans ((if_neg hb19).trans ((if_neg hb20).trans (if_neg hb23)))))))))).symm), N0, e0⟩ (by decide) (by decide)
set_option maxHeartbeats 8000000 in
theorem own_ob (p0 : Int32) (z1 : Int32) (hz1 : z1 = ((p0 &&& (2097151 : Int32)) % (1114112 : Int32))) (z3 : Int32) (hz3 : z3 = (if (31 : Int32) < z1 then (0 : Int32) else (1 : Int32))) (z5 : Int32) (hz5 : z5 = (if z1 = (127 : Int32) then (1 : Int32) else (0 : Int32))) (z7 : Int32) (hz7 : z7 = (if z1 < (128 : Int32) then (0 : Int32) else (if (159 : Int32) < z1 then (0 : Int32) else (1 : Int32)))) (z9 : Int32) (hz9 : z9 = (if z1 = (8232 : Int32) then (1 : Int32) else (0 : Int32))) (z11 : Int32) (hz11 : z11 = (if z1 = (8233 : Int32) then (1 : Int32) else (0 : Int32))) (z13 : Int32) (hz13 : z13 = (if z1 = (1564 : Int32) then (1 : Int32) else (0 : Int32))) (z15 : Int32) (hz15 : z15 = (if z1 = (8206 : Int32) then (1 : Int32) else (0 : Int32))) (z17 : Int32) (hz17 : z17 = (if z1 = (8207 : Int32) then (1 : Int32) else (0 : Int32))) (z19 : Int32) (hz19 : z19 = (if z1 < (8234 : Int32) then (0 : Int32) else (if (8238 : Int32) < z1 then (0 : Int32) else (1 : Int32)))) (z21 : Int32) (hz21 : z21 = (if z1 < (8294 : Int32) then (0 : Int32) else (if (8297 : Int32) < z1 then (0 : Int32) else (1 : Int32)))) (z23 : Int32) (hz23 : z23 = (if z3 = (0 : Int32) then (if z5 = (0 : Int32) then (if z7 = (0 : Int32) then (if z9 = (0 : Int32) then (if z11 = (0 : Int32) then (if z13 = (0 : Int32) then (if z15 = (0 : Int32) then (if z17 = (0 : Int32) then (if z19 = (0 : Int32) then (if z21 = (0 : Int32) then (0 : Int32) else (1 : Int32)) else (1 : Int32)) else (1 : Int32)) else (1 : Int32)) else (1 : Int32)) else (1 : Int32)) else (1 : Int32)) else (1 : Int32)) else (1 : Int32)) else (1 : Int32))) : (own_ctl z1) = z23 := by
  clear hz1
  have one0 : ∀ P : Prop, [Decidable P] → ((if P then (1 : Int32) else (0 : Int32)) = 0 ↔ ¬ P) := fun P _ => by by_cases h : P <;> simp [h]
  have zero1 : ∀ P : Prop, [Decidable P] → ((if P then (0 : Int32) else (1 : Int32)) = 0 ↔ P) := fun P _ => by by_cases h : P <;> simp [h]
  have two : ∀ P Q : Prop, [Decidable P] → [Decidable Q] → ((if P then (0 : Int32) else (if Q then (0 : Int32) else (1 : Int32))) = 0 ↔ P ∨ Q) := fun P Q _ _ => by by_cases h : P <;> by_cases h' : Q <;> simp [h, h']
  have e : ∀ n : Nat, n < 100000 → (Int32.ofNat n).toInt = (n : Int) := fun n hn => Int32.toInt_ofNat_of_lt (by omega)
  have f31 : (31 : Int32).toInt = 31 := by decide
  have f32 : (32 : Int32).toInt = 32 := by decide
  have f127 : (127 : Int32).toInt = 127 := by decide
  have f128 : (128 : Int32).toInt = 128 := by decide
  have f159 : (159 : Int32).toInt = 159 := by decide
  have f160 : (160 : Int32).toInt = 160 := by decide
  have f1 : (8232 : Int32).toInt = 8232 := by decide
  have f2 : (8233 : Int32).toInt = 8233 := by decide
  have f3 : (1564 : Int32).toInt = 1564 := by decide
  have f4 : (8206 : Int32).toInt = 8206 := by decide
  have f5 : (8207 : Int32).toInt = 8207 := by decide
  have f6 : (8234 : Int32).toInt = 8234 := by decide
  have f7 : (8238 : Int32).toInt = 8238 := by decide
  have f8 : (8294 : Int32).toInt = 8294 := by decide
  have f9 : (8297 : Int32).toInt = 8297 := by decide
  rw [hz3, hz5, hz7, hz9, hz11, hz13, hz15, hz17, hz19, hz21] at hz23
  simp only [one0, zero1, two] at hz23
  rw [hz23]
  clear hz23 hz3 hz5 hz7 hz9 hz11 hz13 hz15 hz17 hz19 hz21
  have hC : ∀ x : Int32, x = 1 ∨ x = 0 → ∀ y : Int32, (y = 1 ∨ y = 0) → (x = 1 ↔ y = 1) → x = y := by
    intro x hx y hy h
    rcases hx with rfl | rfl
    · exact (h.mp rfl).symm
    · rcases hy with rfl | rfl
      · exact absurd (h.mpr rfl) (by decide)
      · rfl
  have hL : (own_ctl z1 = 1 ∨ own_ctl z1 = 0) ∧ (own_ctl z1 = 1 ↔ (z1.toInt < 32 ∨ (127 ≤ z1.toInt ∧ z1.toInt < 160) ∨ z1.toInt = 8232 ∨ z1.toInt = 8233 ∨ z1.toInt = 1564 ∨ z1.toInt = 8206 ∨ z1.toInt = 8207 ∨ (8234 ≤ z1.toInt ∧ z1.toInt ≤ 8238) ∨ (8294 ≤ z1.toInt ∧ z1.toInt ≤ 8297))) := by
    unfold own_ctl
    simp only [Int32.lt_iff_toInt_lt, ← Int32.toInt_inj (y := (8232 : Int32)), ← Int32.toInt_inj (y := (8233 : Int32)), ← Int32.toInt_inj (y := (1564 : Int32)), ← Int32.toInt_inj (y := (8206 : Int32)), ← Int32.toInt_inj (y := (8207 : Int32)), f31, f32, f127, f128, f159, f160, f1, f2, f3, f4, f5, f6, f7, f8, f9]
    clear f31 f32 f127 f128 f159 f160 f1 f2 f3 f4 f5 f6 f7 f8 f9
    generalize z1.toInt = n
    (repeat' split) <;> first | exact ⟨Or.inl rfl, fun _ => by omega, fun _ => rfl⟩ | exact ⟨Or.inr rfl, fun q => absurd q (by decide), fun q => by exfalso; omega⟩
  refine hC _ hL.1 _ ?_ ?_
  · (repeat' split) <;> first | exact Or.inl rfl | exact Or.inr rfl
  · rw [hL.2]
    simp only [Int32.lt_iff_toInt_lt, ← Int32.toInt_inj (x := z1), f31, f32, f127, f128, f159, f160, f1, f2, f3, f4, f5, f6, f7, f8, f9]
    clear f31 f32 f127 f128 f159 f160 f1 f2 f3 f4 f5 f6 f7 f8 f9 hL
    generalize z1.toInt = n
    (repeat' split) <;> first | exact ⟨fun _ => rfl, fun _ => by omega⟩ | exact ⟨fun q => by exfalso; omega, fun q => absurd q (by decide)⟩

theorem own_ef0 (m : MethodId) (p0 : Int32) : entryFrame m #[(.int p0)] maxLocals = mkF m 0 #[.val (.int p0), .unset, .unset, .unset, .unset, .unset, .unset, .unset, .unset, .unset, .unset, .unset, .unset] [] := by first | (simp [entryFrame, mkF, argsToLocals, Value.category, maxLocals]; done) | rfl
abbrev own_Q0 (n0 : Nat) (v : Option Value) (h : Heap) (L : List Loc) : Prop := v = some (.int 1) ∧ Fr n0 L
theorem own_pn0 : plainName "com/example/tracewright/tracewright/TerminalTextIsControlPinLaw" = true := by first | (simp [plainName, overriddenIn]; done) | decide +kernel
set_option maxRecDepth 65536 in
set_option maxHeartbeats 40000000 in
theorem rm0 (l : Launch) (Z : State) (a0 : Array Value) (hw : ∀ d ∈ tables_1, d.before a0 Z = true) (ws : List Jvm.Cond) (p0 : Int32) (h0 : Heap) (n0 : Nat)  :
    MetFree l x (head1 (Jvm.Cond.code x code maxLocals ret :: ws) room_1) (fun a U => a = #[(.int p0)] ∧ Z.Warmed39 U.vm ∧ U.heap = h0) (fun _ _ _ _ _ => True) (fun _ U o U' => ∃ v L, o = .returned v ∧ own_Q0 n0 v U'.heap L ∧ FrameEnd U o U' L room_1.cells room_1.slots) := by
  refine own_contract (plainFor_of_name own_pn0) (fun m => own_ef0 m p0) ?_
  intro p e s m below meth c s₁ G hx hby hml0 hown0 hnm hret hZ X0 e0 hp hR
  have hml : c.maxLocals = 13 := hml0
  have hown : s.vm.findClass "com/example/tracewright/tracewright/TerminalTextIsControlPinLaw" = some m.cls := hown0
  have N0 := Fr.nil n0
  show G s₁ (mkF m 0 #[.val (.int p0), .unset, .unset, .unset, .unset, .unset, .unset, .unset, .unset, .unset, .unset, .unset, .unset] [])
  refine hp (fun tq kq => XS.iloadN X0.here hx rfl (hb hby at_0) rfl kq) ?_
  show G s₁ (mkF m 1 #[.val (.int p0), .unset, .unset, .unset, .unset, .unset, .unset, .unset, .unset, .unset, .unset, .unset, .unset] [(.int p0)])
  refine hp (fun tq kq => X0.ldcInt hx hown (mvT hZ (hw _ (List.mem_of_getElem? (i := 0) rfl))) (g := (mkF m 1 #[.val (.int p0), .unset, .unset, .unset, .unset, .unset, .unset, .unset, .unset, .unset, .unset, .unset, .unset] [(.int p0)])) rfl (hb hby at_1) _ kq) ?_
  show G s₁ (mkF m 3 #[.val (.int p0), .unset, .unset, .unset, .unset, .unset, .unset, .unset, .unset, .unset, .unset, .unset, .unset] [(.int (2097151 : Int32)), (.int p0)])
  refine hp (fun tq kq => XS.iand X0.here hx rfl (hb hby at_3) rfl kq) ?_
  show G s₁ (mkF m 4 #[.val (.int p0), .unset, .unset, .unset, .unset, .unset, .unset, .unset, .unset, .unset, .unset, .unset, .unset] [(.int (p0 &&& (2097151 : Int32)))])
  refine hp (fun tq kq => X0.ldcInt hx hown (mvT hZ (hw _ (List.mem_of_getElem? (i := 1) rfl))) (g := (mkF m 4 #[.val (.int p0), .unset, .unset, .unset, .unset, .unset, .unset, .unset, .unset, .unset, .unset, .unset, .unset] [(.int (p0 &&& (2097151 : Int32)))])) rfl (hb hby at_4) _ kq) ?_
  show G s₁ (mkF m 6 #[.val (.int p0), .unset, .unset, .unset, .unset, .unset, .unset, .unset, .unset, .unset, .unset, .unset, .unset] [(.int (1114112 : Int32)), (.int (p0 &&& (2097151 : Int32)))])
  refine hp (fun tq kq => iremM X0 hx rfl (hb hby at_6) rfl (by decide) kq) ?_
  show G s₁ (mkF m 7 #[.val (.int p0), .unset, .unset, .unset, .unset, .unset, .unset, .unset, .unset, .unset, .unset, .unset, .unset] [(.int ((p0 &&& (2097151 : Int32)) % (1114112 : Int32)))])
  refine hp (fun tq kq => XS.istoreN X0.here hx rfl (hb hby at_7) rfl (l' := #[.val (.int p0), .val (.int ((p0 &&& (2097151 : Int32)) % (1114112 : Int32))), .unset, .unset, .unset, .unset, .unset, .unset, .unset, .unset, .unset, .unset, .unset]) rfl kq) ?_
  show G s₁ (mkF m 8 #[.val (.int p0), .val (.int ((p0 &&& (2097151 : Int32)) % (1114112 : Int32))), .unset, .unset, .unset, .unset, .unset, .unset, .unset, .unset, .unset, .unset, .unset] [])
  refine (?_ : ∀ (z1 : Int32), z1 = ((p0 &&& (2097151 : Int32)) % (1114112 : Int32)) → G s₁ (mkF m 8 #[.val (.int p0), .val (.int z1), .unset, .unset, .unset, .unset, .unset, .unset, .unset, .unset, .unset, .unset, .unset] [])) _ rfl
  intro z1 hz1
  refine hp (fun tq kq => XS.iloadN X0.here hx rfl (hb hby at_8) rfl kq) ?_
  show G s₁ (mkF m 9 #[.val (.int p0), .val (.int z1), .unset, .unset, .unset, .unset, .unset, .unset, .unset, .unset, .unset, .unset, .unset] [(.int z1)])
  refine hp (fun tq kq => XS.bipush X0.here hx rfl (hb hby at_9) kq) ?_
  show G s₁ (mkF m 11 #[.val (.int p0), .val (.int z1), .unset, .unset, .unset, .unset, .unset, .unset, .unset, .unset, .unset, .unset, .unset] [(.int (31 : Int32)), (.int z1)])
  have j2 : ∀ (z3 : Int32), z3 = (if (31 : Int32) < z1 then (0 : Int32) else (1 : Int32)) → G s₁ (mkF m 19 #[.val (.int p0), .val (.int z1), .unset, .unset, .unset, .unset, .unset, .unset, .unset, .unset, .unset, .unset, .unset] [(.int z3)]) := by
    intro z3 hz3
    refine hp (fun tq kq => XS.istoreN X0.here hx rfl (hb hby at_19) rfl (l' := #[.val (.int p0), .val (.int z1), .val (.int z3), .unset, .unset, .unset, .unset, .unset, .unset, .unset, .unset, .unset, .unset]) rfl kq) ?_
    show G s₁ (mkF m 20 #[.val (.int p0), .val (.int z1), .val (.int z3), .unset, .unset, .unset, .unset, .unset, .unset, .unset, .unset, .unset, .unset] [])
    refine hp (fun tq kq => XS.iloadN X0.here hx rfl (hb hby at_20) rfl kq) ?_
    show G s₁ (mkF m 21 #[.val (.int p0), .val (.int z1), .val (.int z3), .unset, .unset, .unset, .unset, .unset, .unset, .unset, .unset, .unset, .unset] [(.int z1)])
    refine hp (fun tq kq => XS.bipush X0.here hx rfl (hb hby at_21) kq) ?_
    show G s₁ (mkF m 23 #[.val (.int p0), .val (.int z1), .val (.int z3), .unset, .unset, .unset, .unset, .unset, .unset, .unset, .unset, .unset, .unset] [(.int (127 : Int32)), (.int z1)])
    have j4 : ∀ (z5 : Int32), z5 = (if z1 = (127 : Int32) then (1 : Int32) else (0 : Int32)) → G s₁ (mkF m 31 #[.val (.int p0), .val (.int z1), .val (.int z3), .unset, .unset, .unset, .unset, .unset, .unset, .unset, .unset, .unset, .unset] [(.int z5)]) := by
      intro z5 hz5
      refine hp (fun tq kq => XS.istoreN X0.here hx rfl (hb hby at_31) rfl (l' := #[.val (.int p0), .val (.int z1), .val (.int z3), .val (.int z5), .unset, .unset, .unset, .unset, .unset, .unset, .unset, .unset, .unset]) rfl kq) ?_
      show G s₁ (mkF m 32 #[.val (.int p0), .val (.int z1), .val (.int z3), .val (.int z5), .unset, .unset, .unset, .unset, .unset, .unset, .unset, .unset, .unset] [])
      refine hp (fun tq kq => XS.iloadN X0.here hx rfl (hb hby at_32) rfl kq) ?_
      show G s₁ (mkF m 33 #[.val (.int p0), .val (.int z1), .val (.int z3), .val (.int z5), .unset, .unset, .unset, .unset, .unset, .unset, .unset, .unset, .unset] [(.int z1)])
      refine hp (fun tq kq => XS.sipush X0.here hx rfl (hb hby at_33) kq) ?_
      show G s₁ (mkF m 36 #[.val (.int p0), .val (.int z1), .val (.int z3), .val (.int z5), .unset, .unset, .unset, .unset, .unset, .unset, .unset, .unset, .unset] [(.int (128 : Int32)), (.int z1)])
      have j6 : ∀ (z7 : Int32), z7 = (if z1 < (128 : Int32) then (0 : Int32) else (if (159 : Int32) < z1 then (0 : Int32) else (1 : Int32))) → G s₁ (mkF m 51 #[.val (.int p0), .val (.int z1), .val (.int z3), .val (.int z5), .unset, .unset, .unset, .unset, .unset, .unset, .unset, .unset, .unset] [(.int z7)]) := by
        intro z7 hz7
        refine hp (fun tq kq => XS.istore X0.here hx rfl (hb hby at_51) rfl (l' := #[.val (.int p0), .val (.int z1), .val (.int z3), .val (.int z5), .val (.int z7), .unset, .unset, .unset, .unset, .unset, .unset, .unset, .unset]) rfl kq) ?_
        show G s₁ (mkF m 53 #[.val (.int p0), .val (.int z1), .val (.int z3), .val (.int z5), .val (.int z7), .unset, .unset, .unset, .unset, .unset, .unset, .unset, .unset] [])
        refine hp (fun tq kq => XS.iloadN X0.here hx rfl (hb hby at_53) rfl kq) ?_
        show G s₁ (mkF m 54 #[.val (.int p0), .val (.int z1), .val (.int z3), .val (.int z5), .val (.int z7), .unset, .unset, .unset, .unset, .unset, .unset, .unset, .unset] [(.int z1)])
        refine hp (fun tq kq => XS.sipush X0.here hx rfl (hb hby at_54) kq) ?_
        show G s₁ (mkF m 57 #[.val (.int p0), .val (.int z1), .val (.int z3), .val (.int z5), .val (.int z7), .unset, .unset, .unset, .unset, .unset, .unset, .unset, .unset] [(.int (8232 : Int32)), (.int z1)])
        have j8 : ∀ (z9 : Int32), z9 = (if z1 = (8232 : Int32) then (1 : Int32) else (0 : Int32)) → G s₁ (mkF m 65 #[.val (.int p0), .val (.int z1), .val (.int z3), .val (.int z5), .val (.int z7), .unset, .unset, .unset, .unset, .unset, .unset, .unset, .unset] [(.int z9)]) := by
          intro z9 hz9
          refine hp (fun tq kq => XS.istore X0.here hx rfl (hb hby at_65) rfl (l' := #[.val (.int p0), .val (.int z1), .val (.int z3), .val (.int z5), .val (.int z7), .val (.int z9), .unset, .unset, .unset, .unset, .unset, .unset, .unset]) rfl kq) ?_
          show G s₁ (mkF m 67 #[.val (.int p0), .val (.int z1), .val (.int z3), .val (.int z5), .val (.int z7), .val (.int z9), .unset, .unset, .unset, .unset, .unset, .unset, .unset] [])
          refine hp (fun tq kq => XS.iloadN X0.here hx rfl (hb hby at_67) rfl kq) ?_
          show G s₁ (mkF m 68 #[.val (.int p0), .val (.int z1), .val (.int z3), .val (.int z5), .val (.int z7), .val (.int z9), .unset, .unset, .unset, .unset, .unset, .unset, .unset] [(.int z1)])
          refine hp (fun tq kq => XS.sipush X0.here hx rfl (hb hby at_68) kq) ?_
          show G s₁ (mkF m 71 #[.val (.int p0), .val (.int z1), .val (.int z3), .val (.int z5), .val (.int z7), .val (.int z9), .unset, .unset, .unset, .unset, .unset, .unset, .unset] [(.int (8233 : Int32)), (.int z1)])
          have j10 : ∀ (z11 : Int32), z11 = (if z1 = (8233 : Int32) then (1 : Int32) else (0 : Int32)) → G s₁ (mkF m 79 #[.val (.int p0), .val (.int z1), .val (.int z3), .val (.int z5), .val (.int z7), .val (.int z9), .unset, .unset, .unset, .unset, .unset, .unset, .unset] [(.int z11)]) := by
            intro z11 hz11
            refine hp (fun tq kq => XS.istore X0.here hx rfl (hb hby at_79) rfl (l' := #[.val (.int p0), .val (.int z1), .val (.int z3), .val (.int z5), .val (.int z7), .val (.int z9), .val (.int z11), .unset, .unset, .unset, .unset, .unset, .unset]) rfl kq) ?_
            show G s₁ (mkF m 81 #[.val (.int p0), .val (.int z1), .val (.int z3), .val (.int z5), .val (.int z7), .val (.int z9), .val (.int z11), .unset, .unset, .unset, .unset, .unset, .unset] [])
            refine hp (fun tq kq => XS.iloadN X0.here hx rfl (hb hby at_81) rfl kq) ?_
            show G s₁ (mkF m 82 #[.val (.int p0), .val (.int z1), .val (.int z3), .val (.int z5), .val (.int z7), .val (.int z9), .val (.int z11), .unset, .unset, .unset, .unset, .unset, .unset] [(.int z1)])
            refine hp (fun tq kq => XS.sipush X0.here hx rfl (hb hby at_82) kq) ?_
            show G s₁ (mkF m 85 #[.val (.int p0), .val (.int z1), .val (.int z3), .val (.int z5), .val (.int z7), .val (.int z9), .val (.int z11), .unset, .unset, .unset, .unset, .unset, .unset] [(.int (1564 : Int32)), (.int z1)])
            have j12 : ∀ (z13 : Int32), z13 = (if z1 = (1564 : Int32) then (1 : Int32) else (0 : Int32)) → G s₁ (mkF m 93 #[.val (.int p0), .val (.int z1), .val (.int z3), .val (.int z5), .val (.int z7), .val (.int z9), .val (.int z11), .unset, .unset, .unset, .unset, .unset, .unset] [(.int z13)]) := by
              intro z13 hz13
              refine hp (fun tq kq => XS.istore X0.here hx rfl (hb hby at_93) rfl (l' := #[.val (.int p0), .val (.int z1), .val (.int z3), .val (.int z5), .val (.int z7), .val (.int z9), .val (.int z11), .val (.int z13), .unset, .unset, .unset, .unset, .unset]) rfl kq) ?_
              show G s₁ (mkF m 95 #[.val (.int p0), .val (.int z1), .val (.int z3), .val (.int z5), .val (.int z7), .val (.int z9), .val (.int z11), .val (.int z13), .unset, .unset, .unset, .unset, .unset] [])
              refine hp (fun tq kq => XS.iloadN X0.here hx rfl (hb hby at_95) rfl kq) ?_
              show G s₁ (mkF m 96 #[.val (.int p0), .val (.int z1), .val (.int z3), .val (.int z5), .val (.int z7), .val (.int z9), .val (.int z11), .val (.int z13), .unset, .unset, .unset, .unset, .unset] [(.int z1)])
              refine hp (fun tq kq => XS.sipush X0.here hx rfl (hb hby at_96) kq) ?_
              show G s₁ (mkF m 99 #[.val (.int p0), .val (.int z1), .val (.int z3), .val (.int z5), .val (.int z7), .val (.int z9), .val (.int z11), .val (.int z13), .unset, .unset, .unset, .unset, .unset] [(.int (8206 : Int32)), (.int z1)])
              have j14 : ∀ (z15 : Int32), z15 = (if z1 = (8206 : Int32) then (1 : Int32) else (0 : Int32)) → G s₁ (mkF m 107 #[.val (.int p0), .val (.int z1), .val (.int z3), .val (.int z5), .val (.int z7), .val (.int z9), .val (.int z11), .val (.int z13), .unset, .unset, .unset, .unset, .unset] [(.int z15)]) := by
                intro z15 hz15
                refine hp (fun tq kq => XS.istore X0.here hx rfl (hb hby at_107) rfl (l' := #[.val (.int p0), .val (.int z1), .val (.int z3), .val (.int z5), .val (.int z7), .val (.int z9), .val (.int z11), .val (.int z13), .val (.int z15), .unset, .unset, .unset, .unset]) rfl kq) ?_
                show G s₁ (mkF m 109 #[.val (.int p0), .val (.int z1), .val (.int z3), .val (.int z5), .val (.int z7), .val (.int z9), .val (.int z11), .val (.int z13), .val (.int z15), .unset, .unset, .unset, .unset] [])
                refine hp (fun tq kq => XS.iloadN X0.here hx rfl (hb hby at_109) rfl kq) ?_
                show G s₁ (mkF m 110 #[.val (.int p0), .val (.int z1), .val (.int z3), .val (.int z5), .val (.int z7), .val (.int z9), .val (.int z11), .val (.int z13), .val (.int z15), .unset, .unset, .unset, .unset] [(.int z1)])
                refine hp (fun tq kq => XS.sipush X0.here hx rfl (hb hby at_110) kq) ?_
                show G s₁ (mkF m 113 #[.val (.int p0), .val (.int z1), .val (.int z3), .val (.int z5), .val (.int z7), .val (.int z9), .val (.int z11), .val (.int z13), .val (.int z15), .unset, .unset, .unset, .unset] [(.int (8207 : Int32)), (.int z1)])
                have j16 : ∀ (z17 : Int32), z17 = (if z1 = (8207 : Int32) then (1 : Int32) else (0 : Int32)) → G s₁ (mkF m 121 #[.val (.int p0), .val (.int z1), .val (.int z3), .val (.int z5), .val (.int z7), .val (.int z9), .val (.int z11), .val (.int z13), .val (.int z15), .unset, .unset, .unset, .unset] [(.int z17)]) := by
                  intro z17 hz17
                  refine hp (fun tq kq => XS.istore X0.here hx rfl (hb hby at_121) rfl (l' := #[.val (.int p0), .val (.int z1), .val (.int z3), .val (.int z5), .val (.int z7), .val (.int z9), .val (.int z11), .val (.int z13), .val (.int z15), .val (.int z17), .unset, .unset, .unset]) rfl kq) ?_
                  show G s₁ (mkF m 123 #[.val (.int p0), .val (.int z1), .val (.int z3), .val (.int z5), .val (.int z7), .val (.int z9), .val (.int z11), .val (.int z13), .val (.int z15), .val (.int z17), .unset, .unset, .unset] [])
                  refine hp (fun tq kq => XS.iloadN X0.here hx rfl (hb hby at_123) rfl kq) ?_
                  show G s₁ (mkF m 124 #[.val (.int p0), .val (.int z1), .val (.int z3), .val (.int z5), .val (.int z7), .val (.int z9), .val (.int z11), .val (.int z13), .val (.int z15), .val (.int z17), .unset, .unset, .unset] [(.int z1)])
                  refine hp (fun tq kq => XS.sipush X0.here hx rfl (hb hby at_124) kq) ?_
                  show G s₁ (mkF m 127 #[.val (.int p0), .val (.int z1), .val (.int z3), .val (.int z5), .val (.int z7), .val (.int z9), .val (.int z11), .val (.int z13), .val (.int z15), .val (.int z17), .unset, .unset, .unset] [(.int (8234 : Int32)), (.int z1)])
                  have j18 : ∀ (z19 : Int32), z19 = (if z1 < (8234 : Int32) then (0 : Int32) else (if (8238 : Int32) < z1 then (0 : Int32) else (1 : Int32))) → G s₁ (mkF m 142 #[.val (.int p0), .val (.int z1), .val (.int z3), .val (.int z5), .val (.int z7), .val (.int z9), .val (.int z11), .val (.int z13), .val (.int z15), .val (.int z17), .unset, .unset, .unset] [(.int z19)]) := by
                    intro z19 hz19
                    refine hp (fun tq kq => XS.istore X0.here hx rfl (hb hby at_142) rfl (l' := #[.val (.int p0), .val (.int z1), .val (.int z3), .val (.int z5), .val (.int z7), .val (.int z9), .val (.int z11), .val (.int z13), .val (.int z15), .val (.int z17), .val (.int z19), .unset, .unset]) rfl kq) ?_
                    show G s₁ (mkF m 144 #[.val (.int p0), .val (.int z1), .val (.int z3), .val (.int z5), .val (.int z7), .val (.int z9), .val (.int z11), .val (.int z13), .val (.int z15), .val (.int z17), .val (.int z19), .unset, .unset] [])
                    refine hp (fun tq kq => XS.iloadN X0.here hx rfl (hb hby at_144) rfl kq) ?_
                    show G s₁ (mkF m 145 #[.val (.int p0), .val (.int z1), .val (.int z3), .val (.int z5), .val (.int z7), .val (.int z9), .val (.int z11), .val (.int z13), .val (.int z15), .val (.int z17), .val (.int z19), .unset, .unset] [(.int z1)])
                    refine hp (fun tq kq => XS.sipush X0.here hx rfl (hb hby at_145) kq) ?_
                    show G s₁ (mkF m 148 #[.val (.int p0), .val (.int z1), .val (.int z3), .val (.int z5), .val (.int z7), .val (.int z9), .val (.int z11), .val (.int z13), .val (.int z15), .val (.int z17), .val (.int z19), .unset, .unset] [(.int (8294 : Int32)), (.int z1)])
                    have j20 : ∀ (z21 : Int32), z21 = (if z1 < (8294 : Int32) then (0 : Int32) else (if (8297 : Int32) < z1 then (0 : Int32) else (1 : Int32))) → G s₁ (mkF m 163 #[.val (.int p0), .val (.int z1), .val (.int z3), .val (.int z5), .val (.int z7), .val (.int z9), .val (.int z11), .val (.int z13), .val (.int z15), .val (.int z17), .val (.int z19), .unset, .unset] [(.int z21)]) := by
                      intro z21 hz21
                      refine hp (fun tq kq => XS.istore X0.here hx rfl (hb hby at_163) rfl (l' := #[.val (.int p0), .val (.int z1), .val (.int z3), .val (.int z5), .val (.int z7), .val (.int z9), .val (.int z11), .val (.int z13), .val (.int z15), .val (.int z17), .val (.int z19), .val (.int z21), .unset]) rfl kq) ?_
                      show G s₁ (mkF m 165 #[.val (.int p0), .val (.int z1), .val (.int z3), .val (.int z5), .val (.int z7), .val (.int z9), .val (.int z11), .val (.int z13), .val (.int z15), .val (.int z17), .val (.int z19), .val (.int z21), .unset] [])
                      refine hp (fun tq kq => XS.iloadN X0.here hx rfl (hb hby at_165) rfl kq) ?_
                      show G s₁ (mkF m 166 #[.val (.int p0), .val (.int z1), .val (.int z3), .val (.int z5), .val (.int z7), .val (.int z9), .val (.int z11), .val (.int z13), .val (.int z15), .val (.int z17), .val (.int z19), .val (.int z21), .unset] [(.int z3)])
                      have j22 : ∀ (z23 : Int32), z23 = (if z3 = (0 : Int32) then (if z5 = (0 : Int32) then (if z7 = (0 : Int32) then (if z9 = (0 : Int32) then (if z11 = (0 : Int32) then (if z13 = (0 : Int32) then (if z15 = (0 : Int32) then (if z17 = (0 : Int32) then (if z19 = (0 : Int32) then (if z21 = (0 : Int32) then (0 : Int32) else (1 : Int32)) else (1 : Int32)) else (1 : Int32)) else (1 : Int32)) else (1 : Int32)) else (1 : Int32)) else (1 : Int32)) else (1 : Int32)) else (1 : Int32)) else (1 : Int32)) → G s₁ (mkF m 218 #[.val (.int p0), .val (.int z1), .val (.int z3), .val (.int z5), .val (.int z7), .val (.int z9), .val (.int z11), .val (.int z13), .val (.int z15), .val (.int z17), .val (.int z19), .val (.int z21), .unset] [(.int z23)]) := by
                        intro z23 hz23
                        refine hp (fun tq kq => XS.istore X0.here hx rfl (hb hby at_218) rfl (l' := #[.val (.int p0), .val (.int z1), .val (.int z3), .val (.int z5), .val (.int z7), .val (.int z9), .val (.int z11), .val (.int z13), .val (.int z15), .val (.int z17), .val (.int z19), .val (.int z21), .val (.int z23)]) rfl kq) ?_
                        show G s₁ (mkF m 220 #[.val (.int p0), .val (.int z1), .val (.int z3), .val (.int z5), .val (.int z7), .val (.int z9), .val (.int z11), .val (.int z13), .val (.int z15), .val (.int z17), .val (.int z19), .val (.int z21), .val (.int z23)] [])
                        refine hp (fun tq kq => XS.iloadN X0.here hx rfl (hb hby at_220) rfl kq) ?_
                        show G s₁ (mkF m 221 #[.val (.int p0), .val (.int z1), .val (.int z3), .val (.int z5), .val (.int z7), .val (.int z9), .val (.int z11), .val (.int z13), .val (.int z15), .val (.int z17), .val (.int z19), .val (.int z21), .val (.int z23)] [(.int z1)])
                        obtain ⟨v24, T24, L24, X24, hQ24, st24⟩ := own_callS X0 hx hZ (y := (⟨"com/example/tracewright/tracewright/TerminalText", "isControl", "(I)Z"⟩ : MethodName)) (rm := ({ frames := 0, cells := 0, slots := 0, locals := 0 } : Room)) 0 hown (hw _ (List.mem_of_getElem? (i := 2) rfl)) (hw _ (List.mem_of_getElem? (i := 3) rfl)) (hw _ (List.mem_of_getElem? (i := 4) rfl)) (hw _ (List.mem_of_getElem? (i := 5) rfl)) (by decide) (rm1 l Z a0 hw [] z1 h0 n0) e0 (by decide) (by decide) (g := (mkF m 221 #[.val (.int p0), .val (.int z1), .val (.int z3), .val (.int z5), .val (.int z7), .val (.int z9), .val (.int z11), .val (.int z13), .val (.int z15), .val (.int z17), .val (.int z19), .val (.int z21), .val (.int z23)] [(.int z1)])) rfl (by rw [hml]; rfl) [(.int z1)] [] own_pd0 rfl rfl (by show 2 * 0 + _ ≤ _; exact Nat.le_of_eq rfl) (hb hby at_221) rfl (by decide) (by decide)
                        obtain ⟨rfl, N24, e24⟩ := hQ24
                        have F24 := Fr.app N0 N24
                        refine hp st24 ?_
                        show G T24 (mkF m 224 #[.val (.int p0), .val (.int z1), .val (.int z3), .val (.int z5), .val (.int z7), .val (.int z9), .val (.int z11), .val (.int z13), .val (.int z15), .val (.int z17), .val (.int z19), .val (.int z21), .val (.int z23)] [(.int (own_ctl z1))])
                        refine hp (fun tq kq => XS.iload X24.here hx rfl (hb hby at_224) rfl kq) ?_
                        show G T24 (mkF m 226 #[.val (.int p0), .val (.int z1), .val (.int z3), .val (.int z5), .val (.int z7), .val (.int z9), .val (.int z11), .val (.int z13), .val (.int z15), .val (.int z17), .val (.int z19), .val (.int z21), .val (.int z23)] [(.int z23), (.int (own_ctl z1))])
                        refine hp (fun tq kq => XS.icmpNo X24.here hx rfl (hb hby at_226) rfl (teq (own_ob p0 z1 hz1 z3 hz3 z5 hz5 z7 hz7 z9 hz9 z11 hz11 z13 hz13 z15 hz15 z17 hz17 z19 hz19 z21 hz21 z23 hz23)).2 kq) ?_
                        show G T24 (mkF m 229 #[.val (.int p0), .val (.int z1), .val (.int z3), .val (.int z5), .val (.int z7), .val (.int z9), .val (.int z11), .val (.int z13), .val (.int z15), .val (.int z17), .val (.int z19), .val (.int z21), .val (.int z23)] [])
                        refine hp (fun tq kq => XS.iconst X24.here hx rfl (hb hby at_229) kq) ?_
                        show G T24 (mkF m 230 #[.val (.int p0), .val (.int z1), .val (.int z3), .val (.int z5), .val (.int z7), .val (.int z9), .val (.int z11), .val (.int z13), .val (.int z15), .val (.int z17), .val (.int z19), .val (.int z21), .val (.int z23)] [(.int (1 : Int32))])
                        refine hp (fun tq kq => XS.goto X24.here hx rfl (pc0 := 230) (pc' := 234) rfl (hb hby at_230) (by decide) (by decide) kq) ?_
                        show G T24 (mkF m 234 #[.val (.int p0), .val (.int z1), .val (.int z3), .val (.int z5), .val (.int z7), .val (.int z9), .val (.int z11), .val (.int z13), .val (.int z15), .val (.int z17), .val (.int z19), .val (.int z21), .val (.int z23)] [(.int (1 : Int32))])
                        exact hR X24 (fun fs hl => retN X24 hx (t := .boolean) hret (by simp) (hb hby at_234) hl) (fun q => by rw [hret] at q; cases q) ⟨rfl, F24⟩ (by decide) (by decide)
                      by_cases hb25 : z3 = (0 : Int32)
                      · refine hp (fun tq kq => XS.ifNo X0.here hx rfl (hb hby at_166) rfl ((if0 _ _).trans (teq hb25).2) kq) ?_
                        show G s₁ (mkF m 169 #[.val (.int p0), .val (.int z1), .val (.int z3), .val (.int z5), .val (.int z7), .val (.int z9), .val (.int z11), .val (.int z13), .val (.int z15), .val (.int z17), .val (.int z19), .val (.int z21), .unset] [])
                        refine hp (fun tq kq => XS.iloadN X0.here hx rfl (hb hby at_169) rfl kq) ?_
                        show G s₁ (mkF m 170 #[.val (.int p0), .val (.int z1), .val (.int z3), .val (.int z5), .val (.int z7), .val (.int z9), .val (.int z11), .val (.int z13), .val (.int z15), .val (.int z17), .val (.int z19), .val (.int z21), .unset] [(.int z5)])
                        by_cases hb26 : z5 = (0 : Int32)
                        · refine hp (fun tq kq => XS.ifNo X0.here hx rfl (hb hby at_170) rfl ((if0 _ _).trans (teq hb26).2) kq) ?_
                          show G s₁ (mkF m 173 #[.val (.int p0), .val (.int z1), .val (.int z3), .val (.int z5), .val (.int z7), .val (.int z9), .val (.int z11), .val (.int z13), .val (.int z15), .val (.int z17), .val (.int z19), .val (.int z21), .unset] [])
                          refine hp (fun tq kq => XS.iload X0.here hx rfl (hb hby at_173) rfl kq) ?_
                          show G s₁ (mkF m 175 #[.val (.int p0), .val (.int z1), .val (.int z3), .val (.int z5), .val (.int z7), .val (.int z9), .val (.int z11), .val (.int z13), .val (.int z15), .val (.int z17), .val (.int z19), .val (.int z21), .unset] [(.int z7)])
                          by_cases hb27 : z7 = (0 : Int32)
                          · refine hp (fun tq kq => XS.ifNo X0.here hx rfl (hb hby at_175) rfl ((if0 _ _).trans (teq hb27).2) kq) ?_
                            show G s₁ (mkF m 178 #[.val (.int p0), .val (.int z1), .val (.int z3), .val (.int z5), .val (.int z7), .val (.int z9), .val (.int z11), .val (.int z13), .val (.int z15), .val (.int z17), .val (.int z19), .val (.int z21), .unset] [])
                            refine hp (fun tq kq => XS.iload X0.here hx rfl (hb hby at_178) rfl kq) ?_
                            show G s₁ (mkF m 180 #[.val (.int p0), .val (.int z1), .val (.int z3), .val (.int z5), .val (.int z7), .val (.int z9), .val (.int z11), .val (.int z13), .val (.int z15), .val (.int z17), .val (.int z19), .val (.int z21), .unset] [(.int z9)])
                            by_cases hb28 : z9 = (0 : Int32)
                            · refine hp (fun tq kq => XS.ifNo X0.here hx rfl (hb hby at_180) rfl ((if0 _ _).trans (teq hb28).2) kq) ?_
                              show G s₁ (mkF m 183 #[.val (.int p0), .val (.int z1), .val (.int z3), .val (.int z5), .val (.int z7), .val (.int z9), .val (.int z11), .val (.int z13), .val (.int z15), .val (.int z17), .val (.int z19), .val (.int z21), .unset] [])
                              refine hp (fun tq kq => XS.iload X0.here hx rfl (hb hby at_183) rfl kq) ?_
                              show G s₁ (mkF m 185 #[.val (.int p0), .val (.int z1), .val (.int z3), .val (.int z5), .val (.int z7), .val (.int z9), .val (.int z11), .val (.int z13), .val (.int z15), .val (.int z17), .val (.int z19), .val (.int z21), .unset] [(.int z11)])
                              by_cases hb29 : z11 = (0 : Int32)
                              · refine hp (fun tq kq => XS.ifNo X0.here hx rfl (hb hby at_185) rfl ((if0 _ _).trans (teq hb29).2) kq) ?_
                                show G s₁ (mkF m 188 #[.val (.int p0), .val (.int z1), .val (.int z3), .val (.int z5), .val (.int z7), .val (.int z9), .val (.int z11), .val (.int z13), .val (.int z15), .val (.int z17), .val (.int z19), .val (.int z21), .unset] [])
                                refine hp (fun tq kq => XS.iload X0.here hx rfl (hb hby at_188) rfl kq) ?_
                                show G s₁ (mkF m 190 #[.val (.int p0), .val (.int z1), .val (.int z3), .val (.int z5), .val (.int z7), .val (.int z9), .val (.int z11), .val (.int z13), .val (.int z15), .val (.int z17), .val (.int z19), .val (.int z21), .unset] [(.int z13)])
                                by_cases hb30 : z13 = (0 : Int32)
                                · refine hp (fun tq kq => XS.ifNo X0.here hx rfl (hb hby at_190) rfl ((if0 _ _).trans (teq hb30).2) kq) ?_
                                  show G s₁ (mkF m 193 #[.val (.int p0), .val (.int z1), .val (.int z3), .val (.int z5), .val (.int z7), .val (.int z9), .val (.int z11), .val (.int z13), .val (.int z15), .val (.int z17), .val (.int z19), .val (.int z21), .unset] [])
                                  refine hp (fun tq kq => XS.iload X0.here hx rfl (hb hby at_193) rfl kq) ?_
                                  show G s₁ (mkF m 195 #[.val (.int p0), .val (.int z1), .val (.int z3), .val (.int z5), .val (.int z7), .val (.int z9), .val (.int z11), .val (.int z13), .val (.int z15), .val (.int z17), .val (.int z19), .val (.int z21), .unset] [(.int z15)])
                                  by_cases hb31 : z15 = (0 : Int32)
                                  · refine hp (fun tq kq => XS.ifNo X0.here hx rfl (hb hby at_195) rfl ((if0 _ _).trans (teq hb31).2) kq) ?_
                                    show G s₁ (mkF m 198 #[.val (.int p0), .val (.int z1), .val (.int z3), .val (.int z5), .val (.int z7), .val (.int z9), .val (.int z11), .val (.int z13), .val (.int z15), .val (.int z17), .val (.int z19), .val (.int z21), .unset] [])
                                    refine hp (fun tq kq => XS.iload X0.here hx rfl (hb hby at_198) rfl kq) ?_
                                    show G s₁ (mkF m 200 #[.val (.int p0), .val (.int z1), .val (.int z3), .val (.int z5), .val (.int z7), .val (.int z9), .val (.int z11), .val (.int z13), .val (.int z15), .val (.int z17), .val (.int z19), .val (.int z21), .unset] [(.int z17)])
                                    by_cases hb32 : z17 = (0 : Int32)
                                    · refine hp (fun tq kq => XS.ifNo X0.here hx rfl (hb hby at_200) rfl ((if0 _ _).trans (teq hb32).2) kq) ?_
                                      show G s₁ (mkF m 203 #[.val (.int p0), .val (.int z1), .val (.int z3), .val (.int z5), .val (.int z7), .val (.int z9), .val (.int z11), .val (.int z13), .val (.int z15), .val (.int z17), .val (.int z19), .val (.int z21), .unset] [])
                                      refine hp (fun tq kq => XS.iload X0.here hx rfl (hb hby at_203) rfl kq) ?_
                                      show G s₁ (mkF m 205 #[.val (.int p0), .val (.int z1), .val (.int z3), .val (.int z5), .val (.int z7), .val (.int z9), .val (.int z11), .val (.int z13), .val (.int z15), .val (.int z17), .val (.int z19), .val (.int z21), .unset] [(.int z19)])
                                      by_cases hb33 : z19 = (0 : Int32)
                                      · refine hp (fun tq kq => XS.ifNo X0.here hx rfl (hb hby at_205) rfl ((if0 _ _).trans (teq hb33).2) kq) ?_
                                        show G s₁ (mkF m 208 #[.val (.int p0), .val (.int z1), .val (.int z3), .val (.int z5), .val (.int z7), .val (.int z9), .val (.int z11), .val (.int z13), .val (.int z15), .val (.int z17), .val (.int z19), .val (.int z21), .unset] [])
                                        refine hp (fun tq kq => XS.iload X0.here hx rfl (hb hby at_208) rfl kq) ?_
                                        show G s₁ (mkF m 210 #[.val (.int p0), .val (.int z1), .val (.int z3), .val (.int z5), .val (.int z7), .val (.int z9), .val (.int z11), .val (.int z13), .val (.int z15), .val (.int z17), .val (.int z19), .val (.int z21), .unset] [(.int z21)])
                                        by_cases hb34 : z21 = (0 : Int32)
                                        · refine hp (fun tq kq => XS.ifYes X0.here hx rfl (pc0 := 210) (pc' := 217) rfl (hb hby at_210) rfl ((if0 _ _).trans (teq hb34).1) (by decide) (by decide) kq) ?_
                                          show G s₁ (mkF m 217 #[.val (.int p0), .val (.int z1), .val (.int z3), .val (.int z5), .val (.int z7), .val (.int z9), .val (.int z11), .val (.int z13), .val (.int z15), .val (.int z17), .val (.int z19), .val (.int z21), .unset] [])
                                          refine hp (fun tq kq => XS.iconst X0.here hx rfl (hb hby at_217) kq) ?_
                                          show G s₁ (mkF m 218 #[.val (.int p0), .val (.int z1), .val (.int z3), .val (.int z5), .val (.int z7), .val (.int z9), .val (.int z11), .val (.int z13), .val (.int z15), .val (.int z17), .val (.int z19), .val (.int z21), .unset] [(.int (0 : Int32))])
                                          exact j22 _ ((if_pos hb25).trans ((if_pos hb26).trans ((if_pos hb27).trans ((if_pos hb28).trans ((if_pos hb29).trans ((if_pos hb30).trans ((if_pos hb31).trans ((if_pos hb32).trans ((if_pos hb33).trans (if_pos hb34)))))))))).symm
                                        · refine hp (fun tq kq => XS.ifNo X0.here hx rfl (hb hby at_210) rfl ((if0 _ _).trans (feq hb34).1) kq) ?_
                                          show G s₁ (mkF m 213 #[.val (.int p0), .val (.int z1), .val (.int z3), .val (.int z5), .val (.int z7), .val (.int z9), .val (.int z11), .val (.int z13), .val (.int z15), .val (.int z17), .val (.int z19), .val (.int z21), .unset] [])
                                          refine hp (fun tq kq => XS.iconst X0.here hx rfl (hb hby at_213) kq) ?_
                                          show G s₁ (mkF m 214 #[.val (.int p0), .val (.int z1), .val (.int z3), .val (.int z5), .val (.int z7), .val (.int z9), .val (.int z11), .val (.int z13), .val (.int z15), .val (.int z17), .val (.int z19), .val (.int z21), .unset] [(.int (1 : Int32))])
                                          refine hp (fun tq kq => XS.goto X0.here hx rfl (pc0 := 214) (pc' := 218) rfl (hb hby at_214) (by decide) (by decide) kq) ?_
                                          show G s₁ (mkF m 218 #[.val (.int p0), .val (.int z1), .val (.int z3), .val (.int z5), .val (.int z7), .val (.int z9), .val (.int z11), .val (.int z13), .val (.int z15), .val (.int z17), .val (.int z19), .val (.int z21), .unset] [(.int (1 : Int32))])
                                          exact j22 _ ((if_pos hb25).trans ((if_pos hb26).trans ((if_pos hb27).trans ((if_pos hb28).trans ((if_pos hb29).trans ((if_pos hb30).trans ((if_pos hb31).trans ((if_pos hb32).trans ((if_pos hb33).trans (if_neg hb34)))))))))).symm
                                      · refine hp (fun tq kq => XS.ifYes X0.here hx rfl (pc0 := 205) (pc' := 213) rfl (hb hby at_205) rfl ((if0 _ _).trans (feq hb33).2) (by decide) (by decide) kq) ?_
                                        show G s₁ (mkF m 213 #[.val (.int p0), .val (.int z1), .val (.int z3), .val (.int z5), .val (.int z7), .val (.int z9), .val (.int z11), .val (.int z13), .val (.int z15), .val (.int z17), .val (.int z19), .val (.int z21), .unset] [])
                                        refine hp (fun tq kq => XS.iconst X0.here hx rfl (hb hby at_213) kq) ?_
                                        show G s₁ (mkF m 214 #[.val (.int p0), .val (.int z1), .val (.int z3), .val (.int z5), .val (.int z7), .val (.int z9), .val (.int z11), .val (.int z13), .val (.int z15), .val (.int z17), .val (.int z19), .val (.int z21), .unset] [(.int (1 : Int32))])
                                        refine hp (fun tq kq => XS.goto X0.here hx rfl (pc0 := 214) (pc' := 218) rfl (hb hby at_214) (by decide) (by decide) kq) ?_
                                        show G s₁ (mkF m 218 #[.val (.int p0), .val (.int z1), .val (.int z3), .val (.int z5), .val (.int z7), .val (.int z9), .val (.int z11), .val (.int z13), .val (.int z15), .val (.int z17), .val (.int z19), .val (.int z21), .unset] [(.int (1 : Int32))])
                                        exact j22 _ ((if_pos hb25).trans ((if_pos hb26).trans ((if_pos hb27).trans ((if_pos hb28).trans ((if_pos hb29).trans ((if_pos hb30).trans ((if_pos hb31).trans ((if_pos hb32).trans (if_neg hb33))))))))).symm
                                    · refine hp (fun tq kq => XS.ifYes X0.here hx rfl (pc0 := 200) (pc' := 213) rfl (hb hby at_200) rfl ((if0 _ _).trans (feq hb32).2) (by decide) (by decide) kq) ?_
                                      show G s₁ (mkF m 213 #[.val (.int p0), .val (.int z1), .val (.int z3), .val (.int z5), .val (.int z7), .val (.int z9), .val (.int z11), .val (.int z13), .val (.int z15), .val (.int z17), .val (.int z19), .val (.int z21), .unset] [])
                                      refine hp (fun tq kq => XS.iconst X0.here hx rfl (hb hby at_213) kq) ?_
                                      show G s₁ (mkF m 214 #[.val (.int p0), .val (.int z1), .val (.int z3), .val (.int z5), .val (.int z7), .val (.int z9), .val (.int z11), .val (.int z13), .val (.int z15), .val (.int z17), .val (.int z19), .val (.int z21), .unset] [(.int (1 : Int32))])
                                      refine hp (fun tq kq => XS.goto X0.here hx rfl (pc0 := 214) (pc' := 218) rfl (hb hby at_214) (by decide) (by decide) kq) ?_
                                      show G s₁ (mkF m 218 #[.val (.int p0), .val (.int z1), .val (.int z3), .val (.int z5), .val (.int z7), .val (.int z9), .val (.int z11), .val (.int z13), .val (.int z15), .val (.int z17), .val (.int z19), .val (.int z21), .unset] [(.int (1 : Int32))])
                                      exact j22 _ ((if_pos hb25).trans ((if_pos hb26).trans ((if_pos hb27).trans ((if_pos hb28).trans ((if_pos hb29).trans ((if_pos hb30).trans ((if_pos hb31).trans (if_neg hb32)))))))).symm
                                  · refine hp (fun tq kq => XS.ifYes X0.here hx rfl (pc0 := 195) (pc' := 213) rfl (hb hby at_195) rfl ((if0 _ _).trans (feq hb31).2) (by decide) (by decide) kq) ?_
                                    show G s₁ (mkF m 213 #[.val (.int p0), .val (.int z1), .val (.int z3), .val (.int z5), .val (.int z7), .val (.int z9), .val (.int z11), .val (.int z13), .val (.int z15), .val (.int z17), .val (.int z19), .val (.int z21), .unset] [])
                                    refine hp (fun tq kq => XS.iconst X0.here hx rfl (hb hby at_213) kq) ?_
                                    show G s₁ (mkF m 214 #[.val (.int p0), .val (.int z1), .val (.int z3), .val (.int z5), .val (.int z7), .val (.int z9), .val (.int z11), .val (.int z13), .val (.int z15), .val (.int z17), .val (.int z19), .val (.int z21), .unset] [(.int (1 : Int32))])
                                    refine hp (fun tq kq => XS.goto X0.here hx rfl (pc0 := 214) (pc' := 218) rfl (hb hby at_214) (by decide) (by decide) kq) ?_
                                    show G s₁ (mkF m 218 #[.val (.int p0), .val (.int z1), .val (.int z3), .val (.int z5), .val (.int z7), .val (.int z9), .val (.int z11), .val (.int z13), .val (.int z15), .val (.int z17), .val (.int z19), .val (.int z21), .unset] [(.int (1 : Int32))])
                                    exact j22 _ ((if_pos hb25).trans ((if_pos hb26).trans ((if_pos hb27).trans ((if_pos hb28).trans ((if_pos hb29).trans ((if_pos hb30).trans (if_neg hb31))))))).symm
                                · refine hp (fun tq kq => XS.ifYes X0.here hx rfl (pc0 := 190) (pc' := 213) rfl (hb hby at_190) rfl ((if0 _ _).trans (feq hb30).2) (by decide) (by decide) kq) ?_
                                  show G s₁ (mkF m 213 #[.val (.int p0), .val (.int z1), .val (.int z3), .val (.int z5), .val (.int z7), .val (.int z9), .val (.int z11), .val (.int z13), .val (.int z15), .val (.int z17), .val (.int z19), .val (.int z21), .unset] [])
                                  refine hp (fun tq kq => XS.iconst X0.here hx rfl (hb hby at_213) kq) ?_
                                  show G s₁ (mkF m 214 #[.val (.int p0), .val (.int z1), .val (.int z3), .val (.int z5), .val (.int z7), .val (.int z9), .val (.int z11), .val (.int z13), .val (.int z15), .val (.int z17), .val (.int z19), .val (.int z21), .unset] [(.int (1 : Int32))])
                                  refine hp (fun tq kq => XS.goto X0.here hx rfl (pc0 := 214) (pc' := 218) rfl (hb hby at_214) (by decide) (by decide) kq) ?_
                                  show G s₁ (mkF m 218 #[.val (.int p0), .val (.int z1), .val (.int z3), .val (.int z5), .val (.int z7), .val (.int z9), .val (.int z11), .val (.int z13), .val (.int z15), .val (.int z17), .val (.int z19), .val (.int z21), .unset] [(.int (1 : Int32))])
                                  exact j22 _ ((if_pos hb25).trans ((if_pos hb26).trans ((if_pos hb27).trans ((if_pos hb28).trans ((if_pos hb29).trans (if_neg hb30)))))).symm
                              · refine hp (fun tq kq => XS.ifYes X0.here hx rfl (pc0 := 185) (pc' := 213) rfl (hb hby at_185) rfl ((if0 _ _).trans (feq hb29).2) (by decide) (by decide) kq) ?_
                                show G s₁ (mkF m 213 #[.val (.int p0), .val (.int z1), .val (.int z3), .val (.int z5), .val (.int z7), .val (.int z9), .val (.int z11), .val (.int z13), .val (.int z15), .val (.int z17), .val (.int z19), .val (.int z21), .unset] [])
                                refine hp (fun tq kq => XS.iconst X0.here hx rfl (hb hby at_213) kq) ?_
                                show G s₁ (mkF m 214 #[.val (.int p0), .val (.int z1), .val (.int z3), .val (.int z5), .val (.int z7), .val (.int z9), .val (.int z11), .val (.int z13), .val (.int z15), .val (.int z17), .val (.int z19), .val (.int z21), .unset] [(.int (1 : Int32))])
                                refine hp (fun tq kq => XS.goto X0.here hx rfl (pc0 := 214) (pc' := 218) rfl (hb hby at_214) (by decide) (by decide) kq) ?_
                                show G s₁ (mkF m 218 #[.val (.int p0), .val (.int z1), .val (.int z3), .val (.int z5), .val (.int z7), .val (.int z9), .val (.int z11), .val (.int z13), .val (.int z15), .val (.int z17), .val (.int z19), .val (.int z21), .unset] [(.int (1 : Int32))])
                                exact j22 _ ((if_pos hb25).trans ((if_pos hb26).trans ((if_pos hb27).trans ((if_pos hb28).trans (if_neg hb29))))).symm
                            · refine hp (fun tq kq => XS.ifYes X0.here hx rfl (pc0 := 180) (pc' := 213) rfl (hb hby at_180) rfl ((if0 _ _).trans (feq hb28).2) (by decide) (by decide) kq) ?_
                              show G s₁ (mkF m 213 #[.val (.int p0), .val (.int z1), .val (.int z3), .val (.int z5), .val (.int z7), .val (.int z9), .val (.int z11), .val (.int z13), .val (.int z15), .val (.int z17), .val (.int z19), .val (.int z21), .unset] [])
                              refine hp (fun tq kq => XS.iconst X0.here hx rfl (hb hby at_213) kq) ?_
                              show G s₁ (mkF m 214 #[.val (.int p0), .val (.int z1), .val (.int z3), .val (.int z5), .val (.int z7), .val (.int z9), .val (.int z11), .val (.int z13), .val (.int z15), .val (.int z17), .val (.int z19), .val (.int z21), .unset] [(.int (1 : Int32))])
                              refine hp (fun tq kq => XS.goto X0.here hx rfl (pc0 := 214) (pc' := 218) rfl (hb hby at_214) (by decide) (by decide) kq) ?_
                              show G s₁ (mkF m 218 #[.val (.int p0), .val (.int z1), .val (.int z3), .val (.int z5), .val (.int z7), .val (.int z9), .val (.int z11), .val (.int z13), .val (.int z15), .val (.int z17), .val (.int z19), .val (.int z21), .unset] [(.int (1 : Int32))])
                              exact j22 _ ((if_pos hb25).trans ((if_pos hb26).trans ((if_pos hb27).trans (if_neg hb28)))).symm
                          · refine hp (fun tq kq => XS.ifYes X0.here hx rfl (pc0 := 175) (pc' := 213) rfl (hb hby at_175) rfl ((if0 _ _).trans (feq hb27).2) (by decide) (by decide) kq) ?_
                            show G s₁ (mkF m 213 #[.val (.int p0), .val (.int z1), .val (.int z3), .val (.int z5), .val (.int z7), .val (.int z9), .val (.int z11), .val (.int z13), .val (.int z15), .val (.int z17), .val (.int z19), .val (.int z21), .unset] [])
                            refine hp (fun tq kq => XS.iconst X0.here hx rfl (hb hby at_213) kq) ?_
                            show G s₁ (mkF m 214 #[.val (.int p0), .val (.int z1), .val (.int z3), .val (.int z5), .val (.int z7), .val (.int z9), .val (.int z11), .val (.int z13), .val (.int z15), .val (.int z17), .val (.int z19), .val (.int z21), .unset] [(.int (1 : Int32))])
                            refine hp (fun tq kq => XS.goto X0.here hx rfl (pc0 := 214) (pc' := 218) rfl (hb hby at_214) (by decide) (by decide) kq) ?_
                            show G s₁ (mkF m 218 #[.val (.int p0), .val (.int z1), .val (.int z3), .val (.int z5), .val (.int z7), .val (.int z9), .val (.int z11), .val (.int z13), .val (.int z15), .val (.int z17), .val (.int z19), .val (.int z21), .unset] [(.int (1 : Int32))])
                            exact j22 _ ((if_pos hb25).trans ((if_pos hb26).trans (if_neg hb27))).symm
                        · refine hp (fun tq kq => XS.ifYes X0.here hx rfl (pc0 := 170) (pc' := 213) rfl (hb hby at_170) rfl ((if0 _ _).trans (feq hb26).2) (by decide) (by decide) kq) ?_
                          show G s₁ (mkF m 213 #[.val (.int p0), .val (.int z1), .val (.int z3), .val (.int z5), .val (.int z7), .val (.int z9), .val (.int z11), .val (.int z13), .val (.int z15), .val (.int z17), .val (.int z19), .val (.int z21), .unset] [])
                          refine hp (fun tq kq => XS.iconst X0.here hx rfl (hb hby at_213) kq) ?_
                          show G s₁ (mkF m 214 #[.val (.int p0), .val (.int z1), .val (.int z3), .val (.int z5), .val (.int z7), .val (.int z9), .val (.int z11), .val (.int z13), .val (.int z15), .val (.int z17), .val (.int z19), .val (.int z21), .unset] [(.int (1 : Int32))])
                          refine hp (fun tq kq => XS.goto X0.here hx rfl (pc0 := 214) (pc' := 218) rfl (hb hby at_214) (by decide) (by decide) kq) ?_
                          show G s₁ (mkF m 218 #[.val (.int p0), .val (.int z1), .val (.int z3), .val (.int z5), .val (.int z7), .val (.int z9), .val (.int z11), .val (.int z13), .val (.int z15), .val (.int z17), .val (.int z19), .val (.int z21), .unset] [(.int (1 : Int32))])
                          exact j22 _ ((if_pos hb25).trans (if_neg hb26)).symm
                      · refine hp (fun tq kq => XS.ifYes X0.here hx rfl (pc0 := 166) (pc' := 213) rfl (hb hby at_166) rfl ((if0 _ _).trans (feq hb25).2) (by decide) (by decide) kq) ?_
                        show G s₁ (mkF m 213 #[.val (.int p0), .val (.int z1), .val (.int z3), .val (.int z5), .val (.int z7), .val (.int z9), .val (.int z11), .val (.int z13), .val (.int z15), .val (.int z17), .val (.int z19), .val (.int z21), .unset] [])
                        refine hp (fun tq kq => XS.iconst X0.here hx rfl (hb hby at_213) kq) ?_
                        show G s₁ (mkF m 214 #[.val (.int p0), .val (.int z1), .val (.int z3), .val (.int z5), .val (.int z7), .val (.int z9), .val (.int z11), .val (.int z13), .val (.int z15), .val (.int z17), .val (.int z19), .val (.int z21), .unset] [(.int (1 : Int32))])
                        refine hp (fun tq kq => XS.goto X0.here hx rfl (pc0 := 214) (pc' := 218) rfl (hb hby at_214) (by decide) (by decide) kq) ?_
                        show G s₁ (mkF m 218 #[.val (.int p0), .val (.int z1), .val (.int z3), .val (.int z5), .val (.int z7), .val (.int z9), .val (.int z11), .val (.int z13), .val (.int z15), .val (.int z17), .val (.int z19), .val (.int z21), .unset] [(.int (1 : Int32))])
                        exact j22 _ ((if_neg hb25)).symm
                    by_cases hb35 : z1 < (8294 : Int32)
                    · refine hp (fun tq kq => XS.icmpYes X0.here hx rfl (pc0 := 148) (pc' := 162) rfl (hb hby at_148) rfl (tlt hb35).1 (by decide) (by decide) kq) ?_
                      show G s₁ (mkF m 162 #[.val (.int p0), .val (.int z1), .val (.int z3), .val (.int z5), .val (.int z7), .val (.int z9), .val (.int z11), .val (.int z13), .val (.int z15), .val (.int z17), .val (.int z19), .unset, .unset] [])
                      refine hp (fun tq kq => XS.iconst X0.here hx rfl (hb hby at_162) kq) ?_
                      show G s₁ (mkF m 163 #[.val (.int p0), .val (.int z1), .val (.int z3), .val (.int z5), .val (.int z7), .val (.int z9), .val (.int z11), .val (.int z13), .val (.int z15), .val (.int z17), .val (.int z19), .unset, .unset] [(.int (0 : Int32))])
                      exact j20 _ ((if_pos hb35)).symm
                    · refine hp (fun tq kq => XS.icmpNo X0.here hx rfl (hb hby at_148) rfl (flt hb35).1 kq) ?_
                      show G s₁ (mkF m 151 #[.val (.int p0), .val (.int z1), .val (.int z3), .val (.int z5), .val (.int z7), .val (.int z9), .val (.int z11), .val (.int z13), .val (.int z15), .val (.int z17), .val (.int z19), .unset, .unset] [])
                      refine hp (fun tq kq => XS.iloadN X0.here hx rfl (hb hby at_151) rfl kq) ?_
                      show G s₁ (mkF m 152 #[.val (.int p0), .val (.int z1), .val (.int z3), .val (.int z5), .val (.int z7), .val (.int z9), .val (.int z11), .val (.int z13), .val (.int z15), .val (.int z17), .val (.int z19), .unset, .unset] [(.int z1)])
                      refine hp (fun tq kq => XS.sipush X0.here hx rfl (hb hby at_152) kq) ?_
                      show G s₁ (mkF m 155 #[.val (.int p0), .val (.int z1), .val (.int z3), .val (.int z5), .val (.int z7), .val (.int z9), .val (.int z11), .val (.int z13), .val (.int z15), .val (.int z17), .val (.int z19), .unset, .unset] [(.int (8297 : Int32)), (.int z1)])
                      by_cases hb36 : (8297 : Int32) < z1
                      · refine hp (fun tq kq => XS.icmpYes X0.here hx rfl (pc0 := 155) (pc' := 162) rfl (hb hby at_155) rfl (tlt hb36).2.2.1 (by decide) (by decide) kq) ?_
                        show G s₁ (mkF m 162 #[.val (.int p0), .val (.int z1), .val (.int z3), .val (.int z5), .val (.int z7), .val (.int z9), .val (.int z11), .val (.int z13), .val (.int z15), .val (.int z17), .val (.int z19), .unset, .unset] [])
                        refine hp (fun tq kq => XS.iconst X0.here hx rfl (hb hby at_162) kq) ?_
                        show G s₁ (mkF m 163 #[.val (.int p0), .val (.int z1), .val (.int z3), .val (.int z5), .val (.int z7), .val (.int z9), .val (.int z11), .val (.int z13), .val (.int z15), .val (.int z17), .val (.int z19), .unset, .unset] [(.int (0 : Int32))])
                        exact j20 _ ((if_neg hb35).trans (if_pos hb36)).symm
                      · refine hp (fun tq kq => XS.icmpNo X0.here hx rfl (hb hby at_155) rfl (flt hb36).2.2.1 kq) ?_
                        show G s₁ (mkF m 158 #[.val (.int p0), .val (.int z1), .val (.int z3), .val (.int z5), .val (.int z7), .val (.int z9), .val (.int z11), .val (.int z13), .val (.int z15), .val (.int z17), .val (.int z19), .unset, .unset] [])
                        refine hp (fun tq kq => XS.iconst X0.here hx rfl (hb hby at_158) kq) ?_
                        show G s₁ (mkF m 159 #[.val (.int p0), .val (.int z1), .val (.int z3), .val (.int z5), .val (.int z7), .val (.int z9), .val (.int z11), .val (.int z13), .val (.int z15), .val (.int z17), .val (.int z19), .unset, .unset] [(.int (1 : Int32))])
                        refine hp (fun tq kq => XS.goto X0.here hx rfl (pc0 := 159) (pc' := 163) rfl (hb hby at_159) (by decide) (by decide) kq) ?_
                        show G s₁ (mkF m 163 #[.val (.int p0), .val (.int z1), .val (.int z3), .val (.int z5), .val (.int z7), .val (.int z9), .val (.int z11), .val (.int z13), .val (.int z15), .val (.int z17), .val (.int z19), .unset, .unset] [(.int (1 : Int32))])
                        exact j20 _ ((if_neg hb35).trans (if_neg hb36)).symm
                  by_cases hb37 : z1 < (8234 : Int32)
                  · refine hp (fun tq kq => XS.icmpYes X0.here hx rfl (pc0 := 127) (pc' := 141) rfl (hb hby at_127) rfl (tlt hb37).1 (by decide) (by decide) kq) ?_
                    show G s₁ (mkF m 141 #[.val (.int p0), .val (.int z1), .val (.int z3), .val (.int z5), .val (.int z7), .val (.int z9), .val (.int z11), .val (.int z13), .val (.int z15), .val (.int z17), .unset, .unset, .unset] [])
                    refine hp (fun tq kq => XS.iconst X0.here hx rfl (hb hby at_141) kq) ?_
                    show G s₁ (mkF m 142 #[.val (.int p0), .val (.int z1), .val (.int z3), .val (.int z5), .val (.int z7), .val (.int z9), .val (.int z11), .val (.int z13), .val (.int z15), .val (.int z17), .unset, .unset, .unset] [(.int (0 : Int32))])
                    exact j18 _ ((if_pos hb37)).symm
                  · refine hp (fun tq kq => XS.icmpNo X0.here hx rfl (hb hby at_127) rfl (flt hb37).1 kq) ?_
                    show G s₁ (mkF m 130 #[.val (.int p0), .val (.int z1), .val (.int z3), .val (.int z5), .val (.int z7), .val (.int z9), .val (.int z11), .val (.int z13), .val (.int z15), .val (.int z17), .unset, .unset, .unset] [])
                    refine hp (fun tq kq => XS.iloadN X0.here hx rfl (hb hby at_130) rfl kq) ?_
                    show G s₁ (mkF m 131 #[.val (.int p0), .val (.int z1), .val (.int z3), .val (.int z5), .val (.int z7), .val (.int z9), .val (.int z11), .val (.int z13), .val (.int z15), .val (.int z17), .unset, .unset, .unset] [(.int z1)])
                    refine hp (fun tq kq => XS.sipush X0.here hx rfl (hb hby at_131) kq) ?_
                    show G s₁ (mkF m 134 #[.val (.int p0), .val (.int z1), .val (.int z3), .val (.int z5), .val (.int z7), .val (.int z9), .val (.int z11), .val (.int z13), .val (.int z15), .val (.int z17), .unset, .unset, .unset] [(.int (8238 : Int32)), (.int z1)])
                    by_cases hb38 : (8238 : Int32) < z1
                    · refine hp (fun tq kq => XS.icmpYes X0.here hx rfl (pc0 := 134) (pc' := 141) rfl (hb hby at_134) rfl (tlt hb38).2.2.1 (by decide) (by decide) kq) ?_
                      show G s₁ (mkF m 141 #[.val (.int p0), .val (.int z1), .val (.int z3), .val (.int z5), .val (.int z7), .val (.int z9), .val (.int z11), .val (.int z13), .val (.int z15), .val (.int z17), .unset, .unset, .unset] [])
                      refine hp (fun tq kq => XS.iconst X0.here hx rfl (hb hby at_141) kq) ?_
                      show G s₁ (mkF m 142 #[.val (.int p0), .val (.int z1), .val (.int z3), .val (.int z5), .val (.int z7), .val (.int z9), .val (.int z11), .val (.int z13), .val (.int z15), .val (.int z17), .unset, .unset, .unset] [(.int (0 : Int32))])
                      exact j18 _ ((if_neg hb37).trans (if_pos hb38)).symm
                    · refine hp (fun tq kq => XS.icmpNo X0.here hx rfl (hb hby at_134) rfl (flt hb38).2.2.1 kq) ?_
                      show G s₁ (mkF m 137 #[.val (.int p0), .val (.int z1), .val (.int z3), .val (.int z5), .val (.int z7), .val (.int z9), .val (.int z11), .val (.int z13), .val (.int z15), .val (.int z17), .unset, .unset, .unset] [])
                      refine hp (fun tq kq => XS.iconst X0.here hx rfl (hb hby at_137) kq) ?_
                      show G s₁ (mkF m 138 #[.val (.int p0), .val (.int z1), .val (.int z3), .val (.int z5), .val (.int z7), .val (.int z9), .val (.int z11), .val (.int z13), .val (.int z15), .val (.int z17), .unset, .unset, .unset] [(.int (1 : Int32))])
                      refine hp (fun tq kq => XS.goto X0.here hx rfl (pc0 := 138) (pc' := 142) rfl (hb hby at_138) (by decide) (by decide) kq) ?_
                      show G s₁ (mkF m 142 #[.val (.int p0), .val (.int z1), .val (.int z3), .val (.int z5), .val (.int z7), .val (.int z9), .val (.int z11), .val (.int z13), .val (.int z15), .val (.int z17), .unset, .unset, .unset] [(.int (1 : Int32))])
                      exact j18 _ ((if_neg hb37).trans (if_neg hb38)).symm
                by_cases hb39 : z1 = (8207 : Int32)
                · refine hp (fun tq kq => XS.icmpNo X0.here hx rfl (hb hby at_113) rfl (teq hb39).2 kq) ?_
                  show G s₁ (mkF m 116 #[.val (.int p0), .val (.int z1), .val (.int z3), .val (.int z5), .val (.int z7), .val (.int z9), .val (.int z11), .val (.int z13), .val (.int z15), .unset, .unset, .unset, .unset] [])
                  refine hp (fun tq kq => XS.iconst X0.here hx rfl (hb hby at_116) kq) ?_
                  show G s₁ (mkF m 117 #[.val (.int p0), .val (.int z1), .val (.int z3), .val (.int z5), .val (.int z7), .val (.int z9), .val (.int z11), .val (.int z13), .val (.int z15), .unset, .unset, .unset, .unset] [(.int (1 : Int32))])
                  refine hp (fun tq kq => XS.goto X0.here hx rfl (pc0 := 117) (pc' := 121) rfl (hb hby at_117) (by decide) (by decide) kq) ?_
                  show G s₁ (mkF m 121 #[.val (.int p0), .val (.int z1), .val (.int z3), .val (.int z5), .val (.int z7), .val (.int z9), .val (.int z11), .val (.int z13), .val (.int z15), .unset, .unset, .unset, .unset] [(.int (1 : Int32))])
                  exact j16 _ ((if_pos hb39)).symm
                · refine hp (fun tq kq => XS.icmpYes X0.here hx rfl (pc0 := 113) (pc' := 120) rfl (hb hby at_113) rfl (feq hb39).2 (by decide) (by decide) kq) ?_
                  show G s₁ (mkF m 120 #[.val (.int p0), .val (.int z1), .val (.int z3), .val (.int z5), .val (.int z7), .val (.int z9), .val (.int z11), .val (.int z13), .val (.int z15), .unset, .unset, .unset, .unset] [])
                  refine hp (fun tq kq => XS.iconst X0.here hx rfl (hb hby at_120) kq) ?_
                  show G s₁ (mkF m 121 #[.val (.int p0), .val (.int z1), .val (.int z3), .val (.int z5), .val (.int z7), .val (.int z9), .val (.int z11), .val (.int z13), .val (.int z15), .unset, .unset, .unset, .unset] [(.int (0 : Int32))])
                  exact j16 _ ((if_neg hb39)).symm
              by_cases hb40 : z1 = (8206 : Int32)
              · refine hp (fun tq kq => XS.icmpNo X0.here hx rfl (hb hby at_99) rfl (teq hb40).2 kq) ?_
                show G s₁ (mkF m 102 #[.val (.int p0), .val (.int z1), .val (.int z3), .val (.int z5), .val (.int z7), .val (.int z9), .val (.int z11), .val (.int z13), .unset, .unset, .unset, .unset, .unset] [])
                refine hp (fun tq kq => XS.iconst X0.here hx rfl (hb hby at_102) kq) ?_
                show G s₁ (mkF m 103 #[.val (.int p0), .val (.int z1), .val (.int z3), .val (.int z5), .val (.int z7), .val (.int z9), .val (.int z11), .val (.int z13), .unset, .unset, .unset, .unset, .unset] [(.int (1 : Int32))])
                refine hp (fun tq kq => XS.goto X0.here hx rfl (pc0 := 103) (pc' := 107) rfl (hb hby at_103) (by decide) (by decide) kq) ?_
                show G s₁ (mkF m 107 #[.val (.int p0), .val (.int z1), .val (.int z3), .val (.int z5), .val (.int z7), .val (.int z9), .val (.int z11), .val (.int z13), .unset, .unset, .unset, .unset, .unset] [(.int (1 : Int32))])
                exact j14 _ ((if_pos hb40)).symm
              · refine hp (fun tq kq => XS.icmpYes X0.here hx rfl (pc0 := 99) (pc' := 106) rfl (hb hby at_99) rfl (feq hb40).2 (by decide) (by decide) kq) ?_
                show G s₁ (mkF m 106 #[.val (.int p0), .val (.int z1), .val (.int z3), .val (.int z5), .val (.int z7), .val (.int z9), .val (.int z11), .val (.int z13), .unset, .unset, .unset, .unset, .unset] [])
                refine hp (fun tq kq => XS.iconst X0.here hx rfl (hb hby at_106) kq) ?_
                show G s₁ (mkF m 107 #[.val (.int p0), .val (.int z1), .val (.int z3), .val (.int z5), .val (.int z7), .val (.int z9), .val (.int z11), .val (.int z13), .unset, .unset, .unset, .unset, .unset] [(.int (0 : Int32))])
                exact j14 _ ((if_neg hb40)).symm
            by_cases hb41 : z1 = (1564 : Int32)
            · refine hp (fun tq kq => XS.icmpNo X0.here hx rfl (hb hby at_85) rfl (teq hb41).2 kq) ?_
              show G s₁ (mkF m 88 #[.val (.int p0), .val (.int z1), .val (.int z3), .val (.int z5), .val (.int z7), .val (.int z9), .val (.int z11), .unset, .unset, .unset, .unset, .unset, .unset] [])
              refine hp (fun tq kq => XS.iconst X0.here hx rfl (hb hby at_88) kq) ?_
              show G s₁ (mkF m 89 #[.val (.int p0), .val (.int z1), .val (.int z3), .val (.int z5), .val (.int z7), .val (.int z9), .val (.int z11), .unset, .unset, .unset, .unset, .unset, .unset] [(.int (1 : Int32))])
              refine hp (fun tq kq => XS.goto X0.here hx rfl (pc0 := 89) (pc' := 93) rfl (hb hby at_89) (by decide) (by decide) kq) ?_
              show G s₁ (mkF m 93 #[.val (.int p0), .val (.int z1), .val (.int z3), .val (.int z5), .val (.int z7), .val (.int z9), .val (.int z11), .unset, .unset, .unset, .unset, .unset, .unset] [(.int (1 : Int32))])
              exact j12 _ ((if_pos hb41)).symm
            · refine hp (fun tq kq => XS.icmpYes X0.here hx rfl (pc0 := 85) (pc' := 92) rfl (hb hby at_85) rfl (feq hb41).2 (by decide) (by decide) kq) ?_
              show G s₁ (mkF m 92 #[.val (.int p0), .val (.int z1), .val (.int z3), .val (.int z5), .val (.int z7), .val (.int z9), .val (.int z11), .unset, .unset, .unset, .unset, .unset, .unset] [])
              refine hp (fun tq kq => XS.iconst X0.here hx rfl (hb hby at_92) kq) ?_
              show G s₁ (mkF m 93 #[.val (.int p0), .val (.int z1), .val (.int z3), .val (.int z5), .val (.int z7), .val (.int z9), .val (.int z11), .unset, .unset, .unset, .unset, .unset, .unset] [(.int (0 : Int32))])
              exact j12 _ ((if_neg hb41)).symm
          by_cases hb42 : z1 = (8233 : Int32)
          · refine hp (fun tq kq => XS.icmpNo X0.here hx rfl (hb hby at_71) rfl (teq hb42).2 kq) ?_
            show G s₁ (mkF m 74 #[.val (.int p0), .val (.int z1), .val (.int z3), .val (.int z5), .val (.int z7), .val (.int z9), .unset, .unset, .unset, .unset, .unset, .unset, .unset] [])
            refine hp (fun tq kq => XS.iconst X0.here hx rfl (hb hby at_74) kq) ?_
            show G s₁ (mkF m 75 #[.val (.int p0), .val (.int z1), .val (.int z3), .val (.int z5), .val (.int z7), .val (.int z9), .unset, .unset, .unset, .unset, .unset, .unset, .unset] [(.int (1 : Int32))])
            refine hp (fun tq kq => XS.goto X0.here hx rfl (pc0 := 75) (pc' := 79) rfl (hb hby at_75) (by decide) (by decide) kq) ?_
            show G s₁ (mkF m 79 #[.val (.int p0), .val (.int z1), .val (.int z3), .val (.int z5), .val (.int z7), .val (.int z9), .unset, .unset, .unset, .unset, .unset, .unset, .unset] [(.int (1 : Int32))])
            exact j10 _ ((if_pos hb42)).symm
          · refine hp (fun tq kq => XS.icmpYes X0.here hx rfl (pc0 := 71) (pc' := 78) rfl (hb hby at_71) rfl (feq hb42).2 (by decide) (by decide) kq) ?_
            show G s₁ (mkF m 78 #[.val (.int p0), .val (.int z1), .val (.int z3), .val (.int z5), .val (.int z7), .val (.int z9), .unset, .unset, .unset, .unset, .unset, .unset, .unset] [])
            refine hp (fun tq kq => XS.iconst X0.here hx rfl (hb hby at_78) kq) ?_
            show G s₁ (mkF m 79 #[.val (.int p0), .val (.int z1), .val (.int z3), .val (.int z5), .val (.int z7), .val (.int z9), .unset, .unset, .unset, .unset, .unset, .unset, .unset] [(.int (0 : Int32))])
            exact j10 _ ((if_neg hb42)).symm
        by_cases hb43 : z1 = (8232 : Int32)
        · refine hp (fun tq kq => XS.icmpNo X0.here hx rfl (hb hby at_57) rfl (teq hb43).2 kq) ?_
          show G s₁ (mkF m 60 #[.val (.int p0), .val (.int z1), .val (.int z3), .val (.int z5), .val (.int z7), .unset, .unset, .unset, .unset, .unset, .unset, .unset, .unset] [])
          refine hp (fun tq kq => XS.iconst X0.here hx rfl (hb hby at_60) kq) ?_
          show G s₁ (mkF m 61 #[.val (.int p0), .val (.int z1), .val (.int z3), .val (.int z5), .val (.int z7), .unset, .unset, .unset, .unset, .unset, .unset, .unset, .unset] [(.int (1 : Int32))])
          refine hp (fun tq kq => XS.goto X0.here hx rfl (pc0 := 61) (pc' := 65) rfl (hb hby at_61) (by decide) (by decide) kq) ?_
          show G s₁ (mkF m 65 #[.val (.int p0), .val (.int z1), .val (.int z3), .val (.int z5), .val (.int z7), .unset, .unset, .unset, .unset, .unset, .unset, .unset, .unset] [(.int (1 : Int32))])
          exact j8 _ ((if_pos hb43)).symm
        · refine hp (fun tq kq => XS.icmpYes X0.here hx rfl (pc0 := 57) (pc' := 64) rfl (hb hby at_57) rfl (feq hb43).2 (by decide) (by decide) kq) ?_
          show G s₁ (mkF m 64 #[.val (.int p0), .val (.int z1), .val (.int z3), .val (.int z5), .val (.int z7), .unset, .unset, .unset, .unset, .unset, .unset, .unset, .unset] [])
          refine hp (fun tq kq => XS.iconst X0.here hx rfl (hb hby at_64) kq) ?_
          show G s₁ (mkF m 65 #[.val (.int p0), .val (.int z1), .val (.int z3), .val (.int z5), .val (.int z7), .unset, .unset, .unset, .unset, .unset, .unset, .unset, .unset] [(.int (0 : Int32))])
          exact j8 _ ((if_neg hb43)).symm
      by_cases hb44 : z1 < (128 : Int32)
      · refine hp (fun tq kq => XS.icmpYes X0.here hx rfl (pc0 := 36) (pc' := 50) rfl (hb hby at_36) rfl (tlt hb44).1 (by decide) (by decide) kq) ?_
        show G s₁ (mkF m 50 #[.val (.int p0), .val (.int z1), .val (.int z3), .val (.int z5), .unset, .unset, .unset, .unset, .unset, .unset, .unset, .unset, .unset] [])
        refine hp (fun tq kq => XS.iconst X0.here hx rfl (hb hby at_50) kq) ?_
        show G s₁ (mkF m 51 #[.val (.int p0), .val (.int z1), .val (.int z3), .val (.int z5), .unset, .unset, .unset, .unset, .unset, .unset, .unset, .unset, .unset] [(.int (0 : Int32))])
        exact j6 _ ((if_pos hb44)).symm
      · refine hp (fun tq kq => XS.icmpNo X0.here hx rfl (hb hby at_36) rfl (flt hb44).1 kq) ?_
        show G s₁ (mkF m 39 #[.val (.int p0), .val (.int z1), .val (.int z3), .val (.int z5), .unset, .unset, .unset, .unset, .unset, .unset, .unset, .unset, .unset] [])
        refine hp (fun tq kq => XS.iloadN X0.here hx rfl (hb hby at_39) rfl kq) ?_
        show G s₁ (mkF m 40 #[.val (.int p0), .val (.int z1), .val (.int z3), .val (.int z5), .unset, .unset, .unset, .unset, .unset, .unset, .unset, .unset, .unset] [(.int z1)])
        refine hp (fun tq kq => XS.sipush X0.here hx rfl (hb hby at_40) kq) ?_
        show G s₁ (mkF m 43 #[.val (.int p0), .val (.int z1), .val (.int z3), .val (.int z5), .unset, .unset, .unset, .unset, .unset, .unset, .unset, .unset, .unset] [(.int (159 : Int32)), (.int z1)])
        by_cases hb45 : (159 : Int32) < z1
        · refine hp (fun tq kq => XS.icmpYes X0.here hx rfl (pc0 := 43) (pc' := 50) rfl (hb hby at_43) rfl (tlt hb45).2.2.1 (by decide) (by decide) kq) ?_
          show G s₁ (mkF m 50 #[.val (.int p0), .val (.int z1), .val (.int z3), .val (.int z5), .unset, .unset, .unset, .unset, .unset, .unset, .unset, .unset, .unset] [])
          refine hp (fun tq kq => XS.iconst X0.here hx rfl (hb hby at_50) kq) ?_
          show G s₁ (mkF m 51 #[.val (.int p0), .val (.int z1), .val (.int z3), .val (.int z5), .unset, .unset, .unset, .unset, .unset, .unset, .unset, .unset, .unset] [(.int (0 : Int32))])
          exact j6 _ ((if_neg hb44).trans (if_pos hb45)).symm
        · refine hp (fun tq kq => XS.icmpNo X0.here hx rfl (hb hby at_43) rfl (flt hb45).2.2.1 kq) ?_
          show G s₁ (mkF m 46 #[.val (.int p0), .val (.int z1), .val (.int z3), .val (.int z5), .unset, .unset, .unset, .unset, .unset, .unset, .unset, .unset, .unset] [])
          refine hp (fun tq kq => XS.iconst X0.here hx rfl (hb hby at_46) kq) ?_
          show G s₁ (mkF m 47 #[.val (.int p0), .val (.int z1), .val (.int z3), .val (.int z5), .unset, .unset, .unset, .unset, .unset, .unset, .unset, .unset, .unset] [(.int (1 : Int32))])
          refine hp (fun tq kq => XS.goto X0.here hx rfl (pc0 := 47) (pc' := 51) rfl (hb hby at_47) (by decide) (by decide) kq) ?_
          show G s₁ (mkF m 51 #[.val (.int p0), .val (.int z1), .val (.int z3), .val (.int z5), .unset, .unset, .unset, .unset, .unset, .unset, .unset, .unset, .unset] [(.int (1 : Int32))])
          exact j6 _ ((if_neg hb44).trans (if_neg hb45)).symm
    by_cases hb46 : z1 = (127 : Int32)
    · refine hp (fun tq kq => XS.icmpNo X0.here hx rfl (hb hby at_23) rfl (teq hb46).2 kq) ?_
      show G s₁ (mkF m 26 #[.val (.int p0), .val (.int z1), .val (.int z3), .unset, .unset, .unset, .unset, .unset, .unset, .unset, .unset, .unset, .unset] [])
      refine hp (fun tq kq => XS.iconst X0.here hx rfl (hb hby at_26) kq) ?_
      show G s₁ (mkF m 27 #[.val (.int p0), .val (.int z1), .val (.int z3), .unset, .unset, .unset, .unset, .unset, .unset, .unset, .unset, .unset, .unset] [(.int (1 : Int32))])
      refine hp (fun tq kq => XS.goto X0.here hx rfl (pc0 := 27) (pc' := 31) rfl (hb hby at_27) (by decide) (by decide) kq) ?_
      show G s₁ (mkF m 31 #[.val (.int p0), .val (.int z1), .val (.int z3), .unset, .unset, .unset, .unset, .unset, .unset, .unset, .unset, .unset, .unset] [(.int (1 : Int32))])
      exact j4 _ ((if_pos hb46)).symm
    · refine hp (fun tq kq => XS.icmpYes X0.here hx rfl (pc0 := 23) (pc' := 30) rfl (hb hby at_23) rfl (feq hb46).2 (by decide) (by decide) kq) ?_
      show G s₁ (mkF m 30 #[.val (.int p0), .val (.int z1), .val (.int z3), .unset, .unset, .unset, .unset, .unset, .unset, .unset, .unset, .unset, .unset] [])
      refine hp (fun tq kq => XS.iconst X0.here hx rfl (hb hby at_30) kq) ?_
      show G s₁ (mkF m 31 #[.val (.int p0), .val (.int z1), .val (.int z3), .unset, .unset, .unset, .unset, .unset, .unset, .unset, .unset, .unset, .unset] [(.int (0 : Int32))])
      exact j4 _ ((if_neg hb46)).symm
  by_cases hb47 : (31 : Int32) < z1
  · refine hp (fun tq kq => XS.icmpYes X0.here hx rfl (pc0 := 11) (pc' := 18) rfl (hb hby at_11) rfl (tlt hb47).2.2.1 (by decide) (by decide) kq) ?_
    show G s₁ (mkF m 18 #[.val (.int p0), .val (.int z1), .unset, .unset, .unset, .unset, .unset, .unset, .unset, .unset, .unset, .unset, .unset] [])
    refine hp (fun tq kq => XS.iconst X0.here hx rfl (hb hby at_18) kq) ?_
    show G s₁ (mkF m 19 #[.val (.int p0), .val (.int z1), .unset, .unset, .unset, .unset, .unset, .unset, .unset, .unset, .unset, .unset, .unset] [(.int (0 : Int32))])
    exact j2 _ ((if_pos hb47)).symm
  · refine hp (fun tq kq => XS.icmpNo X0.here hx rfl (hb hby at_11) rfl (flt hb47).2.2.1 kq) ?_
    show G s₁ (mkF m 14 #[.val (.int p0), .val (.int z1), .unset, .unset, .unset, .unset, .unset, .unset, .unset, .unset, .unset, .unset, .unset] [])
    refine hp (fun tq kq => XS.iconst X0.here hx rfl (hb hby at_14) kq) ?_
    show G s₁ (mkF m 15 #[.val (.int p0), .val (.int z1), .unset, .unset, .unset, .unset, .unset, .unset, .unset, .unset, .unset, .unset, .unset] [(.int (1 : Int32))])
    refine hp (fun tq kq => XS.goto X0.here hx rfl (pc0 := 15) (pc' := 19) rfl (hb hby at_15) (by decide) (by decide) kq) ?_
    show G s₁ (mkF m 19 #[.val (.int p0), .val (.int z1), .unset, .unset, .unset, .unset, .unset, .unset, .unset, .unset, .unset, .unset, .unset] [(.int (1 : Int32))])
    exact j2 _ ((if_neg hb47)).symm
set_option maxRecDepth 65536 in
set_option maxHeartbeats 40000000 in
theorem comes_1 {Post : Tables → Env → Array Value → State → Outcome → State → Prop} (hpost : ∀ tb e args s v u, (limb_1_1.after args s (.returned v) u = true ∧ limb_1_2.after args s (.returned v) u = true ∧ True) → FrameEnd s (.returned v) u (Jvm.fieldLocs frame_1_writes args s ++ Jvm.arrayLocs frame_1_arrays args s ++ Jvm.staticLocs frame_1_statics s) 0 0 → Post tb e args s (.returned v) u) :
    ArmFor flags0 classFile x code maxLocals ret World_1 tables_1 room_1 Calls_1 rest_1 Pre_1 Post := by
  intro l hfl _ _ p e ha hc hk s m args below hf hA hF happ hP
  obtain ⟨hcalls, hrest, hpre⟩ := hP
  obtain ⟨-, -, -, hnamed, -, -, -, hat⟩ := (Spec.applies_iff hf).mp happ
  obtain ⟨hg, hn⟩ := and_e (Cond.before_iff.mp (show (Jvm.Cond.and given_1 narrow_1).before args s = true from hpre))
  obtain ⟨hcnt, hgs⟩ := and_e hg
  have ha0 := hgs
  obtain ⟨w0, rfl⟩ : ∃ w0 : Value, args = #[w0] := by
    have hs : args.size = 1 := by simpa [Cond.value, given_1] using hcnt
    obtain ⟨L⟩ := args
    match L, hs with
    | [w0], _ => exact ⟨w0, rfl⟩
  have hw := fun d (hd : d ∈ tables_1) => atoms_spec (ws := Jvm.Cond.code x code maxLocals ret :: tables_1) hat d (List.mem_cons_of_mem _ hd)
  obtain ⟨i0, ei0⟩ := is_v ha0
  obtain rfl : w0 = (.int i0) := Option.some.inj ei0
  obtain ⟨n, o, h1, h2, h3, _, L, rfl, ⟨rfl, N⟩, hq⟩ := rm0 l s _ hw tables_1 i0 s.heap s.heap.size p e ha hc hk s m _ below hf ((Spec.applies_iff_loose hf).mp happ).1 ⟨rfl, State.Warmed39.refl s, rfl⟩ trivial
  exact ⟨n, _, h1, h2, h3, hpost _ _ _ _ _ _ ⟨Cond.after_iff.mpr rfl, Cond.after_iff.mpr (eq_i res_at (Term.int_eval (1)) rfl), trivial⟩ ⟨hq.1, hq.2.1, (hq.2.2.sift fun y hy => Or.inr (N y hy)).mono (by decide) (by decide)⟩⟩
theorem main_1_1 : Claimed_1_1 := comes_1 fun _ _ _ _ _ _ h hF => ⟨h.1, hF⟩
theorem main_1_2 : Claimed_1_2 := comes_1 fun _ _ _ _ _ _ h hF => ⟨h.2.1, hF⟩
end Jvm.Pilot.@@N@@
namespace Jvm.Pilot.@@N@@
open Jvm Jvm.ClassFile Sem Op Lib Jvm.Free Jvm.Stand Jvm.Pilot.@@N@@.Jvm.D
/-! MADE BY PROGRAM (witnessworld.py) out of the Statement's table words and the real class files: 9 classes; the members and pool entries that the words name. The judged class is class 1, her method 1. -/
namespace start1
open Jvm.ClassFile
def u (s : String) : CpInfo := .utf8 (stringToUtf16 s)
/-- a pool by its gaps: so many unusable entries, then the entry; so many at the end -/
def gap : Nat → List CpInfo → List CpInfo
  | 0, r => r
  | n + 1, r => .unusable :: gap n r
def poolList (es : List (Nat × CpInfo)) (last : Nat) : List CpInfo := es.foldr (fun e r => gap e.1 (e.2 :: r)) (gap last [])
def pool (es : List (Nat × CpInfo)) (last : Nat) : Array CpInfo := ⟨poolList es last⟩
def fileOf (pool : Array CpInfo) (this : Nat) (attrs : Array Attribute := #[]) (ms : Array MethodInfo := #[]) (fl : Nat := 33) (sup : Nat := 0) (ifs : Array Nat := #[]) (fds : Array FieldInfo := #[]) : ClassFile where
  minorVersion := 0
  majorVersion := 65
  constantPool := pool
  accessFlags := fl
  thisClass := this
  superClass := sup
  interfaces := ifs
  fields := fds
  methods := ms
  attributes := attrs
def plain (name : String) (sup : Option ClassId) : Class where
  name := name
  kind := .ordinary
  loader := none
  accessFlags := 33
  super := sup
  interfaces := #[]
  cf := none
  fields := #[]
  methods := #[]
  instanceTypes := #[]
  staticTypes := #[]
  resolved := #[]
  callSites := []
  init := .initialized
  statics := none
  mirror := none

def pool0 : Array CpInfo := pool [(5, u "<init>"), (0, u "()V"), (1, .class_ 10), (1, u "java/lang/Object")] 113

def k0m0 : Method := { name := "<init>", desc := "()V", sig := { parameters := [], returnType := none }, accessFlags := 1, code := none }
/-- java/lang/Object -/
def k0 : Class := { plain "java/lang/Object" none with
  accessFlags := 33
  interfaces := #[]
  cf := some (fileOf pool0 8 #[] #[{ accessFlags := 1, nameIndex := 5, descriptorIndex := 6, attributes := #[] }] 33 0 #[] #[])
  fields := #[]
  methods := #[k0m0]
  instanceTypes := #[]
  staticTypes := #[]
  resolved := Array.replicate 124 none
  statics := none }

def pool1 : Array CpInfo := pool [(2, .class_ 4), (1, u "java/lang/Object"), (0, u "<init>"), (0, u "()V"), (0, .integer 2097151), (0, .integer 1114112), (0, .methodref 10 11), (0, .class_ 12), (0, .nameAndType 13 14), (0, u "com/example/tracewright/tracewright/TerminalText"), (0, u "isControl"), (0, u "(I)Z"), (0, .class_ 16), (0, u "com/example/tracewright/tracewright/TerminalTextIsControlPinLaw"), (2, u "law")] 3

def k1m0 : Method := { name := "<init>", desc := "()V", sig := { parameters := [], returnType := none }, accessFlags := 2, code := none }
def k1c1 : Code := { maxStack := 2, maxLocals := 13, code := code, exceptionTable := #[], attributes := #[] }
def k1m1 : Method := { name := "law", desc := "(I)Z", sig := { parameters := [.int], returnType := some .boolean }, accessFlags := 9, code := some k1c1 }
/-- com/example/tracewright/tracewright/TerminalTextIsControlPinLaw -/
def k1 : Class := { plain "com/example/tracewright/tracewright/TerminalTextIsControlPinLaw" (some 0) with
  accessFlags := 49
  interfaces := #[]
  cf := some (fileOf pool1 15 #[] #[{ accessFlags := 2, nameIndex := 5, descriptorIndex := 6, attributes := #[] }, { accessFlags := 9, nameIndex := 19, descriptorIndex := 14, attributes := #[] }] 49 2 #[] #[])
  fields := #[]
  methods := #[k1m0, k1m1]
  instanceTypes := #[]
  staticTypes := #[]
  resolved := Array.replicate 23 none
  statics := none }

def pool2 : Array CpInfo := pool [(2, .class_ 4), (1, u "java/lang/Object"), (0, u "<init>"), (0, u "()V"), (6, .class_ 14), (0, u "com/example/tracewright/tracewright/TerminalText"), (96, u "isControl"), (0, u "(I)Z"), (15, u "QUOTED_LENGTH"), (0, u "I")] 29

def k2m0 : Method := { name := "<init>", desc := "()V", sig := { parameters := [], returnType := none }, accessFlags := 2, code := none }
def k2c1 : Code := { maxStack := 2, maxLocals := 1, code := prog_125_method_7_code, exceptionTable := #[], attributes := #[] }
def k2m1 : Method := { name := "isControl", desc := "(I)Z", sig := { parameters := [.int], returnType := some .boolean }, accessFlags := 8, code := some k2c1 }
/-- com/example/tracewright/tracewright/TerminalText -/
def k2 : Class := { plain "com/example/tracewright/tracewright/TerminalText" (some 0) with
  accessFlags := 48
  interfaces := #[]
  cf := some (fileOf pool2 13 #[] #[{ accessFlags := 2, nameIndex := 5, descriptorIndex := 6, attributes := #[] }, { accessFlags := 8, nameIndex := 111, descriptorIndex := 112, attributes := #[] }] 48 2 #[] #[{ accessFlags := 26, nameIndex := 128, descriptorIndex := 129, attributes := #[] }])
  fields := #[{ name := "QUOTED_LENGTH", type := .int, accessFlags := 26, slot := 0, constantValue := 0 }]
  methods := #[k2m0, k2m1]
  instanceTypes := #[]
  staticTypes := #[.int]
  resolved := Array.replicate 159 none
  statics := none }

def pool3 : Array CpInfo := pool [(1, u "java/lang/Cloneable"), (0, .class_ 1), (0, u "java/lang/Object"), (0, .class_ 3)] 3

/-- java/lang/Cloneable -/
def k3 : Class := { plain "java/lang/Cloneable" (some 0) with
  accessFlags := 1537
  interfaces := #[]
  cf := some (fileOf pool3 2 #[] #[] 1537 4 #[] #[])
  fields := #[]
  methods := #[]
  instanceTypes := #[]
  staticTypes := #[]
  resolved := Array.replicate 8 none
  statics := none }

def pool4 : Array CpInfo := pool [(1, u "java/io/Serializable"), (0, .class_ 1), (0, u "java/lang/Object"), (0, .class_ 3)] 3

/-- java/io/Serializable -/
def k4 : Class := { plain "java/io/Serializable" (some 0) with
  accessFlags := 1537
  interfaces := #[]
  cf := some (fileOf pool4 2 #[] #[] 1537 4 #[] #[])
  fields := #[]
  methods := #[]
  instanceTypes := #[]
  staticTypes := #[]
  resolved := Array.replicate 8 none
  statics := none }

/-- the primitive byte -/
def k5 : Class := { plain "byte" none with kind := .primitive 'B', accessFlags := 0x411 }
/-- [B -/
def k6 : Class := { plain "[B" (some 0) with kind := .array 5 .byte, interfaces := #[3, 4], accessFlags := 1041 }

/-- the primitive int -/
def k7 : Class := { plain "int" none with kind := .primitive 'I', accessFlags := 0x411 }
/-- [I -/
def k8 : Class := { plain "[I" (some 0) with kind := .array 7 .int, interfaces := #[3, 4], accessFlags := 1041 }

def heap : Heap := #[]
def classes : Array Class := #[k0, k1, k2, k3, k4, k5, k6, k7, k8]
def interned : List (Array UInt16 × Addr) := []
def slotsUsed : Nat := 0
def theMethod : MethodId := ⟨1, 1⟩
def args0 : Array Value := #[.int 5]
def aboutOver (below : List Frame) : State where
  vm := { classes := classes, interned := interned.toArray }
  heap := heap
  slotsUsed := slotsUsed
  threads := #[{ frames := .invoking theMethod args0 :: below }]
def below0 : List Frame := [.native { method := ⟨0, 0⟩, args := #[] }]
def about1 : State := aboutOver below0
def p0 : Program := .bare "" "" ""
def e0 : Env := launch0.env 0 0 0
theorem w_frames : about1.frames = Frame.invoking theMethod args0 :: below0 := rfl
set_option maxRecDepth 65536 in
theorem w_args : argsFit about1.vm theMethod args0 = true := by decide +kernel
set_option maxRecDepth 65536 in
theorem w_heap : heapFits about1 = true := by decide +kernel
set_option maxRecDepth 65536 in
theorem w_runnable : about1.curStatus? = some .runnable := by decide +kernel
set_option maxRecDepth 65536 in
theorem w_alone : about1.alone = true := by decide +kernel
set_option maxRecDepth 65536 in
theorem w_named : about1.methodNamed? x = some theMethod := by decide +kernel
set_option maxRecDepth 65536 in
theorem w_hears : about1.hears theMethod below0 = true := by decide +kernel
set_option maxRecDepth 65536 in
theorem w_ripe : about1.ripe theMethod args0 below0 = true := by decide +kernel
theorem w_running : about1.status = .running := rfl
set_option maxRecDepth 65536 in
theorem w_room : about1.hasRoom e0.platform room_1 = true :=
  launch0.hasRoom_least _ room_1 (by decide +kernel) (by decide +kernel) (by decide +kernel) (by decide +kernel) (by decide +kernel) (by decide +kernel)
theorem allAtoms_all (ts : List Jvm.Cond) (a : Array Jvm.Value) (st : Jvm.State) : (allAtoms ts).before a st = ts.all (fun c => c.before a st) := by
  induction ts with
  | nil => rfl
  | cons c t ih =>
    show (Jvm.Cond.and c (allAtoms t)).before a st = _
    rw [Jvm.Cond.before_and, ih, List.all_cons]
def words1 : List Jvm.Cond := Jvm.Cond.code x code maxLocals ret :: tables_1
/-- a 'code' word, met by the world's own term for the bytes: nothing is compared byte by byte -/
theorem code_word {y : MethodName} {bytes : ByteArray} {mx : Nat} {rt : Option FieldType} {a : Array Value} {s : State} {m : MethodId} {meth : Method} {c : Code} (h1 : s.methodNamed? y = some m) (h2 : s.vm.method? m = some meth) (h3 : meth.code = some c) (h4 : c.code = bytes)
    (h5 : (c.maxLocals == mx && c.exceptionTable.isEmpty && decide (c.maxStack ≤ mostOperands) && decide (meth.sig.returnType = rt) && !meth.locks && decide (parseMethodDescriptor y.desc = some meth.sig)) = true) : (Jvm.Cond.code y bytes mx rt).before a s = true := by
  simp only [Bool.and_eq_true, beq_iff_eq, Bool.not_eq_true', decide_eq_true_eq] at h5
  obtain ⟨⟨⟨⟨⟨g1, g2⟩, g3⟩, g4⟩, g5⟩, g6⟩ := h5
  simp [Cond.before, Cond.holds, Cond.value, h1, h2, h3, h4, g1, g2, g3, g4, g5, g6]
def isCode : Jvm.Cond → Bool
  | .code _ _ _ _ => true
  | _ => false
theorem all_split {L : List Jvm.Cond} {P : Jvm.Cond → Bool} (h1 : L.all (fun c => isCode c || P c) = true) (h2 : ∀ c ∈ L.filter isCode, P c = true) : L.all P = true := by
  refine List.all_eq_true.mpr fun c hc => ?_
  have h := List.all_eq_true.mp h1 c hc
  rcases Bool.eq_false_or_eq_true (isCode c) with hi | hi
  · exact h2 c (List.mem_filter.mpr ⟨hc, hi⟩)
  · simpa [hi] using h
set_option maxRecDepth 65536 in
theorem w_c0 : (Jvm.Cond.code x code maxLocals ret).before args0 about1 = true := code_word (m := ⟨1, 1⟩) (meth := k1m1) (c := k1c1) (by decide +kernel) rfl rfl rfl (by decide +kernel)
set_option maxRecDepth 65536 in
theorem w_c1 : (Jvm.Cond.code ({ cls := "com/example/tracewright/tracewright/TerminalText", name := "isControl", desc := "(I)Z" } : Jvm.MethodName) prog_125_method_7_code (1 : Nat) (Option.some Jvm.ClassFile.FieldType.boolean)).before args0 about1 = true := code_word (m := ⟨2, 1⟩) (meth := k2m1) (c := k2c1) (by decide +kernel) rfl rfl rfl (by decide +kernel)
def codes1 : List Jvm.Cond := [Jvm.Cond.code x code maxLocals ret, Jvm.Cond.code ({ cls := "com/example/tracewright/tracewright/TerminalText", name := "isControl", desc := "(I)Z" } : Jvm.MethodName) prog_125_method_7_code (1 : Nat) (Option.some Jvm.ClassFile.FieldType.boolean)]
set_option maxRecDepth 65536 in
theorem codes_eq : words1.filter isCode = codes1 := rfl
theorem w_codes : ∀ c ∈ words1.filter isCode, c.before args0 about1 = true := by
  rw [codes_eq]
  intro c hc
  simp only [codes1, List.mem_cons, List.not_mem_nil, or_false] at hc
  rcases hc with rfl | rfl
  · exact w_c0
  · exact w_c1
set_option maxRecDepth 65536 in
theorem w_t1 : words1.all (fun c => isCode c || c.before args0 about1) = true := by decide +kernel
theorem w_tables : (allAtoms (Jvm.Cond.code x code maxLocals ret :: tables_1)).before args0 about1 = true := by
  rw [allAtoms_all]
  show words1.all (fun c => c.before args0 about1) = true
  refine all_split ?_ w_codes
  rw [w_t1]
set_option maxRecDepth 65536 in
theorem w_case : (Jvm.Cond.and given_1 narrow_1).before args0 about1 = true := by decide +kernel
theorem w_applies : (headSpec (Jvm.Cond.code x code maxLocals ret :: tables_1) room_1).applies x e0.platform about1 = true :=
  (Spec.applies_iff w_frames).mpr ⟨w_running, w_runnable, w_alone, w_named, w_hears, w_ripe, w_room, w_tables⟩
theorem atStart : AtStart classFile x code maxLocals ret World_1 tables_1 room_1 Calls_1 rest_1 Pre_1 launch0 p0 e0 about1 theMethod args0 below0 :=
  ⟨lists_1, trivial, launch0.admits_env _ _ _, launch0.least_env, fairChoices_fair.cas, fairChoices_fair.clock, w_frames, w_args, w_heap, w_applies, trivial, trivial, w_case⟩
end start1
theorem witness_1 : WitnessClaimed_1 := ⟨start1.p0, start1.e0, start1.about1, start1.theMethod, start1.args0, start1.below0, start1.atStart⟩
end Jvm.Pilot.@@N@@
