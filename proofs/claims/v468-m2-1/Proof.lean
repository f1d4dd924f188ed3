import JvmDerived
import JvmDerived.Pilot.@@N@@Statement
import JvmDerived.Pilot.@@N@@Code
set_option linter.unusedVariables false
set_option linter.unusedSimpArgs false
@@BLOCK:NumsL.lean.txt@@
namespace Jvm.RoadKit
open Sem ClassFile Op Lib Jvm.Stand Jvm.Free Jvm.LawKit
section New
variable {p : Program} {l : Launch} {e : Env} {R : Room} {s : State} {m : MethodId} {args : Array Value} {below : List Frame} {meth : Method} {c : Code} {T : State} {locs : List Loc} {cells slots : Nat}
theorem retI (X : Stand p l e R s m args below meth c T locs cells slots) (hx : p.tables.exec = Jvm.exec) {pc : Nat} {Ls : Array Slot} {z : Int32} {rest : List Value} (hret : meth.sig.returnType = some .int) (hd : decode c.code pc = .ok (.ireturn, 1)) {fs : List Frame}
    (hl : ∀ (f : JFrame) (acts : List Action), f.method = m → f.locked = none → f.entered = [] → (doReturn e (T.setTop f) acts (some (.int z))).1 = T.setFrames fs) : Steps p.tables e below (T.setTop (mkF m pc Ls (.int z :: rest))) (T.setFrames fs) := by
  have hm' : T.vm.method? m = some meth := X.method'
  have hn : narrow .int (.int z) = .int z := rfl
  show Steps p.tables e below (T.setTop { method := m, pc := pc, locals := Ls, stack := _ :: rest, locked := none }) _
  jvm_step X.here [X.here.top, hx, hd, hm', hret, hn]
  first | (intro acts; rw [hl _ acts rfl rfl rfl]) | rw [hl _ _ rfl rfl rfl]
  exact Steps.refl _
end New
end Jvm.RoadKit
namespace Jvm.Pilot.@@N@@
open Jvm Jvm.ClassFile Sem Op Lib Jvm.Free Jvm.Stand Jvm.LawKit Jvm.RoadKit Bundle Jvm.Pilot.@@N@@.Jvm.D
/-! own_Goes: from S the run comes to some state of which G holds: such a goal may be split in the middle of a walk -/
def own_Goes (p : Program) (e : Env) (below : List Frame) (S : State) (G : State → Prop) : Prop := ∃ t, Steps p.tables e below S t ∧ G t
theorem own_via {p : Program} {e : Env} {below : List Frame} {S S' : State} {G : State → Prop} (f : ∀ t, Steps p.tables e below S' t → Steps p.tables e below S t) (h : own_Goes p e below S' G) : own_Goes p e below S G := by
  obtain ⟨t, h1, h2⟩ := h
  exact ⟨t, f t h1, h2⟩
theorem own_end {p : Program} {e : Env} {below : List Frame} {S t : State} {G : State → Prop} (h : Steps p.tables e below S t) (g : G t) : own_Goes p e below S G := ⟨t, h, g⟩
theorem own_out {p : Program} {e : Env} {below : List Frame} {S : State} {P : State → Outcome → Prop} (h : own_Goes p e below S (fun t => ∃ o, t.status = .running ∧ Ended t below o ∧ P t o)) : ∃ t o, Steps p.tables e below S t ∧ t.status = .running ∧ Ended t below o ∧ P t o := by
  obtain ⟨t, h1, o, h2, h3, h4⟩ := h
  exact ⟨t, o, h1, h2, h3, h4⟩
theorem wd {a0 : Array Value} {Z : State} (hw : ∀ d ∈ tables_1, d.before a0 Z = true) (i : Nat) {d : Jvm.Cond} (h : tables_1[i]? = some d) : d.before a0 Z = true := hw _ (List.mem_of_getElem? h)
theorem own_old {Z : State} {n0 : Nat} {h : Heap} (O : Old Z n0 h) : n0 ≤ h.size := by rw [← O.1]; exact O.2.1
def own_Q0 (n0 : Nat) (v : Option Value) (L : List Loc) : Prop := v = some (.int (1 : Int32)) ∧ Fr n0 L
def own_G (s : State) (below : List Frame) (n0 : Nat) (t : State) : Prop := ∃ o, t.status = .running ∧ Ended t below o ∧ ∃ v L, o = .returned v ∧ own_Q0 n0 v L ∧ ReturnedEndW s o t L room_1.cells room_1.slots
def own_Len (Z : State) (h : Heap) (a : Addr) (ty : FieldType) (n : Int32) : Prop := ∃ k vs d, Arv Z h a k ty n vs d
theorem own_len_ext {Z : State} {h h' : Heap} {a : Addr} {ty : FieldType} {n : Int32} (F : own_Len Z h a ty n) (E : Ext h h') : own_Len Z h' a ty n := by
  obtain ⟨k, vs, d, V⟩ := F
  exact ⟨k, vs, d, V.ext E⟩
theorem own_len_other {Z : State} {h h' : Heap} {a b : Addr} {sl : Nat} {v : Value} {ty : FieldType} {n : Int32} (F : own_Len Z h b ty n) (W : Wr h h' a sl v) (q : b ≠ a) : own_Len Z h' b ty n := by
  obtain ⟨k, vs, d, V⟩ := F
  exact ⟨k, vs, d, V.other W q⟩
theorem own_len_keep {Z : State} {h h' : Heap} {a : Addr} {ws : List Addr} {ty : FieldType} {n : Int32} (F : own_Len Z h a ty n) (K : Keep h h' ws) (q : a ∉ ws) : own_Len Z h' a ty n := by
  obtain ⟨k, vs, d, V⟩ := F
  exact ⟨k, vs, d, V.keep K q⟩
theorem own_len_lt {Z : State} {h : Heap} {a : Addr} {ty : FieldType} {n : Int32} (F : own_Len Z h a ty n) : a < h.size := by
  obtain ⟨k, vs, d, V⟩ := F
  exact V.lt
theorem own_c2 (x : Int32) : x.toUInt32.toUInt16.toUInt32.toInt32.toUInt32.toUInt16.toUInt32.toInt32 = x.toUInt32.toUInt16.toUInt32.toInt32 := by rw [UInt32.toUInt32_toInt32, UInt16.toUInt16_toUInt32]
theorem own_b2 (x : Int32) : x.toInt8.toInt32.toInt8.toInt32 = x.toInt8.toInt32 := by rw [Int8.toInt8_toInt32]
section Calls
variable {p : Program} {l : Launch} {e : Env} {R : Room} {s : State} {m : MethodId} {args : Array Value} {below : List Frame} {meth : Method} {c : Code} {T : State} {locs : List Loc} {cells slots : Nat} {Z : State} {a0 : Array Value} {h : Heap} {own C : String} {index : Nat} {y : MethodName} {bytes : ByteArray} {maxL : Nat} {rm : Room} {Q : Option Value → Heap → List Loc → Prop} {a : Addr} {argsL : List Value} {g : JFrame}
/-! a call by its contract, in one step: virtual (the class's own method), a constructor, static -/
theorem own_cv {ret : Option FieldType} (X : Stand p l e R s m args below meth c T locs cells slots) (hx : p.tables.exec = Jvm.exec) (hZ : Z.Warmed39 s.vm) (hown : s.vm.findClass own = some m.cls) (w1 : (Jvm.Cond.methodLink own index y).before a0 Z = true) (w2 : (Jvm.Cond.declares y).before a0 Z = true) (w3 : (Jvm.Cond.selects C y y).before a0 Z = true) (w4 : (Jvm.Cond.instanceMethod y).before a0 Z = true) (wc : (Jvm.Cond.code y bytes maxL ret).before a0 Z = true) (wz : (Jvm.Cond.initialized y.cls).before a0 Z = true) (hy : y.cls ≠ "java/lang/invoke/MethodHandle" ∧ y.cls ≠ "java/lang/invoke/VarHandle")
    (hM : MetFree l y (head1 [Jvm.Cond.code y bytes maxL ret] rm) (fun A U => A = (.ref a :: argsL).toArray ∧ Z.Warmed39 U.vm ∧ U.heap = h) (fun _ _ _ _ _ => True) (fun _ U o U' => ∃ v L, o = .returned v ∧ Q v U'.heap L ∧ FrameEnd U o U' L rm.cells rm.slots)) (eT : T.heap = h) (E : Exa Z h a C) (hg : g.method = m) (hsize : g.locals.size = c.maxLocals) {rest : List Value} {W : Nat}
    (hlen : ∀ sig, parseMethodDescriptor y.desc = some sig → argsL.length = sig.parameters.length) (hstack : g.stack = argsL.reverse ++ .ref a :: rest) (hW : 2 * g.monitorRoom + (rest.map fun v => v.category).sum ≤ W) (hdg : decode c.code g.pc = .ok (.invokevirtual index, 3)) (r1 : rm.frames + 1 ≤ R.frames) (r2 : W + (maxL + 11) + rm.locals ≤ R.locals) (r3 : cells + rm.cells ≤ R.cells) (r4 : slots + rm.slots ≤ R.slots) :
    ∃ (v : Option Value) (T' : State) (L : List Loc), Stand p l e R s m args below meth c T' (locs ++ L) (cells + rm.cells) (slots + rm.slots) ∧ Q v T'.heap L ∧ ∀ t, Steps p.tables e below (T'.setTop { g with pc := g.pc + 3, stack := v.toList ++ rest }) t → Steps p.tables e below (T.setTop g) t := by
  obtain ⟨cq, kq, qa, -, qc⟩ := isOf hZ eT E
  obtain ⟨v, _, ⟨T', L', c', n'⟩, -, X', ⟨Lc, hQ, l1, y1, z1⟩, st⟩ := X.virtualBack hx (y := y) (z := y) hown (mvT hZ w1) (mvT hZ w2) (notFace_of_selects (args := #[]) (mvT hZ w3)) (mvT hZ w3) (mvT hZ w4) hy (backOf (W := W) hM hZ wc wz r1 r2) qa qc (g := g) hg hsize (Steps.refl _) (argsL := argsL) (rest := rest) hlen hstack hW hdg (fun _ _ => ⟨rfl, eT, r3, r4⟩)
  dsimp only [Pt.U, Pt.locs, Pt.cells, Pt.slots] at X' l1 y1 z1 st hQ
  subst l1 y1 z1
  exact ⟨v, T', Lc, X', hQ, fun t k => st.trans k⟩
theorem own_ci (X : Stand p l e R s m args below meth c T locs cells slots) (hx : p.tables.exec = Jvm.exec) (hZ : Z.Warmed39 s.vm) (hown : s.vm.findClass own = some m.cls) (w1 : (Jvm.Cond.methodLink own index y).before a0 Z = true) (w4 : (Jvm.Cond.instanceMethod y).before a0 Z = true) (wc : (Jvm.Cond.code y bytes maxL none).before a0 Z = true) (wz : (Jvm.Cond.initialized y.cls).before a0 Z = true) (hi : y.name = "<init>") (hy : y.cls ≠ "java/lang/invoke/MethodHandle" ∧ y.cls ≠ "java/lang/invoke/VarHandle")
    (hM : MetFree l y (head1 [Jvm.Cond.code y bytes maxL none] rm) (fun A U => A = (.ref a :: argsL).toArray ∧ Z.Warmed39 U.vm ∧ U.heap = h) (fun _ _ _ _ _ => True) (fun _ U o U' => ∃ v L, o = .returned v ∧ Q v U'.heap L ∧ FrameEnd U o U' L rm.cells rm.slots)) (eT : T.heap = h) (hg : g.method = m) (hsize : g.locals.size = c.maxLocals) {rest : List Value} {W : Nat}
    (hlen : ∀ sig, parseMethodDescriptor y.desc = some sig → argsL.length = sig.parameters.length) (hstack : g.stack = argsL.reverse ++ .ref a :: rest) (hW : 2 * g.monitorRoom + (rest.map fun v => v.category).sum ≤ W) (hdg : decode c.code g.pc = .ok (.invokespecial index, 3)) (r1 : rm.frames + 1 ≤ R.frames) (r2 : W + (maxL + 11) + rm.locals ≤ R.locals) (r3 : cells + rm.cells ≤ R.cells) (r4 : slots + rm.slots ≤ R.slots) :
    ∃ (v : Option Value) (T' : State) (L : List Loc), Stand p l e R s m args below meth c T' (locs ++ L) (cells + rm.cells) (slots + rm.slots) ∧ Q v T'.heap L ∧ ∀ t, Steps p.tables e below (T'.setTop { g with pc := g.pc + 3, stack := v.toList ++ rest }) t → Steps p.tables e below (T.setTop g) t := by
  obtain ⟨v, _, ⟨T', L', c', n'⟩, -, X', ⟨Lc, hQ, l1, y1, z1⟩, st⟩ := X.specialBack hx (y := y) hi hown (mvT hZ w1) (mvT hZ w4) (mvT hZ wc) hy (backOf (W := W) hM hZ wc wz r1 r2) (g := g) hg hsize (Steps.refl _) (a := a) (argsL := argsL) (rest := rest) hlen hstack hW hdg (fun _ _ => ⟨rfl, eT, r3, r4⟩)
  dsimp only [Pt.U, Pt.locs, Pt.cells, Pt.slots] at X' l1 y1 z1 st hQ
  subst l1 y1 z1
  exact ⟨v, T', Lc, X', hQ, fun t k => st.trans k⟩
theorem own_cs {ret : Option FieldType} (X : Stand p l e R s m args below meth c T locs cells slots) (hx : p.tables.exec = Jvm.exec) (hZ : Z.Warmed39 s.vm) (hown : s.vm.findClass own = some m.cls) (w1 : (Jvm.Cond.methodLink own index y).before a0 Z = true) (w4 : (Jvm.Cond.static y).before a0 Z = true) (wc : (Jvm.Cond.code y bytes maxL ret).before a0 Z = true) (wz : (Jvm.Cond.initialized y.cls).before a0 Z = true) (hy : y.cls ≠ "java/lang/invoke/MethodHandle" ∧ y.cls ≠ "java/lang/invoke/VarHandle")
    (hM : MetFree l y (head1 [Jvm.Cond.code y bytes maxL ret] rm) (fun A U => A = argsL.toArray ∧ Z.Warmed39 U.vm ∧ U.heap = h) (fun _ _ _ _ _ => True) (fun _ U o U' => ∃ v L, o = .returned v ∧ Q v U'.heap L ∧ FrameEnd U o U' L rm.cells rm.slots)) (eT : T.heap = h) (hg : g.method = m) (hsize : g.locals.size = c.maxLocals) {rest : List Value} {W : Nat}
    (hlen : ∀ sig, parseMethodDescriptor y.desc = some sig → argsL.length = sig.parameters.length) (hstack : g.stack = argsL.reverse ++ rest) (hW : 2 * g.monitorRoom + (rest.map fun v => v.category).sum ≤ W) (hdg : decode c.code g.pc = .ok (.invokestatic index, 3)) (r1 : rm.frames + 1 ≤ R.frames) (r2 : W + (maxL + 11) + rm.locals ≤ R.locals) (r3 : cells + rm.cells ≤ R.cells) (r4 : slots + rm.slots ≤ R.slots) :
    ∃ (v : Option Value) (T' : State) (L : List Loc), Stand p l e R s m args below meth c T' (locs ++ L) (cells + rm.cells) (slots + rm.slots) ∧ Q v T'.heap L ∧ ∀ t, Steps p.tables e below (T'.setTop { g with pc := g.pc + 3, stack := v.toList ++ rest }) t → Steps p.tables e below (T.setTop g) t := by
  obtain ⟨v, _, ⟨T', L', c', n'⟩, -, X', ⟨Lc, hQ, l1, y1, z1⟩, st⟩ := Jvm.LawKit.callS X hx (y := y) hown (mvT hZ w1) (mvT hZ w4) (mvT hZ wz) (mvT hZ wc) hy (backOf (W := W) hM hZ wc wz r1 r2) (g := g) hg hsize (argsL := argsL) (rest := rest) hlen hstack hW hdg (fun _ _ => ⟨rfl, eT, r3, r4⟩)
  dsimp only [Pt.U, Pt.locs, Pt.cells, Pt.slots] at X' l1 y1 z1 st hQ
  subst l1 y1 z1
  exact ⟨v, T', Lc, X', hQ, st⟩
theorem own_rmono {s t : State} {o : Outcome} {L : List Loc} {k n k' n' : Nat} (h : ReturnedEndW s o t L k n) (hk : k ≤ k') (hn : n ≤ n') : ReturnedEndW s o t L k' n' := ⟨h.1, h.2.1, h.2.2.1, h.2.2.2.mono hk hn⟩
theorem own_cvS {vm0 : Vm} {k0 : Nat} {ret : Option FieldType} (X : Stand p l e R (s.setVm vm0) m args below meth c T locs cells slots) (hx : p.tables.exec = Jvm.exec) (hZ : Z.Warmed39 (s.setVm vm0).vm) (hS : s.Since vm0 k0) (hk : k0 ≤ h.size) (hown : (s.setVm vm0).vm.findClass own = some m.cls) (w1 : (Jvm.Cond.methodLink own index y).before a0 Z = true) (w2 : (Jvm.Cond.declares y).before a0 Z = true) (w3 : (Jvm.Cond.selects C y y).before a0 Z = true) (w4 : (Jvm.Cond.instanceMethod y).before a0 Z = true) (wc : (Jvm.Cond.code y bytes maxL ret).before a0 Z = true) (wz : (Jvm.Cond.initialized y.cls).before a0 Z = true) (hy : y.cls ≠ "java/lang/invoke/MethodHandle" ∧ y.cls ≠ "java/lang/invoke/VarHandle")
    (hM : MetFree l y (head1 [Jvm.Cond.code y bytes maxL ret] rm) (fun A U => A = (.ref a :: argsL).toArray ∧ Z.Warmed39 U.vm ∧ U.heap = h) (fun _ _ _ _ _ => True) (fun _ U o U' => ∃ v L, o = .returned v ∧ Q v U'.heap L ∧ ReturnedEndW U o U' L rm.cells rm.slots)) (eT : T.heap = h) (E : Exa Z h a C) (hg : g.method = m) (hsize : g.locals.size = c.maxLocals) {rest : List Value} {W : Nat}
    (hlen : ∀ sig, parseMethodDescriptor y.desc = some sig → argsL.length = sig.parameters.length) (hstack : g.stack = argsL.reverse ++ .ref a :: rest) (hW : 2 * g.monitorRoom + (rest.map fun v => v.category).sum ≤ W) (hdg : decode c.code g.pc = .ok (.invokevirtual index, 3)) (r1 : rm.frames + 1 ≤ R.frames) (r2 : W + (maxL + 11) + rm.locals ≤ R.locals) (r3 : cells + rm.cells ≤ R.cells) (r4 : slots + rm.slots ≤ R.slots) :
    ∃ (v : Option Value) (T' : State) (L : List Loc), Stand p l e R (s.setVm T'.vm) m args below meth c T' (locs ++ L) (cells + rm.cells) (slots + rm.slots) ∧ Q v T'.heap L ∧ s.Since T'.vm T'.heap.size ∧ Z.Warmed39 (s.setVm T'.vm).vm ∧ (s.setVm T'.vm).vm.findClass own = some m.cls ∧ ∀ t, Steps p.tables e below (T'.setTop { g with pc := g.pc + 3, stack := v.toList ++ rest }) t → Steps p.tables e below (T.setTop g) t := by
  obtain ⟨cq, kq, qa, -, qc⟩ := isOf hZ eT E
  obtain ⟨v, _, ⟨T', L', c', n'⟩, -, X', h2, gg, ⟨Lc, hQ, l1, y1, z1⟩, st⟩ := X.virtualBackS hx (y := y) (z := y) hown (mvT hZ w1) (mvT hZ w2) (notFace_of_selects (args := #[]) (mvT hZ w3)) (mvT hZ w3) (mvT hZ w4) hy (backOfS (W := W) hM hZ wc wz r1 r2) qa qc (g := g) hg hsize (Steps.refl _) (argsL := argsL) (rest := rest) hlen hstack hW hdg (fun _ _ => ⟨rfl, eT, r3, r4⟩)
  dsimp only [Pt.U, Pt.locs, Pt.cells, Pt.slots] at X' l1 y1 z1 st hQ h2 gg
  subst l1 y1 z1
  obtain ⟨X2, S2, Z2, o2⟩ := rebS hS (by rw [eT]; exact hk) X' h2 gg hZ hown
  exact ⟨v, T', Lc, X2, hQ, S2, Z2, o2, fun t k => st.trans k⟩
theorem own_ciS {vm0 : Vm} {k0 : Nat} (X : Stand p l e R (s.setVm vm0) m args below meth c T locs cells slots) (hx : p.tables.exec = Jvm.exec) (hZ : Z.Warmed39 (s.setVm vm0).vm) (hS : s.Since vm0 k0) (hk : k0 ≤ h.size) (hown : (s.setVm vm0).vm.findClass own = some m.cls) (w1 : (Jvm.Cond.methodLink own index y).before a0 Z = true) (w4 : (Jvm.Cond.instanceMethod y).before a0 Z = true) (wc : (Jvm.Cond.code y bytes maxL none).before a0 Z = true) (wz : (Jvm.Cond.initialized y.cls).before a0 Z = true) (hi : y.name = "<init>") (hy : y.cls ≠ "java/lang/invoke/MethodHandle" ∧ y.cls ≠ "java/lang/invoke/VarHandle")
    (hM : MetFree l y (head1 [Jvm.Cond.code y bytes maxL none] rm) (fun A U => A = (.ref a :: argsL).toArray ∧ Z.Warmed39 U.vm ∧ U.heap = h) (fun _ _ _ _ _ => True) (fun _ U o U' => ∃ v L, o = .returned v ∧ Q v U'.heap L ∧ ReturnedEndW U o U' L rm.cells rm.slots)) (eT : T.heap = h) (hg : g.method = m) (hsize : g.locals.size = c.maxLocals) {rest : List Value} {W : Nat}
    (hlen : ∀ sig, parseMethodDescriptor y.desc = some sig → argsL.length = sig.parameters.length) (hstack : g.stack = argsL.reverse ++ .ref a :: rest) (hW : 2 * g.monitorRoom + (rest.map fun v => v.category).sum ≤ W) (hdg : decode c.code g.pc = .ok (.invokespecial index, 3)) (r1 : rm.frames + 1 ≤ R.frames) (r2 : W + (maxL + 11) + rm.locals ≤ R.locals) (r3 : cells + rm.cells ≤ R.cells) (r4 : slots + rm.slots ≤ R.slots) :
    ∃ (v : Option Value) (T' : State) (L : List Loc), Stand p l e R (s.setVm T'.vm) m args below meth c T' (locs ++ L) (cells + rm.cells) (slots + rm.slots) ∧ Q v T'.heap L ∧ s.Since T'.vm T'.heap.size ∧ Z.Warmed39 (s.setVm T'.vm).vm ∧ (s.setVm T'.vm).vm.findClass own = some m.cls ∧ ∀ t, Steps p.tables e below (T'.setTop { g with pc := g.pc + 3, stack := v.toList ++ rest }) t → Steps p.tables e below (T.setTop g) t := by
  obtain ⟨v, _, ⟨T', L', c', n'⟩, -, X', h2, gg, ⟨Lc, hQ, l1, y1, z1⟩, st⟩ := X.specialBackS hx (y := y) hi hown (mvT hZ w1) (mvT hZ w4) (mvT hZ wc) hy (backOfS (W := W) hM hZ wc wz r1 r2) (g := g) hg hsize (Steps.refl _) (a := a) (argsL := argsL) (rest := rest) hlen hstack hW hdg (fun _ _ => ⟨rfl, eT, r3, r4⟩)
  dsimp only [Pt.U, Pt.locs, Pt.cells, Pt.slots] at X' l1 y1 z1 st hQ h2 gg
  subst l1 y1 z1
  obtain ⟨X2, S2, Z2, o2⟩ := rebS hS (by rw [eT]; exact hk) X' h2 gg hZ hown
  exact ⟨v, T', Lc, X2, hQ, S2, Z2, o2, fun t k => st.trans k⟩
theorem own_csS {vm0 : Vm} {k0 : Nat} {ret : Option FieldType} (X : Stand p l e R (s.setVm vm0) m args below meth c T locs cells slots) (hx : p.tables.exec = Jvm.exec) (hZ : Z.Warmed39 (s.setVm vm0).vm) (hS : s.Since vm0 k0) (hk : k0 ≤ h.size) (hown : (s.setVm vm0).vm.findClass own = some m.cls) (w1 : (Jvm.Cond.methodLink own index y).before a0 Z = true) (w4 : (Jvm.Cond.static y).before a0 Z = true) (wc : (Jvm.Cond.code y bytes maxL ret).before a0 Z = true) (wz : (Jvm.Cond.initialized y.cls).before a0 Z = true) (hy : y.cls ≠ "java/lang/invoke/MethodHandle" ∧ y.cls ≠ "java/lang/invoke/VarHandle")
    (hM : MetFree l y (head1 [Jvm.Cond.code y bytes maxL ret] rm) (fun A U => A = argsL.toArray ∧ Z.Warmed39 U.vm ∧ U.heap = h) (fun _ _ _ _ _ => True) (fun _ U o U' => ∃ v L, o = .returned v ∧ Q v U'.heap L ∧ ReturnedEndW U o U' L rm.cells rm.slots)) (eT : T.heap = h) (hg : g.method = m) (hsize : g.locals.size = c.maxLocals) {rest : List Value} {W : Nat}
    (hlen : ∀ sig, parseMethodDescriptor y.desc = some sig → argsL.length = sig.parameters.length) (hstack : g.stack = argsL.reverse ++ rest) (hW : 2 * g.monitorRoom + (rest.map fun v => v.category).sum ≤ W) (hdg : decode c.code g.pc = .ok (.invokestatic index, 3)) (r1 : rm.frames + 1 ≤ R.frames) (r2 : W + (maxL + 11) + rm.locals ≤ R.locals) (r3 : cells + rm.cells ≤ R.cells) (r4 : slots + rm.slots ≤ R.slots) :
    ∃ (v : Option Value) (T' : State) (L : List Loc), Stand p l e R (s.setVm T'.vm) m args below meth c T' (locs ++ L) (cells + rm.cells) (slots + rm.slots) ∧ Q v T'.heap L ∧ s.Since T'.vm T'.heap.size ∧ Z.Warmed39 (s.setVm T'.vm).vm ∧ (s.setVm T'.vm).vm.findClass own = some m.cls ∧ ∀ t, Steps p.tables e below (T'.setTop { g with pc := g.pc + 3, stack := v.toList ++ rest }) t → Steps p.tables e below (T.setTop g) t := by
  obtain ⟨v, _, ⟨T', L', c', n'⟩, -, X', h2, gg, ⟨Lc, hQ, l1, y1, z1⟩, st⟩ := callSS X hx (y := y) hown (mvT hZ w1) (mvT hZ w4) (mvT hZ wz) (mvT hZ wc) hy (backOfS (W := W) hM hZ wc wz r1 r2) (g := g) hg hsize (argsL := argsL) (rest := rest) hlen hstack hW hdg (fun _ _ => ⟨rfl, eT, r3, r4⟩)
  dsimp only [Pt.U, Pt.locs, Pt.cells, Pt.slots] at X' l1 y1 z1 st hQ h2 gg
  subst l1 y1 z1
  obtain ⟨X2, S2, Z2, o2⟩ := rebS hS (by rw [eT]; exact hk) X' h2 gg hZ hown
  exact ⟨v, T', Lc, X2, hQ, S2, Z2, o2, fun t k => st.trans k⟩
end Calls
theorem own_eq_ref {args : Array Value} {s : State} {a b : Term} {w : Addr} (h : (Jvm.Cond.eq a b).value args s none s [] = some true) (hb : b.eval args s none [] s = some (.ref w)) : a.eval args s none [] s = some (.ref w) := by
  obtain ⟨x, y, e1, e2, k1, k2⟩ := cmp_v (Or.inl h)
  rw [hb] at e2
  cases e2
  have hx : x.isRef = true := by cases x <;> simp_all [Kin, Value.isRef]
  have q := gotT (eq_R e1 hb hx rfl) h
  rw [e1, q]
theorem own_ne_ref {args : Array Value} {s : State} {a b : Term} {u w : Addr} (h : (Jvm.Cond.not (Jvm.Cond.eq a b)).value args s none s [] = some true) (ha : a.eval args s none [] s = some (.ref u)) (hb : b.eval args s none [] s = some (.ref w)) : u ≠ w := fun q => gotF (eq_R ha hb rfl rfl) (not_v h) (by rw [q])
theorem own_nn_mask (x m : Int32) (k : Nat) (hk : k < 32) (hm : m.toBitVec.toNat = 2 ^ k - 1) : ¬ ((x &&& m) < (0 : Int32)) := by
  rw [Int32.lt_iff_toInt_lt, Jvm.Kit.i32_mask x m hk hm]
  have h := Int.emod_nonneg x.toInt (show ((2 : Int) ^ k) ≠ 0 from Int.ne_of_gt (Int.pow_pos (by decide)))
  rw [Int32.toInt_zero]
  omega
theorem own_lt_mask (x m : Int32) (k : Nat) (hk : k < 32) (hm : m.toBitVec.toNat = 2 ^ k - 1) {n : Int32} (hn : n.toInt = 2 ^ k) : (x &&& m) < n := by
  rw [Int32.lt_iff_toInt_lt, Jvm.Kit.i32_mask x m hk hm, hn]
  exact Int.emod_lt_of_pos _ (Int.pow_pos (by decide))
theorem own_nn_rem {x : Int32} (n : Int32) (h : ¬ (x < (0 : Int32))) : ¬ (x % n < (0 : Int32)) := by
  rw [Int32.lt_iff_toInt_lt, Int32.toInt_zero] at h ⊢
  rw [Int32.toInt_mod]
  have := Int.tmod_nonneg n.toInt (show 0 ≤ x.toInt by omega)
  omega
theorem own_pos {n : Int32} (h : (0 : Int32) < n) : 0 < n.toInt := by
  rw [Int32.lt_iff_toInt_lt, Int32.toInt_zero] at h
  exact h
theorem own_ne0 {n : Int32} (h : (0 : Int32) < n) : n ≠ 0 := fun q => by
  rw [q] at h
  exact absurd h (by decide)
theorem own_lt_rem {x : Int32} (n : Int32) (h : ¬ (x < (0 : Int32))) (hn : 0 < n.toInt) : x % n < n := by
  rw [Int32.lt_iff_toInt_lt] at h ⊢
  rw [Int32.toInt_zero] at h
  rw [Jvm.Kit.i32_rem_nonneg (by omega)]
  exact Int.emod_lt_of_pos _ hn
theorem own_modlo (x n : Int32) (hn : 0 < n.toInt) : 0 ≤ ((x &&& (2147483647 : Int32)) % n).toInt := by
  have a := Jvm.Kit.i32_mask x 2147483647 (k := 31) (by decide) (by decide)
  rw [Jvm.Kit.i32_rem_nonneg (by omega)]
  exact Int.emod_nonneg _ (by omega)
theorem own_modhi (x n : Int32) (hn : 0 < n.toInt) : ((x &&& (2147483647 : Int32)) % n).toInt < n.toInt := by
  have a := Jvm.Kit.i32_mask x 2147483647 (k := 31) (by decide) (by decide)
  rw [Jvm.Kit.i32_rem_nonneg (by omega)]
  exact Int.emod_lt_of_pos _ hn
theorem own_ci1 {x : Int32} (h : ¬ (x < (-128 : Int32))) (h2 : ¬ ((127 : Int32) < x)) : ¬ ((x + (128 : Int32)) < (0 : Int32)) ∧ (x + (128 : Int32)) < (256 : Int32) := by
  rw [Int32.lt_iff_toInt_lt] at h h2
  have a : (-128 : Int32).toInt = -128 := by decide
  have b : (127 : Int32).toInt = 127 := by decide
  have c : (128 : Int32).toInt = 128 := by decide
  have d : (256 : Int32).toInt = 256 := by decide
  have s := Jvm.Kit.i32_add (p := x) (q := 128) (by omega) (by omega)
  rw [Int32.lt_iff_toInt_lt, Int32.lt_iff_toInt_lt, Int32.toInt_zero, s]
  omega

theorem own_cases_4 (y : Int32) (h0 : 0 ≤ y.toInt) (h1 : y.toInt < 4) : y = (0 : Int32) ∨ y = (1 : Int32) ∨ y = (2 : Int32) ∨ y = (3 : Int32) := by
  have e : ∀ k : Int32, y.toInt = k.toInt → y = k := fun k q => Int32.toInt_inj.mp q
  rcases (by omega : y.toInt = 0 ∨ y.toInt = 1 ∨ y.toInt = 2 ∨ y.toInt = 3) with q | q | q | q
  · exact Or.inl (e 0 (q.trans rfl))
  · exact Or.inr <| Or.inl (e 1 (q.trans rfl))
  · exact Or.inr <| Or.inr <| Or.inl (e 2 (q.trans rfl))
  · exact Or.inr <| Or.inr <| Or.inr <| (e 3 (q.trans rfl))
abbrev zs1 : String := "tertium/Tertium"
abbrev zs2 : String := "java/util/Optional"
abbrev zs3 : String := "Ljava/lang/Object;"
abbrev zs4 : String := "java/lang/Integer"
abbrev zs5 : String := "java/lang/Object"
abbrev zs6 : String := "(Ljava/lang/Object;)Ljava/util/Optional;"
abbrev zs7 : String := "(Ljava/util/Optional;)Ltertium/Tertium;"
abbrev zs8 : String := "(Ljava/lang/Object;)V"
abbrev zs9 : String := "(Ljava/lang/Object;Ljava/lang/String;)Ljava/lang/Object;"
abbrev zs10 : String := "()Ljava/lang/Object;"
abbrev zs11 : String := "(Ljava/lang/Object;)Ltertium/Tertium;"
abbrev zs12 : String := "Ltertium/Tertium;"
abbrev zs13 : String := "()Ljava/util/Optional;"
abbrev zs14 : String := "java/lang/Integer$IntegerCache"
abbrev zs15 : String := "java/util/Objects"
abbrev zs16 : String := "fromOptional"
abbrev zs17 : String := "Ljava/util/Optional;"
abbrev zs18 : String := "()Ltertium/Tertium;"
abbrev zs19 : String := "java/lang/Number"
abbrev zs20 : String := "[Ljava/lang/Integer;"
abbrev zs21 : String := "requireNonNull"
theorem own_initFor {args : Array Value} {s : State} {C n d n' d' : String} (l1 : (Jvm.Cond.laysStatic C n d).before args s = true) (i1 : (Jvm.Cond.initializedFor C n d).before args s = true) (l2 : (Jvm.Cond.laysStatic C n' d').before args s = true) : (Jvm.Cond.initializedFor C n' d').before args s = true := by
  obtain ⟨c, k, i, f, _, _, q1, q2, -⟩ := Cond.laysStatic_spec l1
  obtain ⟨c', k', i', f', _, _, r1, r2, -⟩ := Cond.laysStatic_spec l2
  cases q1.symm.trans r1
  cases (State.fieldFound?_class q2).symm.trans (State.fieldFound?_class r2)
  have q := Cond.initializedFor_spec q2 i1
  simp [Cond.before, Cond.holds, Cond.value, r2, q]
theorem own_len31 {args : Array Value} {s : State} {t : Term} {a : Addr} {c : Cell} {ty : FieldType} {n : Int32} (ev : t.eval args s none [] s = some (.ref a)) (A : Arr s s.heap a c ty) (h : (Jvm.Cond.eq (.length t) (.int n)).value args s none s [] = some true) : c.slots.size < 2 ^ 31 ∧ c.slots.size.toInt32 = n := by
  have hl := Cond.eq_int (show (Jvm.Cond.eq (.length t) (.int n)).holds args s none s [] = true from Cond.before_iff.mpr h) rfl
  have hA : s.arrayAt? a = some c := Arr.fin (Vm.Alike.refl _) A
  have h31 := SBG.length_lt ev hA hl
  have e := len_f ev hA h31
  exact ⟨h31, by simpa using Option.some.inj (e.symm.trans hl)⟩
theorem own_sub_at {args : Array Value} {first s : State} {o : Option Outcome} {idx : List Nat} {a : Term} {x n : Int32} (h : a.eval args first o idx s = some (.int x)) : (Term.sub a (.int n)).eval args first o idx s = some (.int (x - n)) := by simp [Term.eval, h]
theorem own_and_3 (x : Int32) : x &&& (3 : Int32) = (0 : Int32) ∨ x &&& (3 : Int32) = (1 : Int32) ∨ x &&& (3 : Int32) = (2 : Int32) ∨ x &&& (3 : Int32) = (3 : Int32) := own_cases_4 _ (by rw [Jvm.Kit.i32_mask x 3 (k := 2) (by decide) (by decide)]; omega) (by rw [Jvm.Kit.i32_mask x 3 (k := 2) (by decide) (by decide)]; omega)
theorem d10_0 : decode jdk_33_method_22_code 0 = .ok (.iload_n 0, 1) := by decide +kernel
theorem d10_1 : decode jdk_33_method_22_code 1 = .ok (.bipush (-128), 2) := by decide +kernel
theorem d10_3 : decode jdk_33_method_22_code 3 = .ok (.if_icmp .lt 20, 3) := by decide +kernel
theorem d10_23 : decode jdk_33_method_22_code 23 = .ok (.new 1, 3) := by decide +kernel
theorem d10_26 : decode jdk_33_method_22_code 26 = .ok (.dup, 1) := by decide +kernel
theorem d10_27 : decode jdk_33_method_22_code 27 = .ok (.iload_n 0, 1) := by decide +kernel
theorem d10_28 : decode jdk_33_method_22_code 28 = .ok (.invokespecial 199, 3) := by decide +kernel
theorem d18_0 : decode jdk_33_method_23_code 0 = .ok (.aload_n 0, 1) := by decide +kernel
theorem d18_1 : decode jdk_33_method_23_code 1 = .ok (.invokespecial 202, 3) := by decide +kernel
theorem d19_0 : decode jdk_18_method_1_code 0 = .ok (.aload_n 0, 1) := by decide +kernel
theorem d19_1 : decode jdk_18_method_1_code 1 = .ok (.invokespecial 1, 3) := by decide +kernel
theorem d19_4 : decode jdk_18_method_1_code 4 = .ok (.return_, 1) := by decide +kernel
theorem ef_1 (m : MethodId) (x0 : Addr) : entryFrame m #[(.ref x0)] 1 = mkF m 0 #[rv x0] [] := by first | (simp [entryFrame, mkF, argsToLocals, Value.category]; done) | rfl
theorem pn_1 : plainName "java/lang/Number" = true := by first | (simp [plainName, overriddenIn]; done) | decide +kernel
def Q1 (Z : State) (a57 : Addr) (h0 : Heap) (n0 : Nat) (v : Option Value) (h : Heap) (L : List Loc) : Prop := v = none ∧ Fr n0 L ∧ h = h0
set_option maxRecDepth 65536 in
set_option maxHeartbeats 40000000 in
theorem rm1 (l : Launch) (Z : State) (a0 : Array Value) (hw : ∀ d ∈ tables_1, d.before a0 Z = true) (ws : List Jvm.Cond) (a57 : Addr) (h0 : Heap) (n0 : Nat) (O0 : Old Z n0 h0) :
    MetFree l (⟨zs19, "<init>", "()V"⟩ : MethodName) (head1 (Jvm.Cond.code (⟨zs19, "<init>", "()V"⟩ : MethodName) jdk_18_method_1_code 1 none :: ws) ({ frames := 1, cells := 0, slots := 0, locals := 12 } : Room)) (fun a U => a = #[(.ref a57)] ∧ Z.Warmed39 U.vm ∧ U.heap = h0) (fun _ _ _ _ _ => True) (fun _ U o U' => ∃ v L, o = .returned v ∧ Q1 Z a57 h0 n0 v U'.heap L ∧ ReturnedEndW U o U' L ({ frames := 1, cells := 0, slots := 0, locals := 12 } : Room).cells ({ frames := 1, cells := 0, slots := 0, locals := 12 } : Room).slots) := by
  refine MetFree.of_bodySF (plainFor_of_name pn_1) hisR ?_
  intro p e s m args below meth c s₁ Bd hml0 hP hK
  obtain ⟨rfl, hZ, hh⟩ := hP
  have hx := Bd.exec
  have hby := Bd.bytes
  have hml : c.maxLocals = 1 := hml0
  have hown : s.vm.findClass zs19 = some m.cls := findClass_of_methodNamed Bd.named
  have hnm := (name_of_methodNamed Bd.named Bd.method).1
  have X0 : Stand p l e ({ frames := 1, cells := 0, slots := 0, locals := 12 } : Room) (s.setVm s.vm) m #[(.ref a57)] below meth c s₁ [] 0 0 := Stand.of_body Bd
  have hS : s.Since s.vm 0 := (State.WarmedH.refl s).since 0
  obtain ⟨k0, hk0, hS⟩ : ∃ k0, k0 ≤ h0.size ∧ s.Since s.vm k0 := ⟨0, Nat.zero_le _, hS⟩
  have hZ : Z.Warmed39 (s.setVm s.vm).vm := hZ
  have hown : (s.setVm s.vm).vm.findClass zs19 = some m.cls := hown
  have e0 : s₁.heap = h0 := by rw [← hh, Bd.state]; rfl
  have N0 := Fr.nil n0
  refine own_out ?_
  refine own_via (fun t k => castTop (ef_1 m a57) (XS.aloadN X0.here hx rfl (hb hby d19_0) rfl rfl k)) ?_
  obtain ⟨T65, X65, e65, st65⟩ := initO X0 hx hZ hown (wd hw 112 rfl) (wd hw 71 rfl) (wd hw 72 rfl) e0 (g := (mkF m 1 #[rv a57] [(.ref a57)])) rfl (by rw [hml]; rfl) rfl (hb hby d19_1) (by decide) (W := 0) (by show 2 * 0 + _ ≤ _; exact Nat.le_of_eq rfl) (by decide)
  refine own_via (fun t k => st65 t k) ?_
  obtain ⟨fs, hr, hrun, hended, hRW⟩ := X65.leaveW hS (by rw [e65]; first | exact hk0 | exact Nat.le_refl _) (v := none) (fun _ => rfl)
  refine own_end (t := T65.setFrames fs) ?_ ⟨_, hrun, hended, _, _, rfl, ?_, own_rmono hRW (by decide) (by decide)⟩
  · exact X65.returnOut hx Bd.returns (hb hby d19_4) hr
  · show Q1 Z a57 h0 n0 _ T65.heap _
    rw [e65]
    exact ⟨rfl, N0, rfl⟩
theorem pd_1 : parseMethodDescriptor "()V" = some ⟨[], none⟩ := by decide +kernel
theorem d18_4 : decode jdk_33_method_23_code 4 = .ok (.aload_n 0, 1) := by decide +kernel
theorem d18_5 : decode jdk_33_method_23_code 5 = .ok (.iload_n 1, 1) := by decide +kernel
theorem d18_6 : decode jdk_33_method_23_code 6 = .ok (.putfield 205, 3) := by decide +kernel
theorem d18_9 : decode jdk_33_method_23_code 9 = .ok (.return_, 1) := by decide +kernel
theorem ef_2 (m : MethodId) (x0 : Addr) (x1 : Int32) : entryFrame m #[(.ref x0), (.int x1)] 2 = mkF m 0 #[rv x0, iv x1] [] := by first | (simp [entryFrame, mkF, argsToLocals, Value.category]; done) | rfl
theorem pn_2 : plainName "java/lang/Integer" = true := by first | (simp [plainName, overriddenIn]; done) | decide +kernel
def Q2 (Z : State) (a48 : Addr) (p49 : Int32) (p50 : Int32) (h0 : Heap) (n0 : Nat) (v : Option Value) (h : Heap) (L : List Loc) : Prop := v = none ∧ Fr n0 L ∧ Keep h0 h [a48] ∧ Exa Z h a48 zs4 ∧ Fld Z h a48 zs4 "value" "I" (.int p49)
set_option maxRecDepth 65536 in
set_option maxHeartbeats 40000000 in
theorem rm2 (l : Launch) (Z : State) (a0 : Array Value) (hw : ∀ d ∈ tables_1, d.before a0 Z = true) (ws : List Jvm.Cond) (a48 : Addr) (p49 : Int32) (p50 : Int32) (h0 : Heap) (n0 : Nat) (O0 : Old Z n0 h0) (pF_a48_value : Fld Z h0 a48 zs4 "value" "I" (.int p50)) (pE_a48 : Exa Z h0 a48 zs4) (pG_a48 : n0 ≤ a48) :
    MetFree l (⟨zs4, "<init>", "(I)V"⟩ : MethodName) (head1 (Jvm.Cond.code (⟨zs4, "<init>", "(I)V"⟩ : MethodName) jdk_33_method_23_code 2 none :: ws) ({ frames := 2, cells := 0, slots := 0, locals := 24 } : Room)) (fun a U => a = #[(.ref a48), (.int p49)] ∧ Z.Warmed39 U.vm ∧ U.heap = h0) (fun _ _ _ _ _ => True) (fun _ U o U' => ∃ v L, o = .returned v ∧ Q2 Z a48 p49 p50 h0 n0 v U'.heap L ∧ ReturnedEndW U o U' L ({ frames := 2, cells := 0, slots := 0, locals := 24 } : Room).cells ({ frames := 2, cells := 0, slots := 0, locals := 24 } : Room).slots) := by
  refine MetFree.of_bodySF (plainFor_of_name pn_2) hisR ?_
  intro p e s m args below meth c s₁ Bd hml0 hP hK
  obtain ⟨rfl, hZ, hh⟩ := hP
  have hx := Bd.exec
  have hby := Bd.bytes
  have hml : c.maxLocals = 2 := hml0
  have hown : s.vm.findClass zs4 = some m.cls := findClass_of_methodNamed Bd.named
  have hnm := (name_of_methodNamed Bd.named Bd.method).1
  have X0 : Stand p l e ({ frames := 2, cells := 0, slots := 0, locals := 24 } : Room) (s.setVm s.vm) m #[(.ref a48), (.int p49)] below meth c s₁ [] 0 0 := Stand.of_body Bd
  have hS : s.Since s.vm 0 := (State.WarmedH.refl s).since 0
  obtain ⟨k0, hk0, hS⟩ : ∃ k0, k0 ≤ h0.size ∧ s.Since s.vm k0 := ⟨0, Nat.zero_le _, hS⟩
  have hZ : Z.Warmed39 (s.setVm s.vm).vm := hZ
  have hown : (s.setVm s.vm).vm.findClass zs4 = some m.cls := hown
  have e0 : s₁.heap = h0 := by rw [← hh, Bd.state]; rfl
  have N0 := Fr.nil n0
  refine own_out ?_
  refine own_via (fun t k => castTop (ef_2 m a48 p49) (XS.aloadN X0.here hx rfl (hb hby d18_0) rfl rfl k)) ?_
  obtain ⟨_, T56, _, X56, hQ56, hS, hZ, hown, st56⟩ := own_ciS X0 hx hZ hS hk0 hown (wd hw 106 rfl) (wd hw 107 rfl) (wd hw 111 rfl) (wd hw 110 rfl) rfl (by decide) (rm1 l Z a0 hw [] a48 h0 n0 O0 ) e0 (g := (mkF m 1 #[rv a48, iv p49] [(.ref a48)])) rfl (by rw [hml]; rfl) (rest := []) (W := 0) (lenOf pd_1 rfl) rfl (by show 2 * 0 + _ ≤ _; exact Nat.le_of_eq rfl) (hb hby d18_1) (by decide) (by decide) (by decide) (by decide)
  obtain ⟨rfl, Nq56, hh66⟩ := hQ56
  have N56 := Fr.app N0 Nq56
  have hk67 : T56.heap.size ≤ h0.size := Nat.le_of_eq (congrArg Array.size hh66)
  refine own_via (fun t k => st56 t (XS.aloadN X56.here hx rfl (hb hby d18_4) rfl rfl (XS.iloadN X56.here hx rfl (hb hby d18_5) rfl k))) ?_
  show own_Goes p e below (T56.setTop (mkF m 6 #[rv a48, iv p49] [(.int p49), (.ref a48)])) _
  obtain ⟨T68, h68, X68, e68, W68, st68⟩ := putF X56 hx hZ hown (host := "") (Or.inl (wd hw 99 rfl)) Via.refl hh66 pF_a48_value pE_a48 (Or.inr ⟨(wd hw 100 rfl), rfl, hnm⟩) (wd hw 102 rfl) (ty := .int) (by decide) rfl rfl (g := (mkF m 6 #[rv a48, iv p49] [(.int p49), (.ref a48)])) rfl rfl (hb hby d18_6)
  refine own_via (fun t k => st68 t k) ?_
  have Fw68 : Fld Z h68 a48 zs4 "value" "I" (.int p49) := pF_a48_value.same W68
  have N68 := Fr.snoc X68 N56 pG_a48
  show own_Goes p e below (T68.setTop (mkF m 9 #[rv a48, iv p49] [])) _
  have K69 : T56.heap.size ≤ h68.size := (Nat.le_trans hk67 (Nat.le_of_eq W68.size.symm))
  obtain ⟨fs, hr, hrun, hended, hRW⟩ := X68.leaveW hS (by rw [e68]; first | exact K69 | exact Nat.le_refl _) (v := none) (fun _ => rfl)
  refine own_end (t := T68.setFrames fs) ?_ ⟨_, hrun, hended, _, _, rfl, ?_, own_rmono hRW (by decide) (by decide)⟩
  · exact X68.returnOut hx Bd.returns (hb hby d18_9) hr
  have E70 : Exa Z h68 a48 zs4 := (pE_a48.wr W68)
  · show Q2 Z a48 p49 p50 h0 n0 _ T68.heap _
    rw [e68]
    exact ⟨rfl, N68, ((Keep.refl h0 [a48]).wr W68 (Or.inl (List.mem_of_getElem? (i := 0) rfl))), E70, Fw68⟩
theorem pd_2 : parseMethodDescriptor "(I)V" = some ⟨[.int], none⟩ := by decide +kernel
theorem d10_31 : decode jdk_33_method_22_code 31 = .ok (.areturn, 1) := by decide +kernel
theorem d10_6 : decode jdk_33_method_22_code 6 = .ok (.iload_n 0, 1) := by decide +kernel
theorem d10_7 : decode jdk_33_method_22_code 7 = .ok (.getstatic 191, 3) := by decide +kernel
theorem d10_10 : decode jdk_33_method_22_code 10 = .ok (.if_icmp .gt 13, 3) := by decide +kernel
theorem d10_13 : decode jdk_33_method_22_code 13 = .ok (.getstatic 195, 3) := by decide +kernel
theorem d10_16 : decode jdk_33_method_22_code 16 = .ok (.iload_n 0, 1) := by decide +kernel
theorem d10_17 : decode jdk_33_method_22_code 17 = .ok (.sipush 128, 3) := by decide +kernel
theorem d10_20 : decode jdk_33_method_22_code 20 = .ok (.iadd, 1) := by decide +kernel
theorem d10_21 : decode jdk_33_method_22_code 21 = .ok (.aaload, 1) := by decide +kernel
theorem d10_22 : decode jdk_33_method_22_code 22 = .ok (.areturn, 1) := by decide +kernel
theorem ef_3 (m : MethodId) (x0 : Int32) : entryFrame m #[(.int x0)] 1 = mkF m 0 #[iv x0] [] := by first | (simp [entryFrame, mkF, argsToLocals, Value.category]; done) | rfl
def Q3 (Z : State) (p36 : Int32) (w31 : Addr) (cl33 : Cell) (h0 : Heap) (n0 : Nat) (v : Option Value) (h : Heap) (L : List Loc) : Prop := ((∃ (b43 : Addr), p36 < (-128 : Int32) ∧ v = some (.ref b43) ∧ Fr n0 L ∧ Keep h0 h [] ∧ h0.size ≤ b43 ∧ Exa Z h b43 zs4 ∧ Fld Z h b43 zs4 "value" "I" (.int p36))) ∨ ((∃ (b79 : Addr), ¬ (p36 < (-128 : Int32)) ∧ (127 : Int32) < p36 ∧ v = some (.ref b79) ∧ Fr n0 L ∧ Keep h0 h [] ∧ h0.size ≤ b79 ∧ Exa Z h b79 zs4 ∧ Fld Z h b79 zs4 "value" "I" (.int p36))) ∨ ((∃ (b91 : Addr), ¬ (p36 < (-128 : Int32)) ∧ ¬ ((127 : Int32) < p36) ∧ v = some (.ref b91) ∧ Fr n0 L ∧ Exa Z Z.heap b91 zs4 ∧ Fld Z Z.heap b91 zs4 "value" "I" (.int p36) ∧ h = h0))
set_option maxRecDepth 65536 in
set_option maxHeartbeats 40000000 in
theorem rm3 (l : Launch) (Z : State) (a0 : Array Value) (hw : ∀ d ∈ tables_1, d.before a0 Z = true) (ws : List Jvm.Cond) (p36 : Int32) (w31 : Addr) (cl33 : Cell) (h0 : Heap) (n0 : Nat) (O0 : Old Z n0 h0) (S_Integer_IntegerCache_high : Sta Z Z.heap zs14 "high" "I" (.int (127 : Int32))) (S_Integer_IntegerCache_cache : Sta Z Z.heap zs14 "cache" zs20 (.ref w31)) (BX_w31 : Bxs Z w31 cl33 zs4 "I" (256 : Int32) (fun j => .int (j - (128 : Int32)))) :
    MetFree l (⟨zs4, "valueOf", "(I)Ljava/lang/Integer;"⟩ : MethodName) (head1 (Jvm.Cond.code (⟨zs4, "valueOf", "(I)Ljava/lang/Integer;"⟩ : MethodName) jdk_33_method_22_code 1 (some (.object zs4)) :: ws) ({ frames := 3, cells := 1, slots := 1, locals := 38 } : Room)) (fun a U => a = #[(.int p36)] ∧ Z.Warmed39 U.vm ∧ U.heap = h0) (fun _ _ _ _ _ => True) (fun _ U o U' => ∃ v L, o = .returned v ∧ Q3 Z p36 w31 cl33 h0 n0 v U'.heap L ∧ ReturnedEndW U o U' L ({ frames := 3, cells := 1, slots := 1, locals := 38 } : Room).cells ({ frames := 3, cells := 1, slots := 1, locals := 38 } : Room).slots) := by
  refine MetFree.of_bodySF (plainFor_of_name pn_2) hisR ?_
  intro p e s m args below meth c s₁ Bd hml0 hP hK
  obtain ⟨rfl, hZ, hh⟩ := hP
  have hx := Bd.exec
  have hby := Bd.bytes
  have hml : c.maxLocals = 1 := hml0
  have hown : s.vm.findClass zs4 = some m.cls := findClass_of_methodNamed Bd.named
  have hnm := (name_of_methodNamed Bd.named Bd.method).1
  have X0 : Stand p l e ({ frames := 3, cells := 1, slots := 1, locals := 38 } : Room) (s.setVm s.vm) m #[(.int p36)] below meth c s₁ [] 0 0 := Stand.of_body Bd
  have hS : s.Since s.vm 0 := (State.WarmedH.refl s).since 0
  obtain ⟨k0, hk0, hS⟩ : ∃ k0, k0 ≤ h0.size ∧ s.Since s.vm k0 := ⟨0, Nat.zero_le _, hS⟩
  have hZ : Z.Warmed39 (s.setVm s.vm).vm := hZ
  have hown : (s.setVm s.vm).vm.findClass zs4 = some m.cls := hown
  have e0 : s₁.heap = h0 := by rw [← hh, Bd.state]; rfl
  have N0 := Fr.nil n0
  refine own_out ?_
  refine own_via (fun t k => castTop (ef_3 m p36) (XS.iloadN X0.here hx rfl (hb hby d10_0) rfl (XS.bipush X0.here hx rfl (hb hby d10_1) k))) ?_
  show own_Goes p e below (s₁.setTop (mkF m 3 #[iv p36] [(.int (-128 : Int32)), (.int p36)])) _
  by_cases hc41 : p36 < (-128 : Int32)
  · refine own_via (fun t k => XS.icmpYes X0.here hx rfl (pc0 := 3) (pc' := 23) rfl (hb hby d10_3) rfl (tlt hc41).1 (by decide) (by decide) k) ?_
    obtain ⟨T42, h42, X42, e42, E42, A42, D42, -, st42⟩ := newO X0 hx hZ hown (wd hw 101 rfl) (wd hw 102 rfl) (wd hw 57 rfl) e0 (g := (mkF m 23 #[iv p36] [])) rfl (hb hby d10_23) (by decide) (by decide)
    obtain ⟨b43, q42⟩ : ∃ z, z = h0.size := ⟨_, rfl⟩
    rw [← q42] at A42 D42 st42
    refine own_via (fun t k => st42 t k) ?_
    have g44 : n0 ≤ b43 := Nat.le_trans (own_old O0) (Nat.le_of_eq q42.symm)
    have B45 : h0.size ≤ b43 := Nat.le_trans (Nat.le_refl _) (Nat.le_of_eq q42.symm)
    have F46 : Fld Z h42 b43 zs4 "value" "I" (.int (0 : Int32)) := D42 (Or.inr (wd hw 100 rfl)) (ty := .int) (by decide)
    show own_Goes p e below (T42.setTop (mkF m 26 #[iv p36] [(.ref b43)])) _
    refine own_via (fun t k => XS.dup X42.here hx rfl (hb hby d10_26) rfl rfl (XS.iloadN X42.here hx rfl (hb hby d10_27) rfl k)) ?_
    have O71 : Old Z n0 h42 := (O0.ext E42)
    have K72 : k0 ≤ h42.size := (Nat.le_trans hk0 E42.1)
    obtain ⟨_, T47, _, X47, hQ47, hS, hZ, hown, st47⟩ := own_ciS X42 hx hZ hS K72 hown (wd hw 103 rfl) (wd hw 104 rfl) (wd hw 105 rfl) (wd hw 57 rfl) rfl (by decide) (rm2 l Z a0 hw [] b43 p36 (0 : Int32) h42 n0 O71 F46 A42 g44) e42 (g := (mkF m 28 #[iv p36] [(.int p36), (.ref b43), (.ref b43)])) rfl (by rw [hml]; rfl) (rest := [(.ref b43)]) (W := 1) (lenOf pd_2 rfl) rfl (by show 2 * 0 + _ ≤ _; exact Nat.le_of_eq rfl) (hb hby d10_28) (by decide) (by decide) (by decide) (by decide)
    obtain ⟨h47, e47⟩ : ∃ z, T47.heap = z := ⟨_, rfl⟩
    rw [e47] at hQ47
    obtain ⟨rfl, Nq47, K47, ex73, fx74⟩ := hQ47
    have N47 := Fr.app N0 Nq47
    have hk75 : T47.heap.size ≤ h47.size := Nat.le_of_eq (congrArg Array.size e47)
    refine own_via (fun t k => st47 t k) ?_
    obtain ⟨fs, hr, hrun, hended, hRW⟩ := X47.leaveW hS (by rw [e47]; first | exact hk75 | exact Nat.le_refl _) (v := some (.ref b43)) (fun h => by rw [Bd.returns] at h; cases h)
    refine own_end (t := T47.setFrames fs) ?_ ⟨_, hrun, hended, _, _, rfl, ?_, own_rmono hRW (by decide) (by decide)⟩
    · jvm_step X47.here [X47.here.top, hx, (hb hby d10_31), X47.method', Bd.returns, Value.isRef, FieldType.isReference]
      first | (intro acts; rw [hr _ acts rfl rfl rfl]) | rw [hr _ _ rfl rfl rfl]
      exact Steps.refl _
    · show Q3 Z p36 w31 cl33 h0 n0 _ T47.heap _
      rw [e47]
      exact Or.inl <| ⟨b43, hc41, rfl, N47, (((Keep.refl h0 []).ext E42).trans K47 (allS (Or.inr B45) all0)), B45, ex73, fx74⟩
  · refine own_via (fun t k => XS.icmpNo X0.here hx rfl (hb hby d10_3) rfl (flt hc41).1 (XS.iloadN X0.here hx rfl (hb hby d10_6) rfl k)) ?_
    obtain ⟨T76, X76, e76, st76⟩ := getS2 X0 hx hZ hown (host := "") (Or.inl (wd hw 59 rfl)) Via.refl e0 (S_Integer_IntegerCache_high.ext O0.2) (g := (mkF m 7 #[iv p36] [(.int p36)])) rfl (hb hby d10_7)
    refine own_via (fun t k => st76 t k) ?_
    show own_Goes p e below (T76.setTop (mkF m 10 #[iv p36] [(.int (127 : Int32)), (.int p36)])) _
    by_cases hc77 : (127 : Int32) < p36
    · refine own_via (fun t k => XS.icmpYes X76.here hx rfl (pc0 := 10) (pc' := 23) rfl (hb hby d10_10) rfl (tlt hc77).2.2.1 (by decide) (by decide) k) ?_
      obtain ⟨T78, h78, X78, e78, E78, A78, D78, -, st78⟩ := newO X76 hx hZ hown (wd hw 101 rfl) (wd hw 102 rfl) (wd hw 57 rfl) e76 (g := (mkF m 23 #[iv p36] [])) rfl (hb hby d10_23) (by decide) (by decide)
      obtain ⟨b79, q78⟩ : ∃ z, z = h0.size := ⟨_, rfl⟩
      rw [← q78] at A78 D78 st78
      refine own_via (fun t k => st78 t k) ?_
      have g80 : n0 ≤ b79 := Nat.le_trans (own_old O0) (Nat.le_of_eq q78.symm)
      have B81 : h0.size ≤ b79 := Nat.le_trans (Nat.le_refl _) (Nat.le_of_eq q78.symm)
      have F82 : Fld Z h78 b79 zs4 "value" "I" (.int (0 : Int32)) := D78 (Or.inr (wd hw 100 rfl)) (ty := .int) (by decide)
      show own_Goes p e below (T78.setTop (mkF m 26 #[iv p36] [(.ref b79)])) _
      refine own_via (fun t k => XS.dup X78.here hx rfl (hb hby d10_26) rfl rfl (XS.iloadN X78.here hx rfl (hb hby d10_27) rfl k)) ?_
      have O84 : Old Z n0 h78 := (O0.ext E78)
      have K85 : k0 ≤ h78.size := (Nat.le_trans hk0 E78.1)
      obtain ⟨_, T83, _, X83, hQ83, hS, hZ, hown, st83⟩ := own_ciS X78 hx hZ hS K85 hown (wd hw 103 rfl) (wd hw 104 rfl) (wd hw 105 rfl) (wd hw 57 rfl) rfl (by decide) (rm2 l Z a0 hw [] b79 p36 (0 : Int32) h78 n0 O84 F82 A78 g80) e78 (g := (mkF m 28 #[iv p36] [(.int p36), (.ref b79), (.ref b79)])) rfl (by rw [hml]; rfl) (rest := [(.ref b79)]) (W := 1) (lenOf pd_2 rfl) rfl (by show 2 * 0 + _ ≤ _; exact Nat.le_of_eq rfl) (hb hby d10_28) (by decide) (by decide) (by decide) (by decide)
      obtain ⟨h83, e83⟩ : ∃ z, T83.heap = z := ⟨_, rfl⟩
      rw [e83] at hQ83
      obtain ⟨rfl, Nq83, K83, ex86, fx87⟩ := hQ83
      have N83 := Fr.app N0 Nq83
      have hk88 : T83.heap.size ≤ h83.size := Nat.le_of_eq (congrArg Array.size e83)
      refine own_via (fun t k => st83 t k) ?_
      obtain ⟨fs, hr, hrun, hended, hRW⟩ := X83.leaveW hS (by rw [e83]; first | exact hk88 | exact Nat.le_refl _) (v := some (.ref b79)) (fun h => by rw [Bd.returns] at h; cases h)
      refine own_end (t := T83.setFrames fs) ?_ ⟨_, hrun, hended, _, _, rfl, ?_, own_rmono hRW (by decide) (by decide)⟩
      · jvm_step X83.here [X83.here.top, hx, (hb hby d10_31), X83.method', Bd.returns, Value.isRef, FieldType.isReference]
        first | (intro acts; rw [hr _ acts rfl rfl rfl]) | rw [hr _ _ rfl rfl rfl]
        exact Steps.refl _
      · show Q3 Z p36 w31 cl33 h0 n0 _ T83.heap _
        rw [e83]
        exact Or.inr <| Or.inl <| ⟨b79, hc41, hc77, rfl, N83, (((Keep.refl h0 []).ext E78).trans K83 (allS (Or.inr B81) all0)), B81, ex86, fx87⟩
    · refine own_via (fun t k => XS.icmpNo X76.here hx rfl (hb hby d10_10) rfl (flt hc77).2.2.1 k) ?_
      obtain ⟨T89, X89, e89, st89⟩ := getS2 X76 hx hZ hown (host := "") (Or.inl (wd hw 61 rfl)) Via.refl e76 (S_Integer_IntegerCache_cache.ext O0.2) (g := (mkF m 13 #[iv p36] [])) rfl (hb hby d10_13)
      refine own_via (fun t k => st89 t (XS.iloadN X89.here hx rfl (hb hby d10_16) rfl (XS.sipush X89.here hx rfl (hb hby d10_17) (XS.iadd X89.here hx rfl (hb hby d10_20) rfl k)))) ?_
      show own_Goes p e below (T89.setTop (mkF m 21 #[iv p36] [(.int (p36 + (128 : Int32))), (.ref w31)])) _
      obtain ⟨Ar90, S90, M90⟩ := Bxs.ext BX_w31 O0.2
      have hin90 : ¬ ((p36 + (128 : Int32)) < 0 ∨ cl33.slots.size ≤ ((p36 + (128 : Int32))).toNatClampNeg) := inb_of S90 ⟨(own_ci1 hc41 hc77).1, (own_ci1 hc41 hc77).2⟩
      obtain ⟨b91, hat90, SE90, SG90⟩ := BX_w31.2.2.2 (p36 + (128 : Int32)) hin90
      have SF90 : Fld Z Z.heap b91 zs4 "value" "I" (.int p36) := by have q : Fld Z Z.heap b91 zs4 "value" "I" (.int ((p36 + (128 : Int32)) - (128 : Int32))) := SG90; rwa [show ((p36 + (128 : Int32)) - (128 : Int32)) = p36 from Int32.add_sub_cancel _ _] at q
      refine own_via (fun t k => X89.aaload hx (j := (p36 + (128 : Int32))) (v := (.ref b91)) (by rw [e89]; exact Ar90.1) (State.isArrayOf_alike hZ.alike Ar90.2.1) rfl Ar90.2.2 hin90 hat90 (g := (mkF m 21 #[iv p36] [(.int (p36 + (128 : Int32))), (.ref w31)])) rfl rfl (hb hby d10_21) t k) ?_
      obtain ⟨fs, hr, hrun, hended, hRW⟩ := X89.leaveW hS (by rw [e89]; first | exact hk0 | exact Nat.le_refl _) (v := some (.ref b91)) (fun h => by rw [Bd.returns] at h; cases h)
      refine own_end (t := T89.setFrames fs) ?_ ⟨_, hrun, hended, _, _, rfl, ?_, own_rmono hRW (by decide) (by decide)⟩
      · jvm_step X89.here [X89.here.top, hx, (hb hby d10_22), X89.method', Bd.returns, Value.isRef, FieldType.isReference]
        first | (intro acts; rw [hr _ acts rfl rfl rfl]) | rw [hr _ _ rfl rfl rfl]
        exact Steps.refl _
      · show Q3 Z p36 w31 cl33 h0 n0 _ T89.heap _
        rw [e89]
        exact Or.inr <| Or.inr <| ⟨b91, hc41, hc77, rfl, N0, SE90, SF90, rfl⟩
theorem pd_3 : parseMethodDescriptor "(I)Ljava/lang/Integer;" = some ⟨[.int], some (.object "java/lang/Integer")⟩ := by decide +kernel
theorem d11_0 : decode prog_1_method_4_code 0 = .ok (.aload_n 0, 1) := by decide +kernel
theorem d11_1 : decode prog_1_method_4_code 1 = .ok (.ifnonnull 7, 3) := by decide +kernel
theorem d11_8 : decode prog_1_method_4_code 8 = .ok (.new 8, 3) := by decide +kernel
theorem d11_11 : decode prog_1_method_4_code 11 = .ok (.dup, 1) := by decide +kernel
theorem d11_12 : decode prog_1_method_4_code 12 = .ok (.aload_n 0, 1) := by decide +kernel
theorem d11_13 : decode prog_1_method_4_code 13 = .ok (.invokespecial 24, 3) := by decide +kernel
theorem d12_0 : decode prog_1_method_1_code 0 = .ok (.aload_n 0, 1) := by decide +kernel
theorem d12_1 : decode prog_1_method_1_code 1 = .ok (.invokespecial 1, 3) := by decide +kernel
theorem d12_4 : decode prog_1_method_1_code 4 = .ok (.aload_n 0, 1) := by decide +kernel
theorem d12_5 : decode prog_1_method_1_code 5 = .ok (.aload_n 1, 1) := by decide +kernel
theorem d12_6 : decode prog_1_method_1_code 6 = .ok (.putfield 7, 3) := by decide +kernel
theorem d12_9 : decode prog_1_method_1_code 9 = .ok (.return_, 1) := by decide +kernel
theorem ef_4 (m : MethodId) (x0 : Addr) (x1 : Addr) : entryFrame m #[(.ref x0), (.ref x1)] 2 = mkF m 0 #[rv x0, rv x1] [] := by first | (simp [entryFrame, mkF, argsToLocals, Value.category]; done) | rfl
theorem pn_3 : plainName "tertium/Tertium" = true := by first | (simp [plainName, overriddenIn]; done) | decide +kernel
def Q4 (Z : State) (a126 : Addr) (a127 : Addr) (h0 : Heap) (n0 : Nat) (v : Option Value) (h : Heap) (L : List Loc) : Prop := v = none ∧ Fr n0 L ∧ Keep h0 h [a126] ∧ Exa Z h a126 zs1 ∧ Fld Z h a126 zs1 "value" zs3 (.ref a127)
set_option maxRecDepth 65536 in
set_option maxHeartbeats 40000000 in
theorem rm4 (l : Launch) (Z : State) (a0 : Array Value) (hw : ∀ d ∈ tables_1, d.before a0 Z = true) (ws : List Jvm.Cond) (a126 : Addr) (a127 : Addr) (h0 : Heap) (n0 : Nat) (O0 : Old Z n0 h0) (pF_a126_value : Fld Z h0 a126 zs1 "value" zs3 .null) (pE_a126 : Exa Z h0 a126 zs1) (pG_a126 : n0 ≤ a126) :
    MetFree l (⟨zs1, "<init>", zs8⟩ : MethodName) (head1 (Jvm.Cond.code (⟨zs1, "<init>", zs8⟩ : MethodName) prog_1_method_1_code 2 none :: ws) ({ frames := 1, cells := 0, slots := 0, locals := 12 } : Room)) (fun a U => a = #[(.ref a126), (.ref a127)] ∧ Z.Warmed39 U.vm ∧ U.heap = h0) (fun _ _ _ _ _ => True) (fun _ U o U' => ∃ v L, o = .returned v ∧ Q4 Z a126 a127 h0 n0 v U'.heap L ∧ ReturnedEndW U o U' L ({ frames := 1, cells := 0, slots := 0, locals := 12 } : Room).cells ({ frames := 1, cells := 0, slots := 0, locals := 12 } : Room).slots) := by
  refine MetFree.of_bodySF (plainFor_of_name pn_3) hisR ?_
  intro p e s m args below meth c s₁ Bd hml0 hP hK
  obtain ⟨rfl, hZ, hh⟩ := hP
  have hx := Bd.exec
  have hby := Bd.bytes
  have hml : c.maxLocals = 2 := hml0
  have hown : s.vm.findClass zs1 = some m.cls := findClass_of_methodNamed Bd.named
  have hnm := (name_of_methodNamed Bd.named Bd.method).1
  have X0 : Stand p l e ({ frames := 1, cells := 0, slots := 0, locals := 12 } : Room) (s.setVm s.vm) m #[(.ref a126), (.ref a127)] below meth c s₁ [] 0 0 := Stand.of_body Bd
  have hS : s.Since s.vm 0 := (State.WarmedH.refl s).since 0
  obtain ⟨k0, hk0, hS⟩ : ∃ k0, k0 ≤ h0.size ∧ s.Since s.vm k0 := ⟨0, Nat.zero_le _, hS⟩
  have hZ : Z.Warmed39 (s.setVm s.vm).vm := hZ
  have hown : (s.setVm s.vm).vm.findClass zs1 = some m.cls := hown
  have e0 : s₁.heap = h0 := by rw [← hh, Bd.state]; rfl
  have N0 := Fr.nil n0
  refine own_out ?_
  refine own_via (fun t k => castTop (ef_4 m a126 a127) (XS.aloadN X0.here hx rfl (hb hby d12_0) rfl rfl k)) ?_
  obtain ⟨T134, X134, e134, st134⟩ := initO X0 hx hZ hown (wd hw 70 rfl) (wd hw 71 rfl) (wd hw 72 rfl) e0 (g := (mkF m 1 #[rv a126, rv a127] [(.ref a126)])) rfl (by rw [hml]; rfl) rfl (hb hby d12_1) (by decide) (W := 0) (by show 2 * 0 + _ ≤ _; exact Nat.le_of_eq rfl) (by decide)
  refine own_via (fun t k => st134 t (XS.aloadN X134.here hx rfl (hb hby d12_4) rfl rfl (XS.aloadN X134.here hx rfl (hb hby d12_5) rfl rfl k))) ?_
  show own_Goes p e below (T134.setTop (mkF m 6 #[rv a126, rv a127] [(.ref a127), (.ref a126)])) _
  obtain ⟨T135, h135, X135, e135, W135, st135⟩ := putF X134 hx hZ hown (host := "") (Or.inl (wd hw 11 rfl)) Via.refl e134 pF_a126_value pE_a126 (Or.inr ⟨(wd hw 12 rfl), rfl, hnm⟩) (wd hw 66 rfl) (ty := (.object zs5)) (by decide) rfl rfl (g := (mkF m 6 #[rv a126, rv a127] [(.ref a127), (.ref a126)])) rfl rfl (hb hby d12_6)
  refine own_via (fun t k => st135 t k) ?_
  have Fw135 : Fld Z h135 a126 zs1 "value" zs3 (.ref a127) := pF_a126_value.same W135
  have N135 := Fr.snoc X135 N0 pG_a126
  show own_Goes p e below (T135.setTop (mkF m 9 #[rv a126, rv a127] [])) _
  have K136 : k0 ≤ h135.size := (Nat.le_trans hk0 (Nat.le_of_eq W135.size.symm))
  obtain ⟨fs, hr, hrun, hended, hRW⟩ := X135.leaveW hS (by rw [e135]; first | exact K136 | exact Nat.le_refl _) (v := none) (fun _ => rfl)
  refine own_end (t := T135.setFrames fs) ?_ ⟨_, hrun, hended, _, _, rfl, ?_, own_rmono hRW (by decide) (by decide)⟩
  · exact X135.returnOut hx Bd.returns (hb hby d12_9) hr
  have E137 : Exa Z h135 a126 zs1 := (pE_a126.wr W135)
  · show Q4 Z a126 a127 h0 n0 _ T135.heap _
    rw [e135]
    exact ⟨rfl, N135, ((Keep.refl h0 [a126]).wr W135 (Or.inl (List.mem_of_getElem? (i := 0) rfl))), E137, Fw135⟩
theorem pd_4 : parseMethodDescriptor "(Ljava/lang/Object;)V" = some ⟨[(.object "java/lang/Object")], none⟩ := by decide +kernel
theorem d11_16 : decode prog_1_method_4_code 16 = .ok (.areturn, 1) := by decide +kernel
theorem ef_5 (m : MethodId) (x0 : Addr) : entryFrame m #[(.ref x0)] 1 = mkF m 0 #[rv x0] [] := by first | (simp [entryFrame, mkF, argsToLocals, Value.category]; done) | rfl
def Q5 (Z : State) (a113 : Addr) (h0 : Heap) (n0 : Nat) (v : Option Value) (h : Heap) (L : List Loc) : Prop := (∃ (b121 : Addr), v = some (.ref b121) ∧ Fr n0 L ∧ Keep h0 h [] ∧ h0.size ≤ b121 ∧ Exa Z h b121 zs1 ∧ Fld Z h b121 zs1 "value" zs3 (.ref a113))
set_option maxRecDepth 65536 in
set_option maxHeartbeats 40000000 in
theorem rm5 (l : Launch) (Z : State) (a0 : Array Value) (hw : ∀ d ∈ tables_1, d.before a0 Z = true) (ws : List Jvm.Cond) (a113 : Addr) (h0 : Heap) (n0 : Nat) (O0 : Old Z n0 h0) :
    MetFree l (⟨zs1, "of", zs11⟩ : MethodName) (head1 (Jvm.Cond.code (⟨zs1, "of", zs11⟩ : MethodName) prog_1_method_4_code 1 (some (.object zs1)) :: ws) ({ frames := 2, cells := 1, slots := 1, locals := 26 } : Room)) (fun a U => a = #[(.ref a113)] ∧ Z.Warmed39 U.vm ∧ U.heap = h0) (fun _ _ _ _ _ => True) (fun _ U o U' => ∃ v L, o = .returned v ∧ Q5 Z a113 h0 n0 v U'.heap L ∧ ReturnedEndW U o U' L ({ frames := 2, cells := 1, slots := 1, locals := 26 } : Room).cells ({ frames := 2, cells := 1, slots := 1, locals := 26 } : Room).slots) := by
  refine MetFree.of_bodySF (plainFor_of_name pn_3) hisR ?_
  intro p e s m args below meth c s₁ Bd hml0 hP hK
  obtain ⟨rfl, hZ, hh⟩ := hP
  have hx := Bd.exec
  have hby := Bd.bytes
  have hml : c.maxLocals = 1 := hml0
  have hown : s.vm.findClass zs1 = some m.cls := findClass_of_methodNamed Bd.named
  have hnm := (name_of_methodNamed Bd.named Bd.method).1
  have X0 : Stand p l e ({ frames := 2, cells := 1, slots := 1, locals := 26 } : Room) (s.setVm s.vm) m #[(.ref a113)] below meth c s₁ [] 0 0 := Stand.of_body Bd
  have hS : s.Since s.vm 0 := (State.WarmedH.refl s).since 0
  obtain ⟨k0, hk0, hS⟩ : ∃ k0, k0 ≤ h0.size ∧ s.Since s.vm k0 := ⟨0, Nat.zero_le _, hS⟩
  have hZ : Z.Warmed39 (s.setVm s.vm).vm := hZ
  have hown : (s.setVm s.vm).vm.findClass zs1 = some m.cls := hown
  have e0 : s₁.heap = h0 := by rw [← hh, Bd.state]; rfl
  have N0 := Fr.nil n0
  refine own_out ?_
  refine own_via (fun t k => castTop (ef_5 m a113) (XS.aloadN X0.here hx rfl (hb hby d11_0) rfl rfl (XS.ifnonnullYes X0.here hx rfl (pc0 := 1) (pc' := 8) rfl (hb hby d11_1) rfl (by decide) (by decide) k))) ?_
  show own_Goes p e below (s₁.setTop (mkF m 8 #[rv a113] [])) _
  obtain ⟨T120, h120, X120, e120, E120, A120, D120, -, st120⟩ := newO X0 hx hZ hown (wd hw 65 rfl) (wd hw 66 rfl) (wd hw 2 rfl) e0 (g := (mkF m 8 #[rv a113] [])) rfl (hb hby d11_8) (by decide) (by decide)
  obtain ⟨b121, q120⟩ : ∃ z, z = h0.size := ⟨_, rfl⟩
  rw [← q120] at A120 D120 st120
  refine own_via (fun t k => st120 t k) ?_
  have g122 : n0 ≤ b121 := Nat.le_trans (own_old O0) (Nat.le_of_eq q120.symm)
  have B123 : h0.size ≤ b121 := Nat.le_trans (Nat.le_refl _) (Nat.le_of_eq q120.symm)
  have F124 : Fld Z h120 b121 zs1 "value" zs3 .null := D120 (Or.inr (wd hw 12 rfl)) (ty := (.object zs5)) (by decide)
  show own_Goes p e below (T120.setTop (mkF m 11 #[rv a113] [(.ref b121)])) _
  refine own_via (fun t k => XS.dup X120.here hx rfl (hb hby d11_11) rfl rfl (XS.aloadN X120.here hx rfl (hb hby d11_12) rfl rfl k)) ?_
  have O138 : Old Z n0 h120 := (O0.ext E120)
  have K139 : k0 ≤ h120.size := (Nat.le_trans hk0 E120.1)
  obtain ⟨_, T125, _, X125, hQ125, hS, hZ, hown, st125⟩ := own_ciS X120 hx hZ hS K139 hown (wd hw 67 rfl) (wd hw 68 rfl) (wd hw 69 rfl) (wd hw 2 rfl) rfl (by decide) (rm4 l Z a0 hw [] b121 a113 h120 n0 O138 F124 A120 g122) e120 (g := (mkF m 13 #[rv a113] [(.ref a113), (.ref b121), (.ref b121)])) rfl (by rw [hml]; rfl) (rest := [(.ref b121)]) (W := 1) (lenOf pd_4 rfl) rfl (by show 2 * 0 + _ ≤ _; exact Nat.le_of_eq rfl) (hb hby d11_13) (by decide) (by decide) (by decide) (by decide)
  obtain ⟨h125, e125⟩ : ∃ z, T125.heap = z := ⟨_, rfl⟩
  rw [e125] at hQ125
  obtain ⟨rfl, Nq125, K125, ex140, fx141⟩ := hQ125
  have N125 := Fr.app N0 Nq125
  have hk142 : T125.heap.size ≤ h125.size := Nat.le_of_eq (congrArg Array.size e125)
  refine own_via (fun t k => st125 t k) ?_
  obtain ⟨fs, hr, hrun, hended, hRW⟩ := X125.leaveW hS (by rw [e125]; first | exact hk142 | exact Nat.le_refl _) (v := some (.ref b121)) (fun h => by rw [Bd.returns] at h; cases h)
  refine own_end (t := T125.setFrames fs) ?_ ⟨_, hrun, hended, _, _, rfl, ?_, own_rmono hRW (by decide) (by decide)⟩
  · jvm_step X125.here [X125.here.top, hx, (hb hby d11_16), X125.method', Bd.returns, Value.isRef, FieldType.isReference]
    first | (intro acts; rw [hr _ acts rfl rfl rfl]) | rw [hr _ _ rfl rfl rfl]
    exact Steps.refl _
  · show Q5 Z a113 h0 n0 _ T125.heap _
    rw [e125]
    exact ⟨b121, rfl, N125, (((Keep.refl h0 []).ext E120).trans K125 (allS (Or.inr B123) all0)), B123, ex140, fx141⟩
theorem pd_5 : parseMethodDescriptor "(Ljava/lang/Object;)Ltertium/Tertium;" = some ⟨[(.object "java/lang/Object")], some (.object "tertium/Tertium")⟩ := by decide +kernel
theorem d2_0 : decode prog_1_method_24_code 0 = .ok (.aload_n 0, 1) := by decide +kernel
theorem d2_1 : decode prog_1_method_24_code 1 = .ok (.getfield 7, 3) := by decide +kernel
theorem d2_4 : decode prog_1_method_24_code 4 = .ok (.invokestatic 133, 3) := by decide +kernel
theorem d3_0 : decode jdk_32_method_4_code 0 = .ok (.aload_n 0, 1) := by decide +kernel
theorem d3_1 : decode jdk_32_method_4_code 1 = .ok (.ifnonnull 9, 3) := by decide +kernel
theorem d3_10 : decode jdk_32_method_4_code 10 = .ok (.new 2, 3) := by decide +kernel
theorem d3_13 : decode jdk_32_method_4_code 13 = .ok (.dup, 1) := by decide +kernel
theorem d3_14 : decode jdk_32_method_4_code 14 = .ok (.aload_n 0, 1) := by decide +kernel
theorem d3_15 : decode jdk_32_method_4_code 15 = .ok (.invokespecial 23, 3) := by decide +kernel
theorem d14_0 : decode jdk_32_method_2_code 0 = .ok (.aload_n 0, 1) := by decide +kernel
theorem d14_1 : decode jdk_32_method_2_code 1 = .ok (.invokespecial 7, 3) := by decide +kernel
theorem d14_4 : decode jdk_32_method_2_code 4 = .ok (.aload_n 0, 1) := by decide +kernel
theorem d14_5 : decode jdk_32_method_2_code 5 = .ok (.aload_n 1, 1) := by decide +kernel
theorem d14_6 : decode jdk_32_method_2_code 6 = .ok (.putfield 13, 3) := by decide +kernel
theorem d14_9 : decode jdk_32_method_2_code 9 = .ok (.return_, 1) := by decide +kernel
theorem ef_6 (m : MethodId) (x0 : Addr) (x1 : Addr) : entryFrame m #[(.ref x0), (.ref x1)] 2 = mkF m 0 #[rv x0, rv x1] [] := by first | (simp [entryFrame, mkF, argsToLocals, Value.category]; done) | rfl
theorem pn_4 : plainName "java/util/Optional" = true := by first | (simp [plainName, overriddenIn]; done) | decide +kernel
def Q6 (Z : State) (a178 : Addr) (a179 : Addr) (h0 : Heap) (n0 : Nat) (v : Option Value) (h : Heap) (L : List Loc) : Prop := v = none ∧ Fr n0 L ∧ Keep h0 h [a178] ∧ Exa Z h a178 zs2 ∧ Fld Z h a178 zs2 "value" zs3 (.ref a179)
set_option maxRecDepth 65536 in
set_option maxHeartbeats 40000000 in
theorem rm6 (l : Launch) (Z : State) (a0 : Array Value) (hw : ∀ d ∈ tables_1, d.before a0 Z = true) (ws : List Jvm.Cond) (a178 : Addr) (a179 : Addr) (h0 : Heap) (n0 : Nat) (O0 : Old Z n0 h0) (pF_a178_value : Fld Z h0 a178 zs2 "value" zs3 .null) (pE_a178 : Exa Z h0 a178 zs2) (pG_a178 : n0 ≤ a178) :
    MetFree l (⟨zs2, "<init>", zs8⟩ : MethodName) (head1 (Jvm.Cond.code (⟨zs2, "<init>", zs8⟩ : MethodName) jdk_32_method_2_code 2 none :: ws) ({ frames := 1, cells := 0, slots := 0, locals := 12 } : Room)) (fun a U => a = #[(.ref a178), (.ref a179)] ∧ Z.Warmed39 U.vm ∧ U.heap = h0) (fun _ _ _ _ _ => True) (fun _ U o U' => ∃ v L, o = .returned v ∧ Q6 Z a178 a179 h0 n0 v U'.heap L ∧ ReturnedEndW U o U' L ({ frames := 1, cells := 0, slots := 0, locals := 12 } : Room).cells ({ frames := 1, cells := 0, slots := 0, locals := 12 } : Room).slots) := by
  refine MetFree.of_bodySF (plainFor_of_name pn_4) hisR ?_
  intro p e s m args below meth c s₁ Bd hml0 hP hK
  obtain ⟨rfl, hZ, hh⟩ := hP
  have hx := Bd.exec
  have hby := Bd.bytes
  have hml : c.maxLocals = 2 := hml0
  have hown : s.vm.findClass zs2 = some m.cls := findClass_of_methodNamed Bd.named
  have hnm := (name_of_methodNamed Bd.named Bd.method).1
  have X0 : Stand p l e ({ frames := 1, cells := 0, slots := 0, locals := 12 } : Room) (s.setVm s.vm) m #[(.ref a178), (.ref a179)] below meth c s₁ [] 0 0 := Stand.of_body Bd
  have hS : s.Since s.vm 0 := (State.WarmedH.refl s).since 0
  obtain ⟨k0, hk0, hS⟩ : ∃ k0, k0 ≤ h0.size ∧ s.Since s.vm k0 := ⟨0, Nat.zero_le _, hS⟩
  have hZ : Z.Warmed39 (s.setVm s.vm).vm := hZ
  have hown : (s.setVm s.vm).vm.findClass zs2 = some m.cls := hown
  have e0 : s₁.heap = h0 := by rw [← hh, Bd.state]; rfl
  have N0 := Fr.nil n0
  refine own_out ?_
  refine own_via (fun t k => castTop (ef_6 m a178 a179) (XS.aloadN X0.here hx rfl (hb hby d14_0) rfl rfl k)) ?_
  obtain ⟨T187, X187, e187, st187⟩ := initO X0 hx hZ hown (wd hw 79 rfl) (wd hw 71 rfl) (wd hw 72 rfl) e0 (g := (mkF m 1 #[rv a178, rv a179] [(.ref a178)])) rfl (by rw [hml]; rfl) rfl (hb hby d14_1) (by decide) (W := 0) (by show 2 * 0 + _ ≤ _; exact Nat.le_of_eq rfl) (by decide)
  refine own_via (fun t k => st187 t (XS.aloadN X187.here hx rfl (hb hby d14_4) rfl rfl (XS.aloadN X187.here hx rfl (hb hby d14_5) rfl rfl k))) ?_
  show own_Goes p e below (T187.setTop (mkF m 6 #[rv a178, rv a179] [(.ref a179), (.ref a178)])) _
  obtain ⟨T188, h188, X188, e188, W188, st188⟩ := putF X187 hx hZ hown (host := "") (Or.inl (wd hw 38 rfl)) Via.refl e187 pF_a178_value pE_a178 (Or.inr ⟨(wd hw 39 rfl), rfl, hnm⟩) (wd hw 74 rfl) (ty := (.object zs5)) (by decide) rfl rfl (g := (mkF m 6 #[rv a178, rv a179] [(.ref a179), (.ref a178)])) rfl rfl (hb hby d14_6)
  refine own_via (fun t k => st188 t k) ?_
  have Fw188 : Fld Z h188 a178 zs2 "value" zs3 (.ref a179) := pF_a178_value.same W188
  have N188 := Fr.snoc X188 N0 pG_a178
  show own_Goes p e below (T188.setTop (mkF m 9 #[rv a178, rv a179] [])) _
  have K189 : k0 ≤ h188.size := (Nat.le_trans hk0 (Nat.le_of_eq W188.size.symm))
  obtain ⟨fs, hr, hrun, hended, hRW⟩ := X188.leaveW hS (by rw [e188]; first | exact K189 | exact Nat.le_refl _) (v := none) (fun _ => rfl)
  refine own_end (t := T188.setFrames fs) ?_ ⟨_, hrun, hended, _, _, rfl, ?_, own_rmono hRW (by decide) (by decide)⟩
  · exact X188.returnOut hx Bd.returns (hb hby d14_9) hr
  have E190 : Exa Z h188 a178 zs2 := (pE_a178.wr W188)
  · show Q6 Z a178 a179 h0 n0 _ T188.heap _
    rw [e188]
    exact ⟨rfl, N188, ((Keep.refl h0 [a178]).wr W188 (Or.inl (List.mem_of_getElem? (i := 0) rfl))), E190, Fw188⟩
theorem d3_18 : decode jdk_32_method_4_code 18 = .ok (.areturn, 1) := by decide +kernel
theorem ef_7 (m : MethodId) (x0 : Addr) : entryFrame m #[(.ref x0)] 1 = mkF m 0 #[rv x0] [] := by first | (simp [entryFrame, mkF, argsToLocals, Value.category]; done) | rfl
def Q7 (Z : State) (a164 : Addr) (h0 : Heap) (n0 : Nat) (v : Option Value) (h : Heap) (L : List Loc) : Prop := (∃ (b173 : Addr), v = some (.ref b173) ∧ Fr n0 L ∧ Keep h0 h [] ∧ h0.size ≤ b173 ∧ Exa Z h b173 zs2 ∧ Fld Z h b173 zs2 "value" zs3 (.ref a164))
set_option maxRecDepth 65536 in
set_option maxHeartbeats 40000000 in
theorem rm7 (l : Launch) (Z : State) (a0 : Array Value) (hw : ∀ d ∈ tables_1, d.before a0 Z = true) (ws : List Jvm.Cond) (a164 : Addr) (h0 : Heap) (n0 : Nat) (O0 : Old Z n0 h0) :
    MetFree l (⟨zs2, "ofNullable", zs6⟩ : MethodName) (head1 (Jvm.Cond.code (⟨zs2, "ofNullable", zs6⟩ : MethodName) jdk_32_method_4_code 1 (some (.object zs2)) :: ws) ({ frames := 2, cells := 1, slots := 1, locals := 26 } : Room)) (fun a U => a = #[(.ref a164)] ∧ Z.Warmed39 U.vm ∧ U.heap = h0) (fun _ _ _ _ _ => True) (fun _ U o U' => ∃ v L, o = .returned v ∧ Q7 Z a164 h0 n0 v U'.heap L ∧ ReturnedEndW U o U' L ({ frames := 2, cells := 1, slots := 1, locals := 26 } : Room).cells ({ frames := 2, cells := 1, slots := 1, locals := 26 } : Room).slots) := by
  refine MetFree.of_bodySF (plainFor_of_name pn_4) hisR ?_
  intro p e s m args below meth c s₁ Bd hml0 hP hK
  obtain ⟨rfl, hZ, hh⟩ := hP
  have hx := Bd.exec
  have hby := Bd.bytes
  have hml : c.maxLocals = 1 := hml0
  have hown : s.vm.findClass zs2 = some m.cls := findClass_of_methodNamed Bd.named
  have hnm := (name_of_methodNamed Bd.named Bd.method).1
  have X0 : Stand p l e ({ frames := 2, cells := 1, slots := 1, locals := 26 } : Room) (s.setVm s.vm) m #[(.ref a164)] below meth c s₁ [] 0 0 := Stand.of_body Bd
  have hS : s.Since s.vm 0 := (State.WarmedH.refl s).since 0
  obtain ⟨k0, hk0, hS⟩ : ∃ k0, k0 ≤ h0.size ∧ s.Since s.vm k0 := ⟨0, Nat.zero_le _, hS⟩
  have hZ : Z.Warmed39 (s.setVm s.vm).vm := hZ
  have hown : (s.setVm s.vm).vm.findClass zs2 = some m.cls := hown
  have e0 : s₁.heap = h0 := by rw [← hh, Bd.state]; rfl
  have N0 := Fr.nil n0
  refine own_out ?_
  refine own_via (fun t k => castTop (ef_7 m a164) (XS.aloadN X0.here hx rfl (hb hby d3_0) rfl rfl (XS.ifnonnullYes X0.here hx rfl (pc0 := 1) (pc' := 10) rfl (hb hby d3_1) rfl (by decide) (by decide) k))) ?_
  show own_Goes p e below (s₁.setTop (mkF m 10 #[rv a164] [])) _
  obtain ⟨T172, h172, X172, e172, E172, A172, D172, -, st172⟩ := newO X0 hx hZ hown (wd hw 73 rfl) (wd hw 74 rfl) (wd hw 15 rfl) e0 (g := (mkF m 10 #[rv a164] [])) rfl (hb hby d3_10) (by decide) (by decide)
  obtain ⟨b173, q172⟩ : ∃ z, z = h0.size := ⟨_, rfl⟩
  rw [← q172] at A172 D172 st172
  refine own_via (fun t k => st172 t k) ?_
  have g174 : n0 ≤ b173 := Nat.le_trans (own_old O0) (Nat.le_of_eq q172.symm)
  have B175 : h0.size ≤ b173 := Nat.le_trans (Nat.le_refl _) (Nat.le_of_eq q172.symm)
  have F176 : Fld Z h172 b173 zs2 "value" zs3 .null := D172 (Or.inr (wd hw 39 rfl)) (ty := (.object zs5)) (by decide)
  show own_Goes p e below (T172.setTop (mkF m 13 #[rv a164] [(.ref b173)])) _
  refine own_via (fun t k => XS.dup X172.here hx rfl (hb hby d3_13) rfl rfl (XS.aloadN X172.here hx rfl (hb hby d3_14) rfl rfl k)) ?_
  have O191 : Old Z n0 h172 := (O0.ext E172)
  have K192 : k0 ≤ h172.size := (Nat.le_trans hk0 E172.1)
  obtain ⟨_, T177, _, X177, hQ177, hS, hZ, hown, st177⟩ := own_ciS X172 hx hZ hS K192 hown (wd hw 75 rfl) (wd hw 76 rfl) (wd hw 78 rfl) (wd hw 15 rfl) rfl (by decide) (rm6 l Z a0 hw [] b173 a164 h172 n0 O191 F176 A172 g174) e172 (g := (mkF m 15 #[rv a164] [(.ref a164), (.ref b173), (.ref b173)])) rfl (by rw [hml]; rfl) (rest := [(.ref b173)]) (W := 1) (lenOf pd_4 rfl) rfl (by show 2 * 0 + _ ≤ _; exact Nat.le_of_eq rfl) (hb hby d3_15) (by decide) (by decide) (by decide) (by decide)
  obtain ⟨h177, e177⟩ : ∃ z, T177.heap = z := ⟨_, rfl⟩
  rw [e177] at hQ177
  obtain ⟨rfl, Nq177, K177, ex193, fx194⟩ := hQ177
  have N177 := Fr.app N0 Nq177
  have hk195 : T177.heap.size ≤ h177.size := Nat.le_of_eq (congrArg Array.size e177)
  refine own_via (fun t k => st177 t k) ?_
  obtain ⟨fs, hr, hrun, hended, hRW⟩ := X177.leaveW hS (by rw [e177]; first | exact hk195 | exact Nat.le_refl _) (v := some (.ref b173)) (fun h => by rw [Bd.returns] at h; cases h)
  refine own_end (t := T177.setFrames fs) ?_ ⟨_, hrun, hended, _, _, rfl, ?_, own_rmono hRW (by decide) (by decide)⟩
  · jvm_step X177.here [X177.here.top, hx, (hb hby d3_18), X177.method', Bd.returns, Value.isRef, FieldType.isReference]
    first | (intro acts; rw [hr _ acts rfl rfl rfl]) | rw [hr _ _ rfl rfl rfl]
    exact Steps.refl _
  · show Q7 Z a164 h0 n0 _ T177.heap _
    rw [e177]
    exact ⟨b173, rfl, N177, (((Keep.refl h0 []).ext E172).trans K177 (allS (Or.inr B175) all0)), B175, ex193, fx194⟩
theorem pd_6 : parseMethodDescriptor "(Ljava/lang/Object;)Ljava/util/Optional;" = some ⟨[(.object "java/lang/Object")], some (.object "java/util/Optional")⟩ := by decide +kernel
theorem d2_7 : decode prog_1_method_24_code 7 = .ok (.areturn, 1) := by decide +kernel
theorem ef_8 (m : MethodId) (x0 : Addr) : entryFrame m #[(.ref x0)] 1 = mkF m 0 #[rv x0] [] := by first | (simp [entryFrame, mkF, argsToLocals, Value.category]; done) | rfl
def Q8 (Z : State) (a154 : Addr) (a155 : Addr) (h0 : Heap) (n0 : Nat) (v : Option Value) (h : Heap) (L : List Loc) : Prop := (∃ (b196 : Addr), v = some (.ref b196) ∧ Fr n0 L ∧ Keep h0 h [] ∧ h0.size ≤ b196 ∧ Exa Z h b196 zs2 ∧ Fld Z h b196 zs2 "value" zs3 (.ref a155))
set_option maxRecDepth 65536 in
set_option maxHeartbeats 40000000 in
theorem rm8 (l : Launch) (Z : State) (a0 : Array Value) (hw : ∀ d ∈ tables_1, d.before a0 Z = true) (ws : List Jvm.Cond) (a154 : Addr) (a155 : Addr) (h0 : Heap) (n0 : Nat) (O0 : Old Z n0 h0) (pF_a154_value : Fld Z h0 a154 zs1 "value" zs3 (.ref a155)) :
    MetFree l (⟨zs1, "toOptional", zs13⟩ : MethodName) (head1 (Jvm.Cond.code (⟨zs1, "toOptional", zs13⟩ : MethodName) prog_1_method_24_code 1 (some (.object zs2)) :: ws) ({ frames := 3, cells := 1, slots := 1, locals := 38 } : Room)) (fun a U => a = #[(.ref a154)] ∧ Z.Warmed39 U.vm ∧ U.heap = h0) (fun _ _ _ _ _ => True) (fun _ U o U' => ∃ v L, o = .returned v ∧ Q8 Z a154 a155 h0 n0 v U'.heap L ∧ ReturnedEndW U o U' L ({ frames := 3, cells := 1, slots := 1, locals := 38 } : Room).cells ({ frames := 3, cells := 1, slots := 1, locals := 38 } : Room).slots) := by
  refine MetFree.of_bodySF (plainFor_of_name pn_3) hisR ?_
  intro p e s m args below meth c s₁ Bd hml0 hP hK
  obtain ⟨rfl, hZ, hh⟩ := hP
  have hx := Bd.exec
  have hby := Bd.bytes
  have hml : c.maxLocals = 1 := hml0
  have hown : s.vm.findClass zs1 = some m.cls := findClass_of_methodNamed Bd.named
  have hnm := (name_of_methodNamed Bd.named Bd.method).1
  have X0 : Stand p l e ({ frames := 3, cells := 1, slots := 1, locals := 38 } : Room) (s.setVm s.vm) m #[(.ref a154)] below meth c s₁ [] 0 0 := Stand.of_body Bd
  have hS : s.Since s.vm 0 := (State.WarmedH.refl s).since 0
  obtain ⟨k0, hk0, hS⟩ : ∃ k0, k0 ≤ h0.size ∧ s.Since s.vm k0 := ⟨0, Nat.zero_le _, hS⟩
  have hZ : Z.Warmed39 (s.setVm s.vm).vm := hZ
  have hown : (s.setVm s.vm).vm.findClass zs1 = some m.cls := hown
  have e0 : s₁.heap = h0 := by rw [← hh, Bd.state]; rfl
  have N0 := Fr.nil n0
  refine own_out ?_
  refine own_via (fun t k => castTop (ef_8 m a154) (XS.aloadN X0.here hx rfl (hb hby d2_0) rfl rfl k)) ?_
  obtain ⟨T162, X162, e162, st162⟩ := getF X0 hx hZ hown (host := "") (Or.inl (wd hw 11 rfl)) Via.refl e0 pF_a154_value (g := (mkF m 1 #[rv a154] [(.ref a154)])) rfl rfl (hb hby d2_1)
  refine own_via (fun t k => st162 t k) ?_
  obtain ⟨_, T163, _, X163, hQ163, hS, hZ, hown, st163⟩ := own_csS X162 hx hZ hS hk0 hown (wd hw 13 rfl) (wd hw 14 rfl) (wd hw 16 rfl) (wd hw 15 rfl) (by decide) (rm7 l Z a0 hw [] a155 h0 n0 O0 ) e162 (g := (mkF m 4 #[rv a154] [(.ref a155)])) rfl (by rw [hml]; rfl) (rest := []) (W := 0) (lenOf pd_6 rfl) rfl (by show 2 * 0 + _ ≤ _; exact Nat.le_of_eq rfl) (hb hby d2_4) (by decide) (by decide) (by decide) (by decide)
  obtain ⟨h163, e163⟩ : ∃ z, T163.heap = z := ⟨_, rfl⟩
  rw [e163] at hQ163
  obtain ⟨b196, rfl, Nq163, K163, bx197, ex198, fx199⟩ := hQ163
  have N163 := Fr.app N0 Nq163
  have g200 : n0 ≤ b196 := Nat.le_trans (own_old O0) bx197
  have B201 : h0.size ≤ b196 := Nat.le_trans (Nat.le_refl _) bx197
  have hk202 : T163.heap.size ≤ h163.size := Nat.le_of_eq (congrArg Array.size e163)
  refine own_via (fun t k => st163 t k) ?_
  obtain ⟨fs, hr, hrun, hended, hRW⟩ := X163.leaveW hS (by rw [e163]; first | exact hk202 | exact Nat.le_refl _) (v := some (.ref b196)) (fun h => by rw [Bd.returns] at h; cases h)
  refine own_end (t := T163.setFrames fs) ?_ ⟨_, hrun, hended, _, _, rfl, ?_, own_rmono hRW (by decide) (by decide)⟩
  · jvm_step X163.here [X163.here.top, hx, (hb hby d2_7), X163.method', Bd.returns, Value.isRef, FieldType.isReference]
    first | (intro acts; rw [hr _ acts rfl rfl rfl]) | rw [hr _ _ rfl rfl rfl]
    exact Steps.refl _
  · show Q8 Z a154 a155 h0 n0 _ T163.heap _
    rw [e163]
    exact ⟨b196, rfl, N163, ((Keep.refl h0 []).trans K163 all0), B201, ex198, fx199⟩
theorem pd_7 : parseMethodDescriptor "()Ljava/util/Optional;" = some ⟨[], some (.object "java/util/Optional")⟩ := by decide +kernel
theorem d4_0 : decode prog_1_method_5_code 0 = .ok (.aload_n 0, 1) := by decide +kernel
theorem d4_1 : decode prog_1_method_5_code 1 = .ok (.ldc 27, 2) := by decide +kernel
theorem own_strAtoms {a0 : Array Value} {Z : State} (hw : ∀ d ∈ tables_1, d.before a0 Z = true) : ∀ a ∈ Bundle.stringAtoms, a.before a0 Z = true := by
  intro a ha
  simp only [Bundle.stringAtoms, List.mem_cons, List.not_mem_nil, or_false] at ha
  rcases ha with rfl | rfl | rfl | rfl | rfl | rfl | rfl
  · exact (wd hw 22 rfl)
  · exact (wd hw 23 rfl)
  · exact (wd hw 24 rfl)
  · exact (wd hw 25 rfl)
  · exact (wd hw 26 rfl)
  · exact (wd hw 27 rfl)
  · exact (wd hw 28 rfl)
theorem d4_3 : decode prog_1_method_5_code 3 = .ok (.invokestatic 29, 3) := by decide +kernel
theorem d5_0 : decode jdk_31_method_11_code 0 = .ok (.aload_n 0, 1) := by decide +kernel
theorem d5_1 : decode jdk_31_method_11_code 1 = .ok (.ifnonnull 12, 3) := by decide +kernel
theorem d5_13 : decode jdk_31_method_11_code 13 = .ok (.aload_n 0, 1) := by decide +kernel
theorem d5_14 : decode jdk_31_method_11_code 14 = .ok (.areturn, 1) := by decide +kernel
theorem ef_9 (m : MethodId) (x0 : Addr) (x1 : Addr) : entryFrame m #[(.ref x0), (.ref x1)] 2 = mkF m 0 #[rv x0, rv x1] [] := by first | (simp [entryFrame, mkF, argsToLocals, Value.category]; done) | rfl
theorem pn_5 : plainName "java/util/Objects" = true := by first | (simp [plainName, overriddenIn]; done) | decide +kernel
def Q9 (Z : State) (a228 : Addr) (a229 : Addr) (h0 : Heap) (n0 : Nat) (v : Option Value) (h : Heap) (L : List Loc) : Prop := v = some (.ref a228) ∧ Fr n0 L ∧ h = h0
set_option maxRecDepth 65536 in
set_option maxHeartbeats 40000000 in
theorem rm9 (l : Launch) (Z : State) (a0 : Array Value) (hw : ∀ d ∈ tables_1, d.before a0 Z = true) (ws : List Jvm.Cond) (a228 : Addr) (a229 : Addr) (h0 : Heap) (n0 : Nat) (O0 : Old Z n0 h0) :
    MetFree l (⟨zs15, zs21, zs9⟩ : MethodName) (head1 (Jvm.Cond.code (⟨zs15, zs21, zs9⟩ : MethodName) jdk_31_method_11_code 2 (some (.object zs5)) :: ws) ({ frames := 0, cells := 0, slots := 0, locals := 0 } : Room)) (fun a U => a = #[(.ref a228), (.ref a229)] ∧ Z.Warmed39 U.vm ∧ U.heap = h0) (fun _ _ _ _ _ => True) (fun _ U o U' => ∃ v L, o = .returned v ∧ Q9 Z a228 a229 h0 n0 v U'.heap L ∧ ReturnedEndW U o U' L ({ frames := 0, cells := 0, slots := 0, locals := 0 } : Room).cells ({ frames := 0, cells := 0, slots := 0, locals := 0 } : Room).slots) := by
  refine MetFree.of_bodySF (plainFor_of_name pn_5) hisR ?_
  intro p e s m args below meth c s₁ Bd hml0 hP hK
  obtain ⟨rfl, hZ, hh⟩ := hP
  have hx := Bd.exec
  have hby := Bd.bytes
  have hml : c.maxLocals = 2 := hml0
  have hown : s.vm.findClass zs15 = some m.cls := findClass_of_methodNamed Bd.named
  have hnm := (name_of_methodNamed Bd.named Bd.method).1
  have X0 : Stand p l e ({ frames := 0, cells := 0, slots := 0, locals := 0 } : Room) (s.setVm s.vm) m #[(.ref a228), (.ref a229)] below meth c s₁ [] 0 0 := Stand.of_body Bd
  have hS : s.Since s.vm 0 := (State.WarmedH.refl s).since 0
  obtain ⟨k0, hk0, hS⟩ : ∃ k0, k0 ≤ h0.size ∧ s.Since s.vm k0 := ⟨0, Nat.zero_le _, hS⟩
  have hZ : Z.Warmed39 (s.setVm s.vm).vm := hZ
  have hown : (s.setVm s.vm).vm.findClass zs15 = some m.cls := hown
  have e0 : s₁.heap = h0 := by rw [← hh, Bd.state]; rfl
  have N0 := Fr.nil n0
  refine own_out ?_
  refine own_via (fun t k => castTop (ef_9 m a228 a229) (XS.aloadN X0.here hx rfl (hb hby d5_0) rfl rfl (XS.ifnonnullYes X0.here hx rfl (pc0 := 1) (pc' := 13) rfl (hb hby d5_1) rfl (by decide) (by decide) (XS.aloadN X0.here hx rfl (hb hby d5_13) rfl rfl k)))) ?_
  show own_Goes p e below (s₁.setTop (mkF m 14 #[rv a228, rv a229] [(.ref a228)])) _
  obtain ⟨fs, hr, hrun, hended, hRW⟩ := X0.leaveW hS (by rw [e0]; first | exact hk0 | exact Nat.le_refl _) (v := some (.ref a228)) (fun h => by rw [Bd.returns] at h; cases h)
  refine own_end (t := s₁.setFrames fs) ?_ ⟨_, hrun, hended, _, _, rfl, ?_, own_rmono hRW (by decide) (by decide)⟩
  · jvm_step X0.here [X0.here.top, hx, (hb hby d5_14), X0.method', Bd.returns, Value.isRef, FieldType.isReference]
    first | (intro acts; rw [hr _ acts rfl rfl rfl]) | rw [hr _ _ rfl rfl rfl]
    exact Steps.refl _
  · show Q9 Z a228 a229 h0 n0 _ s₁.heap _
    rw [e0]
    exact ⟨rfl, N0, rfl⟩
theorem pd_8 : parseMethodDescriptor "(Ljava/lang/Object;Ljava/lang/String;)Ljava/lang/Object;" = some ⟨[(.object "java/lang/Object"), (.object "java/lang/String")], some (.object "java/lang/Object")⟩ := by decide +kernel
theorem d4_6 : decode prog_1_method_5_code 6 = .ok (.pop, 1) := by decide +kernel
theorem d4_7 : decode prog_1_method_5_code 7 = .ok (.aload_n 0, 1) := by decide +kernel
theorem d4_8 : decode prog_1_method_5_code 8 = .ok (.invokevirtual 35, 3) := by decide +kernel
theorem d6_0 : decode jdk_32_method_6_code 0 = .ok (.aload_n 0, 1) := by decide +kernel
theorem d6_1 : decode jdk_32_method_6_code 1 = .ok (.getfield 13, 3) := by decide +kernel
theorem d6_4 : decode jdk_32_method_6_code 4 = .ok (.ifnull 7, 3) := by decide +kernel
theorem d6_7 : decode jdk_32_method_6_code 7 = .ok (.iconst 1, 1) := by decide +kernel
theorem d6_8 : decode jdk_32_method_6_code 8 = .ok (.goto 4, 3) := by decide +kernel
theorem d6_12 : decode jdk_32_method_6_code 12 = .ok (.ireturn, 1) := by decide +kernel
theorem ef_10 (m : MethodId) (x0 : Addr) : entryFrame m #[(.ref x0)] 1 = mkF m 0 #[rv x0] [] := by first | (simp [entryFrame, mkF, argsToLocals, Value.category]; done) | rfl
def Q10 (Z : State) (a242 : Addr) (a243 : Addr) (h0 : Heap) (n0 : Nat) (v : Option Value) (h : Heap) (L : List Loc) : Prop := v = some (.int (1 : Int32)) ∧ Fr n0 L ∧ h = h0
set_option maxRecDepth 65536 in
set_option maxHeartbeats 40000000 in
theorem rm10 (l : Launch) (Z : State) (a0 : Array Value) (hw : ∀ d ∈ tables_1, d.before a0 Z = true) (ws : List Jvm.Cond) (a242 : Addr) (a243 : Addr) (h0 : Heap) (n0 : Nat) (O0 : Old Z n0 h0) (pF_a242_value : Fld Z h0 a242 zs2 "value" zs3 (.ref a243)) :
    MetFree l (⟨zs2, "isPresent", "()Z"⟩ : MethodName) (head1 (Jvm.Cond.code (⟨zs2, "isPresent", "()Z"⟩ : MethodName) jdk_32_method_6_code 1 (some .boolean) :: ws) ({ frames := 0, cells := 0, slots := 0, locals := 0 } : Room)) (fun a U => a = #[(.ref a242)] ∧ Z.Warmed39 U.vm ∧ U.heap = h0) (fun _ _ _ _ _ => True) (fun _ U o U' => ∃ v L, o = .returned v ∧ Q10 Z a242 a243 h0 n0 v U'.heap L ∧ ReturnedEndW U o U' L ({ frames := 0, cells := 0, slots := 0, locals := 0 } : Room).cells ({ frames := 0, cells := 0, slots := 0, locals := 0 } : Room).slots) := by
  refine MetFree.of_bodySF (plainFor_of_name pn_4) hisR ?_
  intro p e s m args below meth c s₁ Bd hml0 hP hK
  obtain ⟨rfl, hZ, hh⟩ := hP
  have hx := Bd.exec
  have hby := Bd.bytes
  have hml : c.maxLocals = 1 := hml0
  have hown : s.vm.findClass zs2 = some m.cls := findClass_of_methodNamed Bd.named
  have hnm := (name_of_methodNamed Bd.named Bd.method).1
  have X0 : Stand p l e ({ frames := 0, cells := 0, slots := 0, locals := 0 } : Room) (s.setVm s.vm) m #[(.ref a242)] below meth c s₁ [] 0 0 := Stand.of_body Bd
  have hS : s.Since s.vm 0 := (State.WarmedH.refl s).since 0
  obtain ⟨k0, hk0, hS⟩ : ∃ k0, k0 ≤ h0.size ∧ s.Since s.vm k0 := ⟨0, Nat.zero_le _, hS⟩
  have hZ : Z.Warmed39 (s.setVm s.vm).vm := hZ
  have hown : (s.setVm s.vm).vm.findClass zs2 = some m.cls := hown
  have e0 : s₁.heap = h0 := by rw [← hh, Bd.state]; rfl
  have N0 := Fr.nil n0
  refine own_out ?_
  refine own_via (fun t k => castTop (ef_10 m a242) (XS.aloadN X0.here hx rfl (hb hby d6_0) rfl rfl k)) ?_
  obtain ⟨T251, X251, e251, st251⟩ := getF X0 hx hZ hown (host := "") (Or.inl (wd hw 38 rfl)) Via.refl e0 pF_a242_value (g := (mkF m 1 #[rv a242] [(.ref a242)])) rfl rfl (hb hby d6_1)
  refine own_via (fun t k => st251 t (XS.ifnullNo X251.here hx rfl (hb hby d6_4) rfl (XS.iconst X251.here hx rfl (hb hby d6_7) (XS.goto X251.here hx rfl (pc0 := 8) (pc' := 12) rfl (hb hby d6_8) (by decide) (by decide) k)))) ?_
  show own_Goes p e below (T251.setTop (mkF m 12 #[rv a242] [(.int (1 : Int32))])) _
  obtain ⟨fs, hr, hrun, hended, hRW⟩ := X251.leaveW hS (by rw [e251]; first | exact hk0 | exact Nat.le_refl _) (v := some (.int (1 : Int32))) (fun h => by rw [Bd.returns] at h; cases h)
  refine own_end (t := T251.setFrames fs) ?_ ⟨_, hrun, hended, _, _, rfl, ?_, own_rmono hRW (by decide) (by decide)⟩
  · exact retN X251 hx (t := .boolean) Bd.returns (by simp) (hb hby d6_12) hr
  · show Q10 Z a242 a243 h0 n0 _ T251.heap _
    rw [e251]
    exact ⟨rfl, N0, rfl⟩
theorem pd_9 : parseMethodDescriptor "()Z" = some ⟨[], some .boolean⟩ := by decide +kernel
theorem d4_11 : decode prog_1_method_5_code 11 = .ok (.ifCond .eq 13, 3) := by decide +kernel
theorem d4_14 : decode prog_1_method_5_code 14 = .ok (.aload_n 0, 1) := by decide +kernel
theorem d4_15 : decode prog_1_method_5_code 15 = .ok (.invokevirtual 41, 3) := by decide +kernel
theorem d15_0 : decode jdk_32_method_5_code 0 = .ok (.aload_n 0, 1) := by decide +kernel
theorem d15_1 : decode jdk_32_method_5_code 1 = .ok (.getfield 13, 3) := by decide +kernel
theorem d15_4 : decode jdk_32_method_5_code 4 = .ok (.ifnonnull 13, 3) := by decide +kernel
theorem d15_17 : decode jdk_32_method_5_code 17 = .ok (.aload_n 0, 1) := by decide +kernel
theorem d15_18 : decode jdk_32_method_5_code 18 = .ok (.getfield 13, 3) := by decide +kernel
theorem d15_21 : decode jdk_32_method_5_code 21 = .ok (.areturn, 1) := by decide +kernel
theorem ef_11 (m : MethodId) (x0 : Addr) : entryFrame m #[(.ref x0)] 1 = mkF m 0 #[rv x0] [] := by first | (simp [entryFrame, mkF, argsToLocals, Value.category]; done) | rfl
def Q11 (Z : State) (a257 : Addr) (a258 : Addr) (h0 : Heap) (n0 : Nat) (v : Option Value) (h : Heap) (L : List Loc) : Prop := v = some (.ref a258) ∧ Fr n0 L ∧ h = h0
set_option maxRecDepth 65536 in
set_option maxHeartbeats 40000000 in
theorem rm11 (l : Launch) (Z : State) (a0 : Array Value) (hw : ∀ d ∈ tables_1, d.before a0 Z = true) (ws : List Jvm.Cond) (a257 : Addr) (a258 : Addr) (h0 : Heap) (n0 : Nat) (O0 : Old Z n0 h0) (pF_a257_value : Fld Z h0 a257 zs2 "value" zs3 (.ref a258)) :
    MetFree l (⟨zs2, "get", zs10⟩ : MethodName) (head1 (Jvm.Cond.code (⟨zs2, "get", zs10⟩ : MethodName) jdk_32_method_5_code 1 (some (.object zs5)) :: ws) ({ frames := 0, cells := 0, slots := 0, locals := 0 } : Room)) (fun a U => a = #[(.ref a257)] ∧ Z.Warmed39 U.vm ∧ U.heap = h0) (fun _ _ _ _ _ => True) (fun _ U o U' => ∃ v L, o = .returned v ∧ Q11 Z a257 a258 h0 n0 v U'.heap L ∧ ReturnedEndW U o U' L ({ frames := 0, cells := 0, slots := 0, locals := 0 } : Room).cells ({ frames := 0, cells := 0, slots := 0, locals := 0 } : Room).slots) := by
  refine MetFree.of_bodySF (plainFor_of_name pn_4) hisR ?_
  intro p e s m args below meth c s₁ Bd hml0 hP hK
  obtain ⟨rfl, hZ, hh⟩ := hP
  have hx := Bd.exec
  have hby := Bd.bytes
  have hml : c.maxLocals = 1 := hml0
  have hown : s.vm.findClass zs2 = some m.cls := findClass_of_methodNamed Bd.named
  have hnm := (name_of_methodNamed Bd.named Bd.method).1
  have X0 : Stand p l e ({ frames := 0, cells := 0, slots := 0, locals := 0 } : Room) (s.setVm s.vm) m #[(.ref a257)] below meth c s₁ [] 0 0 := Stand.of_body Bd
  have hS : s.Since s.vm 0 := (State.WarmedH.refl s).since 0
  obtain ⟨k0, hk0, hS⟩ : ∃ k0, k0 ≤ h0.size ∧ s.Since s.vm k0 := ⟨0, Nat.zero_le _, hS⟩
  have hZ : Z.Warmed39 (s.setVm s.vm).vm := hZ
  have hown : (s.setVm s.vm).vm.findClass zs2 = some m.cls := hown
  have e0 : s₁.heap = h0 := by rw [← hh, Bd.state]; rfl
  have N0 := Fr.nil n0
  refine own_out ?_
  refine own_via (fun t k => castTop (ef_11 m a257) (XS.aloadN X0.here hx rfl (hb hby d15_0) rfl rfl k)) ?_
  obtain ⟨T266, X266, e266, st266⟩ := getF X0 hx hZ hown (host := "") (Or.inl (wd hw 38 rfl)) Via.refl e0 pF_a257_value (g := (mkF m 1 #[rv a257] [(.ref a257)])) rfl rfl (hb hby d15_1)
  refine own_via (fun t k => st266 t (XS.ifnonnullYes X266.here hx rfl (pc0 := 4) (pc' := 17) rfl (hb hby d15_4) rfl (by decide) (by decide) (XS.aloadN X266.here hx rfl (hb hby d15_17) rfl rfl k))) ?_
  show own_Goes p e below (T266.setTop (mkF m 18 #[rv a257] [(.ref a257)])) _
  obtain ⟨T267, X267, e267, st267⟩ := getF X266 hx hZ hown (host := "") (Or.inl (wd hw 38 rfl)) Via.refl e266 pF_a257_value (g := (mkF m 18 #[rv a257] [(.ref a257)])) rfl rfl (hb hby d15_18)
  refine own_via (fun t k => st267 t k) ?_
  obtain ⟨fs, hr, hrun, hended, hRW⟩ := X267.leaveW hS (by rw [e267]; first | exact hk0 | exact Nat.le_refl _) (v := some (.ref a258)) (fun h => by rw [Bd.returns] at h; cases h)
  refine own_end (t := T267.setFrames fs) ?_ ⟨_, hrun, hended, _, _, rfl, ?_, own_rmono hRW (by decide) (by decide)⟩
  · jvm_step X267.here [X267.here.top, hx, (hb hby d15_21), X267.method', Bd.returns, Value.isRef, FieldType.isReference]
    first | (intro acts; rw [hr _ acts rfl rfl rfl]) | rw [hr _ _ rfl rfl rfl]
    exact Steps.refl _
  · show Q11 Z a257 a258 h0 n0 _ T267.heap _
    rw [e267]
    exact ⟨rfl, N0, rfl⟩
theorem pd_10 : parseMethodDescriptor "()Ljava/lang/Object;" = some ⟨[], some (.object "java/lang/Object")⟩ := by decide +kernel
theorem d4_18 : decode prog_1_method_5_code 18 = .ok (.invokestatic 45, 3) := by decide +kernel
theorem d4_21 : decode prog_1_method_5_code 21 = .ok (.goto 6, 3) := by decide +kernel
theorem d4_27 : decode prog_1_method_5_code 27 = .ok (.areturn, 1) := by decide +kernel
theorem ef_12 (m : MethodId) (x0 : Addr) : entryFrame m #[(.ref x0)] 1 = mkF m 0 #[rv x0] [] := by first | (simp [entryFrame, mkF, argsToLocals, Value.category]; done) | rfl
def Q12 (Z : State) (a216 : Addr) (a217 : Addr) (h0 : Heap) (n0 : Nat) (v : Option Value) (h : Heap) (L : List Loc) : Prop := (∃ (b271 : Addr), v = some (.ref b271) ∧ Fr n0 L ∧ Keep h0 h [] ∧ h0.size ≤ b271 ∧ Exa Z h b271 zs1 ∧ Fld Z h b271 zs1 "value" zs3 (.ref a217))
set_option maxRecDepth 65536 in
set_option maxHeartbeats 40000000 in
theorem rm12 (l : Launch) (Z : State) (a0 : Array Value) (hw : ∀ d ∈ tables_1, d.before a0 Z = true) (ws : List Jvm.Cond) (a216 : Addr) (a217 : Addr) (h0 : Heap) (n0 : Nat) (O0 : Old Z n0 h0) (pF_a216_value : Fld Z h0 a216 zs2 "value" zs3 (.ref a217)) (pE_a216 : Exa Z h0 a216 zs2) :
    MetFree l (⟨zs1, zs16, zs7⟩ : MethodName) (head1 (Jvm.Cond.code (⟨zs1, zs16, zs7⟩ : MethodName) prog_1_method_5_code 1 (some (.object zs1)) :: ws) ({ frames := 3, cells := 3, slots := 37, locals := 38 } : Room)) (fun a U => a = #[(.ref a216)] ∧ Z.Warmed39 U.vm ∧ U.heap = h0) (fun _ _ _ _ _ => True) (fun _ U o U' => ∃ v L, o = .returned v ∧ Q12 Z a216 a217 h0 n0 v U'.heap L ∧ ReturnedEndW U o U' L ({ frames := 3, cells := 3, slots := 37, locals := 38 } : Room).cells ({ frames := 3, cells := 3, slots := 37, locals := 38 } : Room).slots) := by
  refine MetFree.of_bodySF (plainFor_of_name pn_3) hisR ?_
  intro p e s m args below meth c s₁ Bd hml0 hP hK
  obtain ⟨rfl, hZ, hh⟩ := hP
  have hx := Bd.exec
  have hby := Bd.bytes
  have hml : c.maxLocals = 1 := hml0
  have hown : s.vm.findClass zs1 = some m.cls := findClass_of_methodNamed Bd.named
  have hnm := (name_of_methodNamed Bd.named Bd.method).1
  have X0 : Stand p l e ({ frames := 3, cells := 3, slots := 37, locals := 38 } : Room) (s.setVm s.vm) m #[(.ref a216)] below meth c s₁ [] 0 0 := Stand.of_body Bd
  have hS : s.Since s.vm 0 := (State.WarmedH.refl s).since 0
  obtain ⟨k0, hk0, hS⟩ : ∃ k0, k0 ≤ h0.size ∧ s.Since s.vm k0 := ⟨0, Nat.zero_le _, hS⟩
  have hZ : Z.Warmed39 (s.setVm s.vm).vm := hZ
  have hown : (s.setVm s.vm).vm.findClass zs1 = some m.cls := hown
  have e0 : s₁.heap = h0 := by rw [← hh, Bd.state]; rfl
  have N0 := Fr.nil n0
  refine own_out ?_
  refine own_via (fun t k => castTop (ef_12 m a216) (XS.aloadN X0.here hx rfl (hb hby d4_0) rfl rfl k)) ?_
  obtain ⟨b226, T225, h225, k225, X225, e225, E225, hS, hk225, hZ, hown, st225⟩ := ldcS X0 hx hZ hown (wd hw 21 rfl) (own_strAtoms hw) e0 hS hk0 (g := (mkF m 1 #[rv a216] [(.ref a216)])) rfl (hb hby d4_1) (n := 32) (by decide) (by decide) (by decide) (by decide)
  refine own_via (fun t k => st225 t k) ?_
  have O238 : Old Z n0 h225 := (O0.ext E225)
  obtain ⟨_, T227, _, X227, hQ227, hS, hZ, hown, st227⟩ := own_csS X225 hx hZ hS hk225 hown (wd hw 29 rfl) (wd hw 30 rfl) (wd hw 32 rfl) (wd hw 31 rfl) (by decide) (rm9 l Z a0 hw [] a216 b226 h225 n0 O238 ) e225 (g := (mkF m 3 #[rv a216] [(.ref b226), (.ref a216)])) rfl (by rw [hml]; rfl) (rest := []) (W := 0) (lenOf pd_8 rfl) rfl (by show 2 * 0 + _ ≤ _; exact Nat.le_of_eq rfl) (hb hby d4_3) (by decide) (by decide) (by decide) (by decide)
  obtain ⟨rfl, Nq227, hh239⟩ := hQ227
  have N227 := Fr.app N0 Nq227
  have hk240 : T227.heap.size ≤ h225.size := Nat.le_of_eq (congrArg Array.size hh239)
  refine own_via (fun t k => st227 t (XS.pop X227.here hx rfl (hb hby d4_6) rfl rfl (XS.aloadN X227.here hx rfl (hb hby d4_7) rfl rfl k))) ?_
  show own_Goes p e below (T227.setTop (mkF m 8 #[rv a216] [(.ref a216)])) _
  have F252 : Fld Z h225 a216 zs2 "value" zs3 (.ref a217) := (pF_a216_value.ext E225)
  have E253 : Exa Z h225 a216 zs2 := (pE_a216.ext E225)
  obtain ⟨_, T241, _, X241, hQ241, hS, hZ, hown, st241⟩ := own_cvS X227 hx hZ hS hk240 hown (wd hw 33 rfl) (wd hw 34 rfl) (wd hw 36 rfl) (wd hw 35 rfl) (wd hw 37 rfl) (wd hw 15 rfl) (by decide) (rm10 l Z a0 hw [] a216 a217 h225 n0 O238 F252) hh239 E253 (g := (mkF m 8 #[rv a216] [(.ref a216)])) rfl (by rw [hml]; rfl) (rest := []) (W := 0) (lenOf pd_9 rfl) rfl (by show 2 * 0 + _ ≤ _; exact Nat.le_of_eq rfl) (hb hby d4_8) (by decide) (by decide) (by decide) (by decide)
  obtain ⟨rfl, Nq241, hh254⟩ := hQ241
  have N241 := Fr.app N227 Nq241
  have hk255 : T241.heap.size ≤ h225.size := Nat.le_of_eq (congrArg Array.size hh254)
  refine own_via (fun t k => st241 t (XS.ifNo X241.here hx rfl (hb hby d4_11) rfl ((if0 _ _).trans (feq (by decide : ¬ ((1 : Int32) = (0 : Int32)))).1) (XS.aloadN X241.here hx rfl (hb hby d4_14) rfl rfl k))) ?_
  show own_Goes p e below (T241.setTop (mkF m 15 #[rv a216] [(.ref a216)])) _
  obtain ⟨_, T256, _, X256, hQ256, hS, hZ, hown, st256⟩ := own_cvS X241 hx hZ hS hk255 hown (wd hw 80 rfl) (wd hw 81 rfl) (wd hw 83 rfl) (wd hw 82 rfl) (wd hw 84 rfl) (wd hw 15 rfl) (by decide) (rm11 l Z a0 hw [] a216 a217 h225 n0 O238 F252) hh254 E253 (g := (mkF m 15 #[rv a216] [(.ref a216)])) rfl (by rw [hml]; rfl) (rest := []) (W := 0) (lenOf pd_10 rfl) rfl (by show 2 * 0 + _ ≤ _; exact Nat.le_of_eq rfl) (hb hby d4_15) (by decide) (by decide) (by decide) (by decide)
  obtain ⟨rfl, Nq256, hh268⟩ := hQ256
  have N256 := Fr.app N241 Nq256
  have hk269 : T256.heap.size ≤ h225.size := Nat.le_of_eq (congrArg Array.size hh268)
  refine own_via (fun t k => st256 t k) ?_
  obtain ⟨_, T270, _, X270, hQ270, hS, hZ, hown, st270⟩ := own_csS X256 hx hZ hS hk269 hown (wd hw 85 rfl) (wd hw 63 rfl) (wd hw 64 rfl) (wd hw 2 rfl) (by decide) (rm5 l Z a0 hw [] a217 h225 n0 O238 ) hh268 (g := (mkF m 18 #[rv a216] [(.ref a217)])) rfl (by rw [hml]; rfl) (rest := []) (W := 0) (lenOf pd_5 rfl) rfl (by show 2 * 0 + _ ≤ _; exact Nat.le_of_eq rfl) (hb hby d4_18) (by decide) (by decide) (by decide) (by decide)
  obtain ⟨h270, e270⟩ : ∃ z, T270.heap = z := ⟨_, rfl⟩
  rw [e270] at hQ270
  obtain ⟨b271, rfl, Nq270, K270, bx272, ex273, fx274⟩ := hQ270
  have N270 := Fr.app N256 Nq270
  have g275 : n0 ≤ b271 := Nat.le_trans (own_old O238) bx272
  have Z277 : h0.size ≤ h225.size := (Nat.le_trans (Nat.le_refl _) E225.1)
  have B276 : h0.size ≤ b271 := Nat.le_trans Z277 bx272
  have hk278 : T270.heap.size ≤ h270.size := Nat.le_of_eq (congrArg Array.size e270)
  refine own_via (fun t k => st270 t (XS.goto X270.here hx rfl (pc0 := 21) (pc' := 27) rfl (hb hby d4_21) (by decide) (by decide) k)) ?_
  obtain ⟨fs, hr, hrun, hended, hRW⟩ := X270.leaveW hS (by rw [e270]; first | exact hk278 | exact Nat.le_refl _) (v := some (.ref b271)) (fun h => by rw [Bd.returns] at h; cases h)
  refine own_end (t := T270.setFrames fs) ?_ ⟨_, hrun, hended, _, _, rfl, ?_, own_rmono hRW (by decide) (by decide)⟩
  · jvm_step X270.here [X270.here.top, hx, (hb hby d4_27), X270.method', Bd.returns, Value.isRef, FieldType.isReference]
    first | (intro acts; rw [hr _ acts rfl rfl rfl]) | rw [hr _ _ rfl rfl rfl]
    exact Steps.refl _
  · show Q12 Z a216 a217 h0 n0 _ T270.heap _
    rw [e270]
    exact ⟨b271, rfl, N270, (((Keep.refl h0 []).ext E225).trans K270 all0), B276, ex273, fx274⟩
theorem pd_11 : parseMethodDescriptor "(Ljava/util/Optional;)Ltertium/Tertium;" = some ⟨[(.object "java/util/Optional")], some (.object "tertium/Tertium")⟩ := by decide +kernel
theorem d8_0 : decode prog_1_method_9_code 0 = .ok (.aload_n 0, 1) := by decide +kernel
theorem d8_1 : decode prog_1_method_9_code 1 = .ok (.getstatic 13, 3) := by decide +kernel
theorem d8_4 : decode prog_1_method_9_code 4 = .ok (.if_acmp .ne 7, 3) := by decide +kernel
theorem d8_11 : decode prog_1_method_9_code 11 = .ok (.iconst 0, 1) := by decide +kernel
theorem d8_12 : decode prog_1_method_9_code 12 = .ok (.ireturn, 1) := by decide +kernel
theorem ef_13 (m : MethodId) (x0 : Addr) : entryFrame m #[(.ref x0)] 1 = mkF m 0 #[rv x0] [] := by first | (simp [entryFrame, mkF, argsToLocals, Value.category]; done) | rfl
def Q13 (Z : State) (a294 : Addr) (w24 : Addr) (h0 : Heap) (n0 : Nat) (v : Option Value) (h : Heap) (L : List Loc) : Prop := v = some (.int (0 : Int32)) ∧ Fr n0 L ∧ h = h0
set_option maxRecDepth 65536 in
set_option maxHeartbeats 40000000 in
theorem rm13 (l : Launch) (Z : State) (a0 : Array Value) (hw : ∀ d ∈ tables_1, d.before a0 Z = true) (ws : List Jvm.Cond) (a294 : Addr) (w24 : Addr) (h0 : Heap) (n0 : Nat) (O0 : Old Z n0 h0) (S_Tertium_ABSENT : Sta Z Z.heap zs1 "ABSENT" zs12 (.ref w24)) (SE_w24 : Exa Z Z.heap w24 zs1) (pG_a294 : n0 ≤ a294) :
    MetFree l (⟨zs1, "isAbsent", "()Z"⟩ : MethodName) (head1 (Jvm.Cond.code (⟨zs1, "isAbsent", "()Z"⟩ : MethodName) prog_1_method_9_code 1 (some .boolean) :: ws) ({ frames := 0, cells := 0, slots := 0, locals := 0 } : Room)) (fun a U => a = #[(.ref a294)] ∧ Z.Warmed39 U.vm ∧ U.heap = h0) (fun _ _ _ _ _ => True) (fun _ U o U' => ∃ v L, o = .returned v ∧ Q13 Z a294 w24 h0 n0 v U'.heap L ∧ ReturnedEndW U o U' L ({ frames := 0, cells := 0, slots := 0, locals := 0 } : Room).cells ({ frames := 0, cells := 0, slots := 0, locals := 0 } : Room).slots) := by
  refine MetFree.of_bodySF (plainFor_of_name pn_3) hisR ?_
  intro p e s m args below meth c s₁ Bd hml0 hP hK
  obtain ⟨rfl, hZ, hh⟩ := hP
  have hx := Bd.exec
  have hby := Bd.bytes
  have hml : c.maxLocals = 1 := hml0
  have hown : s.vm.findClass zs1 = some m.cls := findClass_of_methodNamed Bd.named
  have hnm := (name_of_methodNamed Bd.named Bd.method).1
  have X0 : Stand p l e ({ frames := 0, cells := 0, slots := 0, locals := 0 } : Room) (s.setVm s.vm) m #[(.ref a294)] below meth c s₁ [] 0 0 := Stand.of_body Bd
  have hS : s.Since s.vm 0 := (State.WarmedH.refl s).since 0
  obtain ⟨k0, hk0, hS⟩ : ∃ k0, k0 ≤ h0.size ∧ s.Since s.vm k0 := ⟨0, Nat.zero_le _, hS⟩
  have hZ : Z.Warmed39 (s.setVm s.vm).vm := hZ
  have hown : (s.setVm s.vm).vm.findClass zs1 = some m.cls := hown
  have e0 : s₁.heap = h0 := by rw [← hh, Bd.state]; rfl
  have N0 := Fr.nil n0
  refine own_out ?_
  refine own_via (fun t k => castTop (ef_13 m a294) (XS.aloadN X0.here hx rfl (hb hby d8_0) rfl rfl k)) ?_
  obtain ⟨T304, X304, e304, st304⟩ := getS2 X0 hx hZ hown (host := "") (Or.inl (wd hw 43 rfl)) Via.refl e0 (S_Tertium_ABSENT.ext O0.2) (g := (mkF m 1 #[rv a294] [(.ref a294)])) rfl (hb hby d8_1)
  refine own_via (fun t k => st304 t (Jvm.RoadKit.acmp (g := (mkF m 4 #[rv a294] [(.ref w24), (.ref a294)])) X304 hx rfl rfl rfl (pc0 := 4) (pc' := 11) (same := false) rfl (hb hby d8_4) rfl (decide_eq_false fun q => (Ne.symm (Old.ne O0 SE_w24.lt pG_a294)) (Value.ref.inj q)) (by decide) (by decide) (XS.iconst X304.here hx rfl (hb hby d8_11) k))) ?_
  show own_Goes p e below (T304.setTop (mkF m 12 #[rv a294] [(.int (0 : Int32))])) _
  obtain ⟨fs, hr, hrun, hended, hRW⟩ := X304.leaveW hS (by rw [e304]; first | exact hk0 | exact Nat.le_refl _) (v := some (.int (0 : Int32))) (fun h => by rw [Bd.returns] at h; cases h)
  refine own_end (t := T304.setFrames fs) ?_ ⟨_, hrun, hended, _, _, rfl, ?_, own_rmono hRW (by decide) (by decide)⟩
  · exact retN X304 hx (t := .boolean) Bd.returns (by simp) (hb hby d8_12) hr
  · show Q13 Z a294 w24 h0 n0 _ T304.heap _
    rw [e304]
    exact ⟨rfl, N0, rfl⟩
theorem d9_0 : decode prog_1_method_11_code 0 = .ok (.aload_n 0, 1) := by decide +kernel
theorem d9_1 : decode prog_1_method_11_code 1 = .ok (.getstatic 17, 3) := by decide +kernel
theorem d9_4 : decode prog_1_method_11_code 4 = .ok (.if_acmp .ne 7, 3) := by decide +kernel
theorem d9_11 : decode prog_1_method_11_code 11 = .ok (.iconst 0, 1) := by decide +kernel
theorem d9_12 : decode prog_1_method_11_code 12 = .ok (.ireturn, 1) := by decide +kernel
theorem ef_14 (m : MethodId) (x0 : Addr) : entryFrame m #[(.ref x0)] 1 = mkF m 0 #[rv x0] [] := by first | (simp [entryFrame, mkF, argsToLocals, Value.category]; done) | rfl
def Q14 (Z : State) (a309 : Addr) (w21 : Addr) (h0 : Heap) (n0 : Nat) (v : Option Value) (h : Heap) (L : List Loc) : Prop := v = some (.int (0 : Int32)) ∧ Fr n0 L ∧ h = h0
set_option maxRecDepth 65536 in
set_option maxHeartbeats 40000000 in
theorem rm14 (l : Launch) (Z : State) (a0 : Array Value) (hw : ∀ d ∈ tables_1, d.before a0 Z = true) (ws : List Jvm.Cond) (a309 : Addr) (w21 : Addr) (h0 : Heap) (n0 : Nat) (O0 : Old Z n0 h0) (S_Tertium_NULL : Sta Z Z.heap zs1 "NULL" zs12 (.ref w21)) (SE_w21 : Exa Z Z.heap w21 zs1) (pG_a309 : n0 ≤ a309) :
    MetFree l (⟨zs1, "isNull", "()Z"⟩ : MethodName) (head1 (Jvm.Cond.code (⟨zs1, "isNull", "()Z"⟩ : MethodName) prog_1_method_11_code 1 (some .boolean) :: ws) ({ frames := 0, cells := 0, slots := 0, locals := 0 } : Room)) (fun a U => a = #[(.ref a309)] ∧ Z.Warmed39 U.vm ∧ U.heap = h0) (fun _ _ _ _ _ => True) (fun _ U o U' => ∃ v L, o = .returned v ∧ Q14 Z a309 w21 h0 n0 v U'.heap L ∧ ReturnedEndW U o U' L ({ frames := 0, cells := 0, slots := 0, locals := 0 } : Room).cells ({ frames := 0, cells := 0, slots := 0, locals := 0 } : Room).slots) := by
  refine MetFree.of_bodySF (plainFor_of_name pn_3) hisR ?_
  intro p e s m args below meth c s₁ Bd hml0 hP hK
  obtain ⟨rfl, hZ, hh⟩ := hP
  have hx := Bd.exec
  have hby := Bd.bytes
  have hml : c.maxLocals = 1 := hml0
  have hown : s.vm.findClass zs1 = some m.cls := findClass_of_methodNamed Bd.named
  have hnm := (name_of_methodNamed Bd.named Bd.method).1
  have X0 : Stand p l e ({ frames := 0, cells := 0, slots := 0, locals := 0 } : Room) (s.setVm s.vm) m #[(.ref a309)] below meth c s₁ [] 0 0 := Stand.of_body Bd
  have hS : s.Since s.vm 0 := (State.WarmedH.refl s).since 0
  obtain ⟨k0, hk0, hS⟩ : ∃ k0, k0 ≤ h0.size ∧ s.Since s.vm k0 := ⟨0, Nat.zero_le _, hS⟩
  have hZ : Z.Warmed39 (s.setVm s.vm).vm := hZ
  have hown : (s.setVm s.vm).vm.findClass zs1 = some m.cls := hown
  have e0 : s₁.heap = h0 := by rw [← hh, Bd.state]; rfl
  have N0 := Fr.nil n0
  refine own_out ?_
  refine own_via (fun t k => castTop (ef_14 m a309) (XS.aloadN X0.here hx rfl (hb hby d9_0) rfl rfl k)) ?_
  obtain ⟨T319, X319, e319, st319⟩ := getS2 X0 hx hZ hown (host := "") (Or.inl (wd hw 4 rfl)) Via.refl e0 (S_Tertium_NULL.ext O0.2) (g := (mkF m 1 #[rv a309] [(.ref a309)])) rfl (hb hby d9_1)
  refine own_via (fun t k => st319 t (Jvm.RoadKit.acmp (g := (mkF m 4 #[rv a309] [(.ref w21), (.ref a309)])) X319 hx rfl rfl rfl (pc0 := 4) (pc' := 11) (same := false) rfl (hb hby d9_4) rfl (decide_eq_false fun q => (Ne.symm (Old.ne O0 SE_w21.lt pG_a309)) (Value.ref.inj q)) (by decide) (by decide) (XS.iconst X319.here hx rfl (hb hby d9_11) k))) ?_
  show own_Goes p e below (T319.setTop (mkF m 12 #[rv a309] [(.int (0 : Int32))])) _
  obtain ⟨fs, hr, hrun, hended, hRW⟩ := X319.leaveW hS (by rw [e319]; first | exact hk0 | exact Nat.le_refl _) (v := some (.int (0 : Int32))) (fun h => by rw [Bd.returns] at h; cases h)
  refine own_end (t := T319.setFrames fs) ?_ ⟨_, hrun, hended, _, _, rfl, ?_, own_rmono hRW (by decide) (by decide)⟩
  · exact retN X319 hx (t := .boolean) Bd.returns (by simp) (hb hby d9_12) hr
  · show Q14 Z a309 w21 h0 n0 _ T319.heap _
    rw [e319]
    exact ⟨rfl, N0, rfl⟩
theorem d16_0 : decode prog_1_method_14_code 0 = .ok (.aload_n 0, 1) := by decide +kernel
theorem d16_1 : decode prog_1_method_14_code 1 = .ok (.invokevirtual 70, 3) := by decide +kernel
theorem d16_4 : decode prog_1_method_14_code 4 = .ok (.ifCond .eq 13, 3) := by decide +kernel
theorem d16_17 : decode prog_1_method_14_code 17 = .ok (.aload_n 0, 1) := by decide +kernel
theorem d16_18 : decode prog_1_method_14_code 18 = .ok (.getfield 7, 3) := by decide +kernel
theorem d16_21 : decode prog_1_method_14_code 21 = .ok (.areturn, 1) := by decide +kernel
theorem ef_15 (m : MethodId) (x0 : Addr) : entryFrame m #[(.ref x0)] 1 = mkF m 0 #[rv x0] [] := by first | (simp [entryFrame, mkF, argsToLocals, Value.category]; done) | rfl
def Q15 (Z : State) (a323 : Addr) (w24 : Addr) (a324 : Addr) (h0 : Heap) (n0 : Nat) (v : Option Value) (h : Heap) (L : List Loc) : Prop := v = some (.ref a324) ∧ Fr n0 L ∧ h = h0
set_option maxRecDepth 65536 in
set_option maxHeartbeats 40000000 in
theorem rm15 (l : Launch) (Z : State) (a0 : Array Value) (hw : ∀ d ∈ tables_1, d.before a0 Z = true) (ws : List Jvm.Cond) (a323 : Addr) (w24 : Addr) (a324 : Addr) (h0 : Heap) (n0 : Nat) (O0 : Old Z n0 h0) (S_Tertium_ABSENT : Sta Z Z.heap zs1 "ABSENT" zs12 (.ref w24)) (SE_w24 : Exa Z Z.heap w24 zs1) (pG_a323 : n0 ≤ a323) (pE_a323 : Exa Z h0 a323 zs1) (pF_a323_value : Fld Z h0 a323 zs1 "value" zs3 (.ref a324)) :
    MetFree l (⟨zs1, "get", zs10⟩ : MethodName) (head1 (Jvm.Cond.code (⟨zs1, "get", zs10⟩ : MethodName) prog_1_method_14_code 1 (some (.object zs5)) :: ws) ({ frames := 1, cells := 0, slots := 0, locals := 12 } : Room)) (fun a U => a = #[(.ref a323)] ∧ Z.Warmed39 U.vm ∧ U.heap = h0) (fun _ _ _ _ _ => True) (fun _ U o U' => ∃ v L, o = .returned v ∧ Q15 Z a323 w24 a324 h0 n0 v U'.heap L ∧ ReturnedEndW U o U' L ({ frames := 1, cells := 0, slots := 0, locals := 12 } : Room).cells ({ frames := 1, cells := 0, slots := 0, locals := 12 } : Room).slots) := by
  refine MetFree.of_bodySF (plainFor_of_name pn_3) hisR ?_
  intro p e s m args below meth c s₁ Bd hml0 hP hK
  obtain ⟨rfl, hZ, hh⟩ := hP
  have hx := Bd.exec
  have hby := Bd.bytes
  have hml : c.maxLocals = 1 := hml0
  have hown : s.vm.findClass zs1 = some m.cls := findClass_of_methodNamed Bd.named
  have hnm := (name_of_methodNamed Bd.named Bd.method).1
  have X0 : Stand p l e ({ frames := 1, cells := 0, slots := 0, locals := 12 } : Room) (s.setVm s.vm) m #[(.ref a323)] below meth c s₁ [] 0 0 := Stand.of_body Bd
  have hS : s.Since s.vm 0 := (State.WarmedH.refl s).since 0
  obtain ⟨k0, hk0, hS⟩ : ∃ k0, k0 ≤ h0.size ∧ s.Since s.vm k0 := ⟨0, Nat.zero_le _, hS⟩
  have hZ : Z.Warmed39 (s.setVm s.vm).vm := hZ
  have hown : (s.setVm s.vm).vm.findClass zs1 = some m.cls := hown
  have e0 : s₁.heap = h0 := by rw [← hh, Bd.state]; rfl
  have N0 := Fr.nil n0
  refine own_out ?_
  refine own_via (fun t k => castTop (ef_15 m a323) (XS.aloadN X0.here hx rfl (hb hby d16_0) rfl rfl k)) ?_
  obtain ⟨_, T333, _, X333, hQ333, hS, hZ, hown, st333⟩ := own_cvS X0 hx hZ hS hk0 hown (wd hw 91 rfl) (wd hw 46 rfl) (wd hw 48 rfl) (wd hw 47 rfl) (wd hw 49 rfl) (wd hw 2 rfl) (by decide) (rm13 l Z a0 hw [] a323 w24 h0 n0 O0 S_Tertium_ABSENT SE_w24 pG_a323) e0 pE_a323 (g := (mkF m 1 #[rv a323] [(.ref a323)])) rfl (by rw [hml]; rfl) (rest := []) (W := 0) (lenOf pd_9 rfl) rfl (by show 2 * 0 + _ ≤ _; exact Nat.le_of_eq rfl) (hb hby d16_1) (by decide) (by decide) (by decide) (by decide)
  obtain ⟨rfl, Nq333, hh334⟩ := hQ333
  have N333 := Fr.app N0 Nq333
  have hk335 : T333.heap.size ≤ h0.size := Nat.le_of_eq (congrArg Array.size hh334)
  refine own_via (fun t k => st333 t (XS.ifYes X333.here hx rfl (pc0 := 4) (pc' := 17) rfl (hb hby d16_4) rfl ((if0 _ _).trans (teq (by decide : (0 : Int32) = (0 : Int32))).1) (by decide) (by decide) (XS.aloadN X333.here hx rfl (hb hby d16_17) rfl rfl k))) ?_
  show own_Goes p e below (T333.setTop (mkF m 18 #[rv a323] [(.ref a323)])) _
  obtain ⟨T336, X336, e336, st336⟩ := getF X333 hx hZ hown (host := "") (Or.inl (wd hw 11 rfl)) Via.refl hh334 pF_a323_value (g := (mkF m 18 #[rv a323] [(.ref a323)])) rfl rfl (hb hby d16_18)
  refine own_via (fun t k => st336 t k) ?_
  obtain ⟨fs, hr, hrun, hended, hRW⟩ := X336.leaveW hS (by rw [e336]; first | exact hk335 | exact Nat.le_refl _) (v := some (.ref a324)) (fun h => by rw [Bd.returns] at h; cases h)
  refine own_end (t := T336.setFrames fs) ?_ ⟨_, hrun, hended, _, _, rfl, ?_, own_rmono hRW (by decide) (by decide)⟩
  · jvm_step X336.here [X336.here.top, hx, (hb hby d16_21), X336.method', Bd.returns, Value.isRef, FieldType.isReference]
    first | (intro acts; rw [hr _ acts rfl rfl rfl]) | rw [hr _ _ rfl rfl rfl]
    exact Steps.refl _
  · show Q15 Z a323 w24 a324 h0 n0 _ T336.heap _
    rw [e336]
    exact ⟨rfl, N333, rfl⟩
theorem d17_0 : decode jdk_33_method_27_code 0 = .ok (.aload_n 0, 1) := by decide +kernel
theorem d17_1 : decode jdk_33_method_27_code 1 = .ok (.getfield 205, 3) := by decide +kernel
theorem d17_4 : decode jdk_33_method_27_code 4 = .ok (.ireturn, 1) := by decide +kernel
theorem ef_16 (m : MethodId) (x0 : Addr) : entryFrame m #[(.ref x0)] 1 = mkF m 0 #[rv x0] [] := by first | (simp [entryFrame, mkF, argsToLocals, Value.category]; done) | rfl
def Q16 (Z : State) (a342 : Addr) (p343 : Int32) (h0 : Heap) (n0 : Nat) (v : Option Value) (h : Heap) (L : List Loc) : Prop := v = some (.int p343) ∧ Fr n0 L ∧ h = h0
set_option maxRecDepth 65536 in
set_option maxHeartbeats 40000000 in
theorem rm16 (l : Launch) (Z : State) (a0 : Array Value) (hw : ∀ d ∈ tables_1, d.before a0 Z = true) (ws : List Jvm.Cond) (a342 : Addr) (p343 : Int32) (h0 : Heap) (n0 : Nat) (O0 : Old Z n0 h0) (pF_a342_value : Fld Z h0 a342 zs4 "value" "I" (.int p343)) :
    MetFree l (⟨zs4, "intValue", "()I"⟩ : MethodName) (head1 (Jvm.Cond.code (⟨zs4, "intValue", "()I"⟩ : MethodName) jdk_33_method_27_code 1 (some .int) :: ws) ({ frames := 0, cells := 0, slots := 0, locals := 0 } : Room)) (fun a U => a = #[(.ref a342)] ∧ Z.Warmed39 U.vm ∧ U.heap = h0) (fun _ _ _ _ _ => True) (fun _ U o U' => ∃ v L, o = .returned v ∧ Q16 Z a342 p343 h0 n0 v U'.heap L ∧ ReturnedEndW U o U' L ({ frames := 0, cells := 0, slots := 0, locals := 0 } : Room).cells ({ frames := 0, cells := 0, slots := 0, locals := 0 } : Room).slots) := by
  refine MetFree.of_bodySF (plainFor_of_name pn_2) hisR ?_
  intro p e s m args below meth c s₁ Bd hml0 hP hK
  obtain ⟨rfl, hZ, hh⟩ := hP
  have hx := Bd.exec
  have hby := Bd.bytes
  have hml : c.maxLocals = 1 := hml0
  have hown : s.vm.findClass zs4 = some m.cls := findClass_of_methodNamed Bd.named
  have hnm := (name_of_methodNamed Bd.named Bd.method).1
  have X0 : Stand p l e ({ frames := 0, cells := 0, slots := 0, locals := 0 } : Room) (s.setVm s.vm) m #[(.ref a342)] below meth c s₁ [] 0 0 := Stand.of_body Bd
  have hS : s.Since s.vm 0 := (State.WarmedH.refl s).since 0
  obtain ⟨k0, hk0, hS⟩ : ∃ k0, k0 ≤ h0.size ∧ s.Since s.vm k0 := ⟨0, Nat.zero_le _, hS⟩
  have hZ : Z.Warmed39 (s.setVm s.vm).vm := hZ
  have hown : (s.setVm s.vm).vm.findClass zs4 = some m.cls := hown
  have e0 : s₁.heap = h0 := by rw [← hh, Bd.state]; rfl
  have N0 := Fr.nil n0
  refine own_out ?_
  refine own_via (fun t k => castTop (ef_16 m a342) (XS.aloadN X0.here hx rfl (hb hby d17_0) rfl rfl k)) ?_
  obtain ⟨T352, X352, e352, st352⟩ := getF X0 hx hZ hown (host := "") (Or.inl (wd hw 99 rfl)) Via.refl e0 pF_a342_value (g := (mkF m 1 #[rv a342] [(.ref a342)])) rfl rfl (hb hby d17_1)
  refine own_via (fun t k => st352 t k) ?_
  obtain ⟨fs, hr, hrun, hended, hRW⟩ := X352.leaveW hS (by rw [e352]; first | exact hk0 | exact Nat.le_refl _) (v := some (.int p343)) (fun h => by rw [Bd.returns] at h; cases h)
  refine own_end (t := T352.setFrames fs) ?_ ⟨_, hrun, hended, _, _, rfl, ?_, own_rmono hRW (by decide) (by decide)⟩
  · exact retI X352 hx Bd.returns (hb hby d17_4) hr
  · show Q16 Z a342 p343 h0 n0 _ T352.heap _
    rw [e352]
    exact ⟨rfl, N0, rfl⟩
theorem pd_12 : parseMethodDescriptor "()I" = some ⟨[], some .int⟩ := by decide +kernel
def Q17 (Z : State) (a429 : Addr) (b103 : Addr) (h0 : Heap) (n0 : Nat) (v : Option Value) (h : Heap) (L : List Loc) : Prop := v = none ∧ Fr n0 L ∧ Keep h0 h [a429] ∧ Exa Z h a429 zs1 ∧ Fld Z h a429 zs1 "value" zs3 (.ref b103)
set_option maxRecDepth 65536 in
set_option maxHeartbeats 40000000 in
theorem rm17 (l : Launch) (Z : State) (a0 : Array Value) (hw : ∀ d ∈ tables_1, d.before a0 Z = true) (ws : List Jvm.Cond) (a429 : Addr) (b103 : Addr) (h0 : Heap) (n0 : Nat) (O0 : Old Z n0 h0) (pF_a429_value : Fld Z h0 a429 zs1 "value" zs3 .null) (pE_a429 : Exa Z h0 a429 zs1) (pG_a429 : n0 ≤ a429) :
    MetFree l (⟨zs1, "<init>", zs8⟩ : MethodName) (head1 (Jvm.Cond.code (⟨zs1, "<init>", zs8⟩ : MethodName) prog_1_method_1_code 2 none :: ws) ({ frames := 1, cells := 0, slots := 0, locals := 12 } : Room)) (fun a U => a = #[(.ref a429), (.ref b103)] ∧ Z.Warmed39 U.vm ∧ U.heap = h0) (fun _ _ _ _ _ => True) (fun _ U o U' => ∃ v L, o = .returned v ∧ Q17 Z a429 b103 h0 n0 v U'.heap L ∧ ReturnedEndW U o U' L ({ frames := 1, cells := 0, slots := 0, locals := 12 } : Room).cells ({ frames := 1, cells := 0, slots := 0, locals := 12 } : Room).slots) := by
  refine MetFree.of_bodySF (plainFor_of_name pn_3) hisR ?_
  intro p e s m args below meth c s₁ Bd hml0 hP hK
  obtain ⟨rfl, hZ, hh⟩ := hP
  have hx := Bd.exec
  have hby := Bd.bytes
  have hml : c.maxLocals = 2 := hml0
  have hown : s.vm.findClass zs1 = some m.cls := findClass_of_methodNamed Bd.named
  have hnm := (name_of_methodNamed Bd.named Bd.method).1
  have X0 : Stand p l e ({ frames := 1, cells := 0, slots := 0, locals := 12 } : Room) (s.setVm s.vm) m #[(.ref a429), (.ref b103)] below meth c s₁ [] 0 0 := Stand.of_body Bd
  have hS : s.Since s.vm 0 := (State.WarmedH.refl s).since 0
  obtain ⟨k0, hk0, hS⟩ : ∃ k0, k0 ≤ h0.size ∧ s.Since s.vm k0 := ⟨0, Nat.zero_le _, hS⟩
  have hZ : Z.Warmed39 (s.setVm s.vm).vm := hZ
  have hown : (s.setVm s.vm).vm.findClass zs1 = some m.cls := hown
  have e0 : s₁.heap = h0 := by rw [← hh, Bd.state]; rfl
  have N0 := Fr.nil n0
  refine own_out ?_
  refine own_via (fun t k => castTop (ef_4 m a429 b103) (XS.aloadN X0.here hx rfl (hb hby d12_0) rfl rfl k)) ?_
  obtain ⟨T437, X437, e437, st437⟩ := initO X0 hx hZ hown (wd hw 70 rfl) (wd hw 71 rfl) (wd hw 72 rfl) e0 (g := (mkF m 1 #[rv a429, rv b103] [(.ref a429)])) rfl (by rw [hml]; rfl) rfl (hb hby d12_1) (by decide) (W := 0) (by show 2 * 0 + _ ≤ _; exact Nat.le_of_eq rfl) (by decide)
  refine own_via (fun t k => st437 t (XS.aloadN X437.here hx rfl (hb hby d12_4) rfl rfl (XS.aloadN X437.here hx rfl (hb hby d12_5) rfl rfl k))) ?_
  show own_Goes p e below (T437.setTop (mkF m 6 #[rv a429, rv b103] [(.ref b103), (.ref a429)])) _
  obtain ⟨T438, h438, X438, e438, W438, st438⟩ := putF X437 hx hZ hown (host := "") (Or.inl (wd hw 11 rfl)) Via.refl e437 pF_a429_value pE_a429 (Or.inr ⟨(wd hw 12 rfl), rfl, hnm⟩) (wd hw 66 rfl) (ty := (.object zs5)) (by decide) rfl rfl (g := (mkF m 6 #[rv a429, rv b103] [(.ref b103), (.ref a429)])) rfl rfl (hb hby d12_6)
  refine own_via (fun t k => st438 t k) ?_
  have Fw438 : Fld Z h438 a429 zs1 "value" zs3 (.ref b103) := pF_a429_value.same W438
  have N438 := Fr.snoc X438 N0 pG_a429
  show own_Goes p e below (T438.setTop (mkF m 9 #[rv a429, rv b103] [])) _
  have K439 : k0 ≤ h438.size := (Nat.le_trans hk0 (Nat.le_of_eq W438.size.symm))
  obtain ⟨fs, hr, hrun, hended, hRW⟩ := X438.leaveW hS (by rw [e438]; first | exact K439 | exact Nat.le_refl _) (v := none) (fun _ => rfl)
  refine own_end (t := T438.setFrames fs) ?_ ⟨_, hrun, hended, _, _, rfl, ?_, own_rmono hRW (by decide) (by decide)⟩
  · exact X438.returnOut hx Bd.returns (hb hby d12_9) hr
  have E440 : Exa Z h438 a429 zs1 := (pE_a429.wr W438)
  · show Q17 Z a429 b103 h0 n0 _ T438.heap _
    rw [e438]
    exact ⟨rfl, N438, ((Keep.refl h0 [a429]).wr W438 (Or.inl (List.mem_of_getElem? (i := 0) rfl))), E440, Fw438⟩
def Q18 (Z : State) (b103 : Addr) (h0 : Heap) (n0 : Nat) (v : Option Value) (h : Heap) (L : List Loc) : Prop := (∃ (b424 : Addr), v = some (.ref b424) ∧ Fr n0 L ∧ Keep h0 h [] ∧ h0.size ≤ b424 ∧ Exa Z h b424 zs1 ∧ Fld Z h b424 zs1 "value" zs3 (.ref b103))
set_option maxRecDepth 65536 in
set_option maxHeartbeats 40000000 in
theorem rm18 (l : Launch) (Z : State) (a0 : Array Value) (hw : ∀ d ∈ tables_1, d.before a0 Z = true) (ws : List Jvm.Cond) (b103 : Addr) (h0 : Heap) (n0 : Nat) (O0 : Old Z n0 h0) :
    MetFree l (⟨zs1, "of", zs11⟩ : MethodName) (head1 (Jvm.Cond.code (⟨zs1, "of", zs11⟩ : MethodName) prog_1_method_4_code 1 (some (.object zs1)) :: ws) ({ frames := 2, cells := 1, slots := 1, locals := 26 } : Room)) (fun a U => a = #[(.ref b103)] ∧ Z.Warmed39 U.vm ∧ U.heap = h0) (fun _ _ _ _ _ => True) (fun _ U o U' => ∃ v L, o = .returned v ∧ Q18 Z b103 h0 n0 v U'.heap L ∧ ReturnedEndW U o U' L ({ frames := 2, cells := 1, slots := 1, locals := 26 } : Room).cells ({ frames := 2, cells := 1, slots := 1, locals := 26 } : Room).slots) := by
  refine MetFree.of_bodySF (plainFor_of_name pn_3) hisR ?_
  intro p e s m args below meth c s₁ Bd hml0 hP hK
  obtain ⟨rfl, hZ, hh⟩ := hP
  have hx := Bd.exec
  have hby := Bd.bytes
  have hml : c.maxLocals = 1 := hml0
  have hown : s.vm.findClass zs1 = some m.cls := findClass_of_methodNamed Bd.named
  have hnm := (name_of_methodNamed Bd.named Bd.method).1
  have X0 : Stand p l e ({ frames := 2, cells := 1, slots := 1, locals := 26 } : Room) (s.setVm s.vm) m #[(.ref b103)] below meth c s₁ [] 0 0 := Stand.of_body Bd
  have hS : s.Since s.vm 0 := (State.WarmedH.refl s).since 0
  obtain ⟨k0, hk0, hS⟩ : ∃ k0, k0 ≤ h0.size ∧ s.Since s.vm k0 := ⟨0, Nat.zero_le _, hS⟩
  have hZ : Z.Warmed39 (s.setVm s.vm).vm := hZ
  have hown : (s.setVm s.vm).vm.findClass zs1 = some m.cls := hown
  have e0 : s₁.heap = h0 := by rw [← hh, Bd.state]; rfl
  have N0 := Fr.nil n0
  refine own_out ?_
  refine own_via (fun t k => castTop (ef_5 m b103) (XS.aloadN X0.here hx rfl (hb hby d11_0) rfl rfl (XS.ifnonnullYes X0.here hx rfl (pc0 := 1) (pc' := 8) rfl (hb hby d11_1) rfl (by decide) (by decide) k))) ?_
  show own_Goes p e below (s₁.setTop (mkF m 8 #[rv b103] [])) _
  obtain ⟨T423, h423, X423, e423, E423, A423, D423, -, st423⟩ := newO X0 hx hZ hown (wd hw 65 rfl) (wd hw 66 rfl) (wd hw 2 rfl) e0 (g := (mkF m 8 #[rv b103] [])) rfl (hb hby d11_8) (by decide) (by decide)
  obtain ⟨b424, q423⟩ : ∃ z, z = h0.size := ⟨_, rfl⟩
  rw [← q423] at A423 D423 st423
  refine own_via (fun t k => st423 t k) ?_
  have g425 : n0 ≤ b424 := Nat.le_trans (own_old O0) (Nat.le_of_eq q423.symm)
  have B426 : h0.size ≤ b424 := Nat.le_trans (Nat.le_refl _) (Nat.le_of_eq q423.symm)
  have F427 : Fld Z h423 b424 zs1 "value" zs3 .null := D423 (Or.inr (wd hw 12 rfl)) (ty := (.object zs5)) (by decide)
  show own_Goes p e below (T423.setTop (mkF m 11 #[rv b103] [(.ref b424)])) _
  refine own_via (fun t k => XS.dup X423.here hx rfl (hb hby d11_11) rfl rfl (XS.aloadN X423.here hx rfl (hb hby d11_12) rfl rfl k)) ?_
  have O441 : Old Z n0 h423 := (O0.ext E423)
  have K442 : k0 ≤ h423.size := (Nat.le_trans hk0 E423.1)
  obtain ⟨_, T428, _, X428, hQ428, hS, hZ, hown, st428⟩ := own_ciS X423 hx hZ hS K442 hown (wd hw 67 rfl) (wd hw 68 rfl) (wd hw 69 rfl) (wd hw 2 rfl) rfl (by decide) (rm17 l Z a0 hw [] b424 b103 h423 n0 O441 F427 A423 g425) e423 (g := (mkF m 13 #[rv b103] [(.ref b103), (.ref b424), (.ref b424)])) rfl (by rw [hml]; rfl) (rest := [(.ref b424)]) (W := 1) (lenOf pd_4 rfl) rfl (by show 2 * 0 + _ ≤ _; exact Nat.le_of_eq rfl) (hb hby d11_13) (by decide) (by decide) (by decide) (by decide)
  obtain ⟨h428, e428⟩ : ∃ z, T428.heap = z := ⟨_, rfl⟩
  rw [e428] at hQ428
  obtain ⟨rfl, Nq428, K428, ex443, fx444⟩ := hQ428
  have N428 := Fr.app N0 Nq428
  have hk445 : T428.heap.size ≤ h428.size := Nat.le_of_eq (congrArg Array.size e428)
  refine own_via (fun t k => st428 t k) ?_
  obtain ⟨fs, hr, hrun, hended, hRW⟩ := X428.leaveW hS (by rw [e428]; first | exact hk445 | exact Nat.le_refl _) (v := some (.ref b424)) (fun h => by rw [Bd.returns] at h; cases h)
  refine own_end (t := T428.setFrames fs) ?_ ⟨_, hrun, hended, _, _, rfl, ?_, own_rmono hRW (by decide) (by decide)⟩
  · jvm_step X428.here [X428.here.top, hx, (hb hby d11_16), X428.method', Bd.returns, Value.isRef, FieldType.isReference]
    first | (intro acts; rw [hr _ acts rfl rfl rfl]) | rw [hr _ _ rfl rfl rfl]
    exact Steps.refl _
  · show Q18 Z b103 h0 n0 _ T428.heap _
    rw [e428]
    exact ⟨b424, rfl, N428, (((Keep.refl h0 []).ext E423).trans K428 (allS (Or.inr B426) all0)), B426, ex443, fx444⟩
def Q19 (Z : State) (a478 : Addr) (b103 : Addr) (h0 : Heap) (n0 : Nat) (v : Option Value) (h : Heap) (L : List Loc) : Prop := v = none ∧ Fr n0 L ∧ Keep h0 h [a478] ∧ Exa Z h a478 zs2 ∧ Fld Z h a478 zs2 "value" zs3 (.ref b103)
set_option maxRecDepth 65536 in
set_option maxHeartbeats 40000000 in
theorem rm19 (l : Launch) (Z : State) (a0 : Array Value) (hw : ∀ d ∈ tables_1, d.before a0 Z = true) (ws : List Jvm.Cond) (a478 : Addr) (b103 : Addr) (h0 : Heap) (n0 : Nat) (O0 : Old Z n0 h0) (pF_a478_value : Fld Z h0 a478 zs2 "value" zs3 .null) (pE_a478 : Exa Z h0 a478 zs2) (pG_a478 : n0 ≤ a478) :
    MetFree l (⟨zs2, "<init>", zs8⟩ : MethodName) (head1 (Jvm.Cond.code (⟨zs2, "<init>", zs8⟩ : MethodName) jdk_32_method_2_code 2 none :: ws) ({ frames := 1, cells := 0, slots := 0, locals := 12 } : Room)) (fun a U => a = #[(.ref a478), (.ref b103)] ∧ Z.Warmed39 U.vm ∧ U.heap = h0) (fun _ _ _ _ _ => True) (fun _ U o U' => ∃ v L, o = .returned v ∧ Q19 Z a478 b103 h0 n0 v U'.heap L ∧ ReturnedEndW U o U' L ({ frames := 1, cells := 0, slots := 0, locals := 12 } : Room).cells ({ frames := 1, cells := 0, slots := 0, locals := 12 } : Room).slots) := by
  refine MetFree.of_bodySF (plainFor_of_name pn_4) hisR ?_
  intro p e s m args below meth c s₁ Bd hml0 hP hK
  obtain ⟨rfl, hZ, hh⟩ := hP
  have hx := Bd.exec
  have hby := Bd.bytes
  have hml : c.maxLocals = 2 := hml0
  have hown : s.vm.findClass zs2 = some m.cls := findClass_of_methodNamed Bd.named
  have hnm := (name_of_methodNamed Bd.named Bd.method).1
  have X0 : Stand p l e ({ frames := 1, cells := 0, slots := 0, locals := 12 } : Room) (s.setVm s.vm) m #[(.ref a478), (.ref b103)] below meth c s₁ [] 0 0 := Stand.of_body Bd
  have hS : s.Since s.vm 0 := (State.WarmedH.refl s).since 0
  obtain ⟨k0, hk0, hS⟩ : ∃ k0, k0 ≤ h0.size ∧ s.Since s.vm k0 := ⟨0, Nat.zero_le _, hS⟩
  have hZ : Z.Warmed39 (s.setVm s.vm).vm := hZ
  have hown : (s.setVm s.vm).vm.findClass zs2 = some m.cls := hown
  have e0 : s₁.heap = h0 := by rw [← hh, Bd.state]; rfl
  have N0 := Fr.nil n0
  refine own_out ?_
  refine own_via (fun t k => castTop (ef_6 m a478 b103) (XS.aloadN X0.here hx rfl (hb hby d14_0) rfl rfl k)) ?_
  obtain ⟨T487, X487, e487, st487⟩ := initO X0 hx hZ hown (wd hw 79 rfl) (wd hw 71 rfl) (wd hw 72 rfl) e0 (g := (mkF m 1 #[rv a478, rv b103] [(.ref a478)])) rfl (by rw [hml]; rfl) rfl (hb hby d14_1) (by decide) (W := 0) (by show 2 * 0 + _ ≤ _; exact Nat.le_of_eq rfl) (by decide)
  refine own_via (fun t k => st487 t (XS.aloadN X487.here hx rfl (hb hby d14_4) rfl rfl (XS.aloadN X487.here hx rfl (hb hby d14_5) rfl rfl k))) ?_
  show own_Goes p e below (T487.setTop (mkF m 6 #[rv a478, rv b103] [(.ref b103), (.ref a478)])) _
  obtain ⟨T488, h488, X488, e488, W488, st488⟩ := putF X487 hx hZ hown (host := "") (Or.inl (wd hw 38 rfl)) Via.refl e487 pF_a478_value pE_a478 (Or.inr ⟨(wd hw 39 rfl), rfl, hnm⟩) (wd hw 74 rfl) (ty := (.object zs5)) (by decide) rfl rfl (g := (mkF m 6 #[rv a478, rv b103] [(.ref b103), (.ref a478)])) rfl rfl (hb hby d14_6)
  refine own_via (fun t k => st488 t k) ?_
  have Fw488 : Fld Z h488 a478 zs2 "value" zs3 (.ref b103) := pF_a478_value.same W488
  have N488 := Fr.snoc X488 N0 pG_a478
  show own_Goes p e below (T488.setTop (mkF m 9 #[rv a478, rv b103] [])) _
  have K489 : k0 ≤ h488.size := (Nat.le_trans hk0 (Nat.le_of_eq W488.size.symm))
  obtain ⟨fs, hr, hrun, hended, hRW⟩ := X488.leaveW hS (by rw [e488]; first | exact K489 | exact Nat.le_refl _) (v := none) (fun _ => rfl)
  refine own_end (t := T488.setFrames fs) ?_ ⟨_, hrun, hended, _, _, rfl, ?_, own_rmono hRW (by decide) (by decide)⟩
  · exact X488.returnOut hx Bd.returns (hb hby d14_9) hr
  have E490 : Exa Z h488 a478 zs2 := (pE_a478.wr W488)
  · show Q19 Z a478 b103 h0 n0 _ T488.heap _
    rw [e488]
    exact ⟨rfl, N488, ((Keep.refl h0 [a478]).wr W488 (Or.inl (List.mem_of_getElem? (i := 0) rfl))), E490, Fw488⟩
def Q20 (Z : State) (b103 : Addr) (h0 : Heap) (n0 : Nat) (v : Option Value) (h : Heap) (L : List Loc) : Prop := (∃ (b473 : Addr), v = some (.ref b473) ∧ Fr n0 L ∧ Keep h0 h [] ∧ h0.size ≤ b473 ∧ Exa Z h b473 zs2 ∧ Fld Z h b473 zs2 "value" zs3 (.ref b103))
set_option maxRecDepth 65536 in
set_option maxHeartbeats 40000000 in
theorem rm20 (l : Launch) (Z : State) (a0 : Array Value) (hw : ∀ d ∈ tables_1, d.before a0 Z = true) (ws : List Jvm.Cond) (b103 : Addr) (h0 : Heap) (n0 : Nat) (O0 : Old Z n0 h0) :
    MetFree l (⟨zs2, "ofNullable", zs6⟩ : MethodName) (head1 (Jvm.Cond.code (⟨zs2, "ofNullable", zs6⟩ : MethodName) jdk_32_method_4_code 1 (some (.object zs2)) :: ws) ({ frames := 2, cells := 1, slots := 1, locals := 26 } : Room)) (fun a U => a = #[(.ref b103)] ∧ Z.Warmed39 U.vm ∧ U.heap = h0) (fun _ _ _ _ _ => True) (fun _ U o U' => ∃ v L, o = .returned v ∧ Q20 Z b103 h0 n0 v U'.heap L ∧ ReturnedEndW U o U' L ({ frames := 2, cells := 1, slots := 1, locals := 26 } : Room).cells ({ frames := 2, cells := 1, slots := 1, locals := 26 } : Room).slots) := by
  refine MetFree.of_bodySF (plainFor_of_name pn_4) hisR ?_
  intro p e s m args below meth c s₁ Bd hml0 hP hK
  obtain ⟨rfl, hZ, hh⟩ := hP
  have hx := Bd.exec
  have hby := Bd.bytes
  have hml : c.maxLocals = 1 := hml0
  have hown : s.vm.findClass zs2 = some m.cls := findClass_of_methodNamed Bd.named
  have hnm := (name_of_methodNamed Bd.named Bd.method).1
  have X0 : Stand p l e ({ frames := 2, cells := 1, slots := 1, locals := 26 } : Room) (s.setVm s.vm) m #[(.ref b103)] below meth c s₁ [] 0 0 := Stand.of_body Bd
  have hS : s.Since s.vm 0 := (State.WarmedH.refl s).since 0
  obtain ⟨k0, hk0, hS⟩ : ∃ k0, k0 ≤ h0.size ∧ s.Since s.vm k0 := ⟨0, Nat.zero_le _, hS⟩
  have hZ : Z.Warmed39 (s.setVm s.vm).vm := hZ
  have hown : (s.setVm s.vm).vm.findClass zs2 = some m.cls := hown
  have e0 : s₁.heap = h0 := by rw [← hh, Bd.state]; rfl
  have N0 := Fr.nil n0
  refine own_out ?_
  refine own_via (fun t k => castTop (ef_7 m b103) (XS.aloadN X0.here hx rfl (hb hby d3_0) rfl rfl (XS.ifnonnullYes X0.here hx rfl (pc0 := 1) (pc' := 10) rfl (hb hby d3_1) rfl (by decide) (by decide) k))) ?_
  show own_Goes p e below (s₁.setTop (mkF m 10 #[rv b103] [])) _
  obtain ⟨T472, h472, X472, e472, E472, A472, D472, -, st472⟩ := newO X0 hx hZ hown (wd hw 73 rfl) (wd hw 74 rfl) (wd hw 15 rfl) e0 (g := (mkF m 10 #[rv b103] [])) rfl (hb hby d3_10) (by decide) (by decide)
  obtain ⟨b473, q472⟩ : ∃ z, z = h0.size := ⟨_, rfl⟩
  rw [← q472] at A472 D472 st472
  refine own_via (fun t k => st472 t k) ?_
  have g474 : n0 ≤ b473 := Nat.le_trans (own_old O0) (Nat.le_of_eq q472.symm)
  have B475 : h0.size ≤ b473 := Nat.le_trans (Nat.le_refl _) (Nat.le_of_eq q472.symm)
  have F476 : Fld Z h472 b473 zs2 "value" zs3 .null := D472 (Or.inr (wd hw 39 rfl)) (ty := (.object zs5)) (by decide)
  show own_Goes p e below (T472.setTop (mkF m 13 #[rv b103] [(.ref b473)])) _
  refine own_via (fun t k => XS.dup X472.here hx rfl (hb hby d3_13) rfl rfl (XS.aloadN X472.here hx rfl (hb hby d3_14) rfl rfl k)) ?_
  have O491 : Old Z n0 h472 := (O0.ext E472)
  have K492 : k0 ≤ h472.size := (Nat.le_trans hk0 E472.1)
  obtain ⟨_, T477, _, X477, hQ477, hS, hZ, hown, st477⟩ := own_ciS X472 hx hZ hS K492 hown (wd hw 75 rfl) (wd hw 76 rfl) (wd hw 78 rfl) (wd hw 15 rfl) rfl (by decide) (rm19 l Z a0 hw [] b473 b103 h472 n0 O491 F476 A472 g474) e472 (g := (mkF m 15 #[rv b103] [(.ref b103), (.ref b473), (.ref b473)])) rfl (by rw [hml]; rfl) (rest := [(.ref b473)]) (W := 1) (lenOf pd_4 rfl) rfl (by show 2 * 0 + _ ≤ _; exact Nat.le_of_eq rfl) (hb hby d3_15) (by decide) (by decide) (by decide) (by decide)
  obtain ⟨h477, e477⟩ : ∃ z, T477.heap = z := ⟨_, rfl⟩
  rw [e477] at hQ477
  obtain ⟨rfl, Nq477, K477, ex493, fx494⟩ := hQ477
  have N477 := Fr.app N0 Nq477
  have hk495 : T477.heap.size ≤ h477.size := Nat.le_of_eq (congrArg Array.size e477)
  refine own_via (fun t k => st477 t k) ?_
  obtain ⟨fs, hr, hrun, hended, hRW⟩ := X477.leaveW hS (by rw [e477]; first | exact hk495 | exact Nat.le_refl _) (v := some (.ref b473)) (fun h => by rw [Bd.returns] at h; cases h)
  refine own_end (t := T477.setFrames fs) ?_ ⟨_, hrun, hended, _, _, rfl, ?_, own_rmono hRW (by decide) (by decide)⟩
  · jvm_step X477.here [X477.here.top, hx, (hb hby d3_18), X477.method', Bd.returns, Value.isRef, FieldType.isReference]
    first | (intro acts; rw [hr _ acts rfl rfl rfl]) | rw [hr _ _ rfl rfl rfl]
    exact Steps.refl _
  · show Q20 Z b103 h0 n0 _ T477.heap _
    rw [e477]
    exact ⟨b473, rfl, N477, (((Keep.refl h0 []).ext E472).trans K477 (allS (Or.inr B475) all0)), B475, ex493, fx494⟩
def Q21 (Z : State) (a454 : Addr) (b103 : Addr) (h0 : Heap) (n0 : Nat) (v : Option Value) (h : Heap) (L : List Loc) : Prop := (∃ (b496 : Addr), v = some (.ref b496) ∧ Fr n0 L ∧ Keep h0 h [] ∧ h0.size ≤ b496 ∧ Exa Z h b496 zs2 ∧ Fld Z h b496 zs2 "value" zs3 (.ref b103))
set_option maxRecDepth 65536 in
set_option maxHeartbeats 40000000 in
theorem rm21 (l : Launch) (Z : State) (a0 : Array Value) (hw : ∀ d ∈ tables_1, d.before a0 Z = true) (ws : List Jvm.Cond) (a454 : Addr) (b103 : Addr) (h0 : Heap) (n0 : Nat) (O0 : Old Z n0 h0) (pF_a454_value : Fld Z h0 a454 zs1 "value" zs3 (.ref b103)) :
    MetFree l (⟨zs1, "toOptional", zs13⟩ : MethodName) (head1 (Jvm.Cond.code (⟨zs1, "toOptional", zs13⟩ : MethodName) prog_1_method_24_code 1 (some (.object zs2)) :: ws) ({ frames := 3, cells := 1, slots := 1, locals := 38 } : Room)) (fun a U => a = #[(.ref a454)] ∧ Z.Warmed39 U.vm ∧ U.heap = h0) (fun _ _ _ _ _ => True) (fun _ U o U' => ∃ v L, o = .returned v ∧ Q21 Z a454 b103 h0 n0 v U'.heap L ∧ ReturnedEndW U o U' L ({ frames := 3, cells := 1, slots := 1, locals := 38 } : Room).cells ({ frames := 3, cells := 1, slots := 1, locals := 38 } : Room).slots) := by
  refine MetFree.of_bodySF (plainFor_of_name pn_3) hisR ?_
  intro p e s m args below meth c s₁ Bd hml0 hP hK
  obtain ⟨rfl, hZ, hh⟩ := hP
  have hx := Bd.exec
  have hby := Bd.bytes
  have hml : c.maxLocals = 1 := hml0
  have hown : s.vm.findClass zs1 = some m.cls := findClass_of_methodNamed Bd.named
  have hnm := (name_of_methodNamed Bd.named Bd.method).1
  have X0 : Stand p l e ({ frames := 3, cells := 1, slots := 1, locals := 38 } : Room) (s.setVm s.vm) m #[(.ref a454)] below meth c s₁ [] 0 0 := Stand.of_body Bd
  have hS : s.Since s.vm 0 := (State.WarmedH.refl s).since 0
  obtain ⟨k0, hk0, hS⟩ : ∃ k0, k0 ≤ h0.size ∧ s.Since s.vm k0 := ⟨0, Nat.zero_le _, hS⟩
  have hZ : Z.Warmed39 (s.setVm s.vm).vm := hZ
  have hown : (s.setVm s.vm).vm.findClass zs1 = some m.cls := hown
  have e0 : s₁.heap = h0 := by rw [← hh, Bd.state]; rfl
  have N0 := Fr.nil n0
  refine own_out ?_
  refine own_via (fun t k => castTop (ef_8 m a454) (XS.aloadN X0.here hx rfl (hb hby d2_0) rfl rfl k)) ?_
  obtain ⟨T462, X462, e462, st462⟩ := getF X0 hx hZ hown (host := "") (Or.inl (wd hw 11 rfl)) Via.refl e0 pF_a454_value (g := (mkF m 1 #[rv a454] [(.ref a454)])) rfl rfl (hb hby d2_1)
  refine own_via (fun t k => st462 t k) ?_
  obtain ⟨_, T463, _, X463, hQ463, hS, hZ, hown, st463⟩ := own_csS X462 hx hZ hS hk0 hown (wd hw 13 rfl) (wd hw 14 rfl) (wd hw 16 rfl) (wd hw 15 rfl) (by decide) (rm20 l Z a0 hw [] b103 h0 n0 O0 ) e462 (g := (mkF m 4 #[rv a454] [(.ref b103)])) rfl (by rw [hml]; rfl) (rest := []) (W := 0) (lenOf pd_6 rfl) rfl (by show 2 * 0 + _ ≤ _; exact Nat.le_of_eq rfl) (hb hby d2_4) (by decide) (by decide) (by decide) (by decide)
  obtain ⟨h463, e463⟩ : ∃ z, T463.heap = z := ⟨_, rfl⟩
  rw [e463] at hQ463
  obtain ⟨b496, rfl, Nq463, K463, bx497, ex498, fx499⟩ := hQ463
  have N463 := Fr.app N0 Nq463
  have g500 : n0 ≤ b496 := Nat.le_trans (own_old O0) bx497
  have B501 : h0.size ≤ b496 := Nat.le_trans (Nat.le_refl _) bx497
  have hk502 : T463.heap.size ≤ h463.size := Nat.le_of_eq (congrArg Array.size e463)
  refine own_via (fun t k => st463 t k) ?_
  obtain ⟨fs, hr, hrun, hended, hRW⟩ := X463.leaveW hS (by rw [e463]; first | exact hk502 | exact Nat.le_refl _) (v := some (.ref b496)) (fun h => by rw [Bd.returns] at h; cases h)
  refine own_end (t := T463.setFrames fs) ?_ ⟨_, hrun, hended, _, _, rfl, ?_, own_rmono hRW (by decide) (by decide)⟩
  · jvm_step X463.here [X463.here.top, hx, (hb hby d2_7), X463.method', Bd.returns, Value.isRef, FieldType.isReference]
    first | (intro acts; rw [hr _ acts rfl rfl rfl]) | rw [hr _ _ rfl rfl rfl]
    exact Steps.refl _
  · show Q21 Z a454 b103 h0 n0 _ T463.heap _
    rw [e463]
    exact ⟨b496, rfl, N463, ((Keep.refl h0 []).trans K463 all0), B501, ex498, fx499⟩
def Q22 (Z : State) (a530 : Addr) (b103 : Addr) (h0 : Heap) (n0 : Nat) (v : Option Value) (h : Heap) (L : List Loc) : Prop := v = some (.int (1 : Int32)) ∧ Fr n0 L ∧ h = h0
set_option maxRecDepth 65536 in
set_option maxHeartbeats 40000000 in
theorem rm22 (l : Launch) (Z : State) (a0 : Array Value) (hw : ∀ d ∈ tables_1, d.before a0 Z = true) (ws : List Jvm.Cond) (a530 : Addr) (b103 : Addr) (h0 : Heap) (n0 : Nat) (O0 : Old Z n0 h0) (pF_a530_value : Fld Z h0 a530 zs2 "value" zs3 (.ref b103)) :
    MetFree l (⟨zs2, "isPresent", "()Z"⟩ : MethodName) (head1 (Jvm.Cond.code (⟨zs2, "isPresent", "()Z"⟩ : MethodName) jdk_32_method_6_code 1 (some .boolean) :: ws) ({ frames := 0, cells := 0, slots := 0, locals := 0 } : Room)) (fun a U => a = #[(.ref a530)] ∧ Z.Warmed39 U.vm ∧ U.heap = h0) (fun _ _ _ _ _ => True) (fun _ U o U' => ∃ v L, o = .returned v ∧ Q22 Z a530 b103 h0 n0 v U'.heap L ∧ ReturnedEndW U o U' L ({ frames := 0, cells := 0, slots := 0, locals := 0 } : Room).cells ({ frames := 0, cells := 0, slots := 0, locals := 0 } : Room).slots) := by
  refine MetFree.of_bodySF (plainFor_of_name pn_4) hisR ?_
  intro p e s m args below meth c s₁ Bd hml0 hP hK
  obtain ⟨rfl, hZ, hh⟩ := hP
  have hx := Bd.exec
  have hby := Bd.bytes
  have hml : c.maxLocals = 1 := hml0
  have hown : s.vm.findClass zs2 = some m.cls := findClass_of_methodNamed Bd.named
  have hnm := (name_of_methodNamed Bd.named Bd.method).1
  have X0 : Stand p l e ({ frames := 0, cells := 0, slots := 0, locals := 0 } : Room) (s.setVm s.vm) m #[(.ref a530)] below meth c s₁ [] 0 0 := Stand.of_body Bd
  have hS : s.Since s.vm 0 := (State.WarmedH.refl s).since 0
  obtain ⟨k0, hk0, hS⟩ : ∃ k0, k0 ≤ h0.size ∧ s.Since s.vm k0 := ⟨0, Nat.zero_le _, hS⟩
  have hZ : Z.Warmed39 (s.setVm s.vm).vm := hZ
  have hown : (s.setVm s.vm).vm.findClass zs2 = some m.cls := hown
  have e0 : s₁.heap = h0 := by rw [← hh, Bd.state]; rfl
  have N0 := Fr.nil n0
  refine own_out ?_
  refine own_via (fun t k => castTop (ef_10 m a530) (XS.aloadN X0.here hx rfl (hb hby d6_0) rfl rfl k)) ?_
  obtain ⟨T539, X539, e539, st539⟩ := getF X0 hx hZ hown (host := "") (Or.inl (wd hw 38 rfl)) Via.refl e0 pF_a530_value (g := (mkF m 1 #[rv a530] [(.ref a530)])) rfl rfl (hb hby d6_1)
  refine own_via (fun t k => st539 t (XS.ifnullNo X539.here hx rfl (hb hby d6_4) rfl (XS.iconst X539.here hx rfl (hb hby d6_7) (XS.goto X539.here hx rfl (pc0 := 8) (pc' := 12) rfl (hb hby d6_8) (by decide) (by decide) k)))) ?_
  show own_Goes p e below (T539.setTop (mkF m 12 #[rv a530] [(.int (1 : Int32))])) _
  obtain ⟨fs, hr, hrun, hended, hRW⟩ := X539.leaveW hS (by rw [e539]; first | exact hk0 | exact Nat.le_refl _) (v := some (.int (1 : Int32))) (fun h => by rw [Bd.returns] at h; cases h)
  refine own_end (t := T539.setFrames fs) ?_ ⟨_, hrun, hended, _, _, rfl, ?_, own_rmono hRW (by decide) (by decide)⟩
  · exact retN X539 hx (t := .boolean) Bd.returns (by simp) (hb hby d6_12) hr
  · show Q22 Z a530 b103 h0 n0 _ T539.heap _
    rw [e539]
    exact ⟨rfl, N0, rfl⟩
def Q23 (Z : State) (a545 : Addr) (b103 : Addr) (h0 : Heap) (n0 : Nat) (v : Option Value) (h : Heap) (L : List Loc) : Prop := v = some (.ref b103) ∧ Fr n0 L ∧ h = h0
set_option maxRecDepth 65536 in
set_option maxHeartbeats 40000000 in
theorem rm23 (l : Launch) (Z : State) (a0 : Array Value) (hw : ∀ d ∈ tables_1, d.before a0 Z = true) (ws : List Jvm.Cond) (a545 : Addr) (b103 : Addr) (h0 : Heap) (n0 : Nat) (O0 : Old Z n0 h0) (pF_a545_value : Fld Z h0 a545 zs2 "value" zs3 (.ref b103)) :
    MetFree l (⟨zs2, "get", zs10⟩ : MethodName) (head1 (Jvm.Cond.code (⟨zs2, "get", zs10⟩ : MethodName) jdk_32_method_5_code 1 (some (.object zs5)) :: ws) ({ frames := 0, cells := 0, slots := 0, locals := 0 } : Room)) (fun a U => a = #[(.ref a545)] ∧ Z.Warmed39 U.vm ∧ U.heap = h0) (fun _ _ _ _ _ => True) (fun _ U o U' => ∃ v L, o = .returned v ∧ Q23 Z a545 b103 h0 n0 v U'.heap L ∧ ReturnedEndW U o U' L ({ frames := 0, cells := 0, slots := 0, locals := 0 } : Room).cells ({ frames := 0, cells := 0, slots := 0, locals := 0 } : Room).slots) := by
  refine MetFree.of_bodySF (plainFor_of_name pn_4) hisR ?_
  intro p e s m args below meth c s₁ Bd hml0 hP hK
  obtain ⟨rfl, hZ, hh⟩ := hP
  have hx := Bd.exec
  have hby := Bd.bytes
  have hml : c.maxLocals = 1 := hml0
  have hown : s.vm.findClass zs2 = some m.cls := findClass_of_methodNamed Bd.named
  have hnm := (name_of_methodNamed Bd.named Bd.method).1
  have X0 : Stand p l e ({ frames := 0, cells := 0, slots := 0, locals := 0 } : Room) (s.setVm s.vm) m #[(.ref a545)] below meth c s₁ [] 0 0 := Stand.of_body Bd
  have hS : s.Since s.vm 0 := (State.WarmedH.refl s).since 0
  obtain ⟨k0, hk0, hS⟩ : ∃ k0, k0 ≤ h0.size ∧ s.Since s.vm k0 := ⟨0, Nat.zero_le _, hS⟩
  have hZ : Z.Warmed39 (s.setVm s.vm).vm := hZ
  have hown : (s.setVm s.vm).vm.findClass zs2 = some m.cls := hown
  have e0 : s₁.heap = h0 := by rw [← hh, Bd.state]; rfl
  have N0 := Fr.nil n0
  refine own_out ?_
  refine own_via (fun t k => castTop (ef_11 m a545) (XS.aloadN X0.here hx rfl (hb hby d15_0) rfl rfl k)) ?_
  obtain ⟨T554, X554, e554, st554⟩ := getF X0 hx hZ hown (host := "") (Or.inl (wd hw 38 rfl)) Via.refl e0 pF_a545_value (g := (mkF m 1 #[rv a545] [(.ref a545)])) rfl rfl (hb hby d15_1)
  refine own_via (fun t k => st554 t (XS.ifnonnullYes X554.here hx rfl (pc0 := 4) (pc' := 17) rfl (hb hby d15_4) rfl (by decide) (by decide) (XS.aloadN X554.here hx rfl (hb hby d15_17) rfl rfl k))) ?_
  show own_Goes p e below (T554.setTop (mkF m 18 #[rv a545] [(.ref a545)])) _
  obtain ⟨T555, X555, e555, st555⟩ := getF X554 hx hZ hown (host := "") (Or.inl (wd hw 38 rfl)) Via.refl e554 pF_a545_value (g := (mkF m 18 #[rv a545] [(.ref a545)])) rfl rfl (hb hby d15_18)
  refine own_via (fun t k => st555 t k) ?_
  obtain ⟨fs, hr, hrun, hended, hRW⟩ := X555.leaveW hS (by rw [e555]; first | exact hk0 | exact Nat.le_refl _) (v := some (.ref b103)) (fun h => by rw [Bd.returns] at h; cases h)
  refine own_end (t := T555.setFrames fs) ?_ ⟨_, hrun, hended, _, _, rfl, ?_, own_rmono hRW (by decide) (by decide)⟩
  · jvm_step X555.here [X555.here.top, hx, (hb hby d15_21), X555.method', Bd.returns, Value.isRef, FieldType.isReference]
    first | (intro acts; rw [hr _ acts rfl rfl rfl]) | rw [hr _ _ rfl rfl rfl]
    exact Steps.refl _
  · show Q23 Z a545 b103 h0 n0 _ T555.heap _
    rw [e555]
    exact ⟨rfl, N0, rfl⟩
def Q24 (Z : State) (a514 : Addr) (b103 : Addr) (h0 : Heap) (n0 : Nat) (v : Option Value) (h : Heap) (L : List Loc) : Prop := (∃ (b559 : Addr), v = some (.ref b559) ∧ Fr n0 L ∧ Keep h0 h [] ∧ h0.size ≤ b559 ∧ Exa Z h b559 zs1 ∧ Fld Z h b559 zs1 "value" zs3 (.ref b103))
set_option maxRecDepth 65536 in
set_option maxHeartbeats 40000000 in
theorem rm24 (l : Launch) (Z : State) (a0 : Array Value) (hw : ∀ d ∈ tables_1, d.before a0 Z = true) (ws : List Jvm.Cond) (a514 : Addr) (b103 : Addr) (h0 : Heap) (n0 : Nat) (O0 : Old Z n0 h0) (pF_a514_value : Fld Z h0 a514 zs2 "value" zs3 (.ref b103)) (pE_a514 : Exa Z h0 a514 zs2) :
    MetFree l (⟨zs1, zs16, zs7⟩ : MethodName) (head1 (Jvm.Cond.code (⟨zs1, zs16, zs7⟩ : MethodName) prog_1_method_5_code 1 (some (.object zs1)) :: ws) ({ frames := 3, cells := 3, slots := 37, locals := 38 } : Room)) (fun a U => a = #[(.ref a514)] ∧ Z.Warmed39 U.vm ∧ U.heap = h0) (fun _ _ _ _ _ => True) (fun _ U o U' => ∃ v L, o = .returned v ∧ Q24 Z a514 b103 h0 n0 v U'.heap L ∧ ReturnedEndW U o U' L ({ frames := 3, cells := 3, slots := 37, locals := 38 } : Room).cells ({ frames := 3, cells := 3, slots := 37, locals := 38 } : Room).slots) := by
  refine MetFree.of_bodySF (plainFor_of_name pn_3) hisR ?_
  intro p e s m args below meth c s₁ Bd hml0 hP hK
  obtain ⟨rfl, hZ, hh⟩ := hP
  have hx := Bd.exec
  have hby := Bd.bytes
  have hml : c.maxLocals = 1 := hml0
  have hown : s.vm.findClass zs1 = some m.cls := findClass_of_methodNamed Bd.named
  have hnm := (name_of_methodNamed Bd.named Bd.method).1
  have X0 : Stand p l e ({ frames := 3, cells := 3, slots := 37, locals := 38 } : Room) (s.setVm s.vm) m #[(.ref a514)] below meth c s₁ [] 0 0 := Stand.of_body Bd
  have hS : s.Since s.vm 0 := (State.WarmedH.refl s).since 0
  obtain ⟨k0, hk0, hS⟩ : ∃ k0, k0 ≤ h0.size ∧ s.Since s.vm k0 := ⟨0, Nat.zero_le _, hS⟩
  have hZ : Z.Warmed39 (s.setVm s.vm).vm := hZ
  have hown : (s.setVm s.vm).vm.findClass zs1 = some m.cls := hown
  have e0 : s₁.heap = h0 := by rw [← hh, Bd.state]; rfl
  have N0 := Fr.nil n0
  refine own_out ?_
  refine own_via (fun t k => castTop (ef_12 m a514) (XS.aloadN X0.here hx rfl (hb hby d4_0) rfl rfl k)) ?_
  obtain ⟨b524, T523, h523, k523, X523, e523, E523, hS, hk523, hZ, hown, st523⟩ := ldcS X0 hx hZ hown (wd hw 21 rfl) (own_strAtoms hw) e0 hS hk0 (g := (mkF m 1 #[rv a514] [(.ref a514)])) rfl (hb hby d4_1) (n := 32) (by decide) (by decide) (by decide) (by decide)
  refine own_via (fun t k => st523 t k) ?_
  have O526 : Old Z n0 h523 := (O0.ext E523)
  obtain ⟨_, T525, _, X525, hQ525, hS, hZ, hown, st525⟩ := own_csS X523 hx hZ hS hk523 hown (wd hw 29 rfl) (wd hw 30 rfl) (wd hw 32 rfl) (wd hw 31 rfl) (by decide) (rm9 l Z a0 hw [] a514 b524 h523 n0 O526 ) e523 (g := (mkF m 3 #[rv a514] [(.ref b524), (.ref a514)])) rfl (by rw [hml]; rfl) (rest := []) (W := 0) (lenOf pd_8 rfl) rfl (by show 2 * 0 + _ ≤ _; exact Nat.le_of_eq rfl) (hb hby d4_3) (by decide) (by decide) (by decide) (by decide)
  obtain ⟨rfl, Nq525, hh527⟩ := hQ525
  have N525 := Fr.app N0 Nq525
  have hk528 : T525.heap.size ≤ h523.size := Nat.le_of_eq (congrArg Array.size hh527)
  refine own_via (fun t k => st525 t (XS.pop X525.here hx rfl (hb hby d4_6) rfl rfl (XS.aloadN X525.here hx rfl (hb hby d4_7) rfl rfl k))) ?_
  show own_Goes p e below (T525.setTop (mkF m 8 #[rv a514] [(.ref a514)])) _
  have F540 : Fld Z h523 a514 zs2 "value" zs3 (.ref b103) := (pF_a514_value.ext E523)
  have E541 : Exa Z h523 a514 zs2 := (pE_a514.ext E523)
  obtain ⟨_, T529, _, X529, hQ529, hS, hZ, hown, st529⟩ := own_cvS X525 hx hZ hS hk528 hown (wd hw 33 rfl) (wd hw 34 rfl) (wd hw 36 rfl) (wd hw 35 rfl) (wd hw 37 rfl) (wd hw 15 rfl) (by decide) (rm22 l Z a0 hw [] a514 b103 h523 n0 O526 F540) hh527 E541 (g := (mkF m 8 #[rv a514] [(.ref a514)])) rfl (by rw [hml]; rfl) (rest := []) (W := 0) (lenOf pd_9 rfl) rfl (by show 2 * 0 + _ ≤ _; exact Nat.le_of_eq rfl) (hb hby d4_8) (by decide) (by decide) (by decide) (by decide)
  obtain ⟨rfl, Nq529, hh542⟩ := hQ529
  have N529 := Fr.app N525 Nq529
  have hk543 : T529.heap.size ≤ h523.size := Nat.le_of_eq (congrArg Array.size hh542)
  refine own_via (fun t k => st529 t (XS.ifNo X529.here hx rfl (hb hby d4_11) rfl ((if0 _ _).trans (feq (by decide : ¬ ((1 : Int32) = (0 : Int32)))).1) (XS.aloadN X529.here hx rfl (hb hby d4_14) rfl rfl k))) ?_
  show own_Goes p e below (T529.setTop (mkF m 15 #[rv a514] [(.ref a514)])) _
  obtain ⟨_, T544, _, X544, hQ544, hS, hZ, hown, st544⟩ := own_cvS X529 hx hZ hS hk543 hown (wd hw 80 rfl) (wd hw 81 rfl) (wd hw 83 rfl) (wd hw 82 rfl) (wd hw 84 rfl) (wd hw 15 rfl) (by decide) (rm23 l Z a0 hw [] a514 b103 h523 n0 O526 F540) hh542 E541 (g := (mkF m 15 #[rv a514] [(.ref a514)])) rfl (by rw [hml]; rfl) (rest := []) (W := 0) (lenOf pd_10 rfl) rfl (by show 2 * 0 + _ ≤ _; exact Nat.le_of_eq rfl) (hb hby d4_15) (by decide) (by decide) (by decide) (by decide)
  obtain ⟨rfl, Nq544, hh556⟩ := hQ544
  have N544 := Fr.app N529 Nq544
  have hk557 : T544.heap.size ≤ h523.size := Nat.le_of_eq (congrArg Array.size hh556)
  refine own_via (fun t k => st544 t k) ?_
  obtain ⟨_, T558, _, X558, hQ558, hS, hZ, hown, st558⟩ := own_csS X544 hx hZ hS hk557 hown (wd hw 85 rfl) (wd hw 63 rfl) (wd hw 64 rfl) (wd hw 2 rfl) (by decide) (rm18 l Z a0 hw [] b103 h523 n0 O526 ) hh556 (g := (mkF m 18 #[rv a514] [(.ref b103)])) rfl (by rw [hml]; rfl) (rest := []) (W := 0) (lenOf pd_5 rfl) rfl (by show 2 * 0 + _ ≤ _; exact Nat.le_of_eq rfl) (hb hby d4_18) (by decide) (by decide) (by decide) (by decide)
  obtain ⟨h558, e558⟩ : ∃ z, T558.heap = z := ⟨_, rfl⟩
  rw [e558] at hQ558
  obtain ⟨b559, rfl, Nq558, K558, bx560, ex561, fx562⟩ := hQ558
  have N558 := Fr.app N544 Nq558
  have g563 : n0 ≤ b559 := Nat.le_trans (own_old O526) bx560
  have Z565 : h0.size ≤ h523.size := (Nat.le_trans (Nat.le_refl _) E523.1)
  have B564 : h0.size ≤ b559 := Nat.le_trans Z565 bx560
  have hk566 : T558.heap.size ≤ h558.size := Nat.le_of_eq (congrArg Array.size e558)
  refine own_via (fun t k => st558 t (XS.goto X558.here hx rfl (pc0 := 21) (pc' := 27) rfl (hb hby d4_21) (by decide) (by decide) k)) ?_
  obtain ⟨fs, hr, hrun, hended, hRW⟩ := X558.leaveW hS (by rw [e558]; first | exact hk566 | exact Nat.le_refl _) (v := some (.ref b559)) (fun h => by rw [Bd.returns] at h; cases h)
  refine own_end (t := T558.setFrames fs) ?_ ⟨_, hrun, hended, _, _, rfl, ?_, own_rmono hRW (by decide) (by decide)⟩
  · jvm_step X558.here [X558.here.top, hx, (hb hby d4_27), X558.method', Bd.returns, Value.isRef, FieldType.isReference]
    first | (intro acts; rw [hr _ acts rfl rfl rfl]) | rw [hr _ _ rfl rfl rfl]
    exact Steps.refl _
  · show Q24 Z a514 b103 h0 n0 _ T558.heap _
    rw [e558]
    exact ⟨b559, rfl, N558, (((Keep.refl h0 []).ext E523).trans K558 all0), B564, ex561, fx562⟩
def Q25 (Z : State) (a587 : Addr) (w24 : Addr) (b103 : Addr) (h0 : Heap) (n0 : Nat) (v : Option Value) (h : Heap) (L : List Loc) : Prop := v = some (.ref b103) ∧ Fr n0 L ∧ h = h0
set_option maxRecDepth 65536 in
set_option maxHeartbeats 40000000 in
theorem rm25 (l : Launch) (Z : State) (a0 : Array Value) (hw : ∀ d ∈ tables_1, d.before a0 Z = true) (ws : List Jvm.Cond) (a587 : Addr) (w24 : Addr) (b103 : Addr) (h0 : Heap) (n0 : Nat) (O0 : Old Z n0 h0) (S_Tertium_ABSENT : Sta Z Z.heap zs1 "ABSENT" zs12 (.ref w24)) (SE_w24 : Exa Z Z.heap w24 zs1) (pG_a587 : n0 ≤ a587) (pE_a587 : Exa Z h0 a587 zs1) (pF_a587_value : Fld Z h0 a587 zs1 "value" zs3 (.ref b103)) :
    MetFree l (⟨zs1, "get", zs10⟩ : MethodName) (head1 (Jvm.Cond.code (⟨zs1, "get", zs10⟩ : MethodName) prog_1_method_14_code 1 (some (.object zs5)) :: ws) ({ frames := 1, cells := 0, slots := 0, locals := 12 } : Room)) (fun a U => a = #[(.ref a587)] ∧ Z.Warmed39 U.vm ∧ U.heap = h0) (fun _ _ _ _ _ => True) (fun _ U o U' => ∃ v L, o = .returned v ∧ Q25 Z a587 w24 b103 h0 n0 v U'.heap L ∧ ReturnedEndW U o U' L ({ frames := 1, cells := 0, slots := 0, locals := 12 } : Room).cells ({ frames := 1, cells := 0, slots := 0, locals := 12 } : Room).slots) := by
  refine MetFree.of_bodySF (plainFor_of_name pn_3) hisR ?_
  intro p e s m args below meth c s₁ Bd hml0 hP hK
  obtain ⟨rfl, hZ, hh⟩ := hP
  have hx := Bd.exec
  have hby := Bd.bytes
  have hml : c.maxLocals = 1 := hml0
  have hown : s.vm.findClass zs1 = some m.cls := findClass_of_methodNamed Bd.named
  have hnm := (name_of_methodNamed Bd.named Bd.method).1
  have X0 : Stand p l e ({ frames := 1, cells := 0, slots := 0, locals := 12 } : Room) (s.setVm s.vm) m #[(.ref a587)] below meth c s₁ [] 0 0 := Stand.of_body Bd
  have hS : s.Since s.vm 0 := (State.WarmedH.refl s).since 0
  obtain ⟨k0, hk0, hS⟩ : ∃ k0, k0 ≤ h0.size ∧ s.Since s.vm k0 := ⟨0, Nat.zero_le _, hS⟩
  have hZ : Z.Warmed39 (s.setVm s.vm).vm := hZ
  have hown : (s.setVm s.vm).vm.findClass zs1 = some m.cls := hown
  have e0 : s₁.heap = h0 := by rw [← hh, Bd.state]; rfl
  have N0 := Fr.nil n0
  refine own_out ?_
  refine own_via (fun t k => castTop (ef_15 m a587) (XS.aloadN X0.here hx rfl (hb hby d16_0) rfl rfl k)) ?_
  obtain ⟨_, T597, _, X597, hQ597, hS, hZ, hown, st597⟩ := own_cvS X0 hx hZ hS hk0 hown (wd hw 91 rfl) (wd hw 46 rfl) (wd hw 48 rfl) (wd hw 47 rfl) (wd hw 49 rfl) (wd hw 2 rfl) (by decide) (rm13 l Z a0 hw [] a587 w24 h0 n0 O0 S_Tertium_ABSENT SE_w24 pG_a587) e0 pE_a587 (g := (mkF m 1 #[rv a587] [(.ref a587)])) rfl (by rw [hml]; rfl) (rest := []) (W := 0) (lenOf pd_9 rfl) rfl (by show 2 * 0 + _ ≤ _; exact Nat.le_of_eq rfl) (hb hby d16_1) (by decide) (by decide) (by decide) (by decide)
  obtain ⟨rfl, Nq597, hh598⟩ := hQ597
  have N597 := Fr.app N0 Nq597
  have hk599 : T597.heap.size ≤ h0.size := Nat.le_of_eq (congrArg Array.size hh598)
  refine own_via (fun t k => st597 t (XS.ifYes X597.here hx rfl (pc0 := 4) (pc' := 17) rfl (hb hby d16_4) rfl ((if0 _ _).trans (teq (by decide : (0 : Int32) = (0 : Int32))).1) (by decide) (by decide) (XS.aloadN X597.here hx rfl (hb hby d16_17) rfl rfl k))) ?_
  show own_Goes p e below (T597.setTop (mkF m 18 #[rv a587] [(.ref a587)])) _
  obtain ⟨T600, X600, e600, st600⟩ := getF X597 hx hZ hown (host := "") (Or.inl (wd hw 11 rfl)) Via.refl hh598 pF_a587_value (g := (mkF m 18 #[rv a587] [(.ref a587)])) rfl rfl (hb hby d16_18)
  refine own_via (fun t k => st600 t k) ?_
  obtain ⟨fs, hr, hrun, hended, hRW⟩ := X600.leaveW hS (by rw [e600]; first | exact hk599 | exact Nat.le_refl _) (v := some (.ref b103)) (fun h => by rw [Bd.returns] at h; cases h)
  refine own_end (t := T600.setFrames fs) ?_ ⟨_, hrun, hended, _, _, rfl, ?_, own_rmono hRW (by decide) (by decide)⟩
  · jvm_step X600.here [X600.here.top, hx, (hb hby d16_21), X600.method', Bd.returns, Value.isRef, FieldType.isReference]
    first | (intro acts; rw [hr _ acts rfl rfl rfl]) | rw [hr _ _ rfl rfl rfl]
    exact Steps.refl _
  · show Q25 Z a587 w24 b103 h0 n0 _ T600.heap _
    rw [e600]
    exact ⟨rfl, N597, rfl⟩
def Q26 (Z : State) (b103 : Addr) (i0 : Int32) (h0 : Heap) (n0 : Nat) (v : Option Value) (h : Heap) (L : List Loc) : Prop := v = some (.int i0) ∧ Fr n0 L ∧ h = h0
set_option maxRecDepth 65536 in
set_option maxHeartbeats 40000000 in
theorem rm26 (l : Launch) (Z : State) (a0 : Array Value) (hw : ∀ d ∈ tables_1, d.before a0 Z = true) (ws : List Jvm.Cond) (b103 : Addr) (i0 : Int32) (h0 : Heap) (n0 : Nat) (O0 : Old Z n0 h0) (pSF_b103 : Fld Z Z.heap b103 zs4 "value" "I" (.int i0)) :
    MetFree l (⟨zs4, "intValue", "()I"⟩ : MethodName) (head1 (Jvm.Cond.code (⟨zs4, "intValue", "()I"⟩ : MethodName) jdk_33_method_27_code 1 (some .int) :: ws) ({ frames := 0, cells := 0, slots := 0, locals := 0 } : Room)) (fun a U => a = #[(.ref b103)] ∧ Z.Warmed39 U.vm ∧ U.heap = h0) (fun _ _ _ _ _ => True) (fun _ U o U' => ∃ v L, o = .returned v ∧ Q26 Z b103 i0 h0 n0 v U'.heap L ∧ ReturnedEndW U o U' L ({ frames := 0, cells := 0, slots := 0, locals := 0 } : Room).cells ({ frames := 0, cells := 0, slots := 0, locals := 0 } : Room).slots) := by
  refine MetFree.of_bodySF (plainFor_of_name pn_2) hisR ?_
  intro p e s m args below meth c s₁ Bd hml0 hP hK
  obtain ⟨rfl, hZ, hh⟩ := hP
  have hx := Bd.exec
  have hby := Bd.bytes
  have hml : c.maxLocals = 1 := hml0
  have hown : s.vm.findClass zs4 = some m.cls := findClass_of_methodNamed Bd.named
  have hnm := (name_of_methodNamed Bd.named Bd.method).1
  have X0 : Stand p l e ({ frames := 0, cells := 0, slots := 0, locals := 0 } : Room) (s.setVm s.vm) m #[(.ref b103)] below meth c s₁ [] 0 0 := Stand.of_body Bd
  have hS : s.Since s.vm 0 := (State.WarmedH.refl s).since 0
  obtain ⟨k0, hk0, hS⟩ : ∃ k0, k0 ≤ h0.size ∧ s.Since s.vm k0 := ⟨0, Nat.zero_le _, hS⟩
  have hZ : Z.Warmed39 (s.setVm s.vm).vm := hZ
  have hown : (s.setVm s.vm).vm.findClass zs4 = some m.cls := hown
  have e0 : s₁.heap = h0 := by rw [← hh, Bd.state]; rfl
  have N0 := Fr.nil n0
  refine own_out ?_
  refine own_via (fun t k => castTop (ef_16 m b103) (XS.aloadN X0.here hx rfl (hb hby d17_0) rfl rfl k)) ?_
  obtain ⟨T615, X615, e615, st615⟩ := getF X0 hx hZ hown (host := "") (Or.inl (wd hw 99 rfl)) Via.refl e0 (pSF_b103.ext O0.2) (g := (mkF m 1 #[rv b103] [(.ref b103)])) rfl rfl (hb hby d17_1)
  refine own_via (fun t k => st615 t k) ?_
  obtain ⟨fs, hr, hrun, hended, hRW⟩ := X615.leaveW hS (by rw [e615]; first | exact hk0 | exact Nat.le_refl _) (v := some (.int i0)) (fun h => by rw [Bd.returns] at h; cases h)
  refine own_end (t := T615.setFrames fs) ?_ ⟨_, hrun, hended, _, _, rfl, ?_, own_rmono hRW (by decide) (by decide)⟩
  · exact retI X615 hx Bd.returns (hb hby d17_4) hr
  · show Q26 Z b103 i0 h0 n0 _ T615.heap _
    rw [e615]
    exact ⟨rfl, N0, rfl⟩
def Q27 (Z : State) (a768 : Addr) (b631 : Addr) (h0 : Heap) (n0 : Nat) (v : Option Value) (h : Heap) (L : List Loc) : Prop := v = none ∧ Fr n0 L ∧ Keep h0 h [a768] ∧ Exa Z h a768 zs1 ∧ Fld Z h a768 zs1 "value" zs3 (.ref b631)
set_option maxRecDepth 65536 in
set_option maxHeartbeats 40000000 in
theorem rm27 (l : Launch) (Z : State) (a0 : Array Value) (hw : ∀ d ∈ tables_1, d.before a0 Z = true) (ws : List Jvm.Cond) (a768 : Addr) (b631 : Addr) (h0 : Heap) (n0 : Nat) (O0 : Old Z n0 h0) (pF_a768_value : Fld Z h0 a768 zs1 "value" zs3 .null) (pE_a768 : Exa Z h0 a768 zs1) (pG_a768 : n0 ≤ a768) :
    MetFree l (⟨zs1, "<init>", zs8⟩ : MethodName) (head1 (Jvm.Cond.code (⟨zs1, "<init>", zs8⟩ : MethodName) prog_1_method_1_code 2 none :: ws) ({ frames := 1, cells := 0, slots := 0, locals := 12 } : Room)) (fun a U => a = #[(.ref a768), (.ref b631)] ∧ Z.Warmed39 U.vm ∧ U.heap = h0) (fun _ _ _ _ _ => True) (fun _ U o U' => ∃ v L, o = .returned v ∧ Q27 Z a768 b631 h0 n0 v U'.heap L ∧ ReturnedEndW U o U' L ({ frames := 1, cells := 0, slots := 0, locals := 12 } : Room).cells ({ frames := 1, cells := 0, slots := 0, locals := 12 } : Room).slots) := by
  refine MetFree.of_bodySF (plainFor_of_name pn_3) hisR ?_
  intro p e s m args below meth c s₁ Bd hml0 hP hK
  obtain ⟨rfl, hZ, hh⟩ := hP
  have hx := Bd.exec
  have hby := Bd.bytes
  have hml : c.maxLocals = 2 := hml0
  have hown : s.vm.findClass zs1 = some m.cls := findClass_of_methodNamed Bd.named
  have hnm := (name_of_methodNamed Bd.named Bd.method).1
  have X0 : Stand p l e ({ frames := 1, cells := 0, slots := 0, locals := 12 } : Room) (s.setVm s.vm) m #[(.ref a768), (.ref b631)] below meth c s₁ [] 0 0 := Stand.of_body Bd
  have hS : s.Since s.vm 0 := (State.WarmedH.refl s).since 0
  obtain ⟨k0, hk0, hS⟩ : ∃ k0, k0 ≤ h0.size ∧ s.Since s.vm k0 := ⟨0, Nat.zero_le _, hS⟩
  have hZ : Z.Warmed39 (s.setVm s.vm).vm := hZ
  have hown : (s.setVm s.vm).vm.findClass zs1 = some m.cls := hown
  have e0 : s₁.heap = h0 := by rw [← hh, Bd.state]; rfl
  have N0 := Fr.nil n0
  refine own_out ?_
  refine own_via (fun t k => castTop (ef_4 m a768 b631) (XS.aloadN X0.here hx rfl (hb hby d12_0) rfl rfl k)) ?_
  obtain ⟨T776, X776, e776, st776⟩ := initO X0 hx hZ hown (wd hw 70 rfl) (wd hw 71 rfl) (wd hw 72 rfl) e0 (g := (mkF m 1 #[rv a768, rv b631] [(.ref a768)])) rfl (by rw [hml]; rfl) rfl (hb hby d12_1) (by decide) (W := 0) (by show 2 * 0 + _ ≤ _; exact Nat.le_of_eq rfl) (by decide)
  refine own_via (fun t k => st776 t (XS.aloadN X776.here hx rfl (hb hby d12_4) rfl rfl (XS.aloadN X776.here hx rfl (hb hby d12_5) rfl rfl k))) ?_
  show own_Goes p e below (T776.setTop (mkF m 6 #[rv a768, rv b631] [(.ref b631), (.ref a768)])) _
  obtain ⟨T777, h777, X777, e777, W777, st777⟩ := putF X776 hx hZ hown (host := "") (Or.inl (wd hw 11 rfl)) Via.refl e776 pF_a768_value pE_a768 (Or.inr ⟨(wd hw 12 rfl), rfl, hnm⟩) (wd hw 66 rfl) (ty := (.object zs5)) (by decide) rfl rfl (g := (mkF m 6 #[rv a768, rv b631] [(.ref b631), (.ref a768)])) rfl rfl (hb hby d12_6)
  refine own_via (fun t k => st777 t k) ?_
  have Fw777 : Fld Z h777 a768 zs1 "value" zs3 (.ref b631) := pF_a768_value.same W777
  have N777 := Fr.snoc X777 N0 pG_a768
  show own_Goes p e below (T777.setTop (mkF m 9 #[rv a768, rv b631] [])) _
  have K778 : k0 ≤ h777.size := (Nat.le_trans hk0 (Nat.le_of_eq W777.size.symm))
  obtain ⟨fs, hr, hrun, hended, hRW⟩ := X777.leaveW hS (by rw [e777]; first | exact K778 | exact Nat.le_refl _) (v := none) (fun _ => rfl)
  refine own_end (t := T777.setFrames fs) ?_ ⟨_, hrun, hended, _, _, rfl, ?_, own_rmono hRW (by decide) (by decide)⟩
  · exact X777.returnOut hx Bd.returns (hb hby d12_9) hr
  have E779 : Exa Z h777 a768 zs1 := (pE_a768.wr W777)
  · show Q27 Z a768 b631 h0 n0 _ T777.heap _
    rw [e777]
    exact ⟨rfl, N777, ((Keep.refl h0 [a768]).wr W777 (Or.inl (List.mem_of_getElem? (i := 0) rfl))), E779, Fw777⟩
def Q28 (Z : State) (b631 : Addr) (h0 : Heap) (n0 : Nat) (v : Option Value) (h : Heap) (L : List Loc) : Prop := (∃ (b763 : Addr), v = some (.ref b763) ∧ Fr n0 L ∧ Keep h0 h [] ∧ h0.size ≤ b763 ∧ Exa Z h b763 zs1 ∧ Fld Z h b763 zs1 "value" zs3 (.ref b631))
set_option maxRecDepth 65536 in
set_option maxHeartbeats 40000000 in
theorem rm28 (l : Launch) (Z : State) (a0 : Array Value) (hw : ∀ d ∈ tables_1, d.before a0 Z = true) (ws : List Jvm.Cond) (b631 : Addr) (h0 : Heap) (n0 : Nat) (O0 : Old Z n0 h0) :
    MetFree l (⟨zs1, "of", zs11⟩ : MethodName) (head1 (Jvm.Cond.code (⟨zs1, "of", zs11⟩ : MethodName) prog_1_method_4_code 1 (some (.object zs1)) :: ws) ({ frames := 2, cells := 1, slots := 1, locals := 26 } : Room)) (fun a U => a = #[(.ref b631)] ∧ Z.Warmed39 U.vm ∧ U.heap = h0) (fun _ _ _ _ _ => True) (fun _ U o U' => ∃ v L, o = .returned v ∧ Q28 Z b631 h0 n0 v U'.heap L ∧ ReturnedEndW U o U' L ({ frames := 2, cells := 1, slots := 1, locals := 26 } : Room).cells ({ frames := 2, cells := 1, slots := 1, locals := 26 } : Room).slots) := by
  refine MetFree.of_bodySF (plainFor_of_name pn_3) hisR ?_
  intro p e s m args below meth c s₁ Bd hml0 hP hK
  obtain ⟨rfl, hZ, hh⟩ := hP
  have hx := Bd.exec
  have hby := Bd.bytes
  have hml : c.maxLocals = 1 := hml0
  have hown : s.vm.findClass zs1 = some m.cls := findClass_of_methodNamed Bd.named
  have hnm := (name_of_methodNamed Bd.named Bd.method).1
  have X0 : Stand p l e ({ frames := 2, cells := 1, slots := 1, locals := 26 } : Room) (s.setVm s.vm) m #[(.ref b631)] below meth c s₁ [] 0 0 := Stand.of_body Bd
  have hS : s.Since s.vm 0 := (State.WarmedH.refl s).since 0
  obtain ⟨k0, hk0, hS⟩ : ∃ k0, k0 ≤ h0.size ∧ s.Since s.vm k0 := ⟨0, Nat.zero_le _, hS⟩
  have hZ : Z.Warmed39 (s.setVm s.vm).vm := hZ
  have hown : (s.setVm s.vm).vm.findClass zs1 = some m.cls := hown
  have e0 : s₁.heap = h0 := by rw [← hh, Bd.state]; rfl
  have N0 := Fr.nil n0
  refine own_out ?_
  refine own_via (fun t k => castTop (ef_5 m b631) (XS.aloadN X0.here hx rfl (hb hby d11_0) rfl rfl (XS.ifnonnullYes X0.here hx rfl (pc0 := 1) (pc' := 8) rfl (hb hby d11_1) rfl (by decide) (by decide) k))) ?_
  show own_Goes p e below (s₁.setTop (mkF m 8 #[rv b631] [])) _
  obtain ⟨T762, h762, X762, e762, E762, A762, D762, -, st762⟩ := newO X0 hx hZ hown (wd hw 65 rfl) (wd hw 66 rfl) (wd hw 2 rfl) e0 (g := (mkF m 8 #[rv b631] [])) rfl (hb hby d11_8) (by decide) (by decide)
  obtain ⟨b763, q762⟩ : ∃ z, z = h0.size := ⟨_, rfl⟩
  rw [← q762] at A762 D762 st762
  refine own_via (fun t k => st762 t k) ?_
  have g764 : n0 ≤ b763 := Nat.le_trans (own_old O0) (Nat.le_of_eq q762.symm)
  have B765 : h0.size ≤ b763 := Nat.le_trans (Nat.le_refl _) (Nat.le_of_eq q762.symm)
  have F766 : Fld Z h762 b763 zs1 "value" zs3 .null := D762 (Or.inr (wd hw 12 rfl)) (ty := (.object zs5)) (by decide)
  show own_Goes p e below (T762.setTop (mkF m 11 #[rv b631] [(.ref b763)])) _
  refine own_via (fun t k => XS.dup X762.here hx rfl (hb hby d11_11) rfl rfl (XS.aloadN X762.here hx rfl (hb hby d11_12) rfl rfl k)) ?_
  have O780 : Old Z n0 h762 := (O0.ext E762)
  have K781 : k0 ≤ h762.size := (Nat.le_trans hk0 E762.1)
  obtain ⟨_, T767, _, X767, hQ767, hS, hZ, hown, st767⟩ := own_ciS X762 hx hZ hS K781 hown (wd hw 67 rfl) (wd hw 68 rfl) (wd hw 69 rfl) (wd hw 2 rfl) rfl (by decide) (rm27 l Z a0 hw [] b763 b631 h762 n0 O780 F766 A762 g764) e762 (g := (mkF m 13 #[rv b631] [(.ref b631), (.ref b763), (.ref b763)])) rfl (by rw [hml]; rfl) (rest := [(.ref b763)]) (W := 1) (lenOf pd_4 rfl) rfl (by show 2 * 0 + _ ≤ _; exact Nat.le_of_eq rfl) (hb hby d11_13) (by decide) (by decide) (by decide) (by decide)
  obtain ⟨h767, e767⟩ : ∃ z, T767.heap = z := ⟨_, rfl⟩
  rw [e767] at hQ767
  obtain ⟨rfl, Nq767, K767, ex782, fx783⟩ := hQ767
  have N767 := Fr.app N0 Nq767
  have hk784 : T767.heap.size ≤ h767.size := Nat.le_of_eq (congrArg Array.size e767)
  refine own_via (fun t k => st767 t k) ?_
  obtain ⟨fs, hr, hrun, hended, hRW⟩ := X767.leaveW hS (by rw [e767]; first | exact hk784 | exact Nat.le_refl _) (v := some (.ref b763)) (fun h => by rw [Bd.returns] at h; cases h)
  refine own_end (t := T767.setFrames fs) ?_ ⟨_, hrun, hended, _, _, rfl, ?_, own_rmono hRW (by decide) (by decide)⟩
  · jvm_step X767.here [X767.here.top, hx, (hb hby d11_16), X767.method', Bd.returns, Value.isRef, FieldType.isReference]
    first | (intro acts; rw [hr _ acts rfl rfl rfl]) | rw [hr _ _ rfl rfl rfl]
    exact Steps.refl _
  · show Q28 Z b631 h0 n0 _ T767.heap _
    rw [e767]
    exact ⟨b763, rfl, N767, (((Keep.refl h0 []).ext E762).trans K767 (allS (Or.inr B765) all0)), B765, ex782, fx783⟩
def Q29 (Z : State) (a817 : Addr) (b631 : Addr) (h0 : Heap) (n0 : Nat) (v : Option Value) (h : Heap) (L : List Loc) : Prop := v = none ∧ Fr n0 L ∧ Keep h0 h [a817] ∧ Exa Z h a817 zs2 ∧ Fld Z h a817 zs2 "value" zs3 (.ref b631)
set_option maxRecDepth 65536 in
set_option maxHeartbeats 40000000 in
theorem rm29 (l : Launch) (Z : State) (a0 : Array Value) (hw : ∀ d ∈ tables_1, d.before a0 Z = true) (ws : List Jvm.Cond) (a817 : Addr) (b631 : Addr) (h0 : Heap) (n0 : Nat) (O0 : Old Z n0 h0) (pF_a817_value : Fld Z h0 a817 zs2 "value" zs3 .null) (pE_a817 : Exa Z h0 a817 zs2) (pG_a817 : n0 ≤ a817) :
    MetFree l (⟨zs2, "<init>", zs8⟩ : MethodName) (head1 (Jvm.Cond.code (⟨zs2, "<init>", zs8⟩ : MethodName) jdk_32_method_2_code 2 none :: ws) ({ frames := 1, cells := 0, slots := 0, locals := 12 } : Room)) (fun a U => a = #[(.ref a817), (.ref b631)] ∧ Z.Warmed39 U.vm ∧ U.heap = h0) (fun _ _ _ _ _ => True) (fun _ U o U' => ∃ v L, o = .returned v ∧ Q29 Z a817 b631 h0 n0 v U'.heap L ∧ ReturnedEndW U o U' L ({ frames := 1, cells := 0, slots := 0, locals := 12 } : Room).cells ({ frames := 1, cells := 0, slots := 0, locals := 12 } : Room).slots) := by
  refine MetFree.of_bodySF (plainFor_of_name pn_4) hisR ?_
  intro p e s m args below meth c s₁ Bd hml0 hP hK
  obtain ⟨rfl, hZ, hh⟩ := hP
  have hx := Bd.exec
  have hby := Bd.bytes
  have hml : c.maxLocals = 2 := hml0
  have hown : s.vm.findClass zs2 = some m.cls := findClass_of_methodNamed Bd.named
  have hnm := (name_of_methodNamed Bd.named Bd.method).1
  have X0 : Stand p l e ({ frames := 1, cells := 0, slots := 0, locals := 12 } : Room) (s.setVm s.vm) m #[(.ref a817), (.ref b631)] below meth c s₁ [] 0 0 := Stand.of_body Bd
  have hS : s.Since s.vm 0 := (State.WarmedH.refl s).since 0
  obtain ⟨k0, hk0, hS⟩ : ∃ k0, k0 ≤ h0.size ∧ s.Since s.vm k0 := ⟨0, Nat.zero_le _, hS⟩
  have hZ : Z.Warmed39 (s.setVm s.vm).vm := hZ
  have hown : (s.setVm s.vm).vm.findClass zs2 = some m.cls := hown
  have e0 : s₁.heap = h0 := by rw [← hh, Bd.state]; rfl
  have N0 := Fr.nil n0
  refine own_out ?_
  refine own_via (fun t k => castTop (ef_6 m a817 b631) (XS.aloadN X0.here hx rfl (hb hby d14_0) rfl rfl k)) ?_
  obtain ⟨T826, X826, e826, st826⟩ := initO X0 hx hZ hown (wd hw 79 rfl) (wd hw 71 rfl) (wd hw 72 rfl) e0 (g := (mkF m 1 #[rv a817, rv b631] [(.ref a817)])) rfl (by rw [hml]; rfl) rfl (hb hby d14_1) (by decide) (W := 0) (by show 2 * 0 + _ ≤ _; exact Nat.le_of_eq rfl) (by decide)
  refine own_via (fun t k => st826 t (XS.aloadN X826.here hx rfl (hb hby d14_4) rfl rfl (XS.aloadN X826.here hx rfl (hb hby d14_5) rfl rfl k))) ?_
  show own_Goes p e below (T826.setTop (mkF m 6 #[rv a817, rv b631] [(.ref b631), (.ref a817)])) _
  obtain ⟨T827, h827, X827, e827, W827, st827⟩ := putF X826 hx hZ hown (host := "") (Or.inl (wd hw 38 rfl)) Via.refl e826 pF_a817_value pE_a817 (Or.inr ⟨(wd hw 39 rfl), rfl, hnm⟩) (wd hw 74 rfl) (ty := (.object zs5)) (by decide) rfl rfl (g := (mkF m 6 #[rv a817, rv b631] [(.ref b631), (.ref a817)])) rfl rfl (hb hby d14_6)
  refine own_via (fun t k => st827 t k) ?_
  have Fw827 : Fld Z h827 a817 zs2 "value" zs3 (.ref b631) := pF_a817_value.same W827
  have N827 := Fr.snoc X827 N0 pG_a817
  show own_Goes p e below (T827.setTop (mkF m 9 #[rv a817, rv b631] [])) _
  have K828 : k0 ≤ h827.size := (Nat.le_trans hk0 (Nat.le_of_eq W827.size.symm))
  obtain ⟨fs, hr, hrun, hended, hRW⟩ := X827.leaveW hS (by rw [e827]; first | exact K828 | exact Nat.le_refl _) (v := none) (fun _ => rfl)
  refine own_end (t := T827.setFrames fs) ?_ ⟨_, hrun, hended, _, _, rfl, ?_, own_rmono hRW (by decide) (by decide)⟩
  · exact X827.returnOut hx Bd.returns (hb hby d14_9) hr
  have E829 : Exa Z h827 a817 zs2 := (pE_a817.wr W827)
  · show Q29 Z a817 b631 h0 n0 _ T827.heap _
    rw [e827]
    exact ⟨rfl, N827, ((Keep.refl h0 [a817]).wr W827 (Or.inl (List.mem_of_getElem? (i := 0) rfl))), E829, Fw827⟩
def Q30 (Z : State) (b631 : Addr) (h0 : Heap) (n0 : Nat) (v : Option Value) (h : Heap) (L : List Loc) : Prop := (∃ (b812 : Addr), v = some (.ref b812) ∧ Fr n0 L ∧ Keep h0 h [] ∧ h0.size ≤ b812 ∧ Exa Z h b812 zs2 ∧ Fld Z h b812 zs2 "value" zs3 (.ref b631))
set_option maxRecDepth 65536 in
set_option maxHeartbeats 40000000 in
theorem rm30 (l : Launch) (Z : State) (a0 : Array Value) (hw : ∀ d ∈ tables_1, d.before a0 Z = true) (ws : List Jvm.Cond) (b631 : Addr) (h0 : Heap) (n0 : Nat) (O0 : Old Z n0 h0) :
    MetFree l (⟨zs2, "ofNullable", zs6⟩ : MethodName) (head1 (Jvm.Cond.code (⟨zs2, "ofNullable", zs6⟩ : MethodName) jdk_32_method_4_code 1 (some (.object zs2)) :: ws) ({ frames := 2, cells := 1, slots := 1, locals := 26 } : Room)) (fun a U => a = #[(.ref b631)] ∧ Z.Warmed39 U.vm ∧ U.heap = h0) (fun _ _ _ _ _ => True) (fun _ U o U' => ∃ v L, o = .returned v ∧ Q30 Z b631 h0 n0 v U'.heap L ∧ ReturnedEndW U o U' L ({ frames := 2, cells := 1, slots := 1, locals := 26 } : Room).cells ({ frames := 2, cells := 1, slots := 1, locals := 26 } : Room).slots) := by
  refine MetFree.of_bodySF (plainFor_of_name pn_4) hisR ?_
  intro p e s m args below meth c s₁ Bd hml0 hP hK
  obtain ⟨rfl, hZ, hh⟩ := hP
  have hx := Bd.exec
  have hby := Bd.bytes
  have hml : c.maxLocals = 1 := hml0
  have hown : s.vm.findClass zs2 = some m.cls := findClass_of_methodNamed Bd.named
  have hnm := (name_of_methodNamed Bd.named Bd.method).1
  have X0 : Stand p l e ({ frames := 2, cells := 1, slots := 1, locals := 26 } : Room) (s.setVm s.vm) m #[(.ref b631)] below meth c s₁ [] 0 0 := Stand.of_body Bd
  have hS : s.Since s.vm 0 := (State.WarmedH.refl s).since 0
  obtain ⟨k0, hk0, hS⟩ : ∃ k0, k0 ≤ h0.size ∧ s.Since s.vm k0 := ⟨0, Nat.zero_le _, hS⟩
  have hZ : Z.Warmed39 (s.setVm s.vm).vm := hZ
  have hown : (s.setVm s.vm).vm.findClass zs2 = some m.cls := hown
  have e0 : s₁.heap = h0 := by rw [← hh, Bd.state]; rfl
  have N0 := Fr.nil n0
  refine own_out ?_
  refine own_via (fun t k => castTop (ef_7 m b631) (XS.aloadN X0.here hx rfl (hb hby d3_0) rfl rfl (XS.ifnonnullYes X0.here hx rfl (pc0 := 1) (pc' := 10) rfl (hb hby d3_1) rfl (by decide) (by decide) k))) ?_
  show own_Goes p e below (s₁.setTop (mkF m 10 #[rv b631] [])) _
  obtain ⟨T811, h811, X811, e811, E811, A811, D811, -, st811⟩ := newO X0 hx hZ hown (wd hw 73 rfl) (wd hw 74 rfl) (wd hw 15 rfl) e0 (g := (mkF m 10 #[rv b631] [])) rfl (hb hby d3_10) (by decide) (by decide)
  obtain ⟨b812, q811⟩ : ∃ z, z = h0.size := ⟨_, rfl⟩
  rw [← q811] at A811 D811 st811
  refine own_via (fun t k => st811 t k) ?_
  have g813 : n0 ≤ b812 := Nat.le_trans (own_old O0) (Nat.le_of_eq q811.symm)
  have B814 : h0.size ≤ b812 := Nat.le_trans (Nat.le_refl _) (Nat.le_of_eq q811.symm)
  have F815 : Fld Z h811 b812 zs2 "value" zs3 .null := D811 (Or.inr (wd hw 39 rfl)) (ty := (.object zs5)) (by decide)
  show own_Goes p e below (T811.setTop (mkF m 13 #[rv b631] [(.ref b812)])) _
  refine own_via (fun t k => XS.dup X811.here hx rfl (hb hby d3_13) rfl rfl (XS.aloadN X811.here hx rfl (hb hby d3_14) rfl rfl k)) ?_
  have O830 : Old Z n0 h811 := (O0.ext E811)
  have K831 : k0 ≤ h811.size := (Nat.le_trans hk0 E811.1)
  obtain ⟨_, T816, _, X816, hQ816, hS, hZ, hown, st816⟩ := own_ciS X811 hx hZ hS K831 hown (wd hw 75 rfl) (wd hw 76 rfl) (wd hw 78 rfl) (wd hw 15 rfl) rfl (by decide) (rm29 l Z a0 hw [] b812 b631 h811 n0 O830 F815 A811 g813) e811 (g := (mkF m 15 #[rv b631] [(.ref b631), (.ref b812), (.ref b812)])) rfl (by rw [hml]; rfl) (rest := [(.ref b812)]) (W := 1) (lenOf pd_4 rfl) rfl (by show 2 * 0 + _ ≤ _; exact Nat.le_of_eq rfl) (hb hby d3_15) (by decide) (by decide) (by decide) (by decide)
  obtain ⟨h816, e816⟩ : ∃ z, T816.heap = z := ⟨_, rfl⟩
  rw [e816] at hQ816
  obtain ⟨rfl, Nq816, K816, ex832, fx833⟩ := hQ816
  have N816 := Fr.app N0 Nq816
  have hk834 : T816.heap.size ≤ h816.size := Nat.le_of_eq (congrArg Array.size e816)
  refine own_via (fun t k => st816 t k) ?_
  obtain ⟨fs, hr, hrun, hended, hRW⟩ := X816.leaveW hS (by rw [e816]; first | exact hk834 | exact Nat.le_refl _) (v := some (.ref b812)) (fun h => by rw [Bd.returns] at h; cases h)
  refine own_end (t := T816.setFrames fs) ?_ ⟨_, hrun, hended, _, _, rfl, ?_, own_rmono hRW (by decide) (by decide)⟩
  · jvm_step X816.here [X816.here.top, hx, (hb hby d3_18), X816.method', Bd.returns, Value.isRef, FieldType.isReference]
    first | (intro acts; rw [hr _ acts rfl rfl rfl]) | rw [hr _ _ rfl rfl rfl]
    exact Steps.refl _
  · show Q30 Z b631 h0 n0 _ T816.heap _
    rw [e816]
    exact ⟨b812, rfl, N816, (((Keep.refl h0 []).ext E811).trans K816 (allS (Or.inr B814) all0)), B814, ex832, fx833⟩
def Q31 (Z : State) (a793 : Addr) (b631 : Addr) (h0 : Heap) (n0 : Nat) (v : Option Value) (h : Heap) (L : List Loc) : Prop := (∃ (b835 : Addr), v = some (.ref b835) ∧ Fr n0 L ∧ Keep h0 h [] ∧ h0.size ≤ b835 ∧ Exa Z h b835 zs2 ∧ Fld Z h b835 zs2 "value" zs3 (.ref b631))
set_option maxRecDepth 65536 in
set_option maxHeartbeats 40000000 in
theorem rm31 (l : Launch) (Z : State) (a0 : Array Value) (hw : ∀ d ∈ tables_1, d.before a0 Z = true) (ws : List Jvm.Cond) (a793 : Addr) (b631 : Addr) (h0 : Heap) (n0 : Nat) (O0 : Old Z n0 h0) (pF_a793_value : Fld Z h0 a793 zs1 "value" zs3 (.ref b631)) :
    MetFree l (⟨zs1, "toOptional", zs13⟩ : MethodName) (head1 (Jvm.Cond.code (⟨zs1, "toOptional", zs13⟩ : MethodName) prog_1_method_24_code 1 (some (.object zs2)) :: ws) ({ frames := 3, cells := 1, slots := 1, locals := 38 } : Room)) (fun a U => a = #[(.ref a793)] ∧ Z.Warmed39 U.vm ∧ U.heap = h0) (fun _ _ _ _ _ => True) (fun _ U o U' => ∃ v L, o = .returned v ∧ Q31 Z a793 b631 h0 n0 v U'.heap L ∧ ReturnedEndW U o U' L ({ frames := 3, cells := 1, slots := 1, locals := 38 } : Room).cells ({ frames := 3, cells := 1, slots := 1, locals := 38 } : Room).slots) := by
  refine MetFree.of_bodySF (plainFor_of_name pn_3) hisR ?_
  intro p e s m args below meth c s₁ Bd hml0 hP hK
  obtain ⟨rfl, hZ, hh⟩ := hP
  have hx := Bd.exec
  have hby := Bd.bytes
  have hml : c.maxLocals = 1 := hml0
  have hown : s.vm.findClass zs1 = some m.cls := findClass_of_methodNamed Bd.named
  have hnm := (name_of_methodNamed Bd.named Bd.method).1
  have X0 : Stand p l e ({ frames := 3, cells := 1, slots := 1, locals := 38 } : Room) (s.setVm s.vm) m #[(.ref a793)] below meth c s₁ [] 0 0 := Stand.of_body Bd
  have hS : s.Since s.vm 0 := (State.WarmedH.refl s).since 0
  obtain ⟨k0, hk0, hS⟩ : ∃ k0, k0 ≤ h0.size ∧ s.Since s.vm k0 := ⟨0, Nat.zero_le _, hS⟩
  have hZ : Z.Warmed39 (s.setVm s.vm).vm := hZ
  have hown : (s.setVm s.vm).vm.findClass zs1 = some m.cls := hown
  have e0 : s₁.heap = h0 := by rw [← hh, Bd.state]; rfl
  have N0 := Fr.nil n0
  refine own_out ?_
  refine own_via (fun t k => castTop (ef_8 m a793) (XS.aloadN X0.here hx rfl (hb hby d2_0) rfl rfl k)) ?_
  obtain ⟨T801, X801, e801, st801⟩ := getF X0 hx hZ hown (host := "") (Or.inl (wd hw 11 rfl)) Via.refl e0 pF_a793_value (g := (mkF m 1 #[rv a793] [(.ref a793)])) rfl rfl (hb hby d2_1)
  refine own_via (fun t k => st801 t k) ?_
  obtain ⟨_, T802, _, X802, hQ802, hS, hZ, hown, st802⟩ := own_csS X801 hx hZ hS hk0 hown (wd hw 13 rfl) (wd hw 14 rfl) (wd hw 16 rfl) (wd hw 15 rfl) (by decide) (rm30 l Z a0 hw [] b631 h0 n0 O0 ) e801 (g := (mkF m 4 #[rv a793] [(.ref b631)])) rfl (by rw [hml]; rfl) (rest := []) (W := 0) (lenOf pd_6 rfl) rfl (by show 2 * 0 + _ ≤ _; exact Nat.le_of_eq rfl) (hb hby d2_4) (by decide) (by decide) (by decide) (by decide)
  obtain ⟨h802, e802⟩ : ∃ z, T802.heap = z := ⟨_, rfl⟩
  rw [e802] at hQ802
  obtain ⟨b835, rfl, Nq802, K802, bx836, ex837, fx838⟩ := hQ802
  have N802 := Fr.app N0 Nq802
  have g839 : n0 ≤ b835 := Nat.le_trans (own_old O0) bx836
  have B840 : h0.size ≤ b835 := Nat.le_trans (Nat.le_refl _) bx836
  have hk841 : T802.heap.size ≤ h802.size := Nat.le_of_eq (congrArg Array.size e802)
  refine own_via (fun t k => st802 t k) ?_
  obtain ⟨fs, hr, hrun, hended, hRW⟩ := X802.leaveW hS (by rw [e802]; first | exact hk841 | exact Nat.le_refl _) (v := some (.ref b835)) (fun h => by rw [Bd.returns] at h; cases h)
  refine own_end (t := T802.setFrames fs) ?_ ⟨_, hrun, hended, _, _, rfl, ?_, own_rmono hRW (by decide) (by decide)⟩
  · jvm_step X802.here [X802.here.top, hx, (hb hby d2_7), X802.method', Bd.returns, Value.isRef, FieldType.isReference]
    first | (intro acts; rw [hr _ acts rfl rfl rfl]) | rw [hr _ _ rfl rfl rfl]
    exact Steps.refl _
  · show Q31 Z a793 b631 h0 n0 _ T802.heap _
    rw [e802]
    exact ⟨b835, rfl, N802, ((Keep.refl h0 []).trans K802 all0), B840, ex837, fx838⟩
def Q32 (Z : State) (a869 : Addr) (b631 : Addr) (h0 : Heap) (n0 : Nat) (v : Option Value) (h : Heap) (L : List Loc) : Prop := v = some (.int (1 : Int32)) ∧ Fr n0 L ∧ h = h0
set_option maxRecDepth 65536 in
set_option maxHeartbeats 40000000 in
theorem rm32 (l : Launch) (Z : State) (a0 : Array Value) (hw : ∀ d ∈ tables_1, d.before a0 Z = true) (ws : List Jvm.Cond) (a869 : Addr) (b631 : Addr) (h0 : Heap) (n0 : Nat) (O0 : Old Z n0 h0) (pF_a869_value : Fld Z h0 a869 zs2 "value" zs3 (.ref b631)) :
    MetFree l (⟨zs2, "isPresent", "()Z"⟩ : MethodName) (head1 (Jvm.Cond.code (⟨zs2, "isPresent", "()Z"⟩ : MethodName) jdk_32_method_6_code 1 (some .boolean) :: ws) ({ frames := 0, cells := 0, slots := 0, locals := 0 } : Room)) (fun a U => a = #[(.ref a869)] ∧ Z.Warmed39 U.vm ∧ U.heap = h0) (fun _ _ _ _ _ => True) (fun _ U o U' => ∃ v L, o = .returned v ∧ Q32 Z a869 b631 h0 n0 v U'.heap L ∧ ReturnedEndW U o U' L ({ frames := 0, cells := 0, slots := 0, locals := 0 } : Room).cells ({ frames := 0, cells := 0, slots := 0, locals := 0 } : Room).slots) := by
  refine MetFree.of_bodySF (plainFor_of_name pn_4) hisR ?_
  intro p e s m args below meth c s₁ Bd hml0 hP hK
  obtain ⟨rfl, hZ, hh⟩ := hP
  have hx := Bd.exec
  have hby := Bd.bytes
  have hml : c.maxLocals = 1 := hml0
  have hown : s.vm.findClass zs2 = some m.cls := findClass_of_methodNamed Bd.named
  have hnm := (name_of_methodNamed Bd.named Bd.method).1
  have X0 : Stand p l e ({ frames := 0, cells := 0, slots := 0, locals := 0 } : Room) (s.setVm s.vm) m #[(.ref a869)] below meth c s₁ [] 0 0 := Stand.of_body Bd
  have hS : s.Since s.vm 0 := (State.WarmedH.refl s).since 0
  obtain ⟨k0, hk0, hS⟩ : ∃ k0, k0 ≤ h0.size ∧ s.Since s.vm k0 := ⟨0, Nat.zero_le _, hS⟩
  have hZ : Z.Warmed39 (s.setVm s.vm).vm := hZ
  have hown : (s.setVm s.vm).vm.findClass zs2 = some m.cls := hown
  have e0 : s₁.heap = h0 := by rw [← hh, Bd.state]; rfl
  have N0 := Fr.nil n0
  refine own_out ?_
  refine own_via (fun t k => castTop (ef_10 m a869) (XS.aloadN X0.here hx rfl (hb hby d6_0) rfl rfl k)) ?_
  obtain ⟨T878, X878, e878, st878⟩ := getF X0 hx hZ hown (host := "") (Or.inl (wd hw 38 rfl)) Via.refl e0 pF_a869_value (g := (mkF m 1 #[rv a869] [(.ref a869)])) rfl rfl (hb hby d6_1)
  refine own_via (fun t k => st878 t (XS.ifnullNo X878.here hx rfl (hb hby d6_4) rfl (XS.iconst X878.here hx rfl (hb hby d6_7) (XS.goto X878.here hx rfl (pc0 := 8) (pc' := 12) rfl (hb hby d6_8) (by decide) (by decide) k)))) ?_
  show own_Goes p e below (T878.setTop (mkF m 12 #[rv a869] [(.int (1 : Int32))])) _
  obtain ⟨fs, hr, hrun, hended, hRW⟩ := X878.leaveW hS (by rw [e878]; first | exact hk0 | exact Nat.le_refl _) (v := some (.int (1 : Int32))) (fun h => by rw [Bd.returns] at h; cases h)
  refine own_end (t := T878.setFrames fs) ?_ ⟨_, hrun, hended, _, _, rfl, ?_, own_rmono hRW (by decide) (by decide)⟩
  · exact retN X878 hx (t := .boolean) Bd.returns (by simp) (hb hby d6_12) hr
  · show Q32 Z a869 b631 h0 n0 _ T878.heap _
    rw [e878]
    exact ⟨rfl, N0, rfl⟩
def Q33 (Z : State) (a884 : Addr) (b631 : Addr) (h0 : Heap) (n0 : Nat) (v : Option Value) (h : Heap) (L : List Loc) : Prop := v = some (.ref b631) ∧ Fr n0 L ∧ h = h0
set_option maxRecDepth 65536 in
set_option maxHeartbeats 40000000 in
theorem rm33 (l : Launch) (Z : State) (a0 : Array Value) (hw : ∀ d ∈ tables_1, d.before a0 Z = true) (ws : List Jvm.Cond) (a884 : Addr) (b631 : Addr) (h0 : Heap) (n0 : Nat) (O0 : Old Z n0 h0) (pF_a884_value : Fld Z h0 a884 zs2 "value" zs3 (.ref b631)) :
    MetFree l (⟨zs2, "get", zs10⟩ : MethodName) (head1 (Jvm.Cond.code (⟨zs2, "get", zs10⟩ : MethodName) jdk_32_method_5_code 1 (some (.object zs5)) :: ws) ({ frames := 0, cells := 0, slots := 0, locals := 0 } : Room)) (fun a U => a = #[(.ref a884)] ∧ Z.Warmed39 U.vm ∧ U.heap = h0) (fun _ _ _ _ _ => True) (fun _ U o U' => ∃ v L, o = .returned v ∧ Q33 Z a884 b631 h0 n0 v U'.heap L ∧ ReturnedEndW U o U' L ({ frames := 0, cells := 0, slots := 0, locals := 0 } : Room).cells ({ frames := 0, cells := 0, slots := 0, locals := 0 } : Room).slots) := by
  refine MetFree.of_bodySF (plainFor_of_name pn_4) hisR ?_
  intro p e s m args below meth c s₁ Bd hml0 hP hK
  obtain ⟨rfl, hZ, hh⟩ := hP
  have hx := Bd.exec
  have hby := Bd.bytes
  have hml : c.maxLocals = 1 := hml0
  have hown : s.vm.findClass zs2 = some m.cls := findClass_of_methodNamed Bd.named
  have hnm := (name_of_methodNamed Bd.named Bd.method).1
  have X0 : Stand p l e ({ frames := 0, cells := 0, slots := 0, locals := 0 } : Room) (s.setVm s.vm) m #[(.ref a884)] below meth c s₁ [] 0 0 := Stand.of_body Bd
  have hS : s.Since s.vm 0 := (State.WarmedH.refl s).since 0
  obtain ⟨k0, hk0, hS⟩ : ∃ k0, k0 ≤ h0.size ∧ s.Since s.vm k0 := ⟨0, Nat.zero_le _, hS⟩
  have hZ : Z.Warmed39 (s.setVm s.vm).vm := hZ
  have hown : (s.setVm s.vm).vm.findClass zs2 = some m.cls := hown
  have e0 : s₁.heap = h0 := by rw [← hh, Bd.state]; rfl
  have N0 := Fr.nil n0
  refine own_out ?_
  refine own_via (fun t k => castTop (ef_11 m a884) (XS.aloadN X0.here hx rfl (hb hby d15_0) rfl rfl k)) ?_
  obtain ⟨T893, X893, e893, st893⟩ := getF X0 hx hZ hown (host := "") (Or.inl (wd hw 38 rfl)) Via.refl e0 pF_a884_value (g := (mkF m 1 #[rv a884] [(.ref a884)])) rfl rfl (hb hby d15_1)
  refine own_via (fun t k => st893 t (XS.ifnonnullYes X893.here hx rfl (pc0 := 4) (pc' := 17) rfl (hb hby d15_4) rfl (by decide) (by decide) (XS.aloadN X893.here hx rfl (hb hby d15_17) rfl rfl k))) ?_
  show own_Goes p e below (T893.setTop (mkF m 18 #[rv a884] [(.ref a884)])) _
  obtain ⟨T894, X894, e894, st894⟩ := getF X893 hx hZ hown (host := "") (Or.inl (wd hw 38 rfl)) Via.refl e893 pF_a884_value (g := (mkF m 18 #[rv a884] [(.ref a884)])) rfl rfl (hb hby d15_18)
  refine own_via (fun t k => st894 t k) ?_
  obtain ⟨fs, hr, hrun, hended, hRW⟩ := X894.leaveW hS (by rw [e894]; first | exact hk0 | exact Nat.le_refl _) (v := some (.ref b631)) (fun h => by rw [Bd.returns] at h; cases h)
  refine own_end (t := T894.setFrames fs) ?_ ⟨_, hrun, hended, _, _, rfl, ?_, own_rmono hRW (by decide) (by decide)⟩
  · jvm_step X894.here [X894.here.top, hx, (hb hby d15_21), X894.method', Bd.returns, Value.isRef, FieldType.isReference]
    first | (intro acts; rw [hr _ acts rfl rfl rfl]) | rw [hr _ _ rfl rfl rfl]
    exact Steps.refl _
  · show Q33 Z a884 b631 h0 n0 _ T894.heap _
    rw [e894]
    exact ⟨rfl, N0, rfl⟩
def Q34 (Z : State) (a853 : Addr) (b631 : Addr) (h0 : Heap) (n0 : Nat) (v : Option Value) (h : Heap) (L : List Loc) : Prop := (∃ (b898 : Addr), v = some (.ref b898) ∧ Fr n0 L ∧ Keep h0 h [] ∧ h0.size ≤ b898 ∧ Exa Z h b898 zs1 ∧ Fld Z h b898 zs1 "value" zs3 (.ref b631))
set_option maxRecDepth 65536 in
set_option maxHeartbeats 40000000 in
theorem rm34 (l : Launch) (Z : State) (a0 : Array Value) (hw : ∀ d ∈ tables_1, d.before a0 Z = true) (ws : List Jvm.Cond) (a853 : Addr) (b631 : Addr) (h0 : Heap) (n0 : Nat) (O0 : Old Z n0 h0) (pF_a853_value : Fld Z h0 a853 zs2 "value" zs3 (.ref b631)) (pE_a853 : Exa Z h0 a853 zs2) :
    MetFree l (⟨zs1, zs16, zs7⟩ : MethodName) (head1 (Jvm.Cond.code (⟨zs1, zs16, zs7⟩ : MethodName) prog_1_method_5_code 1 (some (.object zs1)) :: ws) ({ frames := 3, cells := 3, slots := 37, locals := 38 } : Room)) (fun a U => a = #[(.ref a853)] ∧ Z.Warmed39 U.vm ∧ U.heap = h0) (fun _ _ _ _ _ => True) (fun _ U o U' => ∃ v L, o = .returned v ∧ Q34 Z a853 b631 h0 n0 v U'.heap L ∧ ReturnedEndW U o U' L ({ frames := 3, cells := 3, slots := 37, locals := 38 } : Room).cells ({ frames := 3, cells := 3, slots := 37, locals := 38 } : Room).slots) := by
  refine MetFree.of_bodySF (plainFor_of_name pn_3) hisR ?_
  intro p e s m args below meth c s₁ Bd hml0 hP hK
  obtain ⟨rfl, hZ, hh⟩ := hP
  have hx := Bd.exec
  have hby := Bd.bytes
  have hml : c.maxLocals = 1 := hml0
  have hown : s.vm.findClass zs1 = some m.cls := findClass_of_methodNamed Bd.named
  have hnm := (name_of_methodNamed Bd.named Bd.method).1
  have X0 : Stand p l e ({ frames := 3, cells := 3, slots := 37, locals := 38 } : Room) (s.setVm s.vm) m #[(.ref a853)] below meth c s₁ [] 0 0 := Stand.of_body Bd
  have hS : s.Since s.vm 0 := (State.WarmedH.refl s).since 0
  obtain ⟨k0, hk0, hS⟩ : ∃ k0, k0 ≤ h0.size ∧ s.Since s.vm k0 := ⟨0, Nat.zero_le _, hS⟩
  have hZ : Z.Warmed39 (s.setVm s.vm).vm := hZ
  have hown : (s.setVm s.vm).vm.findClass zs1 = some m.cls := hown
  have e0 : s₁.heap = h0 := by rw [← hh, Bd.state]; rfl
  have N0 := Fr.nil n0
  refine own_out ?_
  refine own_via (fun t k => castTop (ef_12 m a853) (XS.aloadN X0.here hx rfl (hb hby d4_0) rfl rfl k)) ?_
  obtain ⟨b863, T862, h862, k862, X862, e862, E862, hS, hk862, hZ, hown, st862⟩ := ldcS X0 hx hZ hown (wd hw 21 rfl) (own_strAtoms hw) e0 hS hk0 (g := (mkF m 1 #[rv a853] [(.ref a853)])) rfl (hb hby d4_1) (n := 32) (by decide) (by decide) (by decide) (by decide)
  refine own_via (fun t k => st862 t k) ?_
  have O865 : Old Z n0 h862 := (O0.ext E862)
  obtain ⟨_, T864, _, X864, hQ864, hS, hZ, hown, st864⟩ := own_csS X862 hx hZ hS hk862 hown (wd hw 29 rfl) (wd hw 30 rfl) (wd hw 32 rfl) (wd hw 31 rfl) (by decide) (rm9 l Z a0 hw [] a853 b863 h862 n0 O865 ) e862 (g := (mkF m 3 #[rv a853] [(.ref b863), (.ref a853)])) rfl (by rw [hml]; rfl) (rest := []) (W := 0) (lenOf pd_8 rfl) rfl (by show 2 * 0 + _ ≤ _; exact Nat.le_of_eq rfl) (hb hby d4_3) (by decide) (by decide) (by decide) (by decide)
  obtain ⟨rfl, Nq864, hh866⟩ := hQ864
  have N864 := Fr.app N0 Nq864
  have hk867 : T864.heap.size ≤ h862.size := Nat.le_of_eq (congrArg Array.size hh866)
  refine own_via (fun t k => st864 t (XS.pop X864.here hx rfl (hb hby d4_6) rfl rfl (XS.aloadN X864.here hx rfl (hb hby d4_7) rfl rfl k))) ?_
  show own_Goes p e below (T864.setTop (mkF m 8 #[rv a853] [(.ref a853)])) _
  have F879 : Fld Z h862 a853 zs2 "value" zs3 (.ref b631) := (pF_a853_value.ext E862)
  have E880 : Exa Z h862 a853 zs2 := (pE_a853.ext E862)
  obtain ⟨_, T868, _, X868, hQ868, hS, hZ, hown, st868⟩ := own_cvS X864 hx hZ hS hk867 hown (wd hw 33 rfl) (wd hw 34 rfl) (wd hw 36 rfl) (wd hw 35 rfl) (wd hw 37 rfl) (wd hw 15 rfl) (by decide) (rm32 l Z a0 hw [] a853 b631 h862 n0 O865 F879) hh866 E880 (g := (mkF m 8 #[rv a853] [(.ref a853)])) rfl (by rw [hml]; rfl) (rest := []) (W := 0) (lenOf pd_9 rfl) rfl (by show 2 * 0 + _ ≤ _; exact Nat.le_of_eq rfl) (hb hby d4_8) (by decide) (by decide) (by decide) (by decide)
  obtain ⟨rfl, Nq868, hh881⟩ := hQ868
  have N868 := Fr.app N864 Nq868
  have hk882 : T868.heap.size ≤ h862.size := Nat.le_of_eq (congrArg Array.size hh881)
  refine own_via (fun t k => st868 t (XS.ifNo X868.here hx rfl (hb hby d4_11) rfl ((if0 _ _).trans (feq (by decide : ¬ ((1 : Int32) = (0 : Int32)))).1) (XS.aloadN X868.here hx rfl (hb hby d4_14) rfl rfl k))) ?_
  show own_Goes p e below (T868.setTop (mkF m 15 #[rv a853] [(.ref a853)])) _
  obtain ⟨_, T883, _, X883, hQ883, hS, hZ, hown, st883⟩ := own_cvS X868 hx hZ hS hk882 hown (wd hw 80 rfl) (wd hw 81 rfl) (wd hw 83 rfl) (wd hw 82 rfl) (wd hw 84 rfl) (wd hw 15 rfl) (by decide) (rm33 l Z a0 hw [] a853 b631 h862 n0 O865 F879) hh881 E880 (g := (mkF m 15 #[rv a853] [(.ref a853)])) rfl (by rw [hml]; rfl) (rest := []) (W := 0) (lenOf pd_10 rfl) rfl (by show 2 * 0 + _ ≤ _; exact Nat.le_of_eq rfl) (hb hby d4_15) (by decide) (by decide) (by decide) (by decide)
  obtain ⟨rfl, Nq883, hh895⟩ := hQ883
  have N883 := Fr.app N868 Nq883
  have hk896 : T883.heap.size ≤ h862.size := Nat.le_of_eq (congrArg Array.size hh895)
  refine own_via (fun t k => st883 t k) ?_
  obtain ⟨_, T897, _, X897, hQ897, hS, hZ, hown, st897⟩ := own_csS X883 hx hZ hS hk896 hown (wd hw 85 rfl) (wd hw 63 rfl) (wd hw 64 rfl) (wd hw 2 rfl) (by decide) (rm28 l Z a0 hw [] b631 h862 n0 O865 ) hh895 (g := (mkF m 18 #[rv a853] [(.ref b631)])) rfl (by rw [hml]; rfl) (rest := []) (W := 0) (lenOf pd_5 rfl) rfl (by show 2 * 0 + _ ≤ _; exact Nat.le_of_eq rfl) (hb hby d4_18) (by decide) (by decide) (by decide) (by decide)
  obtain ⟨h897, e897⟩ : ∃ z, T897.heap = z := ⟨_, rfl⟩
  rw [e897] at hQ897
  obtain ⟨b898, rfl, Nq897, K897, bx899, ex900, fx901⟩ := hQ897
  have N897 := Fr.app N883 Nq897
  have g902 : n0 ≤ b898 := Nat.le_trans (own_old O865) bx899
  have Z904 : h0.size ≤ h862.size := (Nat.le_trans (Nat.le_refl _) E862.1)
  have B903 : h0.size ≤ b898 := Nat.le_trans Z904 bx899
  have hk905 : T897.heap.size ≤ h897.size := Nat.le_of_eq (congrArg Array.size e897)
  refine own_via (fun t k => st897 t (XS.goto X897.here hx rfl (pc0 := 21) (pc' := 27) rfl (hb hby d4_21) (by decide) (by decide) k)) ?_
  obtain ⟨fs, hr, hrun, hended, hRW⟩ := X897.leaveW hS (by rw [e897]; first | exact hk905 | exact Nat.le_refl _) (v := some (.ref b898)) (fun h => by rw [Bd.returns] at h; cases h)
  refine own_end (t := T897.setFrames fs) ?_ ⟨_, hrun, hended, _, _, rfl, ?_, own_rmono hRW (by decide) (by decide)⟩
  · jvm_step X897.here [X897.here.top, hx, (hb hby d4_27), X897.method', Bd.returns, Value.isRef, FieldType.isReference]
    first | (intro acts; rw [hr _ acts rfl rfl rfl]) | rw [hr _ _ rfl rfl rfl]
    exact Steps.refl _
  · show Q34 Z a853 b631 h0 n0 _ T897.heap _
    rw [e897]
    exact ⟨b898, rfl, N897, (((Keep.refl h0 []).ext E862).trans K897 all0), B903, ex900, fx901⟩
def Q35 (Z : State) (a926 : Addr) (w24 : Addr) (b631 : Addr) (h0 : Heap) (n0 : Nat) (v : Option Value) (h : Heap) (L : List Loc) : Prop := v = some (.ref b631) ∧ Fr n0 L ∧ h = h0
set_option maxRecDepth 65536 in
set_option maxHeartbeats 40000000 in
theorem rm35 (l : Launch) (Z : State) (a0 : Array Value) (hw : ∀ d ∈ tables_1, d.before a0 Z = true) (ws : List Jvm.Cond) (a926 : Addr) (w24 : Addr) (b631 : Addr) (h0 : Heap) (n0 : Nat) (O0 : Old Z n0 h0) (S_Tertium_ABSENT : Sta Z Z.heap zs1 "ABSENT" zs12 (.ref w24)) (SE_w24 : Exa Z Z.heap w24 zs1) (pG_a926 : n0 ≤ a926) (pE_a926 : Exa Z h0 a926 zs1) (pF_a926_value : Fld Z h0 a926 zs1 "value" zs3 (.ref b631)) :
    MetFree l (⟨zs1, "get", zs10⟩ : MethodName) (head1 (Jvm.Cond.code (⟨zs1, "get", zs10⟩ : MethodName) prog_1_method_14_code 1 (some (.object zs5)) :: ws) ({ frames := 1, cells := 0, slots := 0, locals := 12 } : Room)) (fun a U => a = #[(.ref a926)] ∧ Z.Warmed39 U.vm ∧ U.heap = h0) (fun _ _ _ _ _ => True) (fun _ U o U' => ∃ v L, o = .returned v ∧ Q35 Z a926 w24 b631 h0 n0 v U'.heap L ∧ ReturnedEndW U o U' L ({ frames := 1, cells := 0, slots := 0, locals := 12 } : Room).cells ({ frames := 1, cells := 0, slots := 0, locals := 12 } : Room).slots) := by
  refine MetFree.of_bodySF (plainFor_of_name pn_3) hisR ?_
  intro p e s m args below meth c s₁ Bd hml0 hP hK
  obtain ⟨rfl, hZ, hh⟩ := hP
  have hx := Bd.exec
  have hby := Bd.bytes
  have hml : c.maxLocals = 1 := hml0
  have hown : s.vm.findClass zs1 = some m.cls := findClass_of_methodNamed Bd.named
  have hnm := (name_of_methodNamed Bd.named Bd.method).1
  have X0 : Stand p l e ({ frames := 1, cells := 0, slots := 0, locals := 12 } : Room) (s.setVm s.vm) m #[(.ref a926)] below meth c s₁ [] 0 0 := Stand.of_body Bd
  have hS : s.Since s.vm 0 := (State.WarmedH.refl s).since 0
  obtain ⟨k0, hk0, hS⟩ : ∃ k0, k0 ≤ h0.size ∧ s.Since s.vm k0 := ⟨0, Nat.zero_le _, hS⟩
  have hZ : Z.Warmed39 (s.setVm s.vm).vm := hZ
  have hown : (s.setVm s.vm).vm.findClass zs1 = some m.cls := hown
  have e0 : s₁.heap = h0 := by rw [← hh, Bd.state]; rfl
  have N0 := Fr.nil n0
  refine own_out ?_
  refine own_via (fun t k => castTop (ef_15 m a926) (XS.aloadN X0.here hx rfl (hb hby d16_0) rfl rfl k)) ?_
  obtain ⟨_, T936, _, X936, hQ936, hS, hZ, hown, st936⟩ := own_cvS X0 hx hZ hS hk0 hown (wd hw 91 rfl) (wd hw 46 rfl) (wd hw 48 rfl) (wd hw 47 rfl) (wd hw 49 rfl) (wd hw 2 rfl) (by decide) (rm13 l Z a0 hw [] a926 w24 h0 n0 O0 S_Tertium_ABSENT SE_w24 pG_a926) e0 pE_a926 (g := (mkF m 1 #[rv a926] [(.ref a926)])) rfl (by rw [hml]; rfl) (rest := []) (W := 0) (lenOf pd_9 rfl) rfl (by show 2 * 0 + _ ≤ _; exact Nat.le_of_eq rfl) (hb hby d16_1) (by decide) (by decide) (by decide) (by decide)
  obtain ⟨rfl, Nq936, hh937⟩ := hQ936
  have N936 := Fr.app N0 Nq936
  have hk938 : T936.heap.size ≤ h0.size := Nat.le_of_eq (congrArg Array.size hh937)
  refine own_via (fun t k => st936 t (XS.ifYes X936.here hx rfl (pc0 := 4) (pc' := 17) rfl (hb hby d16_4) rfl ((if0 _ _).trans (teq (by decide : (0 : Int32) = (0 : Int32))).1) (by decide) (by decide) (XS.aloadN X936.here hx rfl (hb hby d16_17) rfl rfl k))) ?_
  show own_Goes p e below (T936.setTop (mkF m 18 #[rv a926] [(.ref a926)])) _
  obtain ⟨T939, X939, e939, st939⟩ := getF X936 hx hZ hown (host := "") (Or.inl (wd hw 11 rfl)) Via.refl hh937 pF_a926_value (g := (mkF m 18 #[rv a926] [(.ref a926)])) rfl rfl (hb hby d16_18)
  refine own_via (fun t k => st939 t k) ?_
  obtain ⟨fs, hr, hrun, hended, hRW⟩ := X939.leaveW hS (by rw [e939]; first | exact hk938 | exact Nat.le_refl _) (v := some (.ref b631)) (fun h => by rw [Bd.returns] at h; cases h)
  refine own_end (t := T939.setFrames fs) ?_ ⟨_, hrun, hended, _, _, rfl, ?_, own_rmono hRW (by decide) (by decide)⟩
  · jvm_step X939.here [X939.here.top, hx, (hb hby d16_21), X939.method', Bd.returns, Value.isRef, FieldType.isReference]
    first | (intro acts; rw [hr _ acts rfl rfl rfl]) | rw [hr _ _ rfl rfl rfl]
    exact Steps.refl _
  · show Q35 Z a926 w24 b631 h0 n0 _ T939.heap _
    rw [e939]
    exact ⟨rfl, N936, rfl⟩
def Q36 (Z : State) (b631 : Addr) (i0 : Int32) (h0 : Heap) (n0 : Nat) (v : Option Value) (h : Heap) (L : List Loc) : Prop := v = some (.int i0) ∧ Fr n0 L ∧ h = h0
set_option maxRecDepth 65536 in
set_option maxHeartbeats 40000000 in
theorem rm36 (l : Launch) (Z : State) (a0 : Array Value) (hw : ∀ d ∈ tables_1, d.before a0 Z = true) (ws : List Jvm.Cond) (b631 : Addr) (i0 : Int32) (h0 : Heap) (n0 : Nat) (O0 : Old Z n0 h0) (pSF_b631 : Fld Z Z.heap b631 zs4 "value" "I" (.int i0)) :
    MetFree l (⟨zs4, "intValue", "()I"⟩ : MethodName) (head1 (Jvm.Cond.code (⟨zs4, "intValue", "()I"⟩ : MethodName) jdk_33_method_27_code 1 (some .int) :: ws) ({ frames := 0, cells := 0, slots := 0, locals := 0 } : Room)) (fun a U => a = #[(.ref b631)] ∧ Z.Warmed39 U.vm ∧ U.heap = h0) (fun _ _ _ _ _ => True) (fun _ U o U' => ∃ v L, o = .returned v ∧ Q36 Z b631 i0 h0 n0 v U'.heap L ∧ ReturnedEndW U o U' L ({ frames := 0, cells := 0, slots := 0, locals := 0 } : Room).cells ({ frames := 0, cells := 0, slots := 0, locals := 0 } : Room).slots) := by
  refine MetFree.of_bodySF (plainFor_of_name pn_2) hisR ?_
  intro p e s m args below meth c s₁ Bd hml0 hP hK
  obtain ⟨rfl, hZ, hh⟩ := hP
  have hx := Bd.exec
  have hby := Bd.bytes
  have hml : c.maxLocals = 1 := hml0
  have hown : s.vm.findClass zs4 = some m.cls := findClass_of_methodNamed Bd.named
  have hnm := (name_of_methodNamed Bd.named Bd.method).1
  have X0 : Stand p l e ({ frames := 0, cells := 0, slots := 0, locals := 0 } : Room) (s.setVm s.vm) m #[(.ref b631)] below meth c s₁ [] 0 0 := Stand.of_body Bd
  have hS : s.Since s.vm 0 := (State.WarmedH.refl s).since 0
  obtain ⟨k0, hk0, hS⟩ : ∃ k0, k0 ≤ h0.size ∧ s.Since s.vm k0 := ⟨0, Nat.zero_le _, hS⟩
  have hZ : Z.Warmed39 (s.setVm s.vm).vm := hZ
  have hown : (s.setVm s.vm).vm.findClass zs4 = some m.cls := hown
  have e0 : s₁.heap = h0 := by rw [← hh, Bd.state]; rfl
  have N0 := Fr.nil n0
  refine own_out ?_
  refine own_via (fun t k => castTop (ef_16 m b631) (XS.aloadN X0.here hx rfl (hb hby d17_0) rfl rfl k)) ?_
  obtain ⟨T954, X954, e954, st954⟩ := getF X0 hx hZ hown (host := "") (Or.inl (wd hw 99 rfl)) Via.refl e0 (pSF_b631.ext O0.2) (g := (mkF m 1 #[rv b631] [(.ref b631)])) rfl rfl (hb hby d17_1)
  refine own_via (fun t k => st954 t k) ?_
  obtain ⟨fs, hr, hrun, hended, hRW⟩ := X954.leaveW hS (by rw [e954]; first | exact hk0 | exact Nat.le_refl _) (v := some (.int i0)) (fun h => by rw [Bd.returns] at h; cases h)
  refine own_end (t := T954.setFrames fs) ?_ ⟨_, hrun, hended, _, _, rfl, ?_, own_rmono hRW (by decide) (by decide)⟩
  · exact retI X954 hx Bd.returns (hb hby d17_4) hr
  · show Q36 Z b631 i0 h0 n0 _ T954.heap _
    rw [e954]
    exact ⟨rfl, N0, rfl⟩
theorem d7_0 : decode prog_1_method_2_code 0 = .ok (.getstatic 13, 3) := by decide +kernel
theorem d7_3 : decode prog_1_method_2_code 3 = .ok (.areturn, 1) := by decide +kernel
theorem ef_17 (m : MethodId)  : entryFrame m #[] 0 = mkF m 0 #[] [] := by first | (simp [entryFrame, mkF, argsToLocals, Value.category]; done) | rfl
def Q37 (Z : State) (w24 : Addr) (h0 : Heap) (n0 : Nat) (v : Option Value) (h : Heap) (L : List Loc) : Prop := v = some (.ref w24) ∧ Fr n0 L ∧ h = h0
set_option maxRecDepth 65536 in
set_option maxHeartbeats 40000000 in
theorem rm37 (l : Launch) (Z : State) (a0 : Array Value) (hw : ∀ d ∈ tables_1, d.before a0 Z = true) (ws : List Jvm.Cond) (w24 : Addr) (h0 : Heap) (n0 : Nat) (O0 : Old Z n0 h0) (S_Tertium_ABSENT : Sta Z Z.heap zs1 "ABSENT" zs12 (.ref w24)) :
    MetFree l (⟨zs1, "absent", zs18⟩ : MethodName) (head1 (Jvm.Cond.code (⟨zs1, "absent", zs18⟩ : MethodName) prog_1_method_2_code 0 (some (.object zs1)) :: ws) ({ frames := 0, cells := 0, slots := 0, locals := 0 } : Room)) (fun a U => a = #[] ∧ Z.Warmed39 U.vm ∧ U.heap = h0) (fun _ _ _ _ _ => True) (fun _ U o U' => ∃ v L, o = .returned v ∧ Q37 Z w24 h0 n0 v U'.heap L ∧ ReturnedEndW U o U' L ({ frames := 0, cells := 0, slots := 0, locals := 0 } : Room).cells ({ frames := 0, cells := 0, slots := 0, locals := 0 } : Room).slots) := by
  refine MetFree.of_bodySF (plainFor_of_name pn_3) hisR ?_
  intro p e s m args below meth c s₁ Bd hml0 hP hK
  obtain ⟨rfl, hZ, hh⟩ := hP
  have hx := Bd.exec
  have hby := Bd.bytes
  have hml : c.maxLocals = 0 := hml0
  have hown : s.vm.findClass zs1 = some m.cls := findClass_of_methodNamed Bd.named
  have hnm := (name_of_methodNamed Bd.named Bd.method).1
  have X0 : Stand p l e ({ frames := 0, cells := 0, slots := 0, locals := 0 } : Room) (s.setVm s.vm) m #[] below meth c s₁ [] 0 0 := Stand.of_body Bd
  have hS : s.Since s.vm 0 := (State.WarmedH.refl s).since 0
  obtain ⟨k0, hk0, hS⟩ : ∃ k0, k0 ≤ h0.size ∧ s.Since s.vm k0 := ⟨0, Nat.zero_le _, hS⟩
  have hZ : Z.Warmed39 (s.setVm s.vm).vm := hZ
  have hown : (s.setVm s.vm).vm.findClass zs1 = some m.cls := hown
  have e0 : s₁.heap = h0 := by rw [← hh, Bd.state]; rfl
  have N0 := Fr.nil n0
  refine own_out ?_
  refine own_via (fun t k => castTop (ef_17 m ) k) ?_
  obtain ⟨T963, X963, e963, st963⟩ := getS2 X0 hx hZ hown (host := "") (Or.inl (wd hw 43 rfl)) Via.refl e0 (S_Tertium_ABSENT.ext O0.2) (g := (mkF m 0 #[] [])) rfl (hb hby d7_0)
  refine own_via (fun t k => st963 t k) ?_
  obtain ⟨fs, hr, hrun, hended, hRW⟩ := X963.leaveW hS (by rw [e963]; first | exact hk0 | exact Nat.le_refl _) (v := some (.ref w24)) (fun h => by rw [Bd.returns] at h; cases h)
  refine own_end (t := T963.setFrames fs) ?_ ⟨_, hrun, hended, _, _, rfl, ?_, own_rmono hRW (by decide) (by decide)⟩
  · jvm_step X963.here [X963.here.top, hx, (hb hby d7_3), X963.method', Bd.returns, Value.isRef, FieldType.isReference]
    first | (intro acts; rw [hr _ acts rfl rfl rfl]) | rw [hr _ _ rfl rfl rfl]
    exact Steps.refl _
  · show Q37 Z w24 h0 n0 _ T963.heap _
    rw [e963]
    exact ⟨rfl, N0, rfl⟩
theorem pd_13 : parseMethodDescriptor "()Ltertium/Tertium;" = some ⟨[], some (.object "tertium/Tertium")⟩ := by decide +kernel
theorem d3_4 : decode jdk_32_method_4_code 4 = .ok (.getstatic 1, 3) := by decide +kernel
theorem d3_7 : decode jdk_32_method_4_code 7 = .ok (.goto 11, 3) := by decide +kernel
theorem ef_18 (m : MethodId)  : entryFrame m #[.null] 1 = mkF m 0 #[.val .null] [] := by first | (simp [entryFrame, mkF, argsToLocals, Value.category]; done) | rfl
def Q38 (Z : State) (w27 : Addr) (h0 : Heap) (n0 : Nat) (v : Option Value) (h : Heap) (L : List Loc) : Prop := v = some (.ref w27) ∧ Fr n0 L ∧ h = h0
set_option maxRecDepth 65536 in
set_option maxHeartbeats 40000000 in
theorem rm38 (l : Launch) (Z : State) (a0 : Array Value) (hw : ∀ d ∈ tables_1, d.before a0 Z = true) (ws : List Jvm.Cond) (w27 : Addr) (h0 : Heap) (n0 : Nat) (O0 : Old Z n0 h0) (S_Optional_EMPTY : Sta Z Z.heap zs2 "EMPTY" zs17 (.ref w27)) :
    MetFree l (⟨zs2, "ofNullable", zs6⟩ : MethodName) (head1 (Jvm.Cond.code (⟨zs2, "ofNullable", zs6⟩ : MethodName) jdk_32_method_4_code 1 (some (.object zs2)) :: ws) ({ frames := 0, cells := 0, slots := 0, locals := 0 } : Room)) (fun a U => a = #[.null] ∧ Z.Warmed39 U.vm ∧ U.heap = h0) (fun _ _ _ _ _ => True) (fun _ U o U' => ∃ v L, o = .returned v ∧ Q38 Z w27 h0 n0 v U'.heap L ∧ ReturnedEndW U o U' L ({ frames := 0, cells := 0, slots := 0, locals := 0 } : Room).cells ({ frames := 0, cells := 0, slots := 0, locals := 0 } : Room).slots) := by
  refine MetFree.of_bodySF (plainFor_of_name pn_4) hisR ?_
  intro p e s m args below meth c s₁ Bd hml0 hP hK
  obtain ⟨rfl, hZ, hh⟩ := hP
  have hx := Bd.exec
  have hby := Bd.bytes
  have hml : c.maxLocals = 1 := hml0
  have hown : s.vm.findClass zs2 = some m.cls := findClass_of_methodNamed Bd.named
  have hnm := (name_of_methodNamed Bd.named Bd.method).1
  have X0 : Stand p l e ({ frames := 0, cells := 0, slots := 0, locals := 0 } : Room) (s.setVm s.vm) m #[.null] below meth c s₁ [] 0 0 := Stand.of_body Bd
  have hS : s.Since s.vm 0 := (State.WarmedH.refl s).since 0
  obtain ⟨k0, hk0, hS⟩ : ∃ k0, k0 ≤ h0.size ∧ s.Since s.vm k0 := ⟨0, Nat.zero_le _, hS⟩
  have hZ : Z.Warmed39 (s.setVm s.vm).vm := hZ
  have hown : (s.setVm s.vm).vm.findClass zs2 = some m.cls := hown
  have e0 : s₁.heap = h0 := by rw [← hh, Bd.state]; rfl
  have N0 := Fr.nil n0
  refine own_out ?_
  refine own_via (fun t k => castTop (ef_18 m ) (XS.aloadN X0.here hx rfl (hb hby d3_0) rfl rfl (XS.ifnonnullNo X0.here hx rfl (hb hby d3_1) rfl k))) ?_
  show own_Goes p e below (s₁.setTop (mkF m 4 #[.val .null] [])) _
  obtain ⟨T977, X977, e977, st977⟩ := getS2 X0 hx hZ hown (host := "") (Or.inl (wd hw 17 rfl)) Via.refl e0 (S_Optional_EMPTY.ext O0.2) (g := (mkF m 4 #[.val .null] [])) rfl (hb hby d3_4)
  refine own_via (fun t k => st977 t (XS.goto X977.here hx rfl (pc0 := 7) (pc' := 18) rfl (hb hby d3_7) (by decide) (by decide) k)) ?_
  obtain ⟨fs, hr, hrun, hended, hRW⟩ := X977.leaveW hS (by rw [e977]; first | exact hk0 | exact Nat.le_refl _) (v := some (.ref w27)) (fun h => by rw [Bd.returns] at h; cases h)
  refine own_end (t := T977.setFrames fs) ?_ ⟨_, hrun, hended, _, _, rfl, ?_, own_rmono hRW (by decide) (by decide)⟩
  · jvm_step X977.here [X977.here.top, hx, (hb hby d3_18), X977.method', Bd.returns, Value.isRef, FieldType.isReference]
    first | (intro acts; rw [hr _ acts rfl rfl rfl]) | rw [hr _ _ rfl rfl rfl]
    exact Steps.refl _
  · show Q38 Z w27 h0 n0 _ T977.heap _
    rw [e977]
    exact ⟨rfl, N0, rfl⟩
def Q39 (Z : State) (w24 : Addr) (w27 : Addr) (h0 : Heap) (n0 : Nat) (v : Option Value) (h : Heap) (L : List Loc) : Prop := v = some (.ref w27) ∧ Fr n0 L ∧ h = h0
set_option maxRecDepth 65536 in
set_option maxHeartbeats 40000000 in
theorem rm39 (l : Launch) (Z : State) (a0 : Array Value) (hw : ∀ d ∈ tables_1, d.before a0 Z = true) (ws : List Jvm.Cond) (w24 : Addr) (w27 : Addr) (h0 : Heap) (n0 : Nat) (O0 : Old Z n0 h0) (SF_w24_value : Fld Z Z.heap w24 zs1 "value" zs3 .null) (S_Optional_EMPTY : Sta Z Z.heap zs2 "EMPTY" zs17 (.ref w27)) :
    MetFree l (⟨zs1, "toOptional", zs13⟩ : MethodName) (head1 (Jvm.Cond.code (⟨zs1, "toOptional", zs13⟩ : MethodName) prog_1_method_24_code 1 (some (.object zs2)) :: ws) ({ frames := 1, cells := 0, slots := 0, locals := 12 } : Room)) (fun a U => a = #[(.ref w24)] ∧ Z.Warmed39 U.vm ∧ U.heap = h0) (fun _ _ _ _ _ => True) (fun _ U o U' => ∃ v L, o = .returned v ∧ Q39 Z w24 w27 h0 n0 v U'.heap L ∧ ReturnedEndW U o U' L ({ frames := 1, cells := 0, slots := 0, locals := 12 } : Room).cells ({ frames := 1, cells := 0, slots := 0, locals := 12 } : Room).slots) := by
  refine MetFree.of_bodySF (plainFor_of_name pn_3) hisR ?_
  intro p e s m args below meth c s₁ Bd hml0 hP hK
  obtain ⟨rfl, hZ, hh⟩ := hP
  have hx := Bd.exec
  have hby := Bd.bytes
  have hml : c.maxLocals = 1 := hml0
  have hown : s.vm.findClass zs1 = some m.cls := findClass_of_methodNamed Bd.named
  have hnm := (name_of_methodNamed Bd.named Bd.method).1
  have X0 : Stand p l e ({ frames := 1, cells := 0, slots := 0, locals := 12 } : Room) (s.setVm s.vm) m #[(.ref w24)] below meth c s₁ [] 0 0 := Stand.of_body Bd
  have hS : s.Since s.vm 0 := (State.WarmedH.refl s).since 0
  obtain ⟨k0, hk0, hS⟩ : ∃ k0, k0 ≤ h0.size ∧ s.Since s.vm k0 := ⟨0, Nat.zero_le _, hS⟩
  have hZ : Z.Warmed39 (s.setVm s.vm).vm := hZ
  have hown : (s.setVm s.vm).vm.findClass zs1 = some m.cls := hown
  have e0 : s₁.heap = h0 := by rw [← hh, Bd.state]; rfl
  have N0 := Fr.nil n0
  refine own_out ?_
  refine own_via (fun t k => castTop (ef_8 m w24) (XS.aloadN X0.here hx rfl (hb hby d2_0) rfl rfl k)) ?_
  obtain ⟨T971, X971, e971, st971⟩ := getF X0 hx hZ hown (host := "") (Or.inl (wd hw 11 rfl)) Via.refl e0 (SF_w24_value.ext O0.2) (g := (mkF m 1 #[rv w24] [(.ref w24)])) rfl rfl (hb hby d2_1)
  refine own_via (fun t k => st971 t k) ?_
  obtain ⟨_, T972, _, X972, hQ972, hS, hZ, hown, st972⟩ := own_csS X971 hx hZ hS hk0 hown (wd hw 13 rfl) (wd hw 14 rfl) (wd hw 16 rfl) (wd hw 15 rfl) (by decide) (rm38 l Z a0 hw [] w27 h0 n0 O0 S_Optional_EMPTY) e971 (g := (mkF m 4 #[rv w24] [.null])) rfl (by rw [hml]; rfl) (rest := []) (W := 0) (lenOf pd_6 rfl) rfl (by show 2 * 0 + _ ≤ _; exact Nat.le_of_eq rfl) (hb hby d2_4) (by decide) (by decide) (by decide) (by decide)
  obtain ⟨rfl, Nq972, hh978⟩ := hQ972
  have N972 := Fr.app N0 Nq972
  have hk979 : T972.heap.size ≤ h0.size := Nat.le_of_eq (congrArg Array.size hh978)
  refine own_via (fun t k => st972 t k) ?_
  obtain ⟨fs, hr, hrun, hended, hRW⟩ := X972.leaveW hS (by rw [hh978]; first | exact hk979 | exact Nat.le_refl _) (v := some (.ref w27)) (fun h => by rw [Bd.returns] at h; cases h)
  refine own_end (t := T972.setFrames fs) ?_ ⟨_, hrun, hended, _, _, rfl, ?_, own_rmono hRW (by decide) (by decide)⟩
  · jvm_step X972.here [X972.here.top, hx, (hb hby d2_7), X972.method', Bd.returns, Value.isRef, FieldType.isReference]
    first | (intro acts; rw [hr _ acts rfl rfl rfl]) | rw [hr _ _ rfl rfl rfl]
    exact Steps.refl _
  · show Q39 Z w24 w27 h0 n0 _ T972.heap _
    rw [hh978]
    exact ⟨rfl, N972, rfl⟩
def Q40 (Z : State) (w27 : Addr) (a990 : Addr) (h0 : Heap) (n0 : Nat) (v : Option Value) (h : Heap) (L : List Loc) : Prop := v = some (.ref w27) ∧ Fr n0 L ∧ h = h0
set_option maxRecDepth 65536 in
set_option maxHeartbeats 40000000 in
theorem rm40 (l : Launch) (Z : State) (a0 : Array Value) (hw : ∀ d ∈ tables_1, d.before a0 Z = true) (ws : List Jvm.Cond) (w27 : Addr) (a990 : Addr) (h0 : Heap) (n0 : Nat) (O0 : Old Z n0 h0) :
    MetFree l (⟨zs15, zs21, zs9⟩ : MethodName) (head1 (Jvm.Cond.code (⟨zs15, zs21, zs9⟩ : MethodName) jdk_31_method_11_code 2 (some (.object zs5)) :: ws) ({ frames := 0, cells := 0, slots := 0, locals := 0 } : Room)) (fun a U => a = #[(.ref w27), (.ref a990)] ∧ Z.Warmed39 U.vm ∧ U.heap = h0) (fun _ _ _ _ _ => True) (fun _ U o U' => ∃ v L, o = .returned v ∧ Q40 Z w27 a990 h0 n0 v U'.heap L ∧ ReturnedEndW U o U' L ({ frames := 0, cells := 0, slots := 0, locals := 0 } : Room).cells ({ frames := 0, cells := 0, slots := 0, locals := 0 } : Room).slots) := by
  refine MetFree.of_bodySF (plainFor_of_name pn_5) hisR ?_
  intro p e s m args below meth c s₁ Bd hml0 hP hK
  obtain ⟨rfl, hZ, hh⟩ := hP
  have hx := Bd.exec
  have hby := Bd.bytes
  have hml : c.maxLocals = 2 := hml0
  have hown : s.vm.findClass zs15 = some m.cls := findClass_of_methodNamed Bd.named
  have hnm := (name_of_methodNamed Bd.named Bd.method).1
  have X0 : Stand p l e ({ frames := 0, cells := 0, slots := 0, locals := 0 } : Room) (s.setVm s.vm) m #[(.ref w27), (.ref a990)] below meth c s₁ [] 0 0 := Stand.of_body Bd
  have hS : s.Since s.vm 0 := (State.WarmedH.refl s).since 0
  obtain ⟨k0, hk0, hS⟩ : ∃ k0, k0 ≤ h0.size ∧ s.Since s.vm k0 := ⟨0, Nat.zero_le _, hS⟩
  have hZ : Z.Warmed39 (s.setVm s.vm).vm := hZ
  have hown : (s.setVm s.vm).vm.findClass zs15 = some m.cls := hown
  have e0 : s₁.heap = h0 := by rw [← hh, Bd.state]; rfl
  have N0 := Fr.nil n0
  refine own_out ?_
  refine own_via (fun t k => castTop (ef_9 m w27 a990) (XS.aloadN X0.here hx rfl (hb hby d5_0) rfl rfl (XS.ifnonnullYes X0.here hx rfl (pc0 := 1) (pc' := 13) rfl (hb hby d5_1) rfl (by decide) (by decide) (XS.aloadN X0.here hx rfl (hb hby d5_13) rfl rfl k)))) ?_
  show own_Goes p e below (s₁.setTop (mkF m 14 #[rv w27, rv a990] [(.ref w27)])) _
  obtain ⟨fs, hr, hrun, hended, hRW⟩ := X0.leaveW hS (by rw [e0]; first | exact hk0 | exact Nat.le_refl _) (v := some (.ref w27)) (fun h => by rw [Bd.returns] at h; cases h)
  refine own_end (t := s₁.setFrames fs) ?_ ⟨_, hrun, hended, _, _, rfl, ?_, own_rmono hRW (by decide) (by decide)⟩
  · jvm_step X0.here [X0.here.top, hx, (hb hby d5_14), X0.method', Bd.returns, Value.isRef, FieldType.isReference]
    first | (intro acts; rw [hr _ acts rfl rfl rfl]) | rw [hr _ _ rfl rfl rfl]
    exact Steps.refl _
  · show Q40 Z w27 a990 h0 n0 _ s₁.heap _
    rw [e0]
    exact ⟨rfl, N0, rfl⟩
theorem d6_11 : decode jdk_32_method_6_code 11 = .ok (.iconst 0, 1) := by decide +kernel
def Q41 (Z : State) (w27 : Addr) (h0 : Heap) (n0 : Nat) (v : Option Value) (h : Heap) (L : List Loc) : Prop := v = some (.int (0 : Int32)) ∧ Fr n0 L ∧ h = h0
set_option maxRecDepth 65536 in
set_option maxHeartbeats 40000000 in
theorem rm41 (l : Launch) (Z : State) (a0 : Array Value) (hw : ∀ d ∈ tables_1, d.before a0 Z = true) (ws : List Jvm.Cond) (w27 : Addr) (h0 : Heap) (n0 : Nat) (O0 : Old Z n0 h0) (SF_w27_value : Fld Z Z.heap w27 zs2 "value" zs3 .null) :
    MetFree l (⟨zs2, "isPresent", "()Z"⟩ : MethodName) (head1 (Jvm.Cond.code (⟨zs2, "isPresent", "()Z"⟩ : MethodName) jdk_32_method_6_code 1 (some .boolean) :: ws) ({ frames := 0, cells := 0, slots := 0, locals := 0 } : Room)) (fun a U => a = #[(.ref w27)] ∧ Z.Warmed39 U.vm ∧ U.heap = h0) (fun _ _ _ _ _ => True) (fun _ U o U' => ∃ v L, o = .returned v ∧ Q41 Z w27 h0 n0 v U'.heap L ∧ ReturnedEndW U o U' L ({ frames := 0, cells := 0, slots := 0, locals := 0 } : Room).cells ({ frames := 0, cells := 0, slots := 0, locals := 0 } : Room).slots) := by
  refine MetFree.of_bodySF (plainFor_of_name pn_4) hisR ?_
  intro p e s m args below meth c s₁ Bd hml0 hP hK
  obtain ⟨rfl, hZ, hh⟩ := hP
  have hx := Bd.exec
  have hby := Bd.bytes
  have hml : c.maxLocals = 1 := hml0
  have hown : s.vm.findClass zs2 = some m.cls := findClass_of_methodNamed Bd.named
  have hnm := (name_of_methodNamed Bd.named Bd.method).1
  have X0 : Stand p l e ({ frames := 0, cells := 0, slots := 0, locals := 0 } : Room) (s.setVm s.vm) m #[(.ref w27)] below meth c s₁ [] 0 0 := Stand.of_body Bd
  have hS : s.Since s.vm 0 := (State.WarmedH.refl s).since 0
  obtain ⟨k0, hk0, hS⟩ : ∃ k0, k0 ≤ h0.size ∧ s.Since s.vm k0 := ⟨0, Nat.zero_le _, hS⟩
  have hZ : Z.Warmed39 (s.setVm s.vm).vm := hZ
  have hown : (s.setVm s.vm).vm.findClass zs2 = some m.cls := hown
  have e0 : s₁.heap = h0 := by rw [← hh, Bd.state]; rfl
  have N0 := Fr.nil n0
  refine own_out ?_
  refine own_via (fun t k => castTop (ef_10 m w27) (XS.aloadN X0.here hx rfl (hb hby d6_0) rfl rfl k)) ?_
  obtain ⟨T1003, X1003, e1003, st1003⟩ := getF X0 hx hZ hown (host := "") (Or.inl (wd hw 38 rfl)) Via.refl e0 (SF_w27_value.ext O0.2) (g := (mkF m 1 #[rv w27] [(.ref w27)])) rfl rfl (hb hby d6_1)
  refine own_via (fun t k => st1003 t (XS.ifnullYes X1003.here hx rfl (pc0 := 4) (pc' := 11) rfl (hb hby d6_4) rfl (by decide) (by decide) (XS.iconst X1003.here hx rfl (hb hby d6_11) k))) ?_
  show own_Goes p e below (T1003.setTop (mkF m 12 #[rv w27] [(.int (0 : Int32))])) _
  obtain ⟨fs, hr, hrun, hended, hRW⟩ := X1003.leaveW hS (by rw [e1003]; first | exact hk0 | exact Nat.le_refl _) (v := some (.int (0 : Int32))) (fun h => by rw [Bd.returns] at h; cases h)
  refine own_end (t := T1003.setFrames fs) ?_ ⟨_, hrun, hended, _, _, rfl, ?_, own_rmono hRW (by decide) (by decide)⟩
  · exact retN X1003 hx (t := .boolean) Bd.returns (by simp) (hb hby d6_12) hr
  · show Q41 Z w27 h0 n0 _ T1003.heap _
    rw [e1003]
    exact ⟨rfl, N0, rfl⟩
theorem d4_24 : decode prog_1_method_5_code 24 = .ok (.invokestatic 49, 3) := by decide +kernel
def Q42 (Z : State) (w27 : Addr) (w24 : Addr) (h0 : Heap) (n0 : Nat) (v : Option Value) (h : Heap) (L : List Loc) : Prop := v = some (.ref w24) ∧ Fr n0 L ∧ Keep h0 h []
set_option maxRecDepth 65536 in
set_option maxHeartbeats 40000000 in
theorem rm42 (l : Launch) (Z : State) (a0 : Array Value) (hw : ∀ d ∈ tables_1, d.before a0 Z = true) (ws : List Jvm.Cond) (w27 : Addr) (w24 : Addr) (h0 : Heap) (n0 : Nat) (O0 : Old Z n0 h0) (SF_w27_value : Fld Z Z.heap w27 zs2 "value" zs3 .null) (SE_w27 : Exa Z Z.heap w27 zs2) (S_Tertium_ABSENT : Sta Z Z.heap zs1 "ABSENT" zs12 (.ref w24)) :
    MetFree l (⟨zs1, zs16, zs7⟩ : MethodName) (head1 (Jvm.Cond.code (⟨zs1, zs16, zs7⟩ : MethodName) prog_1_method_5_code 1 (some (.object zs1)) :: ws) ({ frames := 1, cells := 2, slots := 36, locals := 13 } : Room)) (fun a U => a = #[(.ref w27)] ∧ Z.Warmed39 U.vm ∧ U.heap = h0) (fun _ _ _ _ _ => True) (fun _ U o U' => ∃ v L, o = .returned v ∧ Q42 Z w27 w24 h0 n0 v U'.heap L ∧ ReturnedEndW U o U' L ({ frames := 1, cells := 2, slots := 36, locals := 13 } : Room).cells ({ frames := 1, cells := 2, slots := 36, locals := 13 } : Room).slots) := by
  refine MetFree.of_bodySF (plainFor_of_name pn_3) hisR ?_
  intro p e s m args below meth c s₁ Bd hml0 hP hK
  obtain ⟨rfl, hZ, hh⟩ := hP
  have hx := Bd.exec
  have hby := Bd.bytes
  have hml : c.maxLocals = 1 := hml0
  have hown : s.vm.findClass zs1 = some m.cls := findClass_of_methodNamed Bd.named
  have hnm := (name_of_methodNamed Bd.named Bd.method).1
  have X0 : Stand p l e ({ frames := 1, cells := 2, slots := 36, locals := 13 } : Room) (s.setVm s.vm) m #[(.ref w27)] below meth c s₁ [] 0 0 := Stand.of_body Bd
  have hS : s.Since s.vm 0 := (State.WarmedH.refl s).since 0
  obtain ⟨k0, hk0, hS⟩ : ∃ k0, k0 ≤ h0.size ∧ s.Since s.vm k0 := ⟨0, Nat.zero_le _, hS⟩
  have hZ : Z.Warmed39 (s.setVm s.vm).vm := hZ
  have hown : (s.setVm s.vm).vm.findClass zs1 = some m.cls := hown
  have e0 : s₁.heap = h0 := by rw [← hh, Bd.state]; rfl
  have N0 := Fr.nil n0
  refine own_out ?_
  refine own_via (fun t k => castTop (ef_12 m w27) (XS.aloadN X0.here hx rfl (hb hby d4_0) rfl rfl k)) ?_
  obtain ⟨b988, T987, h987, k987, X987, e987, E987, hS, hk987, hZ, hown, st987⟩ := ldcS X0 hx hZ hown (wd hw 21 rfl) (own_strAtoms hw) e0 hS hk0 (g := (mkF m 1 #[rv w27] [(.ref w27)])) rfl (hb hby d4_1) (n := 32) (by decide) (by decide) (by decide) (by decide)
  refine own_via (fun t k => st987 t k) ?_
  have O995 : Old Z n0 h987 := (O0.ext E987)
  obtain ⟨_, T989, _, X989, hQ989, hS, hZ, hown, st989⟩ := own_csS X987 hx hZ hS hk987 hown (wd hw 29 rfl) (wd hw 30 rfl) (wd hw 32 rfl) (wd hw 31 rfl) (by decide) (rm40 l Z a0 hw [] w27 b988 h987 n0 O995 ) e987 (g := (mkF m 3 #[rv w27] [(.ref b988), (.ref w27)])) rfl (by rw [hml]; rfl) (rest := []) (W := 0) (lenOf pd_8 rfl) rfl (by show 2 * 0 + _ ≤ _; exact Nat.le_of_eq rfl) (hb hby d4_3) (by decide) (by decide) (by decide) (by decide)
  obtain ⟨rfl, Nq989, hh996⟩ := hQ989
  have N989 := Fr.app N0 Nq989
  have hk997 : T989.heap.size ≤ h987.size := Nat.le_of_eq (congrArg Array.size hh996)
  refine own_via (fun t k => st989 t (XS.pop X989.here hx rfl (hb hby d4_6) rfl rfl (XS.aloadN X989.here hx rfl (hb hby d4_7) rfl rfl k))) ?_
  show own_Goes p e below (T989.setTop (mkF m 8 #[rv w27] [(.ref w27)])) _
  obtain ⟨_, T998, _, X998, hQ998, hS, hZ, hown, st998⟩ := own_cvS X989 hx hZ hS hk997 hown (wd hw 33 rfl) (wd hw 34 rfl) (wd hw 36 rfl) (wd hw 35 rfl) (wd hw 37 rfl) (wd hw 15 rfl) (by decide) (rm41 l Z a0 hw [] w27 h987 n0 O995 SF_w27_value) hh996 (SE_w27.ext O995.2) (g := (mkF m 8 #[rv w27] [(.ref w27)])) rfl (by rw [hml]; rfl) (rest := []) (W := 0) (lenOf pd_9 rfl) rfl (by show 2 * 0 + _ ≤ _; exact Nat.le_of_eq rfl) (hb hby d4_8) (by decide) (by decide) (by decide) (by decide)
  obtain ⟨rfl, Nq998, hh1004⟩ := hQ998
  have N998 := Fr.app N989 Nq998
  have hk1005 : T998.heap.size ≤ h987.size := Nat.le_of_eq (congrArg Array.size hh1004)
  refine own_via (fun t k => st998 t (XS.ifYes X998.here hx rfl (pc0 := 11) (pc' := 24) rfl (hb hby d4_11) rfl ((if0 _ _).trans (teq (by decide : (0 : Int32) = (0 : Int32))).1) (by decide) (by decide) k)) ?_
  obtain ⟨_, T1006, _, X1006, hQ1006, hS, hZ, hown, st1006⟩ := own_csS X998 hx hZ hS hk1005 hown (wd hw 40 rfl) (wd hw 41 rfl) (wd hw 42 rfl) (wd hw 2 rfl) (by decide) (rm37 l Z a0 hw [] w24 h987 n0 O995 S_Tertium_ABSENT) hh1004 (g := (mkF m 24 #[rv w27] [])) rfl (by rw [hml]; rfl) (rest := []) (W := 0) (lenOf pd_13 rfl) rfl (by show 2 * 0 + _ ≤ _; exact Nat.le_of_eq rfl) (hb hby d4_24) (by decide) (by decide) (by decide) (by decide)
  obtain ⟨rfl, Nq1006, hh1007⟩ := hQ1006
  have N1006 := Fr.app N998 Nq1006
  have hk1008 : T1006.heap.size ≤ h987.size := Nat.le_of_eq (congrArg Array.size hh1007)
  refine own_via (fun t k => st1006 t k) ?_
  obtain ⟨fs, hr, hrun, hended, hRW⟩ := X1006.leaveW hS (by rw [hh1007]; first | exact hk1008 | exact Nat.le_refl _) (v := some (.ref w24)) (fun h => by rw [Bd.returns] at h; cases h)
  refine own_end (t := T1006.setFrames fs) ?_ ⟨_, hrun, hended, _, _, rfl, ?_, own_rmono hRW (by decide) (by decide)⟩
  · jvm_step X1006.here [X1006.here.top, hx, (hb hby d4_27), X1006.method', Bd.returns, Value.isRef, FieldType.isReference]
    first | (intro acts; rw [hr _ acts rfl rfl rfl]) | rw [hr _ _ rfl rfl rfl]
    exact Steps.refl _
  · show Q42 Z w27 w24 h0 n0 _ T1006.heap _
    rw [hh1007]
    exact ⟨rfl, N1006, ((Keep.refl h0 []).ext E987)⟩
theorem d8_7 : decode prog_1_method_9_code 7 = .ok (.iconst 1, 1) := by decide +kernel
theorem d8_8 : decode prog_1_method_9_code 8 = .ok (.goto 4, 3) := by decide +kernel
def Q43 (Z : State) (w24 : Addr) (h0 : Heap) (n0 : Nat) (v : Option Value) (h : Heap) (L : List Loc) : Prop := v = some (.int (1 : Int32)) ∧ Fr n0 L ∧ h = h0
set_option maxRecDepth 65536 in
set_option maxHeartbeats 40000000 in
theorem rm43 (l : Launch) (Z : State) (a0 : Array Value) (hw : ∀ d ∈ tables_1, d.before a0 Z = true) (ws : List Jvm.Cond) (w24 : Addr) (h0 : Heap) (n0 : Nat) (O0 : Old Z n0 h0) (S_Tertium_ABSENT : Sta Z Z.heap zs1 "ABSENT" zs12 (.ref w24)) :
    MetFree l (⟨zs1, "isAbsent", "()Z"⟩ : MethodName) (head1 (Jvm.Cond.code (⟨zs1, "isAbsent", "()Z"⟩ : MethodName) prog_1_method_9_code 1 (some .boolean) :: ws) ({ frames := 0, cells := 0, slots := 0, locals := 0 } : Room)) (fun a U => a = #[(.ref w24)] ∧ Z.Warmed39 U.vm ∧ U.heap = h0) (fun _ _ _ _ _ => True) (fun _ U o U' => ∃ v L, o = .returned v ∧ Q43 Z w24 h0 n0 v U'.heap L ∧ ReturnedEndW U o U' L ({ frames := 0, cells := 0, slots := 0, locals := 0 } : Room).cells ({ frames := 0, cells := 0, slots := 0, locals := 0 } : Room).slots) := by
  refine MetFree.of_bodySF (plainFor_of_name pn_3) hisR ?_
  intro p e s m args below meth c s₁ Bd hml0 hP hK
  obtain ⟨rfl, hZ, hh⟩ := hP
  have hx := Bd.exec
  have hby := Bd.bytes
  have hml : c.maxLocals = 1 := hml0
  have hown : s.vm.findClass zs1 = some m.cls := findClass_of_methodNamed Bd.named
  have hnm := (name_of_methodNamed Bd.named Bd.method).1
  have X0 : Stand p l e ({ frames := 0, cells := 0, slots := 0, locals := 0 } : Room) (s.setVm s.vm) m #[(.ref w24)] below meth c s₁ [] 0 0 := Stand.of_body Bd
  have hS : s.Since s.vm 0 := (State.WarmedH.refl s).since 0
  obtain ⟨k0, hk0, hS⟩ : ∃ k0, k0 ≤ h0.size ∧ s.Since s.vm k0 := ⟨0, Nat.zero_le _, hS⟩
  have hZ : Z.Warmed39 (s.setVm s.vm).vm := hZ
  have hown : (s.setVm s.vm).vm.findClass zs1 = some m.cls := hown
  have e0 : s₁.heap = h0 := by rw [← hh, Bd.state]; rfl
  have N0 := Fr.nil n0
  refine own_out ?_
  refine own_via (fun t k => castTop (ef_13 m w24) (XS.aloadN X0.here hx rfl (hb hby d8_0) rfl rfl k)) ?_
  obtain ⟨T1015, X1015, e1015, st1015⟩ := getS2 X0 hx hZ hown (host := "") (Or.inl (wd hw 43 rfl)) Via.refl e0 (S_Tertium_ABSENT.ext O0.2) (g := (mkF m 1 #[rv w24] [(.ref w24)])) rfl (hb hby d8_1)
  refine own_via (fun t k => st1015 t (Jvm.RoadKit.acmp (g := (mkF m 4 #[rv w24] [(.ref w24), (.ref w24)])) X1015 hx rfl rfl rfl (pc0 := 4) (pc' := 7) (same := true) rfl (hb hby d8_4) rfl (decide_eq_true rfl) (by decide) (by decide) (XS.iconst X1015.here hx rfl (hb hby d8_7) (XS.goto X1015.here hx rfl (pc0 := 8) (pc' := 12) rfl (hb hby d8_8) (by decide) (by decide) k)))) ?_
  show own_Goes p e below (T1015.setTop (mkF m 12 #[rv w24] [(.int (1 : Int32))])) _
  obtain ⟨fs, hr, hrun, hended, hRW⟩ := X1015.leaveW hS (by rw [e1015]; first | exact hk0 | exact Nat.le_refl _) (v := some (.int (1 : Int32))) (fun h => by rw [Bd.returns] at h; cases h)
  refine own_end (t := T1015.setFrames fs) ?_ ⟨_, hrun, hended, _, _, rfl, ?_, own_rmono hRW (by decide) (by decide)⟩
  · exact retN X1015 hx (t := .boolean) Bd.returns (by simp) (hb hby d8_12) hr
  · show Q43 Z w24 h0 n0 _ T1015.heap _
    rw [e1015]
    exact ⟨rfl, N0, rfl⟩
def Q44 (Z : State) (w24 : Addr) (w21 : Addr) (h0 : Heap) (n0 : Nat) (v : Option Value) (h : Heap) (L : List Loc) : Prop := v = some (.int (0 : Int32)) ∧ Fr n0 L ∧ h = h0
set_option maxRecDepth 65536 in
set_option maxHeartbeats 40000000 in
theorem rm44 (l : Launch) (Z : State) (a0 : Array Value) (hw : ∀ d ∈ tables_1, d.before a0 Z = true) (ws : List Jvm.Cond) (w24 : Addr) (w21 : Addr) (h0 : Heap) (n0 : Nat) (O0 : Old Z n0 h0) (S_Tertium_NULL : Sta Z Z.heap zs1 "NULL" zs12 (.ref w21)) (pN_w24_w21 : w24 ≠ w21) :
    MetFree l (⟨zs1, "isNull", "()Z"⟩ : MethodName) (head1 (Jvm.Cond.code (⟨zs1, "isNull", "()Z"⟩ : MethodName) prog_1_method_11_code 1 (some .boolean) :: ws) ({ frames := 0, cells := 0, slots := 0, locals := 0 } : Room)) (fun a U => a = #[(.ref w24)] ∧ Z.Warmed39 U.vm ∧ U.heap = h0) (fun _ _ _ _ _ => True) (fun _ U o U' => ∃ v L, o = .returned v ∧ Q44 Z w24 w21 h0 n0 v U'.heap L ∧ ReturnedEndW U o U' L ({ frames := 0, cells := 0, slots := 0, locals := 0 } : Room).cells ({ frames := 0, cells := 0, slots := 0, locals := 0 } : Room).slots) := by
  refine MetFree.of_bodySF (plainFor_of_name pn_3) hisR ?_
  intro p e s m args below meth c s₁ Bd hml0 hP hK
  obtain ⟨rfl, hZ, hh⟩ := hP
  have hx := Bd.exec
  have hby := Bd.bytes
  have hml : c.maxLocals = 1 := hml0
  have hown : s.vm.findClass zs1 = some m.cls := findClass_of_methodNamed Bd.named
  have hnm := (name_of_methodNamed Bd.named Bd.method).1
  have X0 : Stand p l e ({ frames := 0, cells := 0, slots := 0, locals := 0 } : Room) (s.setVm s.vm) m #[(.ref w24)] below meth c s₁ [] 0 0 := Stand.of_body Bd
  have hS : s.Since s.vm 0 := (State.WarmedH.refl s).since 0
  obtain ⟨k0, hk0, hS⟩ : ∃ k0, k0 ≤ h0.size ∧ s.Since s.vm k0 := ⟨0, Nat.zero_le _, hS⟩
  have hZ : Z.Warmed39 (s.setVm s.vm).vm := hZ
  have hown : (s.setVm s.vm).vm.findClass zs1 = some m.cls := hown
  have e0 : s₁.heap = h0 := by rw [← hh, Bd.state]; rfl
  have N0 := Fr.nil n0
  refine own_out ?_
  refine own_via (fun t k => castTop (ef_14 m w24) (XS.aloadN X0.here hx rfl (hb hby d9_0) rfl rfl k)) ?_
  obtain ⟨T1024, X1024, e1024, st1024⟩ := getS2 X0 hx hZ hown (host := "") (Or.inl (wd hw 4 rfl)) Via.refl e0 (S_Tertium_NULL.ext O0.2) (g := (mkF m 1 #[rv w24] [(.ref w24)])) rfl (hb hby d9_1)
  refine own_via (fun t k => st1024 t (Jvm.RoadKit.acmp (g := (mkF m 4 #[rv w24] [(.ref w21), (.ref w24)])) X1024 hx rfl rfl rfl (pc0 := 4) (pc' := 11) (same := false) rfl (hb hby d9_4) rfl (decide_eq_false fun q => pN_w24_w21 (Value.ref.inj q)) (by decide) (by decide) (XS.iconst X1024.here hx rfl (hb hby d9_11) k))) ?_
  show own_Goes p e below (T1024.setTop (mkF m 12 #[rv w24] [(.int (0 : Int32))])) _
  obtain ⟨fs, hr, hrun, hended, hRW⟩ := X1024.leaveW hS (by rw [e1024]; first | exact hk0 | exact Nat.le_refl _) (v := some (.int (0 : Int32))) (fun h => by rw [Bd.returns] at h; cases h)
  refine own_end (t := T1024.setFrames fs) ?_ ⟨_, hrun, hended, _, _, rfl, ?_, own_rmono hRW (by decide) (by decide)⟩
  · exact retN X1024 hx (t := .boolean) Bd.returns (by simp) (hb hby d9_12) hr
  · show Q44 Z w24 w21 h0 n0 _ T1024.heap _
    rw [e1024]
    exact ⟨rfl, N0, rfl⟩
theorem d1_0 : decode prog_1_method_3_code 0 = .ok (.getstatic 17, 3) := by decide +kernel
theorem d1_3 : decode prog_1_method_3_code 3 = .ok (.areturn, 1) := by decide +kernel
theorem ef_19 (m : MethodId)  : entryFrame m #[] 0 = mkF m 0 #[] [] := by first | (simp [entryFrame, mkF, argsToLocals, Value.category]; done) | rfl
def Q45 (Z : State) (w21 : Addr) (h0 : Heap) (n0 : Nat) (v : Option Value) (h : Heap) (L : List Loc) : Prop := v = some (.ref w21) ∧ Fr n0 L ∧ h = h0
set_option maxRecDepth 65536 in
set_option maxHeartbeats 40000000 in
theorem rm45 (l : Launch) (Z : State) (a0 : Array Value) (hw : ∀ d ∈ tables_1, d.before a0 Z = true) (ws : List Jvm.Cond) (w21 : Addr) (h0 : Heap) (n0 : Nat) (O0 : Old Z n0 h0) (S_Tertium_NULL : Sta Z Z.heap zs1 "NULL" zs12 (.ref w21)) :
    MetFree l (⟨zs1, "ofNull", zs18⟩ : MethodName) (head1 (Jvm.Cond.code (⟨zs1, "ofNull", zs18⟩ : MethodName) prog_1_method_3_code 0 (some (.object zs1)) :: ws) ({ frames := 0, cells := 0, slots := 0, locals := 0 } : Room)) (fun a U => a = #[] ∧ Z.Warmed39 U.vm ∧ U.heap = h0) (fun _ _ _ _ _ => True) (fun _ U o U' => ∃ v L, o = .returned v ∧ Q45 Z w21 h0 n0 v U'.heap L ∧ ReturnedEndW U o U' L ({ frames := 0, cells := 0, slots := 0, locals := 0 } : Room).cells ({ frames := 0, cells := 0, slots := 0, locals := 0 } : Room).slots) := by
  refine MetFree.of_bodySF (plainFor_of_name pn_3) hisR ?_
  intro p e s m args below meth c s₁ Bd hml0 hP hK
  obtain ⟨rfl, hZ, hh⟩ := hP
  have hx := Bd.exec
  have hby := Bd.bytes
  have hml : c.maxLocals = 0 := hml0
  have hown : s.vm.findClass zs1 = some m.cls := findClass_of_methodNamed Bd.named
  have hnm := (name_of_methodNamed Bd.named Bd.method).1
  have X0 : Stand p l e ({ frames := 0, cells := 0, slots := 0, locals := 0 } : Room) (s.setVm s.vm) m #[] below meth c s₁ [] 0 0 := Stand.of_body Bd
  have hS : s.Since s.vm 0 := (State.WarmedH.refl s).since 0
  obtain ⟨k0, hk0, hS⟩ : ∃ k0, k0 ≤ h0.size ∧ s.Since s.vm k0 := ⟨0, Nat.zero_le _, hS⟩
  have hZ : Z.Warmed39 (s.setVm s.vm).vm := hZ
  have hown : (s.setVm s.vm).vm.findClass zs1 = some m.cls := hown
  have e0 : s₁.heap = h0 := by rw [← hh, Bd.state]; rfl
  have N0 := Fr.nil n0
  refine own_out ?_
  refine own_via (fun t k => castTop (ef_19 m ) k) ?_
  obtain ⟨T1033, X1033, e1033, st1033⟩ := getS2 X0 hx hZ hown (host := "") (Or.inl (wd hw 4 rfl)) Via.refl e0 (S_Tertium_NULL.ext O0.2) (g := (mkF m 0 #[] [])) rfl (hb hby d1_0)
  refine own_via (fun t k => st1033 t k) ?_
  obtain ⟨fs, hr, hrun, hended, hRW⟩ := X1033.leaveW hS (by rw [e1033]; first | exact hk0 | exact Nat.le_refl _) (v := some (.ref w21)) (fun h => by rw [Bd.returns] at h; cases h)
  refine own_end (t := T1033.setFrames fs) ?_ ⟨_, hrun, hended, _, _, rfl, ?_, own_rmono hRW (by decide) (by decide)⟩
  · jvm_step X1033.here [X1033.here.top, hx, (hb hby d1_3), X1033.method', Bd.returns, Value.isRef, FieldType.isReference]
    first | (intro acts; rw [hr _ acts rfl rfl rfl]) | rw [hr _ _ rfl rfl rfl]
    exact Steps.refl _
  · show Q45 Z w21 h0 n0 _ T1033.heap _
    rw [e1033]
    exact ⟨rfl, N0, rfl⟩
def Q46 (Z : State) (w21 : Addr) (w27 : Addr) (h0 : Heap) (n0 : Nat) (v : Option Value) (h : Heap) (L : List Loc) : Prop := v = some (.ref w27) ∧ Fr n0 L ∧ h = h0
set_option maxRecDepth 65536 in
set_option maxHeartbeats 40000000 in
theorem rm46 (l : Launch) (Z : State) (a0 : Array Value) (hw : ∀ d ∈ tables_1, d.before a0 Z = true) (ws : List Jvm.Cond) (w21 : Addr) (w27 : Addr) (h0 : Heap) (n0 : Nat) (O0 : Old Z n0 h0) (SF_w21_value : Fld Z Z.heap w21 zs1 "value" zs3 .null) (S_Optional_EMPTY : Sta Z Z.heap zs2 "EMPTY" zs17 (.ref w27)) :
    MetFree l (⟨zs1, "toOptional", zs13⟩ : MethodName) (head1 (Jvm.Cond.code (⟨zs1, "toOptional", zs13⟩ : MethodName) prog_1_method_24_code 1 (some (.object zs2)) :: ws) ({ frames := 1, cells := 0, slots := 0, locals := 12 } : Room)) (fun a U => a = #[(.ref w21)] ∧ Z.Warmed39 U.vm ∧ U.heap = h0) (fun _ _ _ _ _ => True) (fun _ U o U' => ∃ v L, o = .returned v ∧ Q46 Z w21 w27 h0 n0 v U'.heap L ∧ ReturnedEndW U o U' L ({ frames := 1, cells := 0, slots := 0, locals := 12 } : Room).cells ({ frames := 1, cells := 0, slots := 0, locals := 12 } : Room).slots) := by
  refine MetFree.of_bodySF (plainFor_of_name pn_3) hisR ?_
  intro p e s m args below meth c s₁ Bd hml0 hP hK
  obtain ⟨rfl, hZ, hh⟩ := hP
  have hx := Bd.exec
  have hby := Bd.bytes
  have hml : c.maxLocals = 1 := hml0
  have hown : s.vm.findClass zs1 = some m.cls := findClass_of_methodNamed Bd.named
  have hnm := (name_of_methodNamed Bd.named Bd.method).1
  have X0 : Stand p l e ({ frames := 1, cells := 0, slots := 0, locals := 12 } : Room) (s.setVm s.vm) m #[(.ref w21)] below meth c s₁ [] 0 0 := Stand.of_body Bd
  have hS : s.Since s.vm 0 := (State.WarmedH.refl s).since 0
  obtain ⟨k0, hk0, hS⟩ : ∃ k0, k0 ≤ h0.size ∧ s.Since s.vm k0 := ⟨0, Nat.zero_le _, hS⟩
  have hZ : Z.Warmed39 (s.setVm s.vm).vm := hZ
  have hown : (s.setVm s.vm).vm.findClass zs1 = some m.cls := hown
  have e0 : s₁.heap = h0 := by rw [← hh, Bd.state]; rfl
  have N0 := Fr.nil n0
  refine own_out ?_
  refine own_via (fun t k => castTop (ef_8 m w21) (XS.aloadN X0.here hx rfl (hb hby d2_0) rfl rfl k)) ?_
  obtain ⟨T1041, X1041, e1041, st1041⟩ := getF X0 hx hZ hown (host := "") (Or.inl (wd hw 11 rfl)) Via.refl e0 (SF_w21_value.ext O0.2) (g := (mkF m 1 #[rv w21] [(.ref w21)])) rfl rfl (hb hby d2_1)
  refine own_via (fun t k => st1041 t k) ?_
  obtain ⟨_, T1042, _, X1042, hQ1042, hS, hZ, hown, st1042⟩ := own_csS X1041 hx hZ hS hk0 hown (wd hw 13 rfl) (wd hw 14 rfl) (wd hw 16 rfl) (wd hw 15 rfl) (by decide) (rm38 l Z a0 hw [] w27 h0 n0 O0 S_Optional_EMPTY) e1041 (g := (mkF m 4 #[rv w21] [.null])) rfl (by rw [hml]; rfl) (rest := []) (W := 0) (lenOf pd_6 rfl) rfl (by show 2 * 0 + _ ≤ _; exact Nat.le_of_eq rfl) (hb hby d2_4) (by decide) (by decide) (by decide) (by decide)
  obtain ⟨rfl, Nq1042, hh1043⟩ := hQ1042
  have N1042 := Fr.app N0 Nq1042
  have hk1044 : T1042.heap.size ≤ h0.size := Nat.le_of_eq (congrArg Array.size hh1043)
  refine own_via (fun t k => st1042 t k) ?_
  obtain ⟨fs, hr, hrun, hended, hRW⟩ := X1042.leaveW hS (by rw [hh1043]; first | exact hk1044 | exact Nat.le_refl _) (v := some (.ref w27)) (fun h => by rw [Bd.returns] at h; cases h)
  refine own_end (t := T1042.setFrames fs) ?_ ⟨_, hrun, hended, _, _, rfl, ?_, own_rmono hRW (by decide) (by decide)⟩
  · jvm_step X1042.here [X1042.here.top, hx, (hb hby d2_7), X1042.method', Bd.returns, Value.isRef, FieldType.isReference]
    first | (intro acts; rw [hr _ acts rfl rfl rfl]) | rw [hr _ _ rfl rfl rfl]
    exact Steps.refl _
  · show Q46 Z w21 w27 h0 n0 _ T1042.heap _
    rw [hh1043]
    exact ⟨rfl, N1042, rfl⟩
theorem ef_20 (m : MethodId) (x0 : Int32) (x1 : Int32) : entryFrame m #[(.int x0), (.int x1)] maxLocals = mkF m 0 #[iv x0, iv x1, .unset, .unset, .unset, .unset] [] := by first | (simp [entryFrame, mkF, argsToLocals, Value.category, maxLocals]; done) | rfl
theorem pn_6 : plainName "tertium/TertiumFromOptionalPinLaw" = true := by first | (simp [plainName, overriddenIn]; done) | decide +kernel
set_option maxRecDepth 65536 in
set_option maxHeartbeats 40000000 in
theorem rm0 (l : Launch) (Z : State) (a0 : Array Value) (hw : ∀ d ∈ tables_1, d.before a0 Z = true) (ws : List Jvm.Cond) (i0 : Int32) (i1 : Int32) (w31 : Addr) (cl33 : Cell) (w24 : Addr) (w21 : Addr) (w27 : Addr) (h0 : Heap) (n0 : Nat) (O0 : Old Z n0 h0) (S_Integer_IntegerCache_high : Sta Z Z.heap zs14 "high" "I" (.int (127 : Int32))) (S_Integer_IntegerCache_cache : Sta Z Z.heap zs14 "cache" zs20 (.ref w31)) (BX_w31 : Bxs Z w31 cl33 zs4 "I" (256 : Int32) (fun j => .int (j - (128 : Int32)))) (S_Tertium_ABSENT : Sta Z Z.heap zs1 "ABSENT" zs12 (.ref w24)) (SE_w24 : Exa Z Z.heap w24 zs1) (S_Tertium_NULL : Sta Z Z.heap zs1 "NULL" zs12 (.ref w21)) (SE_w21 : Exa Z Z.heap w21 zs1) (SF_w24_value : Fld Z Z.heap w24 zs1 "value" zs3 .null) (S_Optional_EMPTY : Sta Z Z.heap zs2 "EMPTY" zs17 (.ref w27)) (SF_w27_value : Fld Z Z.heap w27 zs2 "value" zs3 .null) (SE_w27 : Exa Z Z.heap w27 zs2) (SN_w24_w21 : w24 ≠ w21) (SF_w21_value : Fld Z Z.heap w21 zs1 "value" zs3 .null) :
    MetFree l x (head1 (Jvm.Cond.code x code maxLocals ret :: ws) room_1) (fun a U => a = #[(.int i0), (.int i1)] ∧ Z.Warmed39 U.vm ∧ U.heap = h0) (fun _ _ _ _ _ => True) (fun _ U o U' => ∃ v L, o = .returned v ∧ own_Q0 n0 v L ∧ ReturnedEndW U o U' L room_1.cells room_1.slots) := by
  refine MetFree.of_bodySF (plainFor_of_name pn_6) hisR ?_
  intro p e s m args below meth c s₁ Bd hml0 hP hK
  obtain ⟨rfl, hZ, hh⟩ := hP
  have hx := Bd.exec
  have hby := Bd.bytes
  have hml : c.maxLocals = 6 := hml0
  have hown : s.vm.findClass "tertium/TertiumFromOptionalPinLaw" = some m.cls := findClass_of_methodNamed Bd.named
  have hnm := (name_of_methodNamed Bd.named Bd.method).1
  have X0 : Stand p l e room_1 (s.setVm s.vm) m #[(.int i0), (.int i1)] below meth c s₁ [] 0 0 := Stand.of_body Bd
  have hS : s.Since s.vm 0 := (State.WarmedH.refl s).since 0
  obtain ⟨k0, hk0, hS⟩ : ∃ k0, k0 ≤ h0.size ∧ s.Since s.vm k0 := ⟨0, Nat.zero_le _, hS⟩
  have hZ : Z.Warmed39 (s.setVm s.vm).vm := hZ
  have hown : (s.setVm s.vm).vm.findClass "tertium/TertiumFromOptionalPinLaw" = some m.cls := hown
  have e0 : s₁.heap = h0 := by rw [← hh, Bd.state]; rfl
  have N0 := Fr.nil n0
  refine own_out ?_
  show own_Goes p e below _ (own_G s below n0)
  refine own_via (fun t k => castTop (ef_20 m i0 i1) (XS.iloadN X0.here hx rfl (hb hby at_0) rfl (XS.iconst X0.here hx rfl (hb hby at_1) (XS.iand X0.here hx rfl (hb hby at_2) rfl k)))) ?_
  show own_Goes p e below (s₁.setTop (mkF m 3 #[iv i0, iv i1, .unset, .unset, .unset, .unset] [(.int (i1 &&& (3 : Int32)))])) _
  rcases own_and_3 i1 with qs | qs | qs | qs
  · have qs34 := qs
    rw [qs]
    show own_Goes p e below (s₁.setTop (mkF m 3 #[iv i0, iv i1, .unset, .unset, .unset, .unset] [(.int (0 : Int32))])) _
    refine own_via (fun t k => XS.istoreN X0.here hx rfl (hb hby at_3) rfl (l' := #[iv i0, iv i1, iv (0 : Int32), .unset, .unset, .unset]) rfl (XS.iloadN X0.here hx rfl (hb hby at_4) rfl (XS.iconst X0.here hx rfl (hb hby at_5) (XS.icmpYes X0.here hx rfl (pc0 := 6) (pc' := 16) rfl (hb hby at_6) rfl (feq (by decide : ¬ ((0 : Int32) = (2 : Int32)))).2 (by decide) (by decide) (XS.iloadN X0.here hx rfl (hb hby at_16) rfl (XS.iconst X0.here hx rfl (hb hby at_17) (XS.icmpYes X0.here hx rfl (pc0 := 18) (pc' := 28) rfl (hb hby at_18) rfl (feq (by decide : ¬ ((0 : Int32) = (3 : Int32)))).2 (by decide) (by decide) (XS.iloadN X0.here hx rfl (hb hby at_28) rfl k)))))))) ?_
    show own_Goes p e below (s₁.setTop (mkF m 29 #[iv i0, iv i1, iv (0 : Int32), .unset, .unset, .unset] [(.int i0)])) _
    obtain ⟨_, T35, _, X35, hQ35, hS, hZ, hown, st35⟩ := own_csS X0 hx hZ hS hk0 hown (wd hw 55 rfl) (wd hw 56 rfl) (wd hw 58 rfl) (wd hw 57 rfl) (by decide) (rm3 l Z a0 hw [] i0 w31 cl33 h0 n0 O0 S_Integer_IntegerCache_high S_Integer_IntegerCache_cache BX_w31) e0 (g := (mkF m 29 #[iv i0, iv i1, iv (0 : Int32), .unset, .unset, .unset] [(.int i0)])) rfl (by rw [hml]; rfl) (rest := []) (W := 0) (lenOf pd_3 rfl) rfl (by show 2 * 0 + _ ≤ _; exact Nat.le_of_eq rfl) (hb hby at_29) (by decide) (by decide) (by decide) (by decide)
    obtain ⟨h35, e35⟩ : ∃ z, T35.heap = z := ⟨_, rfl⟩
    rw [e35] at hQ35
    rcases hQ35 with ⟨b92, hq93, rfl, Nq35, K35, bx94, ex95, fx96⟩ | ⟨b97, hq98, hq99, rfl, Nq35, K35, bx100, ex101, fx102⟩ | ⟨b103, hq104, hq105, rfl, Nq35, sx106, sx107, hh108⟩
    · have N35 := Fr.app N0 Nq35
      have g109 : n0 ≤ b92 := Nat.le_trans (own_old O0) bx94
      have B110 : h0.size ≤ b92 := Nat.le_trans (Nat.le_refl _) bx94
      have hk111 : T35.heap.size ≤ h35.size := Nat.le_of_eq (congrArg Array.size e35)
      refine own_via (fun t k => st35 t k) ?_
      have O143 : Old Z n0 h35 := (O0.keep K35 all0)
      obtain ⟨_, T112, _, X112, hQ112, hS, hZ, hown, st112⟩ := own_csS X35 hx hZ hS hk111 hown (wd hw 62 rfl) (wd hw 63 rfl) (wd hw 64 rfl) (wd hw 2 rfl) (by decide) (rm5 l Z a0 hw [] b92 h35 n0 O143 ) e35 (g := (mkF m 32 #[iv i0, iv i1, iv (0 : Int32), .unset, .unset, .unset] [(.ref b92)])) rfl (by rw [hml]; rfl) (rest := []) (W := 0) (lenOf pd_5 rfl) rfl (by show 2 * 0 + _ ≤ _; exact Nat.le_of_eq rfl) (hb hby at_32) (by decide) (by decide) (by decide) (by decide)
      obtain ⟨h112, e112⟩ : ∃ z, T112.heap = z := ⟨_, rfl⟩
      rw [e112] at hQ112
      obtain ⟨b144, rfl, Nq112, K112, bx145, ex146, fx147⟩ := hQ112
      have N112 := Fr.app N35 Nq112
      have N148 : b92 ≠ b144 := Nat.ne_of_lt (Nat.lt_of_lt_of_le ex95.lt bx145)
      have g149 : n0 ≤ b144 := Nat.le_trans (own_old O143) bx145
      have Z151 : h0.size ≤ h35.size := (Nat.le_trans (Nat.le_refl _) K35.1)
      have B150 : h0.size ≤ b144 := Nat.le_trans Z151 bx145
      have hk152 : T112.heap.size ≤ h112.size := Nat.le_of_eq (congrArg Array.size e112)
      refine own_via (fun t k => st112 t (XS.astoreN X112.here hx rfl (hb hby at_35) rfl rfl (l' := #[iv i0, iv i1, iv (0 : Int32), rv b144, .unset, .unset]) rfl (XS.aloadN X112.here hx rfl (hb hby at_36) rfl rfl k))) ?_
      show own_Goes p e below (T112.setTop (mkF m 37 #[iv i0, iv i1, iv (0 : Int32), rv b144, .unset, .unset] [(.ref b144)])) _
      have O203 : Old Z n0 h112 := (O143.keep K112 all0)
      obtain ⟨_, T153, _, X153, hQ153, hS, hZ, hown, st153⟩ := own_cvS X112 hx hZ hS hk152 hown (wd hw 6 rfl) (wd hw 7 rfl) (wd hw 9 rfl) (wd hw 8 rfl) (wd hw 10 rfl) (wd hw 2 rfl) (by decide) (rm8 l Z a0 hw [] b144 b92 h112 n0 O203 fx147) e112 ex146 (g := (mkF m 37 #[iv i0, iv i1, iv (0 : Int32), rv b144, .unset, .unset] [(.ref b144)])) rfl (by rw [hml]; rfl) (rest := []) (W := 0) (lenOf pd_7 rfl) rfl (by show 2 * 0 + _ ≤ _; exact Nat.le_of_eq rfl) (hb hby at_37) (by decide) (by decide) (by decide) (by decide)
      obtain ⟨h153, e153⟩ : ∃ z, T153.heap = z := ⟨_, rfl⟩
      rw [e153] at hQ153
      obtain ⟨b204, rfl, Nq153, K153, bx205, ex206, fx207⟩ := hQ153
      have N153 := Fr.app N112 Nq153
      have E209 : Exa Z h112 b92 zs4 := (ex95.keep K112)
      have N208 : b92 ≠ b204 := Nat.ne_of_lt (Nat.lt_of_lt_of_le E209.lt bx205)
      have N210 : b144 ≠ b204 := Nat.ne_of_lt (Nat.lt_of_lt_of_le ex146.lt bx205)
      have g211 : n0 ≤ b204 := Nat.le_trans (own_old O203) bx205
      have Z213 : h0.size ≤ h112.size := (Nat.le_trans Z151 K112.1)
      have B212 : h0.size ≤ b204 := Nat.le_trans Z213 bx205
      have hk214 : T153.heap.size ≤ h153.size := Nat.le_of_eq (congrArg Array.size e153)
      refine own_via (fun t k => st153 t k) ?_
      have O279 : Old Z n0 h153 := (O203.keep K153 all0)
      obtain ⟨_, T215, _, X215, hQ215, hS, hZ, hown, st215⟩ := own_csS X153 hx hZ hS hk214 hown (wd hw 18 rfl) (wd hw 19 rfl) (wd hw 20 rfl) (wd hw 2 rfl) (by decide) (rm12 l Z a0 hw [] b204 b92 h153 n0 O279 fx207 ex206) e153 (g := (mkF m 40 #[iv i0, iv i1, iv (0 : Int32), rv b144, .unset, .unset] [(.ref b204)])) rfl (by rw [hml]; rfl) (rest := []) (W := 0) (lenOf pd_11 rfl) rfl (by show 2 * 0 + _ ≤ _; exact Nat.le_of_eq rfl) (hb hby at_40) (by decide) (by decide) (by decide) (by decide)
      obtain ⟨h215, e215⟩ : ∃ z, T215.heap = z := ⟨_, rfl⟩
      rw [e215] at hQ215
      obtain ⟨b280, rfl, Nq215, K215, bx281, ex282, fx283⟩ := hQ215
      have N215 := Fr.app N153 Nq215
      have E285 : Exa Z h153 b92 zs4 := (E209.keep K153)
      have N284 : b92 ≠ b280 := Nat.ne_of_lt (Nat.lt_of_lt_of_le E285.lt bx281)
      have E287 : Exa Z h153 b144 zs1 := (ex146.keep K153)
      have N286 : b144 ≠ b280 := Nat.ne_of_lt (Nat.lt_of_lt_of_le E287.lt bx281)
      have N288 : b204 ≠ b280 := Nat.ne_of_lt (Nat.lt_of_lt_of_le ex206.lt bx281)
      have g289 : n0 ≤ b280 := Nat.le_trans (own_old O279) bx281
      have Z291 : h0.size ≤ h153.size := (Nat.le_trans Z213 K153.1)
      have B290 : h0.size ≤ b280 := Nat.le_trans Z291 bx281
      have hk292 : T215.heap.size ≤ h215.size := Nat.le_of_eq (congrArg Array.size e215)
      refine own_via (fun t k => st215 t (XS.astore X215.here hx rfl (hb hby at_43) rfl rfl (l' := #[iv i0, iv i1, iv (0 : Int32), rv b144, rv b280, .unset]) rfl (XS.iloadN X215.here hx rfl (hb hby at_45) rfl (XS.iconst X215.here hx rfl (hb hby at_46) (XS.icmpYes X215.here hx rfl (pc0 := 47) (pc' := 72) rfl (hb hby at_47) rfl (tlt (by decide : (0 : Int32) < (2 : Int32))).1 (by decide) (by decide) (XS.aload X215.here hx rfl (hb hby at_72) rfl rfl k)))))) ?_
      show own_Goes p e below (T215.setTop (mkF m 74 #[iv i0, iv i1, iv (0 : Int32), rv b144, rv b280, .unset] [(.ref b280)])) _
      have O305 : Old Z n0 h215 := (O279.keep K215 all0)
      obtain ⟨_, T293, _, X293, hQ293, hS, hZ, hown, st293⟩ := own_cvS X215 hx hZ hS hk292 hown (wd hw 45 rfl) (wd hw 46 rfl) (wd hw 48 rfl) (wd hw 47 rfl) (wd hw 49 rfl) (wd hw 2 rfl) (by decide) (rm13 l Z a0 hw [] b280 w24 h215 n0 O305 S_Tertium_ABSENT SE_w24 g289) e215 ex282 (g := (mkF m 74 #[iv i0, iv i1, iv (0 : Int32), rv b144, rv b280, .unset] [(.ref b280)])) rfl (by rw [hml]; rfl) (rest := []) (W := 0) (lenOf pd_9 rfl) rfl (by show 2 * 0 + _ ≤ _; exact Nat.le_of_eq rfl) (hb hby at_74) (by decide) (by decide) (by decide) (by decide)
      obtain ⟨rfl, Nq293, hh306⟩ := hQ293
      have N293 := Fr.app N215 Nq293
      have hk307 : T293.heap.size ≤ h215.size := Nat.le_of_eq (congrArg Array.size hh306)
      refine own_via (fun t k => st293 t (XS.ifNo X293.here hx rfl (hb hby at_77) rfl ((if0 _ _).trans (teq (by decide : (0 : Int32) = (0 : Int32))).2) (XS.aload X293.here hx rfl (hb hby at_80) rfl rfl k))) ?_
      show own_Goes p e below (T293.setTop (mkF m 82 #[iv i0, iv i1, iv (0 : Int32), rv b144, rv b280, .unset] [(.ref b280)])) _
      obtain ⟨_, T308, _, X308, hQ308, hS, hZ, hown, st308⟩ := own_cvS X293 hx hZ hS hk307 hown (wd hw 50 rfl) (wd hw 51 rfl) (wd hw 53 rfl) (wd hw 52 rfl) (wd hw 54 rfl) (wd hw 2 rfl) (by decide) (rm14 l Z a0 hw [] b280 w21 h215 n0 O305 S_Tertium_NULL SE_w21 g289) hh306 ex282 (g := (mkF m 82 #[iv i0, iv i1, iv (0 : Int32), rv b144, rv b280, .unset] [(.ref b280)])) rfl (by rw [hml]; rfl) (rest := []) (W := 0) (lenOf pd_9 rfl) rfl (by show 2 * 0 + _ ≤ _; exact Nat.le_of_eq rfl) (hb hby at_82) (by decide) (by decide) (by decide) (by decide)
      obtain ⟨rfl, Nq308, hh320⟩ := hQ308
      have N308 := Fr.app N293 Nq308
      have hk321 : T308.heap.size ≤ h215.size := Nat.le_of_eq (congrArg Array.size hh320)
      refine own_via (fun t k => st308 t (XS.ifYes X308.here hx rfl (pc0 := 85) (pc' := 90) rfl (hb hby at_85) rfl ((if0 _ _).trans (teq (by decide : (0 : Int32) = (0 : Int32))).1) (by decide) (by decide) (XS.aload X308.here hx rfl (hb hby at_90) rfl rfl k))) ?_
      show own_Goes p e below (T308.setTop (mkF m 92 #[iv i0, iv i1, iv (0 : Int32), rv b144, rv b280, .unset] [(.ref b280)])) _
      obtain ⟨_, T322, _, X322, hQ322, hS, hZ, hown, st322⟩ := own_cvS X308 hx hZ hS hk321 hown (wd hw 86 rfl) (wd hw 87 rfl) (wd hw 89 rfl) (wd hw 88 rfl) (wd hw 90 rfl) (wd hw 2 rfl) (by decide) (rm15 l Z a0 hw [] b280 w24 b92 h215 n0 O305 S_Tertium_ABSENT SE_w24 g289 ex282 fx283) hh320 ex282 (g := (mkF m 92 #[iv i0, iv i1, iv (0 : Int32), rv b144, rv b280, .unset] [(.ref b280)])) rfl (by rw [hml]; rfl) (rest := []) (W := 0) (lenOf pd_10 rfl) rfl (by show 2 * 0 + _ ≤ _; exact Nat.le_of_eq rfl) (hb hby at_92) (by decide) (by decide) (by decide) (by decide)
      obtain ⟨rfl, Nq322, hh337⟩ := hQ322
      have N322 := Fr.app N308 Nq322
      have hk338 : T322.heap.size ≤ h215.size := Nat.le_of_eq (congrArg Array.size hh337)
      refine own_via (fun t k => st322 t k) ?_
      have E340 : Exa Z h215 b92 zs4 := (E285.keep K215)
      obtain ⟨T339, X339, e339, st339⟩ := castY X322 hx hZ hown (wd hw 92 rfl) hh337 (Ins.self E340) (g := (mkF m 95 #[iv i0, iv i1, iv (0 : Int32), rv b144, rv b280, .unset] [(.ref b92)])) rfl rfl (hb hby at_95)
      refine own_via (fun t k => st339 t (XS.astore X339.here hx rfl (hb hby at_98) rfl rfl (l' := #[iv i0, iv i1, iv (0 : Int32), rv b144, rv b280, rv b92]) rfl (XS.aload X339.here hx rfl (hb hby at_100) rfl rfl (XS.ifnullNo X339.here hx rfl (hb hby at_102) rfl (XS.aload X339.here hx rfl (hb hby at_105) rfl rfl k))))) ?_
      show own_Goes p e below (T339.setTop (mkF m 107 #[iv i0, iv i1, iv (0 : Int32), rv b144, rv b280, rv b92] [(.ref b92)])) _
      have F353 : Fld Z h215 b92 zs4 "value" "I" (.int i0) := (((fx96.keep K112 nin0).keep K153 nin0).keep K215 nin0)
      obtain ⟨_, T341, _, X341, hQ341, hS, hZ, hown, st341⟩ := own_cvS X339 hx hZ hS hk338 hown (wd hw 94 rfl) (wd hw 95 rfl) (wd hw 97 rfl) (wd hw 96 rfl) (wd hw 98 rfl) (wd hw 57 rfl) (by decide) (rm16 l Z a0 hw [] b92 i0 h215 n0 O305 F353) e339 E340 (g := (mkF m 107 #[iv i0, iv i1, iv (0 : Int32), rv b144, rv b280, rv b92] [(.ref b92)])) rfl (by rw [hml]; rfl) (rest := []) (W := 0) (lenOf pd_12 rfl) rfl (by show 2 * 0 + _ ≤ _; exact Nat.le_of_eq rfl) (hb hby at_107) (by decide) (by decide) (by decide) (by decide)
      obtain ⟨rfl, Nq341, hh354⟩ := hQ341
      have N341 := Fr.app N322 Nq341
      have hk355 : T341.heap.size ≤ h215.size := Nat.le_of_eq (congrArg Array.size hh354)
      refine own_via (fun t k => st341 t (XS.iloadN X341.here hx rfl (hb hby at_110) rfl (XS.icmpNo X341.here hx rfl (hb hby at_111) rfl (teq (rfl : i0 = i0)).2 (XS.iconst X341.here hx rfl (hb hby at_114) (XS.goto X341.here hx rfl (pc0 := 115) (pc' := 119) rfl (hb hby at_115) (by decide) (by decide) k))))) ?_
      show own_Goes p e below (T341.setTop (mkF m 119 #[iv i0, iv i1, iv (0 : Int32), rv b144, rv b280, rv b92] [(.int (1 : Int32))])) _
      obtain ⟨fs, hr, hrun, hended, hRW⟩ := X341.leaveW hS (by rw [hh354]; first | exact hk355 | exact Nat.le_refl _) (v := some (.int (1 : Int32))) (fun h => by rw [Bd.returns] at h; cases h)
      refine own_end (t := T341.setFrames fs) ?_ ⟨_, hrun, hended, _, _, rfl, ?_, own_rmono hRW (by decide) (by decide)⟩
      · exact retN X341 hx (t := .boolean) Bd.returns (by simp) (hb hby at_119) hr
      · exact ⟨rfl, N341⟩
    · have N35 := Fr.app N0 Nq35
      have g356 : n0 ≤ b97 := Nat.le_trans (own_old O0) bx100
      have B357 : h0.size ≤ b97 := Nat.le_trans (Nat.le_refl _) bx100
      have hk358 : T35.heap.size ≤ h35.size := Nat.le_of_eq (congrArg Array.size e35)
      refine own_via (fun t k => st35 t k) ?_
      have O360 : Old Z n0 h35 := (O0.keep K35 all0)
      obtain ⟨_, T359, _, X359, hQ359, hS, hZ, hown, st359⟩ := own_csS X35 hx hZ hS hk358 hown (wd hw 62 rfl) (wd hw 63 rfl) (wd hw 64 rfl) (wd hw 2 rfl) (by decide) (rm5 l Z a0 hw [] b97 h35 n0 O360 ) e35 (g := (mkF m 32 #[iv i0, iv i1, iv (0 : Int32), .unset, .unset, .unset] [(.ref b97)])) rfl (by rw [hml]; rfl) (rest := []) (W := 0) (lenOf pd_5 rfl) rfl (by show 2 * 0 + _ ≤ _; exact Nat.le_of_eq rfl) (hb hby at_32) (by decide) (by decide) (by decide) (by decide)
      obtain ⟨h359, e359⟩ : ∃ z, T359.heap = z := ⟨_, rfl⟩
      rw [e359] at hQ359
      obtain ⟨b361, rfl, Nq359, K359, bx362, ex363, fx364⟩ := hQ359
      have N359 := Fr.app N35 Nq359
      have N365 : b97 ≠ b361 := Nat.ne_of_lt (Nat.lt_of_lt_of_le ex101.lt bx362)
      have g366 : n0 ≤ b361 := Nat.le_trans (own_old O360) bx362
      have Z368 : h0.size ≤ h35.size := (Nat.le_trans (Nat.le_refl _) K35.1)
      have B367 : h0.size ≤ b361 := Nat.le_trans Z368 bx362
      have hk369 : T359.heap.size ≤ h359.size := Nat.le_of_eq (congrArg Array.size e359)
      refine own_via (fun t k => st359 t (XS.astoreN X359.here hx rfl (hb hby at_35) rfl rfl (l' := #[iv i0, iv i1, iv (0 : Int32), rv b361, .unset, .unset]) rfl (XS.aloadN X359.here hx rfl (hb hby at_36) rfl rfl k))) ?_
      show own_Goes p e below (T359.setTop (mkF m 37 #[iv i0, iv i1, iv (0 : Int32), rv b361, .unset, .unset] [(.ref b361)])) _
      have O371 : Old Z n0 h359 := (O360.keep K359 all0)
      obtain ⟨_, T370, _, X370, hQ370, hS, hZ, hown, st370⟩ := own_cvS X359 hx hZ hS hk369 hown (wd hw 6 rfl) (wd hw 7 rfl) (wd hw 9 rfl) (wd hw 8 rfl) (wd hw 10 rfl) (wd hw 2 rfl) (by decide) (rm8 l Z a0 hw [] b361 b97 h359 n0 O371 fx364) e359 ex363 (g := (mkF m 37 #[iv i0, iv i1, iv (0 : Int32), rv b361, .unset, .unset] [(.ref b361)])) rfl (by rw [hml]; rfl) (rest := []) (W := 0) (lenOf pd_7 rfl) rfl (by show 2 * 0 + _ ≤ _; exact Nat.le_of_eq rfl) (hb hby at_37) (by decide) (by decide) (by decide) (by decide)
      obtain ⟨h370, e370⟩ : ∃ z, T370.heap = z := ⟨_, rfl⟩
      rw [e370] at hQ370
      obtain ⟨b372, rfl, Nq370, K370, bx373, ex374, fx375⟩ := hQ370
      have N370 := Fr.app N359 Nq370
      have E377 : Exa Z h359 b97 zs4 := (ex101.keep K359)
      have N376 : b97 ≠ b372 := Nat.ne_of_lt (Nat.lt_of_lt_of_le E377.lt bx373)
      have N378 : b361 ≠ b372 := Nat.ne_of_lt (Nat.lt_of_lt_of_le ex363.lt bx373)
      have g379 : n0 ≤ b372 := Nat.le_trans (own_old O371) bx373
      have Z381 : h0.size ≤ h359.size := (Nat.le_trans Z368 K359.1)
      have B380 : h0.size ≤ b372 := Nat.le_trans Z381 bx373
      have hk382 : T370.heap.size ≤ h370.size := Nat.le_of_eq (congrArg Array.size e370)
      refine own_via (fun t k => st370 t k) ?_
      have O384 : Old Z n0 h370 := (O371.keep K370 all0)
      obtain ⟨_, T383, _, X383, hQ383, hS, hZ, hown, st383⟩ := own_csS X370 hx hZ hS hk382 hown (wd hw 18 rfl) (wd hw 19 rfl) (wd hw 20 rfl) (wd hw 2 rfl) (by decide) (rm12 l Z a0 hw [] b372 b97 h370 n0 O384 fx375 ex374) e370 (g := (mkF m 40 #[iv i0, iv i1, iv (0 : Int32), rv b361, .unset, .unset] [(.ref b372)])) rfl (by rw [hml]; rfl) (rest := []) (W := 0) (lenOf pd_11 rfl) rfl (by show 2 * 0 + _ ≤ _; exact Nat.le_of_eq rfl) (hb hby at_40) (by decide) (by decide) (by decide) (by decide)
      obtain ⟨h383, e383⟩ : ∃ z, T383.heap = z := ⟨_, rfl⟩
      rw [e383] at hQ383
      obtain ⟨b385, rfl, Nq383, K383, bx386, ex387, fx388⟩ := hQ383
      have N383 := Fr.app N370 Nq383
      have E390 : Exa Z h370 b97 zs4 := (E377.keep K370)
      have N389 : b97 ≠ b385 := Nat.ne_of_lt (Nat.lt_of_lt_of_le E390.lt bx386)
      have E392 : Exa Z h370 b361 zs1 := (ex363.keep K370)
      have N391 : b361 ≠ b385 := Nat.ne_of_lt (Nat.lt_of_lt_of_le E392.lt bx386)
      have N393 : b372 ≠ b385 := Nat.ne_of_lt (Nat.lt_of_lt_of_le ex374.lt bx386)
      have g394 : n0 ≤ b385 := Nat.le_trans (own_old O384) bx386
      have Z396 : h0.size ≤ h370.size := (Nat.le_trans Z381 K370.1)
      have B395 : h0.size ≤ b385 := Nat.le_trans Z396 bx386
      have hk397 : T383.heap.size ≤ h383.size := Nat.le_of_eq (congrArg Array.size e383)
      refine own_via (fun t k => st383 t (XS.astore X383.here hx rfl (hb hby at_43) rfl rfl (l' := #[iv i0, iv i1, iv (0 : Int32), rv b361, rv b385, .unset]) rfl (XS.iloadN X383.here hx rfl (hb hby at_45) rfl (XS.iconst X383.here hx rfl (hb hby at_46) (XS.icmpYes X383.here hx rfl (pc0 := 47) (pc' := 72) rfl (hb hby at_47) rfl (tlt (by decide : (0 : Int32) < (2 : Int32))).1 (by decide) (by decide) (XS.aload X383.here hx rfl (hb hby at_72) rfl rfl k)))))) ?_
      show own_Goes p e below (T383.setTop (mkF m 74 #[iv i0, iv i1, iv (0 : Int32), rv b361, rv b385, .unset] [(.ref b385)])) _
      have O399 : Old Z n0 h383 := (O384.keep K383 all0)
      obtain ⟨_, T398, _, X398, hQ398, hS, hZ, hown, st398⟩ := own_cvS X383 hx hZ hS hk397 hown (wd hw 45 rfl) (wd hw 46 rfl) (wd hw 48 rfl) (wd hw 47 rfl) (wd hw 49 rfl) (wd hw 2 rfl) (by decide) (rm13 l Z a0 hw [] b385 w24 h383 n0 O399 S_Tertium_ABSENT SE_w24 g394) e383 ex387 (g := (mkF m 74 #[iv i0, iv i1, iv (0 : Int32), rv b361, rv b385, .unset] [(.ref b385)])) rfl (by rw [hml]; rfl) (rest := []) (W := 0) (lenOf pd_9 rfl) rfl (by show 2 * 0 + _ ≤ _; exact Nat.le_of_eq rfl) (hb hby at_74) (by decide) (by decide) (by decide) (by decide)
      obtain ⟨rfl, Nq398, hh400⟩ := hQ398
      have N398 := Fr.app N383 Nq398
      have hk401 : T398.heap.size ≤ h383.size := Nat.le_of_eq (congrArg Array.size hh400)
      refine own_via (fun t k => st398 t (XS.ifNo X398.here hx rfl (hb hby at_77) rfl ((if0 _ _).trans (teq (by decide : (0 : Int32) = (0 : Int32))).2) (XS.aload X398.here hx rfl (hb hby at_80) rfl rfl k))) ?_
      show own_Goes p e below (T398.setTop (mkF m 82 #[iv i0, iv i1, iv (0 : Int32), rv b361, rv b385, .unset] [(.ref b385)])) _
      obtain ⟨_, T402, _, X402, hQ402, hS, hZ, hown, st402⟩ := own_cvS X398 hx hZ hS hk401 hown (wd hw 50 rfl) (wd hw 51 rfl) (wd hw 53 rfl) (wd hw 52 rfl) (wd hw 54 rfl) (wd hw 2 rfl) (by decide) (rm14 l Z a0 hw [] b385 w21 h383 n0 O399 S_Tertium_NULL SE_w21 g394) hh400 ex387 (g := (mkF m 82 #[iv i0, iv i1, iv (0 : Int32), rv b361, rv b385, .unset] [(.ref b385)])) rfl (by rw [hml]; rfl) (rest := []) (W := 0) (lenOf pd_9 rfl) rfl (by show 2 * 0 + _ ≤ _; exact Nat.le_of_eq rfl) (hb hby at_82) (by decide) (by decide) (by decide) (by decide)
      obtain ⟨rfl, Nq402, hh403⟩ := hQ402
      have N402 := Fr.app N398 Nq402
      have hk404 : T402.heap.size ≤ h383.size := Nat.le_of_eq (congrArg Array.size hh403)
      refine own_via (fun t k => st402 t (XS.ifYes X402.here hx rfl (pc0 := 85) (pc' := 90) rfl (hb hby at_85) rfl ((if0 _ _).trans (teq (by decide : (0 : Int32) = (0 : Int32))).1) (by decide) (by decide) (XS.aload X402.here hx rfl (hb hby at_90) rfl rfl k))) ?_
      show own_Goes p e below (T402.setTop (mkF m 92 #[iv i0, iv i1, iv (0 : Int32), rv b361, rv b385, .unset] [(.ref b385)])) _
      obtain ⟨_, T405, _, X405, hQ405, hS, hZ, hown, st405⟩ := own_cvS X402 hx hZ hS hk404 hown (wd hw 86 rfl) (wd hw 87 rfl) (wd hw 89 rfl) (wd hw 88 rfl) (wd hw 90 rfl) (wd hw 2 rfl) (by decide) (rm15 l Z a0 hw [] b385 w24 b97 h383 n0 O399 S_Tertium_ABSENT SE_w24 g394 ex387 fx388) hh403 ex387 (g := (mkF m 92 #[iv i0, iv i1, iv (0 : Int32), rv b361, rv b385, .unset] [(.ref b385)])) rfl (by rw [hml]; rfl) (rest := []) (W := 0) (lenOf pd_10 rfl) rfl (by show 2 * 0 + _ ≤ _; exact Nat.le_of_eq rfl) (hb hby at_92) (by decide) (by decide) (by decide) (by decide)
      obtain ⟨rfl, Nq405, hh406⟩ := hQ405
      have N405 := Fr.app N402 Nq405
      have hk407 : T405.heap.size ≤ h383.size := Nat.le_of_eq (congrArg Array.size hh406)
      refine own_via (fun t k => st405 t k) ?_
      have E409 : Exa Z h383 b97 zs4 := (E390.keep K383)
      obtain ⟨T408, X408, e408, st408⟩ := castY X405 hx hZ hown (wd hw 92 rfl) hh406 (Ins.self E409) (g := (mkF m 95 #[iv i0, iv i1, iv (0 : Int32), rv b361, rv b385, .unset] [(.ref b97)])) rfl rfl (hb hby at_95)
      refine own_via (fun t k => st408 t (XS.astore X408.here hx rfl (hb hby at_98) rfl rfl (l' := #[iv i0, iv i1, iv (0 : Int32), rv b361, rv b385, rv b97]) rfl (XS.aload X408.here hx rfl (hb hby at_100) rfl rfl (XS.ifnullNo X408.here hx rfl (hb hby at_102) rfl (XS.aload X408.here hx rfl (hb hby at_105) rfl rfl k))))) ?_
      show own_Goes p e below (T408.setTop (mkF m 107 #[iv i0, iv i1, iv (0 : Int32), rv b361, rv b385, rv b97] [(.ref b97)])) _
      have F411 : Fld Z h383 b97 zs4 "value" "I" (.int i0) := (((fx102.keep K359 nin0).keep K370 nin0).keep K383 nin0)
      obtain ⟨_, T410, _, X410, hQ410, hS, hZ, hown, st410⟩ := own_cvS X408 hx hZ hS hk407 hown (wd hw 94 rfl) (wd hw 95 rfl) (wd hw 97 rfl) (wd hw 96 rfl) (wd hw 98 rfl) (wd hw 57 rfl) (by decide) (rm16 l Z a0 hw [] b97 i0 h383 n0 O399 F411) e408 E409 (g := (mkF m 107 #[iv i0, iv i1, iv (0 : Int32), rv b361, rv b385, rv b97] [(.ref b97)])) rfl (by rw [hml]; rfl) (rest := []) (W := 0) (lenOf pd_12 rfl) rfl (by show 2 * 0 + _ ≤ _; exact Nat.le_of_eq rfl) (hb hby at_107) (by decide) (by decide) (by decide) (by decide)
      obtain ⟨rfl, Nq410, hh412⟩ := hQ410
      have N410 := Fr.app N405 Nq410
      have hk413 : T410.heap.size ≤ h383.size := Nat.le_of_eq (congrArg Array.size hh412)
      refine own_via (fun t k => st410 t (XS.iloadN X410.here hx rfl (hb hby at_110) rfl (XS.icmpNo X410.here hx rfl (hb hby at_111) rfl (teq (rfl : i0 = i0)).2 (XS.iconst X410.here hx rfl (hb hby at_114) (XS.goto X410.here hx rfl (pc0 := 115) (pc' := 119) rfl (hb hby at_115) (by decide) (by decide) k))))) ?_
      show own_Goes p e below (T410.setTop (mkF m 119 #[iv i0, iv i1, iv (0 : Int32), rv b361, rv b385, rv b97] [(.int (1 : Int32))])) _
      obtain ⟨fs, hr, hrun, hended, hRW⟩ := X410.leaveW hS (by rw [hh412]; first | exact hk413 | exact Nat.le_refl _) (v := some (.int (1 : Int32))) (fun h => by rw [Bd.returns] at h; cases h)
      refine own_end (t := T410.setFrames fs) ?_ ⟨_, hrun, hended, _, _, rfl, ?_, own_rmono hRW (by decide) (by decide)⟩
      · exact retN X410 hx (t := .boolean) Bd.returns (by simp) (hb hby at_119) hr
      · exact ⟨rfl, N410⟩
    · have N35 := Fr.app N0 Nq35
      have hk414 : T35.heap.size ≤ h0.size := Nat.le_of_eq (congrArg Array.size (e35.trans hh108))
      refine own_via (fun t k => st35 t k) ?_
      obtain ⟨_, T415, _, X415, hQ415, hS, hZ, hown, st415⟩ := own_csS X35 hx hZ hS hk414 hown (wd hw 62 rfl) (wd hw 63 rfl) (wd hw 64 rfl) (wd hw 2 rfl) (by decide) (rm18 l Z a0 hw [] b103 h0 n0 O0 ) (e35.trans hh108) (g := (mkF m 32 #[iv i0, iv i1, iv (0 : Int32), .unset, .unset, .unset] [(.ref b103)])) rfl (by rw [hml]; rfl) (rest := []) (W := 0) (lenOf pd_5 rfl) rfl (by show 2 * 0 + _ ≤ _; exact Nat.le_of_eq rfl) (hb hby at_32) (by decide) (by decide) (by decide) (by decide)
      obtain ⟨h415, e415⟩ : ∃ z, T415.heap = z := ⟨_, rfl⟩
      rw [e415] at hQ415
      obtain ⟨b446, rfl, Nq415, K415, bx447, ex448, fx449⟩ := hQ415
      have N415 := Fr.app N35 Nq415
      have g450 : n0 ≤ b446 := Nat.le_trans (own_old O0) bx447
      have B451 : h0.size ≤ b446 := Nat.le_trans (Nat.le_refl _) bx447
      have hk452 : T415.heap.size ≤ h415.size := Nat.le_of_eq (congrArg Array.size e415)
      refine own_via (fun t k => st415 t (XS.astoreN X415.here hx rfl (hb hby at_35) rfl rfl (l' := #[iv i0, iv i1, iv (0 : Int32), rv b446, .unset, .unset]) rfl (XS.aloadN X415.here hx rfl (hb hby at_36) rfl rfl k))) ?_
      show own_Goes p e below (T415.setTop (mkF m 37 #[iv i0, iv i1, iv (0 : Int32), rv b446, .unset, .unset] [(.ref b446)])) _
      have O503 : Old Z n0 h415 := (O0.keep K415 all0)
      obtain ⟨_, T453, _, X453, hQ453, hS, hZ, hown, st453⟩ := own_cvS X415 hx hZ hS hk452 hown (wd hw 6 rfl) (wd hw 7 rfl) (wd hw 9 rfl) (wd hw 8 rfl) (wd hw 10 rfl) (wd hw 2 rfl) (by decide) (rm21 l Z a0 hw [] b446 b103 h415 n0 O503 fx449) e415 ex448 (g := (mkF m 37 #[iv i0, iv i1, iv (0 : Int32), rv b446, .unset, .unset] [(.ref b446)])) rfl (by rw [hml]; rfl) (rest := []) (W := 0) (lenOf pd_7 rfl) rfl (by show 2 * 0 + _ ≤ _; exact Nat.le_of_eq rfl) (hb hby at_37) (by decide) (by decide) (by decide) (by decide)
      obtain ⟨h453, e453⟩ : ∃ z, T453.heap = z := ⟨_, rfl⟩
      rw [e453] at hQ453
      obtain ⟨b504, rfl, Nq453, K453, bx505, ex506, fx507⟩ := hQ453
      have N453 := Fr.app N415 Nq453
      have N508 : b446 ≠ b504 := Nat.ne_of_lt (Nat.lt_of_lt_of_le ex448.lt bx505)
      have g509 : n0 ≤ b504 := Nat.le_trans (own_old O503) bx505
      have Z511 : h0.size ≤ h415.size := (Nat.le_trans (Nat.le_refl _) K415.1)
      have B510 : h0.size ≤ b504 := Nat.le_trans Z511 bx505
      have hk512 : T453.heap.size ≤ h453.size := Nat.le_of_eq (congrArg Array.size e453)
      refine own_via (fun t k => st453 t k) ?_
      have O567 : Old Z n0 h453 := (O503.keep K453 all0)
      obtain ⟨_, T513, _, X513, hQ513, hS, hZ, hown, st513⟩ := own_csS X453 hx hZ hS hk512 hown (wd hw 18 rfl) (wd hw 19 rfl) (wd hw 20 rfl) (wd hw 2 rfl) (by decide) (rm24 l Z a0 hw [] b504 b103 h453 n0 O567 fx507 ex506) e453 (g := (mkF m 40 #[iv i0, iv i1, iv (0 : Int32), rv b446, .unset, .unset] [(.ref b504)])) rfl (by rw [hml]; rfl) (rest := []) (W := 0) (lenOf pd_11 rfl) rfl (by show 2 * 0 + _ ≤ _; exact Nat.le_of_eq rfl) (hb hby at_40) (by decide) (by decide) (by decide) (by decide)
      obtain ⟨h513, e513⟩ : ∃ z, T513.heap = z := ⟨_, rfl⟩
      rw [e513] at hQ513
      obtain ⟨b568, rfl, Nq513, K513, bx569, ex570, fx571⟩ := hQ513
      have N513 := Fr.app N453 Nq513
      have E573 : Exa Z h453 b446 zs1 := (ex448.keep K453)
      have N572 : b446 ≠ b568 := Nat.ne_of_lt (Nat.lt_of_lt_of_le E573.lt bx569)
      have N574 : b504 ≠ b568 := Nat.ne_of_lt (Nat.lt_of_lt_of_le ex506.lt bx569)
      have g575 : n0 ≤ b568 := Nat.le_trans (own_old O567) bx569
      have Z577 : h0.size ≤ h453.size := (Nat.le_trans Z511 K453.1)
      have B576 : h0.size ≤ b568 := Nat.le_trans Z577 bx569
      have hk578 : T513.heap.size ≤ h513.size := Nat.le_of_eq (congrArg Array.size e513)
      refine own_via (fun t k => st513 t (XS.astore X513.here hx rfl (hb hby at_43) rfl rfl (l' := #[iv i0, iv i1, iv (0 : Int32), rv b446, rv b568, .unset]) rfl (XS.iloadN X513.here hx rfl (hb hby at_45) rfl (XS.iconst X513.here hx rfl (hb hby at_46) (XS.icmpYes X513.here hx rfl (pc0 := 47) (pc' := 72) rfl (hb hby at_47) rfl (tlt (by decide : (0 : Int32) < (2 : Int32))).1 (by decide) (by decide) (XS.aload X513.here hx rfl (hb hby at_72) rfl rfl k)))))) ?_
      show own_Goes p e below (T513.setTop (mkF m 74 #[iv i0, iv i1, iv (0 : Int32), rv b446, rv b568, .unset] [(.ref b568)])) _
      have O580 : Old Z n0 h513 := (O567.keep K513 all0)
      obtain ⟨_, T579, _, X579, hQ579, hS, hZ, hown, st579⟩ := own_cvS X513 hx hZ hS hk578 hown (wd hw 45 rfl) (wd hw 46 rfl) (wd hw 48 rfl) (wd hw 47 rfl) (wd hw 49 rfl) (wd hw 2 rfl) (by decide) (rm13 l Z a0 hw [] b568 w24 h513 n0 O580 S_Tertium_ABSENT SE_w24 g575) e513 ex570 (g := (mkF m 74 #[iv i0, iv i1, iv (0 : Int32), rv b446, rv b568, .unset] [(.ref b568)])) rfl (by rw [hml]; rfl) (rest := []) (W := 0) (lenOf pd_9 rfl) rfl (by show 2 * 0 + _ ≤ _; exact Nat.le_of_eq rfl) (hb hby at_74) (by decide) (by decide) (by decide) (by decide)
      obtain ⟨rfl, Nq579, hh581⟩ := hQ579
      have N579 := Fr.app N513 Nq579
      have hk582 : T579.heap.size ≤ h513.size := Nat.le_of_eq (congrArg Array.size hh581)
      refine own_via (fun t k => st579 t (XS.ifNo X579.here hx rfl (hb hby at_77) rfl ((if0 _ _).trans (teq (by decide : (0 : Int32) = (0 : Int32))).2) (XS.aload X579.here hx rfl (hb hby at_80) rfl rfl k))) ?_
      show own_Goes p e below (T579.setTop (mkF m 82 #[iv i0, iv i1, iv (0 : Int32), rv b446, rv b568, .unset] [(.ref b568)])) _
      obtain ⟨_, T583, _, X583, hQ583, hS, hZ, hown, st583⟩ := own_cvS X579 hx hZ hS hk582 hown (wd hw 50 rfl) (wd hw 51 rfl) (wd hw 53 rfl) (wd hw 52 rfl) (wd hw 54 rfl) (wd hw 2 rfl) (by decide) (rm14 l Z a0 hw [] b568 w21 h513 n0 O580 S_Tertium_NULL SE_w21 g575) hh581 ex570 (g := (mkF m 82 #[iv i0, iv i1, iv (0 : Int32), rv b446, rv b568, .unset] [(.ref b568)])) rfl (by rw [hml]; rfl) (rest := []) (W := 0) (lenOf pd_9 rfl) rfl (by show 2 * 0 + _ ≤ _; exact Nat.le_of_eq rfl) (hb hby at_82) (by decide) (by decide) (by decide) (by decide)
      obtain ⟨rfl, Nq583, hh584⟩ := hQ583
      have N583 := Fr.app N579 Nq583
      have hk585 : T583.heap.size ≤ h513.size := Nat.le_of_eq (congrArg Array.size hh584)
      refine own_via (fun t k => st583 t (XS.ifYes X583.here hx rfl (pc0 := 85) (pc' := 90) rfl (hb hby at_85) rfl ((if0 _ _).trans (teq (by decide : (0 : Int32) = (0 : Int32))).1) (by decide) (by decide) (XS.aload X583.here hx rfl (hb hby at_90) rfl rfl k))) ?_
      show own_Goes p e below (T583.setTop (mkF m 92 #[iv i0, iv i1, iv (0 : Int32), rv b446, rv b568, .unset] [(.ref b568)])) _
      obtain ⟨_, T586, _, X586, hQ586, hS, hZ, hown, st586⟩ := own_cvS X583 hx hZ hS hk585 hown (wd hw 86 rfl) (wd hw 87 rfl) (wd hw 89 rfl) (wd hw 88 rfl) (wd hw 90 rfl) (wd hw 2 rfl) (by decide) (rm25 l Z a0 hw [] b568 w24 b103 h513 n0 O580 S_Tertium_ABSENT SE_w24 g575 ex570 fx571) hh584 ex570 (g := (mkF m 92 #[iv i0, iv i1, iv (0 : Int32), rv b446, rv b568, .unset] [(.ref b568)])) rfl (by rw [hml]; rfl) (rest := []) (W := 0) (lenOf pd_10 rfl) rfl (by show 2 * 0 + _ ≤ _; exact Nat.le_of_eq rfl) (hb hby at_92) (by decide) (by decide) (by decide) (by decide)
      obtain ⟨rfl, Nq586, hh601⟩ := hQ586
      have N586 := Fr.app N583 Nq586
      have hk602 : T586.heap.size ≤ h513.size := Nat.le_of_eq (congrArg Array.size hh601)
      refine own_via (fun t k => st586 t k) ?_
      obtain ⟨T603, X603, e603, st603⟩ := castY X586 hx hZ hown (wd hw 92 rfl) hh601 (Ins.self (sx106.ext O580.2)) (g := (mkF m 95 #[iv i0, iv i1, iv (0 : Int32), rv b446, rv b568, .unset] [(.ref b103)])) rfl rfl (hb hby at_95)
      refine own_via (fun t k => st603 t (XS.astore X603.here hx rfl (hb hby at_98) rfl rfl (l' := #[iv i0, iv i1, iv (0 : Int32), rv b446, rv b568, rv b103]) rfl (XS.aload X603.here hx rfl (hb hby at_100) rfl rfl (XS.ifnullNo X603.here hx rfl (hb hby at_102) rfl (XS.aload X603.here hx rfl (hb hby at_105) rfl rfl k))))) ?_
      show own_Goes p e below (T603.setTop (mkF m 107 #[iv i0, iv i1, iv (0 : Int32), rv b446, rv b568, rv b103] [(.ref b103)])) _
      obtain ⟨_, T604, _, X604, hQ604, hS, hZ, hown, st604⟩ := own_cvS X603 hx hZ hS hk602 hown (wd hw 94 rfl) (wd hw 95 rfl) (wd hw 97 rfl) (wd hw 96 rfl) (wd hw 98 rfl) (wd hw 57 rfl) (by decide) (rm26 l Z a0 hw [] b103 i0 h513 n0 O580 sx107) e603 (sx106.ext O580.2) (g := (mkF m 107 #[iv i0, iv i1, iv (0 : Int32), rv b446, rv b568, rv b103] [(.ref b103)])) rfl (by rw [hml]; rfl) (rest := []) (W := 0) (lenOf pd_12 rfl) rfl (by show 2 * 0 + _ ≤ _; exact Nat.le_of_eq rfl) (hb hby at_107) (by decide) (by decide) (by decide) (by decide)
      obtain ⟨rfl, Nq604, hh616⟩ := hQ604
      have N604 := Fr.app N586 Nq604
      have hk617 : T604.heap.size ≤ h513.size := Nat.le_of_eq (congrArg Array.size hh616)
      refine own_via (fun t k => st604 t (XS.iloadN X604.here hx rfl (hb hby at_110) rfl (XS.icmpNo X604.here hx rfl (hb hby at_111) rfl (teq (rfl : i0 = i0)).2 (XS.iconst X604.here hx rfl (hb hby at_114) (XS.goto X604.here hx rfl (pc0 := 115) (pc' := 119) rfl (hb hby at_115) (by decide) (by decide) k))))) ?_
      show own_Goes p e below (T604.setTop (mkF m 119 #[iv i0, iv i1, iv (0 : Int32), rv b446, rv b568, rv b103] [(.int (1 : Int32))])) _
      obtain ⟨fs, hr, hrun, hended, hRW⟩ := X604.leaveW hS (by rw [hh616]; first | exact hk617 | exact Nat.le_refl _) (v := some (.int (1 : Int32))) (fun h => by rw [Bd.returns] at h; cases h)
      refine own_end (t := T604.setFrames fs) ?_ ⟨_, hrun, hended, _, _, rfl, ?_, own_rmono hRW (by decide) (by decide)⟩
      · exact retN X604 hx (t := .boolean) Bd.returns (by simp) (hb hby at_119) hr
      · exact ⟨rfl, N604⟩
  · have qs618 := qs
    rw [qs]
    show own_Goes p e below (s₁.setTop (mkF m 3 #[iv i0, iv i1, .unset, .unset, .unset, .unset] [(.int (1 : Int32))])) _
    refine own_via (fun t k => XS.istoreN X0.here hx rfl (hb hby at_3) rfl (l' := #[iv i0, iv i1, iv (1 : Int32), .unset, .unset, .unset]) rfl (XS.iloadN X0.here hx rfl (hb hby at_4) rfl (XS.iconst X0.here hx rfl (hb hby at_5) (XS.icmpYes X0.here hx rfl (pc0 := 6) (pc' := 16) rfl (hb hby at_6) rfl (feq (by decide : ¬ ((1 : Int32) = (2 : Int32)))).2 (by decide) (by decide) (XS.iloadN X0.here hx rfl (hb hby at_16) rfl (XS.iconst X0.here hx rfl (hb hby at_17) (XS.icmpYes X0.here hx rfl (pc0 := 18) (pc' := 28) rfl (hb hby at_18) rfl (feq (by decide : ¬ ((1 : Int32) = (3 : Int32)))).2 (by decide) (by decide) (XS.iloadN X0.here hx rfl (hb hby at_28) rfl k)))))))) ?_
    show own_Goes p e below (s₁.setTop (mkF m 29 #[iv i0, iv i1, iv (1 : Int32), .unset, .unset, .unset] [(.int i0)])) _
    obtain ⟨_, T619, _, X619, hQ619, hS, hZ, hown, st619⟩ := own_csS X0 hx hZ hS hk0 hown (wd hw 55 rfl) (wd hw 56 rfl) (wd hw 58 rfl) (wd hw 57 rfl) (by decide) (rm3 l Z a0 hw [] i0 w31 cl33 h0 n0 O0 S_Integer_IntegerCache_high S_Integer_IntegerCache_cache BX_w31) e0 (g := (mkF m 29 #[iv i0, iv i1, iv (1 : Int32), .unset, .unset, .unset] [(.int i0)])) rfl (by rw [hml]; rfl) (rest := []) (W := 0) (lenOf pd_3 rfl) rfl (by show 2 * 0 + _ ≤ _; exact Nat.le_of_eq rfl) (hb hby at_29) (by decide) (by decide) (by decide) (by decide)
    obtain ⟨h619, e619⟩ : ∃ z, T619.heap = z := ⟨_, rfl⟩
    rw [e619] at hQ619
    rcases hQ619 with ⟨b620, hq621, rfl, Nq619, K619, bx622, ex623, fx624⟩ | ⟨b625, hq626, hq627, rfl, Nq619, K619, bx628, ex629, fx630⟩ | ⟨b631, hq632, hq633, rfl, Nq619, sx634, sx635, hh636⟩
    · have N619 := Fr.app N0 Nq619
      have g637 : n0 ≤ b620 := Nat.le_trans (own_old O0) bx622
      have B638 : h0.size ≤ b620 := Nat.le_trans (Nat.le_refl _) bx622
      have hk639 : T619.heap.size ≤ h619.size := Nat.le_of_eq (congrArg Array.size e619)
      refine own_via (fun t k => st619 t k) ?_
      have O641 : Old Z n0 h619 := (O0.keep K619 all0)
      obtain ⟨_, T640, _, X640, hQ640, hS, hZ, hown, st640⟩ := own_csS X619 hx hZ hS hk639 hown (wd hw 62 rfl) (wd hw 63 rfl) (wd hw 64 rfl) (wd hw 2 rfl) (by decide) (rm5 l Z a0 hw [] b620 h619 n0 O641 ) e619 (g := (mkF m 32 #[iv i0, iv i1, iv (1 : Int32), .unset, .unset, .unset] [(.ref b620)])) rfl (by rw [hml]; rfl) (rest := []) (W := 0) (lenOf pd_5 rfl) rfl (by show 2 * 0 + _ ≤ _; exact Nat.le_of_eq rfl) (hb hby at_32) (by decide) (by decide) (by decide) (by decide)
      obtain ⟨h640, e640⟩ : ∃ z, T640.heap = z := ⟨_, rfl⟩
      rw [e640] at hQ640
      obtain ⟨b642, rfl, Nq640, K640, bx643, ex644, fx645⟩ := hQ640
      have N640 := Fr.app N619 Nq640
      have N646 : b620 ≠ b642 := Nat.ne_of_lt (Nat.lt_of_lt_of_le ex623.lt bx643)
      have g647 : n0 ≤ b642 := Nat.le_trans (own_old O641) bx643
      have Z649 : h0.size ≤ h619.size := (Nat.le_trans (Nat.le_refl _) K619.1)
      have B648 : h0.size ≤ b642 := Nat.le_trans Z649 bx643
      have hk650 : T640.heap.size ≤ h640.size := Nat.le_of_eq (congrArg Array.size e640)
      refine own_via (fun t k => st640 t (XS.astoreN X640.here hx rfl (hb hby at_35) rfl rfl (l' := #[iv i0, iv i1, iv (1 : Int32), rv b642, .unset, .unset]) rfl (XS.aloadN X640.here hx rfl (hb hby at_36) rfl rfl k))) ?_
      show own_Goes p e below (T640.setTop (mkF m 37 #[iv i0, iv i1, iv (1 : Int32), rv b642, .unset, .unset] [(.ref b642)])) _
      have O652 : Old Z n0 h640 := (O641.keep K640 all0)
      obtain ⟨_, T651, _, X651, hQ651, hS, hZ, hown, st651⟩ := own_cvS X640 hx hZ hS hk650 hown (wd hw 6 rfl) (wd hw 7 rfl) (wd hw 9 rfl) (wd hw 8 rfl) (wd hw 10 rfl) (wd hw 2 rfl) (by decide) (rm8 l Z a0 hw [] b642 b620 h640 n0 O652 fx645) e640 ex644 (g := (mkF m 37 #[iv i0, iv i1, iv (1 : Int32), rv b642, .unset, .unset] [(.ref b642)])) rfl (by rw [hml]; rfl) (rest := []) (W := 0) (lenOf pd_7 rfl) rfl (by show 2 * 0 + _ ≤ _; exact Nat.le_of_eq rfl) (hb hby at_37) (by decide) (by decide) (by decide) (by decide)
      obtain ⟨h651, e651⟩ : ∃ z, T651.heap = z := ⟨_, rfl⟩
      rw [e651] at hQ651
      obtain ⟨b653, rfl, Nq651, K651, bx654, ex655, fx656⟩ := hQ651
      have N651 := Fr.app N640 Nq651
      have E658 : Exa Z h640 b620 zs4 := (ex623.keep K640)
      have N657 : b620 ≠ b653 := Nat.ne_of_lt (Nat.lt_of_lt_of_le E658.lt bx654)
      have N659 : b642 ≠ b653 := Nat.ne_of_lt (Nat.lt_of_lt_of_le ex644.lt bx654)
      have g660 : n0 ≤ b653 := Nat.le_trans (own_old O652) bx654
      have Z662 : h0.size ≤ h640.size := (Nat.le_trans Z649 K640.1)
      have B661 : h0.size ≤ b653 := Nat.le_trans Z662 bx654
      have hk663 : T651.heap.size ≤ h651.size := Nat.le_of_eq (congrArg Array.size e651)
      refine own_via (fun t k => st651 t k) ?_
      have O665 : Old Z n0 h651 := (O652.keep K651 all0)
      obtain ⟨_, T664, _, X664, hQ664, hS, hZ, hown, st664⟩ := own_csS X651 hx hZ hS hk663 hown (wd hw 18 rfl) (wd hw 19 rfl) (wd hw 20 rfl) (wd hw 2 rfl) (by decide) (rm12 l Z a0 hw [] b653 b620 h651 n0 O665 fx656 ex655) e651 (g := (mkF m 40 #[iv i0, iv i1, iv (1 : Int32), rv b642, .unset, .unset] [(.ref b653)])) rfl (by rw [hml]; rfl) (rest := []) (W := 0) (lenOf pd_11 rfl) rfl (by show 2 * 0 + _ ≤ _; exact Nat.le_of_eq rfl) (hb hby at_40) (by decide) (by decide) (by decide) (by decide)
      obtain ⟨h664, e664⟩ : ∃ z, T664.heap = z := ⟨_, rfl⟩
      rw [e664] at hQ664
      obtain ⟨b666, rfl, Nq664, K664, bx667, ex668, fx669⟩ := hQ664
      have N664 := Fr.app N651 Nq664
      have E671 : Exa Z h651 b620 zs4 := (E658.keep K651)
      have N670 : b620 ≠ b666 := Nat.ne_of_lt (Nat.lt_of_lt_of_le E671.lt bx667)
      have E673 : Exa Z h651 b642 zs1 := (ex644.keep K651)
      have N672 : b642 ≠ b666 := Nat.ne_of_lt (Nat.lt_of_lt_of_le E673.lt bx667)
      have N674 : b653 ≠ b666 := Nat.ne_of_lt (Nat.lt_of_lt_of_le ex655.lt bx667)
      have g675 : n0 ≤ b666 := Nat.le_trans (own_old O665) bx667
      have Z677 : h0.size ≤ h651.size := (Nat.le_trans Z662 K651.1)
      have B676 : h0.size ≤ b666 := Nat.le_trans Z677 bx667
      have hk678 : T664.heap.size ≤ h664.size := Nat.le_of_eq (congrArg Array.size e664)
      refine own_via (fun t k => st664 t (XS.astore X664.here hx rfl (hb hby at_43) rfl rfl (l' := #[iv i0, iv i1, iv (1 : Int32), rv b642, rv b666, .unset]) rfl (XS.iloadN X664.here hx rfl (hb hby at_45) rfl (XS.iconst X664.here hx rfl (hb hby at_46) (XS.icmpYes X664.here hx rfl (pc0 := 47) (pc' := 72) rfl (hb hby at_47) rfl (tlt (by decide : (1 : Int32) < (2 : Int32))).1 (by decide) (by decide) (XS.aload X664.here hx rfl (hb hby at_72) rfl rfl k)))))) ?_
      show own_Goes p e below (T664.setTop (mkF m 74 #[iv i0, iv i1, iv (1 : Int32), rv b642, rv b666, .unset] [(.ref b666)])) _
      have O680 : Old Z n0 h664 := (O665.keep K664 all0)
      obtain ⟨_, T679, _, X679, hQ679, hS, hZ, hown, st679⟩ := own_cvS X664 hx hZ hS hk678 hown (wd hw 45 rfl) (wd hw 46 rfl) (wd hw 48 rfl) (wd hw 47 rfl) (wd hw 49 rfl) (wd hw 2 rfl) (by decide) (rm13 l Z a0 hw [] b666 w24 h664 n0 O680 S_Tertium_ABSENT SE_w24 g675) e664 ex668 (g := (mkF m 74 #[iv i0, iv i1, iv (1 : Int32), rv b642, rv b666, .unset] [(.ref b666)])) rfl (by rw [hml]; rfl) (rest := []) (W := 0) (lenOf pd_9 rfl) rfl (by show 2 * 0 + _ ≤ _; exact Nat.le_of_eq rfl) (hb hby at_74) (by decide) (by decide) (by decide) (by decide)
      obtain ⟨rfl, Nq679, hh681⟩ := hQ679
      have N679 := Fr.app N664 Nq679
      have hk682 : T679.heap.size ≤ h664.size := Nat.le_of_eq (congrArg Array.size hh681)
      refine own_via (fun t k => st679 t (XS.ifNo X679.here hx rfl (hb hby at_77) rfl ((if0 _ _).trans (teq (by decide : (0 : Int32) = (0 : Int32))).2) (XS.aload X679.here hx rfl (hb hby at_80) rfl rfl k))) ?_
      show own_Goes p e below (T679.setTop (mkF m 82 #[iv i0, iv i1, iv (1 : Int32), rv b642, rv b666, .unset] [(.ref b666)])) _
      obtain ⟨_, T683, _, X683, hQ683, hS, hZ, hown, st683⟩ := own_cvS X679 hx hZ hS hk682 hown (wd hw 50 rfl) (wd hw 51 rfl) (wd hw 53 rfl) (wd hw 52 rfl) (wd hw 54 rfl) (wd hw 2 rfl) (by decide) (rm14 l Z a0 hw [] b666 w21 h664 n0 O680 S_Tertium_NULL SE_w21 g675) hh681 ex668 (g := (mkF m 82 #[iv i0, iv i1, iv (1 : Int32), rv b642, rv b666, .unset] [(.ref b666)])) rfl (by rw [hml]; rfl) (rest := []) (W := 0) (lenOf pd_9 rfl) rfl (by show 2 * 0 + _ ≤ _; exact Nat.le_of_eq rfl) (hb hby at_82) (by decide) (by decide) (by decide) (by decide)
      obtain ⟨rfl, Nq683, hh684⟩ := hQ683
      have N683 := Fr.app N679 Nq683
      have hk685 : T683.heap.size ≤ h664.size := Nat.le_of_eq (congrArg Array.size hh684)
      refine own_via (fun t k => st683 t (XS.ifYes X683.here hx rfl (pc0 := 85) (pc' := 90) rfl (hb hby at_85) rfl ((if0 _ _).trans (teq (by decide : (0 : Int32) = (0 : Int32))).1) (by decide) (by decide) (XS.aload X683.here hx rfl (hb hby at_90) rfl rfl k))) ?_
      show own_Goes p e below (T683.setTop (mkF m 92 #[iv i0, iv i1, iv (1 : Int32), rv b642, rv b666, .unset] [(.ref b666)])) _
      obtain ⟨_, T686, _, X686, hQ686, hS, hZ, hown, st686⟩ := own_cvS X683 hx hZ hS hk685 hown (wd hw 86 rfl) (wd hw 87 rfl) (wd hw 89 rfl) (wd hw 88 rfl) (wd hw 90 rfl) (wd hw 2 rfl) (by decide) (rm15 l Z a0 hw [] b666 w24 b620 h664 n0 O680 S_Tertium_ABSENT SE_w24 g675 ex668 fx669) hh684 ex668 (g := (mkF m 92 #[iv i0, iv i1, iv (1 : Int32), rv b642, rv b666, .unset] [(.ref b666)])) rfl (by rw [hml]; rfl) (rest := []) (W := 0) (lenOf pd_10 rfl) rfl (by show 2 * 0 + _ ≤ _; exact Nat.le_of_eq rfl) (hb hby at_92) (by decide) (by decide) (by decide) (by decide)
      obtain ⟨rfl, Nq686, hh687⟩ := hQ686
      have N686 := Fr.app N683 Nq686
      have hk688 : T686.heap.size ≤ h664.size := Nat.le_of_eq (congrArg Array.size hh687)
      refine own_via (fun t k => st686 t k) ?_
      have E690 : Exa Z h664 b620 zs4 := (E671.keep K664)
      obtain ⟨T689, X689, e689, st689⟩ := castY X686 hx hZ hown (wd hw 92 rfl) hh687 (Ins.self E690) (g := (mkF m 95 #[iv i0, iv i1, iv (1 : Int32), rv b642, rv b666, .unset] [(.ref b620)])) rfl rfl (hb hby at_95)
      refine own_via (fun t k => st689 t (XS.astore X689.here hx rfl (hb hby at_98) rfl rfl (l' := #[iv i0, iv i1, iv (1 : Int32), rv b642, rv b666, rv b620]) rfl (XS.aload X689.here hx rfl (hb hby at_100) rfl rfl (XS.ifnullNo X689.here hx rfl (hb hby at_102) rfl (XS.aload X689.here hx rfl (hb hby at_105) rfl rfl k))))) ?_
      show own_Goes p e below (T689.setTop (mkF m 107 #[iv i0, iv i1, iv (1 : Int32), rv b642, rv b666, rv b620] [(.ref b620)])) _
      have F692 : Fld Z h664 b620 zs4 "value" "I" (.int i0) := (((fx624.keep K640 nin0).keep K651 nin0).keep K664 nin0)
      obtain ⟨_, T691, _, X691, hQ691, hS, hZ, hown, st691⟩ := own_cvS X689 hx hZ hS hk688 hown (wd hw 94 rfl) (wd hw 95 rfl) (wd hw 97 rfl) (wd hw 96 rfl) (wd hw 98 rfl) (wd hw 57 rfl) (by decide) (rm16 l Z a0 hw [] b620 i0 h664 n0 O680 F692) e689 E690 (g := (mkF m 107 #[iv i0, iv i1, iv (1 : Int32), rv b642, rv b666, rv b620] [(.ref b620)])) rfl (by rw [hml]; rfl) (rest := []) (W := 0) (lenOf pd_12 rfl) rfl (by show 2 * 0 + _ ≤ _; exact Nat.le_of_eq rfl) (hb hby at_107) (by decide) (by decide) (by decide) (by decide)
      obtain ⟨rfl, Nq691, hh693⟩ := hQ691
      have N691 := Fr.app N686 Nq691
      have hk694 : T691.heap.size ≤ h664.size := Nat.le_of_eq (congrArg Array.size hh693)
      refine own_via (fun t k => st691 t (XS.iloadN X691.here hx rfl (hb hby at_110) rfl (XS.icmpNo X691.here hx rfl (hb hby at_111) rfl (teq (rfl : i0 = i0)).2 (XS.iconst X691.here hx rfl (hb hby at_114) (XS.goto X691.here hx rfl (pc0 := 115) (pc' := 119) rfl (hb hby at_115) (by decide) (by decide) k))))) ?_
      show own_Goes p e below (T691.setTop (mkF m 119 #[iv i0, iv i1, iv (1 : Int32), rv b642, rv b666, rv b620] [(.int (1 : Int32))])) _
      obtain ⟨fs, hr, hrun, hended, hRW⟩ := X691.leaveW hS (by rw [hh693]; first | exact hk694 | exact Nat.le_refl _) (v := some (.int (1 : Int32))) (fun h => by rw [Bd.returns] at h; cases h)
      refine own_end (t := T691.setFrames fs) ?_ ⟨_, hrun, hended, _, _, rfl, ?_, own_rmono hRW (by decide) (by decide)⟩
      · exact retN X691 hx (t := .boolean) Bd.returns (by simp) (hb hby at_119) hr
      · exact ⟨rfl, N691⟩
    · have N619 := Fr.app N0 Nq619
      have g695 : n0 ≤ b625 := Nat.le_trans (own_old O0) bx628
      have B696 : h0.size ≤ b625 := Nat.le_trans (Nat.le_refl _) bx628
      have hk697 : T619.heap.size ≤ h619.size := Nat.le_of_eq (congrArg Array.size e619)
      refine own_via (fun t k => st619 t k) ?_
      have O699 : Old Z n0 h619 := (O0.keep K619 all0)
      obtain ⟨_, T698, _, X698, hQ698, hS, hZ, hown, st698⟩ := own_csS X619 hx hZ hS hk697 hown (wd hw 62 rfl) (wd hw 63 rfl) (wd hw 64 rfl) (wd hw 2 rfl) (by decide) (rm5 l Z a0 hw [] b625 h619 n0 O699 ) e619 (g := (mkF m 32 #[iv i0, iv i1, iv (1 : Int32), .unset, .unset, .unset] [(.ref b625)])) rfl (by rw [hml]; rfl) (rest := []) (W := 0) (lenOf pd_5 rfl) rfl (by show 2 * 0 + _ ≤ _; exact Nat.le_of_eq rfl) (hb hby at_32) (by decide) (by decide) (by decide) (by decide)
      obtain ⟨h698, e698⟩ : ∃ z, T698.heap = z := ⟨_, rfl⟩
      rw [e698] at hQ698
      obtain ⟨b700, rfl, Nq698, K698, bx701, ex702, fx703⟩ := hQ698
      have N698 := Fr.app N619 Nq698
      have N704 : b625 ≠ b700 := Nat.ne_of_lt (Nat.lt_of_lt_of_le ex629.lt bx701)
      have g705 : n0 ≤ b700 := Nat.le_trans (own_old O699) bx701
      have Z707 : h0.size ≤ h619.size := (Nat.le_trans (Nat.le_refl _) K619.1)
      have B706 : h0.size ≤ b700 := Nat.le_trans Z707 bx701
      have hk708 : T698.heap.size ≤ h698.size := Nat.le_of_eq (congrArg Array.size e698)
      refine own_via (fun t k => st698 t (XS.astoreN X698.here hx rfl (hb hby at_35) rfl rfl (l' := #[iv i0, iv i1, iv (1 : Int32), rv b700, .unset, .unset]) rfl (XS.aloadN X698.here hx rfl (hb hby at_36) rfl rfl k))) ?_
      show own_Goes p e below (T698.setTop (mkF m 37 #[iv i0, iv i1, iv (1 : Int32), rv b700, .unset, .unset] [(.ref b700)])) _
      have O710 : Old Z n0 h698 := (O699.keep K698 all0)
      obtain ⟨_, T709, _, X709, hQ709, hS, hZ, hown, st709⟩ := own_cvS X698 hx hZ hS hk708 hown (wd hw 6 rfl) (wd hw 7 rfl) (wd hw 9 rfl) (wd hw 8 rfl) (wd hw 10 rfl) (wd hw 2 rfl) (by decide) (rm8 l Z a0 hw [] b700 b625 h698 n0 O710 fx703) e698 ex702 (g := (mkF m 37 #[iv i0, iv i1, iv (1 : Int32), rv b700, .unset, .unset] [(.ref b700)])) rfl (by rw [hml]; rfl) (rest := []) (W := 0) (lenOf pd_7 rfl) rfl (by show 2 * 0 + _ ≤ _; exact Nat.le_of_eq rfl) (hb hby at_37) (by decide) (by decide) (by decide) (by decide)
      obtain ⟨h709, e709⟩ : ∃ z, T709.heap = z := ⟨_, rfl⟩
      rw [e709] at hQ709
      obtain ⟨b711, rfl, Nq709, K709, bx712, ex713, fx714⟩ := hQ709
      have N709 := Fr.app N698 Nq709
      have E716 : Exa Z h698 b625 zs4 := (ex629.keep K698)
      have N715 : b625 ≠ b711 := Nat.ne_of_lt (Nat.lt_of_lt_of_le E716.lt bx712)
      have N717 : b700 ≠ b711 := Nat.ne_of_lt (Nat.lt_of_lt_of_le ex702.lt bx712)
      have g718 : n0 ≤ b711 := Nat.le_trans (own_old O710) bx712
      have Z720 : h0.size ≤ h698.size := (Nat.le_trans Z707 K698.1)
      have B719 : h0.size ≤ b711 := Nat.le_trans Z720 bx712
      have hk721 : T709.heap.size ≤ h709.size := Nat.le_of_eq (congrArg Array.size e709)
      refine own_via (fun t k => st709 t k) ?_
      have O723 : Old Z n0 h709 := (O710.keep K709 all0)
      obtain ⟨_, T722, _, X722, hQ722, hS, hZ, hown, st722⟩ := own_csS X709 hx hZ hS hk721 hown (wd hw 18 rfl) (wd hw 19 rfl) (wd hw 20 rfl) (wd hw 2 rfl) (by decide) (rm12 l Z a0 hw [] b711 b625 h709 n0 O723 fx714 ex713) e709 (g := (mkF m 40 #[iv i0, iv i1, iv (1 : Int32), rv b700, .unset, .unset] [(.ref b711)])) rfl (by rw [hml]; rfl) (rest := []) (W := 0) (lenOf pd_11 rfl) rfl (by show 2 * 0 + _ ≤ _; exact Nat.le_of_eq rfl) (hb hby at_40) (by decide) (by decide) (by decide) (by decide)
      obtain ⟨h722, e722⟩ : ∃ z, T722.heap = z := ⟨_, rfl⟩
      rw [e722] at hQ722
      obtain ⟨b724, rfl, Nq722, K722, bx725, ex726, fx727⟩ := hQ722
      have N722 := Fr.app N709 Nq722
      have E729 : Exa Z h709 b625 zs4 := (E716.keep K709)
      have N728 : b625 ≠ b724 := Nat.ne_of_lt (Nat.lt_of_lt_of_le E729.lt bx725)
      have E731 : Exa Z h709 b700 zs1 := (ex702.keep K709)
      have N730 : b700 ≠ b724 := Nat.ne_of_lt (Nat.lt_of_lt_of_le E731.lt bx725)
      have N732 : b711 ≠ b724 := Nat.ne_of_lt (Nat.lt_of_lt_of_le ex713.lt bx725)
      have g733 : n0 ≤ b724 := Nat.le_trans (own_old O723) bx725
      have Z735 : h0.size ≤ h709.size := (Nat.le_trans Z720 K709.1)
      have B734 : h0.size ≤ b724 := Nat.le_trans Z735 bx725
      have hk736 : T722.heap.size ≤ h722.size := Nat.le_of_eq (congrArg Array.size e722)
      refine own_via (fun t k => st722 t (XS.astore X722.here hx rfl (hb hby at_43) rfl rfl (l' := #[iv i0, iv i1, iv (1 : Int32), rv b700, rv b724, .unset]) rfl (XS.iloadN X722.here hx rfl (hb hby at_45) rfl (XS.iconst X722.here hx rfl (hb hby at_46) (XS.icmpYes X722.here hx rfl (pc0 := 47) (pc' := 72) rfl (hb hby at_47) rfl (tlt (by decide : (1 : Int32) < (2 : Int32))).1 (by decide) (by decide) (XS.aload X722.here hx rfl (hb hby at_72) rfl rfl k)))))) ?_
      show own_Goes p e below (T722.setTop (mkF m 74 #[iv i0, iv i1, iv (1 : Int32), rv b700, rv b724, .unset] [(.ref b724)])) _
      have O738 : Old Z n0 h722 := (O723.keep K722 all0)
      obtain ⟨_, T737, _, X737, hQ737, hS, hZ, hown, st737⟩ := own_cvS X722 hx hZ hS hk736 hown (wd hw 45 rfl) (wd hw 46 rfl) (wd hw 48 rfl) (wd hw 47 rfl) (wd hw 49 rfl) (wd hw 2 rfl) (by decide) (rm13 l Z a0 hw [] b724 w24 h722 n0 O738 S_Tertium_ABSENT SE_w24 g733) e722 ex726 (g := (mkF m 74 #[iv i0, iv i1, iv (1 : Int32), rv b700, rv b724, .unset] [(.ref b724)])) rfl (by rw [hml]; rfl) (rest := []) (W := 0) (lenOf pd_9 rfl) rfl (by show 2 * 0 + _ ≤ _; exact Nat.le_of_eq rfl) (hb hby at_74) (by decide) (by decide) (by decide) (by decide)
      obtain ⟨rfl, Nq737, hh739⟩ := hQ737
      have N737 := Fr.app N722 Nq737
      have hk740 : T737.heap.size ≤ h722.size := Nat.le_of_eq (congrArg Array.size hh739)
      refine own_via (fun t k => st737 t (XS.ifNo X737.here hx rfl (hb hby at_77) rfl ((if0 _ _).trans (teq (by decide : (0 : Int32) = (0 : Int32))).2) (XS.aload X737.here hx rfl (hb hby at_80) rfl rfl k))) ?_
      show own_Goes p e below (T737.setTop (mkF m 82 #[iv i0, iv i1, iv (1 : Int32), rv b700, rv b724, .unset] [(.ref b724)])) _
      obtain ⟨_, T741, _, X741, hQ741, hS, hZ, hown, st741⟩ := own_cvS X737 hx hZ hS hk740 hown (wd hw 50 rfl) (wd hw 51 rfl) (wd hw 53 rfl) (wd hw 52 rfl) (wd hw 54 rfl) (wd hw 2 rfl) (by decide) (rm14 l Z a0 hw [] b724 w21 h722 n0 O738 S_Tertium_NULL SE_w21 g733) hh739 ex726 (g := (mkF m 82 #[iv i0, iv i1, iv (1 : Int32), rv b700, rv b724, .unset] [(.ref b724)])) rfl (by rw [hml]; rfl) (rest := []) (W := 0) (lenOf pd_9 rfl) rfl (by show 2 * 0 + _ ≤ _; exact Nat.le_of_eq rfl) (hb hby at_82) (by decide) (by decide) (by decide) (by decide)
      obtain ⟨rfl, Nq741, hh742⟩ := hQ741
      have N741 := Fr.app N737 Nq741
      have hk743 : T741.heap.size ≤ h722.size := Nat.le_of_eq (congrArg Array.size hh742)
      refine own_via (fun t k => st741 t (XS.ifYes X741.here hx rfl (pc0 := 85) (pc' := 90) rfl (hb hby at_85) rfl ((if0 _ _).trans (teq (by decide : (0 : Int32) = (0 : Int32))).1) (by decide) (by decide) (XS.aload X741.here hx rfl (hb hby at_90) rfl rfl k))) ?_
      show own_Goes p e below (T741.setTop (mkF m 92 #[iv i0, iv i1, iv (1 : Int32), rv b700, rv b724, .unset] [(.ref b724)])) _
      obtain ⟨_, T744, _, X744, hQ744, hS, hZ, hown, st744⟩ := own_cvS X741 hx hZ hS hk743 hown (wd hw 86 rfl) (wd hw 87 rfl) (wd hw 89 rfl) (wd hw 88 rfl) (wd hw 90 rfl) (wd hw 2 rfl) (by decide) (rm15 l Z a0 hw [] b724 w24 b625 h722 n0 O738 S_Tertium_ABSENT SE_w24 g733 ex726 fx727) hh742 ex726 (g := (mkF m 92 #[iv i0, iv i1, iv (1 : Int32), rv b700, rv b724, .unset] [(.ref b724)])) rfl (by rw [hml]; rfl) (rest := []) (W := 0) (lenOf pd_10 rfl) rfl (by show 2 * 0 + _ ≤ _; exact Nat.le_of_eq rfl) (hb hby at_92) (by decide) (by decide) (by decide) (by decide)
      obtain ⟨rfl, Nq744, hh745⟩ := hQ744
      have N744 := Fr.app N741 Nq744
      have hk746 : T744.heap.size ≤ h722.size := Nat.le_of_eq (congrArg Array.size hh745)
      refine own_via (fun t k => st744 t k) ?_
      have E748 : Exa Z h722 b625 zs4 := (E729.keep K722)
      obtain ⟨T747, X747, e747, st747⟩ := castY X744 hx hZ hown (wd hw 92 rfl) hh745 (Ins.self E748) (g := (mkF m 95 #[iv i0, iv i1, iv (1 : Int32), rv b700, rv b724, .unset] [(.ref b625)])) rfl rfl (hb hby at_95)
      refine own_via (fun t k => st747 t (XS.astore X747.here hx rfl (hb hby at_98) rfl rfl (l' := #[iv i0, iv i1, iv (1 : Int32), rv b700, rv b724, rv b625]) rfl (XS.aload X747.here hx rfl (hb hby at_100) rfl rfl (XS.ifnullNo X747.here hx rfl (hb hby at_102) rfl (XS.aload X747.here hx rfl (hb hby at_105) rfl rfl k))))) ?_
      show own_Goes p e below (T747.setTop (mkF m 107 #[iv i0, iv i1, iv (1 : Int32), rv b700, rv b724, rv b625] [(.ref b625)])) _
      have F750 : Fld Z h722 b625 zs4 "value" "I" (.int i0) := (((fx630.keep K698 nin0).keep K709 nin0).keep K722 nin0)
      obtain ⟨_, T749, _, X749, hQ749, hS, hZ, hown, st749⟩ := own_cvS X747 hx hZ hS hk746 hown (wd hw 94 rfl) (wd hw 95 rfl) (wd hw 97 rfl) (wd hw 96 rfl) (wd hw 98 rfl) (wd hw 57 rfl) (by decide) (rm16 l Z a0 hw [] b625 i0 h722 n0 O738 F750) e747 E748 (g := (mkF m 107 #[iv i0, iv i1, iv (1 : Int32), rv b700, rv b724, rv b625] [(.ref b625)])) rfl (by rw [hml]; rfl) (rest := []) (W := 0) (lenOf pd_12 rfl) rfl (by show 2 * 0 + _ ≤ _; exact Nat.le_of_eq rfl) (hb hby at_107) (by decide) (by decide) (by decide) (by decide)
      obtain ⟨rfl, Nq749, hh751⟩ := hQ749
      have N749 := Fr.app N744 Nq749
      have hk752 : T749.heap.size ≤ h722.size := Nat.le_of_eq (congrArg Array.size hh751)
      refine own_via (fun t k => st749 t (XS.iloadN X749.here hx rfl (hb hby at_110) rfl (XS.icmpNo X749.here hx rfl (hb hby at_111) rfl (teq (rfl : i0 = i0)).2 (XS.iconst X749.here hx rfl (hb hby at_114) (XS.goto X749.here hx rfl (pc0 := 115) (pc' := 119) rfl (hb hby at_115) (by decide) (by decide) k))))) ?_
      show own_Goes p e below (T749.setTop (mkF m 119 #[iv i0, iv i1, iv (1 : Int32), rv b700, rv b724, rv b625] [(.int (1 : Int32))])) _
      obtain ⟨fs, hr, hrun, hended, hRW⟩ := X749.leaveW hS (by rw [hh751]; first | exact hk752 | exact Nat.le_refl _) (v := some (.int (1 : Int32))) (fun h => by rw [Bd.returns] at h; cases h)
      refine own_end (t := T749.setFrames fs) ?_ ⟨_, hrun, hended, _, _, rfl, ?_, own_rmono hRW (by decide) (by decide)⟩
      · exact retN X749 hx (t := .boolean) Bd.returns (by simp) (hb hby at_119) hr
      · exact ⟨rfl, N749⟩
    · have N619 := Fr.app N0 Nq619
      have hk753 : T619.heap.size ≤ h0.size := Nat.le_of_eq (congrArg Array.size (e619.trans hh636))
      refine own_via (fun t k => st619 t k) ?_
      obtain ⟨_, T754, _, X754, hQ754, hS, hZ, hown, st754⟩ := own_csS X619 hx hZ hS hk753 hown (wd hw 62 rfl) (wd hw 63 rfl) (wd hw 64 rfl) (wd hw 2 rfl) (by decide) (rm28 l Z a0 hw [] b631 h0 n0 O0 ) (e619.trans hh636) (g := (mkF m 32 #[iv i0, iv i1, iv (1 : Int32), .unset, .unset, .unset] [(.ref b631)])) rfl (by rw [hml]; rfl) (rest := []) (W := 0) (lenOf pd_5 rfl) rfl (by show 2 * 0 + _ ≤ _; exact Nat.le_of_eq rfl) (hb hby at_32) (by decide) (by decide) (by decide) (by decide)
      obtain ⟨h754, e754⟩ : ∃ z, T754.heap = z := ⟨_, rfl⟩
      rw [e754] at hQ754
      obtain ⟨b785, rfl, Nq754, K754, bx786, ex787, fx788⟩ := hQ754
      have N754 := Fr.app N619 Nq754
      have g789 : n0 ≤ b785 := Nat.le_trans (own_old O0) bx786
      have B790 : h0.size ≤ b785 := Nat.le_trans (Nat.le_refl _) bx786
      have hk791 : T754.heap.size ≤ h754.size := Nat.le_of_eq (congrArg Array.size e754)
      refine own_via (fun t k => st754 t (XS.astoreN X754.here hx rfl (hb hby at_35) rfl rfl (l' := #[iv i0, iv i1, iv (1 : Int32), rv b785, .unset, .unset]) rfl (XS.aloadN X754.here hx rfl (hb hby at_36) rfl rfl k))) ?_
      show own_Goes p e below (T754.setTop (mkF m 37 #[iv i0, iv i1, iv (1 : Int32), rv b785, .unset, .unset] [(.ref b785)])) _
      have O842 : Old Z n0 h754 := (O0.keep K754 all0)
      obtain ⟨_, T792, _, X792, hQ792, hS, hZ, hown, st792⟩ := own_cvS X754 hx hZ hS hk791 hown (wd hw 6 rfl) (wd hw 7 rfl) (wd hw 9 rfl) (wd hw 8 rfl) (wd hw 10 rfl) (wd hw 2 rfl) (by decide) (rm31 l Z a0 hw [] b785 b631 h754 n0 O842 fx788) e754 ex787 (g := (mkF m 37 #[iv i0, iv i1, iv (1 : Int32), rv b785, .unset, .unset] [(.ref b785)])) rfl (by rw [hml]; rfl) (rest := []) (W := 0) (lenOf pd_7 rfl) rfl (by show 2 * 0 + _ ≤ _; exact Nat.le_of_eq rfl) (hb hby at_37) (by decide) (by decide) (by decide) (by decide)
      obtain ⟨h792, e792⟩ : ∃ z, T792.heap = z := ⟨_, rfl⟩
      rw [e792] at hQ792
      obtain ⟨b843, rfl, Nq792, K792, bx844, ex845, fx846⟩ := hQ792
      have N792 := Fr.app N754 Nq792
      have N847 : b785 ≠ b843 := Nat.ne_of_lt (Nat.lt_of_lt_of_le ex787.lt bx844)
      have g848 : n0 ≤ b843 := Nat.le_trans (own_old O842) bx844
      have Z850 : h0.size ≤ h754.size := (Nat.le_trans (Nat.le_refl _) K754.1)
      have B849 : h0.size ≤ b843 := Nat.le_trans Z850 bx844
      have hk851 : T792.heap.size ≤ h792.size := Nat.le_of_eq (congrArg Array.size e792)
      refine own_via (fun t k => st792 t k) ?_
      have O906 : Old Z n0 h792 := (O842.keep K792 all0)
      obtain ⟨_, T852, _, X852, hQ852, hS, hZ, hown, st852⟩ := own_csS X792 hx hZ hS hk851 hown (wd hw 18 rfl) (wd hw 19 rfl) (wd hw 20 rfl) (wd hw 2 rfl) (by decide) (rm34 l Z a0 hw [] b843 b631 h792 n0 O906 fx846 ex845) e792 (g := (mkF m 40 #[iv i0, iv i1, iv (1 : Int32), rv b785, .unset, .unset] [(.ref b843)])) rfl (by rw [hml]; rfl) (rest := []) (W := 0) (lenOf pd_11 rfl) rfl (by show 2 * 0 + _ ≤ _; exact Nat.le_of_eq rfl) (hb hby at_40) (by decide) (by decide) (by decide) (by decide)
      obtain ⟨h852, e852⟩ : ∃ z, T852.heap = z := ⟨_, rfl⟩
      rw [e852] at hQ852
      obtain ⟨b907, rfl, Nq852, K852, bx908, ex909, fx910⟩ := hQ852
      have N852 := Fr.app N792 Nq852
      have E912 : Exa Z h792 b785 zs1 := (ex787.keep K792)
      have N911 : b785 ≠ b907 := Nat.ne_of_lt (Nat.lt_of_lt_of_le E912.lt bx908)
      have N913 : b843 ≠ b907 := Nat.ne_of_lt (Nat.lt_of_lt_of_le ex845.lt bx908)
      have g914 : n0 ≤ b907 := Nat.le_trans (own_old O906) bx908
      have Z916 : h0.size ≤ h792.size := (Nat.le_trans Z850 K792.1)
      have B915 : h0.size ≤ b907 := Nat.le_trans Z916 bx908
      have hk917 : T852.heap.size ≤ h852.size := Nat.le_of_eq (congrArg Array.size e852)
      refine own_via (fun t k => st852 t (XS.astore X852.here hx rfl (hb hby at_43) rfl rfl (l' := #[iv i0, iv i1, iv (1 : Int32), rv b785, rv b907, .unset]) rfl (XS.iloadN X852.here hx rfl (hb hby at_45) rfl (XS.iconst X852.here hx rfl (hb hby at_46) (XS.icmpYes X852.here hx rfl (pc0 := 47) (pc' := 72) rfl (hb hby at_47) rfl (tlt (by decide : (1 : Int32) < (2 : Int32))).1 (by decide) (by decide) (XS.aload X852.here hx rfl (hb hby at_72) rfl rfl k)))))) ?_
      show own_Goes p e below (T852.setTop (mkF m 74 #[iv i0, iv i1, iv (1 : Int32), rv b785, rv b907, .unset] [(.ref b907)])) _
      have O919 : Old Z n0 h852 := (O906.keep K852 all0)
      obtain ⟨_, T918, _, X918, hQ918, hS, hZ, hown, st918⟩ := own_cvS X852 hx hZ hS hk917 hown (wd hw 45 rfl) (wd hw 46 rfl) (wd hw 48 rfl) (wd hw 47 rfl) (wd hw 49 rfl) (wd hw 2 rfl) (by decide) (rm13 l Z a0 hw [] b907 w24 h852 n0 O919 S_Tertium_ABSENT SE_w24 g914) e852 ex909 (g := (mkF m 74 #[iv i0, iv i1, iv (1 : Int32), rv b785, rv b907, .unset] [(.ref b907)])) rfl (by rw [hml]; rfl) (rest := []) (W := 0) (lenOf pd_9 rfl) rfl (by show 2 * 0 + _ ≤ _; exact Nat.le_of_eq rfl) (hb hby at_74) (by decide) (by decide) (by decide) (by decide)
      obtain ⟨rfl, Nq918, hh920⟩ := hQ918
      have N918 := Fr.app N852 Nq918
      have hk921 : T918.heap.size ≤ h852.size := Nat.le_of_eq (congrArg Array.size hh920)
      refine own_via (fun t k => st918 t (XS.ifNo X918.here hx rfl (hb hby at_77) rfl ((if0 _ _).trans (teq (by decide : (0 : Int32) = (0 : Int32))).2) (XS.aload X918.here hx rfl (hb hby at_80) rfl rfl k))) ?_
      show own_Goes p e below (T918.setTop (mkF m 82 #[iv i0, iv i1, iv (1 : Int32), rv b785, rv b907, .unset] [(.ref b907)])) _
      obtain ⟨_, T922, _, X922, hQ922, hS, hZ, hown, st922⟩ := own_cvS X918 hx hZ hS hk921 hown (wd hw 50 rfl) (wd hw 51 rfl) (wd hw 53 rfl) (wd hw 52 rfl) (wd hw 54 rfl) (wd hw 2 rfl) (by decide) (rm14 l Z a0 hw [] b907 w21 h852 n0 O919 S_Tertium_NULL SE_w21 g914) hh920 ex909 (g := (mkF m 82 #[iv i0, iv i1, iv (1 : Int32), rv b785, rv b907, .unset] [(.ref b907)])) rfl (by rw [hml]; rfl) (rest := []) (W := 0) (lenOf pd_9 rfl) rfl (by show 2 * 0 + _ ≤ _; exact Nat.le_of_eq rfl) (hb hby at_82) (by decide) (by decide) (by decide) (by decide)
      obtain ⟨rfl, Nq922, hh923⟩ := hQ922
      have N922 := Fr.app N918 Nq922
      have hk924 : T922.heap.size ≤ h852.size := Nat.le_of_eq (congrArg Array.size hh923)
      refine own_via (fun t k => st922 t (XS.ifYes X922.here hx rfl (pc0 := 85) (pc' := 90) rfl (hb hby at_85) rfl ((if0 _ _).trans (teq (by decide : (0 : Int32) = (0 : Int32))).1) (by decide) (by decide) (XS.aload X922.here hx rfl (hb hby at_90) rfl rfl k))) ?_
      show own_Goes p e below (T922.setTop (mkF m 92 #[iv i0, iv i1, iv (1 : Int32), rv b785, rv b907, .unset] [(.ref b907)])) _
      obtain ⟨_, T925, _, X925, hQ925, hS, hZ, hown, st925⟩ := own_cvS X922 hx hZ hS hk924 hown (wd hw 86 rfl) (wd hw 87 rfl) (wd hw 89 rfl) (wd hw 88 rfl) (wd hw 90 rfl) (wd hw 2 rfl) (by decide) (rm35 l Z a0 hw [] b907 w24 b631 h852 n0 O919 S_Tertium_ABSENT SE_w24 g914 ex909 fx910) hh923 ex909 (g := (mkF m 92 #[iv i0, iv i1, iv (1 : Int32), rv b785, rv b907, .unset] [(.ref b907)])) rfl (by rw [hml]; rfl) (rest := []) (W := 0) (lenOf pd_10 rfl) rfl (by show 2 * 0 + _ ≤ _; exact Nat.le_of_eq rfl) (hb hby at_92) (by decide) (by decide) (by decide) (by decide)
      obtain ⟨rfl, Nq925, hh940⟩ := hQ925
      have N925 := Fr.app N922 Nq925
      have hk941 : T925.heap.size ≤ h852.size := Nat.le_of_eq (congrArg Array.size hh940)
      refine own_via (fun t k => st925 t k) ?_
      obtain ⟨T942, X942, e942, st942⟩ := castY X925 hx hZ hown (wd hw 92 rfl) hh940 (Ins.self (sx634.ext O919.2)) (g := (mkF m 95 #[iv i0, iv i1, iv (1 : Int32), rv b785, rv b907, .unset] [(.ref b631)])) rfl rfl (hb hby at_95)
      refine own_via (fun t k => st942 t (XS.astore X942.here hx rfl (hb hby at_98) rfl rfl (l' := #[iv i0, iv i1, iv (1 : Int32), rv b785, rv b907, rv b631]) rfl (XS.aload X942.here hx rfl (hb hby at_100) rfl rfl (XS.ifnullNo X942.here hx rfl (hb hby at_102) rfl (XS.aload X942.here hx rfl (hb hby at_105) rfl rfl k))))) ?_
      show own_Goes p e below (T942.setTop (mkF m 107 #[iv i0, iv i1, iv (1 : Int32), rv b785, rv b907, rv b631] [(.ref b631)])) _
      obtain ⟨_, T943, _, X943, hQ943, hS, hZ, hown, st943⟩ := own_cvS X942 hx hZ hS hk941 hown (wd hw 94 rfl) (wd hw 95 rfl) (wd hw 97 rfl) (wd hw 96 rfl) (wd hw 98 rfl) (wd hw 57 rfl) (by decide) (rm36 l Z a0 hw [] b631 i0 h852 n0 O919 sx635) e942 (sx634.ext O919.2) (g := (mkF m 107 #[iv i0, iv i1, iv (1 : Int32), rv b785, rv b907, rv b631] [(.ref b631)])) rfl (by rw [hml]; rfl) (rest := []) (W := 0) (lenOf pd_12 rfl) rfl (by show 2 * 0 + _ ≤ _; exact Nat.le_of_eq rfl) (hb hby at_107) (by decide) (by decide) (by decide) (by decide)
      obtain ⟨rfl, Nq943, hh955⟩ := hQ943
      have N943 := Fr.app N925 Nq943
      have hk956 : T943.heap.size ≤ h852.size := Nat.le_of_eq (congrArg Array.size hh955)
      refine own_via (fun t k => st943 t (XS.iloadN X943.here hx rfl (hb hby at_110) rfl (XS.icmpNo X943.here hx rfl (hb hby at_111) rfl (teq (rfl : i0 = i0)).2 (XS.iconst X943.here hx rfl (hb hby at_114) (XS.goto X943.here hx rfl (pc0 := 115) (pc' := 119) rfl (hb hby at_115) (by decide) (by decide) k))))) ?_
      show own_Goes p e below (T943.setTop (mkF m 119 #[iv i0, iv i1, iv (1 : Int32), rv b785, rv b907, rv b631] [(.int (1 : Int32))])) _
      obtain ⟨fs, hr, hrun, hended, hRW⟩ := X943.leaveW hS (by rw [hh955]; first | exact hk956 | exact Nat.le_refl _) (v := some (.int (1 : Int32))) (fun h => by rw [Bd.returns] at h; cases h)
      refine own_end (t := T943.setFrames fs) ?_ ⟨_, hrun, hended, _, _, rfl, ?_, own_rmono hRW (by decide) (by decide)⟩
      · exact retN X943 hx (t := .boolean) Bd.returns (by simp) (hb hby at_119) hr
      · exact ⟨rfl, N943⟩
  · have qs957 := qs
    rw [qs]
    show own_Goes p e below (s₁.setTop (mkF m 3 #[iv i0, iv i1, .unset, .unset, .unset, .unset] [(.int (2 : Int32))])) _
    refine own_via (fun t k => XS.istoreN X0.here hx rfl (hb hby at_3) rfl (l' := #[iv i0, iv i1, iv (2 : Int32), .unset, .unset, .unset]) rfl (XS.iloadN X0.here hx rfl (hb hby at_4) rfl (XS.iconst X0.here hx rfl (hb hby at_5) (XS.icmpNo X0.here hx rfl (hb hby at_6) rfl (teq (by decide : (2 : Int32) = (2 : Int32))).2 k)))) ?_
    show own_Goes p e below (s₁.setTop (mkF m 9 #[iv i0, iv i1, iv (2 : Int32), .unset, .unset, .unset] [])) _
    obtain ⟨_, T958, _, X958, hQ958, hS, hZ, hown, st958⟩ := own_csS X0 hx hZ hS hk0 hown (wd hw 113 rfl) (wd hw 41 rfl) (wd hw 42 rfl) (wd hw 2 rfl) (by decide) (rm37 l Z a0 hw [] w24 h0 n0 O0 S_Tertium_ABSENT) e0 (g := (mkF m 9 #[iv i0, iv i1, iv (2 : Int32), .unset, .unset, .unset] [])) rfl (by rw [hml]; rfl) (rest := []) (W := 0) (lenOf pd_13 rfl) rfl (by show 2 * 0 + _ ≤ _; exact Nat.le_of_eq rfl) (hb hby at_9) (by decide) (by decide) (by decide) (by decide)
    obtain ⟨rfl, Nq958, hh964⟩ := hQ958
    have N958 := Fr.app N0 Nq958
    have hk965 : T958.heap.size ≤ h0.size := Nat.le_of_eq (congrArg Array.size hh964)
    refine own_via (fun t k => st958 t (XS.astoreN X958.here hx rfl (hb hby at_12) rfl rfl (l' := #[iv i0, iv i1, iv (2 : Int32), rv w24, .unset, .unset]) rfl (XS.goto X958.here hx rfl (pc0 := 13) (pc' := 36) rfl (hb hby at_13) (by decide) (by decide) (XS.aloadN X958.here hx rfl (hb hby at_36) rfl rfl k)))) ?_
    show own_Goes p e below (T958.setTop (mkF m 37 #[iv i0, iv i1, iv (2 : Int32), rv w24, .unset, .unset] [(.ref w24)])) _
    obtain ⟨_, T966, _, X966, hQ966, hS, hZ, hown, st966⟩ := own_cvS X958 hx hZ hS hk965 hown (wd hw 6 rfl) (wd hw 7 rfl) (wd hw 9 rfl) (wd hw 8 rfl) (wd hw 10 rfl) (wd hw 2 rfl) (by decide) (rm39 l Z a0 hw [] w24 w27 h0 n0 O0 SF_w24_value S_Optional_EMPTY) hh964 (SE_w24.ext O0.2) (g := (mkF m 37 #[iv i0, iv i1, iv (2 : Int32), rv w24, .unset, .unset] [(.ref w24)])) rfl (by rw [hml]; rfl) (rest := []) (W := 0) (lenOf pd_7 rfl) rfl (by show 2 * 0 + _ ≤ _; exact Nat.le_of_eq rfl) (hb hby at_37) (by decide) (by decide) (by decide) (by decide)
    obtain ⟨rfl, Nq966, hh980⟩ := hQ966
    have N966 := Fr.app N958 Nq966
    have hk981 : T966.heap.size ≤ h0.size := Nat.le_of_eq (congrArg Array.size hh980)
    refine own_via (fun t k => st966 t k) ?_
    obtain ⟨_, T982, _, X982, hQ982, hS, hZ, hown, st982⟩ := own_csS X966 hx hZ hS hk981 hown (wd hw 18 rfl) (wd hw 19 rfl) (wd hw 20 rfl) (wd hw 2 rfl) (by decide) (rm42 l Z a0 hw [] w27 w24 h0 n0 O0 SF_w27_value SE_w27 S_Tertium_ABSENT) hh980 (g := (mkF m 40 #[iv i0, iv i1, iv (2 : Int32), rv w24, .unset, .unset] [(.ref w27)])) rfl (by rw [hml]; rfl) (rest := []) (W := 0) (lenOf pd_11 rfl) rfl (by show 2 * 0 + _ ≤ _; exact Nat.le_of_eq rfl) (hb hby at_40) (by decide) (by decide) (by decide) (by decide)
    obtain ⟨h982, e982⟩ : ∃ z, T982.heap = z := ⟨_, rfl⟩
    rw [e982] at hQ982
    obtain ⟨rfl, Nq982, K982⟩ := hQ982
    have N982 := Fr.app N966 Nq982
    have hk1009 : T982.heap.size ≤ h982.size := Nat.le_of_eq (congrArg Array.size e982)
    refine own_via (fun t k => st982 t (XS.astore X982.here hx rfl (hb hby at_43) rfl rfl (l' := #[iv i0, iv i1, iv (2 : Int32), rv w24, rv w24, .unset]) rfl (XS.iloadN X982.here hx rfl (hb hby at_45) rfl (XS.iconst X982.here hx rfl (hb hby at_46) (XS.icmpNo X982.here hx rfl (hb hby at_47) rfl (flt (by decide : ¬ ((2 : Int32) < (2 : Int32)))).1 (XS.aload X982.here hx rfl (hb hby at_50) rfl rfl k)))))) ?_
    show own_Goes p e below (T982.setTop (mkF m 52 #[iv i0, iv i1, iv (2 : Int32), rv w24, rv w24, .unset] [(.ref w24)])) _
    have O1016 : Old Z n0 h982 := (O0.keep K982 all0)
    obtain ⟨_, T1010, _, X1010, hQ1010, hS, hZ, hown, st1010⟩ := own_cvS X982 hx hZ hS hk1009 hown (wd hw 45 rfl) (wd hw 46 rfl) (wd hw 48 rfl) (wd hw 47 rfl) (wd hw 49 rfl) (wd hw 2 rfl) (by decide) (rm43 l Z a0 hw [] w24 h982 n0 O1016 S_Tertium_ABSENT) e982 (SE_w24.ext O1016.2) (g := (mkF m 52 #[iv i0, iv i1, iv (2 : Int32), rv w24, rv w24, .unset] [(.ref w24)])) rfl (by rw [hml]; rfl) (rest := []) (W := 0) (lenOf pd_9 rfl) rfl (by show 2 * 0 + _ ≤ _; exact Nat.le_of_eq rfl) (hb hby at_52) (by decide) (by decide) (by decide) (by decide)
    obtain ⟨rfl, Nq1010, hh1017⟩ := hQ1010
    have N1010 := Fr.app N982 Nq1010
    have hk1018 : T1010.heap.size ≤ h982.size := Nat.le_of_eq (congrArg Array.size hh1017)
    refine own_via (fun t k => st1010 t (XS.ifNo X1010.here hx rfl (hb hby at_55) rfl ((if0 _ _).trans (feq (by decide : ¬ ((1 : Int32) = (0 : Int32)))).1) (XS.aload X1010.here hx rfl (hb hby at_58) rfl rfl k))) ?_
    show own_Goes p e below (T1010.setTop (mkF m 60 #[iv i0, iv i1, iv (2 : Int32), rv w24, rv w24, .unset] [(.ref w24)])) _
    obtain ⟨_, T1019, _, X1019, hQ1019, hS, hZ, hown, st1019⟩ := own_cvS X1010 hx hZ hS hk1018 hown (wd hw 50 rfl) (wd hw 51 rfl) (wd hw 53 rfl) (wd hw 52 rfl) (wd hw 54 rfl) (wd hw 2 rfl) (by decide) (rm44 l Z a0 hw [] w24 w21 h982 n0 O1016 S_Tertium_NULL SN_w24_w21) hh1017 (SE_w24.ext O1016.2) (g := (mkF m 60 #[iv i0, iv i1, iv (2 : Int32), rv w24, rv w24, .unset] [(.ref w24)])) rfl (by rw [hml]; rfl) (rest := []) (W := 0) (lenOf pd_9 rfl) rfl (by show 2 * 0 + _ ≤ _; exact Nat.le_of_eq rfl) (hb hby at_60) (by decide) (by decide) (by decide) (by decide)
    obtain ⟨rfl, Nq1019, hh1025⟩ := hQ1019
    have N1019 := Fr.app N1010 Nq1019
    have hk1026 : T1019.heap.size ≤ h982.size := Nat.le_of_eq (congrArg Array.size hh1025)
    refine own_via (fun t k => st1019 t (XS.ifNo X1019.here hx rfl (hb hby at_63) rfl ((if0 _ _).trans (teq (by decide : (0 : Int32) = (0 : Int32))).2) (XS.iconst X1019.here hx rfl (hb hby at_66) (XS.goto X1019.here hx rfl (pc0 := 67) (pc' := 71) rfl (hb hby at_67) (by decide) (by decide) k)))) ?_
    show own_Goes p e below (T1019.setTop (mkF m 71 #[iv i0, iv i1, iv (2 : Int32), rv w24, rv w24, .unset] [(.int (1 : Int32))])) _
    obtain ⟨fs, hr, hrun, hended, hRW⟩ := X1019.leaveW hS (by rw [hh1025]; first | exact hk1026 | exact Nat.le_refl _) (v := some (.int (1 : Int32))) (fun h => by rw [Bd.returns] at h; cases h)
    refine own_end (t := T1019.setFrames fs) ?_ ⟨_, hrun, hended, _, _, rfl, ?_, own_rmono hRW (by decide) (by decide)⟩
    · exact retN X1019 hx (t := .boolean) Bd.returns (by simp) (hb hby at_71) hr
    · exact ⟨rfl, N1019⟩
  · have qs1027 := qs
    rw [qs]
    show own_Goes p e below (s₁.setTop (mkF m 3 #[iv i0, iv i1, .unset, .unset, .unset, .unset] [(.int (3 : Int32))])) _
    refine own_via (fun t k => XS.istoreN X0.here hx rfl (hb hby at_3) rfl (l' := #[iv i0, iv i1, iv (3 : Int32), .unset, .unset, .unset]) rfl (XS.iloadN X0.here hx rfl (hb hby at_4) rfl (XS.iconst X0.here hx rfl (hb hby at_5) (XS.icmpYes X0.here hx rfl (pc0 := 6) (pc' := 16) rfl (hb hby at_6) rfl (feq (by decide : ¬ ((3 : Int32) = (2 : Int32)))).2 (by decide) (by decide) (XS.iloadN X0.here hx rfl (hb hby at_16) rfl (XS.iconst X0.here hx rfl (hb hby at_17) (XS.icmpNo X0.here hx rfl (hb hby at_18) rfl (teq (by decide : (3 : Int32) = (3 : Int32))).2 k))))))) ?_
    show own_Goes p e below (s₁.setTop (mkF m 21 #[iv i0, iv i1, iv (3 : Int32), .unset, .unset, .unset] [])) _
    obtain ⟨_, T1028, _, X1028, hQ1028, hS, hZ, hown, st1028⟩ := own_csS X0 hx hZ hS hk0 hown (wd hw 0 rfl) (wd hw 1 rfl) (wd hw 3 rfl) (wd hw 2 rfl) (by decide) (rm45 l Z a0 hw [] w21 h0 n0 O0 S_Tertium_NULL) e0 (g := (mkF m 21 #[iv i0, iv i1, iv (3 : Int32), .unset, .unset, .unset] [])) rfl (by rw [hml]; rfl) (rest := []) (W := 0) (lenOf pd_13 rfl) rfl (by show 2 * 0 + _ ≤ _; exact Nat.le_of_eq rfl) (hb hby at_21) (by decide) (by decide) (by decide) (by decide)
    obtain ⟨rfl, Nq1028, hh1034⟩ := hQ1028
    have N1028 := Fr.app N0 Nq1028
    have hk1035 : T1028.heap.size ≤ h0.size := Nat.le_of_eq (congrArg Array.size hh1034)
    refine own_via (fun t k => st1028 t (XS.astoreN X1028.here hx rfl (hb hby at_24) rfl rfl (l' := #[iv i0, iv i1, iv (3 : Int32), rv w21, .unset, .unset]) rfl (XS.goto X1028.here hx rfl (pc0 := 25) (pc' := 36) rfl (hb hby at_25) (by decide) (by decide) (XS.aloadN X1028.here hx rfl (hb hby at_36) rfl rfl k)))) ?_
    show own_Goes p e below (T1028.setTop (mkF m 37 #[iv i0, iv i1, iv (3 : Int32), rv w21, .unset, .unset] [(.ref w21)])) _
    obtain ⟨_, T1036, _, X1036, hQ1036, hS, hZ, hown, st1036⟩ := own_cvS X1028 hx hZ hS hk1035 hown (wd hw 6 rfl) (wd hw 7 rfl) (wd hw 9 rfl) (wd hw 8 rfl) (wd hw 10 rfl) (wd hw 2 rfl) (by decide) (rm46 l Z a0 hw [] w21 w27 h0 n0 O0 SF_w21_value S_Optional_EMPTY) hh1034 (SE_w21.ext O0.2) (g := (mkF m 37 #[iv i0, iv i1, iv (3 : Int32), rv w21, .unset, .unset] [(.ref w21)])) rfl (by rw [hml]; rfl) (rest := []) (W := 0) (lenOf pd_7 rfl) rfl (by show 2 * 0 + _ ≤ _; exact Nat.le_of_eq rfl) (hb hby at_37) (by decide) (by decide) (by decide) (by decide)
    obtain ⟨rfl, Nq1036, hh1045⟩ := hQ1036
    have N1036 := Fr.app N1028 Nq1036
    have hk1046 : T1036.heap.size ≤ h0.size := Nat.le_of_eq (congrArg Array.size hh1045)
    refine own_via (fun t k => st1036 t k) ?_
    obtain ⟨_, T1047, _, X1047, hQ1047, hS, hZ, hown, st1047⟩ := own_csS X1036 hx hZ hS hk1046 hown (wd hw 18 rfl) (wd hw 19 rfl) (wd hw 20 rfl) (wd hw 2 rfl) (by decide) (rm42 l Z a0 hw [] w27 w24 h0 n0 O0 SF_w27_value SE_w27 S_Tertium_ABSENT) hh1045 (g := (mkF m 40 #[iv i0, iv i1, iv (3 : Int32), rv w21, .unset, .unset] [(.ref w27)])) rfl (by rw [hml]; rfl) (rest := []) (W := 0) (lenOf pd_11 rfl) rfl (by show 2 * 0 + _ ≤ _; exact Nat.le_of_eq rfl) (hb hby at_40) (by decide) (by decide) (by decide) (by decide)
    obtain ⟨h1047, e1047⟩ : ∃ z, T1047.heap = z := ⟨_, rfl⟩
    rw [e1047] at hQ1047
    obtain ⟨rfl, Nq1047, K1047⟩ := hQ1047
    have N1047 := Fr.app N1036 Nq1047
    have hk1048 : T1047.heap.size ≤ h1047.size := Nat.le_of_eq (congrArg Array.size e1047)
    refine own_via (fun t k => st1047 t (XS.astore X1047.here hx rfl (hb hby at_43) rfl rfl (l' := #[iv i0, iv i1, iv (3 : Int32), rv w21, rv w24, .unset]) rfl (XS.iloadN X1047.here hx rfl (hb hby at_45) rfl (XS.iconst X1047.here hx rfl (hb hby at_46) (XS.icmpNo X1047.here hx rfl (hb hby at_47) rfl (flt (by decide : ¬ ((3 : Int32) < (2 : Int32)))).1 (XS.aload X1047.here hx rfl (hb hby at_50) rfl rfl k)))))) ?_
    show own_Goes p e below (T1047.setTop (mkF m 52 #[iv i0, iv i1, iv (3 : Int32), rv w21, rv w24, .unset] [(.ref w24)])) _
    have O1050 : Old Z n0 h1047 := (O0.keep K1047 all0)
    obtain ⟨_, T1049, _, X1049, hQ1049, hS, hZ, hown, st1049⟩ := own_cvS X1047 hx hZ hS hk1048 hown (wd hw 45 rfl) (wd hw 46 rfl) (wd hw 48 rfl) (wd hw 47 rfl) (wd hw 49 rfl) (wd hw 2 rfl) (by decide) (rm43 l Z a0 hw [] w24 h1047 n0 O1050 S_Tertium_ABSENT) e1047 (SE_w24.ext O1050.2) (g := (mkF m 52 #[iv i0, iv i1, iv (3 : Int32), rv w21, rv w24, .unset] [(.ref w24)])) rfl (by rw [hml]; rfl) (rest := []) (W := 0) (lenOf pd_9 rfl) rfl (by show 2 * 0 + _ ≤ _; exact Nat.le_of_eq rfl) (hb hby at_52) (by decide) (by decide) (by decide) (by decide)
    obtain ⟨rfl, Nq1049, hh1051⟩ := hQ1049
    have N1049 := Fr.app N1047 Nq1049
    have hk1052 : T1049.heap.size ≤ h1047.size := Nat.le_of_eq (congrArg Array.size hh1051)
    refine own_via (fun t k => st1049 t (XS.ifNo X1049.here hx rfl (hb hby at_55) rfl ((if0 _ _).trans (feq (by decide : ¬ ((1 : Int32) = (0 : Int32)))).1) (XS.aload X1049.here hx rfl (hb hby at_58) rfl rfl k))) ?_
    show own_Goes p e below (T1049.setTop (mkF m 60 #[iv i0, iv i1, iv (3 : Int32), rv w21, rv w24, .unset] [(.ref w24)])) _
    obtain ⟨_, T1053, _, X1053, hQ1053, hS, hZ, hown, st1053⟩ := own_cvS X1049 hx hZ hS hk1052 hown (wd hw 50 rfl) (wd hw 51 rfl) (wd hw 53 rfl) (wd hw 52 rfl) (wd hw 54 rfl) (wd hw 2 rfl) (by decide) (rm44 l Z a0 hw [] w24 w21 h1047 n0 O1050 S_Tertium_NULL SN_w24_w21) hh1051 (SE_w24.ext O1050.2) (g := (mkF m 60 #[iv i0, iv i1, iv (3 : Int32), rv w21, rv w24, .unset] [(.ref w24)])) rfl (by rw [hml]; rfl) (rest := []) (W := 0) (lenOf pd_9 rfl) rfl (by show 2 * 0 + _ ≤ _; exact Nat.le_of_eq rfl) (hb hby at_60) (by decide) (by decide) (by decide) (by decide)
    obtain ⟨rfl, Nq1053, hh1054⟩ := hQ1053
    have N1053 := Fr.app N1049 Nq1053
    have hk1055 : T1053.heap.size ≤ h1047.size := Nat.le_of_eq (congrArg Array.size hh1054)
    refine own_via (fun t k => st1053 t (XS.ifNo X1053.here hx rfl (hb hby at_63) rfl ((if0 _ _).trans (teq (by decide : (0 : Int32) = (0 : Int32))).2) (XS.iconst X1053.here hx rfl (hb hby at_66) (XS.goto X1053.here hx rfl (pc0 := 67) (pc' := 71) rfl (hb hby at_67) (by decide) (by decide) k)))) ?_
    show own_Goes p e below (T1053.setTop (mkF m 71 #[iv i0, iv i1, iv (3 : Int32), rv w21, rv w24, .unset] [(.int (1 : Int32))])) _
    obtain ⟨fs, hr, hrun, hended, hRW⟩ := X1053.leaveW hS (by rw [hh1054]; first | exact hk1055 | exact Nat.le_refl _) (v := some (.int (1 : Int32))) (fun h => by rw [Bd.returns] at h; cases h)
    refine own_end (t := T1053.setFrames fs) ?_ ⟨_, hrun, hended, _, _, rfl, ?_, own_rmono hRW (by decide) (by decide)⟩
    · exact retN X1053 hx (t := .boolean) Bd.returns (by simp) (hb hby at_71) hr
    · exact ⟨rfl, N1053⟩
set_option maxRecDepth 65536 in
set_option maxHeartbeats 40000000 in
theorem comes_1 {Post : Tables → Env → Array Value → State → Outcome → State → Prop} (hpost : ∀ tb e args s v u, (limb_1_1.after args s (.returned v) u = true ∧ limb_1_2.after args s (.returned v) u = true ∧ True) → ReturnedEndW s (.returned v) u (Jvm.fieldLocs frame_1_writes args s ++ Jvm.arrayLocs frame_1_arrays args s ++ Jvm.staticLocs frame_1_statics s) 24 1152 → Post tb e args s (.returned v) u) :
    ArmFor flags0 classFile x code maxLocals ret World_1 tables_1 room_1 Calls_1 rest_1 Pre_1 Post := by
  intro l hfl _ _ p e ha hc hk s m args below hf hA hF happ hP
  obtain ⟨hcalls, hrest, hpre⟩ := hP
  obtain ⟨-, -, -, hnamed, -, -, -, hat⟩ := (Spec.applies_iff hf).mp happ
  obtain ⟨hg, hn⟩ := and_e (Cond.before_iff.mp (show (Jvm.Cond.and given_1 narrow_1).before args s = true from hpre))
  obtain ⟨g1056, g1057⟩ := and_e hg
  obtain ⟨g1058, g1059⟩ := and_e g1057
  obtain ⟨w0, w1, rfl⟩ : ∃ w0 w1 : Value, args = #[w0, w1] := by
    have hs : args.size = 2 := by simpa [Cond.value, given_1] using g1056
    obtain ⟨L⟩ := args
    match L, hs with
    | [w0, w1], _ => exact ⟨w0, w1, rfl⟩
  have hw := fun d (hd : d ∈ tables_1) => atoms_spec (ws := Jvm.Cond.code x code maxLocals ret :: tables_1) hat d (List.mem_cons_of_mem _ hd)
  have hfit : Fit s := fun {y c} hc i hi => by
    obtain ⟨ha, rfl⟩ := Array.getElem?_eq_some_iff.mp hc
    have q := List.all_eq_true.mp ((Array.all_eq_true_iff_forall_mem.mp hF) _ (Array.getElem_mem ha)) i (List.mem_range.mpr hi)
    simpa [Array.getElem?_eq_getElem hi] using q
  obtain ⟨hsets, hown0⟩ := atoms_of _ (rest_1_c_eq ▸ (show rest_1_c.before _ s = true from hrest))
  obtain ⟨n1, n2⟩ := and_e hn
  obtain ⟨n3, n4⟩ := and_e n2
  obtain ⟨n5, n6⟩ := and_e n4
  obtain ⟨n7, n8⟩ := and_e n6
  have u9 := Cond.before_iff.mp (hsets _ (List.mem_of_getElem? (i := 0) rfl))
  have u10 := Cond.before_iff.mp (hsets _ (List.mem_of_getElem? (i := 1) rfl))
  have u11 := Cond.before_iff.mp (hsets _ (List.mem_of_getElem? (i := 2) rfl))
  have u12 := Cond.before_iff.mp (hsets _ (List.mem_of_getElem? (i := 3) rfl))
  have u13 := Cond.before_iff.mp (hsets _ (List.mem_of_getElem? (i := 4) rfl))
  have u14 := Cond.before_iff.mp (hsets _ (List.mem_of_getElem? (i := 5) rfl))
  have u15 := Cond.before_iff.mp (hsets _ (List.mem_of_getElem? (i := 6) rfl))
  have u16 := Cond.before_iff.mp (hsets _ (List.mem_of_getElem? (i := 7) rfl))
  have u17 := Cond.before_iff.mp (hsets _ (List.mem_of_getElem? (i := 8) rfl))
  have u18 := Cond.before_iff.mp (hsets _ (List.mem_of_getElem? (i := 9) rfl))
  have u19 := Cond.before_iff.mp (hsets _ (List.mem_of_getElem? (i := 10) rfl))
  have u20 := Cond.before_iff.mp (hsets _ (List.mem_of_getElem? (i := 11) rfl))
  obtain ⟨w21, ev22⟩ := exa_v n1
  have S_Tertium_NULL : Sta s s.heap zs1 "NULL" zs12 (.ref w21) := Sta.start ev22 (Or.inr ⟨(wd hw 2 rfl), (wd hw 5 rfl)⟩)
  have SE_w21 : Exa s s.heap w21 zs1 := Exa.start ev22 n1
  have ev23 := null_v n3
  have SF_w21_value : Fld s s.heap w21 zs1 "value" zs3 .null := Fld.start ((fld_at ev22).symm.trans ev23)
  obtain ⟨w24, ev25⟩ := exa_v n5
  have S_Tertium_ABSENT : Sta s s.heap zs1 "ABSENT" zs12 (.ref w24) := Sta.start ev25 (Or.inr ⟨(wd hw 2 rfl), (wd hw 44 rfl)⟩)
  have SE_w24 : Exa s s.heap w24 zs1 := Exa.start ev25 n5
  have SN_w24_w21 : w24 ≠ w21 := own_ne_ref n7 ev25 ev22
  have ev26 := null_v n8
  have SF_w24_value : Fld s s.heap w24 zs1 "value" zs3 .null := Fld.start ((fld_at ev25).symm.trans ev26)
  obtain ⟨w27, ev28⟩ := exa_v u11
  have S_Optional_EMPTY : Sta s s.heap zs2 "EMPTY" zs17 (.ref w27) := Sta.start ev28 (Or.inl (hsets _ (List.mem_of_getElem? (i := 1) rfl)))
  have SE_w27 : Exa s s.heap w27 zs2 := Exa.start ev28 u11
  have ev29 := null_v u12
  have SF_w27_value : Fld s s.heap w27 zs2 "value" zs3 .null := Fld.start ((fld_at ev28).symm.trans ev29)
  have ev30 := Cond.eq_int (show (Jvm.Cond.eq _ _).holds _ _ _ _ _ = true from Cond.before_iff.mpr u16) rfl
  have S_Integer_IntegerCache_high : Sta s s.heap zs14 "high" "I" (.int (127 : Int32)) := Sta.start ev30 (Or.inl (hsets _ (List.mem_of_getElem? (i := 5) rfl)))
  obtain ⟨w31, ev32⟩ := arr_v u17
  have S_Integer_IntegerCache_cache : Sta s s.heap zs14 "cache" zs20 (.ref w31) := Sta.start ev32 (Or.inl (own_initFor (hsets _ (List.mem_of_getElem? (i := 4) rfl)) (hsets _ (List.mem_of_getElem? (i := 5) rfl)) (hsets _ (List.mem_of_getElem? (i := 6) rfl))))
  obtain ⟨cl33, Acl33⟩ := Arr.start ev32 u17
  have SE_w31 : Exa s s.heap w31 zs20 := Exa.start ev32 u18
  have BX_w31 : Bxs s w31 cl33 zs4 "I" (256 : Int32) (fun j => .int (j - (128 : Int32))) := Bxs.start (fun _ => ev32) Acl33 (own_len31 ev32 Acl33 u19).1 (own_len31 ev32 Acl33 u19).2 (by decide) u20 (fun X j hj q => eqv_i (own_sub_at (idx_at hj)) q)
  obtain ⟨i0, ei0⟩ := is_v g1058
  obtain rfl : w0 = (.int i0) := Option.some.inj ei0
  obtain ⟨i1, ei1⟩ := is_v g1059
  obtain rfl : w1 = (.int i1) := Option.some.inj ei1
  obtain ⟨n, o, h1, h2, h3, _, L, rfl, ⟨rfl, N⟩, hq⟩ := rm0 l s _ hw tables_1 i0 i1 w31 cl33 w24 w21 w27 s.heap s.heap.size (Old.start s) S_Integer_IntegerCache_high S_Integer_IntegerCache_cache BX_w31 S_Tertium_ABSENT SE_w24 S_Tertium_NULL SE_w21 SF_w24_value S_Optional_EMPTY SF_w27_value SE_w27 SN_w24_w21 SF_w21_value p e ha hc hk s m _ below hf ((Spec.applies_iff_loose hf).mp happ).1 ⟨rfl, State.Warmed39.refl s, rfl⟩ trivial
  refine ⟨n, _, h1, h2, h3, hpost _ _ _ _ _ _ ⟨Cond.after_iff.mpr rfl, Cond.after_iff.mpr (eq_i res_at (Term.int_eval (1)) rfl), trivial⟩ ⟨hq.1, hq.2.1, hq.2.2.1, (hq.2.2.2.sift fun y hy => Or.inr (N y hy)).mono (by decide) (by decide)⟩⟩
theorem main_1_1 : Claimed_1_1 := comes_1 fun _ _ _ _ _ _ h hF => ⟨h.1, hF⟩
theorem main_1_2 : Claimed_1_2 := comes_1 fun _ _ _ _ _ _ h hF => ⟨h.2.1, hF⟩
end Jvm.Pilot.@@N@@
namespace Jvm.Pilot.@@N@@
open Jvm Jvm.ClassFile Sem Op Lib Jvm.Free Jvm.Stand Jvm.Pilot.@@N@@.Jvm.D
/-! MADE BY PROGRAM (witnessworld.py) out of the Statement's table words and the real class files: 20 classes; the members and pool entries that the words name. The judged class is class 1, her method 1. -/
namespace start1
open Jvm.ClassFile
def u (s : String) : CpInfo := .utf8 (stringToUtf16 s)
/-- a pool by its gaps: so many unusable entries, then the entry; so many at the end -/
def gap : Nat → List CpInfo → List CpInfo
  | 0, r => r
  | n + 1, r => .unusable :: gap n r
def poolList (es : List (Nat × CpInfo)) (last : Nat) : List CpInfo := es.foldr (fun e r => gap e.1 (e.2 :: r)) (gap last [])
def pool (es : List (Nat × CpInfo)) (last : Nat) : Array CpInfo := ⟨poolList es last⟩
def fileOf (pool : Array CpInfo) (this : Nat) (attrs : Array Attribute := #[]) (ms : Array MethodInfo := #[]) (fl : Nat := 33) (sup : Nat := 0) (ifs : Array Nat := #[]) (fds : Array FieldInfo := #[]) : ClassFile where
  minorVersion := 0
  majorVersion := 65
  constantPool := pool
  accessFlags := fl
  thisClass := this
  superClass := sup
  interfaces := ifs
  fields := fds
  methods := ms
  attributes := attrs
def plain (name : String) (sup : Option ClassId) : Class where
  name := name
  kind := .ordinary
  loader := none
  accessFlags := 33
  super := sup
  interfaces := #[]
  cf := none
  fields := #[]
  methods := #[]
  instanceTypes := #[]
  staticTypes := #[]
  resolved := #[]
  callSites := []
  init := .initialized
  statics := none
  mirror := none

def pool0 : Array CpInfo := pool [(5, u "<init>"), (0, u "()V"), (1, .class_ 10), (1, u "java/lang/Object")] 113

def k0c0 : Code := { maxStack := 0, maxLocals := 1, code := object_method_1_code, exceptionTable := #[], attributes := #[] }
def k0m0 : Method := { name := "<init>", desc := "()V", sig := { parameters := [], returnType := none }, accessFlags := 1, code := some k0c0 }
/-- java/lang/Object -/
def k0 : Class := { plain "java/lang/Object" none with
  accessFlags := 33
  interfaces := #[]
  cf := some (fileOf pool0 8 #[] #[{ accessFlags := 1, nameIndex := 5, descriptorIndex := 6, attributes := #[] }] 33 0 #[] #[])
  fields := #[]
  methods := #[k0m0]
  instanceTypes := #[]
  staticTypes := #[]
  resolved := Array.replicate 124 none
  statics := none }

def pool1 : Array CpInfo := pool [(2, .class_ 4), (1, u "java/lang/Object"), (0, u "<init>"), (0, u "()V"), (0, .methodref 8 9), (0, .class_ 10), (0, .nameAndType 11 12), (0, u "tertium/Tertium"), (0, u "absent"), (0, u "()Ltertium/Tertium;"), (0, .methodref 8 14), (0, .nameAndType 15 12), (0, u "ofNull"), (0, .methodref 17 18), (0, .class_ 19), (0, .nameAndType 20 21), (0, u "java/lang/Integer"), (0, u "valueOf"), (0, u "(I)Ljava/lang/Integer;"), (0, .methodref 8 23), (0, .nameAndType 24 25), (0, u "of"), (0, u "(Ljava/lang/Object;)Ltertium/Tertium;"), (0, .methodref 8 27), (0, .nameAndType 28 29), (0, u "toOptional"), (0, u "()Ljava/util/Optional;"), (0, .methodref 8 31), (0, .nameAndType 32 33), (0, u "fromOptional"), (0, u "(Ljava/util/Optional;)Ltertium/Tertium;"), (0, .methodref 8 35), (0, .nameAndType 36 37), (0, u "isAbsent"), (0, u "()Z"), (0, .methodref 8 39), (0, .nameAndType 40 37), (0, u "isNull"), (0, .methodref 8 42), (0, .nameAndType 43 44), (0, u "get"), (0, u "()Ljava/lang/Object;"), (0, .methodref 17 46), (0, .nameAndType 47 48), (0, u "intValue"), (0, u "()I"), (0, .class_ 50), (0, u "tertium/TertiumFromOptionalPinLaw"), (2, u "law"), (0, u "(II)Z")] 3

def k1m0 : Method := { name := "<init>", desc := "()V", sig := { parameters := [], returnType := none }, accessFlags := 1, code := none }
def k1c1 : Code := { maxStack := 2, maxLocals := 6, code := code, exceptionTable := #[], attributes := #[] }
def k1m1 : Method := { name := "law", desc := "(II)Z", sig := { parameters := [.int, .int], returnType := some .boolean }, accessFlags := 9, code := some k1c1 }
/-- tertium/TertiumFromOptionalPinLaw -/
def k1 : Class := { plain "tertium/TertiumFromOptionalPinLaw" (some 0) with
  accessFlags := 49
  interfaces := #[]
  cf := some (fileOf pool1 49 #[] #[{ accessFlags := 1, nameIndex := 5, descriptorIndex := 6, attributes := #[] }, { accessFlags := 9, nameIndex := 53, descriptorIndex := 54, attributes := #[] }] 49 2 #[] #[])
  fields := #[]
  methods := #[k1m0, k1m1]
  instanceTypes := #[]
  staticTypes := #[]
  resolved := Array.replicate 58 none
  statics := none }

def pool2 : Array CpInfo := pool [(1, .methodref 2 3), (0, .class_ 4), (0, .nameAndType 5 6), (0, u "java/lang/Object"), (0, u "<init>"), (0, u "()V"), (0, .fieldref 8 9), (0, .class_ 10), (0, .nameAndType 11 12), (0, u "tertium/Tertium"), (0, u "value"), (0, u "Ljava/lang/Object;"), (0, .fieldref 8 14), (0, .nameAndType 15 16), (0, u "ABSENT"), (0, u "Ltertium/Tertium;"), (0, .fieldref 8 18), (0, .nameAndType 19 16), (0, u "NULL"), (0, .methodref 8 21), (0, .nameAndType 22 23), (0, u "ofNull"), (0, u "()Ltertium/Tertium;"), (0, .methodref 8 25), (0, .nameAndType 5 26), (0, u "(Ljava/lang/Object;)V"), (0, .string 28), (0, u "optional"), (0, .methodref 30 31), (0, .class_ 32), (0, .nameAndType 33 34), (0, u "java/util/Objects"), (0, u "requireNonNull"), (0, u "(Ljava/lang/Object;Ljava/lang/String;)Ljava/lang/Object;"), (0, .methodref 36 37), (0, .class_ 38), (0, .nameAndType 39 40), (0, u "java/util/Optional"), (0, u "isPresent"), (0, u "()Z"), (0, .methodref 36 42), (0, .nameAndType 43 44), (0, u "get"), (0, u "()Ljava/lang/Object;"), (0, .methodref 8 46), (0, .nameAndType 47 48), (0, u "of"), (0, u "(Ljava/lang/Object;)Ltertium/Tertium;"), (0, .methodref 8 50), (0, .nameAndType 51 23), (0, u "absent"), (18, .methodref 8 71), (0, .nameAndType 72 40), (0, u "isAbsent"), (60, .methodref 36 134), (0, .nameAndType 135 136), (0, u "ofNullable"), (0, u "(Ljava/lang/Object;)Ljava/util/Optional;"), (2, u "()Ljava/util/Optional;"), (2, u "isNull"), (2, u "NESTED_NULL"), (0, u "Ljava/util/Optional;"), (73, u "ABSENT_HASH"), (0, u "I"), (1, u "NULL_HASH"), (8, u "fromOptional"), (0, u "(Ljava/util/Optional;)Ltertium/Tertium;"), (25, u "toOptional")] 62

def k2c0 : Code := { maxStack := 2, maxLocals := 2, code := prog_1_method_1_code, exceptionTable := #[], attributes := #[] }
def k2m0 : Method := { name := "<init>", desc := "(Ljava/lang/Object;)V", sig := { parameters := [(.object "java/lang/Object")], returnType := none }, accessFlags := 2, code := some k2c0 }
def k2c1 : Code := { maxStack := 1, maxLocals := 0, code := prog_1_method_2_code, exceptionTable := #[], attributes := #[] }
def k2m1 : Method := { name := "absent", desc := "()Ltertium/Tertium;", sig := { parameters := [], returnType := some (.object "tertium/Tertium") }, accessFlags := 9, code := some k2c1 }
def k2c2 : Code := { maxStack := 1, maxLocals := 0, code := prog_1_method_3_code, exceptionTable := #[], attributes := #[] }
def k2m2 : Method := { name := "ofNull", desc := "()Ltertium/Tertium;", sig := { parameters := [], returnType := some (.object "tertium/Tertium") }, accessFlags := 9, code := some k2c2 }
def k2c3 : Code := { maxStack := 3, maxLocals := 1, code := prog_1_method_4_code, exceptionTable := #[], attributes := #[] }
def k2m3 : Method := { name := "of", desc := "(Ljava/lang/Object;)Ltertium/Tertium;", sig := { parameters := [(.object "java/lang/Object")], returnType := some (.object "tertium/Tertium") }, accessFlags := 9, code := some k2c3 }
def k2c4 : Code := { maxStack := 2, maxLocals := 1, code := prog_1_method_5_code, exceptionTable := #[], attributes := #[] }
def k2m4 : Method := { name := "fromOptional", desc := "(Ljava/util/Optional;)Ltertium/Tertium;", sig := { parameters := [(.object "java/util/Optional")], returnType := some (.object "tertium/Tertium") }, accessFlags := 9, code := some k2c4 }
def k2c5 : Code := { maxStack := 2, maxLocals := 1, code := prog_1_method_9_code, exceptionTable := #[], attributes := #[] }
def k2m5 : Method := { name := "isAbsent", desc := "()Z", sig := { parameters := [], returnType := some .boolean }, accessFlags := 1, code := some k2c5 }
def k2c6 : Code := { maxStack := 2, maxLocals := 1, code := prog_1_method_11_code, exceptionTable := #[], attributes := #[] }
def k2m6 : Method := { name := "isNull", desc := "()Z", sig := { parameters := [], returnType := some .boolean }, accessFlags := 1, code := some k2c6 }
def k2c7 : Code := { maxStack := 3, maxLocals := 1, code := prog_1_method_14_code, exceptionTable := #[], attributes := #[] }
def k2m7 : Method := { name := "get", desc := "()Ljava/lang/Object;", sig := { parameters := [], returnType := some (.object "java/lang/Object") }, accessFlags := 1, code := some k2c7 }
def k2c8 : Code := { maxStack := 1, maxLocals := 1, code := prog_1_method_24_code, exceptionTable := #[], attributes := #[] }
def k2m8 : Method := { name := "toOptional", desc := "()Ljava/util/Optional;", sig := { parameters := [], returnType := some (.object "java/util/Optional") }, accessFlags := 1, code := some k2c8 }
/-- tertium/Tertium -/
def k2 : Class := { plain "tertium/Tertium" (some 0) with
  accessFlags := 49
  interfaces := #[]
  cf := some (fileOf pool2 8 #[] #[{ accessFlags := 2, nameIndex := 5, descriptorIndex := 26, attributes := #[] }, { accessFlags := 9, nameIndex := 51, descriptorIndex := 23, attributes := #[] }, { accessFlags := 9, nameIndex := 22, descriptorIndex := 23, attributes := #[] }, { accessFlags := 9, nameIndex := 47, descriptorIndex := 48, attributes := #[] }, { accessFlags := 9, nameIndex := 232, descriptorIndex := 233, attributes := #[] }, { accessFlags := 1, nameIndex := 72, descriptorIndex := 40, attributes := #[] }, { accessFlags := 1, nameIndex := 142, descriptorIndex := 40, attributes := #[] }, { accessFlags := 1, nameIndex := 43, descriptorIndex := 44, attributes := #[] }, { accessFlags := 1, nameIndex := 259, descriptorIndex := 139, attributes := #[] }] 49 2 #[] #[{ accessFlags := 26, nameIndex := 15, descriptorIndex := 16, attributes := #[] }, { accessFlags := 26, nameIndex := 19, descriptorIndex := 16, attributes := #[] }, { accessFlags := 26, nameIndex := 220, descriptorIndex := 221, attributes := #[] }, { accessFlags := 26, nameIndex := 223, descriptorIndex := 221, attributes := #[] }, { accessFlags := 26, nameIndex := 145, descriptorIndex := 146, attributes := #[] }, { accessFlags := 18, nameIndex := 11, descriptorIndex := 12, attributes := #[] }])
  fields := #[{ name := "ABSENT", type := (.object "tertium/Tertium"), accessFlags := 26, slot := 0, constantValue := 0 }, { name := "NULL", type := (.object "tertium/Tertium"), accessFlags := 26, slot := 1, constantValue := 0 }, { name := "ABSENT_HASH", type := .int, accessFlags := 26, slot := 2, constantValue := 0 }, { name := "NULL_HASH", type := .int, accessFlags := 26, slot := 3, constantValue := 0 }, { name := "NESTED_NULL", type := (.object "java/util/Optional"), accessFlags := 26, slot := 4, constantValue := 0 }, { name := "value", type := (.object "java/lang/Object"), accessFlags := 18, slot := 0, constantValue := 0 }]
  methods := #[k2m0, k2m1, k2m2, k2m3, k2m4, k2m5, k2m6, k2m7, k2m8]
  instanceTypes := #[(.object "java/lang/Object")]
  staticTypes := #[(.object "tertium/Tertium"), (.object "tertium/Tertium"), .int, .int, (.object "java/util/Optional")]
  resolved := Array.replicate 322 none
  statics := some 0 }

def pool3 : Array CpInfo := pool [(1, .fieldref 2 3), (0, .class_ 4), (0, .nameAndType 5 6), (0, u "java/util/Optional"), (0, u "EMPTY"), (0, u "Ljava/util/Optional;"), (0, .methodref 8 9), (0, .class_ 10), (0, .nameAndType 11 12), (0, u "java/lang/Object"), (0, u "<init>"), (0, u "()V"), (0, .fieldref 2 14), (0, .nameAndType 15 16), (0, u "value"), (0, u "Ljava/lang/Object;"), (6, .methodref 2 24), (0, .nameAndType 11 25), (0, u "(Ljava/lang/Object;)V"), (20, u "()Z"), (17, u "ofNullable"), (0, u "(Ljava/lang/Object;)Ljava/util/Optional;"), (2, u "isPresent"), (4, u "get"), (0, u "()Ljava/lang/Object;")] 112

def k3c0 : Code := { maxStack := 2, maxLocals := 2, code := jdk_32_method_2_code, exceptionTable := #[], attributes := #[] }
def k3m0 : Method := { name := "<init>", desc := "(Ljava/lang/Object;)V", sig := { parameters := [(.object "java/lang/Object")], returnType := none }, accessFlags := 2, code := some k3c0 }
def k3c1 : Code := { maxStack := 3, maxLocals := 1, code := jdk_32_method_4_code, exceptionTable := #[], attributes := #[] }
def k3m1 : Method := { name := "ofNullable", desc := "(Ljava/lang/Object;)Ljava/util/Optional;", sig := { parameters := [(.object "java/lang/Object")], returnType := some (.object "java/util/Optional") }, accessFlags := 9, code := some k3c1 }
def k3c2 : Code := { maxStack := 3, maxLocals := 1, code := jdk_32_method_5_code, exceptionTable := #[], attributes := #[] }
def k3m2 : Method := { name := "get", desc := "()Ljava/lang/Object;", sig := { parameters := [], returnType := some (.object "java/lang/Object") }, accessFlags := 1, code := some k3c2 }
def k3c3 : Code := { maxStack := 1, maxLocals := 1, code := jdk_32_method_6_code, exceptionTable := #[], attributes := #[] }
def k3m3 : Method := { name := "isPresent", desc := "()Z", sig := { parameters := [], returnType := some .boolean }, accessFlags := 1, code := some k3c3 }
/-- java/util/Optional -/
def k3 : Class := { plain "java/util/Optional" (some 0) with
  accessFlags := 49
  interfaces := #[]
  cf := some (fileOf pool3 2 #[] #[{ accessFlags := 2, nameIndex := 11, descriptorIndex := 25, attributes := #[] }, { accessFlags := 9, nameIndex := 64, descriptorIndex := 65, attributes := #[] }, { accessFlags := 1, nameIndex := 73, descriptorIndex := 74, attributes := #[] }, { accessFlags := 1, nameIndex := 68, descriptorIndex := 46, attributes := #[] }] 49 8 #[] #[{ accessFlags := 26, nameIndex := 5, descriptorIndex := 6, attributes := #[] }, { accessFlags := 18, nameIndex := 15, descriptorIndex := 16, attributes := #[] }])
  fields := #[{ name := "EMPTY", type := (.object "java/util/Optional"), accessFlags := 26, slot := 0, constantValue := 0 }, { name := "value", type := (.object "java/lang/Object"), accessFlags := 18, slot := 0, constantValue := 0 }]
  methods := #[k3m0, k3m1, k3m2, k3m3]
  instanceTypes := #[(.object "java/lang/Object")]
  staticTypes := #[(.object "java/util/Optional")]
  resolved := Array.replicate 187 none
  statics := some 1 }

def pool4 : Array CpInfo := pool [(1, .class_ 2), (0, u "java/io/Serializable"), (0, .class_ 4), (0, u "java/lang/Object")] 2

/-- java/io/Serializable -/
def k4 : Class := { plain "java/io/Serializable" (some 0) with
  accessFlags := 1537
  interfaces := #[]
  cf := some (fileOf pool4 1 #[] #[] 1537 3 #[] #[])
  fields := #[]
  methods := #[]
  instanceTypes := #[]
  staticTypes := #[]
  resolved := Array.replicate 7 none
  statics := none }

def pool5 : Array CpInfo := pool [(1, .class_ 2), (0, u "java/lang/Comparable"), (0, .class_ 4), (0, u "java/lang/Object")] 7

/-- java/lang/Comparable -/
def k5 : Class := { plain "java/lang/Comparable" (some 0) with
  accessFlags := 1537
  interfaces := #[]
  cf := some (fileOf pool5 1 #[] #[] 1537 3 #[] #[])
  fields := #[]
  methods := #[]
  instanceTypes := #[]
  staticTypes := #[]
  resolved := Array.replicate 12 none
  statics := none }

def pool6 : Array CpInfo := pool [(2, .class_ 4), (1, u "java/lang/CharSequence"), (42, .class_ 48), (0, u "java/lang/CharSequence$1CodePointIterator"), (10, .class_ 60), (0, u "java/lang/CharSequence$1CharIterator"), (5, .class_ 67), (0, u "java/lang/Object")] 63

/-- java/lang/CharSequence -/
def k6 : Class := { plain "java/lang/CharSequence" (some 0) with
  accessFlags := 1537
  interfaces := #[]
  cf := some (fileOf pool6 2 #[.nestMembers #[47, 59]] #[] 1537 66 #[] #[])
  fields := #[]
  methods := #[]
  instanceTypes := #[]
  staticTypes := #[]
  resolved := Array.replicate 131 none
  statics := none }

def pool7 : Array CpInfo := pool [(1, .class_ 2), (0, u "java/lang/constant/Constable"), (0, .class_ 4), (0, u "java/lang/Object")] 6

/-- java/lang/constant/Constable -/
def k7 : Class := { plain "java/lang/constant/Constable" (some 0) with
  accessFlags := 1537
  interfaces := #[]
  cf := some (fileOf pool7 1 #[] #[] 1537 3 #[] #[])
  fields := #[]
  methods := #[]
  instanceTypes := #[]
  staticTypes := #[]
  resolved := Array.replicate 11 none
  statics := none }

def pool8 : Array CpInfo := pool [(1, .class_ 2), (0, u "java/lang/constant/ConstantDesc"), (0, .class_ 4), (0, u "java/lang/Object")] 32

/-- java/lang/constant/ConstantDesc -/
def k8 : Class := { plain "java/lang/constant/ConstantDesc" (some 0) with
  accessFlags := 1537
  interfaces := #[]
  cf := some (fileOf pool8 1 #[] #[] 1537 3 #[] #[])
  fields := #[]
  methods := #[]
  instanceTypes := #[]
  staticTypes := #[]
  resolved := Array.replicate 37 none
  statics := none }

def pool9 : Array CpInfo := pool [(2, .class_ 4), (1, u "java/lang/Object"), (0, u "<init>"), (0, u "()V"), (3, .class_ 12), (1, u "java/lang/String"), (0, u "value"), (0, u "[B"), (2, u "coder"), (0, u "B"), (2, u "hash"), (0, u "I"), (2, u "hashIsZero"), (0, u "Z"), (13, u "COMPACT_STRINGS"), (534, .class_ 576), (0, u "java/lang/CharSequence"), (22, u "CASE_INSENSITIVE_ORDER"), (0, u "Ljava/util/Comparator;"), (500, u "serialPersistentFields"), (0, u "[Ljava/io/ObjectStreamField;"), (0, .class_ 1104), (0, u "java/lang/String$CaseInsensitiveComparator"), (1, .class_ 1107), (0, u "java/io/Serializable"), (0, .class_ 1109), (0, u "java/lang/Comparable"), (0, .class_ 1111), (0, u "java/lang/constant/Constable"), (0, .class_ 1113), (0, u "java/lang/constant/ConstantDesc"), (2, u "serialVersionUID"), (0, u "J"), (3, u "REPL"), (0, u "C"), (2, u "LATIN1"), (1, u "UTF16")] 323

def k9m0 : Method := { name := "<init>", desc := "()V", sig := { parameters := [], returnType := none }, accessFlags := 1, code := none }
/-- java/lang/String -/
def k9 : Class := { plain "java/lang/String" (some 0) with
  accessFlags := 49
  interfaces := #[4, 5, 6, 7, 8]
  cf := some (fileOf pool9 10 #[.nestMembers #[1103]] #[{ accessFlags := 1, nameIndex := 5, descriptorIndex := 6, attributes := #[] }] 49 2 #[1106, 1108, 575, 1110, 1112] #[{ accessFlags := 18, nameIndex := 13, descriptorIndex := 14, attributes := #[] }, { accessFlags := 18, nameIndex := 17, descriptorIndex := 18, attributes := #[] }, { accessFlags := 2, nameIndex := 21, descriptorIndex := 22, attributes := #[] }, { accessFlags := 2, nameIndex := 25, descriptorIndex := 26, attributes := #[] }, { accessFlags := 26, nameIndex := 1116, descriptorIndex := 1117, attributes := #[] }, { accessFlags := 24, nameIndex := 40, descriptorIndex := 26, attributes := #[] }, { accessFlags := 26, nameIndex := 1101, descriptorIndex := 1102, attributes := #[] }, { accessFlags := 26, nameIndex := 1121, descriptorIndex := 1122, attributes := #[] }, { accessFlags := 25, nameIndex := 599, descriptorIndex := 600, attributes := #[] }, { accessFlags := 24, nameIndex := 1125, descriptorIndex := 18, attributes := #[] }, { accessFlags := 24, nameIndex := 1127, descriptorIndex := 18, attributes := #[] }])
  fields := #[{ name := "value", type := (.array .byte), accessFlags := 18, slot := 0, constantValue := 0 }, { name := "coder", type := .byte, accessFlags := 18, slot := 1, constantValue := 0 }, { name := "hash", type := .int, accessFlags := 2, slot := 2, constantValue := 0 }, { name := "hashIsZero", type := .boolean, accessFlags := 2, slot := 3, constantValue := 0 }, { name := "serialVersionUID", type := .long, accessFlags := 26, slot := 0, constantValue := 0 }, { name := "COMPACT_STRINGS", type := .boolean, accessFlags := 24, slot := 1, constantValue := 0 }, { name := "serialPersistentFields", type := (.array (.object "java/io/ObjectStreamField")), accessFlags := 26, slot := 2, constantValue := 0 }, { name := "REPL", type := .char, accessFlags := 26, slot := 3, constantValue := 0 }, { name := "CASE_INSENSITIVE_ORDER", type := (.object "java/util/Comparator"), accessFlags := 25, slot := 4, constantValue := 0 }, { name := "LATIN1", type := .byte, accessFlags := 24, slot := 5, constantValue := 0 }, { name := "UTF16", type := .byte, accessFlags := 24, slot := 6, constantValue := 0 }]
  methods := #[k9m0]
  instanceTypes := #[(.array .byte), .byte, .int, .boolean]
  staticTypes := #[.long, .boolean, (.array (.object "java/io/ObjectStreamField")), .char, (.object "java/util/Comparator"), .byte, .byte]
  resolved := Array.replicate 1451 none
  statics := none }

def pool10 : Array CpInfo := pool [(2, .class_ 4), (1, u "java/lang/Object"), (0, u "<init>"), (0, u "()V"), (35, .class_ 44), (1, u "java/util/Objects"), (0, u "requireNonNull"), (48, u "(Ljava/lang/Object;Ljava/lang/String;)Ljava/lang/Object;")] 89

def k10m0 : Method := { name := "<init>", desc := "()V", sig := { parameters := [], returnType := none }, accessFlags := 2, code := none }
def k10c1 : Code := { maxStack := 3, maxLocals := 2, code := jdk_31_method_11_code, exceptionTable := #[], attributes := #[] }
def k10m1 : Method := { name := "requireNonNull", desc := "(Ljava/lang/Object;Ljava/lang/String;)Ljava/lang/Object;", sig := { parameters := [(.object "java/lang/Object"), (.object "java/lang/String")], returnType := some (.object "java/lang/Object") }, accessFlags := 9, code := some k10c1 }
/-- java/util/Objects -/
def k10 : Class := { plain "java/util/Objects" (some 0) with
  accessFlags := 49
  interfaces := #[]
  cf := some (fileOf pool10 42 #[] #[{ accessFlags := 2, nameIndex := 5, descriptorIndex := 6, attributes := #[] }, { accessFlags := 9, nameIndex := 45, descriptorIndex := 94, attributes := #[] }] 49 2 #[] #[])
  fields := #[]
  methods := #[k10m0, k10m1]
  instanceTypes := #[]
  staticTypes := #[]
  resolved := Array.replicate 184 none
  statics := none }

def pool11 : Array CpInfo := pool [(1, .methodref 2 3), (0, .class_ 4), (0, .nameAndType 5 6), (0, u "java/lang/Object"), (0, u "<init>"), (0, u "()V"), (1, .class_ 10), (1, u "java/lang/Number"), (2, .class_ 14), (0, u "java/io/Serializable"), (0, u "serialVersionUID"), (0, u "J")] 20

def k11c0 : Code := { maxStack := 1, maxLocals := 1, code := jdk_18_method_1_code, exceptionTable := #[], attributes := #[] }
def k11m0 : Method := { name := "<init>", desc := "()V", sig := { parameters := [], returnType := none }, accessFlags := 1, code := some k11c0 }
/-- java/lang/Number -/
def k11 : Class := { plain "java/lang/Number" (some 0) with
  accessFlags := 1057
  interfaces := #[4]
  cf := some (fileOf pool11 8 #[] #[{ accessFlags := 1, nameIndex := 5, descriptorIndex := 6, attributes := #[] }] 1057 2 #[13] #[{ accessFlags := 26, nameIndex := 15, descriptorIndex := 16, attributes := #[] }])
  fields := #[{ name := "serialVersionUID", type := .long, accessFlags := 26, slot := 0, constantValue := 0 }]
  methods := #[k11m0]
  instanceTypes := #[]
  staticTypes := #[.long]
  resolved := Array.replicate 37 none
  statics := none }

def pool12 : Array CpInfo := pool [(1, .class_ 2), (0, u "java/lang/Integer"), (16, u "digits"), (0, u "[C"), (46, u "<init>"), (17, u "DigitOnes"), (0, u "[B"), (2, u "DigitTens"), (10, .nameAndType 67 101), (0, u "()V"), (19, u "()I"), (65, u "valueOf"), (0, u "(I)Ljava/lang/Integer;"), (0, .class_ 190), (0, u "java/lang/Integer$IntegerCache"), (0, .fieldref 189 192), (0, .nameAndType 193 194), (0, u "high"), (0, u "I"), (0, .fieldref 189 196), (0, .nameAndType 197 198), (0, u "cache"), (0, u "[Ljava/lang/Integer;"), (0, .methodref 1 200), (0, .nameAndType 67 201), (0, u "(I)V"), (0, .methodref 203 100), (0, .class_ 204), (0, u "java/lang/Number"), (0, .fieldref 1 206), (0, .nameAndType 207 194), (0, u "value"), (5, u "intValue"), (88, u "TYPE"), (0, u "Ljava/lang/Class;"), (0, .class_ 305), (0, u "java/lang/Comparable"), (0, .class_ 307), (0, u "java/lang/constant/Constable"), (0, .class_ 309), (0, u "java/lang/constant/ConstantDesc"), (0, u "MIN_VALUE"), (1, u "MAX_VALUE"), (3, u "SIZE"), (1, u "BYTES"), (1, u "serialVersionUID"), (0, u "J")] 131

def k12c0 : Code := { maxStack := 3, maxLocals := 1, code := jdk_33_method_22_code, exceptionTable := #[], attributes := #[] }
def k12m0 : Method := { name := "valueOf", desc := "(I)Ljava/lang/Integer;", sig := { parameters := [.int], returnType := some (.object "java/lang/Integer") }, accessFlags := 9, code := some k12c0 }
def k12c1 : Code := { maxStack := 2, maxLocals := 2, code := jdk_33_method_23_code, exceptionTable := #[], attributes := #[] }
def k12m1 : Method := { name := "<init>", desc := "(I)V", sig := { parameters := [.int], returnType := none }, accessFlags := 1, code := some k12c1 }
def k12c2 : Code := { maxStack := 1, maxLocals := 1, code := jdk_33_method_27_code, exceptionTable := #[], attributes := #[] }
def k12m2 : Method := { name := "intValue", desc := "()I", sig := { parameters := [], returnType := some .int }, accessFlags := 1, code := some k12c2 }
/-- java/lang/Integer -/
def k12 : Class := { plain "java/lang/Integer" (some 11) with
  accessFlags := 49
  interfaces := #[5, 7, 8]
  cf := some (fileOf pool12 1 #[.nestMembers #[189]] #[{ accessFlags := 9, nameIndex := 187, descriptorIndex := 188, attributes := #[] }, { accessFlags := 1, nameIndex := 67, descriptorIndex := 201, attributes := #[] }, { accessFlags := 1, nameIndex := 213, descriptorIndex := 121, attributes := #[] }] 49 203 #[304, 306, 308] #[{ accessFlags := 25, nameIndex := 310, descriptorIndex := 194, attributes := #[] }, { accessFlags := 25, nameIndex := 312, descriptorIndex := 194, attributes := #[] }, { accessFlags := 25, nameIndex := 302, descriptorIndex := 303, attributes := #[] }, { accessFlags := 24, nameIndex := 19, descriptorIndex := 20, attributes := #[] }, { accessFlags := 24, nameIndex := 89, descriptorIndex := 86, attributes := #[] }, { accessFlags := 24, nameIndex := 85, descriptorIndex := 86, attributes := #[] }, { accessFlags := 18, nameIndex := 207, descriptorIndex := 194, attributes := #[] }, { accessFlags := 25, nameIndex := 316, descriptorIndex := 194, attributes := #[] }, { accessFlags := 25, nameIndex := 318, descriptorIndex := 194, attributes := #[] }, { accessFlags := 26, nameIndex := 320, descriptorIndex := 321, attributes := #[] }])
  fields := #[{ name := "MIN_VALUE", type := .int, accessFlags := 25, slot := 0, constantValue := 0 }, { name := "MAX_VALUE", type := .int, accessFlags := 25, slot := 1, constantValue := 0 }, { name := "TYPE", type := (.object "java/lang/Class"), accessFlags := 25, slot := 2, constantValue := 0 }, { name := "digits", type := (.array .char), accessFlags := 24, slot := 3, constantValue := 0 }, { name := "DigitTens", type := (.array .byte), accessFlags := 24, slot := 4, constantValue := 0 }, { name := "DigitOnes", type := (.array .byte), accessFlags := 24, slot := 5, constantValue := 0 }, { name := "value", type := .int, accessFlags := 18, slot := 0, constantValue := 0 }, { name := "SIZE", type := .int, accessFlags := 25, slot := 6, constantValue := 0 }, { name := "BYTES", type := .int, accessFlags := 25, slot := 7, constantValue := 0 }, { name := "serialVersionUID", type := .long, accessFlags := 26, slot := 8, constantValue := 0 }]
  methods := #[k12m0, k12m1, k12m2]
  instanceTypes := #[.int]
  staticTypes := #[.int, .int, (.object "java/lang/Class"), (.array .char), (.array .byte), (.array .byte), .int, .int, .long]
  resolved := Array.replicate 453 none
  statics := none }

def pool13 : Array CpInfo := pool [(2, .class_ 4), (1, u "java/lang/Object"), (0, u "<init>"), (0, u "()V"), (0, .class_ 8), (0, u "java/lang/Integer"), (7, .class_ 18), (1, u "java/lang/Integer$IntegerCache"), (0, u "$assertionsDisabled"), (0, u "Z"), (26, u "high"), (0, u "I"), (8, u "archivedCache"), (0, u "[Ljava/lang/Integer;"), (12, u "cache"), (0, u "low")] 27

def k13m0 : Method := { name := "<init>", desc := "()V", sig := { parameters := [], returnType := none }, accessFlags := 2, code := none }
/-- java/lang/Integer$IntegerCache -/
def k13 : Class := { plain "java/lang/Integer$IntegerCache" (some 0) with
  accessFlags := 48
  interfaces := #[]
  cf := some (fileOf pool13 16 #[.nestHost 7] #[{ accessFlags := 2, nameIndex := 5, descriptorIndex := 6, attributes := #[] }] 48 2 #[] #[{ accessFlags := 24, nameIndex := 72, descriptorIndex := 48, attributes := #[] }, { accessFlags := 24, nameIndex := 47, descriptorIndex := 48, attributes := #[] }, { accessFlags := 24, nameIndex := 71, descriptorIndex := 58, attributes := #[] }, { accessFlags := 8, nameIndex := 57, descriptorIndex := 58, attributes := #[] }, { accessFlags := 4120, nameIndex := 19, descriptorIndex := 20, attributes := #[] }])
  fields := #[{ name := "low", type := .int, accessFlags := 24, slot := 0, constantValue := 0 }, { name := "high", type := .int, accessFlags := 24, slot := 1, constantValue := 0 }, { name := "cache", type := (.array (.object "java/lang/Integer")), accessFlags := 24, slot := 2, constantValue := 0 }, { name := "archivedCache", type := (.array (.object "java/lang/Integer")), accessFlags := 8, slot := 3, constantValue := 0 }, { name := "$assertionsDisabled", type := .boolean, accessFlags := 4120, slot := 4, constantValue := 0 }]
  methods := #[k13m0]
  instanceTypes := #[]
  staticTypes := #[.int, .int, (.array (.object "java/lang/Integer")), (.array (.object "java/lang/Integer")), .boolean]
  resolved := Array.replicate 100 none
  statics := some 2 }

def pool14 : Array CpInfo := pool [(1, u "java/lang/Cloneable"), (0, .class_ 1), (0, u "java/lang/Object"), (0, .class_ 3)] 3

/-- java/lang/Cloneable -/
def k14 : Class := { plain "java/lang/Cloneable" (some 0) with
  accessFlags := 1537
  interfaces := #[]
  cf := some (fileOf pool14 2 #[] #[] 1537 4 #[] #[])
  fields := #[]
  methods := #[]
  instanceTypes := #[]
  staticTypes := #[]
  resolved := Array.replicate 8 none
  statics := none }

/-- the primitive byte -/
def k15 : Class := { plain "byte" none with kind := .primitive 'B', accessFlags := 0x411 }
/-- [B -/
def k16 : Class := { plain "[B" (some 0) with kind := .array 15 .byte, interfaces := #[14, 4], accessFlags := 1041 }

/-- the primitive int -/
def k17 : Class := { plain "int" none with kind := .primitive 'I', accessFlags := 0x411 }
/-- [I -/
def k18 : Class := { plain "[I" (some 0) with kind := .array 17 .int, interfaces := #[14, 4], accessFlags := 1041 }

/-- [Ljava/lang/Integer; -/
def k19 : Class := { plain "[Ljava/lang/Integer;" (some 0) with kind := .array 12 (.object "java/lang/Integer"), interfaces := #[14, 4], accessFlags := 1041 }

def heap : Heap := #[{ cls := 2, slots := #[.ref 5, .ref 4, .int 0, .int 0, .null], vm := .statics 2 },
  { cls := 3, slots := #[.ref 262], vm := .statics 3 },
  { cls := 13, slots := #[.int 0, .int 127, .ref 3, .null, .int 0], vm := .statics 13 },
  { cls := 19, slots := #[.ref 6, .ref 7, .ref 8, .ref 9, .ref 10, .ref 11, .ref 12, .ref 13, .ref 14, .ref 15, .ref 16, .ref 17, .ref 18, .ref 19, .ref 20, .ref 21, .ref 22, .ref 23, .ref 24, .ref 25, .ref 26, .ref 27, .ref 28, .ref 29, .ref 30, .ref 31, .ref 32, .ref 33, .ref 34, .ref 35, .ref 36, .ref 37, .ref 38, .ref 39, .ref 40, .ref 41, .ref 42, .ref 43, .ref 44, .ref 45, .ref 46, .ref 47, .ref 48, .ref 49, .ref 50, .ref 51, .ref 52, .ref 53, .ref 54, .ref 55, .ref 56, .ref 57, .ref 58, .ref 59, .ref 60, .ref 61, .ref 62, .ref 63, .ref 64, .ref 65, .ref 66, .ref 67, .ref 68, .ref 69, .ref 70, .ref 71, .ref 72, .ref 73, .ref 74, .ref 75, .ref 76, .ref 77, .ref 78, .ref 79, .ref 80, .ref 81, .ref 82, .ref 83, .ref 84, .ref 85, .ref 86, .ref 87, .ref 88, .ref 89, .ref 90, .ref 91, .ref 92, .ref 93, .ref 94, .ref 95, .ref 96, .ref 97, .ref 98, .ref 99, .ref 100, .ref 101, .ref 102, .ref 103, .ref 104, .ref 105, .ref 106, .ref 107, .ref 108, .ref 109, .ref 110, .ref 111, .ref 112, .ref 113, .ref 114, .ref 115, .ref 116, .ref 117, .ref 118, .ref 119, .ref 120, .ref 121, .ref 122, .ref 123, .ref 124, .ref 125, .ref 126, .ref 127, .ref 128, .ref 129, .ref 130, .ref 131, .ref 132, .ref 133, .ref 134, .ref 135, .ref 136, .ref 137, .ref 138, .ref 139, .ref 140, .ref 141, .ref 142, .ref 143, .ref 144, .ref 145, .ref 146, .ref 147, .ref 148, .ref 149, .ref 150, .ref 151, .ref 152, .ref 153, .ref 154, .ref 155, .ref 156, .ref 157, .ref 158, .ref 159, .ref 160, .ref 161, .ref 162, .ref 163, .ref 164, .ref 165, .ref 166, .ref 167, .ref 168, .ref 169, .ref 170, .ref 171, .ref 172, .ref 173, .ref 174, .ref 175, .ref 176, .ref 177, .ref 178, .ref 179, .ref 180, .ref 181, .ref 182, .ref 183, .ref 184, .ref 185, .ref 186, .ref 187, .ref 188, .ref 189, .ref 190, .ref 191, .ref 192, .ref 193, .ref 194, .ref 195, .ref 196, .ref 197, .ref 198, .ref 199, .ref 200, .ref 201, .ref 202, .ref 203, .ref 204, .ref 205, .ref 206, .ref 207, .ref 208, .ref 209, .ref 210, .ref 211, .ref 212, .ref 213, .ref 214, .ref 215, .ref 216, .ref 217, .ref 218, .ref 219, .ref 220, .ref 221, .ref 222, .ref 223, .ref 224, .ref 225, .ref 226, .ref 227, .ref 228, .ref 229, .ref 230, .ref 231, .ref 232, .ref 233, .ref 234, .ref 235, .ref 236, .ref 237, .ref 238, .ref 239, .ref 240, .ref 241, .ref 242, .ref 243, .ref 244, .ref 245, .ref 246, .ref 247, .ref 248, .ref 249, .ref 250, .ref 251, .ref 252, .ref 253, .ref 254, .ref 255, .ref 256, .ref 257, .ref 258, .ref 259, .ref 260, .ref 261], vm := .none },
  { cls := 2, slots := #[.null], vm := .none },
  { cls := 2, slots := #[.null], vm := .none },
  { cls := 12, slots := #[.int (-128)], vm := .none },
  { cls := 12, slots := #[.int (-127)], vm := .none },
  { cls := 12, slots := #[.int (-126)], vm := .none },
  { cls := 12, slots := #[.int (-125)], vm := .none },
  { cls := 12, slots := #[.int (-124)], vm := .none },
  { cls := 12, slots := #[.int (-123)], vm := .none },
  { cls := 12, slots := #[.int (-122)], vm := .none },
  { cls := 12, slots := #[.int (-121)], vm := .none },
  { cls := 12, slots := #[.int (-120)], vm := .none },
  { cls := 12, slots := #[.int (-119)], vm := .none },
  { cls := 12, slots := #[.int (-118)], vm := .none },
  { cls := 12, slots := #[.int (-117)], vm := .none },
  { cls := 12, slots := #[.int (-116)], vm := .none },
  { cls := 12, slots := #[.int (-115)], vm := .none },
  { cls := 12, slots := #[.int (-114)], vm := .none },
  { cls := 12, slots := #[.int (-113)], vm := .none },
  { cls := 12, slots := #[.int (-112)], vm := .none },
  { cls := 12, slots := #[.int (-111)], vm := .none },
  { cls := 12, slots := #[.int (-110)], vm := .none },
  { cls := 12, slots := #[.int (-109)], vm := .none },
  { cls := 12, slots := #[.int (-108)], vm := .none },
  { cls := 12, slots := #[.int (-107)], vm := .none },
  { cls := 12, slots := #[.int (-106)], vm := .none },
  { cls := 12, slots := #[.int (-105)], vm := .none },
  { cls := 12, slots := #[.int (-104)], vm := .none },
  { cls := 12, slots := #[.int (-103)], vm := .none },
  { cls := 12, slots := #[.int (-102)], vm := .none },
  { cls := 12, slots := #[.int (-101)], vm := .none },
  { cls := 12, slots := #[.int (-100)], vm := .none },
  { cls := 12, slots := #[.int (-99)], vm := .none },
  { cls := 12, slots := #[.int (-98)], vm := .none },
  { cls := 12, slots := #[.int (-97)], vm := .none },
  { cls := 12, slots := #[.int (-96)], vm := .none },
  { cls := 12, slots := #[.int (-95)], vm := .none },
  { cls := 12, slots := #[.int (-94)], vm := .none },
  { cls := 12, slots := #[.int (-93)], vm := .none },
  { cls := 12, slots := #[.int (-92)], vm := .none },
  { cls := 12, slots := #[.int (-91)], vm := .none },
  { cls := 12, slots := #[.int (-90)], vm := .none },
  { cls := 12, slots := #[.int (-89)], vm := .none },
  { cls := 12, slots := #[.int (-88)], vm := .none },
  { cls := 12, slots := #[.int (-87)], vm := .none },
  { cls := 12, slots := #[.int (-86)], vm := .none },
  { cls := 12, slots := #[.int (-85)], vm := .none },
  { cls := 12, slots := #[.int (-84)], vm := .none },
  { cls := 12, slots := #[.int (-83)], vm := .none },
  { cls := 12, slots := #[.int (-82)], vm := .none },
  { cls := 12, slots := #[.int (-81)], vm := .none },
  { cls := 12, slots := #[.int (-80)], vm := .none },
  { cls := 12, slots := #[.int (-79)], vm := .none },
  { cls := 12, slots := #[.int (-78)], vm := .none },
  { cls := 12, slots := #[.int (-77)], vm := .none },
  { cls := 12, slots := #[.int (-76)], vm := .none },
  { cls := 12, slots := #[.int (-75)], vm := .none },
  { cls := 12, slots := #[.int (-74)], vm := .none },
  { cls := 12, slots := #[.int (-73)], vm := .none },
  { cls := 12, slots := #[.int (-72)], vm := .none },
  { cls := 12, slots := #[.int (-71)], vm := .none },
  { cls := 12, slots := #[.int (-70)], vm := .none },
  { cls := 12, slots := #[.int (-69)], vm := .none },
  { cls := 12, slots := #[.int (-68)], vm := .none },
  { cls := 12, slots := #[.int (-67)], vm := .none },
  { cls := 12, slots := #[.int (-66)], vm := .none },
  { cls := 12, slots := #[.int (-65)], vm := .none },
  { cls := 12, slots := #[.int (-64)], vm := .none },
  { cls := 12, slots := #[.int (-63)], vm := .none },
  { cls := 12, slots := #[.int (-62)], vm := .none },
  { cls := 12, slots := #[.int (-61)], vm := .none },
  { cls := 12, slots := #[.int (-60)], vm := .none },
  { cls := 12, slots := #[.int (-59)], vm := .none },
  { cls := 12, slots := #[.int (-58)], vm := .none },
  { cls := 12, slots := #[.int (-57)], vm := .none },
  { cls := 12, slots := #[.int (-56)], vm := .none },
  { cls := 12, slots := #[.int (-55)], vm := .none },
  { cls := 12, slots := #[.int (-54)], vm := .none },
  { cls := 12, slots := #[.int (-53)], vm := .none },
  { cls := 12, slots := #[.int (-52)], vm := .none },
  { cls := 12, slots := #[.int (-51)], vm := .none },
  { cls := 12, slots := #[.int (-50)], vm := .none },
  { cls := 12, slots := #[.int (-49)], vm := .none },
  { cls := 12, slots := #[.int (-48)], vm := .none },
  { cls := 12, slots := #[.int (-47)], vm := .none },
  { cls := 12, slots := #[.int (-46)], vm := .none },
  { cls := 12, slots := #[.int (-45)], vm := .none },
  { cls := 12, slots := #[.int (-44)], vm := .none },
  { cls := 12, slots := #[.int (-43)], vm := .none },
  { cls := 12, slots := #[.int (-42)], vm := .none },
  { cls := 12, slots := #[.int (-41)], vm := .none },
  { cls := 12, slots := #[.int (-40)], vm := .none },
  { cls := 12, slots := #[.int (-39)], vm := .none },
  { cls := 12, slots := #[.int (-38)], vm := .none },
  { cls := 12, slots := #[.int (-37)], vm := .none },
  { cls := 12, slots := #[.int (-36)], vm := .none },
  { cls := 12, slots := #[.int (-35)], vm := .none },
  { cls := 12, slots := #[.int (-34)], vm := .none },
  { cls := 12, slots := #[.int (-33)], vm := .none },
  { cls := 12, slots := #[.int (-32)], vm := .none },
  { cls := 12, slots := #[.int (-31)], vm := .none },
  { cls := 12, slots := #[.int (-30)], vm := .none },
  { cls := 12, slots := #[.int (-29)], vm := .none },
  { cls := 12, slots := #[.int (-28)], vm := .none },
  { cls := 12, slots := #[.int (-27)], vm := .none },
  { cls := 12, slots := #[.int (-26)], vm := .none },
  { cls := 12, slots := #[.int (-25)], vm := .none },
  { cls := 12, slots := #[.int (-24)], vm := .none },
  { cls := 12, slots := #[.int (-23)], vm := .none },
  { cls := 12, slots := #[.int (-22)], vm := .none },
  { cls := 12, slots := #[.int (-21)], vm := .none },
  { cls := 12, slots := #[.int (-20)], vm := .none },
  { cls := 12, slots := #[.int (-19)], vm := .none },
  { cls := 12, slots := #[.int (-18)], vm := .none },
  { cls := 12, slots := #[.int (-17)], vm := .none },
  { cls := 12, slots := #[.int (-16)], vm := .none },
  { cls := 12, slots := #[.int (-15)], vm := .none },
  { cls := 12, slots := #[.int (-14)], vm := .none },
  { cls := 12, slots := #[.int (-13)], vm := .none },
  { cls := 12, slots := #[.int (-12)], vm := .none },
  { cls := 12, slots := #[.int (-11)], vm := .none },
  { cls := 12, slots := #[.int (-10)], vm := .none },
  { cls := 12, slots := #[.int (-9)], vm := .none },
  { cls := 12, slots := #[.int (-8)], vm := .none },
  { cls := 12, slots := #[.int (-7)], vm := .none },
  { cls := 12, slots := #[.int (-6)], vm := .none },
  { cls := 12, slots := #[.int (-5)], vm := .none },
  { cls := 12, slots := #[.int (-4)], vm := .none },
  { cls := 12, slots := #[.int (-3)], vm := .none },
  { cls := 12, slots := #[.int (-2)], vm := .none },
  { cls := 12, slots := #[.int (-1)], vm := .none },
  { cls := 12, slots := #[.int 0], vm := .none },
  { cls := 12, slots := #[.int 1], vm := .none },
  { cls := 12, slots := #[.int 2], vm := .none },
  { cls := 12, slots := #[.int 3], vm := .none },
  { cls := 12, slots := #[.int 4], vm := .none },
  { cls := 12, slots := #[.int 5], vm := .none },
  { cls := 12, slots := #[.int 6], vm := .none },
  { cls := 12, slots := #[.int 7], vm := .none },
  { cls := 12, slots := #[.int 8], vm := .none },
  { cls := 12, slots := #[.int 9], vm := .none },
  { cls := 12, slots := #[.int 10], vm := .none },
  { cls := 12, slots := #[.int 11], vm := .none },
  { cls := 12, slots := #[.int 12], vm := .none },
  { cls := 12, slots := #[.int 13], vm := .none },
  { cls := 12, slots := #[.int 14], vm := .none },
  { cls := 12, slots := #[.int 15], vm := .none },
  { cls := 12, slots := #[.int 16], vm := .none },
  { cls := 12, slots := #[.int 17], vm := .none },
  { cls := 12, slots := #[.int 18], vm := .none },
  { cls := 12, slots := #[.int 19], vm := .none },
  { cls := 12, slots := #[.int 20], vm := .none },
  { cls := 12, slots := #[.int 21], vm := .none },
  { cls := 12, slots := #[.int 22], vm := .none },
  { cls := 12, slots := #[.int 23], vm := .none },
  { cls := 12, slots := #[.int 24], vm := .none },
  { cls := 12, slots := #[.int 25], vm := .none },
  { cls := 12, slots := #[.int 26], vm := .none },
  { cls := 12, slots := #[.int 27], vm := .none },
  { cls := 12, slots := #[.int 28], vm := .none },
  { cls := 12, slots := #[.int 29], vm := .none },
  { cls := 12, slots := #[.int 30], vm := .none },
  { cls := 12, slots := #[.int 31], vm := .none },
  { cls := 12, slots := #[.int 32], vm := .none },
  { cls := 12, slots := #[.int 33], vm := .none },
  { cls := 12, slots := #[.int 34], vm := .none },
  { cls := 12, slots := #[.int 35], vm := .none },
  { cls := 12, slots := #[.int 36], vm := .none },
  { cls := 12, slots := #[.int 37], vm := .none },
  { cls := 12, slots := #[.int 38], vm := .none },
  { cls := 12, slots := #[.int 39], vm := .none },
  { cls := 12, slots := #[.int 40], vm := .none },
  { cls := 12, slots := #[.int 41], vm := .none },
  { cls := 12, slots := #[.int 42], vm := .none },
  { cls := 12, slots := #[.int 43], vm := .none },
  { cls := 12, slots := #[.int 44], vm := .none },
  { cls := 12, slots := #[.int 45], vm := .none },
  { cls := 12, slots := #[.int 46], vm := .none },
  { cls := 12, slots := #[.int 47], vm := .none },
  { cls := 12, slots := #[.int 48], vm := .none },
  { cls := 12, slots := #[.int 49], vm := .none },
  { cls := 12, slots := #[.int 50], vm := .none },
  { cls := 12, slots := #[.int 51], vm := .none },
  { cls := 12, slots := #[.int 52], vm := .none },
  { cls := 12, slots := #[.int 53], vm := .none },
  { cls := 12, slots := #[.int 54], vm := .none },
  { cls := 12, slots := #[.int 55], vm := .none },
  { cls := 12, slots := #[.int 56], vm := .none },
  { cls := 12, slots := #[.int 57], vm := .none },
  { cls := 12, slots := #[.int 58], vm := .none },
  { cls := 12, slots := #[.int 59], vm := .none },
  { cls := 12, slots := #[.int 60], vm := .none },
  { cls := 12, slots := #[.int 61], vm := .none },
  { cls := 12, slots := #[.int 62], vm := .none },
  { cls := 12, slots := #[.int 63], vm := .none },
  { cls := 12, slots := #[.int 64], vm := .none },
  { cls := 12, slots := #[.int 65], vm := .none },
  { cls := 12, slots := #[.int 66], vm := .none },
  { cls := 12, slots := #[.int 67], vm := .none },
  { cls := 12, slots := #[.int 68], vm := .none },
  { cls := 12, slots := #[.int 69], vm := .none },
  { cls := 12, slots := #[.int 70], vm := .none },
  { cls := 12, slots := #[.int 71], vm := .none },
  { cls := 12, slots := #[.int 72], vm := .none },
  { cls := 12, slots := #[.int 73], vm := .none },
  { cls := 12, slots := #[.int 74], vm := .none },
  { cls := 12, slots := #[.int 75], vm := .none },
  { cls := 12, slots := #[.int 76], vm := .none },
  { cls := 12, slots := #[.int 77], vm := .none },
  { cls := 12, slots := #[.int 78], vm := .none },
  { cls := 12, slots := #[.int 79], vm := .none },
  { cls := 12, slots := #[.int 80], vm := .none },
  { cls := 12, slots := #[.int 81], vm := .none },
  { cls := 12, slots := #[.int 82], vm := .none },
  { cls := 12, slots := #[.int 83], vm := .none },
  { cls := 12, slots := #[.int 84], vm := .none },
  { cls := 12, slots := #[.int 85], vm := .none },
  { cls := 12, slots := #[.int 86], vm := .none },
  { cls := 12, slots := #[.int 87], vm := .none },
  { cls := 12, slots := #[.int 88], vm := .none },
  { cls := 12, slots := #[.int 89], vm := .none },
  { cls := 12, slots := #[.int 90], vm := .none },
  { cls := 12, slots := #[.int 91], vm := .none },
  { cls := 12, slots := #[.int 92], vm := .none },
  { cls := 12, slots := #[.int 93], vm := .none },
  { cls := 12, slots := #[.int 94], vm := .none },
  { cls := 12, slots := #[.int 95], vm := .none },
  { cls := 12, slots := #[.int 96], vm := .none },
  { cls := 12, slots := #[.int 97], vm := .none },
  { cls := 12, slots := #[.int 98], vm := .none },
  { cls := 12, slots := #[.int 99], vm := .none },
  { cls := 12, slots := #[.int 100], vm := .none },
  { cls := 12, slots := #[.int 101], vm := .none },
  { cls := 12, slots := #[.int 102], vm := .none },
  { cls := 12, slots := #[.int 103], vm := .none },
  { cls := 12, slots := #[.int 104], vm := .none },
  { cls := 12, slots := #[.int 105], vm := .none },
  { cls := 12, slots := #[.int 106], vm := .none },
  { cls := 12, slots := #[.int 107], vm := .none },
  { cls := 12, slots := #[.int 108], vm := .none },
  { cls := 12, slots := #[.int 109], vm := .none },
  { cls := 12, slots := #[.int 110], vm := .none },
  { cls := 12, slots := #[.int 111], vm := .none },
  { cls := 12, slots := #[.int 112], vm := .none },
  { cls := 12, slots := #[.int 113], vm := .none },
  { cls := 12, slots := #[.int 114], vm := .none },
  { cls := 12, slots := #[.int 115], vm := .none },
  { cls := 12, slots := #[.int 116], vm := .none },
  { cls := 12, slots := #[.int 117], vm := .none },
  { cls := 12, slots := #[.int 118], vm := .none },
  { cls := 12, slots := #[.int 119], vm := .none },
  { cls := 12, slots := #[.int 120], vm := .none },
  { cls := 12, slots := #[.int 121], vm := .none },
  { cls := 12, slots := #[.int 122], vm := .none },
  { cls := 12, slots := #[.int 123], vm := .none },
  { cls := 12, slots := #[.int 124], vm := .none },
  { cls := 12, slots := #[.int 125], vm := .none },
  { cls := 12, slots := #[.int 126], vm := .none },
  { cls := 12, slots := #[.int 127], vm := .none },
  { cls := 3, slots := #[.null], vm := .none }]
def classes : Array Class := #[k0, k1, k2, k3, k4, k5, k6, k7, k8, k9, k10, k11, k12, k13, k14, k15, k16, k17, k18, k19]
def interned : List (Array UInt16 × Addr) := []
def slotsUsed : Nat := 526
def theMethod : MethodId := ⟨1, 1⟩
def args0 : Array Value := #[.int 5, .int 5]
def aboutOver (below : List Frame) : State where
  vm := { classes := classes, interned := interned.toArray }
  heap := heap
  slotsUsed := slotsUsed
  threads := #[{ frames := .invoking theMethod args0 :: below }]
def below0 : List Frame := [.native { method := ⟨0, 0⟩, args := #[] }]
def about1 : State := aboutOver below0
def p0 : Program := .bare "" "" ""
def e0 : Env := launch0.env 0 0 0
theorem w_frames : about1.frames = Frame.invoking theMethod args0 :: below0 := rfl
set_option maxRecDepth 65536 in
theorem w_args : argsFit about1.vm theMethod args0 = true := by decide +kernel
set_option maxRecDepth 65536 in
theorem w_heap : heapFits about1 = true := by decide +kernel
set_option maxRecDepth 65536 in
theorem w_runnable : about1.curStatus? = some .runnable := by decide +kernel
set_option maxRecDepth 65536 in
theorem w_alone : about1.alone = true := by decide +kernel
set_option maxRecDepth 65536 in
theorem w_named : about1.methodNamed? x = some theMethod := by decide +kernel
set_option maxRecDepth 65536 in
theorem w_hears : about1.hears theMethod below0 = true := by decide +kernel
set_option maxRecDepth 65536 in
theorem w_ripe : about1.ripe theMethod args0 below0 = true := by decide +kernel
theorem w_running : about1.status = .running := rfl
set_option maxRecDepth 65536 in
theorem w_room : about1.hasRoom e0.platform room_1 = true :=
  launch0.hasRoom_least _ room_1 (by decide +kernel) (by decide +kernel) (by decide +kernel) (by decide +kernel) (by decide +kernel) (by decide +kernel)
theorem allAtoms_all (ts : List Jvm.Cond) (a : Array Jvm.Value) (st : Jvm.State) : (allAtoms ts).before a st = ts.all (fun c => c.before a st) := by
  induction ts with
  | nil => rfl
  | cons c t ih =>
    show (Jvm.Cond.and c (allAtoms t)).before a st = _
    rw [Jvm.Cond.before_and, ih, List.all_cons]
def words1 : List Jvm.Cond := Jvm.Cond.code x code maxLocals ret :: tables_1
/-- a 'code' word, met by the world's own term for the bytes: nothing is compared byte by byte -/
theorem code_word {y : MethodName} {bytes : ByteArray} {mx : Nat} {rt : Option FieldType} {a : Array Value} {s : State} {m : MethodId} {meth : Method} {c : Code} (h1 : s.methodNamed? y = some m) (h2 : s.vm.method? m = some meth) (h3 : meth.code = some c) (h4 : c.code = bytes)
    (h5 : (c.maxLocals == mx && c.exceptionTable.isEmpty && decide (c.maxStack ≤ mostOperands) && decide (meth.sig.returnType = rt) && !meth.locks && decide (parseMethodDescriptor y.desc = some meth.sig)) = true) : (Jvm.Cond.code y bytes mx rt).before a s = true := by
  simp only [Bool.and_eq_true, beq_iff_eq, Bool.not_eq_true', decide_eq_true_eq] at h5
  obtain ⟨⟨⟨⟨⟨g1, g2⟩, g3⟩, g4⟩, g5⟩, g6⟩ := h5
  simp [Cond.before, Cond.holds, Cond.value, h1, h2, h3, h4, g1, g2, g3, g4, g5, g6]
def isCode : Jvm.Cond → Bool
  | .code _ _ _ _ => true
  | _ => false
theorem all_split {L : List Jvm.Cond} {P : Jvm.Cond → Bool} (h1 : L.all (fun c => isCode c || P c) = true) (h2 : ∀ c ∈ L.filter isCode, P c = true) : L.all P = true := by
  refine List.all_eq_true.mpr fun c hc => ?_
  have h := List.all_eq_true.mp h1 c hc
  rcases Bool.eq_false_or_eq_true (isCode c) with hi | hi
  · exact h2 c (List.mem_filter.mpr ⟨hc, hi⟩)
  · simpa [hi] using h
set_option maxRecDepth 65536 in
theorem w_c0 : (Jvm.Cond.code x code maxLocals ret).before args0 about1 = true := code_word (m := ⟨1, 1⟩) (meth := k1m1) (c := k1c1) (by decide +kernel) rfl rfl rfl (by decide +kernel)
set_option maxRecDepth 65536 in
theorem w_c1 : (Jvm.Cond.code ({ cls := "tertium/Tertium", name := "ofNull", desc := "()Ltertium/Tertium;" } : Jvm.MethodName) prog_1_method_3_code (0 : Nat) (Option.some (Jvm.ClassFile.FieldType.object "tertium/Tertium"))).before args0 about1 = true := code_word (m := ⟨2, 2⟩) (meth := k2m2) (c := k2c2) (by decide +kernel) rfl rfl rfl (by decide +kernel)
set_option maxRecDepth 65536 in
theorem w_c2 : (Jvm.Cond.code ({ cls := "tertium/Tertium", name := "toOptional", desc := "()Ljava/util/Optional;" } : Jvm.MethodName) prog_1_method_24_code (1 : Nat) (Option.some (Jvm.ClassFile.FieldType.object "java/util/Optional"))).before args0 about1 = true := code_word (m := ⟨2, 8⟩) (meth := k2m8) (c := k2c8) (by decide +kernel) rfl rfl rfl (by decide +kernel)
set_option maxRecDepth 65536 in
theorem w_c3 : (Jvm.Cond.code ({ cls := "java/util/Optional", name := "ofNullable", desc := "(Ljava/lang/Object;)Ljava/util/Optional;" } : Jvm.MethodName) jdk_32_method_4_code (1 : Nat) (Option.some (Jvm.ClassFile.FieldType.object "java/util/Optional"))).before args0 about1 = true := code_word (m := ⟨3, 1⟩) (meth := k3m1) (c := k3c1) (by decide +kernel) rfl rfl rfl (by decide +kernel)
set_option maxRecDepth 65536 in
theorem w_c4 : (Jvm.Cond.code ({ cls := "tertium/Tertium", name := "fromOptional", desc := "(Ljava/util/Optional;)Ltertium/Tertium;" } : Jvm.MethodName) prog_1_method_5_code (1 : Nat) (Option.some (Jvm.ClassFile.FieldType.object "tertium/Tertium"))).before args0 about1 = true := code_word (m := ⟨2, 4⟩) (meth := k2m4) (c := k2c4) (by decide +kernel) rfl rfl rfl (by decide +kernel)
set_option maxRecDepth 65536 in
theorem w_c5 : (Jvm.Cond.code ({ cls := "java/util/Objects", name := "requireNonNull", desc := "(Ljava/lang/Object;Ljava/lang/String;)Ljava/lang/Object;" } : Jvm.MethodName) jdk_31_method_11_code (2 : Nat) (Option.some (Jvm.ClassFile.FieldType.object "java/lang/Object"))).before args0 about1 = true := code_word (m := ⟨10, 1⟩) (meth := k10m1) (c := k10c1) (by decide +kernel) rfl rfl rfl (by decide +kernel)
set_option maxRecDepth 65536 in
theorem w_c6 : (Jvm.Cond.code ({ cls := "java/util/Optional", name := "isPresent", desc := "()Z" } : Jvm.MethodName) jdk_32_method_6_code (1 : Nat) (Option.some Jvm.ClassFile.FieldType.boolean)).before args0 about1 = true := code_word (m := ⟨3, 3⟩) (meth := k3m3) (c := k3c3) (by decide +kernel) rfl rfl rfl (by decide +kernel)
set_option maxRecDepth 65536 in
theorem w_c7 : (Jvm.Cond.code ({ cls := "tertium/Tertium", name := "absent", desc := "()Ltertium/Tertium;" } : Jvm.MethodName) prog_1_method_2_code (0 : Nat) (Option.some (Jvm.ClassFile.FieldType.object "tertium/Tertium"))).before args0 about1 = true := code_word (m := ⟨2, 1⟩) (meth := k2m1) (c := k2c1) (by decide +kernel) rfl rfl rfl (by decide +kernel)
set_option maxRecDepth 65536 in
theorem w_c8 : (Jvm.Cond.code ({ cls := "tertium/Tertium", name := "isAbsent", desc := "()Z" } : Jvm.MethodName) prog_1_method_9_code (1 : Nat) (Option.some Jvm.ClassFile.FieldType.boolean)).before args0 about1 = true := code_word (m := ⟨2, 5⟩) (meth := k2m5) (c := k2c5) (by decide +kernel) rfl rfl rfl (by decide +kernel)
set_option maxRecDepth 65536 in
theorem w_c9 : (Jvm.Cond.code ({ cls := "tertium/Tertium", name := "isNull", desc := "()Z" } : Jvm.MethodName) prog_1_method_11_code (1 : Nat) (Option.some Jvm.ClassFile.FieldType.boolean)).before args0 about1 = true := code_word (m := ⟨2, 6⟩) (meth := k2m6) (c := k2c6) (by decide +kernel) rfl rfl rfl (by decide +kernel)
set_option maxRecDepth 65536 in
theorem w_c10 : (Jvm.Cond.code ({ cls := "java/lang/Integer", name := "valueOf", desc := "(I)Ljava/lang/Integer;" } : Jvm.MethodName) jdk_33_method_22_code (1 : Nat) (Option.some (Jvm.ClassFile.FieldType.object "java/lang/Integer"))).before args0 about1 = true := code_word (m := ⟨12, 0⟩) (meth := k12m0) (c := k12c0) (by decide +kernel) rfl rfl rfl (by decide +kernel)
set_option maxRecDepth 65536 in
theorem w_c11 : (Jvm.Cond.code ({ cls := "tertium/Tertium", name := "of", desc := "(Ljava/lang/Object;)Ltertium/Tertium;" } : Jvm.MethodName) prog_1_method_4_code (1 : Nat) (Option.some (Jvm.ClassFile.FieldType.object "tertium/Tertium"))).before args0 about1 = true := code_word (m := ⟨2, 3⟩) (meth := k2m3) (c := k2c3) (by decide +kernel) rfl rfl rfl (by decide +kernel)
set_option maxRecDepth 65536 in
theorem w_c12 : (Jvm.Cond.code ({ cls := "tertium/Tertium", name := "<init>", desc := "(Ljava/lang/Object;)V" } : Jvm.MethodName) prog_1_method_1_code (2 : Nat) (Option.none : Option Jvm.ClassFile.FieldType)).before args0 about1 = true := code_word (m := ⟨2, 0⟩) (meth := k2m0) (c := k2c0) (by decide +kernel) rfl rfl rfl (by decide +kernel)
set_option maxRecDepth 65536 in
theorem w_c13 : (Jvm.Cond.code ({ cls := "java/lang/Object", name := "<init>", desc := "()V" } : Jvm.MethodName) object_method_1_code (1 : Nat) (Option.none : Option Jvm.ClassFile.FieldType)).before args0 about1 = true := code_word (m := ⟨0, 0⟩) (meth := k0m0) (c := k0c0) (by decide +kernel) rfl rfl rfl (by decide +kernel)
set_option maxRecDepth 65536 in
theorem w_c14 : (Jvm.Cond.code ({ cls := "java/util/Optional", name := "<init>", desc := "(Ljava/lang/Object;)V" } : Jvm.MethodName) jdk_32_method_2_code (2 : Nat) (Option.none : Option Jvm.ClassFile.FieldType)).before args0 about1 = true := code_word (m := ⟨3, 0⟩) (meth := k3m0) (c := k3c0) (by decide +kernel) rfl rfl rfl (by decide +kernel)
set_option maxRecDepth 65536 in
theorem w_c15 : (Jvm.Cond.code ({ cls := "java/util/Optional", name := "get", desc := "()Ljava/lang/Object;" } : Jvm.MethodName) jdk_32_method_5_code (1 : Nat) (Option.some (Jvm.ClassFile.FieldType.object "java/lang/Object"))).before args0 about1 = true := code_word (m := ⟨3, 2⟩) (meth := k3m2) (c := k3c2) (by decide +kernel) rfl rfl rfl (by decide +kernel)
set_option maxRecDepth 65536 in
theorem w_c16 : (Jvm.Cond.code ({ cls := "tertium/Tertium", name := "get", desc := "()Ljava/lang/Object;" } : Jvm.MethodName) prog_1_method_14_code (1 : Nat) (Option.some (Jvm.ClassFile.FieldType.object "java/lang/Object"))).before args0 about1 = true := code_word (m := ⟨2, 7⟩) (meth := k2m7) (c := k2c7) (by decide +kernel) rfl rfl rfl (by decide +kernel)
set_option maxRecDepth 65536 in
theorem w_c17 : (Jvm.Cond.code ({ cls := "java/lang/Integer", name := "intValue", desc := "()I" } : Jvm.MethodName) jdk_33_method_27_code (1 : Nat) (Option.some Jvm.ClassFile.FieldType.int)).before args0 about1 = true := code_word (m := ⟨12, 2⟩) (meth := k12m2) (c := k12c2) (by decide +kernel) rfl rfl rfl (by decide +kernel)
set_option maxRecDepth 65536 in
theorem w_c18 : (Jvm.Cond.code ({ cls := "java/lang/Integer", name := "<init>", desc := "(I)V" } : Jvm.MethodName) jdk_33_method_23_code (2 : Nat) (Option.none : Option Jvm.ClassFile.FieldType)).before args0 about1 = true := code_word (m := ⟨12, 1⟩) (meth := k12m1) (c := k12c1) (by decide +kernel) rfl rfl rfl (by decide +kernel)
set_option maxRecDepth 65536 in
theorem w_c19 : (Jvm.Cond.code ({ cls := "java/lang/Number", name := "<init>", desc := "()V" } : Jvm.MethodName) jdk_18_method_1_code (1 : Nat) (Option.none : Option Jvm.ClassFile.FieldType)).before args0 about1 = true := code_word (m := ⟨11, 0⟩) (meth := k11m0) (c := k11c0) (by decide +kernel) rfl rfl rfl (by decide +kernel)
def codes1 : List Jvm.Cond := [Jvm.Cond.code x code maxLocals ret, Jvm.Cond.code ({ cls := "tertium/Tertium", name := "ofNull", desc := "()Ltertium/Tertium;" } : Jvm.MethodName) prog_1_method_3_code (0 : Nat) (Option.some (Jvm.ClassFile.FieldType.object "tertium/Tertium")), Jvm.Cond.code ({ cls := "tertium/Tertium", name := "toOptional", desc := "()Ljava/util/Optional;" } : Jvm.MethodName) prog_1_method_24_code (1 : Nat) (Option.some (Jvm.ClassFile.FieldType.object "java/util/Optional")), Jvm.Cond.code ({ cls := "java/util/Optional", name := "ofNullable", desc := "(Ljava/lang/Object;)Ljava/util/Optional;" } : Jvm.MethodName) jdk_32_method_4_code (1 : Nat) (Option.some (Jvm.ClassFile.FieldType.object "java/util/Optional")), Jvm.Cond.code ({ cls := "tertium/Tertium", name := "fromOptional", desc := "(Ljava/util/Optional;)Ltertium/Tertium;" } : Jvm.MethodName) prog_1_method_5_code (1 : Nat) (Option.some (Jvm.ClassFile.FieldType.object "tertium/Tertium")), Jvm.Cond.code ({ cls := "java/util/Objects", name := "requireNonNull", desc := "(Ljava/lang/Object;Ljava/lang/String;)Ljava/lang/Object;" } : Jvm.MethodName) jdk_31_method_11_code (2 : Nat) (Option.some (Jvm.ClassFile.FieldType.object "java/lang/Object")), Jvm.Cond.code ({ cls := "java/util/Optional", name := "isPresent", desc := "()Z" } : Jvm.MethodName) jdk_32_method_6_code (1 : Nat) (Option.some Jvm.ClassFile.FieldType.boolean), Jvm.Cond.code ({ cls := "tertium/Tertium", name := "absent", desc := "()Ltertium/Tertium;" } : Jvm.MethodName) prog_1_method_2_code (0 : Nat) (Option.some (Jvm.ClassFile.FieldType.object "tertium/Tertium")), Jvm.Cond.code ({ cls := "tertium/Tertium", name := "isAbsent", desc := "()Z" } : Jvm.MethodName) prog_1_method_9_code (1 : Nat) (Option.some Jvm.ClassFile.FieldType.boolean), Jvm.Cond.code ({ cls := "tertium/Tertium", name := "isNull", desc := "()Z" } : Jvm.MethodName) prog_1_method_11_code (1 : Nat) (Option.some Jvm.ClassFile.FieldType.boolean), Jvm.Cond.code ({ cls := "java/lang/Integer", name := "valueOf", desc := "(I)Ljava/lang/Integer;" } : Jvm.MethodName) jdk_33_method_22_code (1 : Nat) (Option.some (Jvm.ClassFile.FieldType.object "java/lang/Integer")), Jvm.Cond.code ({ cls := "tertium/Tertium", name := "of", desc := "(Ljava/lang/Object;)Ltertium/Tertium;" } : Jvm.MethodName) prog_1_method_4_code (1 : Nat) (Option.some (Jvm.ClassFile.FieldType.object "tertium/Tertium")), Jvm.Cond.code ({ cls := "tertium/Tertium", name := "<init>", desc := "(Ljava/lang/Object;)V" } : Jvm.MethodName) prog_1_method_1_code (2 : Nat) (Option.none : Option Jvm.ClassFile.FieldType), Jvm.Cond.code ({ cls := "java/lang/Object", name := "<init>", desc := "()V" } : Jvm.MethodName) object_method_1_code (1 : Nat) (Option.none : Option Jvm.ClassFile.FieldType), Jvm.Cond.code ({ cls := "java/util/Optional", name := "<init>", desc := "(Ljava/lang/Object;)V" } : Jvm.MethodName) jdk_32_method_2_code (2 : Nat) (Option.none : Option Jvm.ClassFile.FieldType), Jvm.Cond.code ({ cls := "java/util/Optional", name := "get", desc := "()Ljava/lang/Object;" } : Jvm.MethodName) jdk_32_method_5_code (1 : Nat) (Option.some (Jvm.ClassFile.FieldType.object "java/lang/Object")), Jvm.Cond.code ({ cls := "tertium/Tertium", name := "get", desc := "()Ljava/lang/Object;" } : Jvm.MethodName) prog_1_method_14_code (1 : Nat) (Option.some (Jvm.ClassFile.FieldType.object "java/lang/Object")), Jvm.Cond.code ({ cls := "java/lang/Integer", name := "intValue", desc := "()I" } : Jvm.MethodName) jdk_33_method_27_code (1 : Nat) (Option.some Jvm.ClassFile.FieldType.int), Jvm.Cond.code ({ cls := "java/lang/Integer", name := "<init>", desc := "(I)V" } : Jvm.MethodName) jdk_33_method_23_code (2 : Nat) (Option.none : Option Jvm.ClassFile.FieldType), Jvm.Cond.code ({ cls := "java/lang/Number", name := "<init>", desc := "()V" } : Jvm.MethodName) jdk_18_method_1_code (1 : Nat) (Option.none : Option Jvm.ClassFile.FieldType)]
set_option maxRecDepth 65536 in
theorem codes_eq : words1.filter isCode = codes1 := rfl
theorem w_codes : ∀ c ∈ words1.filter isCode, c.before args0 about1 = true := by
  rw [codes_eq]
  intro c hc
  simp only [codes1, List.mem_cons, List.not_mem_nil, or_false] at hc
  rcases hc with rfl | rfl | rfl | rfl | rfl | rfl | rfl | rfl | rfl | rfl | rfl | rfl | rfl | rfl | rfl | rfl | rfl | rfl | rfl | rfl
  · exact w_c0
  · exact w_c1
  · exact w_c2
  · exact w_c3
  · exact w_c4
  · exact w_c5
  · exact w_c6
  · exact w_c7
  · exact w_c8
  · exact w_c9
  · exact w_c10
  · exact w_c11
  · exact w_c12
  · exact w_c13
  · exact w_c14
  · exact w_c15
  · exact w_c16
  · exact w_c17
  · exact w_c18
  · exact w_c19
set_option maxRecDepth 65536 in
theorem w_t1 : (words1.take 24).all (fun c => isCode c || c.before args0 about1) = true := by decide +kernel
set_option maxRecDepth 65536 in
theorem w_t2 : ((words1.drop 24).take 24).all (fun c => isCode c || c.before args0 about1) = true := by decide +kernel
set_option maxRecDepth 65536 in
theorem w_t3 : (((words1.drop 24).drop 24).take 24).all (fun c => isCode c || c.before args0 about1) = true := by decide +kernel
set_option maxRecDepth 65536 in
theorem w_t4 : ((((words1.drop 24).drop 24).drop 24).take 24).all (fun c => isCode c || c.before args0 about1) = true := by decide +kernel
set_option maxRecDepth 65536 in
theorem w_t5 : ((((words1.drop 24).drop 24).drop 24).drop 24).all (fun c => isCode c || c.before args0 about1) = true := by decide +kernel
theorem w_tables : (allAtoms (Jvm.Cond.code x code maxLocals ret :: tables_1)).before args0 about1 = true := by
  rw [allAtoms_all]
  show words1.all (fun c => c.before args0 about1) = true
  refine all_split ?_ w_codes
  rw [← List.take_append_drop 24 words1, List.all_append, w_t1, ← List.take_append_drop 24 (words1.drop 24), List.all_append, w_t2, ← List.take_append_drop 24 ((words1.drop 24).drop 24), List.all_append, w_t3, ← List.take_append_drop 24 (((words1.drop 24).drop 24).drop 24), List.all_append, w_t4, w_t5]
  rfl
set_option maxRecDepth 65536 in
theorem w_rest : rest_1_c.before args0 about1 = true := by decide +kernel
set_option maxRecDepth 65536 in
theorem w_case : (Jvm.Cond.and given_1 narrow_1).before args0 about1 = true := by decide +kernel
theorem w_applies : (headSpec (Jvm.Cond.code x code maxLocals ret :: tables_1) room_1).applies x e0.platform about1 = true :=
  (Spec.applies_iff w_frames).mpr ⟨w_running, w_runnable, w_alone, w_named, w_hears, w_ripe, w_room, w_tables⟩
theorem atStart : AtStart classFile x code maxLocals ret World_1 tables_1 room_1 Calls_1 rest_1 Pre_1 launch0 p0 e0 about1 theMethod args0 below0 :=
  ⟨lists_1, trivial, launch0.admits_env _ _ _, launch0.least_env, fairChoices_fair.cas, fairChoices_fair.clock, w_frames, w_args, w_heap, w_applies, trivial, w_rest, w_case⟩
end start1
theorem witness_1 : WitnessClaimed_1 := ⟨start1.p0, start1.e0, start1.about1, start1.theMethod, start1.args0, start1.below0, start1.atStart⟩
end Jvm.Pilot.@@N@@
