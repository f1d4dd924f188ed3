import JvmDerived
import JvmDerived.Pilot.@@N@@Statement
import JvmDerived.Pilot.@@N@@Code
set_option linter.unusedVariables false
set_option linter.unusedSimpArgs false
@@BLOCK:NumsL.lean.txt@@
namespace Jvm.RoadKit
open Sem ClassFile Op Lib Jvm.Stand Jvm.Free Jvm.LawKit
section New
variable {p : Program} {l : Launch} {e : Env} {R : Room} {s : State} {m : MethodId} {args : Array Value} {below : List Frame} {meth : Method} {c : Code} {T : State} {locs : List Loc} {cells slots : Nat}
theorem retI (X : Stand p l e R s m args below meth c T locs cells slots) (hx : p.tables.exec = Jvm.exec) {pc : Nat} {Ls : Array Slot} {z : Int32} {rest : List Value} (hret : meth.sig.returnType = some .int) (hd : decode c.code pc = .ok (.ireturn, 1)) {fs : List Frame}
    (hl : ∀ (f : JFrame) (acts : List Action), f.method = m → f.locked = none → f.entered = [] → (doReturn e (T.setTop f) acts (some (.int z))).1 = T.setFrames fs) : Steps p.tables e below (T.setTop (mkF m pc Ls (.int z :: rest))) (T.setFrames fs) := by
  have hm' : T.vm.method? m = some meth := X.method'
  have hn : narrow .int (.int z) = .int z := rfl
  show Steps p.tables e below (T.setTop { method := m, pc := pc, locals := Ls, stack := _ :: rest, locked := none }) _
  jvm_step X.here [X.here.top, hx, hd, hm', hret, hn]
  first | (intro acts; rw [hl _ acts rfl rfl rfl]) | rw [hl _ _ rfl rfl rfl]
  exact Steps.refl _
end New
end Jvm.RoadKit
namespace Jvm.Pilot.@@N@@
open Jvm Jvm.ClassFile Sem Op Lib Jvm.Free Jvm.Stand Jvm.LawKit Jvm.RoadKit Bundle Jvm.Pilot.@@N@@.Jvm.D
/-! own_Goes: from S the run comes to some state of which G holds: such a goal may be split in the middle of a walk -/
def own_Goes (p : Program) (e : Env) (below : List Frame) (S : State) (G : State → Prop) : Prop := ∃ t, Steps p.tables e below S t ∧ G t
theorem own_via {p : Program} {e : Env} {below : List Frame} {S S' : State} {G : State → Prop} (f : ∀ t, Steps p.tables e below S' t → Steps p.tables e below S t) (h : own_Goes p e below S' G) : own_Goes p e below S G := by
  obtain ⟨t, h1, h2⟩ := h
  exact ⟨t, f t h1, h2⟩
theorem own_end {p : Program} {e : Env} {below : List Frame} {S t : State} {G : State → Prop} (h : Steps p.tables e below S t) (g : G t) : own_Goes p e below S G := ⟨t, h, g⟩
theorem own_out {p : Program} {e : Env} {below : List Frame} {S : State} {P : State → Outcome → Prop} (h : own_Goes p e below S (fun t => ∃ o, t.status = .running ∧ Ended t below o ∧ P t o)) : ∃ t o, Steps p.tables e below S t ∧ t.status = .running ∧ Ended t below o ∧ P t o := by
  obtain ⟨t, h1, o, h2, h3, h4⟩ := h
  exact ⟨t, o, h1, h2, h3, h4⟩
theorem wd {a0 : Array Value} {Z : State} (hw : ∀ d ∈ tables_1, d.before a0 Z = true) (i : Nat) {d : Jvm.Cond} (h : tables_1[i]? = some d) : d.before a0 Z = true := hw _ (List.mem_of_getElem? h)
theorem own_old {Z : State} {n0 : Nat} {h : Heap} (O : Old Z n0 h) : n0 ≤ h.size := by rw [← O.1]; exact O.2.1
def own_Q0 (n0 : Nat) (v : Option Value) (L : List Loc) : Prop := v = some (.int (1 : Int32)) ∧ Fr n0 L
def own_G (s : State) (below : List Frame) (n0 : Nat) (t : State) : Prop := ∃ o, t.status = .running ∧ Ended t below o ∧ ∃ v L, o = .returned v ∧ own_Q0 n0 v L ∧ ReturnedEndW s o t L room_1.cells room_1.slots
def own_Len (Z : State) (h : Heap) (a : Addr) (ty : FieldType) (n : Int32) : Prop := ∃ k vs d, Arv Z h a k ty n vs d
theorem own_len_ext {Z : State} {h h' : Heap} {a : Addr} {ty : FieldType} {n : Int32} (F : own_Len Z h a ty n) (E : Ext h h') : own_Len Z h' a ty n := by
  obtain ⟨k, vs, d, V⟩ := F
  exact ⟨k, vs, d, V.ext E⟩
theorem own_len_other {Z : State} {h h' : Heap} {a b : Addr} {sl : Nat} {v : Value} {ty : FieldType} {n : Int32} (F : own_Len Z h b ty n) (W : Wr h h' a sl v) (q : b ≠ a) : own_Len Z h' b ty n := by
  obtain ⟨k, vs, d, V⟩ := F
  exact ⟨k, vs, d, V.other W q⟩
theorem own_len_keep {Z : State} {h h' : Heap} {a : Addr} {ws : List Addr} {ty : FieldType} {n : Int32} (F : own_Len Z h a ty n) (K : Keep h h' ws) (q : a ∉ ws) : own_Len Z h' a ty n := by
  obtain ⟨k, vs, d, V⟩ := F
  exact ⟨k, vs, d, V.keep K q⟩
theorem own_len_lt {Z : State} {h : Heap} {a : Addr} {ty : FieldType} {n : Int32} (F : own_Len Z h a ty n) : a < h.size := by
  obtain ⟨k, vs, d, V⟩ := F
  exact V.lt
theorem own_c2 (x : Int32) : x.toUInt32.toUInt16.toUInt32.toInt32.toUInt32.toUInt16.toUInt32.toInt32 = x.toUInt32.toUInt16.toUInt32.toInt32 := by rw [UInt32.toUInt32_toInt32, UInt16.toUInt16_toUInt32]
theorem own_b2 (x : Int32) : x.toInt8.toInt32.toInt8.toInt32 = x.toInt8.toInt32 := by rw [Int8.toInt8_toInt32]
section Calls
variable {p : Program} {l : Launch} {e : Env} {R : Room} {s : State} {m : MethodId} {args : Array Value} {below : List Frame} {meth : Method} {c : Code} {T : State} {locs : List Loc} {cells slots : Nat} {Z : State} {a0 : Array Value} {h : Heap} {own C : String} {index : Nat} {y : MethodName} {bytes : ByteArray} {maxL : Nat} {rm : Room} {Q : Option Value → Heap → List Loc → Prop} {a : Addr} {argsL : List Value} {g : JFrame}
/-! a call by its contract, in one step: virtual (the class's own method), a constructor, static -/
theorem own_cv {ret : Option FieldType} (X : Stand p l e R s m args below meth c T locs cells slots) (hx : p.tables.exec = Jvm.exec) (hZ : Z.Warmed39 s.vm) (hown : s.vm.findClass own = some m.cls) (w1 : (Jvm.Cond.methodLink own index y).before a0 Z = true) (w2 : (Jvm.Cond.declares y).before a0 Z = true) (w3 : (Jvm.Cond.selects C y y).before a0 Z = true) (w4 : (Jvm.Cond.instanceMethod y).before a0 Z = true) (wc : (Jvm.Cond.code y bytes maxL ret).before a0 Z = true) (wz : (Jvm.Cond.initialized y.cls).before a0 Z = true) (hy : y.cls ≠ "java/lang/invoke/MethodHandle" ∧ y.cls ≠ "java/lang/invoke/VarHandle")
    (hM : MetFree l y (head1 [Jvm.Cond.code y bytes maxL ret] rm) (fun A U => A = (.ref a :: argsL).toArray ∧ Z.Warmed39 U.vm ∧ U.heap = h) (fun _ _ _ _ _ => True) (fun _ U o U' => ∃ v L, o = .returned v ∧ Q v U'.heap L ∧ FrameEnd U o U' L rm.cells rm.slots)) (eT : T.heap = h) (E : Exa Z h a C) (hg : g.method = m) (hsize : g.locals.size = c.maxLocals) {rest : List Value} {W : Nat}
    (hlen : ∀ sig, parseMethodDescriptor y.desc = some sig → argsL.length = sig.parameters.length) (hstack : g.stack = argsL.reverse ++ .ref a :: rest) (hW : 2 * g.monitorRoom + (rest.map fun v => v.category).sum ≤ W) (hdg : decode c.code g.pc = .ok (.invokevirtual index, 3)) (r1 : rm.frames + 1 ≤ R.frames) (r2 : W + (maxL + 11) + rm.locals ≤ R.locals) (r3 : cells + rm.cells ≤ R.cells) (r4 : slots + rm.slots ≤ R.slots) :
    ∃ (v : Option Value) (T' : State) (L : List Loc), Stand p l e R s m args below meth c T' (locs ++ L) (cells + rm.cells) (slots + rm.slots) ∧ Q v T'.heap L ∧ ∀ t, Steps p.tables e below (T'.setTop { g with pc := g.pc + 3, stack := v.toList ++ rest }) t → Steps p.tables e below (T.setTop g) t := by
  obtain ⟨cq, kq, qa, -, qc⟩ := isOf hZ eT E
  obtain ⟨v, _, ⟨T', L', c', n'⟩, -, X', ⟨Lc, hQ, l1, y1, z1⟩, st⟩ := X.virtualBack hx (y := y) (z := y) hown (mvT hZ w1) (mvT hZ w2) (notFace_of_selects (args := #[]) (mvT hZ w3)) (mvT hZ w3) (mvT hZ w4) hy (backOf (W := W) hM hZ wc wz r1 r2) qa qc (g := g) hg hsize (Steps.refl _) (argsL := argsL) (rest := rest) hlen hstack hW hdg (fun _ _ => ⟨rfl, eT, r3, r4⟩)
  dsimp only [Pt.U, Pt.locs, Pt.cells, Pt.slots] at X' l1 y1 z1 st hQ
  subst l1 y1 z1
  exact ⟨v, T', Lc, X', hQ, fun t k => st.trans k⟩
theorem own_ci (X : Stand p l e R s m args below meth c T locs cells slots) (hx : p.tables.exec = Jvm.exec) (hZ : Z.Warmed39 s.vm) (hown : s.vm.findClass own = some m.cls) (w1 : (Jvm.Cond.methodLink own index y).before a0 Z = true) (w4 : (Jvm.Cond.instanceMethod y).before a0 Z = true) (wc : (Jvm.Cond.code y bytes maxL none).before a0 Z = true) (wz : (Jvm.Cond.initialized y.cls).before a0 Z = true) (hi : y.name = "<init>") (hy : y.cls ≠ "java/lang/invoke/MethodHandle" ∧ y.cls ≠ "java/lang/invoke/VarHandle")
    (hM : MetFree l y (head1 [Jvm.Cond.code y bytes maxL none] rm) (fun A U => A = (.ref a :: argsL).toArray ∧ Z.Warmed39 U.vm ∧ U.heap = h) (fun _ _ _ _ _ => True) (fun _ U o U' => ∃ v L, o = .returned v ∧ Q v U'.heap L ∧ FrameEnd U o U' L rm.cells rm.slots)) (eT : T.heap = h) (hg : g.method = m) (hsize : g.locals.size = c.maxLocals) {rest : List Value} {W : Nat}
    (hlen : ∀ sig, parseMethodDescriptor y.desc = some sig → argsL.length = sig.parameters.length) (hstack : g.stack = argsL.reverse ++ .ref a :: rest) (hW : 2 * g.monitorRoom + (rest.map fun v => v.category).sum ≤ W) (hdg : decode c.code g.pc = .ok (.invokespecial index, 3)) (r1 : rm.frames + 1 ≤ R.frames) (r2 : W + (maxL + 11) + rm.locals ≤ R.locals) (r3 : cells + rm.cells ≤ R.cells) (r4 : slots + rm.slots ≤ R.slots) :
    ∃ (v : Option Value) (T' : State) (L : List Loc), Stand p l e R s m args below meth c T' (locs ++ L) (cells + rm.cells) (slots + rm.slots) ∧ Q v T'.heap L ∧ ∀ t, Steps p.tables e below (T'.setTop { g with pc := g.pc + 3, stack := v.toList ++ rest }) t → Steps p.tables e below (T.setTop g) t := by
  obtain ⟨v, _, ⟨T', L', c', n'⟩, -, X', ⟨Lc, hQ, l1, y1, z1⟩, st⟩ := X.specialBack hx (y := y) hi hown (mvT hZ w1) (mvT hZ w4) (mvT hZ wc) hy (backOf (W := W) hM hZ wc wz r1 r2) (g := g) hg hsize (Steps.refl _) (a := a) (argsL := argsL) (rest := rest) hlen hstack hW hdg (fun _ _ => ⟨rfl, eT, r3, r4⟩)
  dsimp only [Pt.U, Pt.locs, Pt.cells, Pt.slots] at X' l1 y1 z1 st hQ
  subst l1 y1 z1
  exact ⟨v, T', Lc, X', hQ, fun t k => st.trans k⟩
theorem own_cs {ret : Option FieldType} (X : Stand p l e R s m args below meth c T locs cells slots) (hx : p.tables.exec = Jvm.exec) (hZ : Z.Warmed39 s.vm) (hown : s.vm.findClass own = some m.cls) (w1 : (Jvm.Cond.methodLink own index y).before a0 Z = true) (w4 : (Jvm.Cond.static y).before a0 Z = true) (wc : (Jvm.Cond.code y bytes maxL ret).before a0 Z = true) (wz : (Jvm.Cond.initialized y.cls).before a0 Z = true) (hy : y.cls ≠ "java/lang/invoke/MethodHandle" ∧ y.cls ≠ "java/lang/invoke/VarHandle")
    (hM : MetFree l y (head1 [Jvm.Cond.code y bytes maxL ret] rm) (fun A U => A = argsL.toArray ∧ Z.Warmed39 U.vm ∧ U.heap = h) (fun _ _ _ _ _ => True) (fun _ U o U' => ∃ v L, o = .returned v ∧ Q v U'.heap L ∧ FrameEnd U o U' L rm.cells rm.slots)) (eT : T.heap = h) (hg : g.method = m) (hsize : g.locals.size = c.maxLocals) {rest : List Value} {W : Nat}
    (hlen : ∀ sig, parseMethodDescriptor y.desc = some sig → argsL.length = sig.parameters.length) (hstack : g.stack = argsL.reverse ++ rest) (hW : 2 * g.monitorRoom + (rest.map fun v => v.category).sum ≤ W) (hdg : decode c.code g.pc = .ok (.invokestatic index, 3)) (r1 : rm.frames + 1 ≤ R.frames) (r2 : W + (maxL + 11) + rm.locals ≤ R.locals) (r3 : cells + rm.cells ≤ R.cells) (r4 : slots + rm.slots ≤ R.slots) :
    ∃ (v : Option Value) (T' : State) (L : List Loc), Stand p l e R s m args below meth c T' (locs ++ L) (cells + rm.cells) (slots + rm.slots) ∧ Q v T'.heap L ∧ ∀ t, Steps p.tables e below (T'.setTop { g with pc := g.pc + 3, stack := v.toList ++ rest }) t → Steps p.tables e below (T.setTop g) t := by
  obtain ⟨v, _, ⟨T', L', c', n'⟩, -, X', ⟨Lc, hQ, l1, y1, z1⟩, st⟩ := Jvm.LawKit.callS X hx (y := y) hown (mvT hZ w1) (mvT hZ w4) (mvT hZ wz) (mvT hZ wc) hy (backOf (W := W) hM hZ wc wz r1 r2) (g := g) hg hsize (argsL := argsL) (rest := rest) hlen hstack hW hdg (fun _ _ => ⟨rfl, eT, r3, r4⟩)
  dsimp only [Pt.U, Pt.locs, Pt.cells, Pt.slots] at X' l1 y1 z1 st hQ
  subst l1 y1 z1
  exact ⟨v, T', Lc, X', hQ, st⟩
theorem own_rmono {s t : State} {o : Outcome} {L : List Loc} {k n k' n' : Nat} (h : ReturnedEndW s o t L k n) (hk : k ≤ k') (hn : n ≤ n') : ReturnedEndW s o t L k' n' := ⟨h.1, h.2.1, h.2.2.1, h.2.2.2.mono hk hn⟩
theorem own_cvS {vm0 : Vm} {k0 : Nat} {ret : Option FieldType} (X : Stand p l e R (s.setVm vm0) m args below meth c T locs cells slots) (hx : p.tables.exec = Jvm.exec) (hZ : Z.Warmed39 (s.setVm vm0).vm) (hS : s.Since vm0 k0) (hk : k0 ≤ h.size) (hown : (s.setVm vm0).vm.findClass own = some m.cls) (w1 : (Jvm.Cond.methodLink own index y).before a0 Z = true) (w2 : (Jvm.Cond.declares y).before a0 Z = true) (w3 : (Jvm.Cond.selects C y y).before a0 Z = true) (w4 : (Jvm.Cond.instanceMethod y).before a0 Z = true) (wc : (Jvm.Cond.code y bytes maxL ret).before a0 Z = true) (wz : (Jvm.Cond.initialized y.cls).before a0 Z = true) (hy : y.cls ≠ "java/lang/invoke/MethodHandle" ∧ y.cls ≠ "java/lang/invoke/VarHandle")
    (hM : MetFree l y (head1 [Jvm.Cond.code y bytes maxL ret] rm) (fun A U => A = (.ref a :: argsL).toArray ∧ Z.Warmed39 U.vm ∧ U.heap = h) (fun _ _ _ _ _ => True) (fun _ U o U' => ∃ v L, o = .returned v ∧ Q v U'.heap L ∧ ReturnedEndW U o U' L rm.cells rm.slots)) (eT : T.heap = h) (E : Exa Z h a C) (hg : g.method = m) (hsize : g.locals.size = c.maxLocals) {rest : List Value} {W : Nat}
    (hlen : ∀ sig, parseMethodDescriptor y.desc = some sig → argsL.length = sig.parameters.length) (hstack : g.stack = argsL.reverse ++ .ref a :: rest) (hW : 2 * g.monitorRoom + (rest.map fun v => v.category).sum ≤ W) (hdg : decode c.code g.pc = .ok (.invokevirtual index, 3)) (r1 : rm.frames + 1 ≤ R.frames) (r2 : W + (maxL + 11) + rm.locals ≤ R.locals) (r3 : cells + rm.cells ≤ R.cells) (r4 : slots + rm.slots ≤ R.slots) :
    ∃ (v : Option Value) (T' : State) (L : List Loc), Stand p l e R (s.setVm T'.vm) m args below meth c T' (locs ++ L) (cells + rm.cells) (slots + rm.slots) ∧ Q v T'.heap L ∧ s.Since T'.vm T'.heap.size ∧ Z.Warmed39 (s.setVm T'.vm).vm ∧ (s.setVm T'.vm).vm.findClass own = some m.cls ∧ ∀ t, Steps p.tables e below (T'.setTop { g with pc := g.pc + 3, stack := v.toList ++ rest }) t → Steps p.tables e below (T.setTop g) t := by
  obtain ⟨cq, kq, qa, -, qc⟩ := isOf hZ eT E
  obtain ⟨v, _, ⟨T', L', c', n'⟩, -, X', h2, gg, ⟨Lc, hQ, l1, y1, z1⟩, st⟩ := X.virtualBackS hx (y := y) (z := y) hown (mvT hZ w1) (mvT hZ w2) (notFace_of_selects (args := #[]) (mvT hZ w3)) (mvT hZ w3) (mvT hZ w4) hy (backOfS (W := W) hM hZ wc wz r1 r2) qa qc (g := g) hg hsize (Steps.refl _) (argsL := argsL) (rest := rest) hlen hstack hW hdg (fun _ _ => ⟨rfl, eT, r3, r4⟩)
  dsimp only [Pt.U, Pt.locs, Pt.cells, Pt.slots] at X' l1 y1 z1 st hQ h2 gg
  subst l1 y1 z1
  obtain ⟨X2, S2, Z2, o2⟩ := rebS hS (by rw [eT]; exact hk) X' h2 gg hZ hown
  exact ⟨v, T', Lc, X2, hQ, S2, Z2, o2, fun t k => st.trans k⟩
theorem own_ciS {vm0 : Vm} {k0 : Nat} (X : Stand p l e R (s.setVm vm0) m args below meth c T locs cells slots) (hx : p.tables.exec = Jvm.exec) (hZ : Z.Warmed39 (s.setVm vm0).vm) (hS : s.Since vm0 k0) (hk : k0 ≤ h.size) (hown : (s.setVm vm0).vm.findClass own = some m.cls) (w1 : (Jvm.Cond.methodLink own index y).before a0 Z = true) (w4 : (Jvm.Cond.instanceMethod y).before a0 Z = true) (wc : (Jvm.Cond.code y bytes maxL none).before a0 Z = true) (wz : (Jvm.Cond.initialized y.cls).before a0 Z = true) (hi : y.name = "<init>") (hy : y.cls ≠ "java/lang/invoke/MethodHandle" ∧ y.cls ≠ "java/lang/invoke/VarHandle")
    (hM : MetFree l y (head1 [Jvm.Cond.code y bytes maxL none] rm) (fun A U => A = (.ref a :: argsL).toArray ∧ Z.Warmed39 U.vm ∧ U.heap = h) (fun _ _ _ _ _ => True) (fun _ U o U' => ∃ v L, o = .returned v ∧ Q v U'.heap L ∧ ReturnedEndW U o U' L rm.cells rm.slots)) (eT : T.heap = h) (hg : g.method = m) (hsize : g.locals.size = c.maxLocals) {rest : List Value} {W : Nat}
    (hlen : ∀ sig, parseMethodDescriptor y.desc = some sig → argsL.length = sig.parameters.length) (hstack : g.stack = argsL.reverse ++ .ref a :: rest) (hW : 2 * g.monitorRoom + (rest.map fun v => v.category).sum ≤ W) (hdg : decode c.code g.pc = .ok (.invokespecial index, 3)) (r1 : rm.frames + 1 ≤ R.frames) (r2 : W + (maxL + 11) + rm.locals ≤ R.locals) (r3 : cells + rm.cells ≤ R.cells) (r4 : slots + rm.slots ≤ R.slots) :
    ∃ (v : Option Value) (T' : State) (L : List Loc), Stand p l e R (s.setVm T'.vm) m args below meth c T' (locs ++ L) (cells + rm.cells) (slots + rm.slots) ∧ Q v T'.heap L ∧ s.Since T'.vm T'.heap.size ∧ Z.Warmed39 (s.setVm T'.vm).vm ∧ (s.setVm T'.vm).vm.findClass own = some m.cls ∧ ∀ t, Steps p.tables e below (T'.setTop { g with pc := g.pc + 3, stack := v.toList ++ rest }) t → Steps p.tables e below (T.setTop g) t := by
  obtain ⟨v, _, ⟨T', L', c', n'⟩, -, X', h2, gg, ⟨Lc, hQ, l1, y1, z1⟩, st⟩ := X.specialBackS hx (y := y) hi hown (mvT hZ w1) (mvT hZ w4) (mvT hZ wc) hy (backOfS (W := W) hM hZ wc wz r1 r2) (g := g) hg hsize (Steps.refl _) (a := a) (argsL := argsL) (rest := rest) hlen hstack hW hdg (fun _ _ => ⟨rfl, eT, r3, r4⟩)
  dsimp only [Pt.U, Pt.locs, Pt.cells, Pt.slots] at X' l1 y1 z1 st hQ h2 gg
  subst l1 y1 z1
  obtain ⟨X2, S2, Z2, o2⟩ := rebS hS (by rw [eT]; exact hk) X' h2 gg hZ hown
  exact ⟨v, T', Lc, X2, hQ, S2, Z2, o2, fun t k => st.trans k⟩
theorem own_csS {vm0 : Vm} {k0 : Nat} {ret : Option FieldType} (X : Stand p l e R (s.setVm vm0) m args below meth c T locs cells slots) (hx : p.tables.exec = Jvm.exec) (hZ : Z.Warmed39 (s.setVm vm0).vm) (hS : s.Since vm0 k0) (hk : k0 ≤ h.size) (hown : (s.setVm vm0).vm.findClass own = some m.cls) (w1 : (Jvm.Cond.methodLink own index y).before a0 Z = true) (w4 : (Jvm.Cond.static y).before a0 Z = true) (wc : (Jvm.Cond.code y bytes maxL ret).before a0 Z = true) (wz : (Jvm.Cond.initialized y.cls).before a0 Z = true) (hy : y.cls ≠ "java/lang/invoke/MethodHandle" ∧ y.cls ≠ "java/lang/invoke/VarHandle")
    (hM : MetFree l y (head1 [Jvm.Cond.code y bytes maxL ret] rm) (fun A U => A = argsL.toArray ∧ Z.Warmed39 U.vm ∧ U.heap = h) (fun _ _ _ _ _ => True) (fun _ U o U' => ∃ v L, o = .returned v ∧ Q v U'.heap L ∧ ReturnedEndW U o U' L rm.cells rm.slots)) (eT : T.heap = h) (hg : g.method = m) (hsize : g.locals.size = c.maxLocals) {rest : List Value} {W : Nat}
    (hlen : ∀ sig, parseMethodDescriptor y.desc = some sig → argsL.length = sig.parameters.length) (hstack : g.stack = argsL.reverse ++ rest) (hW : 2 * g.monitorRoom + (rest.map fun v => v.category).sum ≤ W) (hdg : decode c.code g.pc = .ok (.invokestatic index, 3)) (r1 : rm.frames + 1 ≤ R.frames) (r2 : W + (maxL + 11) + rm.locals ≤ R.locals) (r3 : cells + rm.cells ≤ R.cells) (r4 : slots + rm.slots ≤ R.slots) :
    ∃ (v : Option Value) (T' : State) (L : List Loc), Stand p l e R (s.setVm T'.vm) m args below meth c T' (locs ++ L) (cells + rm.cells) (slots + rm.slots) ∧ Q v T'.heap L ∧ s.Since T'.vm T'.heap.size ∧ Z.Warmed39 (s.setVm T'.vm).vm ∧ (s.setVm T'.vm).vm.findClass own = some m.cls ∧ ∀ t, Steps p.tables e below (T'.setTop { g with pc := g.pc + 3, stack := v.toList ++ rest }) t → Steps p.tables e below (T.setTop g) t := by
  obtain ⟨v, _, ⟨T', L', c', n'⟩, -, X', h2, gg, ⟨Lc, hQ, l1, y1, z1⟩, st⟩ := callSS X hx (y := y) hown (mvT hZ w1) (mvT hZ w4) (mvT hZ wz) (mvT hZ wc) hy (backOfS (W := W) hM hZ wc wz r1 r2) (g := g) hg hsize (argsL := argsL) (rest := rest) hlen hstack hW hdg (fun _ _ => ⟨rfl, eT, r3, r4⟩)
  dsimp only [Pt.U, Pt.locs, Pt.cells, Pt.slots] at X' l1 y1 z1 st hQ h2 gg
  subst l1 y1 z1
  obtain ⟨X2, S2, Z2, o2⟩ := rebS hS (by rw [eT]; exact hk) X' h2 gg hZ hown
  exact ⟨v, T', Lc, X2, hQ, S2, Z2, o2, fun t k => st.trans k⟩
end Calls
theorem own_eq_ref {args : Array Value} {s : State} {a b : Term} {w : Addr} (h : (Jvm.Cond.eq a b).value args s none s [] = some true) (hb : b.eval args s none [] s = some (.ref w)) : a.eval args s none [] s = some (.ref w) := by
  obtain ⟨x, y, e1, e2, k1, k2⟩ := cmp_v (Or.inl h)
  rw [hb] at e2
  cases e2
  have hx : x.isRef = true := by cases x <;> simp_all [Kin, Value.isRef]
  have q := gotT (eq_R e1 hb hx rfl) h
  rw [e1, q]
theorem own_ne_ref {args : Array Value} {s : State} {a b : Term} {u w : Addr} (h : (Jvm.Cond.not (Jvm.Cond.eq a b)).value args s none s [] = some true) (ha : a.eval args s none [] s = some (.ref u)) (hb : b.eval args s none [] s = some (.ref w)) : u ≠ w := fun q => gotF (eq_R ha hb rfl rfl) (not_v h) (by rw [q])
theorem own_nn_mask (x m : Int32) (k : Nat) (hk : k < 32) (hm : m.toBitVec.toNat = 2 ^ k - 1) : ¬ ((x &&& m) < (0 : Int32)) := by
  rw [Int32.lt_iff_toInt_lt, Jvm.Kit.i32_mask x m hk hm]
  have h := Int.emod_nonneg x.toInt (show ((2 : Int) ^ k) ≠ 0 from Int.ne_of_gt (Int.pow_pos (by decide)))
  rw [Int32.toInt_zero]
  omega
theorem own_lt_mask (x m : Int32) (k : Nat) (hk : k < 32) (hm : m.toBitVec.toNat = 2 ^ k - 1) {n : Int32} (hn : n.toInt = 2 ^ k) : (x &&& m) < n := by
  rw [Int32.lt_iff_toInt_lt, Jvm.Kit.i32_mask x m hk hm, hn]
  exact Int.emod_lt_of_pos _ (Int.pow_pos (by decide))
theorem own_nn_rem {x : Int32} (n : Int32) (h : ¬ (x < (0 : Int32))) : ¬ (x % n < (0 : Int32)) := by
  rw [Int32.lt_iff_toInt_lt, Int32.toInt_zero] at h ⊢
  rw [Int32.toInt_mod]
  have := Int.tmod_nonneg n.toInt (show 0 ≤ x.toInt by omega)
  omega
theorem own_pos {n : Int32} (h : (0 : Int32) < n) : 0 < n.toInt := by
  rw [Int32.lt_iff_toInt_lt, Int32.toInt_zero] at h
  exact h
theorem own_ne0 {n : Int32} (h : (0 : Int32) < n) : n ≠ 0 := fun q => by
  rw [q] at h
  exact absurd h (by decide)
theorem own_lt_rem {x : Int32} (n : Int32) (h : ¬ (x < (0 : Int32))) (hn : 0 < n.toInt) : x % n < n := by
  rw [Int32.lt_iff_toInt_lt] at h ⊢
  rw [Int32.toInt_zero] at h
  rw [Jvm.Kit.i32_rem_nonneg (by omega)]
  exact Int.emod_lt_of_pos _ hn
theorem own_modlo (x n : Int32) (hn : 0 < n.toInt) : 0 ≤ ((x &&& (2147483647 : Int32)) % n).toInt := by
  have a := Jvm.Kit.i32_mask x 2147483647 (k := 31) (by decide) (by decide)
  rw [Jvm.Kit.i32_rem_nonneg (by omega)]
  exact Int.emod_nonneg _ (by omega)
theorem own_modhi (x n : Int32) (hn : 0 < n.toInt) : ((x &&& (2147483647 : Int32)) % n).toInt < n.toInt := by
  have a := Jvm.Kit.i32_mask x 2147483647 (k := 31) (by decide) (by decide)
  rw [Jvm.Kit.i32_rem_nonneg (by omega)]
  exact Int.emod_lt_of_pos _ hn
theorem own_ci1 {x : Int32} (h : ¬ (x < (-128 : Int32))) (h2 : ¬ ((127 : Int32) < x)) : ¬ ((x + (128 : Int32)) < (0 : Int32)) ∧ (x + (128 : Int32)) < (256 : Int32) := by
  rw [Int32.lt_iff_toInt_lt] at h h2
  have a : (-128 : Int32).toInt = -128 := by decide
  have b : (127 : Int32).toInt = 127 := by decide
  have c : (128 : Int32).toInt = 128 := by decide
  have d : (256 : Int32).toInt = 256 := by decide
  have s := Jvm.Kit.i32_add (p := x) (q := 128) (by omega) (by omega)
  rw [Int32.lt_iff_toInt_lt, Int32.lt_iff_toInt_lt, Int32.toInt_zero, s]
  omega

abbrev zs1 : String := "tertium/Tertium"
abbrev zs2 : String := "java/util/Optional"
abbrev zs3 : String := "Ljava/lang/Object;"
abbrev zs4 : String := "java/lang/Integer"
abbrev zs5 : String := "java/lang/Object"
abbrev zs6 : String := "Ltertium/Tertium;"
abbrev zs7 : String := "(Ljava/lang/Object;)Ljava/lang/Object;"
abbrev zs8 : String := "(Ljava/lang/Object;Ljava/lang/String;)Ljava/lang/Object;"
abbrev zs9 : String := "java/util/Objects"
abbrev zs10 : String := "(Ljava/util/Optional;)Ltertium/Tertium;"
abbrev zs11 : String := "(Ljava/lang/Object;)Ltertium/Tertium;"
abbrev zs12 : String := "()Ljava/util/Optional;"
abbrev zs13 : String := "(Ljava/lang/Object;)Ljava/util/Optional;"
abbrev zs14 : String := "(Ljava/lang/Object;)V"
abbrev zs15 : String := "()Ljava/lang/Object;"
abbrev zs16 : String := "java/lang/Integer$IntegerCache"
abbrev zs17 : String := "requireNonNull"
abbrev zs18 : String := "fromNestedOptional"
abbrev zs19 : String := "Ljava/util/Optional;"
abbrev zs20 : String := "toNestedOptional"
abbrev zs21 : String := "()Ltertium/Tertium;"
abbrev zs22 : String := "java/lang/Number"
abbrev zs23 : String := "[Ljava/lang/Integer;"
theorem own_initFor {args : Array Value} {s : State} {C n d n' d' : String} (l1 : (Jvm.Cond.laysStatic C n d).before args s = true) (i1 : (Jvm.Cond.initializedFor C n d).before args s = true) (l2 : (Jvm.Cond.laysStatic C n' d').before args s = true) : (Jvm.Cond.initializedFor C n' d').before args s = true := by
  obtain ⟨c, k, i, f, _, _, q1, q2, -⟩ := Cond.laysStatic_spec l1
  obtain ⟨c', k', i', f', _, _, r1, r2, -⟩ := Cond.laysStatic_spec l2
  cases q1.symm.trans r1
  cases (State.fieldFound?_class q2).symm.trans (State.fieldFound?_class r2)
  have q := Cond.initializedFor_spec q2 i1
  simp [Cond.before, Cond.holds, Cond.value, r2, q]
theorem own_len31 {args : Array Value} {s : State} {t : Term} {a : Addr} {c : Cell} {ty : FieldType} {n : Int32} (ev : t.eval args s none [] s = some (.ref a)) (A : Arr s s.heap a c ty) (h : (Jvm.Cond.eq (.length t) (.int n)).value args s none s [] = some true) : c.slots.size < 2 ^ 31 ∧ c.slots.size.toInt32 = n := by
  have hl := Cond.eq_int (show (Jvm.Cond.eq (.length t) (.int n)).holds args s none s [] = true from Cond.before_iff.mpr h) rfl
  have hA : s.arrayAt? a = some c := Arr.fin (Vm.Alike.refl _) A
  have h31 := SBG.length_lt ev hA hl
  have e := len_f ev hA h31
  exact ⟨h31, by simpa using Option.some.inj (e.symm.trans hl)⟩
theorem own_sub_at {args : Array Value} {first s : State} {o : Option Outcome} {idx : List Nat} {a : Term} {x n : Int32} (h : a.eval args first o idx s = some (.int x)) : (Term.sub a (.int n)).eval args first o idx s = some (.int (x - n)) := by simp [Term.eval, h]
theorem d1_0 : decode prog_1_method_2_code 0 = .ok (.getstatic 13, 3) := by decide +kernel
theorem d1_3 : decode prog_1_method_2_code 3 = .ok (.areturn, 1) := by decide +kernel
theorem ef_1 (m : MethodId)  : entryFrame m #[] 0 = mkF m 0 #[] [] := by first | (simp [entryFrame, mkF, argsToLocals, Value.category]; done) | rfl
theorem pn_1 : plainName "tertium/Tertium" = true := by first | (simp [plainName, overriddenIn]; done) | decide +kernel
def Q1 (Z : State) (w21 : Addr) (h0 : Heap) (n0 : Nat) (v : Option Value) (h : Heap) (L : List Loc) : Prop := v = some (.ref w21) ∧ Fr n0 L ∧ h = h0
set_option maxRecDepth 65536 in
set_option maxHeartbeats 40000000 in
theorem rm1 (l : Launch) (Z : State) (a0 : Array Value) (hw : ∀ d ∈ tables_1, d.before a0 Z = true) (ws : List Jvm.Cond) (w21 : Addr) (h0 : Heap) (n0 : Nat) (O0 : Old Z n0 h0) (S_Tertium_ABSENT : Sta Z Z.heap zs1 "ABSENT" zs6 (.ref w21)) :
    MetFree l (⟨zs1, "absent", zs21⟩ : MethodName) (head1 (Jvm.Cond.code (⟨zs1, "absent", zs21⟩ : MethodName) prog_1_method_2_code 0 (some (.object zs1)) :: ws) ({ frames := 0, cells := 0, slots := 0, locals := 0 } : Room)) (fun a U => a = #[] ∧ Z.Warmed39 U.vm ∧ U.heap = h0) (fun _ _ _ _ _ => True) (fun _ U o U' => ∃ v L, o = .returned v ∧ Q1 Z w21 h0 n0 v U'.heap L ∧ ReturnedEndW U o U' L ({ frames := 0, cells := 0, slots := 0, locals := 0 } : Room).cells ({ frames := 0, cells := 0, slots := 0, locals := 0 } : Room).slots) := by
  refine MetFree.of_bodySF (plainFor_of_name pn_1) hisR ?_
  intro p e s m args below meth c s₁ Bd hml0 hP hK
  obtain ⟨rfl, hZ, hh⟩ := hP
  have hx := Bd.exec
  have hby := Bd.bytes
  have hml : c.maxLocals = 0 := hml0
  have hown : s.vm.findClass zs1 = some m.cls := findClass_of_methodNamed Bd.named
  have hnm := (name_of_methodNamed Bd.named Bd.method).1
  have X0 : Stand p l e ({ frames := 0, cells := 0, slots := 0, locals := 0 } : Room) (s.setVm s.vm) m #[] below meth c s₁ [] 0 0 := Stand.of_body Bd
  have hS : s.Since s.vm 0 := (State.WarmedH.refl s).since 0
  obtain ⟨k0, hk0, hS⟩ : ∃ k0, k0 ≤ h0.size ∧ s.Since s.vm k0 := ⟨0, Nat.zero_le _, hS⟩
  have hZ : Z.Warmed39 (s.setVm s.vm).vm := hZ
  have hown : (s.setVm s.vm).vm.findClass zs1 = some m.cls := hown
  have e0 : s₁.heap = h0 := by rw [← hh, Bd.state]; rfl
  have N0 := Fr.nil n0
  refine own_out ?_
  refine own_via (fun t k => castTop (ef_1 m ) k) ?_
  obtain ⟨T42, X42, e42, st42⟩ := getS2 X0 hx hZ hown (host := "") (Or.inl (wd hw 5 rfl)) Via.refl e0 (S_Tertium_ABSENT.ext O0.2) (g := (mkF m 0 #[] [])) rfl (hb hby d1_0)
  refine own_via (fun t k => st42 t k) ?_
  obtain ⟨fs, hr, hrun, hended, hRW⟩ := X42.leaveW hS (by rw [e42]; first | exact hk0 | exact Nat.le_refl _) (v := some (.ref w21)) (fun h => by rw [Bd.returns] at h; cases h)
  refine own_end (t := T42.setFrames fs) ?_ ⟨_, hrun, hended, _, _, rfl, ?_, own_rmono hRW (by decide) (by decide)⟩
  · jvm_step X42.here [X42.here.top, hx, (hb hby d1_3), X42.method', Bd.returns, Value.isRef, FieldType.isReference]
    first | (intro acts; rw [hr _ acts rfl rfl rfl]) | rw [hr _ _ rfl rfl rfl]
    exact Steps.refl _
  · show Q1 Z w21 h0 n0 _ T42.heap _
    rw [e42]
    exact ⟨rfl, N0, rfl⟩
theorem pd_1 : parseMethodDescriptor "()Ltertium/Tertium;" = some ⟨[], some (.object "tertium/Tertium")⟩ := by decide +kernel
theorem d2_0 : decode prog_1_method_25_code 0 = .ok (.aload_n 0, 1) := by decide +kernel
theorem d2_1 : decode prog_1_method_25_code 1 = .ok (.invokevirtual 70, 3) := by decide +kernel
theorem d3_0 : decode prog_1_method_9_code 0 = .ok (.aload_n 0, 1) := by decide +kernel
theorem d3_1 : decode prog_1_method_9_code 1 = .ok (.getstatic 13, 3) := by decide +kernel
theorem d3_4 : decode prog_1_method_9_code 4 = .ok (.if_acmp .ne 7, 3) := by decide +kernel
theorem d3_7 : decode prog_1_method_9_code 7 = .ok (.iconst 1, 1) := by decide +kernel
theorem d3_8 : decode prog_1_method_9_code 8 = .ok (.goto 4, 3) := by decide +kernel
theorem d3_12 : decode prog_1_method_9_code 12 = .ok (.ireturn, 1) := by decide +kernel
theorem ef_2 (m : MethodId) (x0 : Addr) : entryFrame m #[(.ref x0)] 1 = mkF m 0 #[rv x0] [] := by first | (simp [entryFrame, mkF, argsToLocals, Value.category]; done) | rfl
def Q2 (Z : State) (w21 : Addr) (h0 : Heap) (n0 : Nat) (v : Option Value) (h : Heap) (L : List Loc) : Prop := v = some (.int (1 : Int32)) ∧ Fr n0 L ∧ h = h0
set_option maxRecDepth 65536 in
set_option maxHeartbeats 40000000 in
theorem rm2 (l : Launch) (Z : State) (a0 : Array Value) (hw : ∀ d ∈ tables_1, d.before a0 Z = true) (ws : List Jvm.Cond) (w21 : Addr) (h0 : Heap) (n0 : Nat) (O0 : Old Z n0 h0) (S_Tertium_ABSENT : Sta Z Z.heap zs1 "ABSENT" zs6 (.ref w21)) :
    MetFree l (⟨zs1, "isAbsent", "()Z"⟩ : MethodName) (head1 (Jvm.Cond.code (⟨zs1, "isAbsent", "()Z"⟩ : MethodName) prog_1_method_9_code 1 (some .boolean) :: ws) ({ frames := 0, cells := 0, slots := 0, locals := 0 } : Room)) (fun a U => a = #[(.ref w21)] ∧ Z.Warmed39 U.vm ∧ U.heap = h0) (fun _ _ _ _ _ => True) (fun _ U o U' => ∃ v L, o = .returned v ∧ Q2 Z w21 h0 n0 v U'.heap L ∧ ReturnedEndW U o U' L ({ frames := 0, cells := 0, slots := 0, locals := 0 } : Room).cells ({ frames := 0, cells := 0, slots := 0, locals := 0 } : Room).slots) := by
  refine MetFree.of_bodySF (plainFor_of_name pn_1) hisR ?_
  intro p e s m args below meth c s₁ Bd hml0 hP hK
  obtain ⟨rfl, hZ, hh⟩ := hP
  have hx := Bd.exec
  have hby := Bd.bytes
  have hml : c.maxLocals = 1 := hml0
  have hown : s.vm.findClass zs1 = some m.cls := findClass_of_methodNamed Bd.named
  have hnm := (name_of_methodNamed Bd.named Bd.method).1
  have X0 : Stand p l e ({ frames := 0, cells := 0, slots := 0, locals := 0 } : Room) (s.setVm s.vm) m #[(.ref w21)] below meth c s₁ [] 0 0 := Stand.of_body Bd
  have hS : s.Since s.vm 0 := (State.WarmedH.refl s).since 0
  obtain ⟨k0, hk0, hS⟩ : ∃ k0, k0 ≤ h0.size ∧ s.Since s.vm k0 := ⟨0, Nat.zero_le _, hS⟩
  have hZ : Z.Warmed39 (s.setVm s.vm).vm := hZ
  have hown : (s.setVm s.vm).vm.findClass zs1 = some m.cls := hown
  have e0 : s₁.heap = h0 := by rw [← hh, Bd.state]; rfl
  have N0 := Fr.nil n0
  refine own_out ?_
  refine own_via (fun t k => castTop (ef_2 m w21) (XS.aloadN X0.here hx rfl (hb hby d3_0) rfl rfl k)) ?_
  obtain ⟨T57, X57, e57, st57⟩ := getS2 X0 hx hZ hown (host := "") (Or.inl (wd hw 5 rfl)) Via.refl e0 (S_Tertium_ABSENT.ext O0.2) (g := (mkF m 1 #[rv w21] [(.ref w21)])) rfl (hb hby d3_1)
  refine own_via (fun t k => st57 t (Jvm.RoadKit.acmp (g := (mkF m 4 #[rv w21] [(.ref w21), (.ref w21)])) X57 hx rfl rfl rfl (pc0 := 4) (pc' := 7) (same := true) rfl (hb hby d3_4) rfl (decide_eq_true rfl) (by decide) (by decide) (XS.iconst X57.here hx rfl (hb hby d3_7) (XS.goto X57.here hx rfl (pc0 := 8) (pc' := 12) rfl (hb hby d3_8) (by decide) (by decide) k)))) ?_
  show own_Goes p e below (T57.setTop (mkF m 12 #[rv w21] [(.int (1 : Int32))])) _
  obtain ⟨fs, hr, hrun, hended, hRW⟩ := X57.leaveW hS (by rw [e57]; first | exact hk0 | exact Nat.le_refl _) (v := some (.int (1 : Int32))) (fun h => by rw [Bd.returns] at h; cases h)
  refine own_end (t := T57.setFrames fs) ?_ ⟨_, hrun, hended, _, _, rfl, ?_, own_rmono hRW (by decide) (by decide)⟩
  · exact retN X57 hx (t := .boolean) Bd.returns (by simp) (hb hby d3_12) hr
  · show Q2 Z w21 h0 n0 _ T57.heap _
    rw [e57]
    exact ⟨rfl, N0, rfl⟩
theorem pd_2 : parseMethodDescriptor "()Z" = some ⟨[], some .boolean⟩ := by decide +kernel
theorem d2_4 : decode prog_1_method_25_code 4 = .ok (.ifCond .eq 7, 3) := by decide +kernel
theorem d2_7 : decode prog_1_method_25_code 7 = .ok (.invokestatic 137, 3) := by decide +kernel
theorem d4_0 : decode jdk_32_method_1_code 0 = .ok (.getstatic 1, 3) := by decide +kernel
theorem d4_3 : decode jdk_32_method_1_code 3 = .ok (.astore_n 0, 1) := by decide +kernel
theorem d4_4 : decode jdk_32_method_1_code 4 = .ok (.aload_n 0, 1) := by decide +kernel
theorem d4_5 : decode jdk_32_method_1_code 5 = .ok (.areturn, 1) := by decide +kernel
theorem ef_3 (m : MethodId)  : entryFrame m #[] 1 = mkF m 0 #[.unset] [] := by first | (simp [entryFrame, mkF, argsToLocals, Value.category]; done) | rfl
theorem pn_2 : plainName "java/util/Optional" = true := by first | (simp [plainName, overriddenIn]; done) | decide +kernel
def Q3 (Z : State) (w27 : Addr) (h0 : Heap) (n0 : Nat) (v : Option Value) (h : Heap) (L : List Loc) : Prop := v = some (.ref w27) ∧ Fr n0 L ∧ h = h0
set_option maxRecDepth 65536 in
set_option maxHeartbeats 40000000 in
theorem rm3 (l : Launch) (Z : State) (a0 : Array Value) (hw : ∀ d ∈ tables_1, d.before a0 Z = true) (ws : List Jvm.Cond) (w27 : Addr) (h0 : Heap) (n0 : Nat) (O0 : Old Z n0 h0) (S_Optional_EMPTY : Sta Z Z.heap zs2 "EMPTY" zs19 (.ref w27)) :
    MetFree l (⟨zs2, "empty", zs12⟩ : MethodName) (head1 (Jvm.Cond.code (⟨zs2, "empty", zs12⟩ : MethodName) jdk_32_method_1_code 1 (some (.object zs2)) :: ws) ({ frames := 0, cells := 0, slots := 0, locals := 0 } : Room)) (fun a U => a = #[] ∧ Z.Warmed39 U.vm ∧ U.heap = h0) (fun _ _ _ _ _ => True) (fun _ U o U' => ∃ v L, o = .returned v ∧ Q3 Z w27 h0 n0 v U'.heap L ∧ ReturnedEndW U o U' L ({ frames := 0, cells := 0, slots := 0, locals := 0 } : Room).cells ({ frames := 0, cells := 0, slots := 0, locals := 0 } : Room).slots) := by
  refine MetFree.of_bodySF (plainFor_of_name pn_2) hisR ?_
  intro p e s m args below meth c s₁ Bd hml0 hP hK
  obtain ⟨rfl, hZ, hh⟩ := hP
  have hx := Bd.exec
  have hby := Bd.bytes
  have hml : c.maxLocals = 1 := hml0
  have hown : s.vm.findClass zs2 = some m.cls := findClass_of_methodNamed Bd.named
  have hnm := (name_of_methodNamed Bd.named Bd.method).1
  have X0 : Stand p l e ({ frames := 0, cells := 0, slots := 0, locals := 0 } : Room) (s.setVm s.vm) m #[] below meth c s₁ [] 0 0 := Stand.of_body Bd
  have hS : s.Since s.vm 0 := (State.WarmedH.refl s).since 0
  obtain ⟨k0, hk0, hS⟩ : ∃ k0, k0 ≤ h0.size ∧ s.Since s.vm k0 := ⟨0, Nat.zero_le _, hS⟩
  have hZ : Z.Warmed39 (s.setVm s.vm).vm := hZ
  have hown : (s.setVm s.vm).vm.findClass zs2 = some m.cls := hown
  have e0 : s₁.heap = h0 := by rw [← hh, Bd.state]; rfl
  have N0 := Fr.nil n0
  refine own_out ?_
  refine own_via (fun t k => castTop (ef_3 m ) k) ?_
  obtain ⟨T66, X66, e66, st66⟩ := getS2 X0 hx hZ hown (host := "") (Or.inl (wd hw 21 rfl)) Via.refl e0 (S_Optional_EMPTY.ext O0.2) (g := (mkF m 0 #[.unset] [])) rfl (hb hby d4_0)
  refine own_via (fun t k => st66 t (XS.astoreN X66.here hx rfl (hb hby d4_3) rfl rfl (l' := #[rv w27]) rfl (XS.aloadN X66.here hx rfl (hb hby d4_4) rfl rfl k))) ?_
  show own_Goes p e below (T66.setTop (mkF m 5 #[rv w27] [(.ref w27)])) _
  obtain ⟨fs, hr, hrun, hended, hRW⟩ := X66.leaveW hS (by rw [e66]; first | exact hk0 | exact Nat.le_refl _) (v := some (.ref w27)) (fun h => by rw [Bd.returns] at h; cases h)
  refine own_end (t := T66.setFrames fs) ?_ ⟨_, hrun, hended, _, _, rfl, ?_, own_rmono hRW (by decide) (by decide)⟩
  · jvm_step X66.here [X66.here.top, hx, (hb hby d4_5), X66.method', Bd.returns, Value.isRef, FieldType.isReference]
    first | (intro acts; rw [hr _ acts rfl rfl rfl]) | rw [hr _ _ rfl rfl rfl]
    exact Steps.refl _
  · show Q3 Z w27 h0 n0 _ T66.heap _
    rw [e66]
    exact ⟨rfl, N0, rfl⟩
theorem pd_3 : parseMethodDescriptor "()Ljava/util/Optional;" = some ⟨[], some (.object "java/util/Optional")⟩ := by decide +kernel
theorem d2_10 : decode prog_1_method_25_code 10 = .ok (.areturn, 1) := by decide +kernel
theorem ef_4 (m : MethodId) (x0 : Addr) : entryFrame m #[(.ref x0)] 1 = mkF m 0 #[rv x0] [] := by first | (simp [entryFrame, mkF, argsToLocals, Value.category]; done) | rfl
def Q4 (Z : State) (w21 : Addr) (w27 : Addr) (h0 : Heap) (n0 : Nat) (v : Option Value) (h : Heap) (L : List Loc) : Prop := v = some (.ref w27) ∧ Fr n0 L ∧ h = h0
set_option maxRecDepth 65536 in
set_option maxHeartbeats 40000000 in
theorem rm4 (l : Launch) (Z : State) (a0 : Array Value) (hw : ∀ d ∈ tables_1, d.before a0 Z = true) (ws : List Jvm.Cond) (w21 : Addr) (w27 : Addr) (h0 : Heap) (n0 : Nat) (O0 : Old Z n0 h0) (S_Tertium_ABSENT : Sta Z Z.heap zs1 "ABSENT" zs6 (.ref w21)) (SE_w21 : Exa Z Z.heap w21 zs1) (S_Optional_EMPTY : Sta Z Z.heap zs2 "EMPTY" zs19 (.ref w27)) :
    MetFree l (⟨zs1, zs20, zs12⟩ : MethodName) (head1 (Jvm.Cond.code (⟨zs1, zs20, zs12⟩ : MethodName) prog_1_method_25_code 1 (some (.object zs2)) :: ws) ({ frames := 1, cells := 0, slots := 0, locals := 12 } : Room)) (fun a U => a = #[(.ref w21)] ∧ Z.Warmed39 U.vm ∧ U.heap = h0) (fun _ _ _ _ _ => True) (fun _ U o U' => ∃ v L, o = .returned v ∧ Q4 Z w21 w27 h0 n0 v U'.heap L ∧ ReturnedEndW U o U' L ({ frames := 1, cells := 0, slots := 0, locals := 12 } : Room).cells ({ frames := 1, cells := 0, slots := 0, locals := 12 } : Room).slots) := by
  refine MetFree.of_bodySF (plainFor_of_name pn_1) hisR ?_
  intro p e s m args below meth c s₁ Bd hml0 hP hK
  obtain ⟨rfl, hZ, hh⟩ := hP
  have hx := Bd.exec
  have hby := Bd.bytes
  have hml : c.maxLocals = 1 := hml0
  have hown : s.vm.findClass zs1 = some m.cls := findClass_of_methodNamed Bd.named
  have hnm := (name_of_methodNamed Bd.named Bd.method).1
  have X0 : Stand p l e ({ frames := 1, cells := 0, slots := 0, locals := 12 } : Room) (s.setVm s.vm) m #[(.ref w21)] below meth c s₁ [] 0 0 := Stand.of_body Bd
  have hS : s.Since s.vm 0 := (State.WarmedH.refl s).since 0
  obtain ⟨k0, hk0, hS⟩ : ∃ k0, k0 ≤ h0.size ∧ s.Since s.vm k0 := ⟨0, Nat.zero_le _, hS⟩
  have hZ : Z.Warmed39 (s.setVm s.vm).vm := hZ
  have hown : (s.setVm s.vm).vm.findClass zs1 = some m.cls := hown
  have e0 : s₁.heap = h0 := by rw [← hh, Bd.state]; rfl
  have N0 := Fr.nil n0
  refine own_out ?_
  refine own_via (fun t k => castTop (ef_4 m w21) (XS.aloadN X0.here hx rfl (hb hby d2_0) rfl rfl k)) ?_
  obtain ⟨_, T51, _, X51, hQ51, hS, hZ, hown, st51⟩ := own_cvS X0 hx hZ hS hk0 hown (wd hw 12 rfl) (wd hw 13 rfl) (wd hw 15 rfl) (wd hw 14 rfl) (wd hw 16 rfl) (wd hw 3 rfl) (by decide) (rm2 l Z a0 hw [] w21 h0 n0 O0 S_Tertium_ABSENT) e0 (SE_w21.ext O0.2) (g := (mkF m 1 #[rv w21] [(.ref w21)])) rfl (by rw [hml]; rfl) (rest := []) (W := 0) (lenOf pd_2 rfl) rfl (by show 2 * 0 + _ ≤ _; exact Nat.le_of_eq rfl) (hb hby d2_1) (by decide) (by decide) (by decide) (by decide)
  obtain ⟨rfl, Nq51, hh58⟩ := hQ51
  have N51 := Fr.app N0 Nq51
  have hk59 : T51.heap.size ≤ h0.size := Nat.le_of_eq (congrArg Array.size hh58)
  refine own_via (fun t k => st51 t (XS.ifNo X51.here hx rfl (hb hby d2_4) rfl ((if0 _ _).trans (feq (by decide : ¬ ((1 : Int32) = (0 : Int32)))).1) k)) ?_
  obtain ⟨_, T60, _, X60, hQ60, hS, hZ, hown, st60⟩ := own_csS X51 hx hZ hS hk59 hown (wd hw 17 rfl) (wd hw 18 rfl) (wd hw 20 rfl) (wd hw 19 rfl) (by decide) (rm3 l Z a0 hw [] w27 h0 n0 O0 S_Optional_EMPTY) hh58 (g := (mkF m 7 #[rv w21] [])) rfl (by rw [hml]; rfl) (rest := []) (W := 0) (lenOf pd_3 rfl) rfl (by show 2 * 0 + _ ≤ _; exact Nat.le_of_eq rfl) (hb hby d2_7) (by decide) (by decide) (by decide) (by decide)
  obtain ⟨rfl, Nq60, hh67⟩ := hQ60
  have N60 := Fr.app N51 Nq60
  have hk68 : T60.heap.size ≤ h0.size := Nat.le_of_eq (congrArg Array.size hh67)
  refine own_via (fun t k => st60 t k) ?_
  obtain ⟨fs, hr, hrun, hended, hRW⟩ := X60.leaveW hS (by rw [hh67]; first | exact hk68 | exact Nat.le_refl _) (v := some (.ref w27)) (fun h => by rw [Bd.returns] at h; cases h)
  refine own_end (t := T60.setFrames fs) ?_ ⟨_, hrun, hended, _, _, rfl, ?_, own_rmono hRW (by decide) (by decide)⟩
  · jvm_step X60.here [X60.here.top, hx, (hb hby d2_10), X60.method', Bd.returns, Value.isRef, FieldType.isReference]
    first | (intro acts; rw [hr _ acts rfl rfl rfl]) | rw [hr _ _ rfl rfl rfl]
    exact Steps.refl _
  · show Q4 Z w21 w27 h0 n0 _ T60.heap _
    rw [hh67]
    exact ⟨rfl, N60, rfl⟩
theorem d5_0 : decode prog_1_method_6_code 0 = .ok (.aload_n 0, 1) := by decide +kernel
theorem d5_1 : decode prog_1_method_6_code 1 = .ok (.ldc 52, 2) := by decide +kernel
theorem own_strAtoms {a0 : Array Value} {Z : State} (hw : ∀ d ∈ tables_1, d.before a0 Z = true) : ∀ a ∈ Bundle.stringAtoms, a.before a0 Z = true := by
  intro a ha
  simp only [Bundle.stringAtoms, List.mem_cons, List.not_mem_nil, or_false] at ha
  rcases ha with rfl | rfl | rfl | rfl | rfl | rfl | rfl
  · exact (wd hw 26 rfl)
  · exact (wd hw 27 rfl)
  · exact (wd hw 28 rfl)
  · exact (wd hw 29 rfl)
  · exact (wd hw 30 rfl)
  · exact (wd hw 31 rfl)
  · exact (wd hw 32 rfl)
theorem d5_3 : decode prog_1_method_6_code 3 = .ok (.invokestatic 29, 3) := by decide +kernel
theorem d6_0 : decode jdk_31_method_11_code 0 = .ok (.aload_n 0, 1) := by decide +kernel
theorem d6_1 : decode jdk_31_method_11_code 1 = .ok (.ifnonnull 12, 3) := by decide +kernel
theorem d6_13 : decode jdk_31_method_11_code 13 = .ok (.aload_n 0, 1) := by decide +kernel
theorem d6_14 : decode jdk_31_method_11_code 14 = .ok (.areturn, 1) := by decide +kernel
theorem ef_5 (m : MethodId) (x0 : Addr) (x1 : Addr) : entryFrame m #[(.ref x0), (.ref x1)] 2 = mkF m 0 #[rv x0, rv x1] [] := by first | (simp [entryFrame, mkF, argsToLocals, Value.category]; done) | rfl
theorem pn_3 : plainName "java/util/Objects" = true := by first | (simp [plainName, overriddenIn]; done) | decide +kernel
def Q5 (Z : State) (w27 : Addr) (a80 : Addr) (h0 : Heap) (n0 : Nat) (v : Option Value) (h : Heap) (L : List Loc) : Prop := v = some (.ref w27) ∧ Fr n0 L ∧ h = h0
set_option maxRecDepth 65536 in
set_option maxHeartbeats 40000000 in
theorem rm5 (l : Launch) (Z : State) (a0 : Array Value) (hw : ∀ d ∈ tables_1, d.before a0 Z = true) (ws : List Jvm.Cond) (w27 : Addr) (a80 : Addr) (h0 : Heap) (n0 : Nat) (O0 : Old Z n0 h0) :
    MetFree l (⟨zs9, zs17, zs8⟩ : MethodName) (head1 (Jvm.Cond.code (⟨zs9, zs17, zs8⟩ : MethodName) jdk_31_method_11_code 2 (some (.object zs5)) :: ws) ({ frames := 0, cells := 0, slots := 0, locals := 0 } : Room)) (fun a U => a = #[(.ref w27), (.ref a80)] ∧ Z.Warmed39 U.vm ∧ U.heap = h0) (fun _ _ _ _ _ => True) (fun _ U o U' => ∃ v L, o = .returned v ∧ Q5 Z w27 a80 h0 n0 v U'.heap L ∧ ReturnedEndW U o U' L ({ frames := 0, cells := 0, slots := 0, locals := 0 } : Room).cells ({ frames := 0, cells := 0, slots := 0, locals := 0 } : Room).slots) := by
  refine MetFree.of_bodySF (plainFor_of_name pn_3) hisR ?_
  intro p e s m args below meth c s₁ Bd hml0 hP hK
  obtain ⟨rfl, hZ, hh⟩ := hP
  have hx := Bd.exec
  have hby := Bd.bytes
  have hml : c.maxLocals = 2 := hml0
  have hown : s.vm.findClass zs9 = some m.cls := findClass_of_methodNamed Bd.named
  have hnm := (name_of_methodNamed Bd.named Bd.method).1
  have X0 : Stand p l e ({ frames := 0, cells := 0, slots := 0, locals := 0 } : Room) (s.setVm s.vm) m #[(.ref w27), (.ref a80)] below meth c s₁ [] 0 0 := Stand.of_body Bd
  have hS : s.Since s.vm 0 := (State.WarmedH.refl s).since 0
  obtain ⟨k0, hk0, hS⟩ : ∃ k0, k0 ≤ h0.size ∧ s.Since s.vm k0 := ⟨0, Nat.zero_le _, hS⟩
  have hZ : Z.Warmed39 (s.setVm s.vm).vm := hZ
  have hown : (s.setVm s.vm).vm.findClass zs9 = some m.cls := hown
  have e0 : s₁.heap = h0 := by rw [← hh, Bd.state]; rfl
  have N0 := Fr.nil n0
  refine own_out ?_
  refine own_via (fun t k => castTop (ef_5 m w27 a80) (XS.aloadN X0.here hx rfl (hb hby d6_0) rfl rfl (XS.ifnonnullYes X0.here hx rfl (pc0 := 1) (pc' := 13) rfl (hb hby d6_1) rfl (by decide) (by decide) (XS.aloadN X0.here hx rfl (hb hby d6_13) rfl rfl k)))) ?_
  show own_Goes p e below (s₁.setTop (mkF m 14 #[rv w27, rv a80] [(.ref w27)])) _
  obtain ⟨fs, hr, hrun, hended, hRW⟩ := X0.leaveW hS (by rw [e0]; first | exact hk0 | exact Nat.le_refl _) (v := some (.ref w27)) (fun h => by rw [Bd.returns] at h; cases h)
  refine own_end (t := s₁.setFrames fs) ?_ ⟨_, hrun, hended, _, _, rfl, ?_, own_rmono hRW (by decide) (by decide)⟩
  · jvm_step X0.here [X0.here.top, hx, (hb hby d6_14), X0.method', Bd.returns, Value.isRef, FieldType.isReference]
    first | (intro acts; rw [hr _ acts rfl rfl rfl]) | rw [hr _ _ rfl rfl rfl]
    exact Steps.refl _
  · show Q5 Z w27 a80 h0 n0 _ s₁.heap _
    rw [e0]
    exact ⟨rfl, N0, rfl⟩
theorem pd_4 : parseMethodDescriptor "(Ljava/lang/Object;Ljava/lang/String;)Ljava/lang/Object;" = some ⟨[(.object "java/lang/Object"), (.object "java/lang/String")], some (.object "java/lang/Object")⟩ := by decide +kernel
theorem d5_6 : decode prog_1_method_6_code 6 = .ok (.pop, 1) := by decide +kernel
theorem d5_7 : decode prog_1_method_6_code 7 = .ok (.aload_n 0, 1) := by decide +kernel
theorem d5_8 : decode prog_1_method_6_code 8 = .ok (.invokevirtual 35, 3) := by decide +kernel
theorem d7_0 : decode jdk_32_method_6_code 0 = .ok (.aload_n 0, 1) := by decide +kernel
theorem d7_1 : decode jdk_32_method_6_code 1 = .ok (.getfield 13, 3) := by decide +kernel
theorem d7_4 : decode jdk_32_method_6_code 4 = .ok (.ifnull 7, 3) := by decide +kernel
theorem d7_11 : decode jdk_32_method_6_code 11 = .ok (.iconst 0, 1) := by decide +kernel
theorem d7_12 : decode jdk_32_method_6_code 12 = .ok (.ireturn, 1) := by decide +kernel
theorem ef_6 (m : MethodId) (x0 : Addr) : entryFrame m #[(.ref x0)] 1 = mkF m 0 #[rv x0] [] := by first | (simp [entryFrame, mkF, argsToLocals, Value.category]; done) | rfl
def Q6 (Z : State) (w27 : Addr) (h0 : Heap) (n0 : Nat) (v : Option Value) (h : Heap) (L : List Loc) : Prop := v = some (.int (0 : Int32)) ∧ Fr n0 L ∧ h = h0
set_option maxRecDepth 65536 in
set_option maxHeartbeats 40000000 in
theorem rm6 (l : Launch) (Z : State) (a0 : Array Value) (hw : ∀ d ∈ tables_1, d.before a0 Z = true) (ws : List Jvm.Cond) (w27 : Addr) (h0 : Heap) (n0 : Nat) (O0 : Old Z n0 h0) (SF_w27_value : Fld Z Z.heap w27 zs2 "value" zs3 .null) :
    MetFree l (⟨zs2, "isPresent", "()Z"⟩ : MethodName) (head1 (Jvm.Cond.code (⟨zs2, "isPresent", "()Z"⟩ : MethodName) jdk_32_method_6_code 1 (some .boolean) :: ws) ({ frames := 0, cells := 0, slots := 0, locals := 0 } : Room)) (fun a U => a = #[(.ref w27)] ∧ Z.Warmed39 U.vm ∧ U.heap = h0) (fun _ _ _ _ _ => True) (fun _ U o U' => ∃ v L, o = .returned v ∧ Q6 Z w27 h0 n0 v U'.heap L ∧ ReturnedEndW U o U' L ({ frames := 0, cells := 0, slots := 0, locals := 0 } : Room).cells ({ frames := 0, cells := 0, slots := 0, locals := 0 } : Room).slots) := by
  refine MetFree.of_bodySF (plainFor_of_name pn_2) hisR ?_
  intro p e s m args below meth c s₁ Bd hml0 hP hK
  obtain ⟨rfl, hZ, hh⟩ := hP
  have hx := Bd.exec
  have hby := Bd.bytes
  have hml : c.maxLocals = 1 := hml0
  have hown : s.vm.findClass zs2 = some m.cls := findClass_of_methodNamed Bd.named
  have hnm := (name_of_methodNamed Bd.named Bd.method).1
  have X0 : Stand p l e ({ frames := 0, cells := 0, slots := 0, locals := 0 } : Room) (s.setVm s.vm) m #[(.ref w27)] below meth c s₁ [] 0 0 := Stand.of_body Bd
  have hS : s.Since s.vm 0 := (State.WarmedH.refl s).since 0
  obtain ⟨k0, hk0, hS⟩ : ∃ k0, k0 ≤ h0.size ∧ s.Since s.vm k0 := ⟨0, Nat.zero_le _, hS⟩
  have hZ : Z.Warmed39 (s.setVm s.vm).vm := hZ
  have hown : (s.setVm s.vm).vm.findClass zs2 = some m.cls := hown
  have e0 : s₁.heap = h0 := by rw [← hh, Bd.state]; rfl
  have N0 := Fr.nil n0
  refine own_out ?_
  refine own_via (fun t k => castTop (ef_6 m w27) (XS.aloadN X0.here hx rfl (hb hby d7_0) rfl rfl k)) ?_
  obtain ⟨T95, X95, e95, st95⟩ := getF X0 hx hZ hown (host := "") (Or.inl (wd hw 42 rfl)) Via.refl e0 (SF_w27_value.ext O0.2) (g := (mkF m 1 #[rv w27] [(.ref w27)])) rfl rfl (hb hby d7_1)
  refine own_via (fun t k => st95 t (XS.ifnullYes X95.here hx rfl (pc0 := 4) (pc' := 11) rfl (hb hby d7_4) rfl (by decide) (by decide) (XS.iconst X95.here hx rfl (hb hby d7_11) k))) ?_
  show own_Goes p e below (T95.setTop (mkF m 12 #[rv w27] [(.int (0 : Int32))])) _
  obtain ⟨fs, hr, hrun, hended, hRW⟩ := X95.leaveW hS (by rw [e95]; first | exact hk0 | exact Nat.le_refl _) (v := some (.int (0 : Int32))) (fun h => by rw [Bd.returns] at h; cases h)
  refine own_end (t := T95.setFrames fs) ?_ ⟨_, hrun, hended, _, _, rfl, ?_, own_rmono hRW (by decide) (by decide)⟩
  · exact retN X95 hx (t := .boolean) Bd.returns (by simp) (hb hby d7_12) hr
  · show Q6 Z w27 h0 n0 _ T95.heap _
    rw [e95]
    exact ⟨rfl, N0, rfl⟩
theorem d5_11 : decode prog_1_method_6_code 11 = .ok (.ifCond .eq 20, 3) := by decide +kernel
theorem d5_31 : decode prog_1_method_6_code 31 = .ok (.invokestatic 49, 3) := by decide +kernel
theorem d5_34 : decode prog_1_method_6_code 34 = .ok (.areturn, 1) := by decide +kernel
theorem ef_7 (m : MethodId) (x0 : Addr) : entryFrame m #[(.ref x0)] 1 = mkF m 0 #[rv x0] [] := by first | (simp [entryFrame, mkF, argsToLocals, Value.category]; done) | rfl
def Q7 (Z : State) (w27 : Addr) (w21 : Addr) (h0 : Heap) (n0 : Nat) (v : Option Value) (h : Heap) (L : List Loc) : Prop := v = some (.ref w21) ∧ Fr n0 L ∧ Keep h0 h []
set_option maxRecDepth 65536 in
set_option maxHeartbeats 40000000 in
theorem rm7 (l : Launch) (Z : State) (a0 : Array Value) (hw : ∀ d ∈ tables_1, d.before a0 Z = true) (ws : List Jvm.Cond) (w27 : Addr) (w21 : Addr) (h0 : Heap) (n0 : Nat) (O0 : Old Z n0 h0) (SF_w27_value : Fld Z Z.heap w27 zs2 "value" zs3 .null) (SE_w27 : Exa Z Z.heap w27 zs2) (S_Tertium_ABSENT : Sta Z Z.heap zs1 "ABSENT" zs6 (.ref w21)) :
    MetFree l (⟨zs1, zs18, zs10⟩ : MethodName) (head1 (Jvm.Cond.code (⟨zs1, zs18, zs10⟩ : MethodName) prog_1_method_6_code 1 (some (.object zs1)) :: ws) ({ frames := 1, cells := 2, slots := 28, locals := 13 } : Room)) (fun a U => a = #[(.ref w27)] ∧ Z.Warmed39 U.vm ∧ U.heap = h0) (fun _ _ _ _ _ => True) (fun _ U o U' => ∃ v L, o = .returned v ∧ Q7 Z w27 w21 h0 n0 v U'.heap L ∧ ReturnedEndW U o U' L ({ frames := 1, cells := 2, slots := 28, locals := 13 } : Room).cells ({ frames := 1, cells := 2, slots := 28, locals := 13 } : Room).slots) := by
  refine MetFree.of_bodySF (plainFor_of_name pn_1) hisR ?_
  intro p e s m args below meth c s₁ Bd hml0 hP hK
  obtain ⟨rfl, hZ, hh⟩ := hP
  have hx := Bd.exec
  have hby := Bd.bytes
  have hml : c.maxLocals = 1 := hml0
  have hown : s.vm.findClass zs1 = some m.cls := findClass_of_methodNamed Bd.named
  have hnm := (name_of_methodNamed Bd.named Bd.method).1
  have X0 : Stand p l e ({ frames := 1, cells := 2, slots := 28, locals := 13 } : Room) (s.setVm s.vm) m #[(.ref w27)] below meth c s₁ [] 0 0 := Stand.of_body Bd
  have hS : s.Since s.vm 0 := (State.WarmedH.refl s).since 0
  obtain ⟨k0, hk0, hS⟩ : ∃ k0, k0 ≤ h0.size ∧ s.Since s.vm k0 := ⟨0, Nat.zero_le _, hS⟩
  have hZ : Z.Warmed39 (s.setVm s.vm).vm := hZ
  have hown : (s.setVm s.vm).vm.findClass zs1 = some m.cls := hown
  have e0 : s₁.heap = h0 := by rw [← hh, Bd.state]; rfl
  have N0 := Fr.nil n0
  refine own_out ?_
  refine own_via (fun t k => castTop (ef_7 m w27) (XS.aloadN X0.here hx rfl (hb hby d5_0) rfl rfl k)) ?_
  obtain ⟨b78, T77, h77, k77, X77, e77, E77, hS, hk77, hZ, hown, st77⟩ := ldcS X0 hx hZ hown (wd hw 25 rfl) (own_strAtoms hw) e0 hS hk0 (g := (mkF m 1 #[rv w27] [(.ref w27)])) rfl (hb hby d5_1) (n := 24) (by decide) (by decide) (by decide) (by decide)
  refine own_via (fun t k => st77 t k) ?_
  have O86 : Old Z n0 h77 := (O0.ext E77)
  obtain ⟨_, T79, _, X79, hQ79, hS, hZ, hown, st79⟩ := own_csS X77 hx hZ hS hk77 hown (wd hw 33 rfl) (wd hw 34 rfl) (wd hw 36 rfl) (wd hw 35 rfl) (by decide) (rm5 l Z a0 hw [] w27 b78 h77 n0 O86 ) e77 (g := (mkF m 3 #[rv w27] [(.ref b78), (.ref w27)])) rfl (by rw [hml]; rfl) (rest := []) (W := 0) (lenOf pd_4 rfl) rfl (by show 2 * 0 + _ ≤ _; exact Nat.le_of_eq rfl) (hb hby d5_3) (by decide) (by decide) (by decide) (by decide)
  obtain ⟨rfl, Nq79, hh87⟩ := hQ79
  have N79 := Fr.app N0 Nq79
  have hk88 : T79.heap.size ≤ h77.size := Nat.le_of_eq (congrArg Array.size hh87)
  refine own_via (fun t k => st79 t (XS.pop X79.here hx rfl (hb hby d5_6) rfl rfl (XS.aloadN X79.here hx rfl (hb hby d5_7) rfl rfl k))) ?_
  show own_Goes p e below (T79.setTop (mkF m 8 #[rv w27] [(.ref w27)])) _
  obtain ⟨_, T89, _, X89, hQ89, hS, hZ, hown, st89⟩ := own_cvS X79 hx hZ hS hk88 hown (wd hw 37 rfl) (wd hw 38 rfl) (wd hw 40 rfl) (wd hw 39 rfl) (wd hw 41 rfl) (wd hw 19 rfl) (by decide) (rm6 l Z a0 hw [] w27 h77 n0 O86 SF_w27_value) hh87 (SE_w27.ext O86.2) (g := (mkF m 8 #[rv w27] [(.ref w27)])) rfl (by rw [hml]; rfl) (rest := []) (W := 0) (lenOf pd_2 rfl) rfl (by show 2 * 0 + _ ≤ _; exact Nat.le_of_eq rfl) (hb hby d5_8) (by decide) (by decide) (by decide) (by decide)
  obtain ⟨rfl, Nq89, hh96⟩ := hQ89
  have N89 := Fr.app N79 Nq89
  have hk97 : T89.heap.size ≤ h77.size := Nat.le_of_eq (congrArg Array.size hh96)
  refine own_via (fun t k => st89 t (XS.ifYes X89.here hx rfl (pc0 := 11) (pc' := 31) rfl (hb hby d5_11) rfl ((if0 _ _).trans (teq (by decide : (0 : Int32) = (0 : Int32))).1) (by decide) (by decide) k)) ?_
  obtain ⟨_, T98, _, X98, hQ98, hS, hZ, hown, st98⟩ := own_csS X89 hx hZ hS hk97 hown (wd hw 44 rfl) (wd hw 2 rfl) (wd hw 4 rfl) (wd hw 3 rfl) (by decide) (rm1 l Z a0 hw [] w21 h77 n0 O86 S_Tertium_ABSENT) hh96 (g := (mkF m 31 #[rv w27] [])) rfl (by rw [hml]; rfl) (rest := []) (W := 0) (lenOf pd_1 rfl) rfl (by show 2 * 0 + _ ≤ _; exact Nat.le_of_eq rfl) (hb hby d5_31) (by decide) (by decide) (by decide) (by decide)
  obtain ⟨rfl, Nq98, hh99⟩ := hQ98
  have N98 := Fr.app N89 Nq98
  have hk100 : T98.heap.size ≤ h77.size := Nat.le_of_eq (congrArg Array.size hh99)
  refine own_via (fun t k => st98 t k) ?_
  obtain ⟨fs, hr, hrun, hended, hRW⟩ := X98.leaveW hS (by rw [hh99]; first | exact hk100 | exact Nat.le_refl _) (v := some (.ref w21)) (fun h => by rw [Bd.returns] at h; cases h)
  refine own_end (t := T98.setFrames fs) ?_ ⟨_, hrun, hended, _, _, rfl, ?_, own_rmono hRW (by decide) (by decide)⟩
  · jvm_step X98.here [X98.here.top, hx, (hb hby d5_34), X98.method', Bd.returns, Value.isRef, FieldType.isReference]
    first | (intro acts; rw [hr _ acts rfl rfl rfl]) | rw [hr _ _ rfl rfl rfl]
    exact Steps.refl _
  · show Q7 Z w27 w21 h0 n0 _ T98.heap _
    rw [hh99]
    exact ⟨rfl, N98, ((Keep.refl h0 []).ext E77)⟩
theorem pd_5 : parseMethodDescriptor "(Ljava/util/Optional;)Ltertium/Tertium;" = some ⟨[(.object "java/util/Optional")], some (.object "tertium/Tertium")⟩ := by decide +kernel
theorem d8_0 : decode prog_1_method_11_code 0 = .ok (.aload_n 0, 1) := by decide +kernel
theorem d8_1 : decode prog_1_method_11_code 1 = .ok (.getstatic 17, 3) := by decide +kernel
theorem d8_4 : decode prog_1_method_11_code 4 = .ok (.if_acmp .ne 7, 3) := by decide +kernel
theorem d8_11 : decode prog_1_method_11_code 11 = .ok (.iconst 0, 1) := by decide +kernel
theorem d8_12 : decode prog_1_method_11_code 12 = .ok (.ireturn, 1) := by decide +kernel
theorem ef_8 (m : MethodId) (x0 : Addr) : entryFrame m #[(.ref x0)] 1 = mkF m 0 #[rv x0] [] := by first | (simp [entryFrame, mkF, argsToLocals, Value.category]; done) | rfl
def Q8 (Z : State) (w21 : Addr) (w23 : Addr) (h0 : Heap) (n0 : Nat) (v : Option Value) (h : Heap) (L : List Loc) : Prop := v = some (.int (0 : Int32)) ∧ Fr n0 L ∧ h = h0
set_option maxRecDepth 65536 in
set_option maxHeartbeats 40000000 in
theorem rm8 (l : Launch) (Z : State) (a0 : Array Value) (hw : ∀ d ∈ tables_1, d.before a0 Z = true) (ws : List Jvm.Cond) (w21 : Addr) (w23 : Addr) (h0 : Heap) (n0 : Nat) (O0 : Old Z n0 h0) (S_Tertium_NULL : Sta Z Z.heap zs1 "NULL" zs6 (.ref w23)) (pN_w21_w23 : w21 ≠ w23) :
    MetFree l (⟨zs1, "isNull", "()Z"⟩ : MethodName) (head1 (Jvm.Cond.code (⟨zs1, "isNull", "()Z"⟩ : MethodName) prog_1_method_11_code 1 (some .boolean) :: ws) ({ frames := 0, cells := 0, slots := 0, locals := 0 } : Room)) (fun a U => a = #[(.ref w21)] ∧ Z.Warmed39 U.vm ∧ U.heap = h0) (fun _ _ _ _ _ => True) (fun _ U o U' => ∃ v L, o = .returned v ∧ Q8 Z w21 w23 h0 n0 v U'.heap L ∧ ReturnedEndW U o U' L ({ frames := 0, cells := 0, slots := 0, locals := 0 } : Room).cells ({ frames := 0, cells := 0, slots := 0, locals := 0 } : Room).slots) := by
  refine MetFree.of_bodySF (plainFor_of_name pn_1) hisR ?_
  intro p e s m args below meth c s₁ Bd hml0 hP hK
  obtain ⟨rfl, hZ, hh⟩ := hP
  have hx := Bd.exec
  have hby := Bd.bytes
  have hml : c.maxLocals = 1 := hml0
  have hown : s.vm.findClass zs1 = some m.cls := findClass_of_methodNamed Bd.named
  have hnm := (name_of_methodNamed Bd.named Bd.method).1
  have X0 : Stand p l e ({ frames := 0, cells := 0, slots := 0, locals := 0 } : Room) (s.setVm s.vm) m #[(.ref w21)] below meth c s₁ [] 0 0 := Stand.of_body Bd
  have hS : s.Since s.vm 0 := (State.WarmedH.refl s).since 0
  obtain ⟨k0, hk0, hS⟩ : ∃ k0, k0 ≤ h0.size ∧ s.Since s.vm k0 := ⟨0, Nat.zero_le _, hS⟩
  have hZ : Z.Warmed39 (s.setVm s.vm).vm := hZ
  have hown : (s.setVm s.vm).vm.findClass zs1 = some m.cls := hown
  have e0 : s₁.heap = h0 := by rw [← hh, Bd.state]; rfl
  have N0 := Fr.nil n0
  refine own_out ?_
  refine own_via (fun t k => castTop (ef_8 m w21) (XS.aloadN X0.here hx rfl (hb hby d8_0) rfl rfl k)) ?_
  obtain ⟨T112, X112, e112, st112⟩ := getS2 X0 hx hZ hown (host := "") (Or.inl (wd hw 51 rfl)) Via.refl e0 (S_Tertium_NULL.ext O0.2) (g := (mkF m 1 #[rv w21] [(.ref w21)])) rfl (hb hby d8_1)
  refine own_via (fun t k => st112 t (Jvm.RoadKit.acmp (g := (mkF m 4 #[rv w21] [(.ref w23), (.ref w21)])) X112 hx rfl rfl rfl (pc0 := 4) (pc' := 11) (same := false) rfl (hb hby d8_4) rfl (decide_eq_false fun q => pN_w21_w23 (Value.ref.inj q)) (by decide) (by decide) (XS.iconst X112.here hx rfl (hb hby d8_11) k))) ?_
  show own_Goes p e below (T112.setTop (mkF m 12 #[rv w21] [(.int (0 : Int32))])) _
  obtain ⟨fs, hr, hrun, hended, hRW⟩ := X112.leaveW hS (by rw [e112]; first | exact hk0 | exact Nat.le_refl _) (v := some (.int (0 : Int32))) (fun h => by rw [Bd.returns] at h; cases h)
  refine own_end (t := T112.setFrames fs) ?_ ⟨_, hrun, hended, _, _, rfl, ?_, own_rmono hRW (by decide) (by decide)⟩
  · exact retN X112 hx (t := .boolean) Bd.returns (by simp) (hb hby d8_12) hr
  · show Q8 Z w21 w23 h0 n0 _ T112.heap _
    rw [e112]
    exact ⟨rfl, N0, rfl⟩
theorem d22_0 : decode prog_1_method_3_code 0 = .ok (.getstatic 17, 3) := by decide +kernel
theorem d22_3 : decode prog_1_method_3_code 3 = .ok (.areturn, 1) := by decide +kernel
theorem ef_9 (m : MethodId)  : entryFrame m #[] 0 = mkF m 0 #[] [] := by first | (simp [entryFrame, mkF, argsToLocals, Value.category]; done) | rfl
def Q9 (Z : State) (w23 : Addr) (h0 : Heap) (n0 : Nat) (v : Option Value) (h : Heap) (L : List Loc) : Prop := v = some (.ref w23) ∧ Fr n0 L ∧ h = h0
set_option maxRecDepth 65536 in
set_option maxHeartbeats 40000000 in
theorem rm9 (l : Launch) (Z : State) (a0 : Array Value) (hw : ∀ d ∈ tables_1, d.before a0 Z = true) (ws : List Jvm.Cond) (w23 : Addr) (h0 : Heap) (n0 : Nat) (O0 : Old Z n0 h0) (S_Tertium_NULL : Sta Z Z.heap zs1 "NULL" zs6 (.ref w23)) :
    MetFree l (⟨zs1, "ofNull", zs21⟩ : MethodName) (head1 (Jvm.Cond.code (⟨zs1, "ofNull", zs21⟩ : MethodName) prog_1_method_3_code 0 (some (.object zs1)) :: ws) ({ frames := 0, cells := 0, slots := 0, locals := 0 } : Room)) (fun a U => a = #[] ∧ Z.Warmed39 U.vm ∧ U.heap = h0) (fun _ _ _ _ _ => True) (fun _ U o U' => ∃ v L, o = .returned v ∧ Q9 Z w23 h0 n0 v U'.heap L ∧ ReturnedEndW U o U' L ({ frames := 0, cells := 0, slots := 0, locals := 0 } : Room).cells ({ frames := 0, cells := 0, slots := 0, locals := 0 } : Room).slots) := by
  refine MetFree.of_bodySF (plainFor_of_name pn_1) hisR ?_
  intro p e s m args below meth c s₁ Bd hml0 hP hK
  obtain ⟨rfl, hZ, hh⟩ := hP
  have hx := Bd.exec
  have hby := Bd.bytes
  have hml : c.maxLocals = 0 := hml0
  have hown : s.vm.findClass zs1 = some m.cls := findClass_of_methodNamed Bd.named
  have hnm := (name_of_methodNamed Bd.named Bd.method).1
  have X0 : Stand p l e ({ frames := 0, cells := 0, slots := 0, locals := 0 } : Room) (s.setVm s.vm) m #[] below meth c s₁ [] 0 0 := Stand.of_body Bd
  have hS : s.Since s.vm 0 := (State.WarmedH.refl s).since 0
  obtain ⟨k0, hk0, hS⟩ : ∃ k0, k0 ≤ h0.size ∧ s.Since s.vm k0 := ⟨0, Nat.zero_le _, hS⟩
  have hZ : Z.Warmed39 (s.setVm s.vm).vm := hZ
  have hown : (s.setVm s.vm).vm.findClass zs1 = some m.cls := hown
  have e0 : s₁.heap = h0 := by rw [← hh, Bd.state]; rfl
  have N0 := Fr.nil n0
  refine own_out ?_
  refine own_via (fun t k => castTop (ef_9 m ) k) ?_
  obtain ⟨T123, X123, e123, st123⟩ := getS2 X0 hx hZ hown (host := "") (Or.inl (wd hw 51 rfl)) Via.refl e0 (S_Tertium_NULL.ext O0.2) (g := (mkF m 0 #[] [])) rfl (hb hby d22_0)
  refine own_via (fun t k => st123 t k) ?_
  obtain ⟨fs, hr, hrun, hended, hRW⟩ := X123.leaveW hS (by rw [e123]; first | exact hk0 | exact Nat.le_refl _) (v := some (.ref w23)) (fun h => by rw [Bd.returns] at h; cases h)
  refine own_end (t := T123.setFrames fs) ?_ ⟨_, hrun, hended, _, _, rfl, ?_, own_rmono hRW (by decide) (by decide)⟩
  · jvm_step X123.here [X123.here.top, hx, (hb hby d22_3), X123.method', Bd.returns, Value.isRef, FieldType.isReference]
    first | (intro acts; rw [hr _ acts rfl rfl rfl]) | rw [hr _ _ rfl rfl rfl]
    exact Steps.refl _
  · show Q9 Z w23 h0 n0 _ T123.heap _
    rw [e123]
    exact ⟨rfl, N0, rfl⟩
theorem d3_11 : decode prog_1_method_9_code 11 = .ok (.iconst 0, 1) := by decide +kernel
def Q10 (Z : State) (w23 : Addr) (w21 : Addr) (h0 : Heap) (n0 : Nat) (v : Option Value) (h : Heap) (L : List Loc) : Prop := v = some (.int (0 : Int32)) ∧ Fr n0 L ∧ h = h0
set_option maxRecDepth 65536 in
set_option maxHeartbeats 40000000 in
theorem rm10 (l : Launch) (Z : State) (a0 : Array Value) (hw : ∀ d ∈ tables_1, d.before a0 Z = true) (ws : List Jvm.Cond) (w23 : Addr) (w21 : Addr) (h0 : Heap) (n0 : Nat) (O0 : Old Z n0 h0) (S_Tertium_ABSENT : Sta Z Z.heap zs1 "ABSENT" zs6 (.ref w21)) (pN_w21_w23 : w21 ≠ w23) :
    MetFree l (⟨zs1, "isAbsent", "()Z"⟩ : MethodName) (head1 (Jvm.Cond.code (⟨zs1, "isAbsent", "()Z"⟩ : MethodName) prog_1_method_9_code 1 (some .boolean) :: ws) ({ frames := 0, cells := 0, slots := 0, locals := 0 } : Room)) (fun a U => a = #[(.ref w23)] ∧ Z.Warmed39 U.vm ∧ U.heap = h0) (fun _ _ _ _ _ => True) (fun _ U o U' => ∃ v L, o = .returned v ∧ Q10 Z w23 w21 h0 n0 v U'.heap L ∧ ReturnedEndW U o U' L ({ frames := 0, cells := 0, slots := 0, locals := 0 } : Room).cells ({ frames := 0, cells := 0, slots := 0, locals := 0 } : Room).slots) := by
  refine MetFree.of_bodySF (plainFor_of_name pn_1) hisR ?_
  intro p e s m args below meth c s₁ Bd hml0 hP hK
  obtain ⟨rfl, hZ, hh⟩ := hP
  have hx := Bd.exec
  have hby := Bd.bytes
  have hml : c.maxLocals = 1 := hml0
  have hown : s.vm.findClass zs1 = some m.cls := findClass_of_methodNamed Bd.named
  have hnm := (name_of_methodNamed Bd.named Bd.method).1
  have X0 : Stand p l e ({ frames := 0, cells := 0, slots := 0, locals := 0 } : Room) (s.setVm s.vm) m #[(.ref w23)] below meth c s₁ [] 0 0 := Stand.of_body Bd
  have hS : s.Since s.vm 0 := (State.WarmedH.refl s).since 0
  obtain ⟨k0, hk0, hS⟩ : ∃ k0, k0 ≤ h0.size ∧ s.Since s.vm k0 := ⟨0, Nat.zero_le _, hS⟩
  have hZ : Z.Warmed39 (s.setVm s.vm).vm := hZ
  have hown : (s.setVm s.vm).vm.findClass zs1 = some m.cls := hown
  have e0 : s₁.heap = h0 := by rw [← hh, Bd.state]; rfl
  have N0 := Fr.nil n0
  refine own_out ?_
  refine own_via (fun t k => castTop (ef_2 m w23) (XS.aloadN X0.here hx rfl (hb hby d3_0) rfl rfl k)) ?_
  obtain ⟨T140, X140, e140, st140⟩ := getS2 X0 hx hZ hown (host := "") (Or.inl (wd hw 5 rfl)) Via.refl e0 (S_Tertium_ABSENT.ext O0.2) (g := (mkF m 1 #[rv w23] [(.ref w23)])) rfl (hb hby d3_1)
  refine own_via (fun t k => st140 t (Jvm.RoadKit.acmp (g := (mkF m 4 #[rv w23] [(.ref w21), (.ref w23)])) X140 hx rfl rfl rfl (pc0 := 4) (pc' := 11) (same := false) rfl (hb hby d3_4) rfl (decide_eq_false fun q => (Ne.symm pN_w21_w23) (Value.ref.inj q)) (by decide) (by decide) (XS.iconst X140.here hx rfl (hb hby d3_11) k))) ?_
  show own_Goes p e below (T140.setTop (mkF m 12 #[rv w23] [(.int (0 : Int32))])) _
  obtain ⟨fs, hr, hrun, hended, hRW⟩ := X140.leaveW hS (by rw [e140]; first | exact hk0 | exact Nat.le_refl _) (v := some (.int (0 : Int32))) (fun h => by rw [Bd.returns] at h; cases h)
  refine own_end (t := T140.setFrames fs) ?_ ⟨_, hrun, hended, _, _, rfl, ?_, own_rmono hRW (by decide) (by decide)⟩
  · exact retN X140 hx (t := .boolean) Bd.returns (by simp) (hb hby d3_12) hr
  · show Q10 Z w23 w21 h0 n0 _ T140.heap _
    rw [e140]
    exact ⟨rfl, N0, rfl⟩
theorem d2_11 : decode prog_1_method_25_code 11 = .ok (.aload_n 0, 1) := by decide +kernel
theorem d2_12 : decode prog_1_method_25_code 12 = .ok (.invokevirtual 140, 3) := by decide +kernel
theorem d8_7 : decode prog_1_method_11_code 7 = .ok (.iconst 1, 1) := by decide +kernel
theorem d8_8 : decode prog_1_method_11_code 8 = .ok (.goto 4, 3) := by decide +kernel
def Q11 (Z : State) (w23 : Addr) (h0 : Heap) (n0 : Nat) (v : Option Value) (h : Heap) (L : List Loc) : Prop := v = some (.int (1 : Int32)) ∧ Fr n0 L ∧ h = h0
set_option maxRecDepth 65536 in
set_option maxHeartbeats 40000000 in
theorem rm11 (l : Launch) (Z : State) (a0 : Array Value) (hw : ∀ d ∈ tables_1, d.before a0 Z = true) (ws : List Jvm.Cond) (w23 : Addr) (h0 : Heap) (n0 : Nat) (O0 : Old Z n0 h0) (S_Tertium_NULL : Sta Z Z.heap zs1 "NULL" zs6 (.ref w23)) :
    MetFree l (⟨zs1, "isNull", "()Z"⟩ : MethodName) (head1 (Jvm.Cond.code (⟨zs1, "isNull", "()Z"⟩ : MethodName) prog_1_method_11_code 1 (some .boolean) :: ws) ({ frames := 0, cells := 0, slots := 0, locals := 0 } : Room)) (fun a U => a = #[(.ref w23)] ∧ Z.Warmed39 U.vm ∧ U.heap = h0) (fun _ _ _ _ _ => True) (fun _ U o U' => ∃ v L, o = .returned v ∧ Q11 Z w23 h0 n0 v U'.heap L ∧ ReturnedEndW U o U' L ({ frames := 0, cells := 0, slots := 0, locals := 0 } : Room).cells ({ frames := 0, cells := 0, slots := 0, locals := 0 } : Room).slots) := by
  refine MetFree.of_bodySF (plainFor_of_name pn_1) hisR ?_
  intro p e s m args below meth c s₁ Bd hml0 hP hK
  obtain ⟨rfl, hZ, hh⟩ := hP
  have hx := Bd.exec
  have hby := Bd.bytes
  have hml : c.maxLocals = 1 := hml0
  have hown : s.vm.findClass zs1 = some m.cls := findClass_of_methodNamed Bd.named
  have hnm := (name_of_methodNamed Bd.named Bd.method).1
  have X0 : Stand p l e ({ frames := 0, cells := 0, slots := 0, locals := 0 } : Room) (s.setVm s.vm) m #[(.ref w23)] below meth c s₁ [] 0 0 := Stand.of_body Bd
  have hS : s.Since s.vm 0 := (State.WarmedH.refl s).since 0
  obtain ⟨k0, hk0, hS⟩ : ∃ k0, k0 ≤ h0.size ∧ s.Since s.vm k0 := ⟨0, Nat.zero_le _, hS⟩
  have hZ : Z.Warmed39 (s.setVm s.vm).vm := hZ
  have hown : (s.setVm s.vm).vm.findClass zs1 = some m.cls := hown
  have e0 : s₁.heap = h0 := by rw [← hh, Bd.state]; rfl
  have N0 := Fr.nil n0
  refine own_out ?_
  refine own_via (fun t k => castTop (ef_8 m w23) (XS.aloadN X0.here hx rfl (hb hby d8_0) rfl rfl k)) ?_
  obtain ⟨T150, X150, e150, st150⟩ := getS2 X0 hx hZ hown (host := "") (Or.inl (wd hw 51 rfl)) Via.refl e0 (S_Tertium_NULL.ext O0.2) (g := (mkF m 1 #[rv w23] [(.ref w23)])) rfl (hb hby d8_1)
  refine own_via (fun t k => st150 t (Jvm.RoadKit.acmp (g := (mkF m 4 #[rv w23] [(.ref w23), (.ref w23)])) X150 hx rfl rfl rfl (pc0 := 4) (pc' := 7) (same := true) rfl (hb hby d8_4) rfl (decide_eq_true rfl) (by decide) (by decide) (XS.iconst X150.here hx rfl (hb hby d8_7) (XS.goto X150.here hx rfl (pc0 := 8) (pc' := 12) rfl (hb hby d8_8) (by decide) (by decide) k)))) ?_
  show own_Goes p e below (T150.setTop (mkF m 12 #[rv w23] [(.int (1 : Int32))])) _
  obtain ⟨fs, hr, hrun, hended, hRW⟩ := X150.leaveW hS (by rw [e150]; first | exact hk0 | exact Nat.le_refl _) (v := some (.int (1 : Int32))) (fun h => by rw [Bd.returns] at h; cases h)
  refine own_end (t := T150.setFrames fs) ?_ ⟨_, hrun, hended, _, _, rfl, ?_, own_rmono hRW (by decide) (by decide)⟩
  · exact retN X150 hx (t := .boolean) Bd.returns (by simp) (hb hby d8_12) hr
  · show Q11 Z w23 h0 n0 _ T150.heap _
    rw [e150]
    exact ⟨rfl, N0, rfl⟩
theorem d2_15 : decode prog_1_method_25_code 15 = .ok (.ifCond .eq 7, 3) := by decide +kernel
theorem d2_18 : decode prog_1_method_25_code 18 = .ok (.getstatic 143, 3) := by decide +kernel
theorem d2_21 : decode prog_1_method_25_code 21 = .ok (.areturn, 1) := by decide +kernel
def Q12 (Z : State) (w23 : Addr) (w21 : Addr) (w25 : Addr) (h0 : Heap) (n0 : Nat) (v : Option Value) (h : Heap) (L : List Loc) : Prop := v = some (.ref w25) ∧ Fr n0 L ∧ h = h0
set_option maxRecDepth 65536 in
set_option maxHeartbeats 40000000 in
theorem rm12 (l : Launch) (Z : State) (a0 : Array Value) (hw : ∀ d ∈ tables_1, d.before a0 Z = true) (ws : List Jvm.Cond) (w23 : Addr) (w21 : Addr) (w25 : Addr) (h0 : Heap) (n0 : Nat) (O0 : Old Z n0 h0) (S_Tertium_ABSENT : Sta Z Z.heap zs1 "ABSENT" zs6 (.ref w21)) (pN_w21_w23 : w21 ≠ w23) (SE_w23 : Exa Z Z.heap w23 zs1) (S_Tertium_NULL : Sta Z Z.heap zs1 "NULL" zs6 (.ref w23)) (S_Tertium_NESTED_NULL : Sta Z Z.heap zs1 "NESTED_NULL" zs19 (.ref w25)) :
    MetFree l (⟨zs1, zs20, zs12⟩ : MethodName) (head1 (Jvm.Cond.code (⟨zs1, zs20, zs12⟩ : MethodName) prog_1_method_25_code 1 (some (.object zs2)) :: ws) ({ frames := 1, cells := 0, slots := 0, locals := 12 } : Room)) (fun a U => a = #[(.ref w23)] ∧ Z.Warmed39 U.vm ∧ U.heap = h0) (fun _ _ _ _ _ => True) (fun _ U o U' => ∃ v L, o = .returned v ∧ Q12 Z w23 w21 w25 h0 n0 v U'.heap L ∧ ReturnedEndW U o U' L ({ frames := 1, cells := 0, slots := 0, locals := 12 } : Room).cells ({ frames := 1, cells := 0, slots := 0, locals := 12 } : Room).slots) := by
  refine MetFree.of_bodySF (plainFor_of_name pn_1) hisR ?_
  intro p e s m args below meth c s₁ Bd hml0 hP hK
  obtain ⟨rfl, hZ, hh⟩ := hP
  have hx := Bd.exec
  have hby := Bd.bytes
  have hml : c.maxLocals = 1 := hml0
  have hown : s.vm.findClass zs1 = some m.cls := findClass_of_methodNamed Bd.named
  have hnm := (name_of_methodNamed Bd.named Bd.method).1
  have X0 : Stand p l e ({ frames := 1, cells := 0, slots := 0, locals := 12 } : Room) (s.setVm s.vm) m #[(.ref w23)] below meth c s₁ [] 0 0 := Stand.of_body Bd
  have hS : s.Since s.vm 0 := (State.WarmedH.refl s).since 0
  obtain ⟨k0, hk0, hS⟩ : ∃ k0, k0 ≤ h0.size ∧ s.Since s.vm k0 := ⟨0, Nat.zero_le _, hS⟩
  have hZ : Z.Warmed39 (s.setVm s.vm).vm := hZ
  have hown : (s.setVm s.vm).vm.findClass zs1 = some m.cls := hown
  have e0 : s₁.heap = h0 := by rw [← hh, Bd.state]; rfl
  have N0 := Fr.nil n0
  refine own_out ?_
  refine own_via (fun t k => castTop (ef_4 m w23) (XS.aloadN X0.here hx rfl (hb hby d2_0) rfl rfl k)) ?_
  obtain ⟨_, T133, _, X133, hQ133, hS, hZ, hown, st133⟩ := own_cvS X0 hx hZ hS hk0 hown (wd hw 12 rfl) (wd hw 13 rfl) (wd hw 15 rfl) (wd hw 14 rfl) (wd hw 16 rfl) (wd hw 3 rfl) (by decide) (rm10 l Z a0 hw [] w23 w21 h0 n0 O0 S_Tertium_ABSENT pN_w21_w23) e0 (SE_w23.ext O0.2) (g := (mkF m 1 #[rv w23] [(.ref w23)])) rfl (by rw [hml]; rfl) (rest := []) (W := 0) (lenOf pd_2 rfl) rfl (by show 2 * 0 + _ ≤ _; exact Nat.le_of_eq rfl) (hb hby d2_1) (by decide) (by decide) (by decide) (by decide)
  obtain ⟨rfl, Nq133, hh141⟩ := hQ133
  have N133 := Fr.app N0 Nq133
  have hk142 : T133.heap.size ≤ h0.size := Nat.le_of_eq (congrArg Array.size hh141)
  refine own_via (fun t k => st133 t (XS.ifYes X133.here hx rfl (pc0 := 4) (pc' := 11) rfl (hb hby d2_4) rfl ((if0 _ _).trans (teq (by decide : (0 : Int32) = (0 : Int32))).1) (by decide) (by decide) (XS.aloadN X133.here hx rfl (hb hby d2_11) rfl rfl k))) ?_
  show own_Goes p e below (T133.setTop (mkF m 12 #[rv w23] [(.ref w23)])) _
  obtain ⟨_, T143, _, X143, hQ143, hS, hZ, hown, st143⟩ := own_cvS X133 hx hZ hS hk142 hown (wd hw 73 rfl) (wd hw 47 rfl) (wd hw 49 rfl) (wd hw 48 rfl) (wd hw 50 rfl) (wd hw 3 rfl) (by decide) (rm11 l Z a0 hw [] w23 h0 n0 O0 S_Tertium_NULL) hh141 (SE_w23.ext O0.2) (g := (mkF m 12 #[rv w23] [(.ref w23)])) rfl (by rw [hml]; rfl) (rest := []) (W := 0) (lenOf pd_2 rfl) rfl (by show 2 * 0 + _ ≤ _; exact Nat.le_of_eq rfl) (hb hby d2_12) (by decide) (by decide) (by decide) (by decide)
  obtain ⟨rfl, Nq143, hh151⟩ := hQ143
  have N143 := Fr.app N133 Nq143
  have hk152 : T143.heap.size ≤ h0.size := Nat.le_of_eq (congrArg Array.size hh151)
  refine own_via (fun t k => st143 t (XS.ifNo X143.here hx rfl (hb hby d2_15) rfl ((if0 _ _).trans (feq (by decide : ¬ ((1 : Int32) = (0 : Int32)))).1) k)) ?_
  obtain ⟨T153, X153, e153, st153⟩ := getS2 X143 hx hZ hown (host := "") (Or.inl (wd hw 128 rfl)) Via.refl hh151 (S_Tertium_NESTED_NULL.ext O0.2) (g := (mkF m 18 #[rv w23] [])) rfl (hb hby d2_18)
  refine own_via (fun t k => st153 t k) ?_
  obtain ⟨fs, hr, hrun, hended, hRW⟩ := X153.leaveW hS (by rw [e153]; first | exact hk152 | exact Nat.le_refl _) (v := some (.ref w25)) (fun h => by rw [Bd.returns] at h; cases h)
  refine own_end (t := T153.setFrames fs) ?_ ⟨_, hrun, hended, _, _, rfl, ?_, own_rmono hRW (by decide) (by decide)⟩
  · jvm_step X153.here [X153.here.top, hx, (hb hby d2_21), X153.method', Bd.returns, Value.isRef, FieldType.isReference]
    first | (intro acts; rw [hr _ acts rfl rfl rfl]) | rw [hr _ _ rfl rfl rfl]
    exact Steps.refl _
  · show Q12 Z w23 w21 w25 h0 n0 _ T153.heap _
    rw [e153]
    exact ⟨rfl, N143, rfl⟩
def Q13 (Z : State) (w25 : Addr) (a166 : Addr) (h0 : Heap) (n0 : Nat) (v : Option Value) (h : Heap) (L : List Loc) : Prop := v = some (.ref w25) ∧ Fr n0 L ∧ h = h0
set_option maxRecDepth 65536 in
set_option maxHeartbeats 40000000 in
theorem rm13 (l : Launch) (Z : State) (a0 : Array Value) (hw : ∀ d ∈ tables_1, d.before a0 Z = true) (ws : List Jvm.Cond) (w25 : Addr) (a166 : Addr) (h0 : Heap) (n0 : Nat) (O0 : Old Z n0 h0) :
    MetFree l (⟨zs9, zs17, zs8⟩ : MethodName) (head1 (Jvm.Cond.code (⟨zs9, zs17, zs8⟩ : MethodName) jdk_31_method_11_code 2 (some (.object zs5)) :: ws) ({ frames := 0, cells := 0, slots := 0, locals := 0 } : Room)) (fun a U => a = #[(.ref w25), (.ref a166)] ∧ Z.Warmed39 U.vm ∧ U.heap = h0) (fun _ _ _ _ _ => True) (fun _ U o U' => ∃ v L, o = .returned v ∧ Q13 Z w25 a166 h0 n0 v U'.heap L ∧ ReturnedEndW U o U' L ({ frames := 0, cells := 0, slots := 0, locals := 0 } : Room).cells ({ frames := 0, cells := 0, slots := 0, locals := 0 } : Room).slots) := by
  refine MetFree.of_bodySF (plainFor_of_name pn_3) hisR ?_
  intro p e s m args below meth c s₁ Bd hml0 hP hK
  obtain ⟨rfl, hZ, hh⟩ := hP
  have hx := Bd.exec
  have hby := Bd.bytes
  have hml : c.maxLocals = 2 := hml0
  have hown : s.vm.findClass zs9 = some m.cls := findClass_of_methodNamed Bd.named
  have hnm := (name_of_methodNamed Bd.named Bd.method).1
  have X0 : Stand p l e ({ frames := 0, cells := 0, slots := 0, locals := 0 } : Room) (s.setVm s.vm) m #[(.ref w25), (.ref a166)] below meth c s₁ [] 0 0 := Stand.of_body Bd
  have hS : s.Since s.vm 0 := (State.WarmedH.refl s).since 0
  obtain ⟨k0, hk0, hS⟩ : ∃ k0, k0 ≤ h0.size ∧ s.Since s.vm k0 := ⟨0, Nat.zero_le _, hS⟩
  have hZ : Z.Warmed39 (s.setVm s.vm).vm := hZ
  have hown : (s.setVm s.vm).vm.findClass zs9 = some m.cls := hown
  have e0 : s₁.heap = h0 := by rw [← hh, Bd.state]; rfl
  have N0 := Fr.nil n0
  refine own_out ?_
  refine own_via (fun t k => castTop (ef_5 m w25 a166) (XS.aloadN X0.here hx rfl (hb hby d6_0) rfl rfl (XS.ifnonnullYes X0.here hx rfl (pc0 := 1) (pc' := 13) rfl (hb hby d6_1) rfl (by decide) (by decide) (XS.aloadN X0.here hx rfl (hb hby d6_13) rfl rfl k)))) ?_
  show own_Goes p e below (s₁.setTop (mkF m 14 #[rv w25, rv a166] [(.ref w25)])) _
  obtain ⟨fs, hr, hrun, hended, hRW⟩ := X0.leaveW hS (by rw [e0]; first | exact hk0 | exact Nat.le_refl _) (v := some (.ref w25)) (fun h => by rw [Bd.returns] at h; cases h)
  refine own_end (t := s₁.setFrames fs) ?_ ⟨_, hrun, hended, _, _, rfl, ?_, own_rmono hRW (by decide) (by decide)⟩
  · jvm_step X0.here [X0.here.top, hx, (hb hby d6_14), X0.method', Bd.returns, Value.isRef, FieldType.isReference]
    first | (intro acts; rw [hr _ acts rfl rfl rfl]) | rw [hr _ _ rfl rfl rfl]
    exact Steps.refl _
  · show Q13 Z w25 a166 h0 n0 _ s₁.heap _
    rw [e0]
    exact ⟨rfl, N0, rfl⟩
theorem d7_7 : decode jdk_32_method_6_code 7 = .ok (.iconst 1, 1) := by decide +kernel
theorem d7_8 : decode jdk_32_method_6_code 8 = .ok (.goto 4, 3) := by decide +kernel
def Q14 (Z : State) (w25 : Addr) (w27 : Addr) (h0 : Heap) (n0 : Nat) (v : Option Value) (h : Heap) (L : List Loc) : Prop := v = some (.int (1 : Int32)) ∧ Fr n0 L ∧ h = h0
set_option maxRecDepth 65536 in
set_option maxHeartbeats 40000000 in
theorem rm14 (l : Launch) (Z : State) (a0 : Array Value) (hw : ∀ d ∈ tables_1, d.before a0 Z = true) (ws : List Jvm.Cond) (w25 : Addr) (w27 : Addr) (h0 : Heap) (n0 : Nat) (O0 : Old Z n0 h0) (SF_w25_value : Fld Z Z.heap w25 zs2 "value" zs3 (.ref w27)) :
    MetFree l (⟨zs2, "isPresent", "()Z"⟩ : MethodName) (head1 (Jvm.Cond.code (⟨zs2, "isPresent", "()Z"⟩ : MethodName) jdk_32_method_6_code 1 (some .boolean) :: ws) ({ frames := 0, cells := 0, slots := 0, locals := 0 } : Room)) (fun a U => a = #[(.ref w25)] ∧ Z.Warmed39 U.vm ∧ U.heap = h0) (fun _ _ _ _ _ => True) (fun _ U o U' => ∃ v L, o = .returned v ∧ Q14 Z w25 w27 h0 n0 v U'.heap L ∧ ReturnedEndW U o U' L ({ frames := 0, cells := 0, slots := 0, locals := 0 } : Room).cells ({ frames := 0, cells := 0, slots := 0, locals := 0 } : Room).slots) := by
  refine MetFree.of_bodySF (plainFor_of_name pn_2) hisR ?_
  intro p e s m args below meth c s₁ Bd hml0 hP hK
  obtain ⟨rfl, hZ, hh⟩ := hP
  have hx := Bd.exec
  have hby := Bd.bytes
  have hml : c.maxLocals = 1 := hml0
  have hown : s.vm.findClass zs2 = some m.cls := findClass_of_methodNamed Bd.named
  have hnm := (name_of_methodNamed Bd.named Bd.method).1
  have X0 : Stand p l e ({ frames := 0, cells := 0, slots := 0, locals := 0 } : Room) (s.setVm s.vm) m #[(.ref w25)] below meth c s₁ [] 0 0 := Stand.of_body Bd
  have hS : s.Since s.vm 0 := (State.WarmedH.refl s).since 0
  obtain ⟨k0, hk0, hS⟩ : ∃ k0, k0 ≤ h0.size ∧ s.Since s.vm k0 := ⟨0, Nat.zero_le _, hS⟩
  have hZ : Z.Warmed39 (s.setVm s.vm).vm := hZ
  have hown : (s.setVm s.vm).vm.findClass zs2 = some m.cls := hown
  have e0 : s₁.heap = h0 := by rw [← hh, Bd.state]; rfl
  have N0 := Fr.nil n0
  refine own_out ?_
  refine own_via (fun t k => castTop (ef_6 m w25) (XS.aloadN X0.here hx rfl (hb hby d7_0) rfl rfl k)) ?_
  obtain ⟨T183, X183, e183, st183⟩ := getF X0 hx hZ hown (host := "") (Or.inl (wd hw 42 rfl)) Via.refl e0 (SF_w25_value.ext O0.2) (g := (mkF m 1 #[rv w25] [(.ref w25)])) rfl rfl (hb hby d7_1)
  refine own_via (fun t k => st183 t (XS.ifnullNo X183.here hx rfl (hb hby d7_4) rfl (XS.iconst X183.here hx rfl (hb hby d7_7) (XS.goto X183.here hx rfl (pc0 := 8) (pc' := 12) rfl (hb hby d7_8) (by decide) (by decide) k)))) ?_
  show own_Goes p e below (T183.setTop (mkF m 12 #[rv w25] [(.int (1 : Int32))])) _
  obtain ⟨fs, hr, hrun, hended, hRW⟩ := X183.leaveW hS (by rw [e183]; first | exact hk0 | exact Nat.le_refl _) (v := some (.int (1 : Int32))) (fun h => by rw [Bd.returns] at h; cases h)
  refine own_end (t := T183.setFrames fs) ?_ ⟨_, hrun, hended, _, _, rfl, ?_, own_rmono hRW (by decide) (by decide)⟩
  · exact retN X183 hx (t := .boolean) Bd.returns (by simp) (hb hby d7_12) hr
  · show Q14 Z w25 w27 h0 n0 _ T183.heap _
    rw [e183]
    exact ⟨rfl, N0, rfl⟩
theorem d5_14 : decode prog_1_method_6_code 14 = .ok (.aload_n 0, 1) := by decide +kernel
theorem d5_15 : decode prog_1_method_6_code 15 = .ok (.invokevirtual 41, 3) := by decide +kernel
theorem d16_0 : decode jdk_32_method_5_code 0 = .ok (.aload_n 0, 1) := by decide +kernel
theorem d16_1 : decode jdk_32_method_5_code 1 = .ok (.getfield 13, 3) := by decide +kernel
theorem d16_4 : decode jdk_32_method_5_code 4 = .ok (.ifnonnull 13, 3) := by decide +kernel
theorem d16_17 : decode jdk_32_method_5_code 17 = .ok (.aload_n 0, 1) := by decide +kernel
theorem d16_18 : decode jdk_32_method_5_code 18 = .ok (.getfield 13, 3) := by decide +kernel
theorem d16_21 : decode jdk_32_method_5_code 21 = .ok (.areturn, 1) := by decide +kernel
theorem ef_10 (m : MethodId) (x0 : Addr) : entryFrame m #[(.ref x0)] 1 = mkF m 0 #[rv x0] [] := by first | (simp [entryFrame, mkF, argsToLocals, Value.category]; done) | rfl
def Q15 (Z : State) (w25 : Addr) (w27 : Addr) (h0 : Heap) (n0 : Nat) (v : Option Value) (h : Heap) (L : List Loc) : Prop := v = some (.ref w27) ∧ Fr n0 L ∧ h = h0
set_option maxRecDepth 65536 in
set_option maxHeartbeats 40000000 in
theorem rm15 (l : Launch) (Z : State) (a0 : Array Value) (hw : ∀ d ∈ tables_1, d.before a0 Z = true) (ws : List Jvm.Cond) (w25 : Addr) (w27 : Addr) (h0 : Heap) (n0 : Nat) (O0 : Old Z n0 h0) (SF_w25_value : Fld Z Z.heap w25 zs2 "value" zs3 (.ref w27)) :
    MetFree l (⟨zs2, "get", zs15⟩ : MethodName) (head1 (Jvm.Cond.code (⟨zs2, "get", zs15⟩ : MethodName) jdk_32_method_5_code 1 (some (.object zs5)) :: ws) ({ frames := 0, cells := 0, slots := 0, locals := 0 } : Room)) (fun a U => a = #[(.ref w25)] ∧ Z.Warmed39 U.vm ∧ U.heap = h0) (fun _ _ _ _ _ => True) (fun _ U o U' => ∃ v L, o = .returned v ∧ Q15 Z w25 w27 h0 n0 v U'.heap L ∧ ReturnedEndW U o U' L ({ frames := 0, cells := 0, slots := 0, locals := 0 } : Room).cells ({ frames := 0, cells := 0, slots := 0, locals := 0 } : Room).slots) := by
  refine MetFree.of_bodySF (plainFor_of_name pn_2) hisR ?_
  intro p e s m args below meth c s₁ Bd hml0 hP hK
  obtain ⟨rfl, hZ, hh⟩ := hP
  have hx := Bd.exec
  have hby := Bd.bytes
  have hml : c.maxLocals = 1 := hml0
  have hown : s.vm.findClass zs2 = some m.cls := findClass_of_methodNamed Bd.named
  have hnm := (name_of_methodNamed Bd.named Bd.method).1
  have X0 : Stand p l e ({ frames := 0, cells := 0, slots := 0, locals := 0 } : Room) (s.setVm s.vm) m #[(.ref w25)] below meth c s₁ [] 0 0 := Stand.of_body Bd
  have hS : s.Since s.vm 0 := (State.WarmedH.refl s).since 0
  obtain ⟨k0, hk0, hS⟩ : ∃ k0, k0 ≤ h0.size ∧ s.Since s.vm k0 := ⟨0, Nat.zero_le _, hS⟩
  have hZ : Z.Warmed39 (s.setVm s.vm).vm := hZ
  have hown : (s.setVm s.vm).vm.findClass zs2 = some m.cls := hown
  have e0 : s₁.heap = h0 := by rw [← hh, Bd.state]; rfl
  have N0 := Fr.nil n0
  refine own_out ?_
  refine own_via (fun t k => castTop (ef_10 m w25) (XS.aloadN X0.here hx rfl (hb hby d16_0) rfl rfl k)) ?_
  obtain ⟨T193, X193, e193, st193⟩ := getF X0 hx hZ hown (host := "") (Or.inl (wd hw 42 rfl)) Via.refl e0 (SF_w25_value.ext O0.2) (g := (mkF m 1 #[rv w25] [(.ref w25)])) rfl rfl (hb hby d16_1)
  refine own_via (fun t k => st193 t (XS.ifnonnullYes X193.here hx rfl (pc0 := 4) (pc' := 17) rfl (hb hby d16_4) rfl (by decide) (by decide) (XS.aloadN X193.here hx rfl (hb hby d16_17) rfl rfl k))) ?_
  show own_Goes p e below (T193.setTop (mkF m 18 #[rv w25] [(.ref w25)])) _
  obtain ⟨T194, X194, e194, st194⟩ := getF X193 hx hZ hown (host := "") (Or.inl (wd hw 42 rfl)) Via.refl e193 (SF_w25_value.ext O0.2) (g := (mkF m 18 #[rv w25] [(.ref w25)])) rfl rfl (hb hby d16_18)
  refine own_via (fun t k => st194 t k) ?_
  obtain ⟨fs, hr, hrun, hended, hRW⟩ := X194.leaveW hS (by rw [e194]; first | exact hk0 | exact Nat.le_refl _) (v := some (.ref w27)) (fun h => by rw [Bd.returns] at h; cases h)
  refine own_end (t := T194.setFrames fs) ?_ ⟨_, hrun, hended, _, _, rfl, ?_, own_rmono hRW (by decide) (by decide)⟩
  · jvm_step X194.here [X194.here.top, hx, (hb hby d16_21), X194.method', Bd.returns, Value.isRef, FieldType.isReference]
    first | (intro acts; rw [hr _ acts rfl rfl rfl]) | rw [hr _ _ rfl rfl rfl]
    exact Steps.refl _
  · show Q15 Z w25 w27 h0 n0 _ T194.heap _
    rw [e194]
    exact ⟨rfl, N0, rfl⟩
theorem pd_6 : parseMethodDescriptor "()Ljava/lang/Object;" = some ⟨[], some (.object "java/lang/Object")⟩ := by decide +kernel
theorem d5_18 : decode prog_1_method_6_code 18 = .ok (.checkcast 36, 3) := by decide +kernel
theorem d5_21 : decode prog_1_method_6_code 21 = .ok (.aconst_null, 1) := by decide +kernel
theorem d5_22 : decode prog_1_method_6_code 22 = .ok (.invokevirtual 54, 3) := by decide +kernel
theorem d17_0 : decode jdk_32_method_15_code 0 = .ok (.aload_n 0, 1) := by decide +kernel
theorem d17_1 : decode jdk_32_method_15_code 1 = .ok (.getfield 13, 3) := by decide +kernel
theorem d17_4 : decode jdk_32_method_15_code 4 = .ok (.ifnull 10, 3) := by decide +kernel
theorem d17_14 : decode jdk_32_method_15_code 14 = .ok (.aload_n 1, 1) := by decide +kernel
theorem d17_15 : decode jdk_32_method_15_code 15 = .ok (.areturn, 1) := by decide +kernel
theorem ef_11 (m : MethodId) (x0 : Addr) : entryFrame m #[(.ref x0), .null] 2 = mkF m 0 #[rv x0, .val .null] [] := by first | (simp [entryFrame, mkF, argsToLocals, Value.category]; done) | rfl
def Q16 (Z : State) (w27 : Addr) (h0 : Heap) (n0 : Nat) (v : Option Value) (h : Heap) (L : List Loc) : Prop := v = some .null ∧ Fr n0 L ∧ h = h0
set_option maxRecDepth 65536 in
set_option maxHeartbeats 40000000 in
theorem rm16 (l : Launch) (Z : State) (a0 : Array Value) (hw : ∀ d ∈ tables_1, d.before a0 Z = true) (ws : List Jvm.Cond) (w27 : Addr) (h0 : Heap) (n0 : Nat) (O0 : Old Z n0 h0) (SF_w27_value : Fld Z Z.heap w27 zs2 "value" zs3 .null) :
    MetFree l (⟨zs2, "orElse", zs7⟩ : MethodName) (head1 (Jvm.Cond.code (⟨zs2, "orElse", zs7⟩ : MethodName) jdk_32_method_15_code 2 (some (.object zs5)) :: ws) ({ frames := 0, cells := 0, slots := 0, locals := 0 } : Room)) (fun a U => a = #[(.ref w27), .null] ∧ Z.Warmed39 U.vm ∧ U.heap = h0) (fun _ _ _ _ _ => True) (fun _ U o U' => ∃ v L, o = .returned v ∧ Q16 Z w27 h0 n0 v U'.heap L ∧ ReturnedEndW U o U' L ({ frames := 0, cells := 0, slots := 0, locals := 0 } : Room).cells ({ frames := 0, cells := 0, slots := 0, locals := 0 } : Room).slots) := by
  refine MetFree.of_bodySF (plainFor_of_name pn_2) hisR ?_
  intro p e s m args below meth c s₁ Bd hml0 hP hK
  obtain ⟨rfl, hZ, hh⟩ := hP
  have hx := Bd.exec
  have hby := Bd.bytes
  have hml : c.maxLocals = 2 := hml0
  have hown : s.vm.findClass zs2 = some m.cls := findClass_of_methodNamed Bd.named
  have hnm := (name_of_methodNamed Bd.named Bd.method).1
  have X0 : Stand p l e ({ frames := 0, cells := 0, slots := 0, locals := 0 } : Room) (s.setVm s.vm) m #[(.ref w27), .null] below meth c s₁ [] 0 0 := Stand.of_body Bd
  have hS : s.Since s.vm 0 := (State.WarmedH.refl s).since 0
  obtain ⟨k0, hk0, hS⟩ : ∃ k0, k0 ≤ h0.size ∧ s.Since s.vm k0 := ⟨0, Nat.zero_le _, hS⟩
  have hZ : Z.Warmed39 (s.setVm s.vm).vm := hZ
  have hown : (s.setVm s.vm).vm.findClass zs2 = some m.cls := hown
  have e0 : s₁.heap = h0 := by rw [← hh, Bd.state]; rfl
  have N0 := Fr.nil n0
  refine own_out ?_
  refine own_via (fun t k => castTop (ef_11 m w27) (XS.aloadN X0.here hx rfl (hb hby d17_0) rfl rfl k)) ?_
  obtain ⟨T205, X205, e205, st205⟩ := getF X0 hx hZ hown (host := "") (Or.inl (wd hw 42 rfl)) Via.refl e0 (SF_w27_value.ext O0.2) (g := (mkF m 1 #[rv w27, .val .null] [(.ref w27)])) rfl rfl (hb hby d17_1)
  refine own_via (fun t k => st205 t (XS.ifnullYes X205.here hx rfl (pc0 := 4) (pc' := 14) rfl (hb hby d17_4) rfl (by decide) (by decide) (XS.aloadN X205.here hx rfl (hb hby d17_14) rfl rfl k))) ?_
  show own_Goes p e below (T205.setTop (mkF m 15 #[rv w27, .val .null] [.null])) _
  obtain ⟨fs, hr, hrun, hended, hRW⟩ := X205.leaveW hS (by rw [e205]; first | exact hk0 | exact Nat.le_refl _) (v := some .null) (fun h => by rw [Bd.returns] at h; cases h)
  refine own_end (t := T205.setFrames fs) ?_ ⟨_, hrun, hended, _, _, rfl, ?_, own_rmono hRW (by decide) (by decide)⟩
  · jvm_step X205.here [X205.here.top, hx, (hb hby d17_15), X205.method', Bd.returns, Value.isRef, FieldType.isReference]
    first | (intro acts; rw [hr _ acts rfl rfl rfl]) | rw [hr _ _ rfl rfl rfl]
    exact Steps.refl _
  · show Q16 Z w27 h0 n0 _ T205.heap _
    rw [e205]
    exact ⟨rfl, N0, rfl⟩
theorem pd_7 : parseMethodDescriptor "(Ljava/lang/Object;)Ljava/lang/Object;" = some ⟨[(.object "java/lang/Object")], some (.object "java/lang/Object")⟩ := by decide +kernel
theorem d5_25 : decode prog_1_method_6_code 25 = .ok (.invokestatic 45, 3) := by decide +kernel
theorem d10_0 : decode prog_1_method_4_code 0 = .ok (.aload_n 0, 1) := by decide +kernel
theorem d10_1 : decode prog_1_method_4_code 1 = .ok (.ifnonnull 7, 3) := by decide +kernel
theorem d10_4 : decode prog_1_method_4_code 4 = .ok (.invokestatic 20, 3) := by decide +kernel
theorem d10_7 : decode prog_1_method_4_code 7 = .ok (.areturn, 1) := by decide +kernel
theorem ef_12 (m : MethodId)  : entryFrame m #[.null] 1 = mkF m 0 #[.val .null] [] := by first | (simp [entryFrame, mkF, argsToLocals, Value.category]; done) | rfl
def Q17 (Z : State) (w23 : Addr) (h0 : Heap) (n0 : Nat) (v : Option Value) (h : Heap) (L : List Loc) : Prop := v = some (.ref w23) ∧ Fr n0 L ∧ h = h0
set_option maxRecDepth 65536 in
set_option maxHeartbeats 40000000 in
theorem rm17 (l : Launch) (Z : State) (a0 : Array Value) (hw : ∀ d ∈ tables_1, d.before a0 Z = true) (ws : List Jvm.Cond) (w23 : Addr) (h0 : Heap) (n0 : Nat) (O0 : Old Z n0 h0) (S_Tertium_NULL : Sta Z Z.heap zs1 "NULL" zs6 (.ref w23)) :
    MetFree l (⟨zs1, "of", zs11⟩ : MethodName) (head1 (Jvm.Cond.code (⟨zs1, "of", zs11⟩ : MethodName) prog_1_method_4_code 1 (some (.object zs1)) :: ws) ({ frames := 1, cells := 0, slots := 0, locals := 11 } : Room)) (fun a U => a = #[.null] ∧ Z.Warmed39 U.vm ∧ U.heap = h0) (fun _ _ _ _ _ => True) (fun _ U o U' => ∃ v L, o = .returned v ∧ Q17 Z w23 h0 n0 v U'.heap L ∧ ReturnedEndW U o U' L ({ frames := 1, cells := 0, slots := 0, locals := 11 } : Room).cells ({ frames := 1, cells := 0, slots := 0, locals := 11 } : Room).slots) := by
  refine MetFree.of_bodySF (plainFor_of_name pn_1) hisR ?_
  intro p e s m args below meth c s₁ Bd hml0 hP hK
  obtain ⟨rfl, hZ, hh⟩ := hP
  have hx := Bd.exec
  have hby := Bd.bytes
  have hml : c.maxLocals = 1 := hml0
  have hown : s.vm.findClass zs1 = some m.cls := findClass_of_methodNamed Bd.named
  have hnm := (name_of_methodNamed Bd.named Bd.method).1
  have X0 : Stand p l e ({ frames := 1, cells := 0, slots := 0, locals := 11 } : Room) (s.setVm s.vm) m #[.null] below meth c s₁ [] 0 0 := Stand.of_body Bd
  have hS : s.Since s.vm 0 := (State.WarmedH.refl s).since 0
  obtain ⟨k0, hk0, hS⟩ : ∃ k0, k0 ≤ h0.size ∧ s.Since s.vm k0 := ⟨0, Nat.zero_le _, hS⟩
  have hZ : Z.Warmed39 (s.setVm s.vm).vm := hZ
  have hown : (s.setVm s.vm).vm.findClass zs1 = some m.cls := hown
  have e0 : s₁.heap = h0 := by rw [← hh, Bd.state]; rfl
  have N0 := Fr.nil n0
  refine own_out ?_
  refine own_via (fun t k => castTop (ef_12 m ) (XS.aloadN X0.here hx rfl (hb hby d10_0) rfl rfl (XS.ifnonnullNo X0.here hx rfl (hb hby d10_1) rfl k))) ?_
  show own_Goes p e below (s₁.setTop (mkF m 4 #[.val .null] [])) _
  obtain ⟨_, T215, _, X215, hQ215, hS, hZ, hown, st215⟩ := own_csS X0 hx hZ hS hk0 hown (wd hw 130 rfl) (wd hw 126 rfl) (wd hw 127 rfl) (wd hw 3 rfl) (by decide) (rm9 l Z a0 hw [] w23 h0 n0 O0 S_Tertium_NULL) e0 (g := (mkF m 4 #[.val .null] [])) rfl (by rw [hml]; rfl) (rest := []) (W := 0) (lenOf pd_1 rfl) rfl (by show 2 * 0 + _ ≤ _; exact Nat.le_of_eq rfl) (hb hby d10_4) (by decide) (by decide) (by decide) (by decide)
  obtain ⟨rfl, Nq215, hh216⟩ := hQ215
  have N215 := Fr.app N0 Nq215
  have hk217 : T215.heap.size ≤ h0.size := Nat.le_of_eq (congrArg Array.size hh216)
  refine own_via (fun t k => st215 t k) ?_
  obtain ⟨fs, hr, hrun, hended, hRW⟩ := X215.leaveW hS (by rw [hh216]; first | exact hk217 | exact Nat.le_refl _) (v := some (.ref w23)) (fun h => by rw [Bd.returns] at h; cases h)
  refine own_end (t := T215.setFrames fs) ?_ ⟨_, hrun, hended, _, _, rfl, ?_, own_rmono hRW (by decide) (by decide)⟩
  · jvm_step X215.here [X215.here.top, hx, (hb hby d10_7), X215.method', Bd.returns, Value.isRef, FieldType.isReference]
    first | (intro acts; rw [hr _ acts rfl rfl rfl]) | rw [hr _ _ rfl rfl rfl]
    exact Steps.refl _
  · show Q17 Z w23 h0 n0 _ T215.heap _
    rw [hh216]
    exact ⟨rfl, N215, rfl⟩
theorem pd_8 : parseMethodDescriptor "(Ljava/lang/Object;)Ltertium/Tertium;" = some ⟨[(.object "java/lang/Object")], some (.object "tertium/Tertium")⟩ := by decide +kernel
theorem d5_28 : decode prog_1_method_6_code 28 = .ok (.goto 6, 3) := by decide +kernel
def Q18 (Z : State) (w25 : Addr) (w27 : Addr) (w23 : Addr) (h0 : Heap) (n0 : Nat) (v : Option Value) (h : Heap) (L : List Loc) : Prop := v = some (.ref w23) ∧ Fr n0 L ∧ Keep h0 h []
set_option maxRecDepth 65536 in
set_option maxHeartbeats 40000000 in
theorem rm18 (l : Launch) (Z : State) (a0 : Array Value) (hw : ∀ d ∈ tables_1, d.before a0 Z = true) (ws : List Jvm.Cond) (w25 : Addr) (w27 : Addr) (w23 : Addr) (h0 : Heap) (n0 : Nat) (O0 : Old Z n0 h0) (SF_w25_value : Fld Z Z.heap w25 zs2 "value" zs3 (.ref w27)) (SE_w25 : Exa Z Z.heap w25 zs2) (SE_w27 : Exa Z Z.heap w27 zs2) (SF_w27_value : Fld Z Z.heap w27 zs2 "value" zs3 .null) (S_Tertium_NULL : Sta Z Z.heap zs1 "NULL" zs6 (.ref w23)) :
    MetFree l (⟨zs1, zs18, zs10⟩ : MethodName) (head1 (Jvm.Cond.code (⟨zs1, zs18, zs10⟩ : MethodName) prog_1_method_6_code 1 (some (.object zs1)) :: ws) ({ frames := 2, cells := 2, slots := 28, locals := 23 } : Room)) (fun a U => a = #[(.ref w25)] ∧ Z.Warmed39 U.vm ∧ U.heap = h0) (fun _ _ _ _ _ => True) (fun _ U o U' => ∃ v L, o = .returned v ∧ Q18 Z w25 w27 w23 h0 n0 v U'.heap L ∧ ReturnedEndW U o U' L ({ frames := 2, cells := 2, slots := 28, locals := 23 } : Room).cells ({ frames := 2, cells := 2, slots := 28, locals := 23 } : Room).slots) := by
  refine MetFree.of_bodySF (plainFor_of_name pn_1) hisR ?_
  intro p e s m args below meth c s₁ Bd hml0 hP hK
  obtain ⟨rfl, hZ, hh⟩ := hP
  have hx := Bd.exec
  have hby := Bd.bytes
  have hml : c.maxLocals = 1 := hml0
  have hown : s.vm.findClass zs1 = some m.cls := findClass_of_methodNamed Bd.named
  have hnm := (name_of_methodNamed Bd.named Bd.method).1
  have X0 : Stand p l e ({ frames := 2, cells := 2, slots := 28, locals := 23 } : Room) (s.setVm s.vm) m #[(.ref w25)] below meth c s₁ [] 0 0 := Stand.of_body Bd
  have hS : s.Since s.vm 0 := (State.WarmedH.refl s).since 0
  obtain ⟨k0, hk0, hS⟩ : ∃ k0, k0 ≤ h0.size ∧ s.Since s.vm k0 := ⟨0, Nat.zero_le _, hS⟩
  have hZ : Z.Warmed39 (s.setVm s.vm).vm := hZ
  have hown : (s.setVm s.vm).vm.findClass zs1 = some m.cls := hown
  have e0 : s₁.heap = h0 := by rw [← hh, Bd.state]; rfl
  have N0 := Fr.nil n0
  refine own_out ?_
  refine own_via (fun t k => castTop (ef_7 m w25) (XS.aloadN X0.here hx rfl (hb hby d5_0) rfl rfl k)) ?_
  obtain ⟨b164, T163, h163, k163, X163, e163, E163, hS, hk163, hZ, hown, st163⟩ := ldcS X0 hx hZ hown (wd hw 25 rfl) (own_strAtoms hw) e0 hS hk0 (g := (mkF m 1 #[rv w25] [(.ref w25)])) rfl (hb hby d5_1) (n := 24) (by decide) (by decide) (by decide) (by decide)
  refine own_via (fun t k => st163 t k) ?_
  have O173 : Old Z n0 h163 := (O0.ext E163)
  obtain ⟨_, T165, _, X165, hQ165, hS, hZ, hown, st165⟩ := own_csS X163 hx hZ hS hk163 hown (wd hw 33 rfl) (wd hw 34 rfl) (wd hw 36 rfl) (wd hw 35 rfl) (by decide) (rm13 l Z a0 hw [] w25 b164 h163 n0 O173 ) e163 (g := (mkF m 3 #[rv w25] [(.ref b164), (.ref w25)])) rfl (by rw [hml]; rfl) (rest := []) (W := 0) (lenOf pd_4 rfl) rfl (by show 2 * 0 + _ ≤ _; exact Nat.le_of_eq rfl) (hb hby d5_3) (by decide) (by decide) (by decide) (by decide)
  obtain ⟨rfl, Nq165, hh174⟩ := hQ165
  have N165 := Fr.app N0 Nq165
  have hk175 : T165.heap.size ≤ h163.size := Nat.le_of_eq (congrArg Array.size hh174)
  refine own_via (fun t k => st165 t (XS.pop X165.here hx rfl (hb hby d5_6) rfl rfl (XS.aloadN X165.here hx rfl (hb hby d5_7) rfl rfl k))) ?_
  show own_Goes p e below (T165.setTop (mkF m 8 #[rv w25] [(.ref w25)])) _
  obtain ⟨_, T176, _, X176, hQ176, hS, hZ, hown, st176⟩ := own_cvS X165 hx hZ hS hk175 hown (wd hw 37 rfl) (wd hw 38 rfl) (wd hw 40 rfl) (wd hw 39 rfl) (wd hw 41 rfl) (wd hw 19 rfl) (by decide) (rm14 l Z a0 hw [] w25 w27 h163 n0 O173 SF_w25_value) hh174 (SE_w25.ext O173.2) (g := (mkF m 8 #[rv w25] [(.ref w25)])) rfl (by rw [hml]; rfl) (rest := []) (W := 0) (lenOf pd_2 rfl) rfl (by show 2 * 0 + _ ≤ _; exact Nat.le_of_eq rfl) (hb hby d5_8) (by decide) (by decide) (by decide) (by decide)
  obtain ⟨rfl, Nq176, hh184⟩ := hQ176
  have N176 := Fr.app N165 Nq176
  have hk185 : T176.heap.size ≤ h163.size := Nat.le_of_eq (congrArg Array.size hh184)
  refine own_via (fun t k => st176 t (XS.ifNo X176.here hx rfl (hb hby d5_11) rfl ((if0 _ _).trans (feq (by decide : ¬ ((1 : Int32) = (0 : Int32)))).1) (XS.aloadN X176.here hx rfl (hb hby d5_14) rfl rfl k))) ?_
  show own_Goes p e below (T176.setTop (mkF m 15 #[rv w25] [(.ref w25)])) _
  obtain ⟨_, T186, _, X186, hQ186, hS, hZ, hown, st186⟩ := own_cvS X176 hx hZ hS hk185 hown (wd hw 87 rfl) (wd hw 88 rfl) (wd hw 90 rfl) (wd hw 89 rfl) (wd hw 91 rfl) (wd hw 19 rfl) (by decide) (rm15 l Z a0 hw [] w25 w27 h163 n0 O173 SF_w25_value) hh184 (SE_w25.ext O173.2) (g := (mkF m 15 #[rv w25] [(.ref w25)])) rfl (by rw [hml]; rfl) (rest := []) (W := 0) (lenOf pd_6 rfl) rfl (by show 2 * 0 + _ ≤ _; exact Nat.le_of_eq rfl) (hb hby d5_15) (by decide) (by decide) (by decide) (by decide)
  obtain ⟨rfl, Nq186, hh195⟩ := hQ186
  have N186 := Fr.app N176 Nq186
  have hk196 : T186.heap.size ≤ h163.size := Nat.le_of_eq (congrArg Array.size hh195)
  refine own_via (fun t k => st186 t k) ?_
  obtain ⟨T197, X197, e197, st197⟩ := castY X186 hx hZ hown (wd hw 92 rfl) hh195 (Ins.self (SE_w27.ext O173.2)) (g := (mkF m 18 #[rv w25] [(.ref w27)])) rfl rfl (hb hby d5_18)
  refine own_via (fun t k => st197 t (XS.aconstNull X197.here hx rfl (hb hby d5_21) k)) ?_
  obtain ⟨_, T198, _, X198, hQ198, hS, hZ, hown, st198⟩ := own_cvS X197 hx hZ hS hk196 hown (wd hw 93 rfl) (wd hw 94 rfl) (wd hw 96 rfl) (wd hw 95 rfl) (wd hw 97 rfl) (wd hw 19 rfl) (by decide) (rm16 l Z a0 hw [] w27 h163 n0 O173 SF_w27_value) e197 (SE_w27.ext O173.2) (g := (mkF m 22 #[rv w25] [.null, (.ref w27)])) rfl (by rw [hml]; rfl) (rest := []) (W := 0) (lenOf pd_7 rfl) rfl (by show 2 * 0 + _ ≤ _; exact Nat.le_of_eq rfl) (hb hby d5_22) (by decide) (by decide) (by decide) (by decide)
  obtain ⟨rfl, Nq198, hh206⟩ := hQ198
  have N198 := Fr.app N186 Nq198
  have hk207 : T198.heap.size ≤ h163.size := Nat.le_of_eq (congrArg Array.size hh206)
  refine own_via (fun t k => st198 t k) ?_
  obtain ⟨_, T208, _, X208, hQ208, hS, hZ, hown, st208⟩ := own_csS X198 hx hZ hS hk207 hown (wd hw 98 rfl) (wd hw 61 rfl) (wd hw 62 rfl) (wd hw 3 rfl) (by decide) (rm17 l Z a0 hw [] w23 h163 n0 O173 S_Tertium_NULL) hh206 (g := (mkF m 25 #[rv w25] [.null])) rfl (by rw [hml]; rfl) (rest := []) (W := 0) (lenOf pd_8 rfl) rfl (by show 2 * 0 + _ ≤ _; exact Nat.le_of_eq rfl) (hb hby d5_25) (by decide) (by decide) (by decide) (by decide)
  obtain ⟨rfl, Nq208, hh218⟩ := hQ208
  have N208 := Fr.app N198 Nq208
  have hk219 : T208.heap.size ≤ h163.size := Nat.le_of_eq (congrArg Array.size hh218)
  refine own_via (fun t k => st208 t (XS.goto X208.here hx rfl (pc0 := 28) (pc' := 34) rfl (hb hby d5_28) (by decide) (by decide) k)) ?_
  obtain ⟨fs, hr, hrun, hended, hRW⟩ := X208.leaveW hS (by rw [hh218]; first | exact hk219 | exact Nat.le_refl _) (v := some (.ref w23)) (fun h => by rw [Bd.returns] at h; cases h)
  refine own_end (t := T208.setFrames fs) ?_ ⟨_, hrun, hended, _, _, rfl, ?_, own_rmono hRW (by decide) (by decide)⟩
  · jvm_step X208.here [X208.here.top, hx, (hb hby d5_34), X208.method', Bd.returns, Value.isRef, FieldType.isReference]
    first | (intro acts; rw [hr _ acts rfl rfl rfl]) | rw [hr _ _ rfl rfl rfl]
    exact Steps.refl _
  · show Q18 Z w25 w27 w23 h0 n0 _ T208.heap _
    rw [hh218]
    exact ⟨rfl, N208, ((Keep.refl h0 []).ext E163)⟩
theorem d9_0 : decode jdk_33_method_22_code 0 = .ok (.iload_n 0, 1) := by decide +kernel
theorem d9_1 : decode jdk_33_method_22_code 1 = .ok (.bipush (-128), 2) := by decide +kernel
theorem d9_3 : decode jdk_33_method_22_code 3 = .ok (.if_icmp .lt 20, 3) := by decide +kernel
theorem d9_23 : decode jdk_33_method_22_code 23 = .ok (.new 1, 3) := by decide +kernel
theorem d9_26 : decode jdk_33_method_22_code 26 = .ok (.dup, 1) := by decide +kernel
theorem d9_27 : decode jdk_33_method_22_code 27 = .ok (.iload_n 0, 1) := by decide +kernel
theorem d9_28 : decode jdk_33_method_22_code 28 = .ok (.invokespecial 199, 3) := by decide +kernel
theorem d20_0 : decode jdk_33_method_23_code 0 = .ok (.aload_n 0, 1) := by decide +kernel
theorem d20_1 : decode jdk_33_method_23_code 1 = .ok (.invokespecial 202, 3) := by decide +kernel
theorem d21_0 : decode jdk_18_method_1_code 0 = .ok (.aload_n 0, 1) := by decide +kernel
theorem d21_1 : decode jdk_18_method_1_code 1 = .ok (.invokespecial 1, 3) := by decide +kernel
theorem d21_4 : decode jdk_18_method_1_code 4 = .ok (.return_, 1) := by decide +kernel
theorem ef_13 (m : MethodId) (x0 : Addr) : entryFrame m #[(.ref x0)] 1 = mkF m 0 #[rv x0] [] := by first | (simp [entryFrame, mkF, argsToLocals, Value.category]; done) | rfl
theorem pn_4 : plainName "java/lang/Number" = true := by first | (simp [plainName, overriddenIn]; done) | decide +kernel
def Q19 (Z : State) (a254 : Addr) (h0 : Heap) (n0 : Nat) (v : Option Value) (h : Heap) (L : List Loc) : Prop := v = none ∧ Fr n0 L ∧ h = h0
set_option maxRecDepth 65536 in
set_option maxHeartbeats 40000000 in
theorem rm19 (l : Launch) (Z : State) (a0 : Array Value) (hw : ∀ d ∈ tables_1, d.before a0 Z = true) (ws : List Jvm.Cond) (a254 : Addr) (h0 : Heap) (n0 : Nat) (O0 : Old Z n0 h0) :
    MetFree l (⟨zs22, "<init>", "()V"⟩ : MethodName) (head1 (Jvm.Cond.code (⟨zs22, "<init>", "()V"⟩ : MethodName) jdk_18_method_1_code 1 none :: ws) ({ frames := 1, cells := 0, slots := 0, locals := 12 } : Room)) (fun a U => a = #[(.ref a254)] ∧ Z.Warmed39 U.vm ∧ U.heap = h0) (fun _ _ _ _ _ => True) (fun _ U o U' => ∃ v L, o = .returned v ∧ Q19 Z a254 h0 n0 v U'.heap L ∧ ReturnedEndW U o U' L ({ frames := 1, cells := 0, slots := 0, locals := 12 } : Room).cells ({ frames := 1, cells := 0, slots := 0, locals := 12 } : Room).slots) := by
  refine MetFree.of_bodySF (plainFor_of_name pn_4) hisR ?_
  intro p e s m args below meth c s₁ Bd hml0 hP hK
  obtain ⟨rfl, hZ, hh⟩ := hP
  have hx := Bd.exec
  have hby := Bd.bytes
  have hml : c.maxLocals = 1 := hml0
  have hown : s.vm.findClass zs22 = some m.cls := findClass_of_methodNamed Bd.named
  have hnm := (name_of_methodNamed Bd.named Bd.method).1
  have X0 : Stand p l e ({ frames := 1, cells := 0, slots := 0, locals := 12 } : Room) (s.setVm s.vm) m #[(.ref a254)] below meth c s₁ [] 0 0 := Stand.of_body Bd
  have hS : s.Since s.vm 0 := (State.WarmedH.refl s).since 0
  obtain ⟨k0, hk0, hS⟩ : ∃ k0, k0 ≤ h0.size ∧ s.Since s.vm k0 := ⟨0, Nat.zero_le _, hS⟩
  have hZ : Z.Warmed39 (s.setVm s.vm).vm := hZ
  have hown : (s.setVm s.vm).vm.findClass zs22 = some m.cls := hown
  have e0 : s₁.heap = h0 := by rw [← hh, Bd.state]; rfl
  have N0 := Fr.nil n0
  refine own_out ?_
  refine own_via (fun t k => castTop (ef_13 m a254) (XS.aloadN X0.here hx rfl (hb hby d21_0) rfl rfl k)) ?_
  obtain ⟨T264, X264, e264, st264⟩ := initO X0 hx hZ hown (wd hw 124 rfl) (wd hw 69 rfl) (wd hw 70 rfl) e0 (g := (mkF m 1 #[rv a254] [(.ref a254)])) rfl (by rw [hml]; rfl) rfl (hb hby d21_1) (by decide) (W := 0) (by show 2 * 0 + _ ≤ _; exact Nat.le_of_eq rfl) (by decide)
  refine own_via (fun t k => st264 t k) ?_
  obtain ⟨fs, hr, hrun, hended, hRW⟩ := X264.leaveW hS (by rw [e264]; first | exact hk0 | exact Nat.le_refl _) (v := none) (fun _ => rfl)
  refine own_end (t := T264.setFrames fs) ?_ ⟨_, hrun, hended, _, _, rfl, ?_, own_rmono hRW (by decide) (by decide)⟩
  · exact X264.returnOut hx Bd.returns (hb hby d21_4) hr
  · show Q19 Z a254 h0 n0 _ T264.heap _
    rw [e264]
    exact ⟨rfl, N0, rfl⟩
theorem pd_9 : parseMethodDescriptor "()V" = some ⟨[], none⟩ := by decide +kernel
theorem d20_4 : decode jdk_33_method_23_code 4 = .ok (.aload_n 0, 1) := by decide +kernel
theorem d20_5 : decode jdk_33_method_23_code 5 = .ok (.iload_n 1, 1) := by decide +kernel
theorem d20_6 : decode jdk_33_method_23_code 6 = .ok (.putfield 205, 3) := by decide +kernel
theorem d20_9 : decode jdk_33_method_23_code 9 = .ok (.return_, 1) := by decide +kernel
theorem ef_14 (m : MethodId) (x0 : Addr) (x1 : Int32) : entryFrame m #[(.ref x0), (.int x1)] 2 = mkF m 0 #[rv x0, iv x1] [] := by first | (simp [entryFrame, mkF, argsToLocals, Value.category]; done) | rfl
theorem pn_5 : plainName "java/lang/Integer" = true := by first | (simp [plainName, overriddenIn]; done) | decide +kernel
def Q20 (Z : State) (a243 : Addr) (p244 : Int32) (p245 : Int32) (h0 : Heap) (n0 : Nat) (v : Option Value) (h : Heap) (L : List Loc) : Prop := v = none ∧ Fr n0 L ∧ Keep h0 h [a243] ∧ Exa Z h a243 zs4 ∧ Fld Z h a243 zs4 "value" "I" (.int p244)
set_option maxRecDepth 65536 in
set_option maxHeartbeats 40000000 in
theorem rm20 (l : Launch) (Z : State) (a0 : Array Value) (hw : ∀ d ∈ tables_1, d.before a0 Z = true) (ws : List Jvm.Cond) (a243 : Addr) (p244 : Int32) (p245 : Int32) (h0 : Heap) (n0 : Nat) (O0 : Old Z n0 h0) (pF_a243_value : Fld Z h0 a243 zs4 "value" "I" (.int p245)) (pE_a243 : Exa Z h0 a243 zs4) (pG_a243 : n0 ≤ a243) :
    MetFree l (⟨zs4, "<init>", "(I)V"⟩ : MethodName) (head1 (Jvm.Cond.code (⟨zs4, "<init>", "(I)V"⟩ : MethodName) jdk_33_method_23_code 2 none :: ws) ({ frames := 2, cells := 0, slots := 0, locals := 24 } : Room)) (fun a U => a = #[(.ref a243), (.int p244)] ∧ Z.Warmed39 U.vm ∧ U.heap = h0) (fun _ _ _ _ _ => True) (fun _ U o U' => ∃ v L, o = .returned v ∧ Q20 Z a243 p244 p245 h0 n0 v U'.heap L ∧ ReturnedEndW U o U' L ({ frames := 2, cells := 0, slots := 0, locals := 24 } : Room).cells ({ frames := 2, cells := 0, slots := 0, locals := 24 } : Room).slots) := by
  refine MetFree.of_bodySF (plainFor_of_name pn_5) hisR ?_
  intro p e s m args below meth c s₁ Bd hml0 hP hK
  obtain ⟨rfl, hZ, hh⟩ := hP
  have hx := Bd.exec
  have hby := Bd.bytes
  have hml : c.maxLocals = 2 := hml0
  have hown : s.vm.findClass zs4 = some m.cls := findClass_of_methodNamed Bd.named
  have hnm := (name_of_methodNamed Bd.named Bd.method).1
  have X0 : Stand p l e ({ frames := 2, cells := 0, slots := 0, locals := 24 } : Room) (s.setVm s.vm) m #[(.ref a243), (.int p244)] below meth c s₁ [] 0 0 := Stand.of_body Bd
  have hS : s.Since s.vm 0 := (State.WarmedH.refl s).since 0
  obtain ⟨k0, hk0, hS⟩ : ∃ k0, k0 ≤ h0.size ∧ s.Since s.vm k0 := ⟨0, Nat.zero_le _, hS⟩
  have hZ : Z.Warmed39 (s.setVm s.vm).vm := hZ
  have hown : (s.setVm s.vm).vm.findClass zs4 = some m.cls := hown
  have e0 : s₁.heap = h0 := by rw [← hh, Bd.state]; rfl
  have N0 := Fr.nil n0
  refine own_out ?_
  refine own_via (fun t k => castTop (ef_14 m a243 p244) (XS.aloadN X0.here hx rfl (hb hby d20_0) rfl rfl k)) ?_
  obtain ⟨_, T253, _, X253, hQ253, hS, hZ, hown, st253⟩ := own_ciS X0 hx hZ hS hk0 hown (wd hw 118 rfl) (wd hw 119 rfl) (wd hw 123 rfl) (wd hw 122 rfl) rfl (by decide) (rm19 l Z a0 hw [] a243 h0 n0 O0 ) e0 (g := (mkF m 1 #[rv a243, iv p244] [(.ref a243)])) rfl (by rw [hml]; rfl) (rest := []) (W := 0) (lenOf pd_9 rfl) rfl (by show 2 * 0 + _ ≤ _; exact Nat.le_of_eq rfl) (hb hby d20_1) (by decide) (by decide) (by decide) (by decide)
  obtain ⟨rfl, Nq253, hh265⟩ := hQ253
  have N253 := Fr.app N0 Nq253
  have hk266 : T253.heap.size ≤ h0.size := Nat.le_of_eq (congrArg Array.size hh265)
  refine own_via (fun t k => st253 t (XS.aloadN X253.here hx rfl (hb hby d20_4) rfl rfl (XS.iloadN X253.here hx rfl (hb hby d20_5) rfl k))) ?_
  show own_Goes p e below (T253.setTop (mkF m 6 #[rv a243, iv p244] [(.int p244), (.ref a243)])) _
  obtain ⟨T267, h267, X267, e267, W267, st267⟩ := putF X253 hx hZ hown (host := "") (Or.inl (wd hw 111 rfl)) Via.refl hh265 pF_a243_value pE_a243 (Or.inr ⟨(wd hw 112 rfl), rfl, hnm⟩) (wd hw 114 rfl) (ty := .int) (by decide) rfl rfl (g := (mkF m 6 #[rv a243, iv p244] [(.int p244), (.ref a243)])) rfl rfl (hb hby d20_6)
  refine own_via (fun t k => st267 t k) ?_
  have Fw267 : Fld Z h267 a243 zs4 "value" "I" (.int p244) := pF_a243_value.same W267
  have N267 := Fr.snoc X267 N253 pG_a243
  show own_Goes p e below (T267.setTop (mkF m 9 #[rv a243, iv p244] [])) _
  have K268 : T253.heap.size ≤ h267.size := (Nat.le_trans hk266 (Nat.le_of_eq W267.size.symm))
  obtain ⟨fs, hr, hrun, hended, hRW⟩ := X267.leaveW hS (by rw [e267]; first | exact K268 | exact Nat.le_refl _) (v := none) (fun _ => rfl)
  refine own_end (t := T267.setFrames fs) ?_ ⟨_, hrun, hended, _, _, rfl, ?_, own_rmono hRW (by decide) (by decide)⟩
  · exact X267.returnOut hx Bd.returns (hb hby d20_9) hr
  have E269 : Exa Z h267 a243 zs4 := (pE_a243.wr W267)
  · show Q20 Z a243 p244 p245 h0 n0 _ T267.heap _
    rw [e267]
    exact ⟨rfl, N267, ((Keep.refl h0 [a243]).wr W267 (Or.inl (List.mem_of_getElem? (i := 0) rfl))), E269, Fw267⟩
theorem pd_10 : parseMethodDescriptor "(I)V" = some ⟨[.int], none⟩ := by decide +kernel
theorem d9_31 : decode jdk_33_method_22_code 31 = .ok (.areturn, 1) := by decide +kernel
theorem d9_6 : decode jdk_33_method_22_code 6 = .ok (.iload_n 0, 1) := by decide +kernel
theorem d9_7 : decode jdk_33_method_22_code 7 = .ok (.getstatic 191, 3) := by decide +kernel
theorem d9_10 : decode jdk_33_method_22_code 10 = .ok (.if_icmp .gt 13, 3) := by decide +kernel
theorem d9_13 : decode jdk_33_method_22_code 13 = .ok (.getstatic 195, 3) := by decide +kernel
theorem d9_16 : decode jdk_33_method_22_code 16 = .ok (.iload_n 0, 1) := by decide +kernel
theorem d9_17 : decode jdk_33_method_22_code 17 = .ok (.sipush 128, 3) := by decide +kernel
theorem d9_20 : decode jdk_33_method_22_code 20 = .ok (.iadd, 1) := by decide +kernel
theorem d9_21 : decode jdk_33_method_22_code 21 = .ok (.aaload, 1) := by decide +kernel
theorem d9_22 : decode jdk_33_method_22_code 22 = .ok (.areturn, 1) := by decide +kernel
theorem ef_15 (m : MethodId) (x0 : Int32) : entryFrame m #[(.int x0)] 1 = mkF m 0 #[iv x0] [] := by first | (simp [entryFrame, mkF, argsToLocals, Value.category]; done) | rfl
def Q21 (Z : State) (p229 : Int32) (w31 : Addr) (cl33 : Cell) (h0 : Heap) (n0 : Nat) (v : Option Value) (h : Heap) (L : List Loc) : Prop := ((∃ (b238 : Addr), p229 < (-128 : Int32) ∧ v = some (.ref b238) ∧ Fr n0 L ∧ Keep h0 h [] ∧ h0.size ≤ b238 ∧ Exa Z h b238 zs4 ∧ Fld Z h b238 zs4 "value" "I" (.int p229))) ∨ ((∃ (b278 : Addr), ¬ (p229 < (-128 : Int32)) ∧ (127 : Int32) < p229 ∧ v = some (.ref b278) ∧ Fr n0 L ∧ Keep h0 h [] ∧ h0.size ≤ b278 ∧ Exa Z h b278 zs4 ∧ Fld Z h b278 zs4 "value" "I" (.int p229))) ∨ ((∃ (b290 : Addr), ¬ (p229 < (-128 : Int32)) ∧ ¬ ((127 : Int32) < p229) ∧ v = some (.ref b290) ∧ Fr n0 L ∧ Exa Z Z.heap b290 zs4 ∧ Fld Z Z.heap b290 zs4 "value" "I" (.int p229) ∧ h = h0))
set_option maxRecDepth 65536 in
set_option maxHeartbeats 40000000 in
theorem rm21 (l : Launch) (Z : State) (a0 : Array Value) (hw : ∀ d ∈ tables_1, d.before a0 Z = true) (ws : List Jvm.Cond) (p229 : Int32) (w31 : Addr) (cl33 : Cell) (h0 : Heap) (n0 : Nat) (O0 : Old Z n0 h0) (S_Integer_IntegerCache_high : Sta Z Z.heap zs16 "high" "I" (.int (127 : Int32))) (S_Integer_IntegerCache_cache : Sta Z Z.heap zs16 "cache" zs23 (.ref w31)) (BX_w31 : Bxs Z w31 cl33 zs4 "I" (256 : Int32) (fun j => .int (j - (128 : Int32)))) :
    MetFree l (⟨zs4, "valueOf", "(I)Ljava/lang/Integer;"⟩ : MethodName) (head1 (Jvm.Cond.code (⟨zs4, "valueOf", "(I)Ljava/lang/Integer;"⟩ : MethodName) jdk_33_method_22_code 1 (some (.object zs4)) :: ws) ({ frames := 3, cells := 1, slots := 1, locals := 38 } : Room)) (fun a U => a = #[(.int p229)] ∧ Z.Warmed39 U.vm ∧ U.heap = h0) (fun _ _ _ _ _ => True) (fun _ U o U' => ∃ v L, o = .returned v ∧ Q21 Z p229 w31 cl33 h0 n0 v U'.heap L ∧ ReturnedEndW U o U' L ({ frames := 3, cells := 1, slots := 1, locals := 38 } : Room).cells ({ frames := 3, cells := 1, slots := 1, locals := 38 } : Room).slots) := by
  refine MetFree.of_bodySF (plainFor_of_name pn_5) hisR ?_
  intro p e s m args below meth c s₁ Bd hml0 hP hK
  obtain ⟨rfl, hZ, hh⟩ := hP
  have hx := Bd.exec
  have hby := Bd.bytes
  have hml : c.maxLocals = 1 := hml0
  have hown : s.vm.findClass zs4 = some m.cls := findClass_of_methodNamed Bd.named
  have hnm := (name_of_methodNamed Bd.named Bd.method).1
  have X0 : Stand p l e ({ frames := 3, cells := 1, slots := 1, locals := 38 } : Room) (s.setVm s.vm) m #[(.int p229)] below meth c s₁ [] 0 0 := Stand.of_body Bd
  have hS : s.Since s.vm 0 := (State.WarmedH.refl s).since 0
  obtain ⟨k0, hk0, hS⟩ : ∃ k0, k0 ≤ h0.size ∧ s.Since s.vm k0 := ⟨0, Nat.zero_le _, hS⟩
  have hZ : Z.Warmed39 (s.setVm s.vm).vm := hZ
  have hown : (s.setVm s.vm).vm.findClass zs4 = some m.cls := hown
  have e0 : s₁.heap = h0 := by rw [← hh, Bd.state]; rfl
  have N0 := Fr.nil n0
  refine own_out ?_
  refine own_via (fun t k => castTop (ef_15 m p229) (XS.iloadN X0.here hx rfl (hb hby d9_0) rfl (XS.bipush X0.here hx rfl (hb hby d9_1) k))) ?_
  show own_Goes p e below (s₁.setTop (mkF m 3 #[iv p229] [(.int (-128 : Int32)), (.int p229)])) _
  by_cases hc236 : p229 < (-128 : Int32)
  · refine own_via (fun t k => XS.icmpYes X0.here hx rfl (pc0 := 3) (pc' := 23) rfl (hb hby d9_3) rfl (tlt hc236).1 (by decide) (by decide) k) ?_
    obtain ⟨T237, h237, X237, e237, E237, A237, D237, -, st237⟩ := newO X0 hx hZ hown (wd hw 113 rfl) (wd hw 114 rfl) (wd hw 55 rfl) e0 (g := (mkF m 23 #[iv p229] [])) rfl (hb hby d9_23) (by decide) (by decide)
    obtain ⟨b238, q237⟩ : ∃ z, z = h0.size := ⟨_, rfl⟩
    rw [← q237] at A237 D237 st237
    refine own_via (fun t k => st237 t k) ?_
    have g239 : n0 ≤ b238 := Nat.le_trans (own_old O0) (Nat.le_of_eq q237.symm)
    have B240 : h0.size ≤ b238 := Nat.le_trans (Nat.le_refl _) (Nat.le_of_eq q237.symm)
    have F241 : Fld Z h237 b238 zs4 "value" "I" (.int (0 : Int32)) := D237 (Or.inr (wd hw 112 rfl)) (ty := .int) (by decide)
    show own_Goes p e below (T237.setTop (mkF m 26 #[iv p229] [(.ref b238)])) _
    refine own_via (fun t k => XS.dup X237.here hx rfl (hb hby d9_26) rfl rfl (XS.iloadN X237.here hx rfl (hb hby d9_27) rfl k)) ?_
    have O270 : Old Z n0 h237 := (O0.ext E237)
    have K271 : k0 ≤ h237.size := (Nat.le_trans hk0 E237.1)
    obtain ⟨_, T242, _, X242, hQ242, hS, hZ, hown, st242⟩ := own_ciS X237 hx hZ hS K271 hown (wd hw 115 rfl) (wd hw 116 rfl) (wd hw 117 rfl) (wd hw 55 rfl) rfl (by decide) (rm20 l Z a0 hw [] b238 p229 (0 : Int32) h237 n0 O270 F241 A237 g239) e237 (g := (mkF m 28 #[iv p229] [(.int p229), (.ref b238), (.ref b238)])) rfl (by rw [hml]; rfl) (rest := [(.ref b238)]) (W := 1) (lenOf pd_10 rfl) rfl (by show 2 * 0 + _ ≤ _; exact Nat.le_of_eq rfl) (hb hby d9_28) (by decide) (by decide) (by decide) (by decide)
    obtain ⟨h242, e242⟩ : ∃ z, T242.heap = z := ⟨_, rfl⟩
    rw [e242] at hQ242
    obtain ⟨rfl, Nq242, K242, ex272, fx273⟩ := hQ242
    have N242 := Fr.app N0 Nq242
    have hk274 : T242.heap.size ≤ h242.size := Nat.le_of_eq (congrArg Array.size e242)
    refine own_via (fun t k => st242 t k) ?_
    obtain ⟨fs, hr, hrun, hended, hRW⟩ := X242.leaveW hS (by rw [e242]; first | exact hk274 | exact Nat.le_refl _) (v := some (.ref b238)) (fun h => by rw [Bd.returns] at h; cases h)
    refine own_end (t := T242.setFrames fs) ?_ ⟨_, hrun, hended, _, _, rfl, ?_, own_rmono hRW (by decide) (by decide)⟩
    · jvm_step X242.here [X242.here.top, hx, (hb hby d9_31), X242.method', Bd.returns, Value.isRef, FieldType.isReference]
      first | (intro acts; rw [hr _ acts rfl rfl rfl]) | rw [hr _ _ rfl rfl rfl]
      exact Steps.refl _
    · show Q21 Z p229 w31 cl33 h0 n0 _ T242.heap _
      rw [e242]
      exact Or.inl <| ⟨b238, hc236, rfl, N242, (((Keep.refl h0 []).ext E237).trans K242 (allS (Or.inr B240) all0)), B240, ex272, fx273⟩
  · refine own_via (fun t k => XS.icmpNo X0.here hx rfl (hb hby d9_3) rfl (flt hc236).1 (XS.iloadN X0.here hx rfl (hb hby d9_6) rfl k)) ?_
    obtain ⟨T275, X275, e275, st275⟩ := getS2 X0 hx hZ hown (host := "") (Or.inl (wd hw 57 rfl)) Via.refl e0 (S_Integer_IntegerCache_high.ext O0.2) (g := (mkF m 7 #[iv p229] [(.int p229)])) rfl (hb hby d9_7)
    refine own_via (fun t k => st275 t k) ?_
    show own_Goes p e below (T275.setTop (mkF m 10 #[iv p229] [(.int (127 : Int32)), (.int p229)])) _
    by_cases hc276 : (127 : Int32) < p229
    · refine own_via (fun t k => XS.icmpYes X275.here hx rfl (pc0 := 10) (pc' := 23) rfl (hb hby d9_10) rfl (tlt hc276).2.2.1 (by decide) (by decide) k) ?_
      obtain ⟨T277, h277, X277, e277, E277, A277, D277, -, st277⟩ := newO X275 hx hZ hown (wd hw 113 rfl) (wd hw 114 rfl) (wd hw 55 rfl) e275 (g := (mkF m 23 #[iv p229] [])) rfl (hb hby d9_23) (by decide) (by decide)
      obtain ⟨b278, q277⟩ : ∃ z, z = h0.size := ⟨_, rfl⟩
      rw [← q277] at A277 D277 st277
      refine own_via (fun t k => st277 t k) ?_
      have g279 : n0 ≤ b278 := Nat.le_trans (own_old O0) (Nat.le_of_eq q277.symm)
      have B280 : h0.size ≤ b278 := Nat.le_trans (Nat.le_refl _) (Nat.le_of_eq q277.symm)
      have F281 : Fld Z h277 b278 zs4 "value" "I" (.int (0 : Int32)) := D277 (Or.inr (wd hw 112 rfl)) (ty := .int) (by decide)
      show own_Goes p e below (T277.setTop (mkF m 26 #[iv p229] [(.ref b278)])) _
      refine own_via (fun t k => XS.dup X277.here hx rfl (hb hby d9_26) rfl rfl (XS.iloadN X277.here hx rfl (hb hby d9_27) rfl k)) ?_
      have O283 : Old Z n0 h277 := (O0.ext E277)
      have K284 : k0 ≤ h277.size := (Nat.le_trans hk0 E277.1)
      obtain ⟨_, T282, _, X282, hQ282, hS, hZ, hown, st282⟩ := own_ciS X277 hx hZ hS K284 hown (wd hw 115 rfl) (wd hw 116 rfl) (wd hw 117 rfl) (wd hw 55 rfl) rfl (by decide) (rm20 l Z a0 hw [] b278 p229 (0 : Int32) h277 n0 O283 F281 A277 g279) e277 (g := (mkF m 28 #[iv p229] [(.int p229), (.ref b278), (.ref b278)])) rfl (by rw [hml]; rfl) (rest := [(.ref b278)]) (W := 1) (lenOf pd_10 rfl) rfl (by show 2 * 0 + _ ≤ _; exact Nat.le_of_eq rfl) (hb hby d9_28) (by decide) (by decide) (by decide) (by decide)
      obtain ⟨h282, e282⟩ : ∃ z, T282.heap = z := ⟨_, rfl⟩
      rw [e282] at hQ282
      obtain ⟨rfl, Nq282, K282, ex285, fx286⟩ := hQ282
      have N282 := Fr.app N0 Nq282
      have hk287 : T282.heap.size ≤ h282.size := Nat.le_of_eq (congrArg Array.size e282)
      refine own_via (fun t k => st282 t k) ?_
      obtain ⟨fs, hr, hrun, hended, hRW⟩ := X282.leaveW hS (by rw [e282]; first | exact hk287 | exact Nat.le_refl _) (v := some (.ref b278)) (fun h => by rw [Bd.returns] at h; cases h)
      refine own_end (t := T282.setFrames fs) ?_ ⟨_, hrun, hended, _, _, rfl, ?_, own_rmono hRW (by decide) (by decide)⟩
      · jvm_step X282.here [X282.here.top, hx, (hb hby d9_31), X282.method', Bd.returns, Value.isRef, FieldType.isReference]
        first | (intro acts; rw [hr _ acts rfl rfl rfl]) | rw [hr _ _ rfl rfl rfl]
        exact Steps.refl _
      · show Q21 Z p229 w31 cl33 h0 n0 _ T282.heap _
        rw [e282]
        exact Or.inr <| Or.inl <| ⟨b278, hc236, hc276, rfl, N282, (((Keep.refl h0 []).ext E277).trans K282 (allS (Or.inr B280) all0)), B280, ex285, fx286⟩
    · refine own_via (fun t k => XS.icmpNo X275.here hx rfl (hb hby d9_10) rfl (flt hc276).2.2.1 k) ?_
      obtain ⟨T288, X288, e288, st288⟩ := getS2 X275 hx hZ hown (host := "") (Or.inl (wd hw 59 rfl)) Via.refl e275 (S_Integer_IntegerCache_cache.ext O0.2) (g := (mkF m 13 #[iv p229] [])) rfl (hb hby d9_13)
      refine own_via (fun t k => st288 t (XS.iloadN X288.here hx rfl (hb hby d9_16) rfl (XS.sipush X288.here hx rfl (hb hby d9_17) (XS.iadd X288.here hx rfl (hb hby d9_20) rfl k)))) ?_
      show own_Goes p e below (T288.setTop (mkF m 21 #[iv p229] [(.int (p229 + (128 : Int32))), (.ref w31)])) _
      obtain ⟨Ar289, S289, M289⟩ := Bxs.ext BX_w31 O0.2
      have hin289 : ¬ ((p229 + (128 : Int32)) < 0 ∨ cl33.slots.size ≤ ((p229 + (128 : Int32))).toNatClampNeg) := inb_of S289 ⟨(own_ci1 hc236 hc276).1, (own_ci1 hc236 hc276).2⟩
      obtain ⟨b290, hat289, SE289, SG289⟩ := BX_w31.2.2.2 (p229 + (128 : Int32)) hin289
      have SF289 : Fld Z Z.heap b290 zs4 "value" "I" (.int p229) := by have q : Fld Z Z.heap b290 zs4 "value" "I" (.int ((p229 + (128 : Int32)) - (128 : Int32))) := SG289; rwa [show ((p229 + (128 : Int32)) - (128 : Int32)) = p229 from Int32.add_sub_cancel _ _] at q
      refine own_via (fun t k => X288.aaload hx (j := (p229 + (128 : Int32))) (v := (.ref b290)) (by rw [e288]; exact Ar289.1) (State.isArrayOf_alike hZ.alike Ar289.2.1) rfl Ar289.2.2 hin289 hat289 (g := (mkF m 21 #[iv p229] [(.int (p229 + (128 : Int32))), (.ref w31)])) rfl rfl (hb hby d9_21) t k) ?_
      obtain ⟨fs, hr, hrun, hended, hRW⟩ := X288.leaveW hS (by rw [e288]; first | exact hk0 | exact Nat.le_refl _) (v := some (.ref b290)) (fun h => by rw [Bd.returns] at h; cases h)
      refine own_end (t := T288.setFrames fs) ?_ ⟨_, hrun, hended, _, _, rfl, ?_, own_rmono hRW (by decide) (by decide)⟩
      · jvm_step X288.here [X288.here.top, hx, (hb hby d9_22), X288.method', Bd.returns, Value.isRef, FieldType.isReference]
        first | (intro acts; rw [hr _ acts rfl rfl rfl]) | rw [hr _ _ rfl rfl rfl]
        exact Steps.refl _
      · show Q21 Z p229 w31 cl33 h0 n0 _ T288.heap _
        rw [e288]
        exact Or.inr <| Or.inr <| ⟨b290, hc236, hc276, rfl, N0, SE289, SF289, rfl⟩
theorem pd_11 : parseMethodDescriptor "(I)Ljava/lang/Integer;" = some ⟨[.int], some (.object "java/lang/Integer")⟩ := by decide +kernel
theorem d10_8 : decode prog_1_method_4_code 8 = .ok (.new 8, 3) := by decide +kernel
theorem d10_11 : decode prog_1_method_4_code 11 = .ok (.dup, 1) := by decide +kernel
theorem d10_12 : decode prog_1_method_4_code 12 = .ok (.aload_n 0, 1) := by decide +kernel
theorem d10_13 : decode prog_1_method_4_code 13 = .ok (.invokespecial 24, 3) := by decide +kernel
theorem d11_0 : decode prog_1_method_1_code 0 = .ok (.aload_n 0, 1) := by decide +kernel
theorem d11_1 : decode prog_1_method_1_code 1 = .ok (.invokespecial 1, 3) := by decide +kernel
theorem d11_4 : decode prog_1_method_1_code 4 = .ok (.aload_n 0, 1) := by decide +kernel
theorem d11_5 : decode prog_1_method_1_code 5 = .ok (.aload_n 1, 1) := by decide +kernel
theorem d11_6 : decode prog_1_method_1_code 6 = .ok (.putfield 7, 3) := by decide +kernel
theorem d11_9 : decode prog_1_method_1_code 9 = .ok (.return_, 1) := by decide +kernel
theorem ef_16 (m : MethodId) (x0 : Addr) (x1 : Addr) : entryFrame m #[(.ref x0), (.ref x1)] 2 = mkF m 0 #[rv x0, rv x1] [] := by first | (simp [entryFrame, mkF, argsToLocals, Value.category]; done) | rfl
def Q22 (Z : State) (a327 : Addr) (a328 : Addr) (h0 : Heap) (n0 : Nat) (v : Option Value) (h : Heap) (L : List Loc) : Prop := v = none ∧ Fr n0 L ∧ Keep h0 h [a327] ∧ Exa Z h a327 zs1 ∧ Fld Z h a327 zs1 "value" zs3 (.ref a328)
set_option maxRecDepth 65536 in
set_option maxHeartbeats 40000000 in
theorem rm22 (l : Launch) (Z : State) (a0 : Array Value) (hw : ∀ d ∈ tables_1, d.before a0 Z = true) (ws : List Jvm.Cond) (a327 : Addr) (a328 : Addr) (h0 : Heap) (n0 : Nat) (O0 : Old Z n0 h0) (pF_a327_value : Fld Z h0 a327 zs1 "value" zs3 .null) (pE_a327 : Exa Z h0 a327 zs1) (pG_a327 : n0 ≤ a327) :
    MetFree l (⟨zs1, "<init>", zs14⟩ : MethodName) (head1 (Jvm.Cond.code (⟨zs1, "<init>", zs14⟩ : MethodName) prog_1_method_1_code 2 none :: ws) ({ frames := 1, cells := 0, slots := 0, locals := 12 } : Room)) (fun a U => a = #[(.ref a327), (.ref a328)] ∧ Z.Warmed39 U.vm ∧ U.heap = h0) (fun _ _ _ _ _ => True) (fun _ U o U' => ∃ v L, o = .returned v ∧ Q22 Z a327 a328 h0 n0 v U'.heap L ∧ ReturnedEndW U o U' L ({ frames := 1, cells := 0, slots := 0, locals := 12 } : Room).cells ({ frames := 1, cells := 0, slots := 0, locals := 12 } : Room).slots) := by
  refine MetFree.of_bodySF (plainFor_of_name pn_1) hisR ?_
  intro p e s m args below meth c s₁ Bd hml0 hP hK
  obtain ⟨rfl, hZ, hh⟩ := hP
  have hx := Bd.exec
  have hby := Bd.bytes
  have hml : c.maxLocals = 2 := hml0
  have hown : s.vm.findClass zs1 = some m.cls := findClass_of_methodNamed Bd.named
  have hnm := (name_of_methodNamed Bd.named Bd.method).1
  have X0 : Stand p l e ({ frames := 1, cells := 0, slots := 0, locals := 12 } : Room) (s.setVm s.vm) m #[(.ref a327), (.ref a328)] below meth c s₁ [] 0 0 := Stand.of_body Bd
  have hS : s.Since s.vm 0 := (State.WarmedH.refl s).since 0
  obtain ⟨k0, hk0, hS⟩ : ∃ k0, k0 ≤ h0.size ∧ s.Since s.vm k0 := ⟨0, Nat.zero_le _, hS⟩
  have hZ : Z.Warmed39 (s.setVm s.vm).vm := hZ
  have hown : (s.setVm s.vm).vm.findClass zs1 = some m.cls := hown
  have e0 : s₁.heap = h0 := by rw [← hh, Bd.state]; rfl
  have N0 := Fr.nil n0
  refine own_out ?_
  refine own_via (fun t k => castTop (ef_16 m a327 a328) (XS.aloadN X0.here hx rfl (hb hby d11_0) rfl rfl k)) ?_
  obtain ⟨T337, X337, e337, st337⟩ := initO X0 hx hZ hown (wd hw 68 rfl) (wd hw 69 rfl) (wd hw 70 rfl) e0 (g := (mkF m 1 #[rv a327, rv a328] [(.ref a327)])) rfl (by rw [hml]; rfl) rfl (hb hby d11_1) (by decide) (W := 0) (by show 2 * 0 + _ ≤ _; exact Nat.le_of_eq rfl) (by decide)
  refine own_via (fun t k => st337 t (XS.aloadN X337.here hx rfl (hb hby d11_4) rfl rfl (XS.aloadN X337.here hx rfl (hb hby d11_5) rfl rfl k))) ?_
  show own_Goes p e below (T337.setTop (mkF m 6 #[rv a327, rv a328] [(.ref a328), (.ref a327)])) _
  obtain ⟨T338, h338, X338, e338, W338, st338⟩ := putF X337 hx hZ hown (host := "") (Or.inl (wd hw 71 rfl)) Via.refl e337 pF_a327_value pE_a327 (Or.inr ⟨(wd hw 72 rfl), rfl, hnm⟩) (wd hw 64 rfl) (ty := (.object zs5)) (by decide) rfl rfl (g := (mkF m 6 #[rv a327, rv a328] [(.ref a328), (.ref a327)])) rfl rfl (hb hby d11_6)
  refine own_via (fun t k => st338 t k) ?_
  have Fw338 : Fld Z h338 a327 zs1 "value" zs3 (.ref a328) := pF_a327_value.same W338
  have N338 := Fr.snoc X338 N0 pG_a327
  show own_Goes p e below (T338.setTop (mkF m 9 #[rv a327, rv a328] [])) _
  have K339 : k0 ≤ h338.size := (Nat.le_trans hk0 (Nat.le_of_eq W338.size.symm))
  obtain ⟨fs, hr, hrun, hended, hRW⟩ := X338.leaveW hS (by rw [e338]; first | exact K339 | exact Nat.le_refl _) (v := none) (fun _ => rfl)
  refine own_end (t := T338.setFrames fs) ?_ ⟨_, hrun, hended, _, _, rfl, ?_, own_rmono hRW (by decide) (by decide)⟩
  · exact X338.returnOut hx Bd.returns (hb hby d11_9) hr
  have E340 : Exa Z h338 a327 zs1 := (pE_a327.wr W338)
  · show Q22 Z a327 a328 h0 n0 _ T338.heap _
    rw [e338]
    exact ⟨rfl, N338, ((Keep.refl h0 [a327]).wr W338 (Or.inl (List.mem_of_getElem? (i := 0) rfl))), E340, Fw338⟩
theorem pd_12 : parseMethodDescriptor "(Ljava/lang/Object;)V" = some ⟨[(.object "java/lang/Object")], none⟩ := by decide +kernel
theorem d10_16 : decode prog_1_method_4_code 16 = .ok (.areturn, 1) := by decide +kernel
theorem ef_17 (m : MethodId) (x0 : Addr) : entryFrame m #[(.ref x0)] 1 = mkF m 0 #[rv x0] [] := by first | (simp [entryFrame, mkF, argsToLocals, Value.category]; done) | rfl
def Q23 (Z : State) (a312 : Addr) (h0 : Heap) (n0 : Nat) (v : Option Value) (h : Heap) (L : List Loc) : Prop := (∃ (b322 : Addr), v = some (.ref b322) ∧ Fr n0 L ∧ Keep h0 h [] ∧ h0.size ≤ b322 ∧ Exa Z h b322 zs1 ∧ Fld Z h b322 zs1 "value" zs3 (.ref a312))
set_option maxRecDepth 65536 in
set_option maxHeartbeats 40000000 in
theorem rm23 (l : Launch) (Z : State) (a0 : Array Value) (hw : ∀ d ∈ tables_1, d.before a0 Z = true) (ws : List Jvm.Cond) (a312 : Addr) (h0 : Heap) (n0 : Nat) (O0 : Old Z n0 h0) :
    MetFree l (⟨zs1, "of", zs11⟩ : MethodName) (head1 (Jvm.Cond.code (⟨zs1, "of", zs11⟩ : MethodName) prog_1_method_4_code 1 (some (.object zs1)) :: ws) ({ frames := 2, cells := 1, slots := 1, locals := 26 } : Room)) (fun a U => a = #[(.ref a312)] ∧ Z.Warmed39 U.vm ∧ U.heap = h0) (fun _ _ _ _ _ => True) (fun _ U o U' => ∃ v L, o = .returned v ∧ Q23 Z a312 h0 n0 v U'.heap L ∧ ReturnedEndW U o U' L ({ frames := 2, cells := 1, slots := 1, locals := 26 } : Room).cells ({ frames := 2, cells := 1, slots := 1, locals := 26 } : Room).slots) := by
  refine MetFree.of_bodySF (plainFor_of_name pn_1) hisR ?_
  intro p e s m args below meth c s₁ Bd hml0 hP hK
  obtain ⟨rfl, hZ, hh⟩ := hP
  have hx := Bd.exec
  have hby := Bd.bytes
  have hml : c.maxLocals = 1 := hml0
  have hown : s.vm.findClass zs1 = some m.cls := findClass_of_methodNamed Bd.named
  have hnm := (name_of_methodNamed Bd.named Bd.method).1
  have X0 : Stand p l e ({ frames := 2, cells := 1, slots := 1, locals := 26 } : Room) (s.setVm s.vm) m #[(.ref a312)] below meth c s₁ [] 0 0 := Stand.of_body Bd
  have hS : s.Since s.vm 0 := (State.WarmedH.refl s).since 0
  obtain ⟨k0, hk0, hS⟩ : ∃ k0, k0 ≤ h0.size ∧ s.Since s.vm k0 := ⟨0, Nat.zero_le _, hS⟩
  have hZ : Z.Warmed39 (s.setVm s.vm).vm := hZ
  have hown : (s.setVm s.vm).vm.findClass zs1 = some m.cls := hown
  have e0 : s₁.heap = h0 := by rw [← hh, Bd.state]; rfl
  have N0 := Fr.nil n0
  refine own_out ?_
  refine own_via (fun t k => castTop (ef_17 m a312) (XS.aloadN X0.here hx rfl (hb hby d10_0) rfl rfl (XS.ifnonnullYes X0.here hx rfl (pc0 := 1) (pc' := 8) rfl (hb hby d10_1) rfl (by decide) (by decide) k))) ?_
  show own_Goes p e below (s₁.setTop (mkF m 8 #[rv a312] [])) _
  obtain ⟨T321, h321, X321, e321, E321, A321, D321, -, st321⟩ := newO X0 hx hZ hown (wd hw 63 rfl) (wd hw 64 rfl) (wd hw 3 rfl) e0 (g := (mkF m 8 #[rv a312] [])) rfl (hb hby d10_8) (by decide) (by decide)
  obtain ⟨b322, q321⟩ : ∃ z, z = h0.size := ⟨_, rfl⟩
  rw [← q321] at A321 D321 st321
  refine own_via (fun t k => st321 t k) ?_
  have g323 : n0 ≤ b322 := Nat.le_trans (own_old O0) (Nat.le_of_eq q321.symm)
  have B324 : h0.size ≤ b322 := Nat.le_trans (Nat.le_refl _) (Nat.le_of_eq q321.symm)
  have F325 : Fld Z h321 b322 zs1 "value" zs3 .null := D321 (Or.inr (wd hw 72 rfl)) (ty := (.object zs5)) (by decide)
  show own_Goes p e below (T321.setTop (mkF m 11 #[rv a312] [(.ref b322)])) _
  refine own_via (fun t k => XS.dup X321.here hx rfl (hb hby d10_11) rfl rfl (XS.aloadN X321.here hx rfl (hb hby d10_12) rfl rfl k)) ?_
  have O341 : Old Z n0 h321 := (O0.ext E321)
  have K342 : k0 ≤ h321.size := (Nat.le_trans hk0 E321.1)
  obtain ⟨_, T326, _, X326, hQ326, hS, hZ, hown, st326⟩ := own_ciS X321 hx hZ hS K342 hown (wd hw 65 rfl) (wd hw 66 rfl) (wd hw 67 rfl) (wd hw 3 rfl) rfl (by decide) (rm22 l Z a0 hw [] b322 a312 h321 n0 O341 F325 A321 g323) e321 (g := (mkF m 13 #[rv a312] [(.ref a312), (.ref b322), (.ref b322)])) rfl (by rw [hml]; rfl) (rest := [(.ref b322)]) (W := 1) (lenOf pd_12 rfl) rfl (by show 2 * 0 + _ ≤ _; exact Nat.le_of_eq rfl) (hb hby d10_13) (by decide) (by decide) (by decide) (by decide)
  obtain ⟨h326, e326⟩ : ∃ z, T326.heap = z := ⟨_, rfl⟩
  rw [e326] at hQ326
  obtain ⟨rfl, Nq326, K326, ex343, fx344⟩ := hQ326
  have N326 := Fr.app N0 Nq326
  have hk345 : T326.heap.size ≤ h326.size := Nat.le_of_eq (congrArg Array.size e326)
  refine own_via (fun t k => st326 t k) ?_
  obtain ⟨fs, hr, hrun, hended, hRW⟩ := X326.leaveW hS (by rw [e326]; first | exact hk345 | exact Nat.le_refl _) (v := some (.ref b322)) (fun h => by rw [Bd.returns] at h; cases h)
  refine own_end (t := T326.setFrames fs) ?_ ⟨_, hrun, hended, _, _, rfl, ?_, own_rmono hRW (by decide) (by decide)⟩
  · jvm_step X326.here [X326.here.top, hx, (hb hby d10_16), X326.method', Bd.returns, Value.isRef, FieldType.isReference]
    first | (intro acts; rw [hr _ acts rfl rfl rfl]) | rw [hr _ _ rfl rfl rfl]
    exact Steps.refl _
  · show Q23 Z a312 h0 n0 _ T326.heap _
    rw [e326]
    exact ⟨b322, rfl, N326, (((Keep.refl h0 []).ext E321).trans K326 (allS (Or.inr B324) all0)), B324, ex343, fx344⟩
def Q24 (Z : State) (a368 : Addr) (w21 : Addr) (h0 : Heap) (n0 : Nat) (v : Option Value) (h : Heap) (L : List Loc) : Prop := v = some (.int (0 : Int32)) ∧ Fr n0 L ∧ h = h0
set_option maxRecDepth 65536 in
set_option maxHeartbeats 40000000 in
theorem rm24 (l : Launch) (Z : State) (a0 : Array Value) (hw : ∀ d ∈ tables_1, d.before a0 Z = true) (ws : List Jvm.Cond) (a368 : Addr) (w21 : Addr) (h0 : Heap) (n0 : Nat) (O0 : Old Z n0 h0) (S_Tertium_ABSENT : Sta Z Z.heap zs1 "ABSENT" zs6 (.ref w21)) (SE_w21 : Exa Z Z.heap w21 zs1) (pG_a368 : n0 ≤ a368) :
    MetFree l (⟨zs1, "isAbsent", "()Z"⟩ : MethodName) (head1 (Jvm.Cond.code (⟨zs1, "isAbsent", "()Z"⟩ : MethodName) prog_1_method_9_code 1 (some .boolean) :: ws) ({ frames := 0, cells := 0, slots := 0, locals := 0 } : Room)) (fun a U => a = #[(.ref a368)] ∧ Z.Warmed39 U.vm ∧ U.heap = h0) (fun _ _ _ _ _ => True) (fun _ U o U' => ∃ v L, o = .returned v ∧ Q24 Z a368 w21 h0 n0 v U'.heap L ∧ ReturnedEndW U o U' L ({ frames := 0, cells := 0, slots := 0, locals := 0 } : Room).cells ({ frames := 0, cells := 0, slots := 0, locals := 0 } : Room).slots) := by
  refine MetFree.of_bodySF (plainFor_of_name pn_1) hisR ?_
  intro p e s m args below meth c s₁ Bd hml0 hP hK
  obtain ⟨rfl, hZ, hh⟩ := hP
  have hx := Bd.exec
  have hby := Bd.bytes
  have hml : c.maxLocals = 1 := hml0
  have hown : s.vm.findClass zs1 = some m.cls := findClass_of_methodNamed Bd.named
  have hnm := (name_of_methodNamed Bd.named Bd.method).1
  have X0 : Stand p l e ({ frames := 0, cells := 0, slots := 0, locals := 0 } : Room) (s.setVm s.vm) m #[(.ref a368)] below meth c s₁ [] 0 0 := Stand.of_body Bd
  have hS : s.Since s.vm 0 := (State.WarmedH.refl s).since 0
  obtain ⟨k0, hk0, hS⟩ : ∃ k0, k0 ≤ h0.size ∧ s.Since s.vm k0 := ⟨0, Nat.zero_le _, hS⟩
  have hZ : Z.Warmed39 (s.setVm s.vm).vm := hZ
  have hown : (s.setVm s.vm).vm.findClass zs1 = some m.cls := hown
  have e0 : s₁.heap = h0 := by rw [← hh, Bd.state]; rfl
  have N0 := Fr.nil n0
  refine own_out ?_
  refine own_via (fun t k => castTop (ef_2 m a368) (XS.aloadN X0.here hx rfl (hb hby d3_0) rfl rfl k)) ?_
  obtain ⟨T378, X378, e378, st378⟩ := getS2 X0 hx hZ hown (host := "") (Or.inl (wd hw 5 rfl)) Via.refl e0 (S_Tertium_ABSENT.ext O0.2) (g := (mkF m 1 #[rv a368] [(.ref a368)])) rfl (hb hby d3_1)
  refine own_via (fun t k => st378 t (Jvm.RoadKit.acmp (g := (mkF m 4 #[rv a368] [(.ref w21), (.ref a368)])) X378 hx rfl rfl rfl (pc0 := 4) (pc' := 11) (same := false) rfl (hb hby d3_4) rfl (decide_eq_false fun q => (Ne.symm (Old.ne O0 SE_w21.lt pG_a368)) (Value.ref.inj q)) (by decide) (by decide) (XS.iconst X378.here hx rfl (hb hby d3_11) k))) ?_
  show own_Goes p e below (T378.setTop (mkF m 12 #[rv a368] [(.int (0 : Int32))])) _
  obtain ⟨fs, hr, hrun, hended, hRW⟩ := X378.leaveW hS (by rw [e378]; first | exact hk0 | exact Nat.le_refl _) (v := some (.int (0 : Int32))) (fun h => by rw [Bd.returns] at h; cases h)
  refine own_end (t := T378.setFrames fs) ?_ ⟨_, hrun, hended, _, _, rfl, ?_, own_rmono hRW (by decide) (by decide)⟩
  · exact retN X378 hx (t := .boolean) Bd.returns (by simp) (hb hby d3_12) hr
  · show Q24 Z a368 w21 h0 n0 _ T378.heap _
    rw [e378]
    exact ⟨rfl, N0, rfl⟩
def Q25 (Z : State) (a382 : Addr) (w23 : Addr) (h0 : Heap) (n0 : Nat) (v : Option Value) (h : Heap) (L : List Loc) : Prop := v = some (.int (0 : Int32)) ∧ Fr n0 L ∧ h = h0
set_option maxRecDepth 65536 in
set_option maxHeartbeats 40000000 in
theorem rm25 (l : Launch) (Z : State) (a0 : Array Value) (hw : ∀ d ∈ tables_1, d.before a0 Z = true) (ws : List Jvm.Cond) (a382 : Addr) (w23 : Addr) (h0 : Heap) (n0 : Nat) (O0 : Old Z n0 h0) (S_Tertium_NULL : Sta Z Z.heap zs1 "NULL" zs6 (.ref w23)) (SE_w23 : Exa Z Z.heap w23 zs1) (pG_a382 : n0 ≤ a382) :
    MetFree l (⟨zs1, "isNull", "()Z"⟩ : MethodName) (head1 (Jvm.Cond.code (⟨zs1, "isNull", "()Z"⟩ : MethodName) prog_1_method_11_code 1 (some .boolean) :: ws) ({ frames := 0, cells := 0, slots := 0, locals := 0 } : Room)) (fun a U => a = #[(.ref a382)] ∧ Z.Warmed39 U.vm ∧ U.heap = h0) (fun _ _ _ _ _ => True) (fun _ U o U' => ∃ v L, o = .returned v ∧ Q25 Z a382 w23 h0 n0 v U'.heap L ∧ ReturnedEndW U o U' L ({ frames := 0, cells := 0, slots := 0, locals := 0 } : Room).cells ({ frames := 0, cells := 0, slots := 0, locals := 0 } : Room).slots) := by
  refine MetFree.of_bodySF (plainFor_of_name pn_1) hisR ?_
  intro p e s m args below meth c s₁ Bd hml0 hP hK
  obtain ⟨rfl, hZ, hh⟩ := hP
  have hx := Bd.exec
  have hby := Bd.bytes
  have hml : c.maxLocals = 1 := hml0
  have hown : s.vm.findClass zs1 = some m.cls := findClass_of_methodNamed Bd.named
  have hnm := (name_of_methodNamed Bd.named Bd.method).1
  have X0 : Stand p l e ({ frames := 0, cells := 0, slots := 0, locals := 0 } : Room) (s.setVm s.vm) m #[(.ref a382)] below meth c s₁ [] 0 0 := Stand.of_body Bd
  have hS : s.Since s.vm 0 := (State.WarmedH.refl s).since 0
  obtain ⟨k0, hk0, hS⟩ : ∃ k0, k0 ≤ h0.size ∧ s.Since s.vm k0 := ⟨0, Nat.zero_le _, hS⟩
  have hZ : Z.Warmed39 (s.setVm s.vm).vm := hZ
  have hown : (s.setVm s.vm).vm.findClass zs1 = some m.cls := hown
  have e0 : s₁.heap = h0 := by rw [← hh, Bd.state]; rfl
  have N0 := Fr.nil n0
  refine own_out ?_
  refine own_via (fun t k => castTop (ef_8 m a382) (XS.aloadN X0.here hx rfl (hb hby d8_0) rfl rfl k)) ?_
  obtain ⟨T392, X392, e392, st392⟩ := getS2 X0 hx hZ hown (host := "") (Or.inl (wd hw 51 rfl)) Via.refl e0 (S_Tertium_NULL.ext O0.2) (g := (mkF m 1 #[rv a382] [(.ref a382)])) rfl (hb hby d8_1)
  refine own_via (fun t k => st392 t (Jvm.RoadKit.acmp (g := (mkF m 4 #[rv a382] [(.ref w23), (.ref a382)])) X392 hx rfl rfl rfl (pc0 := 4) (pc' := 11) (same := false) rfl (hb hby d8_4) rfl (decide_eq_false fun q => (Ne.symm (Old.ne O0 SE_w23.lt pG_a382)) (Value.ref.inj q)) (by decide) (by decide) (XS.iconst X392.here hx rfl (hb hby d8_11) k))) ?_
  show own_Goes p e below (T392.setTop (mkF m 12 #[rv a382] [(.int (0 : Int32))])) _
  obtain ⟨fs, hr, hrun, hended, hRW⟩ := X392.leaveW hS (by rw [e392]; first | exact hk0 | exact Nat.le_refl _) (v := some (.int (0 : Int32))) (fun h => by rw [Bd.returns] at h; cases h)
  refine own_end (t := T392.setFrames fs) ?_ ⟨_, hrun, hended, _, _, rfl, ?_, own_rmono hRW (by decide) (by decide)⟩
  · exact retN X392 hx (t := .boolean) Bd.returns (by simp) (hb hby d8_12) hr
  · show Q25 Z a382 w23 h0 n0 _ T392.heap _
    rw [e392]
    exact ⟨rfl, N0, rfl⟩
theorem d2_22 : decode prog_1_method_25_code 22 = .ok (.aload_n 0, 1) := by decide +kernel
theorem d2_23 : decode prog_1_method_25_code 23 = .ok (.getfield 7, 3) := by decide +kernel
theorem d2_26 : decode prog_1_method_25_code 26 = .ok (.invokestatic 147, 3) := by decide +kernel
theorem d13_0 : decode jdk_32_method_3_code 0 = .ok (.new 2, 3) := by decide +kernel
theorem d13_3 : decode jdk_32_method_3_code 3 = .ok (.dup, 1) := by decide +kernel
theorem d13_4 : decode jdk_32_method_3_code 4 = .ok (.aload_n 0, 1) := by decide +kernel
theorem d13_5 : decode jdk_32_method_3_code 5 = .ok (.invokestatic 17, 3) := by decide +kernel
theorem d14_0 : decode jdk_31_method_10_code 0 = .ok (.aload_n 0, 1) := by decide +kernel
theorem d14_1 : decode jdk_31_method_10_code 1 = .ok (.ifnonnull 11, 3) := by decide +kernel
theorem d14_12 : decode jdk_31_method_10_code 12 = .ok (.aload_n 0, 1) := by decide +kernel
theorem d14_13 : decode jdk_31_method_10_code 13 = .ok (.areturn, 1) := by decide +kernel
theorem ef_18 (m : MethodId) (x0 : Addr) : entryFrame m #[(.ref x0)] 1 = mkF m 0 #[rv x0] [] := by first | (simp [entryFrame, mkF, argsToLocals, Value.category]; done) | rfl
def Q26 (Z : State) (a413 : Addr) (h0 : Heap) (n0 : Nat) (v : Option Value) (h : Heap) (L : List Loc) : Prop := v = some (.ref a413) ∧ Fr n0 L ∧ h = h0
set_option maxRecDepth 65536 in
set_option maxHeartbeats 40000000 in
theorem rm26 (l : Launch) (Z : State) (a0 : Array Value) (hw : ∀ d ∈ tables_1, d.before a0 Z = true) (ws : List Jvm.Cond) (a413 : Addr) (h0 : Heap) (n0 : Nat) (O0 : Old Z n0 h0) :
    MetFree l (⟨zs9, zs17, zs7⟩ : MethodName) (head1 (Jvm.Cond.code (⟨zs9, zs17, zs7⟩ : MethodName) jdk_31_method_10_code 1 (some (.object zs5)) :: ws) ({ frames := 0, cells := 0, slots := 0, locals := 0 } : Room)) (fun a U => a = #[(.ref a413)] ∧ Z.Warmed39 U.vm ∧ U.heap = h0) (fun _ _ _ _ _ => True) (fun _ U o U' => ∃ v L, o = .returned v ∧ Q26 Z a413 h0 n0 v U'.heap L ∧ ReturnedEndW U o U' L ({ frames := 0, cells := 0, slots := 0, locals := 0 } : Room).cells ({ frames := 0, cells := 0, slots := 0, locals := 0 } : Room).slots) := by
  refine MetFree.of_bodySF (plainFor_of_name pn_3) hisR ?_
  intro p e s m args below meth c s₁ Bd hml0 hP hK
  obtain ⟨rfl, hZ, hh⟩ := hP
  have hx := Bd.exec
  have hby := Bd.bytes
  have hml : c.maxLocals = 1 := hml0
  have hown : s.vm.findClass zs9 = some m.cls := findClass_of_methodNamed Bd.named
  have hnm := (name_of_methodNamed Bd.named Bd.method).1
  have X0 : Stand p l e ({ frames := 0, cells := 0, slots := 0, locals := 0 } : Room) (s.setVm s.vm) m #[(.ref a413)] below meth c s₁ [] 0 0 := Stand.of_body Bd
  have hS : s.Since s.vm 0 := (State.WarmedH.refl s).since 0
  obtain ⟨k0, hk0, hS⟩ : ∃ k0, k0 ≤ h0.size ∧ s.Since s.vm k0 := ⟨0, Nat.zero_le _, hS⟩
  have hZ : Z.Warmed39 (s.setVm s.vm).vm := hZ
  have hown : (s.setVm s.vm).vm.findClass zs9 = some m.cls := hown
  have e0 : s₁.heap = h0 := by rw [← hh, Bd.state]; rfl
  have N0 := Fr.nil n0
  refine own_out ?_
  refine own_via (fun t k => castTop (ef_18 m a413) (XS.aloadN X0.here hx rfl (hb hby d14_0) rfl rfl (XS.ifnonnullYes X0.here hx rfl (pc0 := 1) (pc' := 12) rfl (hb hby d14_1) rfl (by decide) (by decide) (XS.aloadN X0.here hx rfl (hb hby d14_12) rfl rfl k)))) ?_
  show own_Goes p e below (s₁.setTop (mkF m 13 #[rv a413] [(.ref a413)])) _
  obtain ⟨fs, hr, hrun, hended, hRW⟩ := X0.leaveW hS (by rw [e0]; first | exact hk0 | exact Nat.le_refl _) (v := some (.ref a413)) (fun h => by rw [Bd.returns] at h; cases h)
  refine own_end (t := s₁.setFrames fs) ?_ ⟨_, hrun, hended, _, _, rfl, ?_, own_rmono hRW (by decide) (by decide)⟩
  · jvm_step X0.here [X0.here.top, hx, (hb hby d14_13), X0.method', Bd.returns, Value.isRef, FieldType.isReference]
    first | (intro acts; rw [hr _ acts rfl rfl rfl]) | rw [hr _ _ rfl rfl rfl]
    exact Steps.refl _
  · show Q26 Z a413 h0 n0 _ s₁.heap _
    rw [e0]
    exact ⟨rfl, N0, rfl⟩
theorem d13_8 : decode jdk_32_method_3_code 8 = .ok (.invokespecial 23, 3) := by decide +kernel
theorem d15_0 : decode jdk_32_method_2_code 0 = .ok (.aload_n 0, 1) := by decide +kernel
theorem d15_1 : decode jdk_32_method_2_code 1 = .ok (.invokespecial 7, 3) := by decide +kernel
theorem d15_4 : decode jdk_32_method_2_code 4 = .ok (.aload_n 0, 1) := by decide +kernel
theorem d15_5 : decode jdk_32_method_2_code 5 = .ok (.aload_n 1, 1) := by decide +kernel
theorem d15_6 : decode jdk_32_method_2_code 6 = .ok (.putfield 13, 3) := by decide +kernel
theorem d15_9 : decode jdk_32_method_2_code 9 = .ok (.return_, 1) := by decide +kernel
theorem ef_19 (m : MethodId) (x0 : Addr) (x1 : Addr) : entryFrame m #[(.ref x0), (.ref x1)] 2 = mkF m 0 #[rv x0, rv x1] [] := by first | (simp [entryFrame, mkF, argsToLocals, Value.category]; done) | rfl
def Q27 (Z : State) (a429 : Addr) (a430 : Addr) (h0 : Heap) (n0 : Nat) (v : Option Value) (h : Heap) (L : List Loc) : Prop := v = none ∧ Fr n0 L ∧ Keep h0 h [a429] ∧ Exa Z h a429 zs2 ∧ Fld Z h a429 zs2 "value" zs3 (.ref a430)
set_option maxRecDepth 65536 in
set_option maxHeartbeats 40000000 in
theorem rm27 (l : Launch) (Z : State) (a0 : Array Value) (hw : ∀ d ∈ tables_1, d.before a0 Z = true) (ws : List Jvm.Cond) (a429 : Addr) (a430 : Addr) (h0 : Heap) (n0 : Nat) (O0 : Old Z n0 h0) (pF_a429_value : Fld Z h0 a429 zs2 "value" zs3 .null) (pE_a429 : Exa Z h0 a429 zs2) (pG_a429 : n0 ≤ a429) :
    MetFree l (⟨zs2, "<init>", zs14⟩ : MethodName) (head1 (Jvm.Cond.code (⟨zs2, "<init>", zs14⟩ : MethodName) jdk_32_method_2_code 2 none :: ws) ({ frames := 1, cells := 0, slots := 0, locals := 12 } : Room)) (fun a U => a = #[(.ref a429), (.ref a430)] ∧ Z.Warmed39 U.vm ∧ U.heap = h0) (fun _ _ _ _ _ => True) (fun _ U o U' => ∃ v L, o = .returned v ∧ Q27 Z a429 a430 h0 n0 v U'.heap L ∧ ReturnedEndW U o U' L ({ frames := 1, cells := 0, slots := 0, locals := 12 } : Room).cells ({ frames := 1, cells := 0, slots := 0, locals := 12 } : Room).slots) := by
  refine MetFree.of_bodySF (plainFor_of_name pn_2) hisR ?_
  intro p e s m args below meth c s₁ Bd hml0 hP hK
  obtain ⟨rfl, hZ, hh⟩ := hP
  have hx := Bd.exec
  have hby := Bd.bytes
  have hml : c.maxLocals = 2 := hml0
  have hown : s.vm.findClass zs2 = some m.cls := findClass_of_methodNamed Bd.named
  have hnm := (name_of_methodNamed Bd.named Bd.method).1
  have X0 : Stand p l e ({ frames := 1, cells := 0, slots := 0, locals := 12 } : Room) (s.setVm s.vm) m #[(.ref a429), (.ref a430)] below meth c s₁ [] 0 0 := Stand.of_body Bd
  have hS : s.Since s.vm 0 := (State.WarmedH.refl s).since 0
  obtain ⟨k0, hk0, hS⟩ : ∃ k0, k0 ≤ h0.size ∧ s.Since s.vm k0 := ⟨0, Nat.zero_le _, hS⟩
  have hZ : Z.Warmed39 (s.setVm s.vm).vm := hZ
  have hown : (s.setVm s.vm).vm.findClass zs2 = some m.cls := hown
  have e0 : s₁.heap = h0 := by rw [← hh, Bd.state]; rfl
  have N0 := Fr.nil n0
  refine own_out ?_
  refine own_via (fun t k => castTop (ef_19 m a429 a430) (XS.aloadN X0.here hx rfl (hb hby d15_0) rfl rfl k)) ?_
  obtain ⟨T440, X440, e440, st440⟩ := initO X0 hx hZ hown (wd hw 86 rfl) (wd hw 69 rfl) (wd hw 70 rfl) e0 (g := (mkF m 1 #[rv a429, rv a430] [(.ref a429)])) rfl (by rw [hml]; rfl) rfl (hb hby d15_1) (by decide) (W := 0) (by show 2 * 0 + _ ≤ _; exact Nat.le_of_eq rfl) (by decide)
  refine own_via (fun t k => st440 t (XS.aloadN X440.here hx rfl (hb hby d15_4) rfl rfl (XS.aloadN X440.here hx rfl (hb hby d15_5) rfl rfl k))) ?_
  show own_Goes p e below (T440.setTop (mkF m 6 #[rv a429, rv a430] [(.ref a430), (.ref a429)])) _
  obtain ⟨T441, h441, X441, e441, W441, st441⟩ := putF X440 hx hZ hown (host := "") (Or.inl (wd hw 42 rfl)) Via.refl e440 pF_a429_value pE_a429 (Or.inr ⟨(wd hw 43 rfl), rfl, hnm⟩) (wd hw 78 rfl) (ty := (.object zs5)) (by decide) rfl rfl (g := (mkF m 6 #[rv a429, rv a430] [(.ref a430), (.ref a429)])) rfl rfl (hb hby d15_6)
  refine own_via (fun t k => st441 t k) ?_
  have Fw441 : Fld Z h441 a429 zs2 "value" zs3 (.ref a430) := pF_a429_value.same W441
  have N441 := Fr.snoc X441 N0 pG_a429
  show own_Goes p e below (T441.setTop (mkF m 9 #[rv a429, rv a430] [])) _
  have K442 : k0 ≤ h441.size := (Nat.le_trans hk0 (Nat.le_of_eq W441.size.symm))
  obtain ⟨fs, hr, hrun, hended, hRW⟩ := X441.leaveW hS (by rw [e441]; first | exact K442 | exact Nat.le_refl _) (v := none) (fun _ => rfl)
  refine own_end (t := T441.setFrames fs) ?_ ⟨_, hrun, hended, _, _, rfl, ?_, own_rmono hRW (by decide) (by decide)⟩
  · exact X441.returnOut hx Bd.returns (hb hby d15_9) hr
  have E443 : Exa Z h441 a429 zs2 := (pE_a429.wr W441)
  · show Q27 Z a429 a430 h0 n0 _ T441.heap _
    rw [e441]
    exact ⟨rfl, N441, ((Keep.refl h0 [a429]).wr W441 (Or.inl (List.mem_of_getElem? (i := 0) rfl))), E443, Fw441⟩
theorem d13_11 : decode jdk_32_method_3_code 11 = .ok (.areturn, 1) := by decide +kernel
theorem ef_20 (m : MethodId) (x0 : Addr) : entryFrame m #[(.ref x0)] 1 = mkF m 0 #[rv x0] [] := by first | (simp [entryFrame, mkF, argsToLocals, Value.category]; done) | rfl
def Q28 (Z : State) (a397 : Addr) (h0 : Heap) (n0 : Nat) (v : Option Value) (h : Heap) (L : List Loc) : Prop := (∃ (b408 : Addr), v = some (.ref b408) ∧ Fr n0 L ∧ Keep h0 h [] ∧ h0.size ≤ b408 ∧ Exa Z h b408 zs2 ∧ Fld Z h b408 zs2 "value" zs3 (.ref a397))
set_option maxRecDepth 65536 in
set_option maxHeartbeats 40000000 in
theorem rm28 (l : Launch) (Z : State) (a0 : Array Value) (hw : ∀ d ∈ tables_1, d.before a0 Z = true) (ws : List Jvm.Cond) (a397 : Addr) (h0 : Heap) (n0 : Nat) (O0 : Old Z n0 h0) :
    MetFree l (⟨zs2, "of", zs13⟩ : MethodName) (head1 (Jvm.Cond.code (⟨zs2, "of", zs13⟩ : MethodName) jdk_32_method_3_code 1 (some (.object zs2)) :: ws) ({ frames := 2, cells := 1, slots := 1, locals := 26 } : Room)) (fun a U => a = #[(.ref a397)] ∧ Z.Warmed39 U.vm ∧ U.heap = h0) (fun _ _ _ _ _ => True) (fun _ U o U' => ∃ v L, o = .returned v ∧ Q28 Z a397 h0 n0 v U'.heap L ∧ ReturnedEndW U o U' L ({ frames := 2, cells := 1, slots := 1, locals := 26 } : Room).cells ({ frames := 2, cells := 1, slots := 1, locals := 26 } : Room).slots) := by
  refine MetFree.of_bodySF (plainFor_of_name pn_2) hisR ?_
  intro p e s m args below meth c s₁ Bd hml0 hP hK
  obtain ⟨rfl, hZ, hh⟩ := hP
  have hx := Bd.exec
  have hby := Bd.bytes
  have hml : c.maxLocals = 1 := hml0
  have hown : s.vm.findClass zs2 = some m.cls := findClass_of_methodNamed Bd.named
  have hnm := (name_of_methodNamed Bd.named Bd.method).1
  have X0 : Stand p l e ({ frames := 2, cells := 1, slots := 1, locals := 26 } : Room) (s.setVm s.vm) m #[(.ref a397)] below meth c s₁ [] 0 0 := Stand.of_body Bd
  have hS : s.Since s.vm 0 := (State.WarmedH.refl s).since 0
  obtain ⟨k0, hk0, hS⟩ : ∃ k0, k0 ≤ h0.size ∧ s.Since s.vm k0 := ⟨0, Nat.zero_le _, hS⟩
  have hZ : Z.Warmed39 (s.setVm s.vm).vm := hZ
  have hown : (s.setVm s.vm).vm.findClass zs2 = some m.cls := hown
  have e0 : s₁.heap = h0 := by rw [← hh, Bd.state]; rfl
  have N0 := Fr.nil n0
  refine own_out ?_
  refine own_via (fun t k => castTop (ef_20 m a397) k) ?_
  obtain ⟨T407, h407, X407, e407, E407, A407, D407, -, st407⟩ := newO X0 hx hZ hown (wd hw 77 rfl) (wd hw 78 rfl) (wd hw 19 rfl) e0 (g := (mkF m 0 #[rv a397] [])) rfl (hb hby d13_0) (by decide) (by decide)
  obtain ⟨b408, q407⟩ : ∃ z, z = h0.size := ⟨_, rfl⟩
  rw [← q407] at A407 D407 st407
  refine own_via (fun t k => st407 t k) ?_
  have g409 : n0 ≤ b408 := Nat.le_trans (own_old O0) (Nat.le_of_eq q407.symm)
  have B410 : h0.size ≤ b408 := Nat.le_trans (Nat.le_refl _) (Nat.le_of_eq q407.symm)
  have F411 : Fld Z h407 b408 zs2 "value" zs3 .null := D407 (Or.inr (wd hw 43 rfl)) (ty := (.object zs5)) (by decide)
  show own_Goes p e below (T407.setTop (mkF m 3 #[rv a397] [(.ref b408)])) _
  refine own_via (fun t k => XS.dup X407.here hx rfl (hb hby d13_3) rfl rfl (XS.aloadN X407.here hx rfl (hb hby d13_4) rfl rfl k)) ?_
  have O424 : Old Z n0 h407 := (O0.ext E407)
  have K425 : k0 ≤ h407.size := (Nat.le_trans hk0 E407.1)
  obtain ⟨_, T412, _, X412, hQ412, hS, hZ, hown, st412⟩ := own_csS X407 hx hZ hS K425 hown (wd hw 79 rfl) (wd hw 80 rfl) (wd hw 81 rfl) (wd hw 35 rfl) (by decide) (rm26 l Z a0 hw [] a397 h407 n0 O424 ) e407 (g := (mkF m 5 #[rv a397] [(.ref a397), (.ref b408), (.ref b408)])) rfl (by rw [hml]; rfl) (rest := [(.ref b408), (.ref b408)]) (W := 2) (lenOf pd_7 rfl) rfl (by show 2 * 0 + _ ≤ _; exact Nat.le_of_eq rfl) (hb hby d13_5) (by decide) (by decide) (by decide) (by decide)
  obtain ⟨rfl, Nq412, hh426⟩ := hQ412
  have N412 := Fr.app N0 Nq412
  have hk427 : T412.heap.size ≤ h407.size := Nat.le_of_eq (congrArg Array.size hh426)
  refine own_via (fun t k => st412 t k) ?_
  obtain ⟨_, T428, _, X428, hQ428, hS, hZ, hown, st428⟩ := own_ciS X412 hx hZ hS hk427 hown (wd hw 82 rfl) (wd hw 83 rfl) (wd hw 85 rfl) (wd hw 19 rfl) rfl (by decide) (rm27 l Z a0 hw [] b408 a397 h407 n0 O424 F411 A407 g409) hh426 (g := (mkF m 8 #[rv a397] [(.ref a397), (.ref b408), (.ref b408)])) rfl (by rw [hml]; rfl) (rest := [(.ref b408)]) (W := 1) (lenOf pd_12 rfl) rfl (by show 2 * 0 + _ ≤ _; exact Nat.le_of_eq rfl) (hb hby d13_8) (by decide) (by decide) (by decide) (by decide)
  obtain ⟨h428, e428⟩ : ∃ z, T428.heap = z := ⟨_, rfl⟩
  rw [e428] at hQ428
  obtain ⟨rfl, Nq428, K428, ex444, fx445⟩ := hQ428
  have N428 := Fr.app N412 Nq428
  have hk446 : T428.heap.size ≤ h428.size := Nat.le_of_eq (congrArg Array.size e428)
  refine own_via (fun t k => st428 t k) ?_
  obtain ⟨fs, hr, hrun, hended, hRW⟩ := X428.leaveW hS (by rw [e428]; first | exact hk446 | exact Nat.le_refl _) (v := some (.ref b408)) (fun h => by rw [Bd.returns] at h; cases h)
  refine own_end (t := T428.setFrames fs) ?_ ⟨_, hrun, hended, _, _, rfl, ?_, own_rmono hRW (by decide) (by decide)⟩
  · jvm_step X428.here [X428.here.top, hx, (hb hby d13_11), X428.method', Bd.returns, Value.isRef, FieldType.isReference]
    first | (intro acts; rw [hr _ acts rfl rfl rfl]) | rw [hr _ _ rfl rfl rfl]
    exact Steps.refl _
  · show Q28 Z a397 h0 n0 _ T428.heap _
    rw [e428]
    exact ⟨b408, rfl, N428, (((Keep.refl h0 []).ext E407).trans K428 (allS (Or.inr B410) all0)), B410, ex444, fx445⟩
theorem pd_13 : parseMethodDescriptor "(Ljava/lang/Object;)Ljava/util/Optional;" = some ⟨[(.object "java/lang/Object")], some (.object "java/util/Optional")⟩ := by decide +kernel
theorem d2_29 : decode prog_1_method_25_code 29 = .ok (.invokestatic 147, 3) := by decide +kernel
theorem d2_32 : decode prog_1_method_25_code 32 = .ok (.areturn, 1) := by decide +kernel
def Q29 (Z : State) (a357 : Addr) (w21 : Addr) (w23 : Addr) (a358 : Addr) (h0 : Heap) (n0 : Nat) (v : Option Value) (h : Heap) (L : List Loc) : Prop := (∃ (b447 : Addr) (b456 : Addr), v = some (.ref b456) ∧ Fr n0 L ∧ Keep h0 h [] ∧ h0.size ≤ b447 ∧ Exa Z h b447 zs2 ∧ Fld Z h b447 zs2 "value" zs3 (.ref a358) ∧ h0.size ≤ b456 ∧ Exa Z h b456 zs2 ∧ Fld Z h b456 zs2 "value" zs3 (.ref b447) ∧ b447 ≠ b456)
set_option maxRecDepth 65536 in
set_option maxHeartbeats 40000000 in
theorem rm29 (l : Launch) (Z : State) (a0 : Array Value) (hw : ∀ d ∈ tables_1, d.before a0 Z = true) (ws : List Jvm.Cond) (a357 : Addr) (w21 : Addr) (w23 : Addr) (a358 : Addr) (h0 : Heap) (n0 : Nat) (O0 : Old Z n0 h0) (S_Tertium_ABSENT : Sta Z Z.heap zs1 "ABSENT" zs6 (.ref w21)) (SE_w21 : Exa Z Z.heap w21 zs1) (pG_a357 : n0 ≤ a357) (pE_a357 : Exa Z h0 a357 zs1) (S_Tertium_NULL : Sta Z Z.heap zs1 "NULL" zs6 (.ref w23)) (SE_w23 : Exa Z Z.heap w23 zs1) (pF_a357_value : Fld Z h0 a357 zs1 "value" zs3 (.ref a358)) :
    MetFree l (⟨zs1, zs20, zs12⟩ : MethodName) (head1 (Jvm.Cond.code (⟨zs1, zs20, zs12⟩ : MethodName) prog_1_method_25_code 1 (some (.object zs2)) :: ws) ({ frames := 3, cells := 2, slots := 2, locals := 38 } : Room)) (fun a U => a = #[(.ref a357)] ∧ Z.Warmed39 U.vm ∧ U.heap = h0) (fun _ _ _ _ _ => True) (fun _ U o U' => ∃ v L, o = .returned v ∧ Q29 Z a357 w21 w23 a358 h0 n0 v U'.heap L ∧ ReturnedEndW U o U' L ({ frames := 3, cells := 2, slots := 2, locals := 38 } : Room).cells ({ frames := 3, cells := 2, slots := 2, locals := 38 } : Room).slots) := by
  refine MetFree.of_bodySF (plainFor_of_name pn_1) hisR ?_
  intro p e s m args below meth c s₁ Bd hml0 hP hK
  obtain ⟨rfl, hZ, hh⟩ := hP
  have hx := Bd.exec
  have hby := Bd.bytes
  have hml : c.maxLocals = 1 := hml0
  have hown : s.vm.findClass zs1 = some m.cls := findClass_of_methodNamed Bd.named
  have hnm := (name_of_methodNamed Bd.named Bd.method).1
  have X0 : Stand p l e ({ frames := 3, cells := 2, slots := 2, locals := 38 } : Room) (s.setVm s.vm) m #[(.ref a357)] below meth c s₁ [] 0 0 := Stand.of_body Bd
  have hS : s.Since s.vm 0 := (State.WarmedH.refl s).since 0
  obtain ⟨k0, hk0, hS⟩ : ∃ k0, k0 ≤ h0.size ∧ s.Since s.vm k0 := ⟨0, Nat.zero_le _, hS⟩
  have hZ : Z.Warmed39 (s.setVm s.vm).vm := hZ
  have hown : (s.setVm s.vm).vm.findClass zs1 = some m.cls := hown
  have e0 : s₁.heap = h0 := by rw [← hh, Bd.state]; rfl
  have N0 := Fr.nil n0
  refine own_out ?_
  refine own_via (fun t k => castTop (ef_4 m a357) (XS.aloadN X0.here hx rfl (hb hby d2_0) rfl rfl k)) ?_
  obtain ⟨_, T367, _, X367, hQ367, hS, hZ, hown, st367⟩ := own_cvS X0 hx hZ hS hk0 hown (wd hw 12 rfl) (wd hw 13 rfl) (wd hw 15 rfl) (wd hw 14 rfl) (wd hw 16 rfl) (wd hw 3 rfl) (by decide) (rm24 l Z a0 hw [] a357 w21 h0 n0 O0 S_Tertium_ABSENT SE_w21 pG_a357) e0 pE_a357 (g := (mkF m 1 #[rv a357] [(.ref a357)])) rfl (by rw [hml]; rfl) (rest := []) (W := 0) (lenOf pd_2 rfl) rfl (by show 2 * 0 + _ ≤ _; exact Nat.le_of_eq rfl) (hb hby d2_1) (by decide) (by decide) (by decide) (by decide)
  obtain ⟨rfl, Nq367, hh379⟩ := hQ367
  have N367 := Fr.app N0 Nq367
  have hk380 : T367.heap.size ≤ h0.size := Nat.le_of_eq (congrArg Array.size hh379)
  refine own_via (fun t k => st367 t (XS.ifYes X367.here hx rfl (pc0 := 4) (pc' := 11) rfl (hb hby d2_4) rfl ((if0 _ _).trans (teq (by decide : (0 : Int32) = (0 : Int32))).1) (by decide) (by decide) (XS.aloadN X367.here hx rfl (hb hby d2_11) rfl rfl k))) ?_
  show own_Goes p e below (T367.setTop (mkF m 12 #[rv a357] [(.ref a357)])) _
  obtain ⟨_, T381, _, X381, hQ381, hS, hZ, hown, st381⟩ := own_cvS X367 hx hZ hS hk380 hown (wd hw 73 rfl) (wd hw 47 rfl) (wd hw 49 rfl) (wd hw 48 rfl) (wd hw 50 rfl) (wd hw 3 rfl) (by decide) (rm25 l Z a0 hw [] a357 w23 h0 n0 O0 S_Tertium_NULL SE_w23 pG_a357) hh379 pE_a357 (g := (mkF m 12 #[rv a357] [(.ref a357)])) rfl (by rw [hml]; rfl) (rest := []) (W := 0) (lenOf pd_2 rfl) rfl (by show 2 * 0 + _ ≤ _; exact Nat.le_of_eq rfl) (hb hby d2_12) (by decide) (by decide) (by decide) (by decide)
  obtain ⟨rfl, Nq381, hh393⟩ := hQ381
  have N381 := Fr.app N367 Nq381
  have hk394 : T381.heap.size ≤ h0.size := Nat.le_of_eq (congrArg Array.size hh393)
  refine own_via (fun t k => st381 t (XS.ifYes X381.here hx rfl (pc0 := 15) (pc' := 22) rfl (hb hby d2_15) rfl ((if0 _ _).trans (teq (by decide : (0 : Int32) = (0 : Int32))).1) (by decide) (by decide) (XS.aloadN X381.here hx rfl (hb hby d2_22) rfl rfl k))) ?_
  show own_Goes p e below (T381.setTop (mkF m 23 #[rv a357] [(.ref a357)])) _
  obtain ⟨T395, X395, e395, st395⟩ := getF X381 hx hZ hown (host := "") (Or.inl (wd hw 71 rfl)) Via.refl hh393 pF_a357_value (g := (mkF m 23 #[rv a357] [(.ref a357)])) rfl rfl (hb hby d2_23)
  refine own_via (fun t k => st395 t k) ?_
  obtain ⟨_, T396, _, X396, hQ396, hS, hZ, hown, st396⟩ := own_csS X395 hx hZ hS hk394 hown (wd hw 74 rfl) (wd hw 75 rfl) (wd hw 76 rfl) (wd hw 19 rfl) (by decide) (rm28 l Z a0 hw [] a358 h0 n0 O0 ) e395 (g := (mkF m 26 #[rv a357] [(.ref a358)])) rfl (by rw [hml]; rfl) (rest := []) (W := 0) (lenOf pd_13 rfl) rfl (by show 2 * 0 + _ ≤ _; exact Nat.le_of_eq rfl) (hb hby d2_26) (by decide) (by decide) (by decide) (by decide)
  obtain ⟨h396, e396⟩ : ∃ z, T396.heap = z := ⟨_, rfl⟩
  rw [e396] at hQ396
  obtain ⟨b447, rfl, Nq396, K396, bx448, ex449, fx450⟩ := hQ396
  have N396 := Fr.app N381 Nq396
  have g451 : n0 ≤ b447 := Nat.le_trans (own_old O0) bx448
  have B452 : h0.size ≤ b447 := Nat.le_trans (Nat.le_refl _) bx448
  have hk453 : T396.heap.size ≤ h396.size := Nat.le_of_eq (congrArg Array.size e396)
  refine own_via (fun t k => st396 t k) ?_
  have O455 : Old Z n0 h396 := (O0.keep K396 all0)
  obtain ⟨_, T454, _, X454, hQ454, hS, hZ, hown, st454⟩ := own_csS X396 hx hZ hS hk453 hown (wd hw 74 rfl) (wd hw 75 rfl) (wd hw 76 rfl) (wd hw 19 rfl) (by decide) (rm28 l Z a0 hw [] b447 h396 n0 O455 ) e396 (g := (mkF m 29 #[rv a357] [(.ref b447)])) rfl (by rw [hml]; rfl) (rest := []) (W := 0) (lenOf pd_13 rfl) rfl (by show 2 * 0 + _ ≤ _; exact Nat.le_of_eq rfl) (hb hby d2_29) (by decide) (by decide) (by decide) (by decide)
  obtain ⟨h454, e454⟩ : ∃ z, T454.heap = z := ⟨_, rfl⟩
  rw [e454] at hQ454
  obtain ⟨b456, rfl, Nq454, K454, bx457, ex458, fx459⟩ := hQ454
  have N454 := Fr.app N396 Nq454
  have N460 : b447 ≠ b456 := Nat.ne_of_lt (Nat.lt_of_lt_of_le ex449.lt bx457)
  have g461 : n0 ≤ b456 := Nat.le_trans (own_old O455) bx457
  have Z463 : h0.size ≤ h396.size := (Nat.le_trans (Nat.le_refl _) K396.1)
  have B462 : h0.size ≤ b456 := Nat.le_trans Z463 bx457
  have hk464 : T454.heap.size ≤ h454.size := Nat.le_of_eq (congrArg Array.size e454)
  refine own_via (fun t k => st454 t k) ?_
  obtain ⟨fs, hr, hrun, hended, hRW⟩ := X454.leaveW hS (by rw [e454]; first | exact hk464 | exact Nat.le_refl _) (v := some (.ref b456)) (fun h => by rw [Bd.returns] at h; cases h)
  refine own_end (t := T454.setFrames fs) ?_ ⟨_, hrun, hended, _, _, rfl, ?_, own_rmono hRW (by decide) (by decide)⟩
  · jvm_step X454.here [X454.here.top, hx, (hb hby d2_32), X454.method', Bd.returns, Value.isRef, FieldType.isReference]
    first | (intro acts; rw [hr _ acts rfl rfl rfl]) | rw [hr _ _ rfl rfl rfl]
    exact Steps.refl _
  have E465 : Exa Z h454 b447 zs2 := (ex449.keep K454)
  have F466 : Fld Z h454 b447 zs2 "value" zs3 (.ref a358) := (fx450.keep K454 nin0)
  · show Q29 Z a357 w21 w23 a358 h0 n0 _ T454.heap _
    rw [e454]
    exact ⟨b447, b456, rfl, N454, (((Keep.refl h0 []).trans K396 all0).trans K454 all0), B452, E465, F466, B462, ex458, fx459, N460⟩
def Q30 (Z : State) (a504 : Addr) (a505 : Addr) (h0 : Heap) (n0 : Nat) (v : Option Value) (h : Heap) (L : List Loc) : Prop := v = some (.ref a504) ∧ Fr n0 L ∧ h = h0
set_option maxRecDepth 65536 in
set_option maxHeartbeats 40000000 in
theorem rm30 (l : Launch) (Z : State) (a0 : Array Value) (hw : ∀ d ∈ tables_1, d.before a0 Z = true) (ws : List Jvm.Cond) (a504 : Addr) (a505 : Addr) (h0 : Heap) (n0 : Nat) (O0 : Old Z n0 h0) :
    MetFree l (⟨zs9, zs17, zs8⟩ : MethodName) (head1 (Jvm.Cond.code (⟨zs9, zs17, zs8⟩ : MethodName) jdk_31_method_11_code 2 (some (.object zs5)) :: ws) ({ frames := 0, cells := 0, slots := 0, locals := 0 } : Room)) (fun a U => a = #[(.ref a504), (.ref a505)] ∧ Z.Warmed39 U.vm ∧ U.heap = h0) (fun _ _ _ _ _ => True) (fun _ U o U' => ∃ v L, o = .returned v ∧ Q30 Z a504 a505 h0 n0 v U'.heap L ∧ ReturnedEndW U o U' L ({ frames := 0, cells := 0, slots := 0, locals := 0 } : Room).cells ({ frames := 0, cells := 0, slots := 0, locals := 0 } : Room).slots) := by
  refine MetFree.of_bodySF (plainFor_of_name pn_3) hisR ?_
  intro p e s m args below meth c s₁ Bd hml0 hP hK
  obtain ⟨rfl, hZ, hh⟩ := hP
  have hx := Bd.exec
  have hby := Bd.bytes
  have hml : c.maxLocals = 2 := hml0
  have hown : s.vm.findClass zs9 = some m.cls := findClass_of_methodNamed Bd.named
  have hnm := (name_of_methodNamed Bd.named Bd.method).1
  have X0 : Stand p l e ({ frames := 0, cells := 0, slots := 0, locals := 0 } : Room) (s.setVm s.vm) m #[(.ref a504), (.ref a505)] below meth c s₁ [] 0 0 := Stand.of_body Bd
  have hS : s.Since s.vm 0 := (State.WarmedH.refl s).since 0
  obtain ⟨k0, hk0, hS⟩ : ∃ k0, k0 ≤ h0.size ∧ s.Since s.vm k0 := ⟨0, Nat.zero_le _, hS⟩
  have hZ : Z.Warmed39 (s.setVm s.vm).vm := hZ
  have hown : (s.setVm s.vm).vm.findClass zs9 = some m.cls := hown
  have e0 : s₁.heap = h0 := by rw [← hh, Bd.state]; rfl
  have N0 := Fr.nil n0
  refine own_out ?_
  refine own_via (fun t k => castTop (ef_5 m a504 a505) (XS.aloadN X0.here hx rfl (hb hby d6_0) rfl rfl (XS.ifnonnullYes X0.here hx rfl (pc0 := 1) (pc' := 13) rfl (hb hby d6_1) rfl (by decide) (by decide) (XS.aloadN X0.here hx rfl (hb hby d6_13) rfl rfl k)))) ?_
  show own_Goes p e below (s₁.setTop (mkF m 14 #[rv a504, rv a505] [(.ref a504)])) _
  obtain ⟨fs, hr, hrun, hended, hRW⟩ := X0.leaveW hS (by rw [e0]; first | exact hk0 | exact Nat.le_refl _) (v := some (.ref a504)) (fun h => by rw [Bd.returns] at h; cases h)
  refine own_end (t := s₁.setFrames fs) ?_ ⟨_, hrun, hended, _, _, rfl, ?_, own_rmono hRW (by decide) (by decide)⟩
  · jvm_step X0.here [X0.here.top, hx, (hb hby d6_14), X0.method', Bd.returns, Value.isRef, FieldType.isReference]
    first | (intro acts; rw [hr _ acts rfl rfl rfl]) | rw [hr _ _ rfl rfl rfl]
    exact Steps.refl _
  · show Q30 Z a504 a505 h0 n0 _ s₁.heap _
    rw [e0]
    exact ⟨rfl, N0, rfl⟩
def Q31 (Z : State) (a521 : Addr) (a525 : Addr) (h0 : Heap) (n0 : Nat) (v : Option Value) (h : Heap) (L : List Loc) : Prop := v = some (.int (1 : Int32)) ∧ Fr n0 L ∧ h = h0
set_option maxRecDepth 65536 in
set_option maxHeartbeats 40000000 in
theorem rm31 (l : Launch) (Z : State) (a0 : Array Value) (hw : ∀ d ∈ tables_1, d.before a0 Z = true) (ws : List Jvm.Cond) (a521 : Addr) (a525 : Addr) (h0 : Heap) (n0 : Nat) (O0 : Old Z n0 h0) (pF_a521_value : Fld Z h0 a521 zs2 "value" zs3 (.ref a525)) :
    MetFree l (⟨zs2, "isPresent", "()Z"⟩ : MethodName) (head1 (Jvm.Cond.code (⟨zs2, "isPresent", "()Z"⟩ : MethodName) jdk_32_method_6_code 1 (some .boolean) :: ws) ({ frames := 0, cells := 0, slots := 0, locals := 0 } : Room)) (fun a U => a = #[(.ref a521)] ∧ Z.Warmed39 U.vm ∧ U.heap = h0) (fun _ _ _ _ _ => True) (fun _ U o U' => ∃ v L, o = .returned v ∧ Q31 Z a521 a525 h0 n0 v U'.heap L ∧ ReturnedEndW U o U' L ({ frames := 0, cells := 0, slots := 0, locals := 0 } : Room).cells ({ frames := 0, cells := 0, slots := 0, locals := 0 } : Room).slots) := by
  refine MetFree.of_bodySF (plainFor_of_name pn_2) hisR ?_
  intro p e s m args below meth c s₁ Bd hml0 hP hK
  obtain ⟨rfl, hZ, hh⟩ := hP
  have hx := Bd.exec
  have hby := Bd.bytes
  have hml : c.maxLocals = 1 := hml0
  have hown : s.vm.findClass zs2 = some m.cls := findClass_of_methodNamed Bd.named
  have hnm := (name_of_methodNamed Bd.named Bd.method).1
  have X0 : Stand p l e ({ frames := 0, cells := 0, slots := 0, locals := 0 } : Room) (s.setVm s.vm) m #[(.ref a521)] below meth c s₁ [] 0 0 := Stand.of_body Bd
  have hS : s.Since s.vm 0 := (State.WarmedH.refl s).since 0
  obtain ⟨k0, hk0, hS⟩ : ∃ k0, k0 ≤ h0.size ∧ s.Since s.vm k0 := ⟨0, Nat.zero_le _, hS⟩
  have hZ : Z.Warmed39 (s.setVm s.vm).vm := hZ
  have hown : (s.setVm s.vm).vm.findClass zs2 = some m.cls := hown
  have e0 : s₁.heap = h0 := by rw [← hh, Bd.state]; rfl
  have N0 := Fr.nil n0
  refine own_out ?_
  refine own_via (fun t k => castTop (ef_6 m a521) (XS.aloadN X0.here hx rfl (hb hby d7_0) rfl rfl k)) ?_
  obtain ⟨T533, X533, e533, st533⟩ := getF X0 hx hZ hown (host := "") (Or.inl (wd hw 42 rfl)) Via.refl e0 pF_a521_value (g := (mkF m 1 #[rv a521] [(.ref a521)])) rfl rfl (hb hby d7_1)
  refine own_via (fun t k => st533 t (XS.ifnullNo X533.here hx rfl (hb hby d7_4) rfl (XS.iconst X533.here hx rfl (hb hby d7_7) (XS.goto X533.here hx rfl (pc0 := 8) (pc' := 12) rfl (hb hby d7_8) (by decide) (by decide) k)))) ?_
  show own_Goes p e below (T533.setTop (mkF m 12 #[rv a521] [(.int (1 : Int32))])) _
  obtain ⟨fs, hr, hrun, hended, hRW⟩ := X533.leaveW hS (by rw [e533]; first | exact hk0 | exact Nat.le_refl _) (v := some (.int (1 : Int32))) (fun h => by rw [Bd.returns] at h; cases h)
  refine own_end (t := T533.setFrames fs) ?_ ⟨_, hrun, hended, _, _, rfl, ?_, own_rmono hRW (by decide) (by decide)⟩
  · exact retN X533 hx (t := .boolean) Bd.returns (by simp) (hb hby d7_12) hr
  · show Q31 Z a521 a525 h0 n0 _ T533.heap _
    rw [e533]
    exact ⟨rfl, N0, rfl⟩
def Q32 (Z : State) (a539 : Addr) (a543 : Addr) (h0 : Heap) (n0 : Nat) (v : Option Value) (h : Heap) (L : List Loc) : Prop := v = some (.ref a543) ∧ Fr n0 L ∧ h = h0
set_option maxRecDepth 65536 in
set_option maxHeartbeats 40000000 in
theorem rm32 (l : Launch) (Z : State) (a0 : Array Value) (hw : ∀ d ∈ tables_1, d.before a0 Z = true) (ws : List Jvm.Cond) (a539 : Addr) (a543 : Addr) (h0 : Heap) (n0 : Nat) (O0 : Old Z n0 h0) (pF_a539_value : Fld Z h0 a539 zs2 "value" zs3 (.ref a543)) :
    MetFree l (⟨zs2, "get", zs15⟩ : MethodName) (head1 (Jvm.Cond.code (⟨zs2, "get", zs15⟩ : MethodName) jdk_32_method_5_code 1 (some (.object zs5)) :: ws) ({ frames := 0, cells := 0, slots := 0, locals := 0 } : Room)) (fun a U => a = #[(.ref a539)] ∧ Z.Warmed39 U.vm ∧ U.heap = h0) (fun _ _ _ _ _ => True) (fun _ U o U' => ∃ v L, o = .returned v ∧ Q32 Z a539 a543 h0 n0 v U'.heap L ∧ ReturnedEndW U o U' L ({ frames := 0, cells := 0, slots := 0, locals := 0 } : Room).cells ({ frames := 0, cells := 0, slots := 0, locals := 0 } : Room).slots) := by
  refine MetFree.of_bodySF (plainFor_of_name pn_2) hisR ?_
  intro p e s m args below meth c s₁ Bd hml0 hP hK
  obtain ⟨rfl, hZ, hh⟩ := hP
  have hx := Bd.exec
  have hby := Bd.bytes
  have hml : c.maxLocals = 1 := hml0
  have hown : s.vm.findClass zs2 = some m.cls := findClass_of_methodNamed Bd.named
  have hnm := (name_of_methodNamed Bd.named Bd.method).1
  have X0 : Stand p l e ({ frames := 0, cells := 0, slots := 0, locals := 0 } : Room) (s.setVm s.vm) m #[(.ref a539)] below meth c s₁ [] 0 0 := Stand.of_body Bd
  have hS : s.Since s.vm 0 := (State.WarmedH.refl s).since 0
  obtain ⟨k0, hk0, hS⟩ : ∃ k0, k0 ≤ h0.size ∧ s.Since s.vm k0 := ⟨0, Nat.zero_le _, hS⟩
  have hZ : Z.Warmed39 (s.setVm s.vm).vm := hZ
  have hown : (s.setVm s.vm).vm.findClass zs2 = some m.cls := hown
  have e0 : s₁.heap = h0 := by rw [← hh, Bd.state]; rfl
  have N0 := Fr.nil n0
  refine own_out ?_
  refine own_via (fun t k => castTop (ef_10 m a539) (XS.aloadN X0.here hx rfl (hb hby d16_0) rfl rfl k)) ?_
  obtain ⟨T551, X551, e551, st551⟩ := getF X0 hx hZ hown (host := "") (Or.inl (wd hw 42 rfl)) Via.refl e0 pF_a539_value (g := (mkF m 1 #[rv a539] [(.ref a539)])) rfl rfl (hb hby d16_1)
  refine own_via (fun t k => st551 t (XS.ifnonnullYes X551.here hx rfl (pc0 := 4) (pc' := 17) rfl (hb hby d16_4) rfl (by decide) (by decide) (XS.aloadN X551.here hx rfl (hb hby d16_17) rfl rfl k))) ?_
  show own_Goes p e below (T551.setTop (mkF m 18 #[rv a539] [(.ref a539)])) _
  obtain ⟨T552, X552, e552, st552⟩ := getF X551 hx hZ hown (host := "") (Or.inl (wd hw 42 rfl)) Via.refl e551 pF_a539_value (g := (mkF m 18 #[rv a539] [(.ref a539)])) rfl rfl (hb hby d16_18)
  refine own_via (fun t k => st552 t k) ?_
  obtain ⟨fs, hr, hrun, hended, hRW⟩ := X552.leaveW hS (by rw [e552]; first | exact hk0 | exact Nat.le_refl _) (v := some (.ref a543)) (fun h => by rw [Bd.returns] at h; cases h)
  refine own_end (t := T552.setFrames fs) ?_ ⟨_, hrun, hended, _, _, rfl, ?_, own_rmono hRW (by decide) (by decide)⟩
  · jvm_step X552.here [X552.here.top, hx, (hb hby d16_21), X552.method', Bd.returns, Value.isRef, FieldType.isReference]
    first | (intro acts; rw [hr _ acts rfl rfl rfl]) | rw [hr _ _ rfl rfl rfl]
    exact Steps.refl _
  · show Q32 Z a539 a543 h0 n0 _ T552.heap _
    rw [e552]
    exact ⟨rfl, N0, rfl⟩
theorem d17_7 : decode jdk_32_method_15_code 7 = .ok (.aload_n 0, 1) := by decide +kernel
theorem d17_8 : decode jdk_32_method_15_code 8 = .ok (.getfield 13, 3) := by decide +kernel
theorem d17_11 : decode jdk_32_method_15_code 11 = .ok (.goto 4, 3) := by decide +kernel
def Q33 (Z : State) (a558 : Addr) (a559 : Addr) (h0 : Heap) (n0 : Nat) (v : Option Value) (h : Heap) (L : List Loc) : Prop := v = some (.ref a559) ∧ Fr n0 L ∧ h = h0
set_option maxRecDepth 65536 in
set_option maxHeartbeats 40000000 in
theorem rm33 (l : Launch) (Z : State) (a0 : Array Value) (hw : ∀ d ∈ tables_1, d.before a0 Z = true) (ws : List Jvm.Cond) (a558 : Addr) (a559 : Addr) (h0 : Heap) (n0 : Nat) (O0 : Old Z n0 h0) (pF_a558_value : Fld Z h0 a558 zs2 "value" zs3 (.ref a559)) :
    MetFree l (⟨zs2, "orElse", zs7⟩ : MethodName) (head1 (Jvm.Cond.code (⟨zs2, "orElse", zs7⟩ : MethodName) jdk_32_method_15_code 2 (some (.object zs5)) :: ws) ({ frames := 0, cells := 0, slots := 0, locals := 0 } : Room)) (fun a U => a = #[(.ref a558), .null] ∧ Z.Warmed39 U.vm ∧ U.heap = h0) (fun _ _ _ _ _ => True) (fun _ U o U' => ∃ v L, o = .returned v ∧ Q33 Z a558 a559 h0 n0 v U'.heap L ∧ ReturnedEndW U o U' L ({ frames := 0, cells := 0, slots := 0, locals := 0 } : Room).cells ({ frames := 0, cells := 0, slots := 0, locals := 0 } : Room).slots) := by
  refine MetFree.of_bodySF (plainFor_of_name pn_2) hisR ?_
  intro p e s m args below meth c s₁ Bd hml0 hP hK
  obtain ⟨rfl, hZ, hh⟩ := hP
  have hx := Bd.exec
  have hby := Bd.bytes
  have hml : c.maxLocals = 2 := hml0
  have hown : s.vm.findClass zs2 = some m.cls := findClass_of_methodNamed Bd.named
  have hnm := (name_of_methodNamed Bd.named Bd.method).1
  have X0 : Stand p l e ({ frames := 0, cells := 0, slots := 0, locals := 0 } : Room) (s.setVm s.vm) m #[(.ref a558), .null] below meth c s₁ [] 0 0 := Stand.of_body Bd
  have hS : s.Since s.vm 0 := (State.WarmedH.refl s).since 0
  obtain ⟨k0, hk0, hS⟩ : ∃ k0, k0 ≤ h0.size ∧ s.Since s.vm k0 := ⟨0, Nat.zero_le _, hS⟩
  have hZ : Z.Warmed39 (s.setVm s.vm).vm := hZ
  have hown : (s.setVm s.vm).vm.findClass zs2 = some m.cls := hown
  have e0 : s₁.heap = h0 := by rw [← hh, Bd.state]; rfl
  have N0 := Fr.nil n0
  refine own_out ?_
  refine own_via (fun t k => castTop (ef_11 m a558) (XS.aloadN X0.here hx rfl (hb hby d17_0) rfl rfl k)) ?_
  obtain ⟨T570, X570, e570, st570⟩ := getF X0 hx hZ hown (host := "") (Or.inl (wd hw 42 rfl)) Via.refl e0 pF_a558_value (g := (mkF m 1 #[rv a558, .val .null] [(.ref a558)])) rfl rfl (hb hby d17_1)
  refine own_via (fun t k => st570 t (XS.ifnullNo X570.here hx rfl (hb hby d17_4) rfl (XS.aloadN X570.here hx rfl (hb hby d17_7) rfl rfl k))) ?_
  show own_Goes p e below (T570.setTop (mkF m 8 #[rv a558, .val .null] [(.ref a558)])) _
  obtain ⟨T571, X571, e571, st571⟩ := getF X570 hx hZ hown (host := "") (Or.inl (wd hw 42 rfl)) Via.refl e570 pF_a558_value (g := (mkF m 8 #[rv a558, .val .null] [(.ref a558)])) rfl rfl (hb hby d17_8)
  refine own_via (fun t k => st571 t (XS.goto X571.here hx rfl (pc0 := 11) (pc' := 15) rfl (hb hby d17_11) (by decide) (by decide) k)) ?_
  obtain ⟨fs, hr, hrun, hended, hRW⟩ := X571.leaveW hS (by rw [e571]; first | exact hk0 | exact Nat.le_refl _) (v := some (.ref a559)) (fun h => by rw [Bd.returns] at h; cases h)
  refine own_end (t := T571.setFrames fs) ?_ ⟨_, hrun, hended, _, _, rfl, ?_, own_rmono hRW (by decide) (by decide)⟩
  · jvm_step X571.here [X571.here.top, hx, (hb hby d17_15), X571.method', Bd.returns, Value.isRef, FieldType.isReference]
    first | (intro acts; rw [hr _ acts rfl rfl rfl]) | rw [hr _ _ rfl rfl rfl]
    exact Steps.refl _
  · show Q33 Z a558 a559 h0 n0 _ T571.heap _
    rw [e571]
    exact ⟨rfl, N0, rfl⟩
def Q34 (Z : State) (a489 : Addr) (a493 : Addr) (a490 : Addr) (h0 : Heap) (n0 : Nat) (v : Option Value) (h : Heap) (L : List Loc) : Prop := (∃ (b576 : Addr), v = some (.ref b576) ∧ Fr n0 L ∧ Keep h0 h [] ∧ h0.size ≤ b576 ∧ Exa Z h b576 zs1 ∧ Fld Z h b576 zs1 "value" zs3 (.ref a490))
set_option maxRecDepth 65536 in
set_option maxHeartbeats 40000000 in
theorem rm34 (l : Launch) (Z : State) (a0 : Array Value) (hw : ∀ d ∈ tables_1, d.before a0 Z = true) (ws : List Jvm.Cond) (a489 : Addr) (a493 : Addr) (a490 : Addr) (h0 : Heap) (n0 : Nat) (O0 : Old Z n0 h0) (pF_a489_value : Fld Z h0 a489 zs2 "value" zs3 (.ref a493)) (pE_a489 : Exa Z h0 a489 zs2) (pE_a493 : Exa Z h0 a493 zs2) (pF_a493_value : Fld Z h0 a493 zs2 "value" zs3 (.ref a490)) :
    MetFree l (⟨zs1, zs18, zs10⟩ : MethodName) (head1 (Jvm.Cond.code (⟨zs1, zs18, zs10⟩ : MethodName) prog_1_method_6_code 1 (some (.object zs1)) :: ws) ({ frames := 3, cells := 3, slots := 29, locals := 38 } : Room)) (fun a U => a = #[(.ref a489)] ∧ Z.Warmed39 U.vm ∧ U.heap = h0) (fun _ _ _ _ _ => True) (fun _ U o U' => ∃ v L, o = .returned v ∧ Q34 Z a489 a493 a490 h0 n0 v U'.heap L ∧ ReturnedEndW U o U' L ({ frames := 3, cells := 3, slots := 29, locals := 38 } : Room).cells ({ frames := 3, cells := 3, slots := 29, locals := 38 } : Room).slots) := by
  refine MetFree.of_bodySF (plainFor_of_name pn_1) hisR ?_
  intro p e s m args below meth c s₁ Bd hml0 hP hK
  obtain ⟨rfl, hZ, hh⟩ := hP
  have hx := Bd.exec
  have hby := Bd.bytes
  have hml : c.maxLocals = 1 := hml0
  have hown : s.vm.findClass zs1 = some m.cls := findClass_of_methodNamed Bd.named
  have hnm := (name_of_methodNamed Bd.named Bd.method).1
  have X0 : Stand p l e ({ frames := 3, cells := 3, slots := 29, locals := 38 } : Room) (s.setVm s.vm) m #[(.ref a489)] below meth c s₁ [] 0 0 := Stand.of_body Bd
  have hS : s.Since s.vm 0 := (State.WarmedH.refl s).since 0
  obtain ⟨k0, hk0, hS⟩ : ∃ k0, k0 ≤ h0.size ∧ s.Since s.vm k0 := ⟨0, Nat.zero_le _, hS⟩
  have hZ : Z.Warmed39 (s.setVm s.vm).vm := hZ
  have hown : (s.setVm s.vm).vm.findClass zs1 = some m.cls := hown
  have e0 : s₁.heap = h0 := by rw [← hh, Bd.state]; rfl
  have N0 := Fr.nil n0
  refine own_out ?_
  refine own_via (fun t k => castTop (ef_7 m a489) (XS.aloadN X0.here hx rfl (hb hby d5_0) rfl rfl k)) ?_
  obtain ⟨b502, T501, h501, k501, X501, e501, E501, hS, hk501, hZ, hown, st501⟩ := ldcS X0 hx hZ hown (wd hw 25 rfl) (own_strAtoms hw) e0 hS hk0 (g := (mkF m 1 #[rv a489] [(.ref a489)])) rfl (hb hby d5_1) (n := 24) (by decide) (by decide) (by decide) (by decide)
  refine own_via (fun t k => st501 t k) ?_
  have O517 : Old Z n0 h501 := (O0.ext E501)
  obtain ⟨_, T503, _, X503, hQ503, hS, hZ, hown, st503⟩ := own_csS X501 hx hZ hS hk501 hown (wd hw 33 rfl) (wd hw 34 rfl) (wd hw 36 rfl) (wd hw 35 rfl) (by decide) (rm30 l Z a0 hw [] a489 b502 h501 n0 O517 ) e501 (g := (mkF m 3 #[rv a489] [(.ref b502), (.ref a489)])) rfl (by rw [hml]; rfl) (rest := []) (W := 0) (lenOf pd_4 rfl) rfl (by show 2 * 0 + _ ≤ _; exact Nat.le_of_eq rfl) (hb hby d5_3) (by decide) (by decide) (by decide) (by decide)
  obtain ⟨rfl, Nq503, hh518⟩ := hQ503
  have N503 := Fr.app N0 Nq503
  have hk519 : T503.heap.size ≤ h501.size := Nat.le_of_eq (congrArg Array.size hh518)
  refine own_via (fun t k => st503 t (XS.pop X503.here hx rfl (hb hby d5_6) rfl rfl (XS.aloadN X503.here hx rfl (hb hby d5_7) rfl rfl k))) ?_
  show own_Goes p e below (T503.setTop (mkF m 8 #[rv a489] [(.ref a489)])) _
  have F534 : Fld Z h501 a489 zs2 "value" zs3 (.ref a493) := (pF_a489_value.ext E501)
  have E535 : Exa Z h501 a489 zs2 := (pE_a489.ext E501)
  obtain ⟨_, T520, _, X520, hQ520, hS, hZ, hown, st520⟩ := own_cvS X503 hx hZ hS hk519 hown (wd hw 37 rfl) (wd hw 38 rfl) (wd hw 40 rfl) (wd hw 39 rfl) (wd hw 41 rfl) (wd hw 19 rfl) (by decide) (rm31 l Z a0 hw [] a489 a493 h501 n0 O517 F534) hh518 E535 (g := (mkF m 8 #[rv a489] [(.ref a489)])) rfl (by rw [hml]; rfl) (rest := []) (W := 0) (lenOf pd_2 rfl) rfl (by show 2 * 0 + _ ≤ _; exact Nat.le_of_eq rfl) (hb hby d5_8) (by decide) (by decide) (by decide) (by decide)
  obtain ⟨rfl, Nq520, hh536⟩ := hQ520
  have N520 := Fr.app N503 Nq520
  have hk537 : T520.heap.size ≤ h501.size := Nat.le_of_eq (congrArg Array.size hh536)
  refine own_via (fun t k => st520 t (XS.ifNo X520.here hx rfl (hb hby d5_11) rfl ((if0 _ _).trans (feq (by decide : ¬ ((1 : Int32) = (0 : Int32)))).1) (XS.aloadN X520.here hx rfl (hb hby d5_14) rfl rfl k))) ?_
  show own_Goes p e below (T520.setTop (mkF m 15 #[rv a489] [(.ref a489)])) _
  obtain ⟨_, T538, _, X538, hQ538, hS, hZ, hown, st538⟩ := own_cvS X520 hx hZ hS hk537 hown (wd hw 87 rfl) (wd hw 88 rfl) (wd hw 90 rfl) (wd hw 89 rfl) (wd hw 91 rfl) (wd hw 19 rfl) (by decide) (rm32 l Z a0 hw [] a489 a493 h501 n0 O517 F534) hh536 E535 (g := (mkF m 15 #[rv a489] [(.ref a489)])) rfl (by rw [hml]; rfl) (rest := []) (W := 0) (lenOf pd_6 rfl) rfl (by show 2 * 0 + _ ≤ _; exact Nat.le_of_eq rfl) (hb hby d5_15) (by decide) (by decide) (by decide) (by decide)
  obtain ⟨rfl, Nq538, hh553⟩ := hQ538
  have N538 := Fr.app N520 Nq538
  have hk554 : T538.heap.size ≤ h501.size := Nat.le_of_eq (congrArg Array.size hh553)
  refine own_via (fun t k => st538 t k) ?_
  have E556 : Exa Z h501 a493 zs2 := (pE_a493.ext E501)
  obtain ⟨T555, X555, e555, st555⟩ := castY X538 hx hZ hown (wd hw 92 rfl) hh553 (Ins.self E556) (g := (mkF m 18 #[rv a489] [(.ref a493)])) rfl rfl (hb hby d5_18)
  refine own_via (fun t k => st555 t (XS.aconstNull X555.here hx rfl (hb hby d5_21) k)) ?_
  have F572 : Fld Z h501 a493 zs2 "value" zs3 (.ref a490) := (pF_a493_value.ext E501)
  obtain ⟨_, T557, _, X557, hQ557, hS, hZ, hown, st557⟩ := own_cvS X555 hx hZ hS hk554 hown (wd hw 93 rfl) (wd hw 94 rfl) (wd hw 96 rfl) (wd hw 95 rfl) (wd hw 97 rfl) (wd hw 19 rfl) (by decide) (rm33 l Z a0 hw [] a493 a490 h501 n0 O517 F572) e555 E556 (g := (mkF m 22 #[rv a489] [.null, (.ref a493)])) rfl (by rw [hml]; rfl) (rest := []) (W := 0) (lenOf pd_7 rfl) rfl (by show 2 * 0 + _ ≤ _; exact Nat.le_of_eq rfl) (hb hby d5_22) (by decide) (by decide) (by decide) (by decide)
  obtain ⟨rfl, Nq557, hh573⟩ := hQ557
  have N557 := Fr.app N538 Nq557
  have hk574 : T557.heap.size ≤ h501.size := Nat.le_of_eq (congrArg Array.size hh573)
  refine own_via (fun t k => st557 t k) ?_
  obtain ⟨_, T575, _, X575, hQ575, hS, hZ, hown, st575⟩ := own_csS X557 hx hZ hS hk574 hown (wd hw 98 rfl) (wd hw 61 rfl) (wd hw 62 rfl) (wd hw 3 rfl) (by decide) (rm23 l Z a0 hw [] a490 h501 n0 O517 ) hh573 (g := (mkF m 25 #[rv a489] [(.ref a490)])) rfl (by rw [hml]; rfl) (rest := []) (W := 0) (lenOf pd_8 rfl) rfl (by show 2 * 0 + _ ≤ _; exact Nat.le_of_eq rfl) (hb hby d5_25) (by decide) (by decide) (by decide) (by decide)
  obtain ⟨h575, e575⟩ : ∃ z, T575.heap = z := ⟨_, rfl⟩
  rw [e575] at hQ575
  obtain ⟨b576, rfl, Nq575, K575, bx577, ex578, fx579⟩ := hQ575
  have N575 := Fr.app N557 Nq575
  have g580 : n0 ≤ b576 := Nat.le_trans (own_old O517) bx577
  have Z582 : h0.size ≤ h501.size := (Nat.le_trans (Nat.le_refl _) E501.1)
  have B581 : h0.size ≤ b576 := Nat.le_trans Z582 bx577
  have hk583 : T575.heap.size ≤ h575.size := Nat.le_of_eq (congrArg Array.size e575)
  refine own_via (fun t k => st575 t (XS.goto X575.here hx rfl (pc0 := 28) (pc' := 34) rfl (hb hby d5_28) (by decide) (by decide) k)) ?_
  obtain ⟨fs, hr, hrun, hended, hRW⟩ := X575.leaveW hS (by rw [e575]; first | exact hk583 | exact Nat.le_refl _) (v := some (.ref b576)) (fun h => by rw [Bd.returns] at h; cases h)
  refine own_end (t := T575.setFrames fs) ?_ ⟨_, hrun, hended, _, _, rfl, ?_, own_rmono hRW (by decide) (by decide)⟩
  · jvm_step X575.here [X575.here.top, hx, (hb hby d5_34), X575.method', Bd.returns, Value.isRef, FieldType.isReference]
    first | (intro acts; rw [hr _ acts rfl rfl rfl]) | rw [hr _ _ rfl rfl rfl]
    exact Steps.refl _
  · show Q34 Z a489 a493 a490 h0 n0 _ T575.heap _
    rw [e575]
    exact ⟨b576, rfl, N575, (((Keep.refl h0 []).ext E501).trans K575 all0), B581, ex578, fx579⟩
theorem d18_0 : decode prog_1_method_14_code 0 = .ok (.aload_n 0, 1) := by decide +kernel
theorem d18_1 : decode prog_1_method_14_code 1 = .ok (.invokevirtual 70, 3) := by decide +kernel
theorem d18_4 : decode prog_1_method_14_code 4 = .ok (.ifCond .eq 13, 3) := by decide +kernel
theorem d18_17 : decode prog_1_method_14_code 17 = .ok (.aload_n 0, 1) := by decide +kernel
theorem d18_18 : decode prog_1_method_14_code 18 = .ok (.getfield 7, 3) := by decide +kernel
theorem d18_21 : decode prog_1_method_14_code 21 = .ok (.areturn, 1) := by decide +kernel
theorem ef_21 (m : MethodId) (x0 : Addr) : entryFrame m #[(.ref x0)] 1 = mkF m 0 #[rv x0] [] := by first | (simp [entryFrame, mkF, argsToLocals, Value.category]; done) | rfl
def Q35 (Z : State) (a607 : Addr) (w21 : Addr) (a608 : Addr) (h0 : Heap) (n0 : Nat) (v : Option Value) (h : Heap) (L : List Loc) : Prop := v = some (.ref a608) ∧ Fr n0 L ∧ h = h0
set_option maxRecDepth 65536 in
set_option maxHeartbeats 40000000 in
theorem rm35 (l : Launch) (Z : State) (a0 : Array Value) (hw : ∀ d ∈ tables_1, d.before a0 Z = true) (ws : List Jvm.Cond) (a607 : Addr) (w21 : Addr) (a608 : Addr) (h0 : Heap) (n0 : Nat) (O0 : Old Z n0 h0) (S_Tertium_ABSENT : Sta Z Z.heap zs1 "ABSENT" zs6 (.ref w21)) (SE_w21 : Exa Z Z.heap w21 zs1) (pG_a607 : n0 ≤ a607) (pE_a607 : Exa Z h0 a607 zs1) (pF_a607_value : Fld Z h0 a607 zs1 "value" zs3 (.ref a608)) :
    MetFree l (⟨zs1, "get", zs15⟩ : MethodName) (head1 (Jvm.Cond.code (⟨zs1, "get", zs15⟩ : MethodName) prog_1_method_14_code 1 (some (.object zs5)) :: ws) ({ frames := 1, cells := 0, slots := 0, locals := 12 } : Room)) (fun a U => a = #[(.ref a607)] ∧ Z.Warmed39 U.vm ∧ U.heap = h0) (fun _ _ _ _ _ => True) (fun _ U o U' => ∃ v L, o = .returned v ∧ Q35 Z a607 w21 a608 h0 n0 v U'.heap L ∧ ReturnedEndW U o U' L ({ frames := 1, cells := 0, slots := 0, locals := 12 } : Room).cells ({ frames := 1, cells := 0, slots := 0, locals := 12 } : Room).slots) := by
  refine MetFree.of_bodySF (plainFor_of_name pn_1) hisR ?_
  intro p e s m args below meth c s₁ Bd hml0 hP hK
  obtain ⟨rfl, hZ, hh⟩ := hP
  have hx := Bd.exec
  have hby := Bd.bytes
  have hml : c.maxLocals = 1 := hml0
  have hown : s.vm.findClass zs1 = some m.cls := findClass_of_methodNamed Bd.named
  have hnm := (name_of_methodNamed Bd.named Bd.method).1
  have X0 : Stand p l e ({ frames := 1, cells := 0, slots := 0, locals := 12 } : Room) (s.setVm s.vm) m #[(.ref a607)] below meth c s₁ [] 0 0 := Stand.of_body Bd
  have hS : s.Since s.vm 0 := (State.WarmedH.refl s).since 0
  obtain ⟨k0, hk0, hS⟩ : ∃ k0, k0 ≤ h0.size ∧ s.Since s.vm k0 := ⟨0, Nat.zero_le _, hS⟩
  have hZ : Z.Warmed39 (s.setVm s.vm).vm := hZ
  have hown : (s.setVm s.vm).vm.findClass zs1 = some m.cls := hown
  have e0 : s₁.heap = h0 := by rw [← hh, Bd.state]; rfl
  have N0 := Fr.nil n0
  refine own_out ?_
  refine own_via (fun t k => castTop (ef_21 m a607) (XS.aloadN X0.here hx rfl (hb hby d18_0) rfl rfl k)) ?_
  obtain ⟨_, T620, _, X620, hQ620, hS, hZ, hown, st620⟩ := own_cvS X0 hx hZ hS hk0 hown (wd hw 12 rfl) (wd hw 13 rfl) (wd hw 15 rfl) (wd hw 14 rfl) (wd hw 16 rfl) (wd hw 3 rfl) (by decide) (rm24 l Z a0 hw [] a607 w21 h0 n0 O0 S_Tertium_ABSENT SE_w21 pG_a607) e0 pE_a607 (g := (mkF m 1 #[rv a607] [(.ref a607)])) rfl (by rw [hml]; rfl) (rest := []) (W := 0) (lenOf pd_2 rfl) rfl (by show 2 * 0 + _ ≤ _; exact Nat.le_of_eq rfl) (hb hby d18_1) (by decide) (by decide) (by decide) (by decide)
  obtain ⟨rfl, Nq620, hh621⟩ := hQ620
  have N620 := Fr.app N0 Nq620
  have hk622 : T620.heap.size ≤ h0.size := Nat.le_of_eq (congrArg Array.size hh621)
  refine own_via (fun t k => st620 t (XS.ifYes X620.here hx rfl (pc0 := 4) (pc' := 17) rfl (hb hby d18_4) rfl ((if0 _ _).trans (teq (by decide : (0 : Int32) = (0 : Int32))).1) (by decide) (by decide) (XS.aloadN X620.here hx rfl (hb hby d18_17) rfl rfl k))) ?_
  show own_Goes p e below (T620.setTop (mkF m 18 #[rv a607] [(.ref a607)])) _
  obtain ⟨T623, X623, e623, st623⟩ := getF X620 hx hZ hown (host := "") (Or.inl (wd hw 71 rfl)) Via.refl hh621 pF_a607_value (g := (mkF m 18 #[rv a607] [(.ref a607)])) rfl rfl (hb hby d18_18)
  refine own_via (fun t k => st623 t k) ?_
  obtain ⟨fs, hr, hrun, hended, hRW⟩ := X623.leaveW hS (by rw [e623]; first | exact hk622 | exact Nat.le_refl _) (v := some (.ref a608)) (fun h => by rw [Bd.returns] at h; cases h)
  refine own_end (t := T623.setFrames fs) ?_ ⟨_, hrun, hended, _, _, rfl, ?_, own_rmono hRW (by decide) (by decide)⟩
  · jvm_step X623.here [X623.here.top, hx, (hb hby d18_21), X623.method', Bd.returns, Value.isRef, FieldType.isReference]
    first | (intro acts; rw [hr _ acts rfl rfl rfl]) | rw [hr _ _ rfl rfl rfl]
    exact Steps.refl _
  · show Q35 Z a607 w21 a608 h0 n0 _ T623.heap _
    rw [e623]
    exact ⟨rfl, N620, rfl⟩
theorem d19_0 : decode jdk_33_method_27_code 0 = .ok (.aload_n 0, 1) := by decide +kernel
theorem d19_1 : decode jdk_33_method_27_code 1 = .ok (.getfield 205, 3) := by decide +kernel
theorem d19_4 : decode jdk_33_method_27_code 4 = .ok (.ireturn, 1) := by decide +kernel
theorem ef_22 (m : MethodId) (x0 : Addr) : entryFrame m #[(.ref x0)] 1 = mkF m 0 #[rv x0] [] := by first | (simp [entryFrame, mkF, argsToLocals, Value.category]; done) | rfl
def Q36 (Z : State) (a629 : Addr) (p630 : Int32) (h0 : Heap) (n0 : Nat) (v : Option Value) (h : Heap) (L : List Loc) : Prop := v = some (.int p630) ∧ Fr n0 L ∧ h = h0
set_option maxRecDepth 65536 in
set_option maxHeartbeats 40000000 in
theorem rm36 (l : Launch) (Z : State) (a0 : Array Value) (hw : ∀ d ∈ tables_1, d.before a0 Z = true) (ws : List Jvm.Cond) (a629 : Addr) (p630 : Int32) (h0 : Heap) (n0 : Nat) (O0 : Old Z n0 h0) (pF_a629_value : Fld Z h0 a629 zs4 "value" "I" (.int p630)) :
    MetFree l (⟨zs4, "intValue", "()I"⟩ : MethodName) (head1 (Jvm.Cond.code (⟨zs4, "intValue", "()I"⟩ : MethodName) jdk_33_method_27_code 1 (some .int) :: ws) ({ frames := 0, cells := 0, slots := 0, locals := 0 } : Room)) (fun a U => a = #[(.ref a629)] ∧ Z.Warmed39 U.vm ∧ U.heap = h0) (fun _ _ _ _ _ => True) (fun _ U o U' => ∃ v L, o = .returned v ∧ Q36 Z a629 p630 h0 n0 v U'.heap L ∧ ReturnedEndW U o U' L ({ frames := 0, cells := 0, slots := 0, locals := 0 } : Room).cells ({ frames := 0, cells := 0, slots := 0, locals := 0 } : Room).slots) := by
  refine MetFree.of_bodySF (plainFor_of_name pn_5) hisR ?_
  intro p e s m args below meth c s₁ Bd hml0 hP hK
  obtain ⟨rfl, hZ, hh⟩ := hP
  have hx := Bd.exec
  have hby := Bd.bytes
  have hml : c.maxLocals = 1 := hml0
  have hown : s.vm.findClass zs4 = some m.cls := findClass_of_methodNamed Bd.named
  have hnm := (name_of_methodNamed Bd.named Bd.method).1
  have X0 : Stand p l e ({ frames := 0, cells := 0, slots := 0, locals := 0 } : Room) (s.setVm s.vm) m #[(.ref a629)] below meth c s₁ [] 0 0 := Stand.of_body Bd
  have hS : s.Since s.vm 0 := (State.WarmedH.refl s).since 0
  obtain ⟨k0, hk0, hS⟩ : ∃ k0, k0 ≤ h0.size ∧ s.Since s.vm k0 := ⟨0, Nat.zero_le _, hS⟩
  have hZ : Z.Warmed39 (s.setVm s.vm).vm := hZ
  have hown : (s.setVm s.vm).vm.findClass zs4 = some m.cls := hown
  have e0 : s₁.heap = h0 := by rw [← hh, Bd.state]; rfl
  have N0 := Fr.nil n0
  refine own_out ?_
  refine own_via (fun t k => castTop (ef_22 m a629) (XS.aloadN X0.here hx rfl (hb hby d19_0) rfl rfl k)) ?_
  obtain ⟨T642, X642, e642, st642⟩ := getF X0 hx hZ hown (host := "") (Or.inl (wd hw 111 rfl)) Via.refl e0 pF_a629_value (g := (mkF m 1 #[rv a629] [(.ref a629)])) rfl rfl (hb hby d19_1)
  refine own_via (fun t k => st642 t k) ?_
  obtain ⟨fs, hr, hrun, hended, hRW⟩ := X642.leaveW hS (by rw [e642]; first | exact hk0 | exact Nat.le_refl _) (v := some (.int p630)) (fun h => by rw [Bd.returns] at h; cases h)
  refine own_end (t := T642.setFrames fs) ?_ ⟨_, hrun, hended, _, _, rfl, ?_, own_rmono hRW (by decide) (by decide)⟩
  · exact retI X642 hx Bd.returns (hb hby d19_4) hr
  · show Q36 Z a629 p630 h0 n0 _ T642.heap _
    rw [e642]
    exact ⟨rfl, N0, rfl⟩
theorem pd_14 : parseMethodDescriptor "()I" = some ⟨[], some .int⟩ := by decide +kernel
def Q37 (Z : State) (a731 : Addr) (b302 : Addr) (h0 : Heap) (n0 : Nat) (v : Option Value) (h : Heap) (L : List Loc) : Prop := v = none ∧ Fr n0 L ∧ Keep h0 h [a731] ∧ Exa Z h a731 zs1 ∧ Fld Z h a731 zs1 "value" zs3 (.ref b302)
set_option maxRecDepth 65536 in
set_option maxHeartbeats 40000000 in
theorem rm37 (l : Launch) (Z : State) (a0 : Array Value) (hw : ∀ d ∈ tables_1, d.before a0 Z = true) (ws : List Jvm.Cond) (a731 : Addr) (b302 : Addr) (h0 : Heap) (n0 : Nat) (O0 : Old Z n0 h0) (pF_a731_value : Fld Z h0 a731 zs1 "value" zs3 .null) (pE_a731 : Exa Z h0 a731 zs1) (pG_a731 : n0 ≤ a731) :
    MetFree l (⟨zs1, "<init>", zs14⟩ : MethodName) (head1 (Jvm.Cond.code (⟨zs1, "<init>", zs14⟩ : MethodName) prog_1_method_1_code 2 none :: ws) ({ frames := 1, cells := 0, slots := 0, locals := 12 } : Room)) (fun a U => a = #[(.ref a731), (.ref b302)] ∧ Z.Warmed39 U.vm ∧ U.heap = h0) (fun _ _ _ _ _ => True) (fun _ U o U' => ∃ v L, o = .returned v ∧ Q37 Z a731 b302 h0 n0 v U'.heap L ∧ ReturnedEndW U o U' L ({ frames := 1, cells := 0, slots := 0, locals := 12 } : Room).cells ({ frames := 1, cells := 0, slots := 0, locals := 12 } : Room).slots) := by
  refine MetFree.of_bodySF (plainFor_of_name pn_1) hisR ?_
  intro p e s m args below meth c s₁ Bd hml0 hP hK
  obtain ⟨rfl, hZ, hh⟩ := hP
  have hx := Bd.exec
  have hby := Bd.bytes
  have hml : c.maxLocals = 2 := hml0
  have hown : s.vm.findClass zs1 = some m.cls := findClass_of_methodNamed Bd.named
  have hnm := (name_of_methodNamed Bd.named Bd.method).1
  have X0 : Stand p l e ({ frames := 1, cells := 0, slots := 0, locals := 12 } : Room) (s.setVm s.vm) m #[(.ref a731), (.ref b302)] below meth c s₁ [] 0 0 := Stand.of_body Bd
  have hS : s.Since s.vm 0 := (State.WarmedH.refl s).since 0
  obtain ⟨k0, hk0, hS⟩ : ∃ k0, k0 ≤ h0.size ∧ s.Since s.vm k0 := ⟨0, Nat.zero_le _, hS⟩
  have hZ : Z.Warmed39 (s.setVm s.vm).vm := hZ
  have hown : (s.setVm s.vm).vm.findClass zs1 = some m.cls := hown
  have e0 : s₁.heap = h0 := by rw [← hh, Bd.state]; rfl
  have N0 := Fr.nil n0
  refine own_out ?_
  refine own_via (fun t k => castTop (ef_16 m a731 b302) (XS.aloadN X0.here hx rfl (hb hby d11_0) rfl rfl k)) ?_
  obtain ⟨T741, X741, e741, st741⟩ := initO X0 hx hZ hown (wd hw 68 rfl) (wd hw 69 rfl) (wd hw 70 rfl) e0 (g := (mkF m 1 #[rv a731, rv b302] [(.ref a731)])) rfl (by rw [hml]; rfl) rfl (hb hby d11_1) (by decide) (W := 0) (by show 2 * 0 + _ ≤ _; exact Nat.le_of_eq rfl) (by decide)
  refine own_via (fun t k => st741 t (XS.aloadN X741.here hx rfl (hb hby d11_4) rfl rfl (XS.aloadN X741.here hx rfl (hb hby d11_5) rfl rfl k))) ?_
  show own_Goes p e below (T741.setTop (mkF m 6 #[rv a731, rv b302] [(.ref b302), (.ref a731)])) _
  obtain ⟨T742, h742, X742, e742, W742, st742⟩ := putF X741 hx hZ hown (host := "") (Or.inl (wd hw 71 rfl)) Via.refl e741 pF_a731_value pE_a731 (Or.inr ⟨(wd hw 72 rfl), rfl, hnm⟩) (wd hw 64 rfl) (ty := (.object zs5)) (by decide) rfl rfl (g := (mkF m 6 #[rv a731, rv b302] [(.ref b302), (.ref a731)])) rfl rfl (hb hby d11_6)
  refine own_via (fun t k => st742 t k) ?_
  have Fw742 : Fld Z h742 a731 zs1 "value" zs3 (.ref b302) := pF_a731_value.same W742
  have N742 := Fr.snoc X742 N0 pG_a731
  show own_Goes p e below (T742.setTop (mkF m 9 #[rv a731, rv b302] [])) _
  have K743 : k0 ≤ h742.size := (Nat.le_trans hk0 (Nat.le_of_eq W742.size.symm))
  obtain ⟨fs, hr, hrun, hended, hRW⟩ := X742.leaveW hS (by rw [e742]; first | exact K743 | exact Nat.le_refl _) (v := none) (fun _ => rfl)
  refine own_end (t := T742.setFrames fs) ?_ ⟨_, hrun, hended, _, _, rfl, ?_, own_rmono hRW (by decide) (by decide)⟩
  · exact X742.returnOut hx Bd.returns (hb hby d11_9) hr
  have E744 : Exa Z h742 a731 zs1 := (pE_a731.wr W742)
  · show Q37 Z a731 b302 h0 n0 _ T742.heap _
    rw [e742]
    exact ⟨rfl, N742, ((Keep.refl h0 [a731]).wr W742 (Or.inl (List.mem_of_getElem? (i := 0) rfl))), E744, Fw742⟩
def Q38 (Z : State) (b302 : Addr) (h0 : Heap) (n0 : Nat) (v : Option Value) (h : Heap) (L : List Loc) : Prop := (∃ (b726 : Addr), v = some (.ref b726) ∧ Fr n0 L ∧ Keep h0 h [] ∧ h0.size ≤ b726 ∧ Exa Z h b726 zs1 ∧ Fld Z h b726 zs1 "value" zs3 (.ref b302))
set_option maxRecDepth 65536 in
set_option maxHeartbeats 40000000 in
theorem rm38 (l : Launch) (Z : State) (a0 : Array Value) (hw : ∀ d ∈ tables_1, d.before a0 Z = true) (ws : List Jvm.Cond) (b302 : Addr) (h0 : Heap) (n0 : Nat) (O0 : Old Z n0 h0) :
    MetFree l (⟨zs1, "of", zs11⟩ : MethodName) (head1 (Jvm.Cond.code (⟨zs1, "of", zs11⟩ : MethodName) prog_1_method_4_code 1 (some (.object zs1)) :: ws) ({ frames := 2, cells := 1, slots := 1, locals := 26 } : Room)) (fun a U => a = #[(.ref b302)] ∧ Z.Warmed39 U.vm ∧ U.heap = h0) (fun _ _ _ _ _ => True) (fun _ U o U' => ∃ v L, o = .returned v ∧ Q38 Z b302 h0 n0 v U'.heap L ∧ ReturnedEndW U o U' L ({ frames := 2, cells := 1, slots := 1, locals := 26 } : Room).cells ({ frames := 2, cells := 1, slots := 1, locals := 26 } : Room).slots) := by
  refine MetFree.of_bodySF (plainFor_of_name pn_1) hisR ?_
  intro p e s m args below meth c s₁ Bd hml0 hP hK
  obtain ⟨rfl, hZ, hh⟩ := hP
  have hx := Bd.exec
  have hby := Bd.bytes
  have hml : c.maxLocals = 1 := hml0
  have hown : s.vm.findClass zs1 = some m.cls := findClass_of_methodNamed Bd.named
  have hnm := (name_of_methodNamed Bd.named Bd.method).1
  have X0 : Stand p l e ({ frames := 2, cells := 1, slots := 1, locals := 26 } : Room) (s.setVm s.vm) m #[(.ref b302)] below meth c s₁ [] 0 0 := Stand.of_body Bd
  have hS : s.Since s.vm 0 := (State.WarmedH.refl s).since 0
  obtain ⟨k0, hk0, hS⟩ : ∃ k0, k0 ≤ h0.size ∧ s.Since s.vm k0 := ⟨0, Nat.zero_le _, hS⟩
  have hZ : Z.Warmed39 (s.setVm s.vm).vm := hZ
  have hown : (s.setVm s.vm).vm.findClass zs1 = some m.cls := hown
  have e0 : s₁.heap = h0 := by rw [← hh, Bd.state]; rfl
  have N0 := Fr.nil n0
  refine own_out ?_
  refine own_via (fun t k => castTop (ef_17 m b302) (XS.aloadN X0.here hx rfl (hb hby d10_0) rfl rfl (XS.ifnonnullYes X0.here hx rfl (pc0 := 1) (pc' := 8) rfl (hb hby d10_1) rfl (by decide) (by decide) k))) ?_
  show own_Goes p e below (s₁.setTop (mkF m 8 #[rv b302] [])) _
  obtain ⟨T725, h725, X725, e725, E725, A725, D725, -, st725⟩ := newO X0 hx hZ hown (wd hw 63 rfl) (wd hw 64 rfl) (wd hw 3 rfl) e0 (g := (mkF m 8 #[rv b302] [])) rfl (hb hby d10_8) (by decide) (by decide)
  obtain ⟨b726, q725⟩ : ∃ z, z = h0.size := ⟨_, rfl⟩
  rw [← q725] at A725 D725 st725
  refine own_via (fun t k => st725 t k) ?_
  have g727 : n0 ≤ b726 := Nat.le_trans (own_old O0) (Nat.le_of_eq q725.symm)
  have B728 : h0.size ≤ b726 := Nat.le_trans (Nat.le_refl _) (Nat.le_of_eq q725.symm)
  have F729 : Fld Z h725 b726 zs1 "value" zs3 .null := D725 (Or.inr (wd hw 72 rfl)) (ty := (.object zs5)) (by decide)
  show own_Goes p e below (T725.setTop (mkF m 11 #[rv b302] [(.ref b726)])) _
  refine own_via (fun t k => XS.dup X725.here hx rfl (hb hby d10_11) rfl rfl (XS.aloadN X725.here hx rfl (hb hby d10_12) rfl rfl k)) ?_
  have O745 : Old Z n0 h725 := (O0.ext E725)
  have K746 : k0 ≤ h725.size := (Nat.le_trans hk0 E725.1)
  obtain ⟨_, T730, _, X730, hQ730, hS, hZ, hown, st730⟩ := own_ciS X725 hx hZ hS K746 hown (wd hw 65 rfl) (wd hw 66 rfl) (wd hw 67 rfl) (wd hw 3 rfl) rfl (by decide) (rm37 l Z a0 hw [] b726 b302 h725 n0 O745 F729 A725 g727) e725 (g := (mkF m 13 #[rv b302] [(.ref b302), (.ref b726), (.ref b726)])) rfl (by rw [hml]; rfl) (rest := [(.ref b726)]) (W := 1) (lenOf pd_12 rfl) rfl (by show 2 * 0 + _ ≤ _; exact Nat.le_of_eq rfl) (hb hby d10_13) (by decide) (by decide) (by decide) (by decide)
  obtain ⟨h730, e730⟩ : ∃ z, T730.heap = z := ⟨_, rfl⟩
  rw [e730] at hQ730
  obtain ⟨rfl, Nq730, K730, ex747, fx748⟩ := hQ730
  have N730 := Fr.app N0 Nq730
  have hk749 : T730.heap.size ≤ h730.size := Nat.le_of_eq (congrArg Array.size e730)
  refine own_via (fun t k => st730 t k) ?_
  obtain ⟨fs, hr, hrun, hended, hRW⟩ := X730.leaveW hS (by rw [e730]; first | exact hk749 | exact Nat.le_refl _) (v := some (.ref b726)) (fun h => by rw [Bd.returns] at h; cases h)
  refine own_end (t := T730.setFrames fs) ?_ ⟨_, hrun, hended, _, _, rfl, ?_, own_rmono hRW (by decide) (by decide)⟩
  · jvm_step X730.here [X730.here.top, hx, (hb hby d10_16), X730.method', Bd.returns, Value.isRef, FieldType.isReference]
    first | (intro acts; rw [hr _ acts rfl rfl rfl]) | rw [hr _ _ rfl rfl rfl]
    exact Steps.refl _
  · show Q38 Z b302 h0 n0 _ T730.heap _
    rw [e730]
    exact ⟨b726, rfl, N730, (((Keep.refl h0 []).ext E725).trans K730 (allS (Or.inr B728) all0)), B728, ex747, fx748⟩
def Q39 (Z : State) (b302 : Addr) (h0 : Heap) (n0 : Nat) (v : Option Value) (h : Heap) (L : List Loc) : Prop := v = some (.ref b302) ∧ Fr n0 L ∧ h = h0
set_option maxRecDepth 65536 in
set_option maxHeartbeats 40000000 in
theorem rm39 (l : Launch) (Z : State) (a0 : Array Value) (hw : ∀ d ∈ tables_1, d.before a0 Z = true) (ws : List Jvm.Cond) (b302 : Addr) (h0 : Heap) (n0 : Nat) (O0 : Old Z n0 h0) :
    MetFree l (⟨zs9, zs17, zs7⟩ : MethodName) (head1 (Jvm.Cond.code (⟨zs9, zs17, zs7⟩ : MethodName) jdk_31_method_10_code 1 (some (.object zs5)) :: ws) ({ frames := 0, cells := 0, slots := 0, locals := 0 } : Room)) (fun a U => a = #[(.ref b302)] ∧ Z.Warmed39 U.vm ∧ U.heap = h0) (fun _ _ _ _ _ => True) (fun _ U o U' => ∃ v L, o = .returned v ∧ Q39 Z b302 h0 n0 v U'.heap L ∧ ReturnedEndW U o U' L ({ frames := 0, cells := 0, slots := 0, locals := 0 } : Room).cells ({ frames := 0, cells := 0, slots := 0, locals := 0 } : Room).slots) := by
  refine MetFree.of_bodySF (plainFor_of_name pn_3) hisR ?_
  intro p e s m args below meth c s₁ Bd hml0 hP hK
  obtain ⟨rfl, hZ, hh⟩ := hP
  have hx := Bd.exec
  have hby := Bd.bytes
  have hml : c.maxLocals = 1 := hml0
  have hown : s.vm.findClass zs9 = some m.cls := findClass_of_methodNamed Bd.named
  have hnm := (name_of_methodNamed Bd.named Bd.method).1
  have X0 : Stand p l e ({ frames := 0, cells := 0, slots := 0, locals := 0 } : Room) (s.setVm s.vm) m #[(.ref b302)] below meth c s₁ [] 0 0 := Stand.of_body Bd
  have hS : s.Since s.vm 0 := (State.WarmedH.refl s).since 0
  obtain ⟨k0, hk0, hS⟩ : ∃ k0, k0 ≤ h0.size ∧ s.Since s.vm k0 := ⟨0, Nat.zero_le _, hS⟩
  have hZ : Z.Warmed39 (s.setVm s.vm).vm := hZ
  have hown : (s.setVm s.vm).vm.findClass zs9 = some m.cls := hown
  have e0 : s₁.heap = h0 := by rw [← hh, Bd.state]; rfl
  have N0 := Fr.nil n0
  refine own_out ?_
  refine own_via (fun t k => castTop (ef_18 m b302) (XS.aloadN X0.here hx rfl (hb hby d14_0) rfl rfl (XS.ifnonnullYes X0.here hx rfl (pc0 := 1) (pc' := 12) rfl (hb hby d14_1) rfl (by decide) (by decide) (XS.aloadN X0.here hx rfl (hb hby d14_12) rfl rfl k)))) ?_
  show own_Goes p e below (s₁.setTop (mkF m 13 #[rv b302] [(.ref b302)])) _
  obtain ⟨fs, hr, hrun, hended, hRW⟩ := X0.leaveW hS (by rw [e0]; first | exact hk0 | exact Nat.le_refl _) (v := some (.ref b302)) (fun h => by rw [Bd.returns] at h; cases h)
  refine own_end (t := s₁.setFrames fs) ?_ ⟨_, hrun, hended, _, _, rfl, ?_, own_rmono hRW (by decide) (by decide)⟩
  · jvm_step X0.here [X0.here.top, hx, (hb hby d14_13), X0.method', Bd.returns, Value.isRef, FieldType.isReference]
    first | (intro acts; rw [hr _ acts rfl rfl rfl]) | rw [hr _ _ rfl rfl rfl]
    exact Steps.refl _
  · show Q39 Z b302 h0 n0 _ s₁.heap _
    rw [e0]
    exact ⟨rfl, N0, rfl⟩
def Q40 (Z : State) (a808 : Addr) (b302 : Addr) (h0 : Heap) (n0 : Nat) (v : Option Value) (h : Heap) (L : List Loc) : Prop := v = none ∧ Fr n0 L ∧ Keep h0 h [a808] ∧ Exa Z h a808 zs2 ∧ Fld Z h a808 zs2 "value" zs3 (.ref b302)
set_option maxRecDepth 65536 in
set_option maxHeartbeats 40000000 in
theorem rm40 (l : Launch) (Z : State) (a0 : Array Value) (hw : ∀ d ∈ tables_1, d.before a0 Z = true) (ws : List Jvm.Cond) (a808 : Addr) (b302 : Addr) (h0 : Heap) (n0 : Nat) (O0 : Old Z n0 h0) (pF_a808_value : Fld Z h0 a808 zs2 "value" zs3 .null) (pE_a808 : Exa Z h0 a808 zs2) (pG_a808 : n0 ≤ a808) :
    MetFree l (⟨zs2, "<init>", zs14⟩ : MethodName) (head1 (Jvm.Cond.code (⟨zs2, "<init>", zs14⟩ : MethodName) jdk_32_method_2_code 2 none :: ws) ({ frames := 1, cells := 0, slots := 0, locals := 12 } : Room)) (fun a U => a = #[(.ref a808), (.ref b302)] ∧ Z.Warmed39 U.vm ∧ U.heap = h0) (fun _ _ _ _ _ => True) (fun _ U o U' => ∃ v L, o = .returned v ∧ Q40 Z a808 b302 h0 n0 v U'.heap L ∧ ReturnedEndW U o U' L ({ frames := 1, cells := 0, slots := 0, locals := 12 } : Room).cells ({ frames := 1, cells := 0, slots := 0, locals := 12 } : Room).slots) := by
  refine MetFree.of_bodySF (plainFor_of_name pn_2) hisR ?_
  intro p e s m args below meth c s₁ Bd hml0 hP hK
  obtain ⟨rfl, hZ, hh⟩ := hP
  have hx := Bd.exec
  have hby := Bd.bytes
  have hml : c.maxLocals = 2 := hml0
  have hown : s.vm.findClass zs2 = some m.cls := findClass_of_methodNamed Bd.named
  have hnm := (name_of_methodNamed Bd.named Bd.method).1
  have X0 : Stand p l e ({ frames := 1, cells := 0, slots := 0, locals := 12 } : Room) (s.setVm s.vm) m #[(.ref a808), (.ref b302)] below meth c s₁ [] 0 0 := Stand.of_body Bd
  have hS : s.Since s.vm 0 := (State.WarmedH.refl s).since 0
  obtain ⟨k0, hk0, hS⟩ : ∃ k0, k0 ≤ h0.size ∧ s.Since s.vm k0 := ⟨0, Nat.zero_le _, hS⟩
  have hZ : Z.Warmed39 (s.setVm s.vm).vm := hZ
  have hown : (s.setVm s.vm).vm.findClass zs2 = some m.cls := hown
  have e0 : s₁.heap = h0 := by rw [← hh, Bd.state]; rfl
  have N0 := Fr.nil n0
  refine own_out ?_
  refine own_via (fun t k => castTop (ef_19 m a808 b302) (XS.aloadN X0.here hx rfl (hb hby d15_0) rfl rfl k)) ?_
  obtain ⟨T819, X819, e819, st819⟩ := initO X0 hx hZ hown (wd hw 86 rfl) (wd hw 69 rfl) (wd hw 70 rfl) e0 (g := (mkF m 1 #[rv a808, rv b302] [(.ref a808)])) rfl (by rw [hml]; rfl) rfl (hb hby d15_1) (by decide) (W := 0) (by show 2 * 0 + _ ≤ _; exact Nat.le_of_eq rfl) (by decide)
  refine own_via (fun t k => st819 t (XS.aloadN X819.here hx rfl (hb hby d15_4) rfl rfl (XS.aloadN X819.here hx rfl (hb hby d15_5) rfl rfl k))) ?_
  show own_Goes p e below (T819.setTop (mkF m 6 #[rv a808, rv b302] [(.ref b302), (.ref a808)])) _
  obtain ⟨T820, h820, X820, e820, W820, st820⟩ := putF X819 hx hZ hown (host := "") (Or.inl (wd hw 42 rfl)) Via.refl e819 pF_a808_value pE_a808 (Or.inr ⟨(wd hw 43 rfl), rfl, hnm⟩) (wd hw 78 rfl) (ty := (.object zs5)) (by decide) rfl rfl (g := (mkF m 6 #[rv a808, rv b302] [(.ref b302), (.ref a808)])) rfl rfl (hb hby d15_6)
  refine own_via (fun t k => st820 t k) ?_
  have Fw820 : Fld Z h820 a808 zs2 "value" zs3 (.ref b302) := pF_a808_value.same W820
  have N820 := Fr.snoc X820 N0 pG_a808
  show own_Goes p e below (T820.setTop (mkF m 9 #[rv a808, rv b302] [])) _
  have K821 : k0 ≤ h820.size := (Nat.le_trans hk0 (Nat.le_of_eq W820.size.symm))
  obtain ⟨fs, hr, hrun, hended, hRW⟩ := X820.leaveW hS (by rw [e820]; first | exact K821 | exact Nat.le_refl _) (v := none) (fun _ => rfl)
  refine own_end (t := T820.setFrames fs) ?_ ⟨_, hrun, hended, _, _, rfl, ?_, own_rmono hRW (by decide) (by decide)⟩
  · exact X820.returnOut hx Bd.returns (hb hby d15_9) hr
  have E822 : Exa Z h820 a808 zs2 := (pE_a808.wr W820)
  · show Q40 Z a808 b302 h0 n0 _ T820.heap _
    rw [e820]
    exact ⟨rfl, N820, ((Keep.refl h0 [a808]).wr W820 (Or.inl (List.mem_of_getElem? (i := 0) rfl))), E822, Fw820⟩
def Q41 (Z : State) (b302 : Addr) (h0 : Heap) (n0 : Nat) (v : Option Value) (h : Heap) (L : List Loc) : Prop := (∃ (b787 : Addr), v = some (.ref b787) ∧ Fr n0 L ∧ Keep h0 h [] ∧ h0.size ≤ b787 ∧ Exa Z h b787 zs2 ∧ Fld Z h b787 zs2 "value" zs3 (.ref b302))
set_option maxRecDepth 65536 in
set_option maxHeartbeats 40000000 in
theorem rm41 (l : Launch) (Z : State) (a0 : Array Value) (hw : ∀ d ∈ tables_1, d.before a0 Z = true) (ws : List Jvm.Cond) (b302 : Addr) (h0 : Heap) (n0 : Nat) (O0 : Old Z n0 h0) :
    MetFree l (⟨zs2, "of", zs13⟩ : MethodName) (head1 (Jvm.Cond.code (⟨zs2, "of", zs13⟩ : MethodName) jdk_32_method_3_code 1 (some (.object zs2)) :: ws) ({ frames := 2, cells := 1, slots := 1, locals := 26 } : Room)) (fun a U => a = #[(.ref b302)] ∧ Z.Warmed39 U.vm ∧ U.heap = h0) (fun _ _ _ _ _ => True) (fun _ U o U' => ∃ v L, o = .returned v ∧ Q41 Z b302 h0 n0 v U'.heap L ∧ ReturnedEndW U o U' L ({ frames := 2, cells := 1, slots := 1, locals := 26 } : Room).cells ({ frames := 2, cells := 1, slots := 1, locals := 26 } : Room).slots) := by
  refine MetFree.of_bodySF (plainFor_of_name pn_2) hisR ?_
  intro p e s m args below meth c s₁ Bd hml0 hP hK
  obtain ⟨rfl, hZ, hh⟩ := hP
  have hx := Bd.exec
  have hby := Bd.bytes
  have hml : c.maxLocals = 1 := hml0
  have hown : s.vm.findClass zs2 = some m.cls := findClass_of_methodNamed Bd.named
  have hnm := (name_of_methodNamed Bd.named Bd.method).1
  have X0 : Stand p l e ({ frames := 2, cells := 1, slots := 1, locals := 26 } : Room) (s.setVm s.vm) m #[(.ref b302)] below meth c s₁ [] 0 0 := Stand.of_body Bd
  have hS : s.Since s.vm 0 := (State.WarmedH.refl s).since 0
  obtain ⟨k0, hk0, hS⟩ : ∃ k0, k0 ≤ h0.size ∧ s.Since s.vm k0 := ⟨0, Nat.zero_le _, hS⟩
  have hZ : Z.Warmed39 (s.setVm s.vm).vm := hZ
  have hown : (s.setVm s.vm).vm.findClass zs2 = some m.cls := hown
  have e0 : s₁.heap = h0 := by rw [← hh, Bd.state]; rfl
  have N0 := Fr.nil n0
  refine own_out ?_
  refine own_via (fun t k => castTop (ef_20 m b302) k) ?_
  obtain ⟨T786, h786, X786, e786, E786, A786, D786, -, st786⟩ := newO X0 hx hZ hown (wd hw 77 rfl) (wd hw 78 rfl) (wd hw 19 rfl) e0 (g := (mkF m 0 #[rv b302] [])) rfl (hb hby d13_0) (by decide) (by decide)
  obtain ⟨b787, q786⟩ : ∃ z, z = h0.size := ⟨_, rfl⟩
  rw [← q786] at A786 D786 st786
  refine own_via (fun t k => st786 t k) ?_
  have g788 : n0 ≤ b787 := Nat.le_trans (own_old O0) (Nat.le_of_eq q786.symm)
  have B789 : h0.size ≤ b787 := Nat.le_trans (Nat.le_refl _) (Nat.le_of_eq q786.symm)
  have F790 : Fld Z h786 b787 zs2 "value" zs3 .null := D786 (Or.inr (wd hw 43 rfl)) (ty := (.object zs5)) (by decide)
  show own_Goes p e below (T786.setTop (mkF m 3 #[rv b302] [(.ref b787)])) _
  refine own_via (fun t k => XS.dup X786.here hx rfl (hb hby d13_3) rfl rfl (XS.aloadN X786.here hx rfl (hb hby d13_4) rfl rfl k)) ?_
  have O803 : Old Z n0 h786 := (O0.ext E786)
  have K804 : k0 ≤ h786.size := (Nat.le_trans hk0 E786.1)
  obtain ⟨_, T791, _, X791, hQ791, hS, hZ, hown, st791⟩ := own_csS X786 hx hZ hS K804 hown (wd hw 79 rfl) (wd hw 80 rfl) (wd hw 81 rfl) (wd hw 35 rfl) (by decide) (rm39 l Z a0 hw [] b302 h786 n0 O803 ) e786 (g := (mkF m 5 #[rv b302] [(.ref b302), (.ref b787), (.ref b787)])) rfl (by rw [hml]; rfl) (rest := [(.ref b787), (.ref b787)]) (W := 2) (lenOf pd_7 rfl) rfl (by show 2 * 0 + _ ≤ _; exact Nat.le_of_eq rfl) (hb hby d13_5) (by decide) (by decide) (by decide) (by decide)
  obtain ⟨rfl, Nq791, hh805⟩ := hQ791
  have N791 := Fr.app N0 Nq791
  have hk806 : T791.heap.size ≤ h786.size := Nat.le_of_eq (congrArg Array.size hh805)
  refine own_via (fun t k => st791 t k) ?_
  obtain ⟨_, T807, _, X807, hQ807, hS, hZ, hown, st807⟩ := own_ciS X791 hx hZ hS hk806 hown (wd hw 82 rfl) (wd hw 83 rfl) (wd hw 85 rfl) (wd hw 19 rfl) rfl (by decide) (rm40 l Z a0 hw [] b787 b302 h786 n0 O803 F790 A786 g788) hh805 (g := (mkF m 8 #[rv b302] [(.ref b302), (.ref b787), (.ref b787)])) rfl (by rw [hml]; rfl) (rest := [(.ref b787)]) (W := 1) (lenOf pd_12 rfl) rfl (by show 2 * 0 + _ ≤ _; exact Nat.le_of_eq rfl) (hb hby d13_8) (by decide) (by decide) (by decide) (by decide)
  obtain ⟨h807, e807⟩ : ∃ z, T807.heap = z := ⟨_, rfl⟩
  rw [e807] at hQ807
  obtain ⟨rfl, Nq807, K807, ex823, fx824⟩ := hQ807
  have N807 := Fr.app N791 Nq807
  have hk825 : T807.heap.size ≤ h807.size := Nat.le_of_eq (congrArg Array.size e807)
  refine own_via (fun t k => st807 t k) ?_
  obtain ⟨fs, hr, hrun, hended, hRW⟩ := X807.leaveW hS (by rw [e807]; first | exact hk825 | exact Nat.le_refl _) (v := some (.ref b787)) (fun h => by rw [Bd.returns] at h; cases h)
  refine own_end (t := T807.setFrames fs) ?_ ⟨_, hrun, hended, _, _, rfl, ?_, own_rmono hRW (by decide) (by decide)⟩
  · jvm_step X807.here [X807.here.top, hx, (hb hby d13_11), X807.method', Bd.returns, Value.isRef, FieldType.isReference]
    first | (intro acts; rw [hr _ acts rfl rfl rfl]) | rw [hr _ _ rfl rfl rfl]
    exact Steps.refl _
  · show Q41 Z b302 h0 n0 _ T807.heap _
    rw [e807]
    exact ⟨b787, rfl, N807, (((Keep.refl h0 []).ext E786).trans K807 (allS (Or.inr B789) all0)), B789, ex823, fx824⟩
def Q42 (Z : State) (a758 : Addr) (w21 : Addr) (w23 : Addr) (b302 : Addr) (h0 : Heap) (n0 : Nat) (v : Option Value) (h : Heap) (L : List Loc) : Prop := (∃ (b826 : Addr) (b835 : Addr), v = some (.ref b835) ∧ Fr n0 L ∧ Keep h0 h [] ∧ h0.size ≤ b826 ∧ Exa Z h b826 zs2 ∧ Fld Z h b826 zs2 "value" zs3 (.ref b302) ∧ h0.size ≤ b835 ∧ Exa Z h b835 zs2 ∧ Fld Z h b835 zs2 "value" zs3 (.ref b826) ∧ b826 ≠ b835)
set_option maxRecDepth 65536 in
set_option maxHeartbeats 40000000 in
theorem rm42 (l : Launch) (Z : State) (a0 : Array Value) (hw : ∀ d ∈ tables_1, d.before a0 Z = true) (ws : List Jvm.Cond) (a758 : Addr) (w21 : Addr) (w23 : Addr) (b302 : Addr) (h0 : Heap) (n0 : Nat) (O0 : Old Z n0 h0) (S_Tertium_ABSENT : Sta Z Z.heap zs1 "ABSENT" zs6 (.ref w21)) (SE_w21 : Exa Z Z.heap w21 zs1) (pG_a758 : n0 ≤ a758) (pE_a758 : Exa Z h0 a758 zs1) (S_Tertium_NULL : Sta Z Z.heap zs1 "NULL" zs6 (.ref w23)) (SE_w23 : Exa Z Z.heap w23 zs1) (pF_a758_value : Fld Z h0 a758 zs1 "value" zs3 (.ref b302)) :
    MetFree l (⟨zs1, zs20, zs12⟩ : MethodName) (head1 (Jvm.Cond.code (⟨zs1, zs20, zs12⟩ : MethodName) prog_1_method_25_code 1 (some (.object zs2)) :: ws) ({ frames := 3, cells := 2, slots := 2, locals := 38 } : Room)) (fun a U => a = #[(.ref a758)] ∧ Z.Warmed39 U.vm ∧ U.heap = h0) (fun _ _ _ _ _ => True) (fun _ U o U' => ∃ v L, o = .returned v ∧ Q42 Z a758 w21 w23 b302 h0 n0 v U'.heap L ∧ ReturnedEndW U o U' L ({ frames := 3, cells := 2, slots := 2, locals := 38 } : Room).cells ({ frames := 3, cells := 2, slots := 2, locals := 38 } : Room).slots) := by
  refine MetFree.of_bodySF (plainFor_of_name pn_1) hisR ?_
  intro p e s m args below meth c s₁ Bd hml0 hP hK
  obtain ⟨rfl, hZ, hh⟩ := hP
  have hx := Bd.exec
  have hby := Bd.bytes
  have hml : c.maxLocals = 1 := hml0
  have hown : s.vm.findClass zs1 = some m.cls := findClass_of_methodNamed Bd.named
  have hnm := (name_of_methodNamed Bd.named Bd.method).1
  have X0 : Stand p l e ({ frames := 3, cells := 2, slots := 2, locals := 38 } : Room) (s.setVm s.vm) m #[(.ref a758)] below meth c s₁ [] 0 0 := Stand.of_body Bd
  have hS : s.Since s.vm 0 := (State.WarmedH.refl s).since 0
  obtain ⟨k0, hk0, hS⟩ : ∃ k0, k0 ≤ h0.size ∧ s.Since s.vm k0 := ⟨0, Nat.zero_le _, hS⟩
  have hZ : Z.Warmed39 (s.setVm s.vm).vm := hZ
  have hown : (s.setVm s.vm).vm.findClass zs1 = some m.cls := hown
  have e0 : s₁.heap = h0 := by rw [← hh, Bd.state]; rfl
  have N0 := Fr.nil n0
  refine own_out ?_
  refine own_via (fun t k => castTop (ef_4 m a758) (XS.aloadN X0.here hx rfl (hb hby d2_0) rfl rfl k)) ?_
  obtain ⟨_, T768, _, X768, hQ768, hS, hZ, hown, st768⟩ := own_cvS X0 hx hZ hS hk0 hown (wd hw 12 rfl) (wd hw 13 rfl) (wd hw 15 rfl) (wd hw 14 rfl) (wd hw 16 rfl) (wd hw 3 rfl) (by decide) (rm24 l Z a0 hw [] a758 w21 h0 n0 O0 S_Tertium_ABSENT SE_w21 pG_a758) e0 pE_a758 (g := (mkF m 1 #[rv a758] [(.ref a758)])) rfl (by rw [hml]; rfl) (rest := []) (W := 0) (lenOf pd_2 rfl) rfl (by show 2 * 0 + _ ≤ _; exact Nat.le_of_eq rfl) (hb hby d2_1) (by decide) (by decide) (by decide) (by decide)
  obtain ⟨rfl, Nq768, hh769⟩ := hQ768
  have N768 := Fr.app N0 Nq768
  have hk770 : T768.heap.size ≤ h0.size := Nat.le_of_eq (congrArg Array.size hh769)
  refine own_via (fun t k => st768 t (XS.ifYes X768.here hx rfl (pc0 := 4) (pc' := 11) rfl (hb hby d2_4) rfl ((if0 _ _).trans (teq (by decide : (0 : Int32) = (0 : Int32))).1) (by decide) (by decide) (XS.aloadN X768.here hx rfl (hb hby d2_11) rfl rfl k))) ?_
  show own_Goes p e below (T768.setTop (mkF m 12 #[rv a758] [(.ref a758)])) _
  obtain ⟨_, T771, _, X771, hQ771, hS, hZ, hown, st771⟩ := own_cvS X768 hx hZ hS hk770 hown (wd hw 73 rfl) (wd hw 47 rfl) (wd hw 49 rfl) (wd hw 48 rfl) (wd hw 50 rfl) (wd hw 3 rfl) (by decide) (rm25 l Z a0 hw [] a758 w23 h0 n0 O0 S_Tertium_NULL SE_w23 pG_a758) hh769 pE_a758 (g := (mkF m 12 #[rv a758] [(.ref a758)])) rfl (by rw [hml]; rfl) (rest := []) (W := 0) (lenOf pd_2 rfl) rfl (by show 2 * 0 + _ ≤ _; exact Nat.le_of_eq rfl) (hb hby d2_12) (by decide) (by decide) (by decide) (by decide)
  obtain ⟨rfl, Nq771, hh772⟩ := hQ771
  have N771 := Fr.app N768 Nq771
  have hk773 : T771.heap.size ≤ h0.size := Nat.le_of_eq (congrArg Array.size hh772)
  refine own_via (fun t k => st771 t (XS.ifYes X771.here hx rfl (pc0 := 15) (pc' := 22) rfl (hb hby d2_15) rfl ((if0 _ _).trans (teq (by decide : (0 : Int32) = (0 : Int32))).1) (by decide) (by decide) (XS.aloadN X771.here hx rfl (hb hby d2_22) rfl rfl k))) ?_
  show own_Goes p e below (T771.setTop (mkF m 23 #[rv a758] [(.ref a758)])) _
  obtain ⟨T774, X774, e774, st774⟩ := getF X771 hx hZ hown (host := "") (Or.inl (wd hw 71 rfl)) Via.refl hh772 pF_a758_value (g := (mkF m 23 #[rv a758] [(.ref a758)])) rfl rfl (hb hby d2_23)
  refine own_via (fun t k => st774 t k) ?_
  obtain ⟨_, T775, _, X775, hQ775, hS, hZ, hown, st775⟩ := own_csS X774 hx hZ hS hk773 hown (wd hw 74 rfl) (wd hw 75 rfl) (wd hw 76 rfl) (wd hw 19 rfl) (by decide) (rm41 l Z a0 hw [] b302 h0 n0 O0 ) e774 (g := (mkF m 26 #[rv a758] [(.ref b302)])) rfl (by rw [hml]; rfl) (rest := []) (W := 0) (lenOf pd_13 rfl) rfl (by show 2 * 0 + _ ≤ _; exact Nat.le_of_eq rfl) (hb hby d2_26) (by decide) (by decide) (by decide) (by decide)
  obtain ⟨h775, e775⟩ : ∃ z, T775.heap = z := ⟨_, rfl⟩
  rw [e775] at hQ775
  obtain ⟨b826, rfl, Nq775, K775, bx827, ex828, fx829⟩ := hQ775
  have N775 := Fr.app N771 Nq775
  have g830 : n0 ≤ b826 := Nat.le_trans (own_old O0) bx827
  have B831 : h0.size ≤ b826 := Nat.le_trans (Nat.le_refl _) bx827
  have hk832 : T775.heap.size ≤ h775.size := Nat.le_of_eq (congrArg Array.size e775)
  refine own_via (fun t k => st775 t k) ?_
  have O834 : Old Z n0 h775 := (O0.keep K775 all0)
  obtain ⟨_, T833, _, X833, hQ833, hS, hZ, hown, st833⟩ := own_csS X775 hx hZ hS hk832 hown (wd hw 74 rfl) (wd hw 75 rfl) (wd hw 76 rfl) (wd hw 19 rfl) (by decide) (rm28 l Z a0 hw [] b826 h775 n0 O834 ) e775 (g := (mkF m 29 #[rv a758] [(.ref b826)])) rfl (by rw [hml]; rfl) (rest := []) (W := 0) (lenOf pd_13 rfl) rfl (by show 2 * 0 + _ ≤ _; exact Nat.le_of_eq rfl) (hb hby d2_29) (by decide) (by decide) (by decide) (by decide)
  obtain ⟨h833, e833⟩ : ∃ z, T833.heap = z := ⟨_, rfl⟩
  rw [e833] at hQ833
  obtain ⟨b835, rfl, Nq833, K833, bx836, ex837, fx838⟩ := hQ833
  have N833 := Fr.app N775 Nq833
  have N839 : b826 ≠ b835 := Nat.ne_of_lt (Nat.lt_of_lt_of_le ex828.lt bx836)
  have g840 : n0 ≤ b835 := Nat.le_trans (own_old O834) bx836
  have Z842 : h0.size ≤ h775.size := (Nat.le_trans (Nat.le_refl _) K775.1)
  have B841 : h0.size ≤ b835 := Nat.le_trans Z842 bx836
  have hk843 : T833.heap.size ≤ h833.size := Nat.le_of_eq (congrArg Array.size e833)
  refine own_via (fun t k => st833 t k) ?_
  obtain ⟨fs, hr, hrun, hended, hRW⟩ := X833.leaveW hS (by rw [e833]; first | exact hk843 | exact Nat.le_refl _) (v := some (.ref b835)) (fun h => by rw [Bd.returns] at h; cases h)
  refine own_end (t := T833.setFrames fs) ?_ ⟨_, hrun, hended, _, _, rfl, ?_, own_rmono hRW (by decide) (by decide)⟩
  · jvm_step X833.here [X833.here.top, hx, (hb hby d2_32), X833.method', Bd.returns, Value.isRef, FieldType.isReference]
    first | (intro acts; rw [hr _ acts rfl rfl rfl]) | rw [hr _ _ rfl rfl rfl]
    exact Steps.refl _
  have E844 : Exa Z h833 b826 zs2 := (ex828.keep K833)
  have F845 : Fld Z h833 b826 zs2 "value" zs3 (.ref b302) := (fx829.keep K833 nin0)
  · show Q42 Z a758 w21 w23 b302 h0 n0 _ T833.heap _
    rw [e833]
    exact ⟨b826, b835, rfl, N833, (((Keep.refl h0 []).trans K775 all0).trans K833 all0), B831, E844, F845, B841, ex837, fx838, N839⟩
def Q43 (Z : State) (a894 : Addr) (b302 : Addr) (h0 : Heap) (n0 : Nat) (v : Option Value) (h : Heap) (L : List Loc) : Prop := v = some (.ref b302) ∧ Fr n0 L ∧ h = h0
set_option maxRecDepth 65536 in
set_option maxHeartbeats 40000000 in
theorem rm43 (l : Launch) (Z : State) (a0 : Array Value) (hw : ∀ d ∈ tables_1, d.before a0 Z = true) (ws : List Jvm.Cond) (a894 : Addr) (b302 : Addr) (h0 : Heap) (n0 : Nat) (O0 : Old Z n0 h0) (pF_a894_value : Fld Z h0 a894 zs2 "value" zs3 (.ref b302)) :
    MetFree l (⟨zs2, "orElse", zs7⟩ : MethodName) (head1 (Jvm.Cond.code (⟨zs2, "orElse", zs7⟩ : MethodName) jdk_32_method_15_code 2 (some (.object zs5)) :: ws) ({ frames := 0, cells := 0, slots := 0, locals := 0 } : Room)) (fun a U => a = #[(.ref a894), .null] ∧ Z.Warmed39 U.vm ∧ U.heap = h0) (fun _ _ _ _ _ => True) (fun _ U o U' => ∃ v L, o = .returned v ∧ Q43 Z a894 b302 h0 n0 v U'.heap L ∧ ReturnedEndW U o U' L ({ frames := 0, cells := 0, slots := 0, locals := 0 } : Room).cells ({ frames := 0, cells := 0, slots := 0, locals := 0 } : Room).slots) := by
  refine MetFree.of_bodySF (plainFor_of_name pn_2) hisR ?_
  intro p e s m args below meth c s₁ Bd hml0 hP hK
  obtain ⟨rfl, hZ, hh⟩ := hP
  have hx := Bd.exec
  have hby := Bd.bytes
  have hml : c.maxLocals = 2 := hml0
  have hown : s.vm.findClass zs2 = some m.cls := findClass_of_methodNamed Bd.named
  have hnm := (name_of_methodNamed Bd.named Bd.method).1
  have X0 : Stand p l e ({ frames := 0, cells := 0, slots := 0, locals := 0 } : Room) (s.setVm s.vm) m #[(.ref a894), .null] below meth c s₁ [] 0 0 := Stand.of_body Bd
  have hS : s.Since s.vm 0 := (State.WarmedH.refl s).since 0
  obtain ⟨k0, hk0, hS⟩ : ∃ k0, k0 ≤ h0.size ∧ s.Since s.vm k0 := ⟨0, Nat.zero_le _, hS⟩
  have hZ : Z.Warmed39 (s.setVm s.vm).vm := hZ
  have hown : (s.setVm s.vm).vm.findClass zs2 = some m.cls := hown
  have e0 : s₁.heap = h0 := by rw [← hh, Bd.state]; rfl
  have N0 := Fr.nil n0
  refine own_out ?_
  refine own_via (fun t k => castTop (ef_11 m a894) (XS.aloadN X0.here hx rfl (hb hby d17_0) rfl rfl k)) ?_
  obtain ⟨T906, X906, e906, st906⟩ := getF X0 hx hZ hown (host := "") (Or.inl (wd hw 42 rfl)) Via.refl e0 pF_a894_value (g := (mkF m 1 #[rv a894, .val .null] [(.ref a894)])) rfl rfl (hb hby d17_1)
  refine own_via (fun t k => st906 t (XS.ifnullNo X906.here hx rfl (hb hby d17_4) rfl (XS.aloadN X906.here hx rfl (hb hby d17_7) rfl rfl k))) ?_
  show own_Goes p e below (T906.setTop (mkF m 8 #[rv a894, .val .null] [(.ref a894)])) _
  obtain ⟨T907, X907, e907, st907⟩ := getF X906 hx hZ hown (host := "") (Or.inl (wd hw 42 rfl)) Via.refl e906 pF_a894_value (g := (mkF m 8 #[rv a894, .val .null] [(.ref a894)])) rfl rfl (hb hby d17_8)
  refine own_via (fun t k => st907 t (XS.goto X907.here hx rfl (pc0 := 11) (pc' := 15) rfl (hb hby d17_11) (by decide) (by decide) k)) ?_
  obtain ⟨fs, hr, hrun, hended, hRW⟩ := X907.leaveW hS (by rw [e907]; first | exact hk0 | exact Nat.le_refl _) (v := some (.ref b302)) (fun h => by rw [Bd.returns] at h; cases h)
  refine own_end (t := T907.setFrames fs) ?_ ⟨_, hrun, hended, _, _, rfl, ?_, own_rmono hRW (by decide) (by decide)⟩
  · jvm_step X907.here [X907.here.top, hx, (hb hby d17_15), X907.method', Bd.returns, Value.isRef, FieldType.isReference]
    first | (intro acts; rw [hr _ acts rfl rfl rfl]) | rw [hr _ _ rfl rfl rfl]
    exact Steps.refl _
  · show Q43 Z a894 b302 h0 n0 _ T907.heap _
    rw [e907]
    exact ⟨rfl, N0, rfl⟩
def Q44 (Z : State) (a865 : Addr) (a867 : Addr) (b302 : Addr) (h0 : Heap) (n0 : Nat) (v : Option Value) (h : Heap) (L : List Loc) : Prop := (∃ (b912 : Addr), v = some (.ref b912) ∧ Fr n0 L ∧ Keep h0 h [] ∧ h0.size ≤ b912 ∧ Exa Z h b912 zs1 ∧ Fld Z h b912 zs1 "value" zs3 (.ref b302))
set_option maxRecDepth 65536 in
set_option maxHeartbeats 40000000 in
theorem rm44 (l : Launch) (Z : State) (a0 : Array Value) (hw : ∀ d ∈ tables_1, d.before a0 Z = true) (ws : List Jvm.Cond) (a865 : Addr) (a867 : Addr) (b302 : Addr) (h0 : Heap) (n0 : Nat) (O0 : Old Z n0 h0) (pF_a865_value : Fld Z h0 a865 zs2 "value" zs3 (.ref a867)) (pE_a865 : Exa Z h0 a865 zs2) (pE_a867 : Exa Z h0 a867 zs2) (pF_a867_value : Fld Z h0 a867 zs2 "value" zs3 (.ref b302)) :
    MetFree l (⟨zs1, zs18, zs10⟩ : MethodName) (head1 (Jvm.Cond.code (⟨zs1, zs18, zs10⟩ : MethodName) prog_1_method_6_code 1 (some (.object zs1)) :: ws) ({ frames := 3, cells := 3, slots := 29, locals := 38 } : Room)) (fun a U => a = #[(.ref a865)] ∧ Z.Warmed39 U.vm ∧ U.heap = h0) (fun _ _ _ _ _ => True) (fun _ U o U' => ∃ v L, o = .returned v ∧ Q44 Z a865 a867 b302 h0 n0 v U'.heap L ∧ ReturnedEndW U o U' L ({ frames := 3, cells := 3, slots := 29, locals := 38 } : Room).cells ({ frames := 3, cells := 3, slots := 29, locals := 38 } : Room).slots) := by
  refine MetFree.of_bodySF (plainFor_of_name pn_1) hisR ?_
  intro p e s m args below meth c s₁ Bd hml0 hP hK
  obtain ⟨rfl, hZ, hh⟩ := hP
  have hx := Bd.exec
  have hby := Bd.bytes
  have hml : c.maxLocals = 1 := hml0
  have hown : s.vm.findClass zs1 = some m.cls := findClass_of_methodNamed Bd.named
  have hnm := (name_of_methodNamed Bd.named Bd.method).1
  have X0 : Stand p l e ({ frames := 3, cells := 3, slots := 29, locals := 38 } : Room) (s.setVm s.vm) m #[(.ref a865)] below meth c s₁ [] 0 0 := Stand.of_body Bd
  have hS : s.Since s.vm 0 := (State.WarmedH.refl s).since 0
  obtain ⟨k0, hk0, hS⟩ : ∃ k0, k0 ≤ h0.size ∧ s.Since s.vm k0 := ⟨0, Nat.zero_le _, hS⟩
  have hZ : Z.Warmed39 (s.setVm s.vm).vm := hZ
  have hown : (s.setVm s.vm).vm.findClass zs1 = some m.cls := hown
  have e0 : s₁.heap = h0 := by rw [← hh, Bd.state]; rfl
  have N0 := Fr.nil n0
  refine own_out ?_
  refine own_via (fun t k => castTop (ef_7 m a865) (XS.aloadN X0.here hx rfl (hb hby d5_0) rfl rfl k)) ?_
  obtain ⟨b878, T877, h877, k877, X877, e877, E877, hS, hk877, hZ, hown, st877⟩ := ldcS X0 hx hZ hown (wd hw 25 rfl) (own_strAtoms hw) e0 hS hk0 (g := (mkF m 1 #[rv a865] [(.ref a865)])) rfl (hb hby d5_1) (n := 24) (by decide) (by decide) (by decide) (by decide)
  refine own_via (fun t k => st877 t k) ?_
  have O880 : Old Z n0 h877 := (O0.ext E877)
  obtain ⟨_, T879, _, X879, hQ879, hS, hZ, hown, st879⟩ := own_csS X877 hx hZ hS hk877 hown (wd hw 33 rfl) (wd hw 34 rfl) (wd hw 36 rfl) (wd hw 35 rfl) (by decide) (rm30 l Z a0 hw [] a865 b878 h877 n0 O880 ) e877 (g := (mkF m 3 #[rv a865] [(.ref b878), (.ref a865)])) rfl (by rw [hml]; rfl) (rest := []) (W := 0) (lenOf pd_4 rfl) rfl (by show 2 * 0 + _ ≤ _; exact Nat.le_of_eq rfl) (hb hby d5_3) (by decide) (by decide) (by decide) (by decide)
  obtain ⟨rfl, Nq879, hh881⟩ := hQ879
  have N879 := Fr.app N0 Nq879
  have hk882 : T879.heap.size ≤ h877.size := Nat.le_of_eq (congrArg Array.size hh881)
  refine own_via (fun t k => st879 t (XS.pop X879.here hx rfl (hb hby d5_6) rfl rfl (XS.aloadN X879.here hx rfl (hb hby d5_7) rfl rfl k))) ?_
  show own_Goes p e below (T879.setTop (mkF m 8 #[rv a865] [(.ref a865)])) _
  have F884 : Fld Z h877 a865 zs2 "value" zs3 (.ref a867) := (pF_a865_value.ext E877)
  have E885 : Exa Z h877 a865 zs2 := (pE_a865.ext E877)
  obtain ⟨_, T883, _, X883, hQ883, hS, hZ, hown, st883⟩ := own_cvS X879 hx hZ hS hk882 hown (wd hw 37 rfl) (wd hw 38 rfl) (wd hw 40 rfl) (wd hw 39 rfl) (wd hw 41 rfl) (wd hw 19 rfl) (by decide) (rm31 l Z a0 hw [] a865 a867 h877 n0 O880 F884) hh881 E885 (g := (mkF m 8 #[rv a865] [(.ref a865)])) rfl (by rw [hml]; rfl) (rest := []) (W := 0) (lenOf pd_2 rfl) rfl (by show 2 * 0 + _ ≤ _; exact Nat.le_of_eq rfl) (hb hby d5_8) (by decide) (by decide) (by decide) (by decide)
  obtain ⟨rfl, Nq883, hh886⟩ := hQ883
  have N883 := Fr.app N879 Nq883
  have hk887 : T883.heap.size ≤ h877.size := Nat.le_of_eq (congrArg Array.size hh886)
  refine own_via (fun t k => st883 t (XS.ifNo X883.here hx rfl (hb hby d5_11) rfl ((if0 _ _).trans (feq (by decide : ¬ ((1 : Int32) = (0 : Int32)))).1) (XS.aloadN X883.here hx rfl (hb hby d5_14) rfl rfl k))) ?_
  show own_Goes p e below (T883.setTop (mkF m 15 #[rv a865] [(.ref a865)])) _
  obtain ⟨_, T888, _, X888, hQ888, hS, hZ, hown, st888⟩ := own_cvS X883 hx hZ hS hk887 hown (wd hw 87 rfl) (wd hw 88 rfl) (wd hw 90 rfl) (wd hw 89 rfl) (wd hw 91 rfl) (wd hw 19 rfl) (by decide) (rm32 l Z a0 hw [] a865 a867 h877 n0 O880 F884) hh886 E885 (g := (mkF m 15 #[rv a865] [(.ref a865)])) rfl (by rw [hml]; rfl) (rest := []) (W := 0) (lenOf pd_6 rfl) rfl (by show 2 * 0 + _ ≤ _; exact Nat.le_of_eq rfl) (hb hby d5_15) (by decide) (by decide) (by decide) (by decide)
  obtain ⟨rfl, Nq888, hh889⟩ := hQ888
  have N888 := Fr.app N883 Nq888
  have hk890 : T888.heap.size ≤ h877.size := Nat.le_of_eq (congrArg Array.size hh889)
  refine own_via (fun t k => st888 t k) ?_
  have E892 : Exa Z h877 a867 zs2 := (pE_a867.ext E877)
  obtain ⟨T891, X891, e891, st891⟩ := castY X888 hx hZ hown (wd hw 92 rfl) hh889 (Ins.self E892) (g := (mkF m 18 #[rv a865] [(.ref a867)])) rfl rfl (hb hby d5_18)
  refine own_via (fun t k => st891 t (XS.aconstNull X891.here hx rfl (hb hby d5_21) k)) ?_
  have F908 : Fld Z h877 a867 zs2 "value" zs3 (.ref b302) := (pF_a867_value.ext E877)
  obtain ⟨_, T893, _, X893, hQ893, hS, hZ, hown, st893⟩ := own_cvS X891 hx hZ hS hk890 hown (wd hw 93 rfl) (wd hw 94 rfl) (wd hw 96 rfl) (wd hw 95 rfl) (wd hw 97 rfl) (wd hw 19 rfl) (by decide) (rm43 l Z a0 hw [] a867 b302 h877 n0 O880 F908) e891 E892 (g := (mkF m 22 #[rv a865] [.null, (.ref a867)])) rfl (by rw [hml]; rfl) (rest := []) (W := 0) (lenOf pd_7 rfl) rfl (by show 2 * 0 + _ ≤ _; exact Nat.le_of_eq rfl) (hb hby d5_22) (by decide) (by decide) (by decide) (by decide)
  obtain ⟨rfl, Nq893, hh909⟩ := hQ893
  have N893 := Fr.app N888 Nq893
  have hk910 : T893.heap.size ≤ h877.size := Nat.le_of_eq (congrArg Array.size hh909)
  refine own_via (fun t k => st893 t k) ?_
  obtain ⟨_, T911, _, X911, hQ911, hS, hZ, hown, st911⟩ := own_csS X893 hx hZ hS hk910 hown (wd hw 98 rfl) (wd hw 61 rfl) (wd hw 62 rfl) (wd hw 3 rfl) (by decide) (rm38 l Z a0 hw [] b302 h877 n0 O880 ) hh909 (g := (mkF m 25 #[rv a865] [(.ref b302)])) rfl (by rw [hml]; rfl) (rest := []) (W := 0) (lenOf pd_8 rfl) rfl (by show 2 * 0 + _ ≤ _; exact Nat.le_of_eq rfl) (hb hby d5_25) (by decide) (by decide) (by decide) (by decide)
  obtain ⟨h911, e911⟩ : ∃ z, T911.heap = z := ⟨_, rfl⟩
  rw [e911] at hQ911
  obtain ⟨b912, rfl, Nq911, K911, bx913, ex914, fx915⟩ := hQ911
  have N911 := Fr.app N893 Nq911
  have g916 : n0 ≤ b912 := Nat.le_trans (own_old O880) bx913
  have Z918 : h0.size ≤ h877.size := (Nat.le_trans (Nat.le_refl _) E877.1)
  have B917 : h0.size ≤ b912 := Nat.le_trans Z918 bx913
  have hk919 : T911.heap.size ≤ h911.size := Nat.le_of_eq (congrArg Array.size e911)
  refine own_via (fun t k => st911 t (XS.goto X911.here hx rfl (pc0 := 28) (pc' := 34) rfl (hb hby d5_28) (by decide) (by decide) k)) ?_
  obtain ⟨fs, hr, hrun, hended, hRW⟩ := X911.leaveW hS (by rw [e911]; first | exact hk919 | exact Nat.le_refl _) (v := some (.ref b912)) (fun h => by rw [Bd.returns] at h; cases h)
  refine own_end (t := T911.setFrames fs) ?_ ⟨_, hrun, hended, _, _, rfl, ?_, own_rmono hRW (by decide) (by decide)⟩
  · jvm_step X911.here [X911.here.top, hx, (hb hby d5_34), X911.method', Bd.returns, Value.isRef, FieldType.isReference]
    first | (intro acts; rw [hr _ acts rfl rfl rfl]) | rw [hr _ _ rfl rfl rfl]
    exact Steps.refl _
  · show Q44 Z a865 a867 b302 h0 n0 _ T911.heap _
    rw [e911]
    exact ⟨b912, rfl, N911, (((Keep.refl h0 []).ext E877).trans K911 all0), B917, ex914, fx915⟩
def Q45 (Z : State) (a941 : Addr) (w21 : Addr) (b302 : Addr) (h0 : Heap) (n0 : Nat) (v : Option Value) (h : Heap) (L : List Loc) : Prop := v = some (.ref b302) ∧ Fr n0 L ∧ h = h0
set_option maxRecDepth 65536 in
set_option maxHeartbeats 40000000 in
theorem rm45 (l : Launch) (Z : State) (a0 : Array Value) (hw : ∀ d ∈ tables_1, d.before a0 Z = true) (ws : List Jvm.Cond) (a941 : Addr) (w21 : Addr) (b302 : Addr) (h0 : Heap) (n0 : Nat) (O0 : Old Z n0 h0) (S_Tertium_ABSENT : Sta Z Z.heap zs1 "ABSENT" zs6 (.ref w21)) (SE_w21 : Exa Z Z.heap w21 zs1) (pG_a941 : n0 ≤ a941) (pE_a941 : Exa Z h0 a941 zs1) (pF_a941_value : Fld Z h0 a941 zs1 "value" zs3 (.ref b302)) :
    MetFree l (⟨zs1, "get", zs15⟩ : MethodName) (head1 (Jvm.Cond.code (⟨zs1, "get", zs15⟩ : MethodName) prog_1_method_14_code 1 (some (.object zs5)) :: ws) ({ frames := 1, cells := 0, slots := 0, locals := 12 } : Room)) (fun a U => a = #[(.ref a941)] ∧ Z.Warmed39 U.vm ∧ U.heap = h0) (fun _ _ _ _ _ => True) (fun _ U o U' => ∃ v L, o = .returned v ∧ Q45 Z a941 w21 b302 h0 n0 v U'.heap L ∧ ReturnedEndW U o U' L ({ frames := 1, cells := 0, slots := 0, locals := 12 } : Room).cells ({ frames := 1, cells := 0, slots := 0, locals := 12 } : Room).slots) := by
  refine MetFree.of_bodySF (plainFor_of_name pn_1) hisR ?_
  intro p e s m args below meth c s₁ Bd hml0 hP hK
  obtain ⟨rfl, hZ, hh⟩ := hP
  have hx := Bd.exec
  have hby := Bd.bytes
  have hml : c.maxLocals = 1 := hml0
  have hown : s.vm.findClass zs1 = some m.cls := findClass_of_methodNamed Bd.named
  have hnm := (name_of_methodNamed Bd.named Bd.method).1
  have X0 : Stand p l e ({ frames := 1, cells := 0, slots := 0, locals := 12 } : Room) (s.setVm s.vm) m #[(.ref a941)] below meth c s₁ [] 0 0 := Stand.of_body Bd
  have hS : s.Since s.vm 0 := (State.WarmedH.refl s).since 0
  obtain ⟨k0, hk0, hS⟩ : ∃ k0, k0 ≤ h0.size ∧ s.Since s.vm k0 := ⟨0, Nat.zero_le _, hS⟩
  have hZ : Z.Warmed39 (s.setVm s.vm).vm := hZ
  have hown : (s.setVm s.vm).vm.findClass zs1 = some m.cls := hown
  have e0 : s₁.heap = h0 := by rw [← hh, Bd.state]; rfl
  have N0 := Fr.nil n0
  refine own_out ?_
  refine own_via (fun t k => castTop (ef_21 m a941) (XS.aloadN X0.here hx rfl (hb hby d18_0) rfl rfl k)) ?_
  obtain ⟨_, T954, _, X954, hQ954, hS, hZ, hown, st954⟩ := own_cvS X0 hx hZ hS hk0 hown (wd hw 12 rfl) (wd hw 13 rfl) (wd hw 15 rfl) (wd hw 14 rfl) (wd hw 16 rfl) (wd hw 3 rfl) (by decide) (rm24 l Z a0 hw [] a941 w21 h0 n0 O0 S_Tertium_ABSENT SE_w21 pG_a941) e0 pE_a941 (g := (mkF m 1 #[rv a941] [(.ref a941)])) rfl (by rw [hml]; rfl) (rest := []) (W := 0) (lenOf pd_2 rfl) rfl (by show 2 * 0 + _ ≤ _; exact Nat.le_of_eq rfl) (hb hby d18_1) (by decide) (by decide) (by decide) (by decide)
  obtain ⟨rfl, Nq954, hh955⟩ := hQ954
  have N954 := Fr.app N0 Nq954
  have hk956 : T954.heap.size ≤ h0.size := Nat.le_of_eq (congrArg Array.size hh955)
  refine own_via (fun t k => st954 t (XS.ifYes X954.here hx rfl (pc0 := 4) (pc' := 17) rfl (hb hby d18_4) rfl ((if0 _ _).trans (teq (by decide : (0 : Int32) = (0 : Int32))).1) (by decide) (by decide) (XS.aloadN X954.here hx rfl (hb hby d18_17) rfl rfl k))) ?_
  show own_Goes p e below (T954.setTop (mkF m 18 #[rv a941] [(.ref a941)])) _
  obtain ⟨T957, X957, e957, st957⟩ := getF X954 hx hZ hown (host := "") (Or.inl (wd hw 71 rfl)) Via.refl hh955 pF_a941_value (g := (mkF m 18 #[rv a941] [(.ref a941)])) rfl rfl (hb hby d18_18)
  refine own_via (fun t k => st957 t k) ?_
  obtain ⟨fs, hr, hrun, hended, hRW⟩ := X957.leaveW hS (by rw [e957]; first | exact hk956 | exact Nat.le_refl _) (v := some (.ref b302)) (fun h => by rw [Bd.returns] at h; cases h)
  refine own_end (t := T957.setFrames fs) ?_ ⟨_, hrun, hended, _, _, rfl, ?_, own_rmono hRW (by decide) (by decide)⟩
  · jvm_step X957.here [X957.here.top, hx, (hb hby d18_21), X957.method', Bd.returns, Value.isRef, FieldType.isReference]
    first | (intro acts; rw [hr _ acts rfl rfl rfl]) | rw [hr _ _ rfl rfl rfl]
    exact Steps.refl _
  · show Q45 Z a941 w21 b302 h0 n0 _ T957.heap _
    rw [e957]
    exact ⟨rfl, N954, rfl⟩
def Q46 (Z : State) (b302 : Addr) (i1 : Int32) (h0 : Heap) (n0 : Nat) (v : Option Value) (h : Heap) (L : List Loc) : Prop := v = some (.int i1) ∧ Fr n0 L ∧ h = h0
set_option maxRecDepth 65536 in
set_option maxHeartbeats 40000000 in
theorem rm46 (l : Launch) (Z : State) (a0 : Array Value) (hw : ∀ d ∈ tables_1, d.before a0 Z = true) (ws : List Jvm.Cond) (b302 : Addr) (i1 : Int32) (h0 : Heap) (n0 : Nat) (O0 : Old Z n0 h0) (pSF_b302 : Fld Z Z.heap b302 zs4 "value" "I" (.int i1)) :
    MetFree l (⟨zs4, "intValue", "()I"⟩ : MethodName) (head1 (Jvm.Cond.code (⟨zs4, "intValue", "()I"⟩ : MethodName) jdk_33_method_27_code 1 (some .int) :: ws) ({ frames := 0, cells := 0, slots := 0, locals := 0 } : Room)) (fun a U => a = #[(.ref b302)] ∧ Z.Warmed39 U.vm ∧ U.heap = h0) (fun _ _ _ _ _ => True) (fun _ U o U' => ∃ v L, o = .returned v ∧ Q46 Z b302 i1 h0 n0 v U'.heap L ∧ ReturnedEndW U o U' L ({ frames := 0, cells := 0, slots := 0, locals := 0 } : Room).cells ({ frames := 0, cells := 0, slots := 0, locals := 0 } : Room).slots) := by
  refine MetFree.of_bodySF (plainFor_of_name pn_5) hisR ?_
  intro p e s m args below meth c s₁ Bd hml0 hP hK
  obtain ⟨rfl, hZ, hh⟩ := hP
  have hx := Bd.exec
  have hby := Bd.bytes
  have hml : c.maxLocals = 1 := hml0
  have hown : s.vm.findClass zs4 = some m.cls := findClass_of_methodNamed Bd.named
  have hnm := (name_of_methodNamed Bd.named Bd.method).1
  have X0 : Stand p l e ({ frames := 0, cells := 0, slots := 0, locals := 0 } : Room) (s.setVm s.vm) m #[(.ref b302)] below meth c s₁ [] 0 0 := Stand.of_body Bd
  have hS : s.Since s.vm 0 := (State.WarmedH.refl s).since 0
  obtain ⟨k0, hk0, hS⟩ : ∃ k0, k0 ≤ h0.size ∧ s.Since s.vm k0 := ⟨0, Nat.zero_le _, hS⟩
  have hZ : Z.Warmed39 (s.setVm s.vm).vm := hZ
  have hown : (s.setVm s.vm).vm.findClass zs4 = some m.cls := hown
  have e0 : s₁.heap = h0 := by rw [← hh, Bd.state]; rfl
  have N0 := Fr.nil n0
  refine own_out ?_
  refine own_via (fun t k => castTop (ef_22 m b302) (XS.aloadN X0.here hx rfl (hb hby d19_0) rfl rfl k)) ?_
  obtain ⟨T975, X975, e975, st975⟩ := getF X0 hx hZ hown (host := "") (Or.inl (wd hw 111 rfl)) Via.refl e0 (pSF_b302.ext O0.2) (g := (mkF m 1 #[rv b302] [(.ref b302)])) rfl rfl (hb hby d19_1)
  refine own_via (fun t k => st975 t k) ?_
  obtain ⟨fs, hr, hrun, hended, hRW⟩ := X975.leaveW hS (by rw [e975]; first | exact hk0 | exact Nat.le_refl _) (v := some (.int i1)) (fun h => by rw [Bd.returns] at h; cases h)
  refine own_end (t := T975.setFrames fs) ?_ ⟨_, hrun, hended, _, _, rfl, ?_, own_rmono hRW (by decide) (by decide)⟩
  · exact retI X975 hx Bd.returns (hb hby d19_4) hr
  · show Q46 Z b302 i1 h0 n0 _ T975.heap _
    rw [e975]
    exact ⟨rfl, N0, rfl⟩
theorem ef_23 (m : MethodId) (x0 : Int32) (x1 : Int32) : entryFrame m #[(.int x0), (.int x1)] maxLocals = mkF m 0 #[iv x0, iv x1, .unset, .unset, .unset, .unset] [] := by first | (simp [entryFrame, mkF, argsToLocals, Value.category, maxLocals]; done) | rfl
theorem pn_6 : plainName "tertium/TertiumFromNestedOptionalPinLaw" = true := by first | (simp [plainName, overriddenIn]; done) | decide +kernel
set_option maxRecDepth 65536 in
set_option maxHeartbeats 40000000 in
theorem rm0 (l : Launch) (Z : State) (a0 : Array Value) (hw : ∀ d ∈ tables_1, d.before a0 Z = true) (ws : List Jvm.Cond) (i0 : Int32) (i1 : Int32) (w21 : Addr) (w27 : Addr) (w23 : Addr) (w25 : Addr) (w31 : Addr) (cl33 : Cell) (h0 : Heap) (n0 : Nat) (O0 : Old Z n0 h0) (S_Tertium_ABSENT : Sta Z Z.heap zs1 "ABSENT" zs6 (.ref w21)) (SE_w21 : Exa Z Z.heap w21 zs1) (S_Optional_EMPTY : Sta Z Z.heap zs2 "EMPTY" zs19 (.ref w27)) (SF_w27_value : Fld Z Z.heap w27 zs2 "value" zs3 .null) (SE_w27 : Exa Z Z.heap w27 zs2) (S_Tertium_NULL : Sta Z Z.heap zs1 "NULL" zs6 (.ref w23)) (SN_w21_w23 : w21 ≠ w23) (SE_w23 : Exa Z Z.heap w23 zs1) (S_Tertium_NESTED_NULL : Sta Z Z.heap zs1 "NESTED_NULL" zs19 (.ref w25)) (SF_w25_value : Fld Z Z.heap w25 zs2 "value" zs3 (.ref w27)) (SE_w25 : Exa Z Z.heap w25 zs2) (S_Integer_IntegerCache_high : Sta Z Z.heap zs16 "high" "I" (.int (127 : Int32))) (S_Integer_IntegerCache_cache : Sta Z Z.heap zs16 "cache" zs23 (.ref w31)) (BX_w31 : Bxs Z w31 cl33 zs4 "I" (256 : Int32) (fun j => .int (j - (128 : Int32)))) :
    MetFree l x (head1 (Jvm.Cond.code x code maxLocals ret :: ws) room_1) (fun a U => a = #[(.int i0), (.int i1)] ∧ Z.Warmed39 U.vm ∧ U.heap = h0) (fun _ _ _ _ _ => True) (fun _ U o U' => ∃ v L, o = .returned v ∧ own_Q0 n0 v L ∧ ReturnedEndW U o U' L room_1.cells room_1.slots) := by
  refine MetFree.of_bodySF (plainFor_of_name pn_6) hisR ?_
  intro p e s m args below meth c s₁ Bd hml0 hP hK
  obtain ⟨rfl, hZ, hh⟩ := hP
  have hx := Bd.exec
  have hby := Bd.bytes
  have hml : c.maxLocals = 6 := hml0
  have hown : s.vm.findClass "tertium/TertiumFromNestedOptionalPinLaw" = some m.cls := findClass_of_methodNamed Bd.named
  have hnm := (name_of_methodNamed Bd.named Bd.method).1
  have X0 : Stand p l e room_1 (s.setVm s.vm) m #[(.int i0), (.int i1)] below meth c s₁ [] 0 0 := Stand.of_body Bd
  have hS : s.Since s.vm 0 := (State.WarmedH.refl s).since 0
  obtain ⟨k0, hk0, hS⟩ : ∃ k0, k0 ≤ h0.size ∧ s.Since s.vm k0 := ⟨0, Nat.zero_le _, hS⟩
  have hZ : Z.Warmed39 (s.setVm s.vm).vm := hZ
  have hown : (s.setVm s.vm).vm.findClass "tertium/TertiumFromNestedOptionalPinLaw" = some m.cls := hown
  have e0 : s₁.heap = h0 := by rw [← hh, Bd.state]; rfl
  have N0 := Fr.nil n0
  refine own_out ?_
  show own_Goes p e below _ (own_G s below n0)
  refine own_via (fun t k => castTop (ef_23 m i0 i1) (XS.iloadN X0.here hx rfl (hb hby at_0) rfl (X0.ldcInt hx hown (mvT hZ (wd hw 0 rfl)) (g := (mkF m 1 #[iv i0, iv i1, .unset, .unset, .unset, .unset] [(.int i0)])) rfl (hb hby at_1) t (XS.iand X0.here hx rfl (hb hby at_3) rfl (XS.iconst X0.here hx rfl (hb hby at_4) (iremM (g := (mkF m 5 #[iv i0, iv i1, .unset, .unset, .unset, .unset] [(.int (3 : Int32)), (.int (i0 &&& (2147483647 : Int32)))])) X0 hx rfl (hb hby at_5) rfl (by decide) (XS.istoreN X0.here hx rfl (hb hby at_6) rfl (l' := #[iv i0, iv i1, iv ((i0 &&& (2147483647 : Int32)) % (3 : Int32)), .unset, .unset, .unset]) rfl (XS.iloadN X0.here hx rfl (hb hby at_7) rfl k)))))))) ?_
  show own_Goes p e below (s₁.setTop (mkF m 8 #[iv i0, iv i1, iv ((i0 &&& (2147483647 : Int32)) % (3 : Int32)), .unset, .unset, .unset] [(.int ((i0 &&& (2147483647 : Int32)) % (3 : Int32)))])) _
  by_cases hc35 : ((i0 &&& (2147483647 : Int32)) % (3 : Int32)) = (0 : Int32)
  · refine own_via (fun t k => XS.ifNo X0.here hx rfl (hb hby at_8) rfl ((if0 _ _).trans (teq hc35).2) k) ?_
    obtain ⟨_, T36, _, X36, hQ36, hS, hZ, hown, st36⟩ := own_csS X0 hx hZ hS hk0 hown (wd hw 1 rfl) (wd hw 2 rfl) (wd hw 4 rfl) (wd hw 3 rfl) (by decide) (rm1 l Z a0 hw [] w21 h0 n0 O0 S_Tertium_ABSENT) e0 (g := (mkF m 11 #[iv i0, iv i1, iv ((i0 &&& (2147483647 : Int32)) % (3 : Int32)), .unset, .unset, .unset] [])) rfl (by rw [hml]; rfl) (rest := []) (W := 0) (lenOf pd_1 rfl) rfl (by show 2 * 0 + _ ≤ _; exact Nat.le_of_eq rfl) (hb hby at_11) (by decide) (by decide) (by decide) (by decide)
    obtain ⟨rfl, Nq36, hh43⟩ := hQ36
    have N36 := Fr.app N0 Nq36
    have hk44 : T36.heap.size ≤ h0.size := Nat.le_of_eq (congrArg Array.size hh43)
    refine own_via (fun t k => st36 t (XS.astoreN X36.here hx rfl (hb hby at_14) rfl rfl (l' := #[iv i0, iv i1, iv ((i0 &&& (2147483647 : Int32)) % (3 : Int32)), rv w21, .unset, .unset]) rfl (XS.goto X36.here hx rfl (pc0 := 15) (pc' := 38) rfl (hb hby at_15) (by decide) (by decide) (XS.aloadN X36.here hx rfl (hb hby at_38) rfl rfl k)))) ?_
    show own_Goes p e below (T36.setTop (mkF m 39 #[iv i0, iv i1, iv ((i0 &&& (2147483647 : Int32)) % (3 : Int32)), rv w21, .unset, .unset] [(.ref w21)])) _
    obtain ⟨_, T45, _, X45, hQ45, hS, hZ, hown, st45⟩ := own_cvS X36 hx hZ hS hk44 hown (wd hw 7 rfl) (wd hw 8 rfl) (wd hw 10 rfl) (wd hw 9 rfl) (wd hw 11 rfl) (wd hw 3 rfl) (by decide) (rm4 l Z a0 hw [] w21 w27 h0 n0 O0 S_Tertium_ABSENT SE_w21 S_Optional_EMPTY) hh43 (SE_w21.ext O0.2) (g := (mkF m 39 #[iv i0, iv i1, iv ((i0 &&& (2147483647 : Int32)) % (3 : Int32)), rv w21, .unset, .unset] [(.ref w21)])) rfl (by rw [hml]; rfl) (rest := []) (W := 0) (lenOf pd_3 rfl) rfl (by show 2 * 0 + _ ≤ _; exact Nat.le_of_eq rfl) (hb hby at_39) (by decide) (by decide) (by decide) (by decide)
    obtain ⟨rfl, Nq45, hh69⟩ := hQ45
    have N45 := Fr.app N36 Nq45
    have hk70 : T45.heap.size ≤ h0.size := Nat.le_of_eq (congrArg Array.size hh69)
    refine own_via (fun t k => st45 t k) ?_
    obtain ⟨_, T71, _, X71, hQ71, hS, hZ, hown, st71⟩ := own_csS X45 hx hZ hS hk70 hown (wd hw 22 rfl) (wd hw 23 rfl) (wd hw 24 rfl) (wd hw 3 rfl) (by decide) (rm7 l Z a0 hw [] w27 w21 h0 n0 O0 SF_w27_value SE_w27 S_Tertium_ABSENT) hh69 (g := (mkF m 42 #[iv i0, iv i1, iv ((i0 &&& (2147483647 : Int32)) % (3 : Int32)), rv w21, .unset, .unset] [(.ref w27)])) rfl (by rw [hml]; rfl) (rest := []) (W := 0) (lenOf pd_5 rfl) rfl (by show 2 * 0 + _ ≤ _; exact Nat.le_of_eq rfl) (hb hby at_42) (by decide) (by decide) (by decide) (by decide)
    obtain ⟨h71, e71⟩ : ∃ z, T71.heap = z := ⟨_, rfl⟩
    rw [e71] at hQ71
    obtain ⟨rfl, Nq71, K71⟩ := hQ71
    have N71 := Fr.app N45 Nq71
    have hk101 : T71.heap.size ≤ h71.size := Nat.le_of_eq (congrArg Array.size e71)
    refine own_via (fun t k => st71 t (XS.astore X71.here hx rfl (hb hby at_45) rfl rfl (l' := #[iv i0, iv i1, iv ((i0 &&& (2147483647 : Int32)) % (3 : Int32)), rv w21, rv w21, .unset]) rfl (XS.iloadN X71.here hx rfl (hb hby at_47) rfl (XS.ifNo X71.here hx rfl (hb hby at_48) rfl ((if0 _ _).trans (teq hc35).2) (XS.aload X71.here hx rfl (hb hby at_51) rfl rfl k))))) ?_
    show own_Goes p e below (T71.setTop (mkF m 53 #[iv i0, iv i1, iv ((i0 &&& (2147483647 : Int32)) % (3 : Int32)), rv w21, rv w21, .unset] [(.ref w21)])) _
    have O103 : Old Z n0 h71 := (O0.keep K71 all0)
    obtain ⟨_, T102, _, X102, hQ102, hS, hZ, hown, st102⟩ := own_cvS X71 hx hZ hS hk101 hown (wd hw 45 rfl) (wd hw 13 rfl) (wd hw 15 rfl) (wd hw 14 rfl) (wd hw 16 rfl) (wd hw 3 rfl) (by decide) (rm2 l Z a0 hw [] w21 h71 n0 O103 S_Tertium_ABSENT) e71 (SE_w21.ext O103.2) (g := (mkF m 53 #[iv i0, iv i1, iv ((i0 &&& (2147483647 : Int32)) % (3 : Int32)), rv w21, rv w21, .unset] [(.ref w21)])) rfl (by rw [hml]; rfl) (rest := []) (W := 0) (lenOf pd_2 rfl) rfl (by show 2 * 0 + _ ≤ _; exact Nat.le_of_eq rfl) (hb hby at_53) (by decide) (by decide) (by decide) (by decide)
    obtain ⟨rfl, Nq102, hh104⟩ := hQ102
    have N102 := Fr.app N71 Nq102
    have hk105 : T102.heap.size ≤ h71.size := Nat.le_of_eq (congrArg Array.size hh104)
    refine own_via (fun t k => st102 t (XS.ifNo X102.here hx rfl (hb hby at_56) rfl ((if0 _ _).trans (feq (by decide : ¬ ((1 : Int32) = (0 : Int32)))).1) (XS.aload X102.here hx rfl (hb hby at_59) rfl rfl k))) ?_
    show own_Goes p e below (T102.setTop (mkF m 61 #[iv i0, iv i1, iv ((i0 &&& (2147483647 : Int32)) % (3 : Int32)), rv w21, rv w21, .unset] [(.ref w21)])) _
    obtain ⟨_, T106, _, X106, hQ106, hS, hZ, hown, st106⟩ := own_cvS X102 hx hZ hS hk105 hown (wd hw 46 rfl) (wd hw 47 rfl) (wd hw 49 rfl) (wd hw 48 rfl) (wd hw 50 rfl) (wd hw 3 rfl) (by decide) (rm8 l Z a0 hw [] w21 w23 h71 n0 O103 S_Tertium_NULL SN_w21_w23) hh104 (SE_w21.ext O103.2) (g := (mkF m 61 #[iv i0, iv i1, iv ((i0 &&& (2147483647 : Int32)) % (3 : Int32)), rv w21, rv w21, .unset] [(.ref w21)])) rfl (by rw [hml]; rfl) (rest := []) (W := 0) (lenOf pd_2 rfl) rfl (by show 2 * 0 + _ ≤ _; exact Nat.le_of_eq rfl) (hb hby at_61) (by decide) (by decide) (by decide) (by decide)
    obtain ⟨rfl, Nq106, hh113⟩ := hQ106
    have N106 := Fr.app N102 Nq106
    have hk114 : T106.heap.size ≤ h71.size := Nat.le_of_eq (congrArg Array.size hh113)
    refine own_via (fun t k => st106 t (XS.ifNo X106.here hx rfl (hb hby at_64) rfl ((if0 _ _).trans (teq (by decide : (0 : Int32) = (0 : Int32))).2) (XS.iconst X106.here hx rfl (hb hby at_67) (XS.goto X106.here hx rfl (pc0 := 68) (pc' := 72) rfl (hb hby at_68) (by decide) (by decide) k)))) ?_
    show own_Goes p e below (T106.setTop (mkF m 72 #[iv i0, iv i1, iv ((i0 &&& (2147483647 : Int32)) % (3 : Int32)), rv w21, rv w21, .unset] [(.int (1 : Int32))])) _
    obtain ⟨fs, hr, hrun, hended, hRW⟩ := X106.leaveW hS (by rw [hh113]; first | exact hk114 | exact Nat.le_refl _) (v := some (.int (1 : Int32))) (fun h => by rw [Bd.returns] at h; cases h)
    refine own_end (t := T106.setFrames fs) ?_ ⟨_, hrun, hended, _, _, rfl, ?_, own_rmono hRW (by decide) (by decide)⟩
    · exact retN X106 hx (t := .boolean) Bd.returns (by simp) (hb hby at_72) hr
    · exact ⟨rfl, N106⟩
  · refine own_via (fun t k => XS.ifYes X0.here hx rfl (pc0 := 8) (pc' := 18) rfl (hb hby at_8) rfl ((if0 _ _).trans (feq hc35).2) (by decide) (by decide) (XS.iloadN X0.here hx rfl (hb hby at_18) rfl (XS.iconst X0.here hx rfl (hb hby at_19) k))) ?_
    show own_Goes p e below (s₁.setTop (mkF m 20 #[iv i0, iv i1, iv ((i0 &&& (2147483647 : Int32)) % (3 : Int32)), .unset, .unset, .unset] [(.int (1 : Int32)), (.int ((i0 &&& (2147483647 : Int32)) % (3 : Int32)))])) _
    by_cases hc115 : ((i0 &&& (2147483647 : Int32)) % (3 : Int32)) = (1 : Int32)
    · refine own_via (fun t k => XS.icmpNo X0.here hx rfl (hb hby at_20) rfl (teq hc115).2 k) ?_
      obtain ⟨_, T116, _, X116, hQ116, hS, hZ, hown, st116⟩ := own_csS X0 hx hZ hS hk0 hown (wd hw 125 rfl) (wd hw 126 rfl) (wd hw 127 rfl) (wd hw 3 rfl) (by decide) (rm9 l Z a0 hw [] w23 h0 n0 O0 S_Tertium_NULL) e0 (g := (mkF m 23 #[iv i0, iv i1, iv ((i0 &&& (2147483647 : Int32)) % (3 : Int32)), .unset, .unset, .unset] [])) rfl (by rw [hml]; rfl) (rest := []) (W := 0) (lenOf pd_1 rfl) rfl (by show 2 * 0 + _ ≤ _; exact Nat.le_of_eq rfl) (hb hby at_23) (by decide) (by decide) (by decide) (by decide)
      obtain ⟨rfl, Nq116, hh124⟩ := hQ116
      have N116 := Fr.app N0 Nq116
      have hk125 : T116.heap.size ≤ h0.size := Nat.le_of_eq (congrArg Array.size hh124)
      refine own_via (fun t k => st116 t (XS.astoreN X116.here hx rfl (hb hby at_26) rfl rfl (l' := #[iv i0, iv i1, iv ((i0 &&& (2147483647 : Int32)) % (3 : Int32)), rv w23, .unset, .unset]) rfl (XS.goto X116.here hx rfl (pc0 := 27) (pc' := 38) rfl (hb hby at_27) (by decide) (by decide) (XS.aloadN X116.here hx rfl (hb hby at_38) rfl rfl k)))) ?_
      show own_Goes p e below (T116.setTop (mkF m 39 #[iv i0, iv i1, iv ((i0 &&& (2147483647 : Int32)) % (3 : Int32)), rv w23, .unset, .unset] [(.ref w23)])) _
      obtain ⟨_, T126, _, X126, hQ126, hS, hZ, hown, st126⟩ := own_cvS X116 hx hZ hS hk125 hown (wd hw 7 rfl) (wd hw 8 rfl) (wd hw 10 rfl) (wd hw 9 rfl) (wd hw 11 rfl) (wd hw 3 rfl) (by decide) (rm12 l Z a0 hw [] w23 w21 w25 h0 n0 O0 S_Tertium_ABSENT SN_w21_w23 SE_w23 S_Tertium_NULL S_Tertium_NESTED_NULL) hh124 (SE_w23.ext O0.2) (g := (mkF m 39 #[iv i0, iv i1, iv ((i0 &&& (2147483647 : Int32)) % (3 : Int32)), rv w23, .unset, .unset] [(.ref w23)])) rfl (by rw [hml]; rfl) (rest := []) (W := 0) (lenOf pd_3 rfl) rfl (by show 2 * 0 + _ ≤ _; exact Nat.le_of_eq rfl) (hb hby at_39) (by decide) (by decide) (by decide) (by decide)
      obtain ⟨rfl, Nq126, hh154⟩ := hQ126
      have N126 := Fr.app N116 Nq126
      have hk155 : T126.heap.size ≤ h0.size := Nat.le_of_eq (congrArg Array.size hh154)
      refine own_via (fun t k => st126 t k) ?_
      obtain ⟨_, T156, _, X156, hQ156, hS, hZ, hown, st156⟩ := own_csS X126 hx hZ hS hk155 hown (wd hw 22 rfl) (wd hw 23 rfl) (wd hw 24 rfl) (wd hw 3 rfl) (by decide) (rm18 l Z a0 hw [] w25 w27 w23 h0 n0 O0 SF_w25_value SE_w25 SE_w27 SF_w27_value S_Tertium_NULL) hh154 (g := (mkF m 42 #[iv i0, iv i1, iv ((i0 &&& (2147483647 : Int32)) % (3 : Int32)), rv w23, .unset, .unset] [(.ref w25)])) rfl (by rw [hml]; rfl) (rest := []) (W := 0) (lenOf pd_5 rfl) rfl (by show 2 * 0 + _ ≤ _; exact Nat.le_of_eq rfl) (hb hby at_42) (by decide) (by decide) (by decide) (by decide)
      obtain ⟨h156, e156⟩ : ∃ z, T156.heap = z := ⟨_, rfl⟩
      rw [e156] at hQ156
      obtain ⟨rfl, Nq156, K156⟩ := hQ156
      have N156 := Fr.app N126 Nq156
      have hk220 : T156.heap.size ≤ h156.size := Nat.le_of_eq (congrArg Array.size e156)
      refine own_via (fun t k => st156 t (XS.astore X156.here hx rfl (hb hby at_45) rfl rfl (l' := #[iv i0, iv i1, iv ((i0 &&& (2147483647 : Int32)) % (3 : Int32)), rv w23, rv w23, .unset]) rfl (XS.iloadN X156.here hx rfl (hb hby at_47) rfl (XS.ifYes X156.here hx rfl (pc0 := 48) (pc' := 73) rfl (hb hby at_48) rfl ((if0 _ _).trans (feq hc35).2) (by decide) (by decide) (XS.iloadN X156.here hx rfl (hb hby at_73) rfl (XS.iconst X156.here hx rfl (hb hby at_74) (XS.icmpNo X156.here hx rfl (hb hby at_75) rfl (teq hc115).2 (XS.aload X156.here hx rfl (hb hby at_78) rfl rfl k)))))))) ?_
      show own_Goes p e below (T156.setTop (mkF m 80 #[iv i0, iv i1, iv ((i0 &&& (2147483647 : Int32)) % (3 : Int32)), rv w23, rv w23, .unset] [(.ref w23)])) _
      have O222 : Old Z n0 h156 := (O0.keep K156 all0)
      obtain ⟨_, T221, _, X221, hQ221, hS, hZ, hown, st221⟩ := own_cvS X156 hx hZ hS hk220 hown (wd hw 45 rfl) (wd hw 13 rfl) (wd hw 15 rfl) (wd hw 14 rfl) (wd hw 16 rfl) (wd hw 3 rfl) (by decide) (rm10 l Z a0 hw [] w23 w21 h156 n0 O222 S_Tertium_ABSENT SN_w21_w23) e156 (SE_w23.ext O222.2) (g := (mkF m 80 #[iv i0, iv i1, iv ((i0 &&& (2147483647 : Int32)) % (3 : Int32)), rv w23, rv w23, .unset] [(.ref w23)])) rfl (by rw [hml]; rfl) (rest := []) (W := 0) (lenOf pd_2 rfl) rfl (by show 2 * 0 + _ ≤ _; exact Nat.le_of_eq rfl) (hb hby at_80) (by decide) (by decide) (by decide) (by decide)
      obtain ⟨rfl, Nq221, hh223⟩ := hQ221
      have N221 := Fr.app N156 Nq221
      have hk224 : T221.heap.size ≤ h156.size := Nat.le_of_eq (congrArg Array.size hh223)
      refine own_via (fun t k => st221 t (XS.ifNo X221.here hx rfl (hb hby at_83) rfl ((if0 _ _).trans (teq (by decide : (0 : Int32) = (0 : Int32))).2) (XS.aload X221.here hx rfl (hb hby at_86) rfl rfl k))) ?_
      show own_Goes p e below (T221.setTop (mkF m 88 #[iv i0, iv i1, iv ((i0 &&& (2147483647 : Int32)) % (3 : Int32)), rv w23, rv w23, .unset] [(.ref w23)])) _
      obtain ⟨_, T225, _, X225, hQ225, hS, hZ, hown, st225⟩ := own_cvS X221 hx hZ hS hk224 hown (wd hw 46 rfl) (wd hw 47 rfl) (wd hw 49 rfl) (wd hw 48 rfl) (wd hw 50 rfl) (wd hw 3 rfl) (by decide) (rm11 l Z a0 hw [] w23 h156 n0 O222 S_Tertium_NULL) hh223 (SE_w23.ext O222.2) (g := (mkF m 88 #[iv i0, iv i1, iv ((i0 &&& (2147483647 : Int32)) % (3 : Int32)), rv w23, rv w23, .unset] [(.ref w23)])) rfl (by rw [hml]; rfl) (rest := []) (W := 0) (lenOf pd_2 rfl) rfl (by show 2 * 0 + _ ≤ _; exact Nat.le_of_eq rfl) (hb hby at_88) (by decide) (by decide) (by decide) (by decide)
      obtain ⟨rfl, Nq225, hh226⟩ := hQ225
      have N225 := Fr.app N221 Nq225
      have hk227 : T225.heap.size ≤ h156.size := Nat.le_of_eq (congrArg Array.size hh226)
      refine own_via (fun t k => st225 t (XS.ifNo X225.here hx rfl (hb hby at_91) rfl ((if0 _ _).trans (feq (by decide : ¬ ((1 : Int32) = (0 : Int32)))).1) (XS.iconst X225.here hx rfl (hb hby at_94) (XS.goto X225.here hx rfl (pc0 := 95) (pc' := 99) rfl (hb hby at_95) (by decide) (by decide) k)))) ?_
      show own_Goes p e below (T225.setTop (mkF m 99 #[iv i0, iv i1, iv ((i0 &&& (2147483647 : Int32)) % (3 : Int32)), rv w23, rv w23, .unset] [(.int (1 : Int32))])) _
      obtain ⟨fs, hr, hrun, hended, hRW⟩ := X225.leaveW hS (by rw [hh226]; first | exact hk227 | exact Nat.le_refl _) (v := some (.int (1 : Int32))) (fun h => by rw [Bd.returns] at h; cases h)
      refine own_end (t := T225.setFrames fs) ?_ ⟨_, hrun, hended, _, _, rfl, ?_, own_rmono hRW (by decide) (by decide)⟩
      · exact retN X225 hx (t := .boolean) Bd.returns (by simp) (hb hby at_99) hr
      · exact ⟨rfl, N225⟩
    · refine own_via (fun t k => XS.icmpYes X0.here hx rfl (pc0 := 20) (pc' := 30) rfl (hb hby at_20) rfl (feq hc115).2 (by decide) (by decide) (XS.iloadN X0.here hx rfl (hb hby at_30) rfl k)) ?_
      obtain ⟨_, T228, _, X228, hQ228, hS, hZ, hown, st228⟩ := own_csS X0 hx hZ hS hk0 hown (wd hw 53 rfl) (wd hw 54 rfl) (wd hw 56 rfl) (wd hw 55 rfl) (by decide) (rm21 l Z a0 hw [] i1 w31 cl33 h0 n0 O0 S_Integer_IntegerCache_high S_Integer_IntegerCache_cache BX_w31) e0 (g := (mkF m 31 #[iv i0, iv i1, iv ((i0 &&& (2147483647 : Int32)) % (3 : Int32)), .unset, .unset, .unset] [(.int i1)])) rfl (by rw [hml]; rfl) (rest := []) (W := 0) (lenOf pd_11 rfl) rfl (by show 2 * 0 + _ ≤ _; exact Nat.le_of_eq rfl) (hb hby at_31) (by decide) (by decide) (by decide) (by decide)
      obtain ⟨h228, e228⟩ : ∃ z, T228.heap = z := ⟨_, rfl⟩
      rw [e228] at hQ228
      rcases hQ228 with ⟨b291, hq292, rfl, Nq228, K228, bx293, ex294, fx295⟩ | ⟨b296, hq297, hq298, rfl, Nq228, K228, bx299, ex300, fx301⟩ | ⟨b302, hq303, hq304, rfl, Nq228, sx305, sx306, hh307⟩
      · have N228 := Fr.app N0 Nq228
        have g308 : n0 ≤ b291 := Nat.le_trans (own_old O0) bx293
        have B309 : h0.size ≤ b291 := Nat.le_trans (Nat.le_refl _) bx293
        have hk310 : T228.heap.size ≤ h228.size := Nat.le_of_eq (congrArg Array.size e228)
        refine own_via (fun t k => st228 t k) ?_
        have O346 : Old Z n0 h228 := (O0.keep K228 all0)
        obtain ⟨_, T311, _, X311, hQ311, hS, hZ, hown, st311⟩ := own_csS X228 hx hZ hS hk310 hown (wd hw 60 rfl) (wd hw 61 rfl) (wd hw 62 rfl) (wd hw 3 rfl) (by decide) (rm23 l Z a0 hw [] b291 h228 n0 O346 ) e228 (g := (mkF m 34 #[iv i0, iv i1, iv ((i0 &&& (2147483647 : Int32)) % (3 : Int32)), .unset, .unset, .unset] [(.ref b291)])) rfl (by rw [hml]; rfl) (rest := []) (W := 0) (lenOf pd_8 rfl) rfl (by show 2 * 0 + _ ≤ _; exact Nat.le_of_eq rfl) (hb hby at_34) (by decide) (by decide) (by decide) (by decide)
        obtain ⟨h311, e311⟩ : ∃ z, T311.heap = z := ⟨_, rfl⟩
        rw [e311] at hQ311
        obtain ⟨b347, rfl, Nq311, K311, bx348, ex349, fx350⟩ := hQ311
        have N311 := Fr.app N228 Nq311
        have N351 : b291 ≠ b347 := Nat.ne_of_lt (Nat.lt_of_lt_of_le ex294.lt bx348)
        have g352 : n0 ≤ b347 := Nat.le_trans (own_old O346) bx348
        have Z354 : h0.size ≤ h228.size := (Nat.le_trans (Nat.le_refl _) K228.1)
        have B353 : h0.size ≤ b347 := Nat.le_trans Z354 bx348
        have hk355 : T311.heap.size ≤ h311.size := Nat.le_of_eq (congrArg Array.size e311)
        refine own_via (fun t k => st311 t (XS.astoreN X311.here hx rfl (hb hby at_37) rfl rfl (l' := #[iv i0, iv i1, iv ((i0 &&& (2147483647 : Int32)) % (3 : Int32)), rv b347, .unset, .unset]) rfl (XS.aloadN X311.here hx rfl (hb hby at_38) rfl rfl k))) ?_
        show own_Goes p e below (T311.setTop (mkF m 39 #[iv i0, iv i1, iv ((i0 &&& (2147483647 : Int32)) % (3 : Int32)), rv b347, .unset, .unset] [(.ref b347)])) _
        have O467 : Old Z n0 h311 := (O346.keep K311 all0)
        obtain ⟨_, T356, _, X356, hQ356, hS, hZ, hown, st356⟩ := own_cvS X311 hx hZ hS hk355 hown (wd hw 7 rfl) (wd hw 8 rfl) (wd hw 10 rfl) (wd hw 9 rfl) (wd hw 11 rfl) (wd hw 3 rfl) (by decide) (rm29 l Z a0 hw [] b347 w21 w23 b291 h311 n0 O467 S_Tertium_ABSENT SE_w21 g352 ex349 S_Tertium_NULL SE_w23 fx350) e311 ex349 (g := (mkF m 39 #[iv i0, iv i1, iv ((i0 &&& (2147483647 : Int32)) % (3 : Int32)), rv b347, .unset, .unset] [(.ref b347)])) rfl (by rw [hml]; rfl) (rest := []) (W := 0) (lenOf pd_3 rfl) rfl (by show 2 * 0 + _ ≤ _; exact Nat.le_of_eq rfl) (hb hby at_39) (by decide) (by decide) (by decide) (by decide)
        obtain ⟨h356, e356⟩ : ∃ z, T356.heap = z := ⟨_, rfl⟩
        rw [e356] at hQ356
        obtain ⟨b468, b469, rfl, Nq356, K356, bx470, ex471, fx472, bx473, ex474, fx475, nx476⟩ := hQ356
        have N356 := Fr.app N311 Nq356
        have E478 : Exa Z h311 b291 zs4 := (ex294.keep K311)
        have N477 : b291 ≠ b468 := Nat.ne_of_lt (Nat.lt_of_lt_of_le E478.lt bx470)
        have N479 : b347 ≠ b468 := Nat.ne_of_lt (Nat.lt_of_lt_of_le ex349.lt bx470)
        have g480 : n0 ≤ b468 := Nat.le_trans (own_old O467) bx470
        have Z482 : h0.size ≤ h311.size := (Nat.le_trans Z354 K311.1)
        have B481 : h0.size ≤ b468 := Nat.le_trans Z482 bx470
        have N483 : b291 ≠ b469 := Nat.ne_of_lt (Nat.lt_of_lt_of_le E478.lt bx473)
        have N484 : b347 ≠ b469 := Nat.ne_of_lt (Nat.lt_of_lt_of_le ex349.lt bx473)
        have g485 : n0 ≤ b469 := Nat.le_trans (own_old O467) bx473
        have B486 : h0.size ≤ b469 := Nat.le_trans Z482 bx473
        have hk487 : T356.heap.size ≤ h356.size := Nat.le_of_eq (congrArg Array.size e356)
        refine own_via (fun t k => st356 t k) ?_
        have O584 : Old Z n0 h356 := (O467.keep K356 all0)
        obtain ⟨_, T488, _, X488, hQ488, hS, hZ, hown, st488⟩ := own_csS X356 hx hZ hS hk487 hown (wd hw 22 rfl) (wd hw 23 rfl) (wd hw 24 rfl) (wd hw 3 rfl) (by decide) (rm34 l Z a0 hw [] b469 b468 b291 h356 n0 O584 fx475 ex474 ex471 fx472) e356 (g := (mkF m 42 #[iv i0, iv i1, iv ((i0 &&& (2147483647 : Int32)) % (3 : Int32)), rv b347, .unset, .unset] [(.ref b469)])) rfl (by rw [hml]; rfl) (rest := []) (W := 0) (lenOf pd_5 rfl) rfl (by show 2 * 0 + _ ≤ _; exact Nat.le_of_eq rfl) (hb hby at_42) (by decide) (by decide) (by decide) (by decide)
        obtain ⟨h488, e488⟩ : ∃ z, T488.heap = z := ⟨_, rfl⟩
        rw [e488] at hQ488
        obtain ⟨b585, rfl, Nq488, K488, bx586, ex587, fx588⟩ := hQ488
        have N488 := Fr.app N356 Nq488
        have E590 : Exa Z h356 b291 zs4 := (E478.keep K356)
        have N589 : b291 ≠ b585 := Nat.ne_of_lt (Nat.lt_of_lt_of_le E590.lt bx586)
        have E592 : Exa Z h356 b347 zs1 := (ex349.keep K356)
        have N591 : b347 ≠ b585 := Nat.ne_of_lt (Nat.lt_of_lt_of_le E592.lt bx586)
        have N593 : b468 ≠ b585 := Nat.ne_of_lt (Nat.lt_of_lt_of_le ex471.lt bx586)
        have N594 : b469 ≠ b585 := Nat.ne_of_lt (Nat.lt_of_lt_of_le ex474.lt bx586)
        have g595 : n0 ≤ b585 := Nat.le_trans (own_old O584) bx586
        have Z597 : h0.size ≤ h356.size := (Nat.le_trans Z482 K356.1)
        have B596 : h0.size ≤ b585 := Nat.le_trans Z597 bx586
        have hk598 : T488.heap.size ≤ h488.size := Nat.le_of_eq (congrArg Array.size e488)
        refine own_via (fun t k => st488 t (XS.astore X488.here hx rfl (hb hby at_45) rfl rfl (l' := #[iv i0, iv i1, iv ((i0 &&& (2147483647 : Int32)) % (3 : Int32)), rv b347, rv b585, .unset]) rfl (XS.iloadN X488.here hx rfl (hb hby at_47) rfl (XS.ifYes X488.here hx rfl (pc0 := 48) (pc' := 73) rfl (hb hby at_48) rfl ((if0 _ _).trans (feq hc35).2) (by decide) (by decide) (XS.iloadN X488.here hx rfl (hb hby at_73) rfl (XS.iconst X488.here hx rfl (hb hby at_74) (XS.icmpYes X488.here hx rfl (pc0 := 75) (pc' := 100) rfl (hb hby at_75) rfl (feq hc115).2 (by decide) (by decide) (XS.aload X488.here hx rfl (hb hby at_100) rfl rfl k)))))))) ?_
        show own_Goes p e below (T488.setTop (mkF m 102 #[iv i0, iv i1, iv ((i0 &&& (2147483647 : Int32)) % (3 : Int32)), rv b347, rv b585, .unset] [(.ref b585)])) _
        have O600 : Old Z n0 h488 := (O584.keep K488 all0)
        obtain ⟨_, T599, _, X599, hQ599, hS, hZ, hown, st599⟩ := own_cvS X488 hx hZ hS hk598 hown (wd hw 45 rfl) (wd hw 13 rfl) (wd hw 15 rfl) (wd hw 14 rfl) (wd hw 16 rfl) (wd hw 3 rfl) (by decide) (rm24 l Z a0 hw [] b585 w21 h488 n0 O600 S_Tertium_ABSENT SE_w21 g595) e488 ex587 (g := (mkF m 102 #[iv i0, iv i1, iv ((i0 &&& (2147483647 : Int32)) % (3 : Int32)), rv b347, rv b585, .unset] [(.ref b585)])) rfl (by rw [hml]; rfl) (rest := []) (W := 0) (lenOf pd_2 rfl) rfl (by show 2 * 0 + _ ≤ _; exact Nat.le_of_eq rfl) (hb hby at_102) (by decide) (by decide) (by decide) (by decide)
        obtain ⟨rfl, Nq599, hh601⟩ := hQ599
        have N599 := Fr.app N488 Nq599
        have hk602 : T599.heap.size ≤ h488.size := Nat.le_of_eq (congrArg Array.size hh601)
        refine own_via (fun t k => st599 t (XS.ifNo X599.here hx rfl (hb hby at_105) rfl ((if0 _ _).trans (teq (by decide : (0 : Int32) = (0 : Int32))).2) (XS.aload X599.here hx rfl (hb hby at_108) rfl rfl k))) ?_
        show own_Goes p e below (T599.setTop (mkF m 110 #[iv i0, iv i1, iv ((i0 &&& (2147483647 : Int32)) % (3 : Int32)), rv b347, rv b585, .unset] [(.ref b585)])) _
        obtain ⟨_, T603, _, X603, hQ603, hS, hZ, hown, st603⟩ := own_cvS X599 hx hZ hS hk602 hown (wd hw 46 rfl) (wd hw 47 rfl) (wd hw 49 rfl) (wd hw 48 rfl) (wd hw 50 rfl) (wd hw 3 rfl) (by decide) (rm25 l Z a0 hw [] b585 w23 h488 n0 O600 S_Tertium_NULL SE_w23 g595) hh601 ex587 (g := (mkF m 110 #[iv i0, iv i1, iv ((i0 &&& (2147483647 : Int32)) % (3 : Int32)), rv b347, rv b585, .unset] [(.ref b585)])) rfl (by rw [hml]; rfl) (rest := []) (W := 0) (lenOf pd_2 rfl) rfl (by show 2 * 0 + _ ≤ _; exact Nat.le_of_eq rfl) (hb hby at_110) (by decide) (by decide) (by decide) (by decide)
        obtain ⟨rfl, Nq603, hh604⟩ := hQ603
        have N603 := Fr.app N599 Nq603
        have hk605 : T603.heap.size ≤ h488.size := Nat.le_of_eq (congrArg Array.size hh604)
        refine own_via (fun t k => st603 t (XS.ifYes X603.here hx rfl (pc0 := 113) (pc' := 118) rfl (hb hby at_113) rfl ((if0 _ _).trans (teq (by decide : (0 : Int32) = (0 : Int32))).1) (by decide) (by decide) (XS.aload X603.here hx rfl (hb hby at_118) rfl rfl k))) ?_
        show own_Goes p e below (T603.setTop (mkF m 120 #[iv i0, iv i1, iv ((i0 &&& (2147483647 : Int32)) % (3 : Int32)), rv b347, rv b585, .unset] [(.ref b585)])) _
        obtain ⟨_, T606, _, X606, hQ606, hS, hZ, hown, st606⟩ := own_cvS X603 hx hZ hS hk605 hown (wd hw 99 rfl) (wd hw 100 rfl) (wd hw 102 rfl) (wd hw 101 rfl) (wd hw 103 rfl) (wd hw 3 rfl) (by decide) (rm35 l Z a0 hw [] b585 w21 b291 h488 n0 O600 S_Tertium_ABSENT SE_w21 g595 ex587 fx588) hh604 ex587 (g := (mkF m 120 #[iv i0, iv i1, iv ((i0 &&& (2147483647 : Int32)) % (3 : Int32)), rv b347, rv b585, .unset] [(.ref b585)])) rfl (by rw [hml]; rfl) (rest := []) (W := 0) (lenOf pd_6 rfl) rfl (by show 2 * 0 + _ ≤ _; exact Nat.le_of_eq rfl) (hb hby at_120) (by decide) (by decide) (by decide) (by decide)
        obtain ⟨rfl, Nq606, hh624⟩ := hQ606
        have N606 := Fr.app N603 Nq606
        have hk625 : T606.heap.size ≤ h488.size := Nat.le_of_eq (congrArg Array.size hh624)
        refine own_via (fun t k => st606 t k) ?_
        have E627 : Exa Z h488 b291 zs4 := (E590.keep K488)
        obtain ⟨T626, X626, e626, st626⟩ := castY X606 hx hZ hown (wd hw 104 rfl) hh624 (Ins.self E627) (g := (mkF m 123 #[iv i0, iv i1, iv ((i0 &&& (2147483647 : Int32)) % (3 : Int32)), rv b347, rv b585, .unset] [(.ref b291)])) rfl rfl (hb hby at_123)
        refine own_via (fun t k => st626 t (XS.astore X626.here hx rfl (hb hby at_126) rfl rfl (l' := #[iv i0, iv i1, iv ((i0 &&& (2147483647 : Int32)) % (3 : Int32)), rv b347, rv b585, rv b291]) rfl (XS.aload X626.here hx rfl (hb hby at_128) rfl rfl (XS.ifnullNo X626.here hx rfl (hb hby at_130) rfl (XS.aload X626.here hx rfl (hb hby at_133) rfl rfl k))))) ?_
        show own_Goes p e below (T626.setTop (mkF m 135 #[iv i0, iv i1, iv ((i0 &&& (2147483647 : Int32)) % (3 : Int32)), rv b347, rv b585, rv b291] [(.ref b291)])) _
        have F643 : Fld Z h488 b291 zs4 "value" "I" (.int i1) := (((fx295.keep K311 nin0).keep K356 nin0).keep K488 nin0)
        obtain ⟨_, T628, _, X628, hQ628, hS, hZ, hown, st628⟩ := own_cvS X626 hx hZ hS hk625 hown (wd hw 106 rfl) (wd hw 107 rfl) (wd hw 109 rfl) (wd hw 108 rfl) (wd hw 110 rfl) (wd hw 55 rfl) (by decide) (rm36 l Z a0 hw [] b291 i1 h488 n0 O600 F643) e626 E627 (g := (mkF m 135 #[iv i0, iv i1, iv ((i0 &&& (2147483647 : Int32)) % (3 : Int32)), rv b347, rv b585, rv b291] [(.ref b291)])) rfl (by rw [hml]; rfl) (rest := []) (W := 0) (lenOf pd_14 rfl) rfl (by show 2 * 0 + _ ≤ _; exact Nat.le_of_eq rfl) (hb hby at_135) (by decide) (by decide) (by decide) (by decide)
        obtain ⟨rfl, Nq628, hh644⟩ := hQ628
        have N628 := Fr.app N606 Nq628
        have hk645 : T628.heap.size ≤ h488.size := Nat.le_of_eq (congrArg Array.size hh644)
        refine own_via (fun t k => st628 t (XS.iloadN X628.here hx rfl (hb hby at_138) rfl (XS.icmpNo X628.here hx rfl (hb hby at_139) rfl (teq (rfl : i1 = i1)).2 (XS.iconst X628.here hx rfl (hb hby at_142) (XS.goto X628.here hx rfl (pc0 := 143) (pc' := 147) rfl (hb hby at_143) (by decide) (by decide) k))))) ?_
        show own_Goes p e below (T628.setTop (mkF m 147 #[iv i0, iv i1, iv ((i0 &&& (2147483647 : Int32)) % (3 : Int32)), rv b347, rv b585, rv b291] [(.int (1 : Int32))])) _
        obtain ⟨fs, hr, hrun, hended, hRW⟩ := X628.leaveW hS (by rw [hh644]; first | exact hk645 | exact Nat.le_refl _) (v := some (.int (1 : Int32))) (fun h => by rw [Bd.returns] at h; cases h)
        refine own_end (t := T628.setFrames fs) ?_ ⟨_, hrun, hended, _, _, rfl, ?_, own_rmono hRW (by decide) (by decide)⟩
        · exact retN X628 hx (t := .boolean) Bd.returns (by simp) (hb hby at_147) hr
        · exact ⟨rfl, N628⟩
      · have N228 := Fr.app N0 Nq228
        have g646 : n0 ≤ b296 := Nat.le_trans (own_old O0) bx299
        have B647 : h0.size ≤ b296 := Nat.le_trans (Nat.le_refl _) bx299
        have hk648 : T228.heap.size ≤ h228.size := Nat.le_of_eq (congrArg Array.size e228)
        refine own_via (fun t k => st228 t k) ?_
        have O650 : Old Z n0 h228 := (O0.keep K228 all0)
        obtain ⟨_, T649, _, X649, hQ649, hS, hZ, hown, st649⟩ := own_csS X228 hx hZ hS hk648 hown (wd hw 60 rfl) (wd hw 61 rfl) (wd hw 62 rfl) (wd hw 3 rfl) (by decide) (rm23 l Z a0 hw [] b296 h228 n0 O650 ) e228 (g := (mkF m 34 #[iv i0, iv i1, iv ((i0 &&& (2147483647 : Int32)) % (3 : Int32)), .unset, .unset, .unset] [(.ref b296)])) rfl (by rw [hml]; rfl) (rest := []) (W := 0) (lenOf pd_8 rfl) rfl (by show 2 * 0 + _ ≤ _; exact Nat.le_of_eq rfl) (hb hby at_34) (by decide) (by decide) (by decide) (by decide)
        obtain ⟨h649, e649⟩ : ∃ z, T649.heap = z := ⟨_, rfl⟩
        rw [e649] at hQ649
        obtain ⟨b651, rfl, Nq649, K649, bx652, ex653, fx654⟩ := hQ649
        have N649 := Fr.app N228 Nq649
        have N655 : b296 ≠ b651 := Nat.ne_of_lt (Nat.lt_of_lt_of_le ex300.lt bx652)
        have g656 : n0 ≤ b651 := Nat.le_trans (own_old O650) bx652
        have Z658 : h0.size ≤ h228.size := (Nat.le_trans (Nat.le_refl _) K228.1)
        have B657 : h0.size ≤ b651 := Nat.le_trans Z658 bx652
        have hk659 : T649.heap.size ≤ h649.size := Nat.le_of_eq (congrArg Array.size e649)
        refine own_via (fun t k => st649 t (XS.astoreN X649.here hx rfl (hb hby at_37) rfl rfl (l' := #[iv i0, iv i1, iv ((i0 &&& (2147483647 : Int32)) % (3 : Int32)), rv b651, .unset, .unset]) rfl (XS.aloadN X649.here hx rfl (hb hby at_38) rfl rfl k))) ?_
        show own_Goes p e below (T649.setTop (mkF m 39 #[iv i0, iv i1, iv ((i0 &&& (2147483647 : Int32)) % (3 : Int32)), rv b651, .unset, .unset] [(.ref b651)])) _
        have O661 : Old Z n0 h649 := (O650.keep K649 all0)
        obtain ⟨_, T660, _, X660, hQ660, hS, hZ, hown, st660⟩ := own_cvS X649 hx hZ hS hk659 hown (wd hw 7 rfl) (wd hw 8 rfl) (wd hw 10 rfl) (wd hw 9 rfl) (wd hw 11 rfl) (wd hw 3 rfl) (by decide) (rm29 l Z a0 hw [] b651 w21 w23 b296 h649 n0 O661 S_Tertium_ABSENT SE_w21 g656 ex653 S_Tertium_NULL SE_w23 fx654) e649 ex653 (g := (mkF m 39 #[iv i0, iv i1, iv ((i0 &&& (2147483647 : Int32)) % (3 : Int32)), rv b651, .unset, .unset] [(.ref b651)])) rfl (by rw [hml]; rfl) (rest := []) (W := 0) (lenOf pd_3 rfl) rfl (by show 2 * 0 + _ ≤ _; exact Nat.le_of_eq rfl) (hb hby at_39) (by decide) (by decide) (by decide) (by decide)
        obtain ⟨h660, e660⟩ : ∃ z, T660.heap = z := ⟨_, rfl⟩
        rw [e660] at hQ660
        obtain ⟨b662, b663, rfl, Nq660, K660, bx664, ex665, fx666, bx667, ex668, fx669, nx670⟩ := hQ660
        have N660 := Fr.app N649 Nq660
        have E672 : Exa Z h649 b296 zs4 := (ex300.keep K649)
        have N671 : b296 ≠ b662 := Nat.ne_of_lt (Nat.lt_of_lt_of_le E672.lt bx664)
        have N673 : b651 ≠ b662 := Nat.ne_of_lt (Nat.lt_of_lt_of_le ex653.lt bx664)
        have g674 : n0 ≤ b662 := Nat.le_trans (own_old O661) bx664
        have Z676 : h0.size ≤ h649.size := (Nat.le_trans Z658 K649.1)
        have B675 : h0.size ≤ b662 := Nat.le_trans Z676 bx664
        have N677 : b296 ≠ b663 := Nat.ne_of_lt (Nat.lt_of_lt_of_le E672.lt bx667)
        have N678 : b651 ≠ b663 := Nat.ne_of_lt (Nat.lt_of_lt_of_le ex653.lt bx667)
        have g679 : n0 ≤ b663 := Nat.le_trans (own_old O661) bx667
        have B680 : h0.size ≤ b663 := Nat.le_trans Z676 bx667
        have hk681 : T660.heap.size ≤ h660.size := Nat.le_of_eq (congrArg Array.size e660)
        refine own_via (fun t k => st660 t k) ?_
        have O683 : Old Z n0 h660 := (O661.keep K660 all0)
        obtain ⟨_, T682, _, X682, hQ682, hS, hZ, hown, st682⟩ := own_csS X660 hx hZ hS hk681 hown (wd hw 22 rfl) (wd hw 23 rfl) (wd hw 24 rfl) (wd hw 3 rfl) (by decide) (rm34 l Z a0 hw [] b663 b662 b296 h660 n0 O683 fx669 ex668 ex665 fx666) e660 (g := (mkF m 42 #[iv i0, iv i1, iv ((i0 &&& (2147483647 : Int32)) % (3 : Int32)), rv b651, .unset, .unset] [(.ref b663)])) rfl (by rw [hml]; rfl) (rest := []) (W := 0) (lenOf pd_5 rfl) rfl (by show 2 * 0 + _ ≤ _; exact Nat.le_of_eq rfl) (hb hby at_42) (by decide) (by decide) (by decide) (by decide)
        obtain ⟨h682, e682⟩ : ∃ z, T682.heap = z := ⟨_, rfl⟩
        rw [e682] at hQ682
        obtain ⟨b684, rfl, Nq682, K682, bx685, ex686, fx687⟩ := hQ682
        have N682 := Fr.app N660 Nq682
        have E689 : Exa Z h660 b296 zs4 := (E672.keep K660)
        have N688 : b296 ≠ b684 := Nat.ne_of_lt (Nat.lt_of_lt_of_le E689.lt bx685)
        have E691 : Exa Z h660 b651 zs1 := (ex653.keep K660)
        have N690 : b651 ≠ b684 := Nat.ne_of_lt (Nat.lt_of_lt_of_le E691.lt bx685)
        have N692 : b662 ≠ b684 := Nat.ne_of_lt (Nat.lt_of_lt_of_le ex665.lt bx685)
        have N693 : b663 ≠ b684 := Nat.ne_of_lt (Nat.lt_of_lt_of_le ex668.lt bx685)
        have g694 : n0 ≤ b684 := Nat.le_trans (own_old O683) bx685
        have Z696 : h0.size ≤ h660.size := (Nat.le_trans Z676 K660.1)
        have B695 : h0.size ≤ b684 := Nat.le_trans Z696 bx685
        have hk697 : T682.heap.size ≤ h682.size := Nat.le_of_eq (congrArg Array.size e682)
        refine own_via (fun t k => st682 t (XS.astore X682.here hx rfl (hb hby at_45) rfl rfl (l' := #[iv i0, iv i1, iv ((i0 &&& (2147483647 : Int32)) % (3 : Int32)), rv b651, rv b684, .unset]) rfl (XS.iloadN X682.here hx rfl (hb hby at_47) rfl (XS.ifYes X682.here hx rfl (pc0 := 48) (pc' := 73) rfl (hb hby at_48) rfl ((if0 _ _).trans (feq hc35).2) (by decide) (by decide) (XS.iloadN X682.here hx rfl (hb hby at_73) rfl (XS.iconst X682.here hx rfl (hb hby at_74) (XS.icmpYes X682.here hx rfl (pc0 := 75) (pc' := 100) rfl (hb hby at_75) rfl (feq hc115).2 (by decide) (by decide) (XS.aload X682.here hx rfl (hb hby at_100) rfl rfl k)))))))) ?_
        show own_Goes p e below (T682.setTop (mkF m 102 #[iv i0, iv i1, iv ((i0 &&& (2147483647 : Int32)) % (3 : Int32)), rv b651, rv b684, .unset] [(.ref b684)])) _
        have O699 : Old Z n0 h682 := (O683.keep K682 all0)
        obtain ⟨_, T698, _, X698, hQ698, hS, hZ, hown, st698⟩ := own_cvS X682 hx hZ hS hk697 hown (wd hw 45 rfl) (wd hw 13 rfl) (wd hw 15 rfl) (wd hw 14 rfl) (wd hw 16 rfl) (wd hw 3 rfl) (by decide) (rm24 l Z a0 hw [] b684 w21 h682 n0 O699 S_Tertium_ABSENT SE_w21 g694) e682 ex686 (g := (mkF m 102 #[iv i0, iv i1, iv ((i0 &&& (2147483647 : Int32)) % (3 : Int32)), rv b651, rv b684, .unset] [(.ref b684)])) rfl (by rw [hml]; rfl) (rest := []) (W := 0) (lenOf pd_2 rfl) rfl (by show 2 * 0 + _ ≤ _; exact Nat.le_of_eq rfl) (hb hby at_102) (by decide) (by decide) (by decide) (by decide)
        obtain ⟨rfl, Nq698, hh700⟩ := hQ698
        have N698 := Fr.app N682 Nq698
        have hk701 : T698.heap.size ≤ h682.size := Nat.le_of_eq (congrArg Array.size hh700)
        refine own_via (fun t k => st698 t (XS.ifNo X698.here hx rfl (hb hby at_105) rfl ((if0 _ _).trans (teq (by decide : (0 : Int32) = (0 : Int32))).2) (XS.aload X698.here hx rfl (hb hby at_108) rfl rfl k))) ?_
        show own_Goes p e below (T698.setTop (mkF m 110 #[iv i0, iv i1, iv ((i0 &&& (2147483647 : Int32)) % (3 : Int32)), rv b651, rv b684, .unset] [(.ref b684)])) _
        obtain ⟨_, T702, _, X702, hQ702, hS, hZ, hown, st702⟩ := own_cvS X698 hx hZ hS hk701 hown (wd hw 46 rfl) (wd hw 47 rfl) (wd hw 49 rfl) (wd hw 48 rfl) (wd hw 50 rfl) (wd hw 3 rfl) (by decide) (rm25 l Z a0 hw [] b684 w23 h682 n0 O699 S_Tertium_NULL SE_w23 g694) hh700 ex686 (g := (mkF m 110 #[iv i0, iv i1, iv ((i0 &&& (2147483647 : Int32)) % (3 : Int32)), rv b651, rv b684, .unset] [(.ref b684)])) rfl (by rw [hml]; rfl) (rest := []) (W := 0) (lenOf pd_2 rfl) rfl (by show 2 * 0 + _ ≤ _; exact Nat.le_of_eq rfl) (hb hby at_110) (by decide) (by decide) (by decide) (by decide)
        obtain ⟨rfl, Nq702, hh703⟩ := hQ702
        have N702 := Fr.app N698 Nq702
        have hk704 : T702.heap.size ≤ h682.size := Nat.le_of_eq (congrArg Array.size hh703)
        refine own_via (fun t k => st702 t (XS.ifYes X702.here hx rfl (pc0 := 113) (pc' := 118) rfl (hb hby at_113) rfl ((if0 _ _).trans (teq (by decide : (0 : Int32) = (0 : Int32))).1) (by decide) (by decide) (XS.aload X702.here hx rfl (hb hby at_118) rfl rfl k))) ?_
        show own_Goes p e below (T702.setTop (mkF m 120 #[iv i0, iv i1, iv ((i0 &&& (2147483647 : Int32)) % (3 : Int32)), rv b651, rv b684, .unset] [(.ref b684)])) _
        obtain ⟨_, T705, _, X705, hQ705, hS, hZ, hown, st705⟩ := own_cvS X702 hx hZ hS hk704 hown (wd hw 99 rfl) (wd hw 100 rfl) (wd hw 102 rfl) (wd hw 101 rfl) (wd hw 103 rfl) (wd hw 3 rfl) (by decide) (rm35 l Z a0 hw [] b684 w21 b296 h682 n0 O699 S_Tertium_ABSENT SE_w21 g694 ex686 fx687) hh703 ex686 (g := (mkF m 120 #[iv i0, iv i1, iv ((i0 &&& (2147483647 : Int32)) % (3 : Int32)), rv b651, rv b684, .unset] [(.ref b684)])) rfl (by rw [hml]; rfl) (rest := []) (W := 0) (lenOf pd_6 rfl) rfl (by show 2 * 0 + _ ≤ _; exact Nat.le_of_eq rfl) (hb hby at_120) (by decide) (by decide) (by decide) (by decide)
        obtain ⟨rfl, Nq705, hh706⟩ := hQ705
        have N705 := Fr.app N702 Nq705
        have hk707 : T705.heap.size ≤ h682.size := Nat.le_of_eq (congrArg Array.size hh706)
        refine own_via (fun t k => st705 t k) ?_
        have E709 : Exa Z h682 b296 zs4 := (E689.keep K682)
        obtain ⟨T708, X708, e708, st708⟩ := castY X705 hx hZ hown (wd hw 104 rfl) hh706 (Ins.self E709) (g := (mkF m 123 #[iv i0, iv i1, iv ((i0 &&& (2147483647 : Int32)) % (3 : Int32)), rv b651, rv b684, .unset] [(.ref b296)])) rfl rfl (hb hby at_123)
        refine own_via (fun t k => st708 t (XS.astore X708.here hx rfl (hb hby at_126) rfl rfl (l' := #[iv i0, iv i1, iv ((i0 &&& (2147483647 : Int32)) % (3 : Int32)), rv b651, rv b684, rv b296]) rfl (XS.aload X708.here hx rfl (hb hby at_128) rfl rfl (XS.ifnullNo X708.here hx rfl (hb hby at_130) rfl (XS.aload X708.here hx rfl (hb hby at_133) rfl rfl k))))) ?_
        show own_Goes p e below (T708.setTop (mkF m 135 #[iv i0, iv i1, iv ((i0 &&& (2147483647 : Int32)) % (3 : Int32)), rv b651, rv b684, rv b296] [(.ref b296)])) _
        have F711 : Fld Z h682 b296 zs4 "value" "I" (.int i1) := (((fx301.keep K649 nin0).keep K660 nin0).keep K682 nin0)
        obtain ⟨_, T710, _, X710, hQ710, hS, hZ, hown, st710⟩ := own_cvS X708 hx hZ hS hk707 hown (wd hw 106 rfl) (wd hw 107 rfl) (wd hw 109 rfl) (wd hw 108 rfl) (wd hw 110 rfl) (wd hw 55 rfl) (by decide) (rm36 l Z a0 hw [] b296 i1 h682 n0 O699 F711) e708 E709 (g := (mkF m 135 #[iv i0, iv i1, iv ((i0 &&& (2147483647 : Int32)) % (3 : Int32)), rv b651, rv b684, rv b296] [(.ref b296)])) rfl (by rw [hml]; rfl) (rest := []) (W := 0) (lenOf pd_14 rfl) rfl (by show 2 * 0 + _ ≤ _; exact Nat.le_of_eq rfl) (hb hby at_135) (by decide) (by decide) (by decide) (by decide)
        obtain ⟨rfl, Nq710, hh712⟩ := hQ710
        have N710 := Fr.app N705 Nq710
        have hk713 : T710.heap.size ≤ h682.size := Nat.le_of_eq (congrArg Array.size hh712)
        refine own_via (fun t k => st710 t (XS.iloadN X710.here hx rfl (hb hby at_138) rfl (XS.icmpNo X710.here hx rfl (hb hby at_139) rfl (teq (rfl : i1 = i1)).2 (XS.iconst X710.here hx rfl (hb hby at_142) (XS.goto X710.here hx rfl (pc0 := 143) (pc' := 147) rfl (hb hby at_143) (by decide) (by decide) k))))) ?_
        show own_Goes p e below (T710.setTop (mkF m 147 #[iv i0, iv i1, iv ((i0 &&& (2147483647 : Int32)) % (3 : Int32)), rv b651, rv b684, rv b296] [(.int (1 : Int32))])) _
        obtain ⟨fs, hr, hrun, hended, hRW⟩ := X710.leaveW hS (by rw [hh712]; first | exact hk713 | exact Nat.le_refl _) (v := some (.int (1 : Int32))) (fun h => by rw [Bd.returns] at h; cases h)
        refine own_end (t := T710.setFrames fs) ?_ ⟨_, hrun, hended, _, _, rfl, ?_, own_rmono hRW (by decide) (by decide)⟩
        · exact retN X710 hx (t := .boolean) Bd.returns (by simp) (hb hby at_147) hr
        · exact ⟨rfl, N710⟩
      · have N228 := Fr.app N0 Nq228
        have hk714 : T228.heap.size ≤ h0.size := Nat.le_of_eq (congrArg Array.size (e228.trans hh307))
        refine own_via (fun t k => st228 t k) ?_
        obtain ⟨_, T715, _, X715, hQ715, hS, hZ, hown, st715⟩ := own_csS X228 hx hZ hS hk714 hown (wd hw 60 rfl) (wd hw 61 rfl) (wd hw 62 rfl) (wd hw 3 rfl) (by decide) (rm38 l Z a0 hw [] b302 h0 n0 O0 ) (e228.trans hh307) (g := (mkF m 34 #[iv i0, iv i1, iv ((i0 &&& (2147483647 : Int32)) % (3 : Int32)), .unset, .unset, .unset] [(.ref b302)])) rfl (by rw [hml]; rfl) (rest := []) (W := 0) (lenOf pd_8 rfl) rfl (by show 2 * 0 + _ ≤ _; exact Nat.le_of_eq rfl) (hb hby at_34) (by decide) (by decide) (by decide) (by decide)
        obtain ⟨h715, e715⟩ : ∃ z, T715.heap = z := ⟨_, rfl⟩
        rw [e715] at hQ715
        obtain ⟨b750, rfl, Nq715, K715, bx751, ex752, fx753⟩ := hQ715
        have N715 := Fr.app N228 Nq715
        have g754 : n0 ≤ b750 := Nat.le_trans (own_old O0) bx751
        have B755 : h0.size ≤ b750 := Nat.le_trans (Nat.le_refl _) bx751
        have hk756 : T715.heap.size ≤ h715.size := Nat.le_of_eq (congrArg Array.size e715)
        refine own_via (fun t k => st715 t (XS.astoreN X715.here hx rfl (hb hby at_37) rfl rfl (l' := #[iv i0, iv i1, iv ((i0 &&& (2147483647 : Int32)) % (3 : Int32)), rv b750, .unset, .unset]) rfl (XS.aloadN X715.here hx rfl (hb hby at_38) rfl rfl k))) ?_
        show own_Goes p e below (T715.setTop (mkF m 39 #[iv i0, iv i1, iv ((i0 &&& (2147483647 : Int32)) % (3 : Int32)), rv b750, .unset, .unset] [(.ref b750)])) _
        have O846 : Old Z n0 h715 := (O0.keep K715 all0)
        obtain ⟨_, T757, _, X757, hQ757, hS, hZ, hown, st757⟩ := own_cvS X715 hx hZ hS hk756 hown (wd hw 7 rfl) (wd hw 8 rfl) (wd hw 10 rfl) (wd hw 9 rfl) (wd hw 11 rfl) (wd hw 3 rfl) (by decide) (rm42 l Z a0 hw [] b750 w21 w23 b302 h715 n0 O846 S_Tertium_ABSENT SE_w21 g754 ex752 S_Tertium_NULL SE_w23 fx753) e715 ex752 (g := (mkF m 39 #[iv i0, iv i1, iv ((i0 &&& (2147483647 : Int32)) % (3 : Int32)), rv b750, .unset, .unset] [(.ref b750)])) rfl (by rw [hml]; rfl) (rest := []) (W := 0) (lenOf pd_3 rfl) rfl (by show 2 * 0 + _ ≤ _; exact Nat.le_of_eq rfl) (hb hby at_39) (by decide) (by decide) (by decide) (by decide)
        obtain ⟨h757, e757⟩ : ∃ z, T757.heap = z := ⟨_, rfl⟩
        rw [e757] at hQ757
        obtain ⟨b847, b848, rfl, Nq757, K757, bx849, ex850, fx851, bx852, ex853, fx854, nx855⟩ := hQ757
        have N757 := Fr.app N715 Nq757
        have N856 : b750 ≠ b847 := Nat.ne_of_lt (Nat.lt_of_lt_of_le ex752.lt bx849)
        have g857 : n0 ≤ b847 := Nat.le_trans (own_old O846) bx849
        have Z859 : h0.size ≤ h715.size := (Nat.le_trans (Nat.le_refl _) K715.1)
        have B858 : h0.size ≤ b847 := Nat.le_trans Z859 bx849
        have N860 : b750 ≠ b848 := Nat.ne_of_lt (Nat.lt_of_lt_of_le ex752.lt bx852)
        have g861 : n0 ≤ b848 := Nat.le_trans (own_old O846) bx852
        have B862 : h0.size ≤ b848 := Nat.le_trans Z859 bx852
        have hk863 : T757.heap.size ≤ h757.size := Nat.le_of_eq (congrArg Array.size e757)
        refine own_via (fun t k => st757 t k) ?_
        have O920 : Old Z n0 h757 := (O846.keep K757 all0)
        obtain ⟨_, T864, _, X864, hQ864, hS, hZ, hown, st864⟩ := own_csS X757 hx hZ hS hk863 hown (wd hw 22 rfl) (wd hw 23 rfl) (wd hw 24 rfl) (wd hw 3 rfl) (by decide) (rm44 l Z a0 hw [] b848 b847 b302 h757 n0 O920 fx854 ex853 ex850 fx851) e757 (g := (mkF m 42 #[iv i0, iv i1, iv ((i0 &&& (2147483647 : Int32)) % (3 : Int32)), rv b750, .unset, .unset] [(.ref b848)])) rfl (by rw [hml]; rfl) (rest := []) (W := 0) (lenOf pd_5 rfl) rfl (by show 2 * 0 + _ ≤ _; exact Nat.le_of_eq rfl) (hb hby at_42) (by decide) (by decide) (by decide) (by decide)
        obtain ⟨h864, e864⟩ : ∃ z, T864.heap = z := ⟨_, rfl⟩
        rw [e864] at hQ864
        obtain ⟨b921, rfl, Nq864, K864, bx922, ex923, fx924⟩ := hQ864
        have N864 := Fr.app N757 Nq864
        have E926 : Exa Z h757 b750 zs1 := (ex752.keep K757)
        have N925 : b750 ≠ b921 := Nat.ne_of_lt (Nat.lt_of_lt_of_le E926.lt bx922)
        have N927 : b847 ≠ b921 := Nat.ne_of_lt (Nat.lt_of_lt_of_le ex850.lt bx922)
        have N928 : b848 ≠ b921 := Nat.ne_of_lt (Nat.lt_of_lt_of_le ex853.lt bx922)
        have g929 : n0 ≤ b921 := Nat.le_trans (own_old O920) bx922
        have Z931 : h0.size ≤ h757.size := (Nat.le_trans Z859 K757.1)
        have B930 : h0.size ≤ b921 := Nat.le_trans Z931 bx922
        have hk932 : T864.heap.size ≤ h864.size := Nat.le_of_eq (congrArg Array.size e864)
        refine own_via (fun t k => st864 t (XS.astore X864.here hx rfl (hb hby at_45) rfl rfl (l' := #[iv i0, iv i1, iv ((i0 &&& (2147483647 : Int32)) % (3 : Int32)), rv b750, rv b921, .unset]) rfl (XS.iloadN X864.here hx rfl (hb hby at_47) rfl (XS.ifYes X864.here hx rfl (pc0 := 48) (pc' := 73) rfl (hb hby at_48) rfl ((if0 _ _).trans (feq hc35).2) (by decide) (by decide) (XS.iloadN X864.here hx rfl (hb hby at_73) rfl (XS.iconst X864.here hx rfl (hb hby at_74) (XS.icmpYes X864.here hx rfl (pc0 := 75) (pc' := 100) rfl (hb hby at_75) rfl (feq hc115).2 (by decide) (by decide) (XS.aload X864.here hx rfl (hb hby at_100) rfl rfl k)))))))) ?_
        show own_Goes p e below (T864.setTop (mkF m 102 #[iv i0, iv i1, iv ((i0 &&& (2147483647 : Int32)) % (3 : Int32)), rv b750, rv b921, .unset] [(.ref b921)])) _
        have O934 : Old Z n0 h864 := (O920.keep K864 all0)
        obtain ⟨_, T933, _, X933, hQ933, hS, hZ, hown, st933⟩ := own_cvS X864 hx hZ hS hk932 hown (wd hw 45 rfl) (wd hw 13 rfl) (wd hw 15 rfl) (wd hw 14 rfl) (wd hw 16 rfl) (wd hw 3 rfl) (by decide) (rm24 l Z a0 hw [] b921 w21 h864 n0 O934 S_Tertium_ABSENT SE_w21 g929) e864 ex923 (g := (mkF m 102 #[iv i0, iv i1, iv ((i0 &&& (2147483647 : Int32)) % (3 : Int32)), rv b750, rv b921, .unset] [(.ref b921)])) rfl (by rw [hml]; rfl) (rest := []) (W := 0) (lenOf pd_2 rfl) rfl (by show 2 * 0 + _ ≤ _; exact Nat.le_of_eq rfl) (hb hby at_102) (by decide) (by decide) (by decide) (by decide)
        obtain ⟨rfl, Nq933, hh935⟩ := hQ933
        have N933 := Fr.app N864 Nq933
        have hk936 : T933.heap.size ≤ h864.size := Nat.le_of_eq (congrArg Array.size hh935)
        refine own_via (fun t k => st933 t (XS.ifNo X933.here hx rfl (hb hby at_105) rfl ((if0 _ _).trans (teq (by decide : (0 : Int32) = (0 : Int32))).2) (XS.aload X933.here hx rfl (hb hby at_108) rfl rfl k))) ?_
        show own_Goes p e below (T933.setTop (mkF m 110 #[iv i0, iv i1, iv ((i0 &&& (2147483647 : Int32)) % (3 : Int32)), rv b750, rv b921, .unset] [(.ref b921)])) _
        obtain ⟨_, T937, _, X937, hQ937, hS, hZ, hown, st937⟩ := own_cvS X933 hx hZ hS hk936 hown (wd hw 46 rfl) (wd hw 47 rfl) (wd hw 49 rfl) (wd hw 48 rfl) (wd hw 50 rfl) (wd hw 3 rfl) (by decide) (rm25 l Z a0 hw [] b921 w23 h864 n0 O934 S_Tertium_NULL SE_w23 g929) hh935 ex923 (g := (mkF m 110 #[iv i0, iv i1, iv ((i0 &&& (2147483647 : Int32)) % (3 : Int32)), rv b750, rv b921, .unset] [(.ref b921)])) rfl (by rw [hml]; rfl) (rest := []) (W := 0) (lenOf pd_2 rfl) rfl (by show 2 * 0 + _ ≤ _; exact Nat.le_of_eq rfl) (hb hby at_110) (by decide) (by decide) (by decide) (by decide)
        obtain ⟨rfl, Nq937, hh938⟩ := hQ937
        have N937 := Fr.app N933 Nq937
        have hk939 : T937.heap.size ≤ h864.size := Nat.le_of_eq (congrArg Array.size hh938)
        refine own_via (fun t k => st937 t (XS.ifYes X937.here hx rfl (pc0 := 113) (pc' := 118) rfl (hb hby at_113) rfl ((if0 _ _).trans (teq (by decide : (0 : Int32) = (0 : Int32))).1) (by decide) (by decide) (XS.aload X937.here hx rfl (hb hby at_118) rfl rfl k))) ?_
        show own_Goes p e below (T937.setTop (mkF m 120 #[iv i0, iv i1, iv ((i0 &&& (2147483647 : Int32)) % (3 : Int32)), rv b750, rv b921, .unset] [(.ref b921)])) _
        obtain ⟨_, T940, _, X940, hQ940, hS, hZ, hown, st940⟩ := own_cvS X937 hx hZ hS hk939 hown (wd hw 99 rfl) (wd hw 100 rfl) (wd hw 102 rfl) (wd hw 101 rfl) (wd hw 103 rfl) (wd hw 3 rfl) (by decide) (rm45 l Z a0 hw [] b921 w21 b302 h864 n0 O934 S_Tertium_ABSENT SE_w21 g929 ex923 fx924) hh938 ex923 (g := (mkF m 120 #[iv i0, iv i1, iv ((i0 &&& (2147483647 : Int32)) % (3 : Int32)), rv b750, rv b921, .unset] [(.ref b921)])) rfl (by rw [hml]; rfl) (rest := []) (W := 0) (lenOf pd_6 rfl) rfl (by show 2 * 0 + _ ≤ _; exact Nat.le_of_eq rfl) (hb hby at_120) (by decide) (by decide) (by decide) (by decide)
        obtain ⟨rfl, Nq940, hh958⟩ := hQ940
        have N940 := Fr.app N937 Nq940
        have hk959 : T940.heap.size ≤ h864.size := Nat.le_of_eq (congrArg Array.size hh958)
        refine own_via (fun t k => st940 t k) ?_
        obtain ⟨T960, X960, e960, st960⟩ := castY X940 hx hZ hown (wd hw 104 rfl) hh958 (Ins.self (sx305.ext O934.2)) (g := (mkF m 123 #[iv i0, iv i1, iv ((i0 &&& (2147483647 : Int32)) % (3 : Int32)), rv b750, rv b921, .unset] [(.ref b302)])) rfl rfl (hb hby at_123)
        refine own_via (fun t k => st960 t (XS.astore X960.here hx rfl (hb hby at_126) rfl rfl (l' := #[iv i0, iv i1, iv ((i0 &&& (2147483647 : Int32)) % (3 : Int32)), rv b750, rv b921, rv b302]) rfl (XS.aload X960.here hx rfl (hb hby at_128) rfl rfl (XS.ifnullNo X960.here hx rfl (hb hby at_130) rfl (XS.aload X960.here hx rfl (hb hby at_133) rfl rfl k))))) ?_
        show own_Goes p e below (T960.setTop (mkF m 135 #[iv i0, iv i1, iv ((i0 &&& (2147483647 : Int32)) % (3 : Int32)), rv b750, rv b921, rv b302] [(.ref b302)])) _
        obtain ⟨_, T961, _, X961, hQ961, hS, hZ, hown, st961⟩ := own_cvS X960 hx hZ hS hk959 hown (wd hw 106 rfl) (wd hw 107 rfl) (wd hw 109 rfl) (wd hw 108 rfl) (wd hw 110 rfl) (wd hw 55 rfl) (by decide) (rm46 l Z a0 hw [] b302 i1 h864 n0 O934 sx306) e960 (sx305.ext O934.2) (g := (mkF m 135 #[iv i0, iv i1, iv ((i0 &&& (2147483647 : Int32)) % (3 : Int32)), rv b750, rv b921, rv b302] [(.ref b302)])) rfl (by rw [hml]; rfl) (rest := []) (W := 0) (lenOf pd_14 rfl) rfl (by show 2 * 0 + _ ≤ _; exact Nat.le_of_eq rfl) (hb hby at_135) (by decide) (by decide) (by decide) (by decide)
        obtain ⟨rfl, Nq961, hh976⟩ := hQ961
        have N961 := Fr.app N940 Nq961
        have hk977 : T961.heap.size ≤ h864.size := Nat.le_of_eq (congrArg Array.size hh976)
        refine own_via (fun t k => st961 t (XS.iloadN X961.here hx rfl (hb hby at_138) rfl (XS.icmpNo X961.here hx rfl (hb hby at_139) rfl (teq (rfl : i1 = i1)).2 (XS.iconst X961.here hx rfl (hb hby at_142) (XS.goto X961.here hx rfl (pc0 := 143) (pc' := 147) rfl (hb hby at_143) (by decide) (by decide) k))))) ?_
        show own_Goes p e below (T961.setTop (mkF m 147 #[iv i0, iv i1, iv ((i0 &&& (2147483647 : Int32)) % (3 : Int32)), rv b750, rv b921, rv b302] [(.int (1 : Int32))])) _
        obtain ⟨fs, hr, hrun, hended, hRW⟩ := X961.leaveW hS (by rw [hh976]; first | exact hk977 | exact Nat.le_refl _) (v := some (.int (1 : Int32))) (fun h => by rw [Bd.returns] at h; cases h)
        refine own_end (t := T961.setFrames fs) ?_ ⟨_, hrun, hended, _, _, rfl, ?_, own_rmono hRW (by decide) (by decide)⟩
        · exact retN X961 hx (t := .boolean) Bd.returns (by simp) (hb hby at_147) hr
        · exact ⟨rfl, N961⟩
set_option maxRecDepth 65536 in
set_option maxHeartbeats 40000000 in
theorem comes_1 {Post : Tables → Env → Array Value → State → Outcome → State → Prop} (hpost : ∀ tb e args s v u, (limb_1_1.after args s (.returned v) u = true ∧ limb_1_2.after args s (.returned v) u = true ∧ True) → ReturnedEndW s (.returned v) u (Jvm.fieldLocs frame_1_writes args s ++ Jvm.arrayLocs frame_1_arrays args s ++ Jvm.staticLocs frame_1_statics s) 24 1152 → Post tb e args s (.returned v) u) :
    ArmFor flags0 classFile x code maxLocals ret World_1 tables_1 room_1 Calls_1 rest_1 Pre_1 Post := by
  intro l hfl _ _ p e ha hc hk s m args below hf hA hF happ hP
  obtain ⟨hcalls, hrest, hpre⟩ := hP
  obtain ⟨-, -, -, hnamed, -, -, -, hat⟩ := (Spec.applies_iff hf).mp happ
  obtain ⟨hg, hn⟩ := and_e (Cond.before_iff.mp (show (Jvm.Cond.and given_1 narrow_1).before args s = true from hpre))
  obtain ⟨g978, g979⟩ := and_e hg
  obtain ⟨g980, g981⟩ := and_e g979
  obtain ⟨w0, w1, rfl⟩ : ∃ w0 w1 : Value, args = #[w0, w1] := by
    have hs : args.size = 2 := by simpa [Cond.value, given_1] using g978
    obtain ⟨L⟩ := args
    match L, hs with
    | [w0, w1], _ => exact ⟨w0, w1, rfl⟩
  have hw := fun d (hd : d ∈ tables_1) => atoms_spec (ws := Jvm.Cond.code x code maxLocals ret :: tables_1) hat d (List.mem_cons_of_mem _ hd)
  have hfit : Fit s := fun {y c} hc i hi => by
    obtain ⟨ha, rfl⟩ := Array.getElem?_eq_some_iff.mp hc
    have q := List.all_eq_true.mp ((Array.all_eq_true_iff_forall_mem.mp hF) _ (Array.getElem_mem ha)) i (List.mem_range.mpr hi)
    simpa [Array.getElem?_eq_getElem hi] using q
  obtain ⟨hsets, hown0⟩ := atoms_of _ (rest_1_c_eq ▸ (show rest_1_c.before _ s = true from hrest))
  obtain ⟨n1, n2⟩ := and_e hn
  obtain ⟨n3, n4⟩ := and_e n2
  obtain ⟨n5, n6⟩ := and_e n4
  obtain ⟨n7, n8⟩ := and_e n6
  have u9 := Cond.before_iff.mp (hsets _ (List.mem_of_getElem? (i := 0) rfl))
  have u10 := Cond.before_iff.mp (hsets _ (List.mem_of_getElem? (i := 1) rfl))
  have u11 := Cond.before_iff.mp (hsets _ (List.mem_of_getElem? (i := 2) rfl))
  have u12 := Cond.before_iff.mp (hsets _ (List.mem_of_getElem? (i := 3) rfl))
  have u13 := Cond.before_iff.mp (hsets _ (List.mem_of_getElem? (i := 4) rfl))
  have u14 := Cond.before_iff.mp (hsets _ (List.mem_of_getElem? (i := 5) rfl))
  have u15 := Cond.before_iff.mp (hsets _ (List.mem_of_getElem? (i := 6) rfl))
  have u16 := Cond.before_iff.mp (hsets _ (List.mem_of_getElem? (i := 7) rfl))
  have u17 := Cond.before_iff.mp (hsets _ (List.mem_of_getElem? (i := 8) rfl))
  have u18 := Cond.before_iff.mp (hsets _ (List.mem_of_getElem? (i := 9) rfl))
  have u19 := Cond.before_iff.mp (hsets _ (List.mem_of_getElem? (i := 10) rfl))
  have u20 := Cond.before_iff.mp (hsets _ (List.mem_of_getElem? (i := 11) rfl))
  obtain ⟨w21, ev22⟩ := exa_v n1
  have S_Tertium_ABSENT : Sta s s.heap zs1 "ABSENT" zs6 (.ref w21) := Sta.start ev22 (Or.inr ⟨(wd hw 3 rfl), (wd hw 6 rfl)⟩)
  have SE_w21 : Exa s s.heap w21 zs1 := Exa.start ev22 n1
  obtain ⟨w23, ev24⟩ := exa_v n3
  have S_Tertium_NULL : Sta s s.heap zs1 "NULL" zs6 (.ref w23) := Sta.start ev24 (Or.inr ⟨(wd hw 3 rfl), (wd hw 52 rfl)⟩)
  have SE_w23 : Exa s s.heap w23 zs1 := Exa.start ev24 n3
  have SN_w21_w23 : w21 ≠ w23 := own_ne_ref n5 ev22 ev24
  obtain ⟨w25, ev26⟩ := exa_v n7
  have S_Tertium_NESTED_NULL : Sta s s.heap zs1 "NESTED_NULL" zs19 (.ref w25) := Sta.start ev26 (Or.inr ⟨(wd hw 3 rfl), (wd hw 129 rfl)⟩)
  have SE_w25 : Exa s s.heap w25 zs2 := Exa.start ev26 n7
  obtain ⟨w27, ev28⟩ := exa_v u11
  have S_Optional_EMPTY : Sta s s.heap zs2 "EMPTY" zs19 (.ref w27) := Sta.start ev28 (Or.inl (hsets _ (List.mem_of_getElem? (i := 1) rfl)))
  have SE_w27 : Exa s s.heap w27 zs2 := Exa.start ev28 u11
  have ev29 := null_v u12
  have SF_w27_value : Fld s s.heap w27 zs2 "value" zs3 .null := Fld.start ((fld_at ev28).symm.trans ev29)
  have ev30 := Cond.eq_int (show (Jvm.Cond.eq _ _).holds _ _ _ _ _ = true from Cond.before_iff.mpr u16) rfl
  have S_Integer_IntegerCache_high : Sta s s.heap zs16 "high" "I" (.int (127 : Int32)) := Sta.start ev30 (Or.inl (hsets _ (List.mem_of_getElem? (i := 5) rfl)))
  obtain ⟨w31, ev32⟩ := arr_v u17
  have S_Integer_IntegerCache_cache : Sta s s.heap zs16 "cache" zs23 (.ref w31) := Sta.start ev32 (Or.inl (own_initFor (hsets _ (List.mem_of_getElem? (i := 4) rfl)) (hsets _ (List.mem_of_getElem? (i := 5) rfl)) (hsets _ (List.mem_of_getElem? (i := 6) rfl))))
  obtain ⟨cl33, Acl33⟩ := Arr.start ev32 u17
  have SE_w31 : Exa s s.heap w31 zs23 := Exa.start ev32 u18
  have BX_w31 : Bxs s w31 cl33 zs4 "I" (256 : Int32) (fun j => .int (j - (128 : Int32))) := Bxs.start (fun _ => ev32) Acl33 (own_len31 ev32 Acl33 u19).1 (own_len31 ev32 Acl33 u19).2 (by decide) u20 (fun X j hj q => eqv_i (own_sub_at (idx_at hj)) q)
  have ev34 := own_eq_ref n8 ev28
  have SF_w25_value : Fld s s.heap w25 zs2 "value" zs3 (.ref w27) := Fld.start ((fld_at ev26).symm.trans ev34)
  obtain ⟨i0, ei0⟩ := is_v g980
  obtain rfl : w0 = (.int i0) := Option.some.inj ei0
  obtain ⟨i1, ei1⟩ := is_v g981
  obtain rfl : w1 = (.int i1) := Option.some.inj ei1
  obtain ⟨n, o, h1, h2, h3, _, L, rfl, ⟨rfl, N⟩, hq⟩ := rm0 l s _ hw tables_1 i0 i1 w21 w27 w23 w25 w31 cl33 s.heap s.heap.size (Old.start s) S_Tertium_ABSENT SE_w21 S_Optional_EMPTY SF_w27_value SE_w27 S_Tertium_NULL SN_w21_w23 SE_w23 S_Tertium_NESTED_NULL SF_w25_value SE_w25 S_Integer_IntegerCache_high S_Integer_IntegerCache_cache BX_w31 p e ha hc hk s m _ below hf ((Spec.applies_iff_loose hf).mp happ).1 ⟨rfl, State.Warmed39.refl s, rfl⟩ trivial
  refine ⟨n, _, h1, h2, h3, hpost _ _ _ _ _ _ ⟨Cond.after_iff.mpr rfl, Cond.after_iff.mpr (eq_i res_at (Term.int_eval (1)) rfl), trivial⟩ ⟨hq.1, hq.2.1, hq.2.2.1, (hq.2.2.2.sift fun y hy => Or.inr (N y hy)).mono (by decide) (by decide)⟩⟩
theorem main_1_1 : Claimed_1_1 := comes_1 fun _ _ _ _ _ _ h hF => ⟨h.1, hF⟩
theorem main_1_2 : Claimed_1_2 := comes_1 fun _ _ _ _ _ _ h hF => ⟨h.2.1, hF⟩
end Jvm.Pilot.@@N@@
namespace Jvm.Pilot.@@N@@
open Jvm Jvm.ClassFile Sem Op Lib Jvm.Free Jvm.Stand Jvm.Pilot.@@N@@.Jvm.D
/-! MADE BY PROGRAM (witnessworld.py) out of the Statement's table words and the real class files: 20 classes; the members and pool entries that the words name. The judged class is class 1, her method 1. -/
namespace start1
open Jvm.ClassFile
def u (s : String) : CpInfo := .utf8 (stringToUtf16 s)
/-- a pool by its gaps: so many unusable entries, then the entry; so many at the end -/
def gap : Nat → List CpInfo → List CpInfo
  | 0, r => r
  | n + 1, r => .unusable :: gap n r
def poolList (es : List (Nat × CpInfo)) (last : Nat) : List CpInfo := es.foldr (fun e r => gap e.1 (e.2 :: r)) (gap last [])
def pool (es : List (Nat × CpInfo)) (last : Nat) : Array CpInfo := ⟨poolList es last⟩
def fileOf (pool : Array CpInfo) (this : Nat) (attrs : Array Attribute := #[]) (ms : Array MethodInfo := #[]) (fl : Nat := 33) (sup : Nat := 0) (ifs : Array Nat := #[]) (fds : Array FieldInfo := #[]) : ClassFile where
  minorVersion := 0
  majorVersion := 65
  constantPool := pool
  accessFlags := fl
  thisClass := this
  superClass := sup
  interfaces := ifs
  fields := fds
  methods := ms
  attributes := attrs
def plain (name : String) (sup : Option ClassId) : Class where
  name := name
  kind := .ordinary
  loader := none
  accessFlags := 33
  super := sup
  interfaces := #[]
  cf := none
  fields := #[]
  methods := #[]
  instanceTypes := #[]
  staticTypes := #[]
  resolved := #[]
  callSites := []
  init := .initialized
  statics := none
  mirror := none

def pool0 : Array CpInfo := pool [(5, u "<init>"), (0, u "()V"), (1, .class_ 10), (1, u "java/lang/Object")] 113

def k0c0 : Code := { maxStack := 0, maxLocals := 1, code := object_method_1_code, exceptionTable := #[], attributes := #[] }
def k0m0 : Method := { name := "<init>", desc := "()V", sig := { parameters := [], returnType := none }, accessFlags := 1, code := some k0c0 }
/-- java/lang/Object -/
def k0 : Class := { plain "java/lang/Object" none with
  accessFlags := 33
  interfaces := #[]
  cf := some (fileOf pool0 8 #[] #[{ accessFlags := 1, nameIndex := 5, descriptorIndex := 6, attributes := #[] }] 33 0 #[] #[])
  fields := #[]
  methods := #[k0m0]
  instanceTypes := #[]
  staticTypes := #[]
  resolved := Array.replicate 124 none
  statics := none }

def pool1 : Array CpInfo := pool [(2, .class_ 4), (1, u "java/lang/Object"), (0, u "<init>"), (0, u "()V"), (0, .integer 2147483647), (0, .methodref 9 10), (0, .class_ 11), (0, .nameAndType 12 13), (0, u "tertium/Tertium"), (0, u "absent"), (0, u "()Ltertium/Tertium;"), (0, .methodref 9 15), (0, .nameAndType 16 13), (0, u "ofNull"), (0, .methodref 18 19), (0, .class_ 20), (0, .nameAndType 21 22), (0, u "java/lang/Integer"), (0, u "valueOf"), (0, u "(I)Ljava/lang/Integer;"), (0, .methodref 9 24), (0, .nameAndType 25 26), (0, u "of"), (0, u "(Ljava/lang/Object;)Ltertium/Tertium;"), (0, .methodref 9 28), (0, .nameAndType 29 30), (0, u "toNestedOptional"), (0, u "()Ljava/util/Optional;"), (0, .methodref 9 32), (0, .nameAndType 33 34), (0, u "fromNestedOptional"), (0, u "(Ljava/util/Optional;)Ltertium/Tertium;"), (0, .methodref 9 36), (0, .nameAndType 37 38), (0, u "isAbsent"), (0, u "()Z"), (0, .methodref 9 40), (0, .nameAndType 41 38), (0, u "isNull"), (0, .methodref 9 43), (0, .nameAndType 44 45), (0, u "get"), (0, u "()Ljava/lang/Object;"), (0, .methodref 18 47), (0, .nameAndType 48 49), (0, u "intValue"), (0, u "()I"), (0, .class_ 51), (0, u "tertium/TertiumFromNestedOptionalPinLaw"), (2, u "law"), (0, u "(II)Z")] 3

def k1m0 : Method := { name := "<init>", desc := "()V", sig := { parameters := [], returnType := none }, accessFlags := 1, code := none }
def k1c1 : Code := { maxStack := 2, maxLocals := 6, code := code, exceptionTable := #[], attributes := #[] }
def k1m1 : Method := { name := "law", desc := "(II)Z", sig := { parameters := [.int, .int], returnType := some .boolean }, accessFlags := 9, code := some k1c1 }
/-- tertium/TertiumFromNestedOptionalPinLaw -/
def k1 : Class := { plain "tertium/TertiumFromNestedOptionalPinLaw" (some 0) with
  accessFlags := 49
  interfaces := #[]
  cf := some (fileOf pool1 50 #[] #[{ accessFlags := 1, nameIndex := 5, descriptorIndex := 6, attributes := #[] }, { accessFlags := 9, nameIndex := 54, descriptorIndex := 55, attributes := #[] }] 49 2 #[] #[])
  fields := #[]
  methods := #[k1m0, k1m1]
  instanceTypes := #[]
  staticTypes := #[]
  resolved := Array.replicate 59 none
  statics := none }

def pool2 : Array CpInfo := pool [(1, .methodref 2 3), (0, .class_ 4), (0, .nameAndType 5 6), (0, u "java/lang/Object"), (0, u "<init>"), (0, u "()V"), (0, .fieldref 8 9), (0, .class_ 10), (0, .nameAndType 11 12), (0, u "tertium/Tertium"), (0, u "value"), (0, u "Ljava/lang/Object;"), (0, .fieldref 8 14), (0, .nameAndType 15 16), (0, u "ABSENT"), (0, u "Ltertium/Tertium;"), (0, .fieldref 8 18), (0, .nameAndType 19 16), (0, u "NULL"), (0, .methodref 8 21), (0, .nameAndType 22 23), (0, u "ofNull"), (0, u "()Ltertium/Tertium;"), (0, .methodref 8 25), (0, .nameAndType 5 26), (0, u "(Ljava/lang/Object;)V"), (2, .methodref 30 31), (0, .class_ 32), (0, .nameAndType 33 34), (0, u "java/util/Objects"), (0, u "requireNonNull"), (0, u "(Ljava/lang/Object;Ljava/lang/String;)Ljava/lang/Object;"), (0, .methodref 36 37), (0, .class_ 38), (0, .nameAndType 39 40), (0, u "java/util/Optional"), (0, u "isPresent"), (0, u "()Z"), (0, .methodref 36 42), (0, .nameAndType 43 44), (0, u "get"), (0, u "()Ljava/lang/Object;"), (0, .methodref 8 46), (0, .nameAndType 47 48), (0, u "of"), (0, u "(Ljava/lang/Object;)Ltertium/Tertium;"), (0, .methodref 8 50), (0, .nameAndType 51 23), (0, u "absent"), (0, .string 53), (0, u "nested"), (0, .methodref 36 55), (0, .nameAndType 56 57), (0, u "orElse"), (0, u "(Ljava/lang/Object;)Ljava/lang/Object;"), (12, .methodref 8 71), (0, .nameAndType 72 40), (0, u "isAbsent"), (55, u "empty"), (7, u "(Ljava/lang/Object;)Ljava/util/Optional;"), (0, .methodref 36 138), (0, .nameAndType 128 139), (0, u "()Ljava/util/Optional;"), (0, .methodref 8 141), (0, .nameAndType 142 40), (0, u "isNull"), (0, .fieldref 8 144), (0, .nameAndType 145 146), (0, u "NESTED_NULL"), (0, u "Ljava/util/Optional;"), (0, .methodref 36 148), (0, .nameAndType 47 136), (71, u "ABSENT_HASH"), (0, u "I"), (1, u "NULL_HASH"), (9, u "(Ljava/util/Optional;)Ltertium/Tertium;"), (1, u "fromNestedOptional"), (25, u "toNestedOptional")] 60

def k2c0 : Code := { maxStack := 2, maxLocals := 2, code := prog_1_method_1_code, exceptionTable := #[], attributes := #[] }
def k2m0 : Method := { name := "<init>", desc := "(Ljava/lang/Object;)V", sig := { parameters := [(.object "java/lang/Object")], returnType := none }, accessFlags := 2, code := some k2c0 }
def k2c1 : Code := { maxStack := 1, maxLocals := 0, code := prog_1_method_2_code, exceptionTable := #[], attributes := #[] }
def k2m1 : Method := { name := "absent", desc := "()Ltertium/Tertium;", sig := { parameters := [], returnType := some (.object "tertium/Tertium") }, accessFlags := 9, code := some k2c1 }
def k2c2 : Code := { maxStack := 1, maxLocals := 0, code := prog_1_method_3_code, exceptionTable := #[], attributes := #[] }
def k2m2 : Method := { name := "ofNull", desc := "()Ltertium/Tertium;", sig := { parameters := [], returnType := some (.object "tertium/Tertium") }, accessFlags := 9, code := some k2c2 }
def k2c3 : Code := { maxStack := 3, maxLocals := 1, code := prog_1_method_4_code, exceptionTable := #[], attributes := #[] }
def k2m3 : Method := { name := "of", desc := "(Ljava/lang/Object;)Ltertium/Tertium;", sig := { parameters := [(.object "java/lang/Object")], returnType := some (.object "tertium/Tertium") }, accessFlags := 9, code := some k2c3 }
def k2c4 : Code := { maxStack := 2, maxLocals := 1, code := prog_1_method_6_code, exceptionTable := #[], attributes := #[] }
def k2m4 : Method := { name := "fromNestedOptional", desc := "(Ljava/util/Optional;)Ltertium/Tertium;", sig := { parameters := [(.object "java/util/Optional")], returnType := some (.object "tertium/Tertium") }, accessFlags := 9, code := some k2c4 }
def k2c5 : Code := { maxStack := 2, maxLocals := 1, code := prog_1_method_9_code, exceptionTable := #[], attributes := #[] }
def k2m5 : Method := { name := "isAbsent", desc := "()Z", sig := { parameters := [], returnType := some .boolean }, accessFlags := 1, code := some k2c5 }
def k2c6 : Code := { maxStack := 2, maxLocals := 1, code := prog_1_method_11_code, exceptionTable := #[], attributes := #[] }
def k2m6 : Method := { name := "isNull", desc := "()Z", sig := { parameters := [], returnType := some .boolean }, accessFlags := 1, code := some k2c6 }
def k2c7 : Code := { maxStack := 3, maxLocals := 1, code := prog_1_method_14_code, exceptionTable := #[], attributes := #[] }
def k2m7 : Method := { name := "get", desc := "()Ljava/lang/Object;", sig := { parameters := [], returnType := some (.object "java/lang/Object") }, accessFlags := 1, code := some k2c7 }
def k2c8 : Code := { maxStack := 1, maxLocals := 1, code := prog_1_method_25_code, exceptionTable := #[], attributes := #[] }
def k2m8 : Method := { name := "toNestedOptional", desc := "()Ljava/util/Optional;", sig := { parameters := [], returnType := some (.object "java/util/Optional") }, accessFlags := 1, code := some k2c8 }
/-- tertium/Tertium -/
def k2 : Class := { plain "tertium/Tertium" (some 0) with
  accessFlags := 49
  interfaces := #[]
  cf := some (fileOf pool2 8 #[] #[{ accessFlags := 2, nameIndex := 5, descriptorIndex := 26, attributes := #[] }, { accessFlags := 9, nameIndex := 51, descriptorIndex := 23, attributes := #[] }, { accessFlags := 9, nameIndex := 22, descriptorIndex := 23, attributes := #[] }, { accessFlags := 9, nameIndex := 47, descriptorIndex := 48, attributes := #[] }, { accessFlags := 9, nameIndex := 235, descriptorIndex := 233, attributes := #[] }, { accessFlags := 1, nameIndex := 72, descriptorIndex := 40, attributes := #[] }, { accessFlags := 1, nameIndex := 142, descriptorIndex := 40, attributes := #[] }, { accessFlags := 1, nameIndex := 43, descriptorIndex := 44, attributes := #[] }, { accessFlags := 1, nameIndex := 261, descriptorIndex := 139, attributes := #[] }] 49 2 #[] #[{ accessFlags := 26, nameIndex := 15, descriptorIndex := 16, attributes := #[] }, { accessFlags := 26, nameIndex := 19, descriptorIndex := 16, attributes := #[] }, { accessFlags := 26, nameIndex := 220, descriptorIndex := 221, attributes := #[] }, { accessFlags := 26, nameIndex := 223, descriptorIndex := 221, attributes := #[] }, { accessFlags := 26, nameIndex := 145, descriptorIndex := 146, attributes := #[] }, { accessFlags := 18, nameIndex := 11, descriptorIndex := 12, attributes := #[] }])
  fields := #[{ name := "ABSENT", type := (.object "tertium/Tertium"), accessFlags := 26, slot := 0, constantValue := 0 }, { name := "NULL", type := (.object "tertium/Tertium"), accessFlags := 26, slot := 1, constantValue := 0 }, { name := "ABSENT_HASH", type := .int, accessFlags := 26, slot := 2, constantValue := 0 }, { name := "NULL_HASH", type := .int, accessFlags := 26, slot := 3, constantValue := 0 }, { name := "NESTED_NULL", type := (.object "java/util/Optional"), accessFlags := 26, slot := 4, constantValue := 0 }, { name := "value", type := (.object "java/lang/Object"), accessFlags := 18, slot := 0, constantValue := 0 }]
  methods := #[k2m0, k2m1, k2m2, k2m3, k2m4, k2m5, k2m6, k2m7, k2m8]
  instanceTypes := #[(.object "java/lang/Object")]
  staticTypes := #[(.object "tertium/Tertium"), (.object "tertium/Tertium"), .int, .int, (.object "java/util/Optional")]
  resolved := Array.replicate 322 none
  statics := some 0 }

def pool3 : Array CpInfo := pool [(1, .fieldref 2 3), (0, .class_ 4), (0, .nameAndType 5 6), (0, u "java/util/Optional"), (0, u "EMPTY"), (0, u "Ljava/util/Optional;"), (0, .methodref 8 9), (0, .class_ 10), (0, .nameAndType 11 12), (0, u "java/lang/Object"), (0, u "<init>"), (0, u "()V"), (0, .fieldref 2 14), (0, .nameAndType 15 16), (0, u "value"), (0, u "Ljava/lang/Object;"), (0, .methodref 18 19), (0, .class_ 20), (0, .nameAndType 21 22), (0, u "java/util/Objects"), (0, u "requireNonNull"), (0, u "(Ljava/lang/Object;)Ljava/lang/Object;"), (0, .methodref 2 24), (0, .nameAndType 11 25), (0, u "(Ljava/lang/Object;)V"), (20, u "()Z"), (8, u "empty"), (0, u "()Ljava/util/Optional;"), (8, u "(Ljava/lang/Object;)Ljava/util/Optional;"), (2, u "isPresent"), (4, u "get"), (0, u "()Ljava/lang/Object;"), (7, u "of"), (82, u "orElse")] 21

def k3c0 : Code := { maxStack := 1, maxLocals := 1, code := jdk_32_method_1_code, exceptionTable := #[], attributes := #[] }
def k3m0 : Method := { name := "empty", desc := "()Ljava/util/Optional;", sig := { parameters := [], returnType := some (.object "java/util/Optional") }, accessFlags := 9, code := some k3c0 }
def k3c1 : Code := { maxStack := 2, maxLocals := 2, code := jdk_32_method_2_code, exceptionTable := #[], attributes := #[] }
def k3m1 : Method := { name := "<init>", desc := "(Ljava/lang/Object;)V", sig := { parameters := [(.object "java/lang/Object")], returnType := none }, accessFlags := 2, code := some k3c1 }
def k3c2 : Code := { maxStack := 3, maxLocals := 1, code := jdk_32_method_3_code, exceptionTable := #[], attributes := #[] }
def k3m2 : Method := { name := "of", desc := "(Ljava/lang/Object;)Ljava/util/Optional;", sig := { parameters := [(.object "java/lang/Object")], returnType := some (.object "java/util/Optional") }, accessFlags := 9, code := some k3c2 }
def k3c3 : Code := { maxStack := 3, maxLocals := 1, code := jdk_32_method_5_code, exceptionTable := #[], attributes := #[] }
def k3m3 : Method := { name := "get", desc := "()Ljava/lang/Object;", sig := { parameters := [], returnType := some (.object "java/lang/Object") }, accessFlags := 1, code := some k3c3 }
def k3c4 : Code := { maxStack := 1, maxLocals := 1, code := jdk_32_method_6_code, exceptionTable := #[], attributes := #[] }
def k3m4 : Method := { name := "isPresent", desc := "()Z", sig := { parameters := [], returnType := some .boolean }, accessFlags := 1, code := some k3c4 }
def k3c5 : Code := { maxStack := 1, maxLocals := 2, code := jdk_32_method_15_code, exceptionTable := #[], attributes := #[] }
def k3m5 : Method := { name := "orElse", desc := "(Ljava/lang/Object;)Ljava/lang/Object;", sig := { parameters := [(.object "java/lang/Object")], returnType := some (.object "java/lang/Object") }, accessFlags := 1, code := some k3c5 }
/-- java/util/Optional -/
def k3 : Class := { plain "java/util/Optional" (some 0) with
  accessFlags := 49
  interfaces := #[]
  cf := some (fileOf pool3 2 #[] #[{ accessFlags := 9, nameIndex := 55, descriptorIndex := 56, attributes := #[] }, { accessFlags := 2, nameIndex := 11, descriptorIndex := 25, attributes := #[] }, { accessFlags := 9, nameIndex := 82, descriptorIndex := 65, attributes := #[] }, { accessFlags := 1, nameIndex := 73, descriptorIndex := 74, attributes := #[] }, { accessFlags := 1, nameIndex := 68, descriptorIndex := 46, attributes := #[] }, { accessFlags := 1, nameIndex := 165, descriptorIndex := 22, attributes := #[] }] 49 8 #[] #[{ accessFlags := 26, nameIndex := 5, descriptorIndex := 6, attributes := #[] }, { accessFlags := 18, nameIndex := 15, descriptorIndex := 16, attributes := #[] }])
  fields := #[{ name := "EMPTY", type := (.object "java/util/Optional"), accessFlags := 26, slot := 0, constantValue := 0 }, { name := "value", type := (.object "java/lang/Object"), accessFlags := 18, slot := 0, constantValue := 0 }]
  methods := #[k3m0, k3m1, k3m2, k3m3, k3m4, k3m5]
  instanceTypes := #[(.object "java/lang/Object")]
  staticTypes := #[(.object "java/util/Optional")]
  resolved := Array.replicate 187 none
  statics := some 1 }

def pool4 : Array CpInfo := pool [(1, .class_ 2), (0, u "java/io/Serializable"), (0, .class_ 4), (0, u "java/lang/Object")] 2

/-- java/io/Serializable -/
def k4 : Class := { plain "java/io/Serializable" (some 0) with
  accessFlags := 1537
  interfaces := #[]
  cf := some (fileOf pool4 1 #[] #[] 1537 3 #[] #[])
  fields := #[]
  methods := #[]
  instanceTypes := #[]
  staticTypes := #[]
  resolved := Array.replicate 7 none
  statics := none }

def pool5 : Array CpInfo := pool [(1, .class_ 2), (0, u "java/lang/Comparable"), (0, .class_ 4), (0, u "java/lang/Object")] 7

/-- java/lang/Comparable -/
def k5 : Class := { plain "java/lang/Comparable" (some 0) with
  accessFlags := 1537
  interfaces := #[]
  cf := some (fileOf pool5 1 #[] #[] 1537 3 #[] #[])
  fields := #[]
  methods := #[]
  instanceTypes := #[]
  staticTypes := #[]
  resolved := Array.replicate 12 none
  statics := none }

def pool6 : Array CpInfo := pool [(2, .class_ 4), (1, u "java/lang/CharSequence"), (42, .class_ 48), (0, u "java/lang/CharSequence$1CodePointIterator"), (10, .class_ 60), (0, u "java/lang/CharSequence$1CharIterator"), (5, .class_ 67), (0, u "java/lang/Object")] 63

/-- java/lang/CharSequence -/
def k6 : Class := { plain "java/lang/CharSequence" (some 0) with
  accessFlags := 1537
  interfaces := #[]
  cf := some (fileOf pool6 2 #[.nestMembers #[47, 59]] #[] 1537 66 #[] #[])
  fields := #[]
  methods := #[]
  instanceTypes := #[]
  staticTypes := #[]
  resolved := Array.replicate 131 none
  statics := none }

def pool7 : Array CpInfo := pool [(1, .class_ 2), (0, u "java/lang/constant/Constable"), (0, .class_ 4), (0, u "java/lang/Object")] 6

/-- java/lang/constant/Constable -/
def k7 : Class := { plain "java/lang/constant/Constable" (some 0) with
  accessFlags := 1537
  interfaces := #[]
  cf := some (fileOf pool7 1 #[] #[] 1537 3 #[] #[])
  fields := #[]
  methods := #[]
  instanceTypes := #[]
  staticTypes := #[]
  resolved := Array.replicate 11 none
  statics := none }

def pool8 : Array CpInfo := pool [(1, .class_ 2), (0, u "java/lang/constant/ConstantDesc"), (0, .class_ 4), (0, u "java/lang/Object")] 32

/-- java/lang/constant/ConstantDesc -/
def k8 : Class := { plain "java/lang/constant/ConstantDesc" (some 0) with
  accessFlags := 1537
  interfaces := #[]
  cf := some (fileOf pool8 1 #[] #[] 1537 3 #[] #[])
  fields := #[]
  methods := #[]
  instanceTypes := #[]
  staticTypes := #[]
  resolved := Array.replicate 37 none
  statics := none }

def pool9 : Array CpInfo := pool [(2, .class_ 4), (1, u "java/lang/Object"), (0, u "<init>"), (0, u "()V"), (3, .class_ 12), (1, u "java/lang/String"), (0, u "value"), (0, u "[B"), (2, u "coder"), (0, u "B"), (2, u "hash"), (0, u "I"), (2, u "hashIsZero"), (0, u "Z"), (13, u "COMPACT_STRINGS"), (534, .class_ 576), (0, u "java/lang/CharSequence"), (22, u "CASE_INSENSITIVE_ORDER"), (0, u "Ljava/util/Comparator;"), (500, u "serialPersistentFields"), (0, u "[Ljava/io/ObjectStreamField;"), (0, .class_ 1104), (0, u "java/lang/String$CaseInsensitiveComparator"), (1, .class_ 1107), (0, u "java/io/Serializable"), (0, .class_ 1109), (0, u "java/lang/Comparable"), (0, .class_ 1111), (0, u "java/lang/constant/Constable"), (0, .class_ 1113), (0, u "java/lang/constant/ConstantDesc"), (2, u "serialVersionUID"), (0, u "J"), (3, u "REPL"), (0, u "C"), (2, u "LATIN1"), (1, u "UTF16")] 323

def k9m0 : Method := { name := "<init>", desc := "()V", sig := { parameters := [], returnType := none }, accessFlags := 1, code := none }
/-- java/lang/String -/
def k9 : Class := { plain "java/lang/String" (some 0) with
  accessFlags := 49
  interfaces := #[4, 5, 6, 7, 8]
  cf := some (fileOf pool9 10 #[.nestMembers #[1103]] #[{ accessFlags := 1, nameIndex := 5, descriptorIndex := 6, attributes := #[] }] 49 2 #[1106, 1108, 575, 1110, 1112] #[{ accessFlags := 18, nameIndex := 13, descriptorIndex := 14, attributes := #[] }, { accessFlags := 18, nameIndex := 17, descriptorIndex := 18, attributes := #[] }, { accessFlags := 2, nameIndex := 21, descriptorIndex := 22, attributes := #[] }, { accessFlags := 2, nameIndex := 25, descriptorIndex := 26, attributes := #[] }, { accessFlags := 26, nameIndex := 1116, descriptorIndex := 1117, attributes := #[] }, { accessFlags := 24, nameIndex := 40, descriptorIndex := 26, attributes := #[] }, { accessFlags := 26, nameIndex := 1101, descriptorIndex := 1102, attributes := #[] }, { accessFlags := 26, nameIndex := 1121, descriptorIndex := 1122, attributes := #[] }, { accessFlags := 25, nameIndex := 599, descriptorIndex := 600, attributes := #[] }, { accessFlags := 24, nameIndex := 1125, descriptorIndex := 18, attributes := #[] }, { accessFlags := 24, nameIndex := 1127, descriptorIndex := 18, attributes := #[] }])
  fields := #[{ name := "value", type := (.array .byte), accessFlags := 18, slot := 0, constantValue := 0 }, { name := "coder", type := .byte, accessFlags := 18, slot := 1, constantValue := 0 }, { name := "hash", type := .int, accessFlags := 2, slot := 2, constantValue := 0 }, { name := "hashIsZero", type := .boolean, accessFlags := 2, slot := 3, constantValue := 0 }, { name := "serialVersionUID", type := .long, accessFlags := 26, slot := 0, constantValue := 0 }, { name := "COMPACT_STRINGS", type := .boolean, accessFlags := 24, slot := 1, constantValue := 0 }, { name := "serialPersistentFields", type := (.array (.object "java/io/ObjectStreamField")), accessFlags := 26, slot := 2, constantValue := 0 }, { name := "REPL", type := .char, accessFlags := 26, slot := 3, constantValue := 0 }, { name := "CASE_INSENSITIVE_ORDER", type := (.object "java/util/Comparator"), accessFlags := 25, slot := 4, constantValue := 0 }, { name := "LATIN1", type := .byte, accessFlags := 24, slot := 5, constantValue := 0 }, { name := "UTF16", type := .byte, accessFlags := 24, slot := 6, constantValue := 0 }]
  methods := #[k9m0]
  instanceTypes := #[(.array .byte), .byte, .int, .boolean]
  staticTypes := #[.long, .boolean, (.array (.object "java/io/ObjectStreamField")), .char, (.object "java/util/Comparator"), .byte, .byte]
  resolved := Array.replicate 1451 none
  statics := none }

def pool10 : Array CpInfo := pool [(2, .class_ 4), (1, u "java/lang/Object"), (0, u "<init>"), (0, u "()V"), (35, .class_ 44), (1, u "java/util/Objects"), (0, u "requireNonNull"), (0, u "(Ljava/lang/Object;)Ljava/lang/Object;"), (47, u "(Ljava/lang/Object;Ljava/lang/String;)Ljava/lang/Object;")] 89

def k10m0 : Method := { name := "<init>", desc := "()V", sig := { parameters := [], returnType := none }, accessFlags := 2, code := none }
def k10c1 : Code := { maxStack := 2, maxLocals := 1, code := jdk_31_method_10_code, exceptionTable := #[], attributes := #[] }
def k10m1 : Method := { name := "requireNonNull", desc := "(Ljava/lang/Object;)Ljava/lang/Object;", sig := { parameters := [(.object "java/lang/Object")], returnType := some (.object "java/lang/Object") }, accessFlags := 9, code := some k10c1 }
def k10c2 : Code := { maxStack := 3, maxLocals := 2, code := jdk_31_method_11_code, exceptionTable := #[], attributes := #[] }
def k10m2 : Method := { name := "requireNonNull", desc := "(Ljava/lang/Object;Ljava/lang/String;)Ljava/lang/Object;", sig := { parameters := [(.object "java/lang/Object"), (.object "java/lang/String")], returnType := some (.object "java/lang/Object") }, accessFlags := 9, code := some k10c2 }
/-- java/util/Objects -/
def k10 : Class := { plain "java/util/Objects" (some 0) with
  accessFlags := 49
  interfaces := #[]
  cf := some (fileOf pool10 42 #[] #[{ accessFlags := 2, nameIndex := 5, descriptorIndex := 6, attributes := #[] }, { accessFlags := 9, nameIndex := 45, descriptorIndex := 46, attributes := #[] }, { accessFlags := 9, nameIndex := 45, descriptorIndex := 94, attributes := #[] }] 49 2 #[] #[])
  fields := #[]
  methods := #[k10m0, k10m1, k10m2]
  instanceTypes := #[]
  staticTypes := #[]
  resolved := Array.replicate 184 none
  statics := none }

def pool11 : Array CpInfo := pool [(1, .methodref 2 3), (0, .class_ 4), (0, .nameAndType 5 6), (0, u "java/lang/Object"), (0, u "<init>"), (0, u "()V"), (1, .class_ 10), (1, u "java/lang/Number"), (2, .class_ 14), (0, u "java/io/Serializable"), (0, u "serialVersionUID"), (0, u "J")] 20

def k11c0 : Code := { maxStack := 1, maxLocals := 1, code := jdk_18_method_1_code, exceptionTable := #[], attributes := #[] }
def k11m0 : Method := { name := "<init>", desc := "()V", sig := { parameters := [], returnType := none }, accessFlags := 1, code := some k11c0 }
/-- java/lang/Number -/
def k11 : Class := { plain "java/lang/Number" (some 0) with
  accessFlags := 1057
  interfaces := #[4]
  cf := some (fileOf pool11 8 #[] #[{ accessFlags := 1, nameIndex := 5, descriptorIndex := 6, attributes := #[] }] 1057 2 #[13] #[{ accessFlags := 26, nameIndex := 15, descriptorIndex := 16, attributes := #[] }])
  fields := #[{ name := "serialVersionUID", type := .long, accessFlags := 26, slot := 0, constantValue := 0 }]
  methods := #[k11m0]
  instanceTypes := #[]
  staticTypes := #[.long]
  resolved := Array.replicate 37 none
  statics := none }

def pool12 : Array CpInfo := pool [(1, .class_ 2), (0, u "java/lang/Integer"), (16, u "digits"), (0, u "[C"), (46, u "<init>"), (17, u "DigitOnes"), (0, u "[B"), (2, u "DigitTens"), (10, .nameAndType 67 101), (0, u "()V"), (19, u "()I"), (65, u "valueOf"), (0, u "(I)Ljava/lang/Integer;"), (0, .class_ 190), (0, u "java/lang/Integer$IntegerCache"), (0, .fieldref 189 192), (0, .nameAndType 193 194), (0, u "high"), (0, u "I"), (0, .fieldref 189 196), (0, .nameAndType 197 198), (0, u "cache"), (0, u "[Ljava/lang/Integer;"), (0, .methodref 1 200), (0, .nameAndType 67 201), (0, u "(I)V"), (0, .methodref 203 100), (0, .class_ 204), (0, u "java/lang/Number"), (0, .fieldref 1 206), (0, .nameAndType 207 194), (0, u "value"), (5, u "intValue"), (88, u "TYPE"), (0, u "Ljava/lang/Class;"), (0, .class_ 305), (0, u "java/lang/Comparable"), (0, .class_ 307), (0, u "java/lang/constant/Constable"), (0, .class_ 309), (0, u "java/lang/constant/ConstantDesc"), (0, u "MIN_VALUE"), (1, u "MAX_VALUE"), (3, u "SIZE"), (1, u "BYTES"), (1, u "serialVersionUID"), (0, u "J")] 131

def k12c0 : Code := { maxStack := 3, maxLocals := 1, code := jdk_33_method_22_code, exceptionTable := #[], attributes := #[] }
def k12m0 : Method := { name := "valueOf", desc := "(I)Ljava/lang/Integer;", sig := { parameters := [.int], returnType := some (.object "java/lang/Integer") }, accessFlags := 9, code := some k12c0 }
def k12c1 : Code := { maxStack := 2, maxLocals := 2, code := jdk_33_method_23_code, exceptionTable := #[], attributes := #[] }
def k12m1 : Method := { name := "<init>", desc := "(I)V", sig := { parameters := [.int], returnType := none }, accessFlags := 1, code := some k12c1 }
def k12c2 : Code := { maxStack := 1, maxLocals := 1, code := jdk_33_method_27_code, exceptionTable := #[], attributes := #[] }
def k12m2 : Method := { name := "intValue", desc := "()I", sig := { parameters := [], returnType := some .int }, accessFlags := 1, code := some k12c2 }
/-- java/lang/Integer -/
def k12 : Class := { plain "java/lang/Integer" (some 11) with
  accessFlags := 49
  interfaces := #[5, 7, 8]
  cf := some (fileOf pool12 1 #[.nestMembers #[189]] #[{ accessFlags := 9, nameIndex := 187, descriptorIndex := 188, attributes := #[] }, { accessFlags := 1, nameIndex := 67, descriptorIndex := 201, attributes := #[] }, { accessFlags := 1, nameIndex := 213, descriptorIndex := 121, attributes := #[] }] 49 203 #[304, 306, 308] #[{ accessFlags := 25, nameIndex := 310, descriptorIndex := 194, attributes := #[] }, { accessFlags := 25, nameIndex := 312, descriptorIndex := 194, attributes := #[] }, { accessFlags := 25, nameIndex := 302, descriptorIndex := 303, attributes := #[] }, { accessFlags := 24, nameIndex := 19, descriptorIndex := 20, attributes := #[] }, { accessFlags := 24, nameIndex := 89, descriptorIndex := 86, attributes := #[] }, { accessFlags := 24, nameIndex := 85, descriptorIndex := 86, attributes := #[] }, { accessFlags := 18, nameIndex := 207, descriptorIndex := 194, attributes := #[] }, { accessFlags := 25, nameIndex := 316, descriptorIndex := 194, attributes := #[] }, { accessFlags := 25, nameIndex := 318, descriptorIndex := 194, attributes := #[] }, { accessFlags := 26, nameIndex := 320, descriptorIndex := 321, attributes := #[] }])
  fields := #[{ name := "MIN_VALUE", type := .int, accessFlags := 25, slot := 0, constantValue := 0 }, { name := "MAX_VALUE", type := .int, accessFlags := 25, slot := 1, constantValue := 0 }, { name := "TYPE", type := (.object "java/lang/Class"), accessFlags := 25, slot := 2, constantValue := 0 }, { name := "digits", type := (.array .char), accessFlags := 24, slot := 3, constantValue := 0 }, { name := "DigitTens", type := (.array .byte), accessFlags := 24, slot := 4, constantValue := 0 }, { name := "DigitOnes", type := (.array .byte), accessFlags := 24, slot := 5, constantValue := 0 }, { name := "value", type := .int, accessFlags := 18, slot := 0, constantValue := 0 }, { name := "SIZE", type := .int, accessFlags := 25, slot := 6, constantValue := 0 }, { name := "BYTES", type := .int, accessFlags := 25, slot := 7, constantValue := 0 }, { name := "serialVersionUID", type := .long, accessFlags := 26, slot := 8, constantValue := 0 }]
  methods := #[k12m0, k12m1, k12m2]
  instanceTypes := #[.int]
  staticTypes := #[.int, .int, (.object "java/lang/Class"), (.array .char), (.array .byte), (.array .byte), .int, .int, .long]
  resolved := Array.replicate 453 none
  statics := none }

def pool13 : Array CpInfo := pool [(2, .class_ 4), (1, u "java/lang/Object"), (0, u "<init>"), (0, u "()V"), (0, .class_ 8), (0, u "java/lang/Integer"), (7, .class_ 18), (1, u "java/lang/Integer$IntegerCache"), (0, u "$assertionsDisabled"), (0, u "Z"), (26, u "high"), (0, u "I"), (8, u "archivedCache"), (0, u "[Ljava/lang/Integer;"), (12, u "cache"), (0, u "low")] 27

def k13m0 : Method := { name := "<init>", desc := "()V", sig := { parameters := [], returnType := none }, accessFlags := 2, code := none }
/-- java/lang/Integer$IntegerCache -/
def k13 : Class := { plain "java/lang/Integer$IntegerCache" (some 0) with
  accessFlags := 48
  interfaces := #[]
  cf := some (fileOf pool13 16 #[.nestHost 7] #[{ accessFlags := 2, nameIndex := 5, descriptorIndex := 6, attributes := #[] }] 48 2 #[] #[{ accessFlags := 24, nameIndex := 72, descriptorIndex := 48, attributes := #[] }, { accessFlags := 24, nameIndex := 47, descriptorIndex := 48, attributes := #[] }, { accessFlags := 24, nameIndex := 71, descriptorIndex := 58, attributes := #[] }, { accessFlags := 8, nameIndex := 57, descriptorIndex := 58, attributes := #[] }, { accessFlags := 4120, nameIndex := 19, descriptorIndex := 20, attributes := #[] }])
  fields := #[{ name := "low", type := .int, accessFlags := 24, slot := 0, constantValue := 0 }, { name := "high", type := .int, accessFlags := 24, slot := 1, constantValue := 0 }, { name := "cache", type := (.array (.object "java/lang/Integer")), accessFlags := 24, slot := 2, constantValue := 0 }, { name := "archivedCache", type := (.array (.object "java/lang/Integer")), accessFlags := 8, slot := 3, constantValue := 0 }, { name := "$assertionsDisabled", type := .boolean, accessFlags := 4120, slot := 4, constantValue := 0 }]
  methods := #[k13m0]
  instanceTypes := #[]
  staticTypes := #[.int, .int, (.array (.object "java/lang/Integer")), (.array (.object "java/lang/Integer")), .boolean]
  resolved := Array.replicate 100 none
  statics := some 2 }

def pool14 : Array CpInfo := pool [(1, u "java/lang/Cloneable"), (0, .class_ 1), (0, u "java/lang/Object"), (0, .class_ 3)] 3

/-- java/lang/Cloneable -/
def k14 : Class := { plain "java/lang/Cloneable" (some 0) with
  accessFlags := 1537
  interfaces := #[]
  cf := some (fileOf pool14 2 #[] #[] 1537 4 #[] #[])
  fields := #[]
  methods := #[]
  instanceTypes := #[]
  staticTypes := #[]
  resolved := Array.replicate 8 none
  statics := none }

/-- the primitive byte -/
def k15 : Class := { plain "byte" none with kind := .primitive 'B', accessFlags := 0x411 }
/-- [B -/
def k16 : Class := { plain "[B" (some 0) with kind := .array 15 .byte, interfaces := #[14, 4], accessFlags := 1041 }

/-- the primitive int -/
def k17 : Class := { plain "int" none with kind := .primitive 'I', accessFlags := 0x411 }
/-- [I -/
def k18 : Class := { plain "[I" (some 0) with kind := .array 17 .int, interfaces := #[14, 4], accessFlags := 1041 }

/-- [Ljava/lang/Integer; -/
def k19 : Class := { plain "[Ljava/lang/Integer;" (some 0) with kind := .array 12 (.object "java/lang/Integer"), interfaces := #[14, 4], accessFlags := 1041 }

def heap : Heap := #[{ cls := 2, slots := #[.ref 4, .ref 5, .int 0, .int 0, .ref 6], vm := .statics 2 },
  { cls := 3, slots := #[.ref 7], vm := .statics 3 },
  { cls := 13, slots := #[.int 0, .int 127, .ref 3, .null, .int 0], vm := .statics 13 },
  { cls := 19, slots := #[.ref 8, .ref 9, .ref 10, .ref 11, .ref 12, .ref 13, .ref 14, .ref 15, .ref 16, .ref 17, .ref 18, .ref 19, .ref 20, .ref 21, .ref 22, .ref 23, .ref 24, .ref 25, .ref 26, .ref 27, .ref 28, .ref 29, .ref 30, .ref 31, .ref 32, .ref 33, .ref 34, .ref 35, .ref 36, .ref 37, .ref 38, .ref 39, .ref 40, .ref 41, .ref 42, .ref 43, .ref 44, .ref 45, .ref 46, .ref 47, .ref 48, .ref 49, .ref 50, .ref 51, .ref 52, .ref 53, .ref 54, .ref 55, .ref 56, .ref 57, .ref 58, .ref 59, .ref 60, .ref 61, .ref 62, .ref 63, .ref 64, .ref 65, .ref 66, .ref 67, .ref 68, .ref 69, .ref 70, .ref 71, .ref 72, .ref 73, .ref 74, .ref 75, .ref 76, .ref 77, .ref 78, .ref 79, .ref 80, .ref 81, .ref 82, .ref 83, .ref 84, .ref 85, .ref 86, .ref 87, .ref 88, .ref 89, .ref 90, .ref 91, .ref 92, .ref 93, .ref 94, .ref 95, .ref 96, .ref 97, .ref 98, .ref 99, .ref 100, .ref 101, .ref 102, .ref 103, .ref 104, .ref 105, .ref 106, .ref 107, .ref 108, .ref 109, .ref 110, .ref 111, .ref 112, .ref 113, .ref 114, .ref 115, .ref 116, .ref 117, .ref 118, .ref 119, .ref 120, .ref 121, .ref 122, .ref 123, .ref 124, .ref 125, .ref 126, .ref 127, .ref 128, .ref 129, .ref 130, .ref 131, .ref 132, .ref 133, .ref 134, .ref 135, .ref 136, .ref 137, .ref 138, .ref 139, .ref 140, .ref 141, .ref 142, .ref 143, .ref 144, .ref 145, .ref 146, .ref 147, .ref 148, .ref 149, .ref 150, .ref 151, .ref 152, .ref 153, .ref 154, .ref 155, .ref 156, .ref 157, .ref 158, .ref 159, .ref 160, .ref 161, .ref 162, .ref 163, .ref 164, .ref 165, .ref 166, .ref 167, .ref 168, .ref 169, .ref 170, .ref 171, .ref 172, .ref 173, .ref 174, .ref 175, .ref 176, .ref 177, .ref 178, .ref 179, .ref 180, .ref 181, .ref 182, .ref 183, .ref 184, .ref 185, .ref 186, .ref 187, .ref 188, .ref 189, .ref 190, .ref 191, .ref 192, .ref 193, .ref 194, .ref 195, .ref 196, .ref 197, .ref 198, .ref 199, .ref 200, .ref 201, .ref 202, .ref 203, .ref 204, .ref 205, .ref 206, .ref 207, .ref 208, .ref 209, .ref 210, .ref 211, .ref 212, .ref 213, .ref 214, .ref 215, .ref 216, .ref 217, .ref 218, .ref 219, .ref 220, .ref 221, .ref 222, .ref 223, .ref 224, .ref 225, .ref 226, .ref 227, .ref 228, .ref 229, .ref 230, .ref 231, .ref 232, .ref 233, .ref 234, .ref 235, .ref 236, .ref 237, .ref 238, .ref 239, .ref 240, .ref 241, .ref 242, .ref 243, .ref 244, .ref 245, .ref 246, .ref 247, .ref 248, .ref 249, .ref 250, .ref 251, .ref 252, .ref 253, .ref 254, .ref 255, .ref 256, .ref 257, .ref 258, .ref 259, .ref 260, .ref 261, .ref 262, .ref 263], vm := .none },
  { cls := 2, slots := #[.null], vm := .none },
  { cls := 2, slots := #[.null], vm := .none },
  { cls := 3, slots := #[.ref 7], vm := .none },
  { cls := 3, slots := #[.null], vm := .none },
  { cls := 12, slots := #[.int (-128)], vm := .none },
  { cls := 12, slots := #[.int (-127)], vm := .none },
  { cls := 12, slots := #[.int (-126)], vm := .none },
  { cls := 12, slots := #[.int (-125)], vm := .none },
  { cls := 12, slots := #[.int (-124)], vm := .none },
  { cls := 12, slots := #[.int (-123)], vm := .none },
  { cls := 12, slots := #[.int (-122)], vm := .none },
  { cls := 12, slots := #[.int (-121)], vm := .none },
  { cls := 12, slots := #[.int (-120)], vm := .none },
  { cls := 12, slots := #[.int (-119)], vm := .none },
  { cls := 12, slots := #[.int (-118)], vm := .none },
  { cls := 12, slots := #[.int (-117)], vm := .none },
  { cls := 12, slots := #[.int (-116)], vm := .none },
  { cls := 12, slots := #[.int (-115)], vm := .none },
  { cls := 12, slots := #[.int (-114)], vm := .none },
  { cls := 12, slots := #[.int (-113)], vm := .none },
  { cls := 12, slots := #[.int (-112)], vm := .none },
  { cls := 12, slots := #[.int (-111)], vm := .none },
  { cls := 12, slots := #[.int (-110)], vm := .none },
  { cls := 12, slots := #[.int (-109)], vm := .none },
  { cls := 12, slots := #[.int (-108)], vm := .none },
  { cls := 12, slots := #[.int (-107)], vm := .none },
  { cls := 12, slots := #[.int (-106)], vm := .none },
  { cls := 12, slots := #[.int (-105)], vm := .none },
  { cls := 12, slots := #[.int (-104)], vm := .none },
  { cls := 12, slots := #[.int (-103)], vm := .none },
  { cls := 12, slots := #[.int (-102)], vm := .none },
  { cls := 12, slots := #[.int (-101)], vm := .none },
  { cls := 12, slots := #[.int (-100)], vm := .none },
  { cls := 12, slots := #[.int (-99)], vm := .none },
  { cls := 12, slots := #[.int (-98)], vm := .none },
  { cls := 12, slots := #[.int (-97)], vm := .none },
  { cls := 12, slots := #[.int (-96)], vm := .none },
  { cls := 12, slots := #[.int (-95)], vm := .none },
  { cls := 12, slots := #[.int (-94)], vm := .none },
  { cls := 12, slots := #[.int (-93)], vm := .none },
  { cls := 12, slots := #[.int (-92)], vm := .none },
  { cls := 12, slots := #[.int (-91)], vm := .none },
  { cls := 12, slots := #[.int (-90)], vm := .none },
  { cls := 12, slots := #[.int (-89)], vm := .none },
  { cls := 12, slots := #[.int (-88)], vm := .none },
  { cls := 12, slots := #[.int (-87)], vm := .none },
  { cls := 12, slots := #[.int (-86)], vm := .none },
  { cls := 12, slots := #[.int (-85)], vm := .none },
  { cls := 12, slots := #[.int (-84)], vm := .none },
  { cls := 12, slots := #[.int (-83)], vm := .none },
  { cls := 12, slots := #[.int (-82)], vm := .none },
  { cls := 12, slots := #[.int (-81)], vm := .none },
  { cls := 12, slots := #[.int (-80)], vm := .none },
  { cls := 12, slots := #[.int (-79)], vm := .none },
  { cls := 12, slots := #[.int (-78)], vm := .none },
  { cls := 12, slots := #[.int (-77)], vm := .none },
  { cls := 12, slots := #[.int (-76)], vm := .none },
  { cls := 12, slots := #[.int (-75)], vm := .none },
  { cls := 12, slots := #[.int (-74)], vm := .none },
  { cls := 12, slots := #[.int (-73)], vm := .none },
  { cls := 12, slots := #[.int (-72)], vm := .none },
  { cls := 12, slots := #[.int (-71)], vm := .none },
  { cls := 12, slots := #[.int (-70)], vm := .none },
  { cls := 12, slots := #[.int (-69)], vm := .none },
  { cls := 12, slots := #[.int (-68)], vm := .none },
  { cls := 12, slots := #[.int (-67)], vm := .none },
  { cls := 12, slots := #[.int (-66)], vm := .none },
  { cls := 12, slots := #[.int (-65)], vm := .none },
  { cls := 12, slots := #[.int (-64)], vm := .none },
  { cls := 12, slots := #[.int (-63)], vm := .none },
  { cls := 12, slots := #[.int (-62)], vm := .none },
  { cls := 12, slots := #[.int (-61)], vm := .none },
  { cls := 12, slots := #[.int (-60)], vm := .none },
  { cls := 12, slots := #[.int (-59)], vm := .none },
  { cls := 12, slots := #[.int (-58)], vm := .none },
  { cls := 12, slots := #[.int (-57)], vm := .none },
  { cls := 12, slots := #[.int (-56)], vm := .none },
  { cls := 12, slots := #[.int (-55)], vm := .none },
  { cls := 12, slots := #[.int (-54)], vm := .none },
  { cls := 12, slots := #[.int (-53)], vm := .none },
  { cls := 12, slots := #[.int (-52)], vm := .none },
  { cls := 12, slots := #[.int (-51)], vm := .none },
  { cls := 12, slots := #[.int (-50)], vm := .none },
  { cls := 12, slots := #[.int (-49)], vm := .none },
  { cls := 12, slots := #[.int (-48)], vm := .none },
  { cls := 12, slots := #[.int (-47)], vm := .none },
  { cls := 12, slots := #[.int (-46)], vm := .none },
  { cls := 12, slots := #[.int (-45)], vm := .none },
  { cls := 12, slots := #[.int (-44)], vm := .none },
  { cls := 12, slots := #[.int (-43)], vm := .none },
  { cls := 12, slots := #[.int (-42)], vm := .none },
  { cls := 12, slots := #[.int (-41)], vm := .none },
  { cls := 12, slots := #[.int (-40)], vm := .none },
  { cls := 12, slots := #[.int (-39)], vm := .none },
  { cls := 12, slots := #[.int (-38)], vm := .none },
  { cls := 12, slots := #[.int (-37)], vm := .none },
  { cls := 12, slots := #[.int (-36)], vm := .none },
  { cls := 12, slots := #[.int (-35)], vm := .none },
  { cls := 12, slots := #[.int (-34)], vm := .none },
  { cls := 12, slots := #[.int (-33)], vm := .none },
  { cls := 12, slots := #[.int (-32)], vm := .none },
  { cls := 12, slots := #[.int (-31)], vm := .none },
  { cls := 12, slots := #[.int (-30)], vm := .none },
  { cls := 12, slots := #[.int (-29)], vm := .none },
  { cls := 12, slots := #[.int (-28)], vm := .none },
  { cls := 12, slots := #[.int (-27)], vm := .none },
  { cls := 12, slots := #[.int (-26)], vm := .none },
  { cls := 12, slots := #[.int (-25)], vm := .none },
  { cls := 12, slots := #[.int (-24)], vm := .none },
  { cls := 12, slots := #[.int (-23)], vm := .none },
  { cls := 12, slots := #[.int (-22)], vm := .none },
  { cls := 12, slots := #[.int (-21)], vm := .none },
  { cls := 12, slots := #[.int (-20)], vm := .none },
  { cls := 12, slots := #[.int (-19)], vm := .none },
  { cls := 12, slots := #[.int (-18)], vm := .none },
  { cls := 12, slots := #[.int (-17)], vm := .none },
  { cls := 12, slots := #[.int (-16)], vm := .none },
  { cls := 12, slots := #[.int (-15)], vm := .none },
  { cls := 12, slots := #[.int (-14)], vm := .none },
  { cls := 12, slots := #[.int (-13)], vm := .none },
  { cls := 12, slots := #[.int (-12)], vm := .none },
  { cls := 12, slots := #[.int (-11)], vm := .none },
  { cls := 12, slots := #[.int (-10)], vm := .none },
  { cls := 12, slots := #[.int (-9)], vm := .none },
  { cls := 12, slots := #[.int (-8)], vm := .none },
  { cls := 12, slots := #[.int (-7)], vm := .none },
  { cls := 12, slots := #[.int (-6)], vm := .none },
  { cls := 12, slots := #[.int (-5)], vm := .none },
  { cls := 12, slots := #[.int (-4)], vm := .none },
  { cls := 12, slots := #[.int (-3)], vm := .none },
  { cls := 12, slots := #[.int (-2)], vm := .none },
  { cls := 12, slots := #[.int (-1)], vm := .none },
  { cls := 12, slots := #[.int 0], vm := .none },
  { cls := 12, slots := #[.int 1], vm := .none },
  { cls := 12, slots := #[.int 2], vm := .none },
  { cls := 12, slots := #[.int 3], vm := .none },
  { cls := 12, slots := #[.int 4], vm := .none },
  { cls := 12, slots := #[.int 5], vm := .none },
  { cls := 12, slots := #[.int 6], vm := .none },
  { cls := 12, slots := #[.int 7], vm := .none },
  { cls := 12, slots := #[.int 8], vm := .none },
  { cls := 12, slots := #[.int 9], vm := .none },
  { cls := 12, slots := #[.int 10], vm := .none },
  { cls := 12, slots := #[.int 11], vm := .none },
  { cls := 12, slots := #[.int 12], vm := .none },
  { cls := 12, slots := #[.int 13], vm := .none },
  { cls := 12, slots := #[.int 14], vm := .none },
  { cls := 12, slots := #[.int 15], vm := .none },
  { cls := 12, slots := #[.int 16], vm := .none },
  { cls := 12, slots := #[.int 17], vm := .none },
  { cls := 12, slots := #[.int 18], vm := .none },
  { cls := 12, slots := #[.int 19], vm := .none },
  { cls := 12, slots := #[.int 20], vm := .none },
  { cls := 12, slots := #[.int 21], vm := .none },
  { cls := 12, slots := #[.int 22], vm := .none },
  { cls := 12, slots := #[.int 23], vm := .none },
  { cls := 12, slots := #[.int 24], vm := .none },
  { cls := 12, slots := #[.int 25], vm := .none },
  { cls := 12, slots := #[.int 26], vm := .none },
  { cls := 12, slots := #[.int 27], vm := .none },
  { cls := 12, slots := #[.int 28], vm := .none },
  { cls := 12, slots := #[.int 29], vm := .none },
  { cls := 12, slots := #[.int 30], vm := .none },
  { cls := 12, slots := #[.int 31], vm := .none },
  { cls := 12, slots := #[.int 32], vm := .none },
  { cls := 12, slots := #[.int 33], vm := .none },
  { cls := 12, slots := #[.int 34], vm := .none },
  { cls := 12, slots := #[.int 35], vm := .none },
  { cls := 12, slots := #[.int 36], vm := .none },
  { cls := 12, slots := #[.int 37], vm := .none },
  { cls := 12, slots := #[.int 38], vm := .none },
  { cls := 12, slots := #[.int 39], vm := .none },
  { cls := 12, slots := #[.int 40], vm := .none },
  { cls := 12, slots := #[.int 41], vm := .none },
  { cls := 12, slots := #[.int 42], vm := .none },
  { cls := 12, slots := #[.int 43], vm := .none },
  { cls := 12, slots := #[.int 44], vm := .none },
  { cls := 12, slots := #[.int 45], vm := .none },
  { cls := 12, slots := #[.int 46], vm := .none },
  { cls := 12, slots := #[.int 47], vm := .none },
  { cls := 12, slots := #[.int 48], vm := .none },
  { cls := 12, slots := #[.int 49], vm := .none },
  { cls := 12, slots := #[.int 50], vm := .none },
  { cls := 12, slots := #[.int 51], vm := .none },
  { cls := 12, slots := #[.int 52], vm := .none },
  { cls := 12, slots := #[.int 53], vm := .none },
  { cls := 12, slots := #[.int 54], vm := .none },
  { cls := 12, slots := #[.int 55], vm := .none },
  { cls := 12, slots := #[.int 56], vm := .none },
  { cls := 12, slots := #[.int 57], vm := .none },
  { cls := 12, slots := #[.int 58], vm := .none },
  { cls := 12, slots := #[.int 59], vm := .none },
  { cls := 12, slots := #[.int 60], vm := .none },
  { cls := 12, slots := #[.int 61], vm := .none },
  { cls := 12, slots := #[.int 62], vm := .none },
  { cls := 12, slots := #[.int 63], vm := .none },
  { cls := 12, slots := #[.int 64], vm := .none },
  { cls := 12, slots := #[.int 65], vm := .none },
  { cls := 12, slots := #[.int 66], vm := .none },
  { cls := 12, slots := #[.int 67], vm := .none },
  { cls := 12, slots := #[.int 68], vm := .none },
  { cls := 12, slots := #[.int 69], vm := .none },
  { cls := 12, slots := #[.int 70], vm := .none },
  { cls := 12, slots := #[.int 71], vm := .none },
  { cls := 12, slots := #[.int 72], vm := .none },
  { cls := 12, slots := #[.int 73], vm := .none },
  { cls := 12, slots := #[.int 74], vm := .none },
  { cls := 12, slots := #[.int 75], vm := .none },
  { cls := 12, slots := #[.int 76], vm := .none },
  { cls := 12, slots := #[.int 77], vm := .none },
  { cls := 12, slots := #[.int 78], vm := .none },
  { cls := 12, slots := #[.int 79], vm := .none },
  { cls := 12, slots := #[.int 80], vm := .none },
  { cls := 12, slots := #[.int 81], vm := .none },
  { cls := 12, slots := #[.int 82], vm := .none },
  { cls := 12, slots := #[.int 83], vm := .none },
  { cls := 12, slots := #[.int 84], vm := .none },
  { cls := 12, slots := #[.int 85], vm := .none },
  { cls := 12, slots := #[.int 86], vm := .none },
  { cls := 12, slots := #[.int 87], vm := .none },
  { cls := 12, slots := #[.int 88], vm := .none },
  { cls := 12, slots := #[.int 89], vm := .none },
  { cls := 12, slots := #[.int 90], vm := .none },
  { cls := 12, slots := #[.int 91], vm := .none },
  { cls := 12, slots := #[.int 92], vm := .none },
  { cls := 12, slots := #[.int 93], vm := .none },
  { cls := 12, slots := #[.int 94], vm := .none },
  { cls := 12, slots := #[.int 95], vm := .none },
  { cls := 12, slots := #[.int 96], vm := .none },
  { cls := 12, slots := #[.int 97], vm := .none },
  { cls := 12, slots := #[.int 98], vm := .none },
  { cls := 12, slots := #[.int 99], vm := .none },
  { cls := 12, slots := #[.int 100], vm := .none },
  { cls := 12, slots := #[.int 101], vm := .none },
  { cls := 12, slots := #[.int 102], vm := .none },
  { cls := 12, slots := #[.int 103], vm := .none },
  { cls := 12, slots := #[.int 104], vm := .none },
  { cls := 12, slots := #[.int 105], vm := .none },
  { cls := 12, slots := #[.int 106], vm := .none },
  { cls := 12, slots := #[.int 107], vm := .none },
  { cls := 12, slots := #[.int 108], vm := .none },
  { cls := 12, slots := #[.int 109], vm := .none },
  { cls := 12, slots := #[.int 110], vm := .none },
  { cls := 12, slots := #[.int 111], vm := .none },
  { cls := 12, slots := #[.int 112], vm := .none },
  { cls := 12, slots := #[.int 113], vm := .none },
  { cls := 12, slots := #[.int 114], vm := .none },
  { cls := 12, slots := #[.int 115], vm := .none },
  { cls := 12, slots := #[.int 116], vm := .none },
  { cls := 12, slots := #[.int 117], vm := .none },
  { cls := 12, slots := #[.int 118], vm := .none },
  { cls := 12, slots := #[.int 119], vm := .none },
  { cls := 12, slots := #[.int 120], vm := .none },
  { cls := 12, slots := #[.int 121], vm := .none },
  { cls := 12, slots := #[.int 122], vm := .none },
  { cls := 12, slots := #[.int 123], vm := .none },
  { cls := 12, slots := #[.int 124], vm := .none },
  { cls := 12, slots := #[.int 125], vm := .none },
  { cls := 12, slots := #[.int 126], vm := .none },
  { cls := 12, slots := #[.int 127], vm := .none }]
def classes : Array Class := #[k0, k1, k2, k3, k4, k5, k6, k7, k8, k9, k10, k11, k12, k13, k14, k15, k16, k17, k18, k19]
def interned : List (Array UInt16 × Addr) := []
def slotsUsed : Nat := 527
def theMethod : MethodId := ⟨1, 1⟩
def args0 : Array Value := #[.int 5, .int 5]
def aboutOver (below : List Frame) : State where
  vm := { classes := classes, interned := interned.toArray }
  heap := heap
  slotsUsed := slotsUsed
  threads := #[{ frames := .invoking theMethod args0 :: below }]
def below0 : List Frame := [.native { method := ⟨0, 0⟩, args := #[] }]
def about1 : State := aboutOver below0
def p0 : Program := .bare "" "" ""
def e0 : Env := launch0.env 0 0 0
theorem w_frames : about1.frames = Frame.invoking theMethod args0 :: below0 := rfl
set_option maxRecDepth 65536 in
theorem w_args : argsFit about1.vm theMethod args0 = true := by decide +kernel
set_option maxRecDepth 65536 in
theorem w_heap : heapFits about1 = true := by decide +kernel
set_option maxRecDepth 65536 in
theorem w_runnable : about1.curStatus? = some .runnable := by decide +kernel
set_option maxRecDepth 65536 in
theorem w_alone : about1.alone = true := by decide +kernel
set_option maxRecDepth 65536 in
theorem w_named : about1.methodNamed? x = some theMethod := by decide +kernel
set_option maxRecDepth 65536 in
theorem w_hears : about1.hears theMethod below0 = true := by decide +kernel
set_option maxRecDepth 65536 in
theorem w_ripe : about1.ripe theMethod args0 below0 = true := by decide +kernel
theorem w_running : about1.status = .running := rfl
set_option maxRecDepth 65536 in
theorem w_room : about1.hasRoom e0.platform room_1 = true :=
  launch0.hasRoom_least _ room_1 (by decide +kernel) (by decide +kernel) (by decide +kernel) (by decide +kernel) (by decide +kernel) (by decide +kernel)
theorem allAtoms_all (ts : List Jvm.Cond) (a : Array Jvm.Value) (st : Jvm.State) : (allAtoms ts).before a st = ts.all (fun c => c.before a st) := by
  induction ts with
  | nil => rfl
  | cons c t ih =>
    show (Jvm.Cond.and c (allAtoms t)).before a st = _
    rw [Jvm.Cond.before_and, ih, List.all_cons]
def words1 : List Jvm.Cond := Jvm.Cond.code x code maxLocals ret :: tables_1
/-- a 'code' word, met by the world's own term for the bytes: nothing is compared byte by byte -/
theorem code_word {y : MethodName} {bytes : ByteArray} {mx : Nat} {rt : Option FieldType} {a : Array Value} {s : State} {m : MethodId} {meth : Method} {c : Code} (h1 : s.methodNamed? y = some m) (h2 : s.vm.method? m = some meth) (h3 : meth.code = some c) (h4 : c.code = bytes)
    (h5 : (c.maxLocals == mx && c.exceptionTable.isEmpty && decide (c.maxStack ≤ mostOperands) && decide (meth.sig.returnType = rt) && !meth.locks && decide (parseMethodDescriptor y.desc = some meth.sig)) = true) : (Jvm.Cond.code y bytes mx rt).before a s = true := by
  simp only [Bool.and_eq_true, beq_iff_eq, Bool.not_eq_true', decide_eq_true_eq] at h5
  obtain ⟨⟨⟨⟨⟨g1, g2⟩, g3⟩, g4⟩, g5⟩, g6⟩ := h5
  simp [Cond.before, Cond.holds, Cond.value, h1, h2, h3, h4, g1, g2, g3, g4, g5, g6]
def isCode : Jvm.Cond → Bool
  | .code _ _ _ _ => true
  | _ => false
theorem all_split {L : List Jvm.Cond} {P : Jvm.Cond → Bool} (h1 : L.all (fun c => isCode c || P c) = true) (h2 : ∀ c ∈ L.filter isCode, P c = true) : L.all P = true := by
  refine List.all_eq_true.mpr fun c hc => ?_
  have h := List.all_eq_true.mp h1 c hc
  rcases Bool.eq_false_or_eq_true (isCode c) with hi | hi
  · exact h2 c (List.mem_filter.mpr ⟨hc, hi⟩)
  · simpa [hi] using h
set_option maxRecDepth 65536 in
theorem w_c0 : (Jvm.Cond.code x code maxLocals ret).before args0 about1 = true := code_word (m := ⟨1, 1⟩) (meth := k1m1) (c := k1c1) (by decide +kernel) rfl rfl rfl (by decide +kernel)
set_option maxRecDepth 65536 in
theorem w_c1 : (Jvm.Cond.code ({ cls := "tertium/Tertium", name := "absent", desc := "()Ltertium/Tertium;" } : Jvm.MethodName) prog_1_method_2_code (0 : Nat) (Option.some (Jvm.ClassFile.FieldType.object "tertium/Tertium"))).before args0 about1 = true := code_word (m := ⟨2, 1⟩) (meth := k2m1) (c := k2c1) (by decide +kernel) rfl rfl rfl (by decide +kernel)
set_option maxRecDepth 65536 in
theorem w_c2 : (Jvm.Cond.code ({ cls := "tertium/Tertium", name := "toNestedOptional", desc := "()Ljava/util/Optional;" } : Jvm.MethodName) prog_1_method_25_code (1 : Nat) (Option.some (Jvm.ClassFile.FieldType.object "java/util/Optional"))).before args0 about1 = true := code_word (m := ⟨2, 8⟩) (meth := k2m8) (c := k2c8) (by decide +kernel) rfl rfl rfl (by decide +kernel)
set_option maxRecDepth 65536 in
theorem w_c3 : (Jvm.Cond.code ({ cls := "tertium/Tertium", name := "isAbsent", desc := "()Z" } : Jvm.MethodName) prog_1_method_9_code (1 : Nat) (Option.some Jvm.ClassFile.FieldType.boolean)).before args0 about1 = true := code_word (m := ⟨2, 5⟩) (meth := k2m5) (c := k2c5) (by decide +kernel) rfl rfl rfl (by decide +kernel)
set_option maxRecDepth 65536 in
theorem w_c4 : (Jvm.Cond.code ({ cls := "java/util/Optional", name := "empty", desc := "()Ljava/util/Optional;" } : Jvm.MethodName) jdk_32_method_1_code (1 : Nat) (Option.some (Jvm.ClassFile.FieldType.object "java/util/Optional"))).before args0 about1 = true := code_word (m := ⟨3, 0⟩) (meth := k3m0) (c := k3c0) (by decide +kernel) rfl rfl rfl (by decide +kernel)
set_option maxRecDepth 65536 in
theorem w_c5 : (Jvm.Cond.code ({ cls := "tertium/Tertium", name := "fromNestedOptional", desc := "(Ljava/util/Optional;)Ltertium/Tertium;" } : Jvm.MethodName) prog_1_method_6_code (1 : Nat) (Option.some (Jvm.ClassFile.FieldType.object "tertium/Tertium"))).before args0 about1 = true := code_word (m := ⟨2, 4⟩) (meth := k2m4) (c := k2c4) (by decide +kernel) rfl rfl rfl (by decide +kernel)
set_option maxRecDepth 65536 in
theorem w_c6 : (Jvm.Cond.code ({ cls := "java/util/Objects", name := "requireNonNull", desc := "(Ljava/lang/Object;Ljava/lang/String;)Ljava/lang/Object;" } : Jvm.MethodName) jdk_31_method_11_code (2 : Nat) (Option.some (Jvm.ClassFile.FieldType.object "java/lang/Object"))).before args0 about1 = true := code_word (m := ⟨10, 2⟩) (meth := k10m2) (c := k10c2) (by decide +kernel) rfl rfl rfl (by decide +kernel)
set_option maxRecDepth 65536 in
theorem w_c7 : (Jvm.Cond.code ({ cls := "java/util/Optional", name := "isPresent", desc := "()Z" } : Jvm.MethodName) jdk_32_method_6_code (1 : Nat) (Option.some Jvm.ClassFile.FieldType.boolean)).before args0 about1 = true := code_word (m := ⟨3, 4⟩) (meth := k3m4) (c := k3c4) (by decide +kernel) rfl rfl rfl (by decide +kernel)
set_option maxRecDepth 65536 in
theorem w_c8 : (Jvm.Cond.code ({ cls := "tertium/Tertium", name := "isNull", desc := "()Z" } : Jvm.MethodName) prog_1_method_11_code (1 : Nat) (Option.some Jvm.ClassFile.FieldType.boolean)).before args0 about1 = true := code_word (m := ⟨2, 6⟩) (meth := k2m6) (c := k2c6) (by decide +kernel) rfl rfl rfl (by decide +kernel)
set_option maxRecDepth 65536 in
theorem w_c9 : (Jvm.Cond.code ({ cls := "java/lang/Integer", name := "valueOf", desc := "(I)Ljava/lang/Integer;" } : Jvm.MethodName) jdk_33_method_22_code (1 : Nat) (Option.some (Jvm.ClassFile.FieldType.object "java/lang/Integer"))).before args0 about1 = true := code_word (m := ⟨12, 0⟩) (meth := k12m0) (c := k12c0) (by decide +kernel) rfl rfl rfl (by decide +kernel)
set_option maxRecDepth 65536 in
theorem w_c10 : (Jvm.Cond.code ({ cls := "tertium/Tertium", name := "of", desc := "(Ljava/lang/Object;)Ltertium/Tertium;" } : Jvm.MethodName) prog_1_method_4_code (1 : Nat) (Option.some (Jvm.ClassFile.FieldType.object "tertium/Tertium"))).before args0 about1 = true := code_word (m := ⟨2, 3⟩) (meth := k2m3) (c := k2c3) (by decide +kernel) rfl rfl rfl (by decide +kernel)
set_option maxRecDepth 65536 in
theorem w_c11 : (Jvm.Cond.code ({ cls := "tertium/Tertium", name := "<init>", desc := "(Ljava/lang/Object;)V" } : Jvm.MethodName) prog_1_method_1_code (2 : Nat) (Option.none : Option Jvm.ClassFile.FieldType)).before args0 about1 = true := code_word (m := ⟨2, 0⟩) (meth := k2m0) (c := k2c0) (by decide +kernel) rfl rfl rfl (by decide +kernel)
set_option maxRecDepth 65536 in
theorem w_c12 : (Jvm.Cond.code ({ cls := "java/lang/Object", name := "<init>", desc := "()V" } : Jvm.MethodName) object_method_1_code (1 : Nat) (Option.none : Option Jvm.ClassFile.FieldType)).before args0 about1 = true := code_word (m := ⟨0, 0⟩) (meth := k0m0) (c := k0c0) (by decide +kernel) rfl rfl rfl (by decide +kernel)
set_option maxRecDepth 65536 in
theorem w_c13 : (Jvm.Cond.code ({ cls := "java/util/Optional", name := "of", desc := "(Ljava/lang/Object;)Ljava/util/Optional;" } : Jvm.MethodName) jdk_32_method_3_code (1 : Nat) (Option.some (Jvm.ClassFile.FieldType.object "java/util/Optional"))).before args0 about1 = true := code_word (m := ⟨3, 2⟩) (meth := k3m2) (c := k3c2) (by decide +kernel) rfl rfl rfl (by decide +kernel)
set_option maxRecDepth 65536 in
theorem w_c14 : (Jvm.Cond.code ({ cls := "java/util/Objects", name := "requireNonNull", desc := "(Ljava/lang/Object;)Ljava/lang/Object;" } : Jvm.MethodName) jdk_31_method_10_code (1 : Nat) (Option.some (Jvm.ClassFile.FieldType.object "java/lang/Object"))).before args0 about1 = true := code_word (m := ⟨10, 1⟩) (meth := k10m1) (c := k10c1) (by decide +kernel) rfl rfl rfl (by decide +kernel)
set_option maxRecDepth 65536 in
theorem w_c15 : (Jvm.Cond.code ({ cls := "java/util/Optional", name := "<init>", desc := "(Ljava/lang/Object;)V" } : Jvm.MethodName) jdk_32_method_2_code (2 : Nat) (Option.none : Option Jvm.ClassFile.FieldType)).before args0 about1 = true := code_word (m := ⟨3, 1⟩) (meth := k3m1) (c := k3c1) (by decide +kernel) rfl rfl rfl (by decide +kernel)
set_option maxRecDepth 65536 in
theorem w_c16 : (Jvm.Cond.code ({ cls := "java/util/Optional", name := "get", desc := "()Ljava/lang/Object;" } : Jvm.MethodName) jdk_32_method_5_code (1 : Nat) (Option.some (Jvm.ClassFile.FieldType.object "java/lang/Object"))).before args0 about1 = true := code_word (m := ⟨3, 3⟩) (meth := k3m3) (c := k3c3) (by decide +kernel) rfl rfl rfl (by decide +kernel)
set_option maxRecDepth 65536 in
theorem w_c17 : (Jvm.Cond.code ({ cls := "java/util/Optional", name := "orElse", desc := "(Ljava/lang/Object;)Ljava/lang/Object;" } : Jvm.MethodName) jdk_32_method_15_code (2 : Nat) (Option.some (Jvm.ClassFile.FieldType.object "java/lang/Object"))).before args0 about1 = true := code_word (m := ⟨3, 5⟩) (meth := k3m5) (c := k3c5) (by decide +kernel) rfl rfl rfl (by decide +kernel)
set_option maxRecDepth 65536 in
theorem w_c18 : (Jvm.Cond.code ({ cls := "tertium/Tertium", name := "get", desc := "()Ljava/lang/Object;" } : Jvm.MethodName) prog_1_method_14_code (1 : Nat) (Option.some (Jvm.ClassFile.FieldType.object "java/lang/Object"))).before args0 about1 = true := code_word (m := ⟨2, 7⟩) (meth := k2m7) (c := k2c7) (by decide +kernel) rfl rfl rfl (by decide +kernel)
set_option maxRecDepth 65536 in
theorem w_c19 : (Jvm.Cond.code ({ cls := "java/lang/Integer", name := "intValue", desc := "()I" } : Jvm.MethodName) jdk_33_method_27_code (1 : Nat) (Option.some Jvm.ClassFile.FieldType.int)).before args0 about1 = true := code_word (m := ⟨12, 2⟩) (meth := k12m2) (c := k12c2) (by decide +kernel) rfl rfl rfl (by decide +kernel)
set_option maxRecDepth 65536 in
theorem w_c20 : (Jvm.Cond.code ({ cls := "java/lang/Integer", name := "<init>", desc := "(I)V" } : Jvm.MethodName) jdk_33_method_23_code (2 : Nat) (Option.none : Option Jvm.ClassFile.FieldType)).before args0 about1 = true := code_word (m := ⟨12, 1⟩) (meth := k12m1) (c := k12c1) (by decide +kernel) rfl rfl rfl (by decide +kernel)
set_option maxRecDepth 65536 in
theorem w_c21 : (Jvm.Cond.code ({ cls := "java/lang/Number", name := "<init>", desc := "()V" } : Jvm.MethodName) jdk_18_method_1_code (1 : Nat) (Option.none : Option Jvm.ClassFile.FieldType)).before args0 about1 = true := code_word (m := ⟨11, 0⟩) (meth := k11m0) (c := k11c0) (by decide +kernel) rfl rfl rfl (by decide +kernel)
set_option maxRecDepth 65536 in
theorem w_c22 : (Jvm.Cond.code ({ cls := "tertium/Tertium", name := "ofNull", desc := "()Ltertium/Tertium;" } : Jvm.MethodName) prog_1_method_3_code (0 : Nat) (Option.some (Jvm.ClassFile.FieldType.object "tertium/Tertium"))).before args0 about1 = true := code_word (m := ⟨2, 2⟩) (meth := k2m2) (c := k2c2) (by decide +kernel) rfl rfl rfl (by decide +kernel)
def codes1 : List Jvm.Cond := [Jvm.Cond.code x code maxLocals ret, Jvm.Cond.code ({ cls := "tertium/Tertium", name := "absent", desc := "()Ltertium/Tertium;" } : Jvm.MethodName) prog_1_method_2_code (0 : Nat) (Option.some (Jvm.ClassFile.FieldType.object "tertium/Tertium")), Jvm.Cond.code ({ cls := "tertium/Tertium", name := "toNestedOptional", desc := "()Ljava/util/Optional;" } : Jvm.MethodName) prog_1_method_25_code (1 : Nat) (Option.some (Jvm.ClassFile.FieldType.object "java/util/Optional")), Jvm.Cond.code ({ cls := "tertium/Tertium", name := "isAbsent", desc := "()Z" } : Jvm.MethodName) prog_1_method_9_code (1 : Nat) (Option.some Jvm.ClassFile.FieldType.boolean), Jvm.Cond.code ({ cls := "java/util/Optional", name := "empty", desc := "()Ljava/util/Optional;" } : Jvm.MethodName) jdk_32_method_1_code (1 : Nat) (Option.some (Jvm.ClassFile.FieldType.object "java/util/Optional")), Jvm.Cond.code ({ cls := "tertium/Tertium", name := "fromNestedOptional", desc := "(Ljava/util/Optional;)Ltertium/Tertium;" } : Jvm.MethodName) prog_1_method_6_code (1 : Nat) (Option.some (Jvm.ClassFile.FieldType.object "tertium/Tertium")), Jvm.Cond.code ({ cls := "java/util/Objects", name := "requireNonNull", desc := "(Ljava/lang/Object;Ljava/lang/String;)Ljava/lang/Object;" } : Jvm.MethodName) jdk_31_method_11_code (2 : Nat) (Option.some (Jvm.ClassFile.FieldType.object "java/lang/Object")), Jvm.Cond.code ({ cls := "java/util/Optional", name := "isPresent", desc := "()Z" } : Jvm.MethodName) jdk_32_method_6_code (1 : Nat) (Option.some Jvm.ClassFile.FieldType.boolean), Jvm.Cond.code ({ cls := "tertium/Tertium", name := "isNull", desc := "()Z" } : Jvm.MethodName) prog_1_method_11_code (1 : Nat) (Option.some Jvm.ClassFile.FieldType.boolean), Jvm.Cond.code ({ cls := "java/lang/Integer", name := "valueOf", desc := "(I)Ljava/lang/Integer;" } : Jvm.MethodName) jdk_33_method_22_code (1 : Nat) (Option.some (Jvm.ClassFile.FieldType.object "java/lang/Integer")), Jvm.Cond.code ({ cls := "tertium/Tertium", name := "of", desc := "(Ljava/lang/Object;)Ltertium/Tertium;" } : Jvm.MethodName) prog_1_method_4_code (1 : Nat) (Option.some (Jvm.ClassFile.FieldType.object "tertium/Tertium")), Jvm.Cond.code ({ cls := "tertium/Tertium", name := "<init>", desc := "(Ljava/lang/Object;)V" } : Jvm.MethodName) prog_1_method_1_code (2 : Nat) (Option.none : Option Jvm.ClassFile.FieldType), Jvm.Cond.code ({ cls := "java/lang/Object", name := "<init>", desc := "()V" } : Jvm.MethodName) object_method_1_code (1 : Nat) (Option.none : Option Jvm.ClassFile.FieldType), Jvm.Cond.code ({ cls := "java/util/Optional", name := "of", desc := "(Ljava/lang/Object;)Ljava/util/Optional;" } : Jvm.MethodName) jdk_32_method_3_code (1 : Nat) (Option.some (Jvm.ClassFile.FieldType.object "java/util/Optional")), Jvm.Cond.code ({ cls := "java/util/Objects", name := "requireNonNull", desc := "(Ljava/lang/Object;)Ljava/lang/Object;" } : Jvm.MethodName) jdk_31_method_10_code (1 : Nat) (Option.some (Jvm.ClassFile.FieldType.object "java/lang/Object")), Jvm.Cond.code ({ cls := "java/util/Optional", name := "<init>", desc := "(Ljava/lang/Object;)V" } : Jvm.MethodName) jdk_32_method_2_code (2 : Nat) (Option.none : Option Jvm.ClassFile.FieldType), Jvm.Cond.code ({ cls := "java/util/Optional", name := "get", desc := "()Ljava/lang/Object;" } : Jvm.MethodName) jdk_32_method_5_code (1 : Nat) (Option.some (Jvm.ClassFile.FieldType.object "java/lang/Object")), Jvm.Cond.code ({ cls := "java/util/Optional", name := "orElse", desc := "(Ljava/lang/Object;)Ljava/lang/Object;" } : Jvm.MethodName) jdk_32_method_15_code (2 : Nat) (Option.some (Jvm.ClassFile.FieldType.object "java/lang/Object")), Jvm.Cond.code ({ cls := "tertium/Tertium", name := "get", desc := "()Ljava/lang/Object;" } : Jvm.MethodName) prog_1_method_14_code (1 : Nat) (Option.some (Jvm.ClassFile.FieldType.object "java/lang/Object")), Jvm.Cond.code ({ cls := "java/lang/Integer", name := "intValue", desc := "()I" } : Jvm.MethodName) jdk_33_method_27_code (1 : Nat) (Option.some Jvm.ClassFile.FieldType.int), Jvm.Cond.code ({ cls := "java/lang/Integer", name := "<init>", desc := "(I)V" } : Jvm.MethodName) jdk_33_method_23_code (2 : Nat) (Option.none : Option Jvm.ClassFile.FieldType), Jvm.Cond.code ({ cls := "java/lang/Number", name := "<init>", desc := "()V" } : Jvm.MethodName) jdk_18_method_1_code (1 : Nat) (Option.none : Option Jvm.ClassFile.FieldType), Jvm.Cond.code ({ cls := "tertium/Tertium", name := "ofNull", desc := "()Ltertium/Tertium;" } : Jvm.MethodName) prog_1_method_3_code (0 : Nat) (Option.some (Jvm.ClassFile.FieldType.object "tertium/Tertium"))]
set_option maxRecDepth 65536 in
theorem codes_eq : words1.filter isCode = codes1 := rfl
theorem w_codes : ∀ c ∈ words1.filter isCode, c.before args0 about1 = true := by
  rw [codes_eq]
  intro c hc
  simp only [codes1, List.mem_cons, List.not_mem_nil, or_false] at hc
  rcases hc with rfl | rfl | rfl | rfl | rfl | rfl | rfl | rfl | rfl | rfl | rfl | rfl | rfl | rfl | rfl | rfl | rfl | rfl | rfl | rfl | rfl | rfl | rfl
  · exact w_c0
  · exact w_c1
  · exact w_c2
  · exact w_c3
  · exact w_c4
  · exact w_c5
  · exact w_c6
  · exact w_c7
  · exact w_c8
  · exact w_c9
  · exact w_c10
  · exact w_c11
  · exact w_c12
  · exact w_c13
  · exact w_c14
  · exact w_c15
  · exact w_c16
  · exact w_c17
  · exact w_c18
  · exact w_c19
  · exact w_c20
  · exact w_c21
  · exact w_c22
set_option maxRecDepth 65536 in
theorem w_t1 : (words1.take 24).all (fun c => isCode c || c.before args0 about1) = true := by decide +kernel
set_option maxRecDepth 65536 in
theorem w_t2 : ((words1.drop 24).take 24).all (fun c => isCode c || c.before args0 about1) = true := by decide +kernel
set_option maxRecDepth 65536 in
theorem w_t3 : (((words1.drop 24).drop 24).take 24).all (fun c => isCode c || c.before args0 about1) = true := by decide +kernel
set_option maxRecDepth 65536 in
theorem w_t4 : ((((words1.drop 24).drop 24).drop 24).take 24).all (fun c => isCode c || c.before args0 about1) = true := by decide +kernel
set_option maxRecDepth 65536 in
theorem w_t5 : (((((words1.drop 24).drop 24).drop 24).drop 24).take 24).all (fun c => isCode c || c.before args0 about1) = true := by decide +kernel
set_option maxRecDepth 65536 in
theorem w_t6 : (((((words1.drop 24).drop 24).drop 24).drop 24).drop 24).all (fun c => isCode c || c.before args0 about1) = true := by decide +kernel
theorem w_tables : (allAtoms (Jvm.Cond.code x code maxLocals ret :: tables_1)).before args0 about1 = true := by
  rw [allAtoms_all]
  show words1.all (fun c => c.before args0 about1) = true
  refine all_split ?_ w_codes
  rw [← List.take_append_drop 24 words1, List.all_append, w_t1, ← List.take_append_drop 24 (words1.drop 24), List.all_append, w_t2, ← List.take_append_drop 24 ((words1.drop 24).drop 24), List.all_append, w_t3, ← List.take_append_drop 24 (((words1.drop 24).drop 24).drop 24), List.all_append, w_t4, ← List.take_append_drop 24 ((((words1.drop 24).drop 24).drop 24).drop 24), List.all_append, w_t5, w_t6]
  rfl
set_option maxRecDepth 65536 in
theorem w_rest : rest_1_c.before args0 about1 = true := by decide +kernel
set_option maxRecDepth 65536 in
theorem w_case : (Jvm.Cond.and given_1 narrow_1).before args0 about1 = true := by decide +kernel
theorem w_applies : (headSpec (Jvm.Cond.code x code maxLocals ret :: tables_1) room_1).applies x e0.platform about1 = true :=
  (Spec.applies_iff w_frames).mpr ⟨w_running, w_runnable, w_alone, w_named, w_hears, w_ripe, w_room, w_tables⟩
theorem atStart : AtStart classFile x code maxLocals ret World_1 tables_1 room_1 Calls_1 rest_1 Pre_1 launch0 p0 e0 about1 theMethod args0 below0 :=
  ⟨lists_1, trivial, launch0.admits_env _ _ _, launch0.least_env, fairChoices_fair.cas, fairChoices_fair.clock, w_frames, w_args, w_heap, w_applies, trivial, w_rest, w_case⟩
end start1
theorem witness_1 : WitnessClaimed_1 := ⟨start1.p0, start1.e0, start1.about1, start1.theMethod, start1.args0, start1.below0, start1.atStart⟩
end Jvm.Pilot.@@N@@
