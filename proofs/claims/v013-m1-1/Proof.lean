import JvmDerived
import JvmDerived.Pilot.@@N@@Statement
import JvmDerived.Pilot.@@N@@Code
set_option linter.unusedVariables false
set_option linter.unusedSimpArgs false
@@BLOCK:NumsL.lean.txt@@
namespace Jvm.RoadKit
open Sem ClassFile Op Lib Jvm.Stand Jvm.Free Jvm.LawKit
section New
variable {p : Program} {l : Launch} {e : Env} {R : Room} {s : State} {m : MethodId} {args : Array Value} {below : List Frame} {meth : Method} {c : Code} {T : State} {locs : List Loc} {cells slots : Nat}
theorem retI (X : Stand p l e R s m args below meth c T locs cells slots) (hx : p.tables.exec = Jvm.exec) {pc : Nat} {Ls : Array Slot} {z : Int32} {rest : List Value} (hret : meth.sig.returnType = some .int) (hd : decode c.code pc = .ok (.ireturn, 1)) {fs : List Frame}
    (hl : ∀ (f : JFrame) (acts : List Action), f.method = m → f.locked = none → f.entered = [] → (doReturn e (T.setTop f) acts (some (.int z))).1 = T.setFrames fs) : Steps p.tables e below (T.setTop (mkF m pc Ls (.int z :: rest))) (T.setFrames fs) := by
  have hm' : T.vm.method? m = some meth := X.method'
  have hn : narrow .int (.int z) = .int z := rfl
  show Steps p.tables e below (T.setTop { method := m, pc := pc, locals := Ls, stack := _ :: rest, locked := none }) _
  jvm_step X.here [X.here.top, hx, hd, hm', hret, hn]
  first | (intro acts; rw [hl _ acts rfl rfl rfl]) | rw [hl _ _ rfl rfl rfl]
  exact Steps.refl _
end New
end Jvm.RoadKit
namespace Jvm.Pilot.@@N@@
open Jvm Jvm.ClassFile Sem Op Lib Jvm.Free Jvm.Stand Jvm.LawKit Jvm.RoadKit Bundle Jvm.Pilot.@@N@@.Jvm.D
/-! own_Goes: from S the run comes to some state of which G holds: such a goal may be split in the middle of a walk -/
def own_Goes (p : Program) (e : Env) (below : List Frame) (S : State) (G : State → Prop) : Prop := ∃ t, Steps p.tables e below S t ∧ G t
theorem own_via {p : Program} {e : Env} {below : List Frame} {S S' : State} {G : State → Prop} (f : ∀ t, Steps p.tables e below S' t → Steps p.tables e below S t) (h : own_Goes p e below S' G) : own_Goes p e below S G := by
  obtain ⟨t, h1, h2⟩ := h
  exact ⟨t, f t h1, h2⟩
theorem own_end {p : Program} {e : Env} {below : List Frame} {S t : State} {G : State → Prop} (h : Steps p.tables e below S t) (g : G t) : own_Goes p e below S G := ⟨t, h, g⟩
theorem own_out {p : Program} {e : Env} {below : List Frame} {S : State} {P : State → Outcome → Prop} (h : own_Goes p e below S (fun t => ∃ o, t.status = .running ∧ Ended t below o ∧ P t o)) : ∃ t o, Steps p.tables e below S t ∧ t.status = .running ∧ Ended t below o ∧ P t o := by
  obtain ⟨t, h1, o, h2, h3, h4⟩ := h
  exact ⟨t, o, h1, h2, h3, h4⟩
theorem wd {a0 : Array Value} {Z : State} (hw : ∀ d ∈ tables_1, d.before a0 Z = true) (i : Nat) {d : Jvm.Cond} (h : tables_1[i]? = some d) : d.before a0 Z = true := hw _ (List.mem_of_getElem? h)
theorem own_old {Z : State} {n0 : Nat} {h : Heap} (O : Old Z n0 h) : n0 ≤ h.size := by rw [← O.1]; exact O.2.1
def own_Q0 (n0 : Nat) (v : Option Value) (L : List Loc) : Prop := v = some (.int (1 : Int32)) ∧ Fr n0 L
def own_G (s : State) (below : List Frame) (n0 : Nat) (t : State) : Prop := ∃ o, t.status = .running ∧ Ended t below o ∧ ∃ v L, o = .returned v ∧ own_Q0 n0 v L ∧ ReturnedEndW s o t L room_1.cells room_1.slots
def own_Len (Z : State) (h : Heap) (a : Addr) (ty : FieldType) (n : Int32) : Prop := ∃ k vs d, Arv Z h a k ty n vs d
theorem own_len_ext {Z : State} {h h' : Heap} {a : Addr} {ty : FieldType} {n : Int32} (F : own_Len Z h a ty n) (E : Ext h h') : own_Len Z h' a ty n := by
  obtain ⟨k, vs, d, V⟩ := F
  exact ⟨k, vs, d, V.ext E⟩
theorem own_len_other {Z : State} {h h' : Heap} {a b : Addr} {sl : Nat} {v : Value} {ty : FieldType} {n : Int32} (F : own_Len Z h b ty n) (W : Wr h h' a sl v) (q : b ≠ a) : own_Len Z h' b ty n := by
  obtain ⟨k, vs, d, V⟩ := F
  exact ⟨k, vs, d, V.other W q⟩
theorem own_len_keep {Z : State} {h h' : Heap} {a : Addr} {ws : List Addr} {ty : FieldType} {n : Int32} (F : own_Len Z h a ty n) (K : Keep h h' ws) (q : a ∉ ws) : own_Len Z h' a ty n := by
  obtain ⟨k, vs, d, V⟩ := F
  exact ⟨k, vs, d, V.keep K q⟩
theorem own_len_lt {Z : State} {h : Heap} {a : Addr} {ty : FieldType} {n : Int32} (F : own_Len Z h a ty n) : a < h.size := by
  obtain ⟨k, vs, d, V⟩ := F
  exact V.lt
theorem own_c2 (x : Int32) : x.toUInt32.toUInt16.toUInt32.toInt32.toUInt32.toUInt16.toUInt32.toInt32 = x.toUInt32.toUInt16.toUInt32.toInt32 := by rw [UInt32.toUInt32_toInt32, UInt16.toUInt16_toUInt32]
theorem own_b2 (x : Int32) : x.toInt8.toInt32.toInt8.toInt32 = x.toInt8.toInt32 := by rw [Int8.toInt8_toInt32]
section Calls
variable {p : Program} {l : Launch} {e : Env} {R : Room} {s : State} {m : MethodId} {args : Array Value} {below : List Frame} {meth : Method} {c : Code} {T : State} {locs : List Loc} {cells slots : Nat} {Z : State} {a0 : Array Value} {h : Heap} {own C : String} {index : Nat} {y : MethodName} {bytes : ByteArray} {maxL : Nat} {rm : Room} {Q : Option Value → Heap → List Loc → Prop} {a : Addr} {argsL : List Value} {g : JFrame}
/-! a call by its contract, in one step: virtual (the class's own method), a constructor, static -/
theorem own_cv {ret : Option FieldType} (X : Stand p l e R s m args below meth c T locs cells slots) (hx : p.tables.exec = Jvm.exec) (hZ : Z.Warmed39 s.vm) (hown : s.vm.findClass own = some m.cls) (w1 : (Jvm.Cond.methodLink own index y).before a0 Z = true) (w2 : (Jvm.Cond.declares y).before a0 Z = true) (w3 : (Jvm.Cond.selects C y y).before a0 Z = true) (w4 : (Jvm.Cond.instanceMethod y).before a0 Z = true) (wc : (Jvm.Cond.code y bytes maxL ret).before a0 Z = true) (wz : (Jvm.Cond.initialized y.cls).before a0 Z = true) (hy : y.cls ≠ "java/lang/invoke/MethodHandle" ∧ y.cls ≠ "java/lang/invoke/VarHandle")
    (hM : MetFree l y (head1 [Jvm.Cond.code y bytes maxL ret] rm) (fun A U => A = (.ref a :: argsL).toArray ∧ Z.Warmed39 U.vm ∧ U.heap = h) (fun _ _ _ _ _ => True) (fun _ U o U' => ∃ v L, o = .returned v ∧ Q v U'.heap L ∧ FrameEnd U o U' L rm.cells rm.slots)) (eT : T.heap = h) (E : Exa Z h a C) (hg : g.method = m) (hsize : g.locals.size = c.maxLocals) {rest : List Value} {W : Nat}
    (hlen : ∀ sig, parseMethodDescriptor y.desc = some sig → argsL.length = sig.parameters.length) (hstack : g.stack = argsL.reverse ++ .ref a :: rest) (hW : 2 * g.monitorRoom + (rest.map fun v => v.category).sum ≤ W) (hdg : decode c.code g.pc = .ok (.invokevirtual index, 3)) (r1 : rm.frames + 1 ≤ R.frames) (r2 : W + (maxL + 11) + rm.locals ≤ R.locals) (r3 : cells + rm.cells ≤ R.cells) (r4 : slots + rm.slots ≤ R.slots) :
    ∃ (v : Option Value) (T' : State) (L : List Loc), Stand p l e R s m args below meth c T' (locs ++ L) (cells + rm.cells) (slots + rm.slots) ∧ Q v T'.heap L ∧ ∀ t, Steps p.tables e below (T'.setTop { g with pc := g.pc + 3, stack := v.toList ++ rest }) t → Steps p.tables e below (T.setTop g) t := by
  obtain ⟨cq, kq, qa, -, qc⟩ := isOf hZ eT E
  obtain ⟨v, _, ⟨T', L', c', n'⟩, -, X', ⟨Lc, hQ, l1, y1, z1⟩, st⟩ := X.virtualBack hx (y := y) (z := y) hown (mvT hZ w1) (mvT hZ w2) (notFace_of_selects (args := #[]) (mvT hZ w3)) (mvT hZ w3) (mvT hZ w4) hy (backOf (W := W) hM hZ wc wz r1 r2) qa qc (g := g) hg hsize (Steps.refl _) (argsL := argsL) (rest := rest) hlen hstack hW hdg (fun _ _ => ⟨rfl, eT, r3, r4⟩)
  dsimp only [Pt.U, Pt.locs, Pt.cells, Pt.slots] at X' l1 y1 z1 st hQ
  subst l1 y1 z1
  exact ⟨v, T', Lc, X', hQ, fun t k => st.trans k⟩
theorem own_ci (X : Stand p l e R s m args below meth c T locs cells slots) (hx : p.tables.exec = Jvm.exec) (hZ : Z.Warmed39 s.vm) (hown : s.vm.findClass own = some m.cls) (w1 : (Jvm.Cond.methodLink own index y).before a0 Z = true) (w4 : (Jvm.Cond.instanceMethod y).before a0 Z = true) (wc : (Jvm.Cond.code y bytes maxL none).before a0 Z = true) (wz : (Jvm.Cond.initialized y.cls).before a0 Z = true) (hi : y.name = "<init>") (hy : y.cls ≠ "java/lang/invoke/MethodHandle" ∧ y.cls ≠ "java/lang/invoke/VarHandle")
    (hM : MetFree l y (head1 [Jvm.Cond.code y bytes maxL none] rm) (fun A U => A = (.ref a :: argsL).toArray ∧ Z.Warmed39 U.vm ∧ U.heap = h) (fun _ _ _ _ _ => True) (fun _ U o U' => ∃ v L, o = .returned v ∧ Q v U'.heap L ∧ FrameEnd U o U' L rm.cells rm.slots)) (eT : T.heap = h) (hg : g.method = m) (hsize : g.locals.size = c.maxLocals) {rest : List Value} {W : Nat}
    (hlen : ∀ sig, parseMethodDescriptor y.desc = some sig → argsL.length = sig.parameters.length) (hstack : g.stack = argsL.reverse ++ .ref a :: rest) (hW : 2 * g.monitorRoom + (rest.map fun v => v.category).sum ≤ W) (hdg : decode c.code g.pc = .ok (.invokespecial index, 3)) (r1 : rm.frames + 1 ≤ R.frames) (r2 : W + (maxL + 11) + rm.locals ≤ R.locals) (r3 : cells + rm.cells ≤ R.cells) (r4 : slots + rm.slots ≤ R.slots) :
    ∃ (v : Option Value) (T' : State) (L : List Loc), Stand p l e R s m args below meth c T' (locs ++ L) (cells + rm.cells) (slots + rm.slots) ∧ Q v T'.heap L ∧ ∀ t, Steps p.tables e below (T'.setTop { g with pc := g.pc + 3, stack := v.toList ++ rest }) t → Steps p.tables e below (T.setTop g) t := by
  obtain ⟨v, _, ⟨T', L', c', n'⟩, -, X', ⟨Lc, hQ, l1, y1, z1⟩, st⟩ := X.specialBack hx (y := y) hi hown (mvT hZ w1) (mvT hZ w4) (mvT hZ wc) hy (backOf (W := W) hM hZ wc wz r1 r2) (g := g) hg hsize (Steps.refl _) (a := a) (argsL := argsL) (rest := rest) hlen hstack hW hdg (fun _ _ => ⟨rfl, eT, r3, r4⟩)
  dsimp only [Pt.U, Pt.locs, Pt.cells, Pt.slots] at X' l1 y1 z1 st hQ
  subst l1 y1 z1
  exact ⟨v, T', Lc, X', hQ, fun t k => st.trans k⟩
theorem own_cs {ret : Option FieldType} (X : Stand p l e R s m args below meth c T locs cells slots) (hx : p.tables.exec = Jvm.exec) (hZ : Z.Warmed39 s.vm) (hown : s.vm.findClass own = some m.cls) (w1 : (Jvm.Cond.methodLink own index y).before a0 Z = true) (w4 : (Jvm.Cond.static y).before a0 Z = true) (wc : (Jvm.Cond.code y bytes maxL ret).before a0 Z = true) (wz : (Jvm.Cond.initialized y.cls).before a0 Z = true) (hy : y.cls ≠ "java/lang/invoke/MethodHandle" ∧ y.cls ≠ "java/lang/invoke/VarHandle")
    (hM : MetFree l y (head1 [Jvm.Cond.code y bytes maxL ret] rm) (fun A U => A = argsL.toArray ∧ Z.Warmed39 U.vm ∧ U.heap = h) (fun _ _ _ _ _ => True) (fun _ U o U' => ∃ v L, o = .returned v ∧ Q v U'.heap L ∧ FrameEnd U o U' L rm.cells rm.slots)) (eT : T.heap = h) (hg : g.method = m) (hsize : g.locals.size = c.maxLocals) {rest : List Value} {W : Nat}
    (hlen : ∀ sig, parseMethodDescriptor y.desc = some sig → argsL.length = sig.parameters.length) (hstack : g.stack = argsL.reverse ++ rest) (hW : 2 * g.monitorRoom + (rest.map fun v => v.category).sum ≤ W) (hdg : decode c.code g.pc = .ok (.invokestatic index, 3)) (r1 : rm.frames + 1 ≤ R.frames) (r2 : W + (maxL + 11) + rm.locals ≤ R.locals) (r3 : cells + rm.cells ≤ R.cells) (r4 : slots + rm.slots ≤ R.slots) :
    ∃ (v : Option Value) (T' : State) (L : List Loc), Stand p l e R s m args below meth c T' (locs ++ L) (cells + rm.cells) (slots + rm.slots) ∧ Q v T'.heap L ∧ ∀ t, Steps p.tables e below (T'.setTop { g with pc := g.pc + 3, stack := v.toList ++ rest }) t → Steps p.tables e below (T.setTop g) t := by
  obtain ⟨v, _, ⟨T', L', c', n'⟩, -, X', ⟨Lc, hQ, l1, y1, z1⟩, st⟩ := Jvm.LawKit.callS X hx (y := y) hown (mvT hZ w1) (mvT hZ w4) (mvT hZ wz) (mvT hZ wc) hy (backOf (W := W) hM hZ wc wz r1 r2) (g := g) hg hsize (argsL := argsL) (rest := rest) hlen hstack hW hdg (fun _ _ => ⟨rfl, eT, r3, r4⟩)
  dsimp only [Pt.U, Pt.locs, Pt.cells, Pt.slots] at X' l1 y1 z1 st hQ
  subst l1 y1 z1
  exact ⟨v, T', Lc, X', hQ, st⟩
theorem own_rmono {s t : State} {o : Outcome} {L : List Loc} {k n k' n' : Nat} (h : ReturnedEndW s o t L k n) (hk : k ≤ k') (hn : n ≤ n') : ReturnedEndW s o t L k' n' := ⟨h.1, h.2.1, h.2.2.1, h.2.2.2.mono hk hn⟩
theorem own_cvH {vm0 : Vm} {k0 : Nat} {ret : Option FieldType} (X : Stand p l e R (s.setVm vm0) m args below meth c T locs cells slots) (hx : p.tables.exec = Jvm.exec) (hZ : Z.Warmed39 (s.setVm vm0).vm) (hS : s.Since vm0 k0) (hk : k0 ≤ h.size) (hown : (s.setVm vm0).vm.findClass own = some m.cls) (w1 : (Jvm.Cond.methodLink own index y).before a0 Z = true) (w2 : (Jvm.Cond.declares y).before a0 Z = true) (w3 : (Jvm.Cond.selects C y y).before a0 Z = true) (w4 : (Jvm.Cond.instanceMethod y).before a0 Z = true) (wc : (Jvm.Cond.code y bytes maxL ret).before a0 Z = true) (wz : (Jvm.Cond.initialized y.cls).before a0 Z = true) (hy : y.cls ≠ "java/lang/invoke/MethodHandle" ∧ y.cls ≠ "java/lang/invoke/VarHandle")
    {EL : List (String × Nat)} (hEL : EW Z a0 EL) (H : CHv Z EL vm0 h) (hM : MetFree l y (head1 [Jvm.Cond.code y bytes maxL ret] rm) (fun A U => A = (.ref a :: argsL).toArray ∧ Z.Warmed39 U.vm ∧ U.heap = h ∧ CHv Z EL U.vm h) (fun _ _ _ _ _ => True) (fun _ U o U' => ∃ v L, o = .returned v ∧ Q v U'.heap L ∧ CHr Z EL U.vm U.heap U'.vm U'.heap ∧ ReturnedEndW U o U' L rm.cells rm.slots)) (eT : T.heap = h) (E : Exa Z h a C) (hg : g.method = m) (hsize : g.locals.size = c.maxLocals) {rest : List Value} {W : Nat}
    (hlen : ∀ sig, parseMethodDescriptor y.desc = some sig → argsL.length = sig.parameters.length) (hstack : g.stack = argsL.reverse ++ .ref a :: rest) (hW : 2 * g.monitorRoom + (rest.map fun v => v.category).sum ≤ W) (hdg : decode c.code g.pc = .ok (.invokevirtual index, 3)) (r1 : rm.frames + 1 ≤ R.frames) (r2 : W + (maxL + 11) + rm.locals ≤ R.locals) (r3 : cells + rm.cells ≤ R.cells) (r4 : slots + rm.slots ≤ R.slots) :
    ∃ (v : Option Value) (T' : State) (L : List Loc), Stand p l e R (s.setVm T'.vm) m args below meth c T' (locs ++ L) (cells + rm.cells) (slots + rm.slots) ∧ Q v T'.heap L ∧ CHr Z EL vm0 h T'.vm T'.heap ∧ s.Since T'.vm T'.heap.size ∧ Z.Warmed39 (s.setVm T'.vm).vm ∧ (s.setVm T'.vm).vm.findClass own = some m.cls ∧ ∀ t, Steps p.tables e below (T'.setTop { g with pc := g.pc + 3, stack := v.toList ++ rest }) t → Steps p.tables e below (T.setTop g) t := by
  obtain ⟨cq, kq, qa, -, qc⟩ := isOf hZ eT E
  obtain ⟨v, _, ⟨T', L', c', n'⟩, -, X', h2, gg, ⟨Lc, hQ, l1, y1, z1, hC⟩, st⟩ := X.virtualBackS hx (y := y) (z := y) hown (mvT hZ w1) (mvT hZ w2) (notFace_of_selects (args := #[]) (mvT hZ w3)) (mvT hZ w3) (mvT hZ w4) hy (backOfSH (W := W) hM hZ wc wz r1 r2 hEL H) qa qc (g := g) hg hsize (Steps.refl _) (argsL := argsL) (rest := rest) hlen hstack hW hdg (fun _ _ => ⟨rfl, eT, r3, r4⟩)
  dsimp only [Pt.U, Pt.locs, Pt.cells, Pt.slots] at X' l1 y1 z1 st hQ h2 gg hC
  subst l1 y1 z1
  obtain ⟨X2, S2, Z2, o2⟩ := rebS hS (by rw [eT]; exact hk) X' h2 gg hZ hown
  exact ⟨v, T', Lc, X2, hQ, hC, S2, Z2, o2, fun t k => st.trans k⟩
theorem own_ciH {vm0 : Vm} {k0 : Nat} (X : Stand p l e R (s.setVm vm0) m args below meth c T locs cells slots) (hx : p.tables.exec = Jvm.exec) (hZ : Z.Warmed39 (s.setVm vm0).vm) (hS : s.Since vm0 k0) (hk : k0 ≤ h.size) (hown : (s.setVm vm0).vm.findClass own = some m.cls) (w1 : (Jvm.Cond.methodLink own index y).before a0 Z = true) (w4 : (Jvm.Cond.instanceMethod y).before a0 Z = true) (wc : (Jvm.Cond.code y bytes maxL none).before a0 Z = true) (wz : (Jvm.Cond.initialized y.cls).before a0 Z = true) (hi : y.name = "<init>") (hy : y.cls ≠ "java/lang/invoke/MethodHandle" ∧ y.cls ≠ "java/lang/invoke/VarHandle")
    {EL : List (String × Nat)} (hEL : EW Z a0 EL) (H : CHv Z EL vm0 h) (hM : MetFree l y (head1 [Jvm.Cond.code y bytes maxL none] rm) (fun A U => A = (.ref a :: argsL).toArray ∧ Z.Warmed39 U.vm ∧ U.heap = h ∧ CHv Z EL U.vm h) (fun _ _ _ _ _ => True) (fun _ U o U' => ∃ v L, o = .returned v ∧ Q v U'.heap L ∧ CHr Z EL U.vm U.heap U'.vm U'.heap ∧ ReturnedEndW U o U' L rm.cells rm.slots)) (eT : T.heap = h) (hg : g.method = m) (hsize : g.locals.size = c.maxLocals) {rest : List Value} {W : Nat}
    (hlen : ∀ sig, parseMethodDescriptor y.desc = some sig → argsL.length = sig.parameters.length) (hstack : g.stack = argsL.reverse ++ .ref a :: rest) (hW : 2 * g.monitorRoom + (rest.map fun v => v.category).sum ≤ W) (hdg : decode c.code g.pc = .ok (.invokespecial index, 3)) (r1 : rm.frames + 1 ≤ R.frames) (r2 : W + (maxL + 11) + rm.locals ≤ R.locals) (r3 : cells + rm.cells ≤ R.cells) (r4 : slots + rm.slots ≤ R.slots) :
    ∃ (v : Option Value) (T' : State) (L : List Loc), Stand p l e R (s.setVm T'.vm) m args below meth c T' (locs ++ L) (cells + rm.cells) (slots + rm.slots) ∧ Q v T'.heap L ∧ CHr Z EL vm0 h T'.vm T'.heap ∧ s.Since T'.vm T'.heap.size ∧ Z.Warmed39 (s.setVm T'.vm).vm ∧ (s.setVm T'.vm).vm.findClass own = some m.cls ∧ ∀ t, Steps p.tables e below (T'.setTop { g with pc := g.pc + 3, stack := v.toList ++ rest }) t → Steps p.tables e below (T.setTop g) t := by
  obtain ⟨v, _, ⟨T', L', c', n'⟩, -, X', h2, gg, ⟨Lc, hQ, l1, y1, z1, hC⟩, st⟩ := X.specialBackS hx (y := y) hi hown (mvT hZ w1) (mvT hZ w4) (mvT hZ wc) hy (backOfSH (W := W) hM hZ wc wz r1 r2 hEL H) (g := g) hg hsize (Steps.refl _) (a := a) (argsL := argsL) (rest := rest) hlen hstack hW hdg (fun _ _ => ⟨rfl, eT, r3, r4⟩)
  dsimp only [Pt.U, Pt.locs, Pt.cells, Pt.slots] at X' l1 y1 z1 st hQ h2 gg hC
  subst l1 y1 z1
  obtain ⟨X2, S2, Z2, o2⟩ := rebS hS (by rw [eT]; exact hk) X' h2 gg hZ hown
  exact ⟨v, T', Lc, X2, hQ, hC, S2, Z2, o2, fun t k => st.trans k⟩
theorem own_csH {vm0 : Vm} {k0 : Nat} {ret : Option FieldType} (X : Stand p l e R (s.setVm vm0) m args below meth c T locs cells slots) (hx : p.tables.exec = Jvm.exec) (hZ : Z.Warmed39 (s.setVm vm0).vm) (hS : s.Since vm0 k0) (hk : k0 ≤ h.size) (hown : (s.setVm vm0).vm.findClass own = some m.cls) (w1 : (Jvm.Cond.methodLink own index y).before a0 Z = true) (w4 : (Jvm.Cond.static y).before a0 Z = true) (wc : (Jvm.Cond.code y bytes maxL ret).before a0 Z = true) (wz : (Jvm.Cond.initialized y.cls).before a0 Z = true) (hy : y.cls ≠ "java/lang/invoke/MethodHandle" ∧ y.cls ≠ "java/lang/invoke/VarHandle")
    {EL : List (String × Nat)} (hEL : EW Z a0 EL) (H : CHv Z EL vm0 h) (hM : MetFree l y (head1 [Jvm.Cond.code y bytes maxL ret] rm) (fun A U => A = argsL.toArray ∧ Z.Warmed39 U.vm ∧ U.heap = h ∧ CHv Z EL U.vm h) (fun _ _ _ _ _ => True) (fun _ U o U' => ∃ v L, o = .returned v ∧ Q v U'.heap L ∧ CHr Z EL U.vm U.heap U'.vm U'.heap ∧ ReturnedEndW U o U' L rm.cells rm.slots)) (eT : T.heap = h) (hg : g.method = m) (hsize : g.locals.size = c.maxLocals) {rest : List Value} {W : Nat}
    (hlen : ∀ sig, parseMethodDescriptor y.desc = some sig → argsL.length = sig.parameters.length) (hstack : g.stack = argsL.reverse ++ rest) (hW : 2 * g.monitorRoom + (rest.map fun v => v.category).sum ≤ W) (hdg : decode c.code g.pc = .ok (.invokestatic index, 3)) (r1 : rm.frames + 1 ≤ R.frames) (r2 : W + (maxL + 11) + rm.locals ≤ R.locals) (r3 : cells + rm.cells ≤ R.cells) (r4 : slots + rm.slots ≤ R.slots) :
    ∃ (v : Option Value) (T' : State) (L : List Loc), Stand p l e R (s.setVm T'.vm) m args below meth c T' (locs ++ L) (cells + rm.cells) (slots + rm.slots) ∧ Q v T'.heap L ∧ CHr Z EL vm0 h T'.vm T'.heap ∧ s.Since T'.vm T'.heap.size ∧ Z.Warmed39 (s.setVm T'.vm).vm ∧ (s.setVm T'.vm).vm.findClass own = some m.cls ∧ ∀ t, Steps p.tables e below (T'.setTop { g with pc := g.pc + 3, stack := v.toList ++ rest }) t → Steps p.tables e below (T.setTop g) t := by
  obtain ⟨v, _, ⟨T', L', c', n'⟩, -, X', h2, gg, ⟨Lc, hQ, l1, y1, z1, hC⟩, st⟩ := callSS X hx (y := y) hown (mvT hZ w1) (mvT hZ w4) (mvT hZ wz) (mvT hZ wc) hy (backOfSH (W := W) hM hZ wc wz r1 r2 hEL H) (g := g) hg hsize (argsL := argsL) (rest := rest) hlen hstack hW hdg (fun _ _ => ⟨rfl, eT, r3, r4⟩)
  dsimp only [Pt.U, Pt.locs, Pt.cells, Pt.slots] at X' l1 y1 z1 st hQ h2 gg hC
  subst l1 y1 z1
  obtain ⟨X2, S2, Z2, o2⟩ := rebS hS (by rw [eT]; exact hk) X' h2 gg hZ hown
  exact ⟨v, T', Lc, X2, hQ, hC, S2, Z2, o2, fun t k => st.trans k⟩
end Calls
theorem own_eq_ref {args : Array Value} {s : State} {a b : Term} {w : Addr} (h : (Jvm.Cond.eq a b).value args s none s [] = some true) (hb : b.eval args s none [] s = some (.ref w)) : a.eval args s none [] s = some (.ref w) := by
  obtain ⟨x, y, e1, e2, k1, k2⟩ := cmp_v (Or.inl h)
  rw [hb] at e2
  cases e2
  have hx : x.isRef = true := by cases x <;> simp_all [Kin, Value.isRef]
  have q := gotT (eq_R e1 hb hx rfl) h
  rw [e1, q]
theorem own_ne_ref {args : Array Value} {s : State} {a b : Term} {u w : Addr} (h : (Jvm.Cond.not (Jvm.Cond.eq a b)).value args s none s [] = some true) (ha : a.eval args s none [] s = some (.ref u)) (hb : b.eval args s none [] s = some (.ref w)) : u ≠ w := fun q => gotF (eq_R ha hb rfl rfl) (not_v h) (by rw [q])
theorem own_nn_mask (x m : Int32) (k : Nat) (hk : k < 32) (hm : m.toBitVec.toNat = 2 ^ k - 1) : ¬ ((x &&& m) < (0 : Int32)) := by
  rw [Int32.lt_iff_toInt_lt, Jvm.Kit.i32_mask x m hk hm]
  have h := Int.emod_nonneg x.toInt (show ((2 : Int) ^ k) ≠ 0 from Int.ne_of_gt (Int.pow_pos (by decide)))
  rw [Int32.toInt_zero]
  omega
theorem own_lt_mask (x m : Int32) (k : Nat) (hk : k < 32) (hm : m.toBitVec.toNat = 2 ^ k - 1) {n : Int32} (hn : n.toInt = 2 ^ k) : (x &&& m) < n := by
  rw [Int32.lt_iff_toInt_lt, Jvm.Kit.i32_mask x m hk hm, hn]
  exact Int.emod_lt_of_pos _ (Int.pow_pos (by decide))
theorem own_nn_rem {x : Int32} (n : Int32) (h : ¬ (x < (0 : Int32))) : ¬ (x % n < (0 : Int32)) := by
  rw [Int32.lt_iff_toInt_lt, Int32.toInt_zero] at h ⊢
  rw [Int32.toInt_mod]
  have := Int.tmod_nonneg n.toInt (show 0 ≤ x.toInt by omega)
  omega
theorem own_pos {n : Int32} (h : (0 : Int32) < n) : 0 < n.toInt := by
  rw [Int32.lt_iff_toInt_lt, Int32.toInt_zero] at h
  exact h
theorem own_ne0 {n : Int32} (h : (0 : Int32) < n) : n ≠ 0 := fun q => by
  rw [q] at h
  exact absurd h (by decide)
theorem own_lt_rem {x : Int32} (n : Int32) (h : ¬ (x < (0 : Int32))) (hn : 0 < n.toInt) : x % n < n := by
  rw [Int32.lt_iff_toInt_lt] at h ⊢
  rw [Int32.toInt_zero] at h
  rw [Jvm.Kit.i32_rem_nonneg (by omega)]
  exact Int.emod_lt_of_pos _ hn
theorem own_modlo (x n : Int32) (hn : 0 < n.toInt) : 0 ≤ ((x &&& (2147483647 : Int32)) % n).toInt := by
  have a := Jvm.Kit.i32_mask x 2147483647 (k := 31) (by decide) (by decide)
  rw [Jvm.Kit.i32_rem_nonneg (by omega)]
  exact Int.emod_nonneg _ (by omega)
theorem own_modhi (x n : Int32) (hn : 0 < n.toInt) : ((x &&& (2147483647 : Int32)) % n).toInt < n.toInt := by
  have a := Jvm.Kit.i32_mask x 2147483647 (k := 31) (by decide) (by decide)
  rw [Jvm.Kit.i32_rem_nonneg (by omega)]
  exact Int.emod_lt_of_pos _ hn
theorem own_ch0 (x : Int32) : ((x &&& (255 : Int32)).toUInt32.toUInt16.toUInt32.toInt32) = (x &&& (255 : Int32)) := by
  apply Int32.toBitVec_inj.mp
  apply BitVec.eq_of_toNat_eq
  simp
  rw [show (255 : Nat) = 2 ^ 8 - 1 from rfl, Nat.and_two_pow_sub_one_eq_mod, Nat.and_two_pow_sub_one_eq_mod]
  omega
theorem own_ch1 (x : Int32) : ¬ ((255 : Int32) < ((x &&& (255 : Int32)).toUInt32.toUInt16.toUInt32.toInt32)) := by
  rw [own_ch0, Int32.lt_iff_toInt_lt, Jvm.Kit.i32_mask x (255 : Int32) (k := 8) (by decide) (by decide)]
  have h := Int.emod_lt_of_pos x.toInt (show (0 : Int) < 2 ^ 8 by decide)
  have e : (255 : Int32).toInt = 255 := by decide
  rw [e]
  omega
theorem own_ch2 (x : Int32) : ¬ (((x &&& (255 : Int32)).toUInt32.toUInt16.toUInt32.toInt32) < (0 : Int32)) := by
  rw [own_ch0]
  exact own_nn_mask x (255 : Int32) 8 (by decide) (by decide)
/-! H: literals' texts are kept (CHv); what is written is no booked String's -/
theorem own_safeS {Z : State} {EL : List (String × Nat)} {vm : Vm} {h : Heap} {x : Addr} (hal : Z.vm.Alike vm) (E : Exa Z h x "java/lang/String") (G : Fld Z h x "java/lang/String" "value" "[B" .null) : Safe Z EL vm h x := fun B => by
  obtain ⟨p, -, u, a, -, q, -, F, rfl | rfl⟩ := B
  · obtain ⟨cell, cf, k, i, f, g1, g2, -, -, -, -, g7⟩ := G
    cases (show h[q.sa]? = some q.sC from F.ha).symm.trans g1
    obtain ⟨cS, ⟨⟨-, -, -, ⟨c2, k2, i2, f2, -⟩, -, -, -, v2, -⟩, -⟩, -⟩ := F
    obtain ⟨k3, e3⟩ := ff_back (Z := Z) (U := Wst Z vm h) hal f2
    have e4 := (show Z.fieldFound? "java/lang/String" "value" "[B" = _ from e3).symm.trans g2
    simp only [Option.some.injEq, Prod.mk.injEq] at e4
    rw [e4.2.2.2, g7] at v2
    cases v2
  · obtain ⟨cell, k, e1, e2, e3, -, -⟩ := E
    cases (show h[q.sd]? = some q.SA from F.hd).symm.trans e1
    obtain ⟨cS, -, -, f, -⟩ := F
    have f : vm.findClass "[B" = some q.SA.cls := f
    rw [hal.findClass] at f
    obtain ⟨k1, q1, q2⟩ := Vm.findClass_spec f
    obtain ⟨k2, q3, q4⟩ := Vm.findClass_spec e2
    cases q1.symm.trans q3
    exact absurd (q2.symm.trans q4) (by decide)
/-- every entry of EL says "" -/
def own_EE (Z : State) (a0 : Array Value) (EL : List (String × Nat)) : Prop := ∀ p ∈ EL, (Jvm.Cond.stringLink p.1 p.2 "").before a0 Z = true
theorem own_EE.ew {Z : State} {a0 : Array Value} {EL : List (String × Nat)} (w : own_EE Z a0 EL) : EW Z a0 EL := fun p hp => ⟨"", w p hp, by simp⟩
theorem own_safeB {Z : State} {a0 : Array Value} {EL : List (String × Nat)} {vm : Vm} {h : Heap} {x : Addr} {k : ClassId} {z : Int32} {vs : List Value} {d : Value} (hZ : Z.Warmed39 vm) (w : own_EE Z a0 EL) (A : Arv Z h x k .byte z vs d) (hz : 0 < z.toNatClampNeg) : Safe Z EL vm h x := fun B => by
  obtain ⟨cl, ⟨A1, ⟨-, kA, hkA, compA, hkindA⟩, -⟩, -, hsz, -⟩ := A
  have hal : Z.vm.Alike vm := hZ.alike
  obtain ⟨kA', hkA', ekA⟩ := hal.2.2 _ _ hkA
  obtain ⟨p, hp, u, a, hb, q, -, F, rfl | rfl⟩ := B
  · cases (show h[q.sa]? = some q.sC from F.ha).symm.trans A1
    obtain ⟨cS, ⟨-, -, e⟩, ⟨kS, g1, g2, -⟩, -⟩ := F
    subst e
    cases (show vm.classes[q.sC.cls]? = some kS from g1).symm.trans hkA'
    rw [ekA] at g2
    have := hkindA.symm.trans g2
    cases this
  · cases (show h[q.sd]? = some q.SA from F.hd).symm.trans A1
    obtain ⟨cS, -, -, -, hsl⟩ := F
    obtain ⟨c, k', cf, i, hc, hk', hcf', hpool, hu, -⟩ := hb
    have wl' : (Jvm.Cond.stringLink p.1 p.2 "").before a0 (Wst Z vm h) = true := mvS (s := { Z with heap := h }) hZ (w p hp)
    obtain ⟨k, cf0, i0, units0, hk, hcf, hp0, hu0, hnm, htext, -⟩ := Cond.stringLink_spec (s := Wst Z vm h) hc wl'
    cases (show vm.classes[c]? = some k from hk).symm.trans hk'
    cases hcf'.symm.trans hcf
    cases hpool.symm.trans hp0
    cases hu.symm.trans hu0
    have := text_bytes_le htext
    rw [hsl] at hsz
    simp at this
    rw [this] at hsz
    simp at hsz
    omega
theorem own_safeA {Z : State} {EL : List (String × Nat)} {vm : Vm} {h : Heap} {x : Addr} {k : ClassId} {ty : FieldType} {z : Int32} {vs : List Value} {d : Value} (hal : Z.vm.Alike vm) (A : Arv Z h x k ty z vs d) (ht : ty ≠ .byte) : Safe Z EL vm h x := by
  obtain ⟨c, a, -⟩ := A
  exact Safe.arr hal a ht
theorem own_chr {Z : State} {EL : List (String × Nat)} {vm vm1 : Vm} {x h0 y h1 : Heap} (q : CHr Z EL vm h0 vm1 h1) (a : x = h0) (b : y = h1) : CHr Z EL vm x vm1 y := by
  rw [a, b]
  exact q
theorem own_ee {a0 : Array Value} {Z : State} (hw : ∀ d ∈ tables_1, d.before a0 Z = true) : own_EE Z a0 consts_1 := by
  intro q hq
  rcases List.mem_cons.mp hq with rfl | hq
  · exact (wd hw 14 rfl)
  cases hq
abbrev zs1 : String := "com/example/hearthkey/hearthkey/gateway/cli/Option"
abbrev zs2 : String := "java/lang/String"
abbrev zs3 : String := "java/lang/StringUTF16"
abbrev zs4 : String := "Ljava/lang/String;"
abbrev zs5 : String := "java/util/ArrayList"
abbrev zs6 : String := "java/util/AbstractList"
abbrev zs7 : String := "[Ljava/lang/Object;"
abbrev zs8 : String := "(Ljava/lang/String;Ljava/lang/String;Ljava/util/List;)V"
abbrev zs9 : String := "java/util/List"
abbrev zs10 : String := "Ljava/util/List;"
abbrev zs11 : String := "java/lang/StringLatin1"
abbrev zs12 : String := "([CIILjava/lang/Void;)V"
abbrev zs13 : String := "java/lang/Object"
abbrev zs14 : String := "java/util/AbstractCollection"
abbrev zs15 : String := "COMPACT_STRINGS"
abbrev zs16 : String := "java/lang/Record"
abbrev zs17 : String := "coderFromArrayLen"
theorem own_ne_int {args : Array Value} {s : State} {t : Term} {z : Int32} (h : (Jvm.Cond.not (Jvm.Cond.eq t (.int 0))).value args s none s [] = some true) (ha : t.eval args s none [] s = some (.int z)) : ¬ (z = (0 : Int32)) := fun q => by
  have h1 := eq_i ha (Term.int_eval (0 : Int32)) (congrArg Value.int q)
  have h2 := not_v h
  rw [h1] at h2
  cases h2
theorem own_len31 {args : Array Value} {s : State} {t : Term} {a : Addr} {c : Cell} {ty : FieldType} {n : Int32} (ev : t.eval args s none [] s = some (.ref a)) (A : Arr s s.heap a c ty) (h : (Jvm.Cond.eq (.length t) (.int n)).value args s none s [] = some true) : c.slots.size < 2 ^ 31 ∧ c.slots.size.toInt32 = n := by
  have hl := Cond.eq_int (show (Jvm.Cond.eq (.length t) (.int n)).holds args s none s [] = true from Cond.before_iff.mpr h) rfl
  have hA : s.arrayAt? a = some c := Arr.fin (Vm.Alike.refl _) A
  have h31 := SBG.length_lt ev hA hl
  have e := len_f ev hA h31
  exact ⟨h31, by simpa using Option.some.inj (e.symm.trans hl)⟩
theorem own_sub_at {args : Array Value} {first s : State} {o : Option Outcome} {idx : List Nat} {a : Term} {x n : Int32} (h : a.eval args first o idx s = some (.int x)) : (Term.sub a (.int n)).eval args first o idx s = some (.int (x - n)) := by simp [Term.eval, h]
theorem own_arv0 {args : Array Value} {s : State} {t : Term} {a : Addr} {c : Cell} {ty : FieldType} {dv : Value} (hf : Fit s) (A : Arr s s.heap a c ty) (ev : t.eval args s none [] s = some (.ref a)) (h : (Jvm.Cond.eq (.length t) (.int 0)).value args s none s [] = some true) : Arv s s.heap a c.cls ty (0 : Int32) [] dv :=
  Arv.start hf A (own_len31 ev A h).1 (own_len31 ev A h).2 (by decide) rfl trivial
theorem own_initFor {args : Array Value} {s : State} {C n d n' d' : String} (l1 : (Jvm.Cond.laysStatic C n d).before args s = true) (i1 : (Jvm.Cond.initializedFor C n d).before args s = true) (l2 : (Jvm.Cond.laysStatic C n' d').before args s = true) : (Jvm.Cond.initializedFor C n' d').before args s = true := by
  obtain ⟨c, k, i, f, _, _, q1, q2, -⟩ := Cond.laysStatic_spec l1
  obtain ⟨c', k', i', f', _, _, r1, r2, -⟩ := Cond.laysStatic_spec l2
  cases q1.symm.trans r1
  cases (State.fieldFound?_class q2).symm.trans (State.fieldFound?_class r2)
  have q := Cond.initializedFor_spec q2 i1
  simp [Cond.before, Cond.holds, Cond.value, r2, q]
theorem d1_0 : decode jdk_42_method_3_code 0 = .ok (.aload_n 0, 1) := by decide +kernel
theorem d1_1 : decode jdk_42_method_3_code 1 = .ok (.aload_n 1, 1) := by decide +kernel
theorem d1_2 : decode jdk_42_method_3_code 2 = .ok (.iconst 0, 1) := by decide +kernel
theorem d1_3 : decode jdk_42_method_3_code 3 = .ok (.aload_n 1, 1) := by decide +kernel
theorem d1_4 : decode jdk_42_method_3_code 4 = .ok (.arraylength, 1) := by decide +kernel
theorem d1_5 : decode jdk_42_method_3_code 5 = .ok (.aconst_null, 1) := by decide +kernel
theorem d1_6 : decode jdk_42_method_3_code 6 = .ok (.invokespecial 27, 3) := by decide +kernel
theorem d2_0 : decode jdk_42_method_149_code 0 = .ok (.aload_n 0, 1) := by decide +kernel
theorem d2_1 : decode jdk_42_method_149_code 1 = .ok (.invokespecial 1, 3) := by decide +kernel
theorem d2_4 : decode jdk_42_method_149_code 4 = .ok (.iload_n 3, 1) := by decide +kernel
theorem d2_5 : decode jdk_42_method_149_code 5 = .ok (.ifCond .ne 22, 3) := by decide +kernel
theorem d2_8 : decode jdk_42_method_149_code 8 = .ok (.aload_n 0, 1) := by decide +kernel
theorem d2_9 : decode jdk_42_method_149_code 9 = .ok (.ldc 7, 2) := by decide +kernel
theorem own_strAtoms {a0 : Array Value} {Z : State} (hw : ∀ d ∈ tables_1, d.before a0 Z = true) : ∀ a ∈ Bundle.stringAtoms, a.before a0 Z = true := by
  intro a ha
  simp only [Bundle.stringAtoms, List.mem_cons, List.not_mem_nil, or_false] at ha
  rcases ha with rfl | rfl | rfl | rfl | rfl | rfl | rfl
  · exact (wd hw 2 rfl)
  · exact (wd hw 1 rfl)
  · exact (wd hw 15 rfl)
  · exact (wd hw 16 rfl)
  · exact (wd hw 17 rfl)
  · exact (wd hw 18 rfl)
  · exact (wd hw 19 rfl)
theorem d2_11 : decode jdk_42_method_149_code 11 = .ok (.getfield 9, 3) := by decide +kernel
theorem d2_14 : decode jdk_42_method_149_code 14 = .ok (.putfield 9, 3) := by decide +kernel
theorem d2_17 : decode jdk_42_method_149_code 17 = .ok (.aload_n 0, 1) := by decide +kernel
theorem d2_18 : decode jdk_42_method_149_code 18 = .ok (.ldc 7, 2) := by decide +kernel
theorem d2_20 : decode jdk_42_method_149_code 20 = .ok (.getfield 15, 3) := by decide +kernel
theorem d2_23 : decode jdk_42_method_149_code 23 = .ok (.putfield 15, 3) := by decide +kernel
theorem d2_26 : decode jdk_42_method_149_code 26 = .ok (.return_, 1) := by decide +kernel
theorem ef_1 (m : MethodId) (x0 : Addr) (x1 : Addr) (x2 : Int32) (x3 : Int32) : entryFrame m #[(.ref x0), (.ref x1), (.int x2), (.int x3), .null] 6 = mkF m 0 #[rv x0, rv x1, iv x2, iv x3, .val .null, .unset] [] := by first | (simp [entryFrame, mkF, argsToLocals, Value.category]; done) | rfl
theorem pn_1 : plainName "java/lang/String" = true := by first | (simp [plainName, overriddenIn]; done) | decide +kernel
def Q1 (Z : State) (a68 : Addr) (a69 : Addr) (p70 : Int32) (h0 : Heap) (n0 : Nat) (v : Option Value) (h : Heap) (L : List Loc) : Prop := v = none ∧ Fr n0 L ∧ Keep h0 h [a68] ∧ Exa Z h a68 zs2
set_option maxRecDepth 65536 in
set_option maxHeartbeats 40000000 in
theorem rm1 (l : Launch) (Z : State) (a0 : Array Value) (hw : ∀ d ∈ tables_1, d.before a0 Z = true) (ws : List Jvm.Cond) (a68 : Addr) (a69 : Addr) (p70 : Int32) (h0 : Heap) (n0 : Nat) (O0 : Old Z n0 h0) (pF_a68_value : Fld Z h0 a68 zs2 "value" "[B" .null) (pE_a68 : Exa Z h0 a68 zs2) (pG_a68 : n0 ≤ a68) (pF_a68_coder : Fld Z h0 a68 zs2 "coder" "B" (.int p70)) :
    MetFree l (⟨zs2, "<init>", zs12⟩ : MethodName) (head1 (Jvm.Cond.code (⟨zs2, "<init>", zs12⟩ : MethodName) jdk_42_method_149_code 6 none :: ws) ({ frames := 1, cells := 4, slots := 8, locals := 12 } : Room)) (fun a U => a = #[(.ref a68), (.ref a69), (.int (0 : Int32)), (.int (0 : Int32)), .null] ∧ Z.Warmed39 U.vm ∧ U.heap = h0 ∧ CHv Z consts_1 U.vm h0) (fun _ _ _ _ _ => True) (fun _ U o U' => ∃ v L, o = .returned v ∧ Q1 Z a68 a69 p70 h0 n0 v U'.heap L ∧ CHr Z consts_1 U.vm U.heap U'.vm U'.heap ∧ ReturnedEndW U o U' L ({ frames := 1, cells := 4, slots := 8, locals := 12 } : Room).cells ({ frames := 1, cells := 4, slots := 8, locals := 12 } : Room).slots) := by
  refine MetFree.of_bodySF (plainFor_of_name pn_1) hisR ?_
  intro p e s m args below meth c s₁ Bd hml0 hP hK
  obtain ⟨rfl, hZ, hh, hC⟩ := hP
  have hx := Bd.exec
  have hby := Bd.bytes
  have hml : c.maxLocals = 6 := hml0
  have hown : s.vm.findClass zs2 = some m.cls := findClass_of_methodNamed Bd.named
  have hnm := (name_of_methodNamed Bd.named Bd.method).1
  have X0 : Stand p l e ({ frames := 1, cells := 4, slots := 8, locals := 12 } : Room) (s.setVm s.vm) m #[(.ref a68), (.ref a69), (.int (0 : Int32)), (.int (0 : Int32)), .null] below meth c s₁ [] 0 0 := Stand.of_body Bd
  have hS : s.Since s.vm 0 := (State.WarmedH.refl s).since 0
  obtain ⟨k0, hk0, hS⟩ : ∃ k0, k0 ≤ h0.size ∧ s.Since s.vm k0 := ⟨0, Nat.zero_le _, hS⟩
  have hZ : Z.Warmed39 (s.setVm s.vm).vm := hZ
  have hown : (s.setVm s.vm).vm.findClass zs2 = some m.cls := hown
  have C0 : CHr Z consts_1 s.vm h0 s.vm h0 := CHr.refl hC
  have hEE := own_ee hw
  have e0 : s₁.heap = h0 := by rw [← hh, Bd.state]; rfl
  have N0 := Fr.nil n0
  refine own_out ?_
  refine own_via (fun t k => castTop (ef_1 m a68 a69 (0 : Int32) (0 : Int32)) (XS.aloadN X0.here hx rfl (hb hby d2_0) rfl rfl k)) ?_
  obtain ⟨T90, X90, e90, st90⟩ := initO X0 hx hZ hown (wd hw 11 rfl) (wd hw 12 rfl) (wd hw 13 rfl) e0 (g := (mkF m 1 #[rv a68, rv a69, iv (0 : Int32), iv (0 : Int32), .val .null, .unset] [(.ref a68)])) rfl (by rw [hml]; rfl) rfl (hb hby d2_1) (by decide) (W := 0) (by show 2 * 0 + _ ≤ _; exact Nat.le_of_eq rfl) (by decide)
  refine own_via (fun t k => st90 t (XS.iloadN X90.here hx rfl (hb hby d2_4) rfl (XS.ifNo X90.here hx rfl (hb hby d2_5) rfl ((if0 _ _).trans (teq (by decide : (0 : Int32) = (0 : Int32))).2) (XS.aloadN X90.here hx rfl (hb hby d2_8) rfl rfl k)))) ?_
  show own_Goes p e below (T90.setTop (mkF m 9 #[rv a68, rv a69, iv (0 : Int32), iv (0 : Int32), .val .null, .unset] [(.ref a68)])) _
  obtain ⟨b92, T91, h91, kj91, b93, k91, X91, e91, E91, hS, hk91, hZ, hown, Lx91, Lc91, Lv91, La91, -, -, Cr91, -, -, st91⟩ := ldcCH X90 hx hZ hown (wd hw 14 rfl) (own_strAtoms hw) e90 hS hk0 hEE.ew (List.mem_of_getElem? (i := 0) rfl) C0.1 (vs := []) (z := 0) ⟨by simp, rfl⟩ (by decide) (by decide) (g := (mkF m 9 #[rv a68, rv a69, iv (0 : Int32), iv (0 : Int32), .val .null, .unset] [(.ref a68)])) rfl (hb hby d2_9) (n := 0) (by decide) (by decide) (by decide) (by decide)
  refine own_via (fun t k => st91 t k) ?_
  have C94 := C0.trans Cr91
  show own_Goes p e below (T91.setTop (mkF m 11 #[rv a68, rv a69, iv (0 : Int32), iv (0 : Int32), .val .null, .unset] [(.ref b92), (.ref a68)])) _
  obtain ⟨T95, X95, e95, st95⟩ := getF X91 hx hZ hown (host := "") (Or.inl (wd hw 20 rfl)) Via.refl e91 Lv91 (g := (mkF m 11 #[rv a68, rv a69, iv (0 : Int32), iv (0 : Int32), .val .null, .unset] [(.ref b92), (.ref a68)])) rfl rfl (hb hby d2_11)
  refine own_via (fun t k => st95 t k) ?_
  have F96 : Fld Z h91 a68 zs2 "value" "[B" .null := (pF_a68_value.ext E91)
  have E97 : Exa Z h91 a68 zs2 := (pE_a68.ext E91)
  obtain ⟨T98, h98, X98, e98, W98, st98⟩ := putF X95 hx hZ hown (host := "") (Or.inl (wd hw 20 rfl)) Via.refl e95 F96 E97 (Or.inr ⟨(wd hw 16 rfl), rfl, hnm⟩) (wd hw 1 rfl) (ty := (.array .byte)) (by decide) rfl rfl (g := (mkF m 14 #[rv a68, rv a69, iv (0 : Int32), iv (0 : Int32), .val .null, .unset] [(.ref b93), (.ref a68)])) rfl rfl (hb hby d2_14)
  refine own_via (fun t k => st98 t k) ?_
  have Fw98 : Fld Z h98 a68 zs2 "value" "[B" (.ref b93) := F96.same W98
  have Sf99 : Safe Z consts_1 _ h91 a68 := (own_safeS hZ.alike E97 F96)
  have C98 := C94.trans (CHr.wr W98 Sf99 C94.1)
  have Sa100 := Safe.wr W98 Sf99 C94.1 Sf99
  have N98 := Fr.snoc X98 N0 pG_a68
  show own_Goes p e below (T98.setTop (mkF m 17 #[rv a68, rv a69, iv (0 : Int32), iv (0 : Int32), .val .null, .unset] [])) _
  refine own_via (fun t k => XS.aloadN X98.here hx rfl (hb hby d2_17) rfl rfl k) ?_
  have K101 : kj91 ≤ h98.size := (Nat.le_trans hk91 (Nat.le_of_eq W98.size.symm))
  have E105 : Exa Z h98 a68 zs2 := (E97.wr W98)
  obtain ⟨b103, T102, h102, kj102, b104, k102, X102, e102, E102, hS, hk102, hZ, hown, Lx102, Lc102, Lv102, La102, -, -, Cr102, -, -, st102⟩ := ldcCH X98 hx hZ hown (wd hw 14 rfl) (own_strAtoms hw) e98 hS K101 hEE.ew (List.mem_of_getElem? (i := 0) rfl) C98.1 (vs := []) (z := 0) ⟨by simp, rfl⟩ (by decide) (by decide) (g := (mkF m 18 #[rv a68, rv a69, iv (0 : Int32), iv (0 : Int32), .val .null, .unset] [(.ref a68)])) rfl (hb hby d2_18) (n := 0) (by decide) (by decide) (by decide) (by decide)
  refine own_via (fun t k => st102 t k) ?_
  have C106 := C98.trans Cr102
  have Sa107 := CHr.safe Cr102 E105.lt Sa100
  show own_Goes p e below (T102.setTop (mkF m 20 #[rv a68, rv a69, iv (0 : Int32), iv (0 : Int32), .val .null, .unset] [(.ref b103), (.ref a68)])) _
  obtain ⟨T108, X108, e108, st108⟩ := getF X102 hx hZ hown (host := "") (Or.inl (wd hw 21 rfl)) Via.refl e102 Lc102 (g := (mkF m 20 #[rv a68, rv a69, iv (0 : Int32), iv (0 : Int32), .val .null, .unset] [(.ref b103), (.ref a68)])) rfl rfl (hb hby d2_20)
  refine own_via (fun t k => st108 t k) ?_
  have F109 : Fld Z h102 a68 zs2 "coder" "B" (.int p70) := (((pF_a68_coder.ext E91).other W98 (Or.inr (slot_ne (Or.inr (wd hw 17 rfl)) (Or.inr (wd hw 16 rfl)) (by decide) (t := .byte) (t' := (.array .byte)) (by decide) (by decide)))).ext E102)
  have E110 : Exa Z h102 a68 zs2 := (E105.ext E102)
  obtain ⟨T111, h111, X111, e111, W111, st111⟩ := putFN X108 hx hZ hown (wd hw 21 rfl) Via.refl e108 F109 E110 (Or.inr ⟨(wd hw 17 rfl), rfl, hnm⟩) (wd hw 1 rfl) (ty := .byte) (v' := (.int (0 : Int32))) (by decide) rfl (by decide) (g := (mkF m 23 #[rv a68, rv a69, iv (0 : Int32), iv (0 : Int32), .val .null, .unset] [(.int (0 : Int32)), (.ref a68)])) rfl rfl (hb hby d2_23)
  refine own_via (fun t k => st111 t k) ?_
  have Fw111 : Fld Z h111 a68 zs2 "coder" "B" (.int (0 : Int32)) := F109.same W111
  have Sf112 : Safe Z consts_1 _ h102 a68 := Sa107
  have C111 := C106.trans (CHr.wr W111 Sf112 C106.1)
  have Sa113 := Safe.wr W111 Sf112 C106.1 Sa107
  have N111 := Fr.snoc X111 N98 pG_a68
  show own_Goes p e below (T111.setTop (mkF m 26 #[rv a68, rv a69, iv (0 : Int32), iv (0 : Int32), .val .null, .unset] [])) _
  have K114 : kj102 ≤ h111.size := (Nat.le_trans hk102 (Nat.le_of_eq W111.size.symm))
  obtain ⟨fs, hr, hrun, hended, hRW⟩ := X111.leaveW hS (by rw [e111]; first | exact K114 | exact Nat.le_refl _) (v := none) (fun _ => rfl)
  have Cz : CHr Z consts_1 s.vm s.heap T111.vm T111.heap := own_chr (C111.trans (CHv.at X111 hZ hEE.ew C111.1)) hh e111
  refine own_end (t := T111.setFrames fs) ?_ ⟨_, hrun, hended, _, _, rfl, ?_, Cz, own_rmono hRW (by decide) (by decide)⟩
  · exact X111.returnOut hx Bd.returns (hb hby d2_26) hr
  have E115 : Exa Z h111 a68 zs2 := (E110.wr W111)
  · show Q1 Z a68 a69 p70 h0 n0 _ T111.heap _
    rw [e111]
    exact ⟨rfl, N111, (((((Keep.refl h0 [a68]).ext E91).wr W98 (Or.inl (List.mem_of_getElem? (i := 0) rfl))).ext E102).wr W111 (Or.inl (List.mem_of_getElem? (i := 0) rfl))), E115⟩
theorem pd_1 : parseMethodDescriptor "([CIILjava/lang/Void;)V" = some ⟨[(.array .char), .int, .int, (.object "java/lang/Void")], none⟩ := by decide +kernel
theorem d1_9 : decode jdk_42_method_3_code 9 = .ok (.return_, 1) := by decide +kernel
theorem ef_2 (m : MethodId) (x0 : Addr) (x1 : Addr) : entryFrame m #[(.ref x0), (.ref x1)] 2 = mkF m 0 #[rv x0, rv x1] [] := by first | (simp [entryFrame, mkF, argsToLocals, Value.category]; done) | rfl
def Q2 (Z : State) (a44 : Addr) (a45 : Addr) (p46 : Int32) (h0 : Heap) (n0 : Nat) (v : Option Value) (h : Heap) (L : List Loc) : Prop := v = none ∧ Fr n0 L ∧ Keep h0 h [a44] ∧ Exa Z h a44 zs2
set_option maxRecDepth 65536 in
set_option maxHeartbeats 40000000 in
theorem rm2 (l : Launch) (Z : State) (a0 : Array Value) (hw : ∀ d ∈ tables_1, d.before a0 Z = true) (ws : List Jvm.Cond) (a44 : Addr) (a45 : Addr) (p46 : Int32) (h0 : Heap) (n0 : Nat) (O0 : Old Z n0 h0) (pL_a45 : own_Len Z h0 a45 .char (0 : Int32)) (pF_a44_value : Fld Z h0 a44 zs2 "value" "[B" .null) (pE_a44 : Exa Z h0 a44 zs2) (pG_a44 : n0 ≤ a44) (pF_a44_coder : Fld Z h0 a44 zs2 "coder" "B" (.int p46)) :
    MetFree l (⟨zs2, "<init>", "([C)V"⟩ : MethodName) (head1 (Jvm.Cond.code (⟨zs2, "<init>", "([C)V"⟩ : MethodName) jdk_42_method_3_code 2 none :: ws) ({ frames := 2, cells := 4, slots := 8, locals := 29 } : Room)) (fun a U => a = #[(.ref a44), (.ref a45)] ∧ Z.Warmed39 U.vm ∧ U.heap = h0 ∧ CHv Z consts_1 U.vm h0) (fun _ _ _ _ _ => True) (fun _ U o U' => ∃ v L, o = .returned v ∧ Q2 Z a44 a45 p46 h0 n0 v U'.heap L ∧ CHr Z consts_1 U.vm U.heap U'.vm U'.heap ∧ ReturnedEndW U o U' L ({ frames := 2, cells := 4, slots := 8, locals := 29 } : Room).cells ({ frames := 2, cells := 4, slots := 8, locals := 29 } : Room).slots) := by
  refine MetFree.of_bodySF (plainFor_of_name pn_1) hisR ?_
  intro p e s m args below meth c s₁ Bd hml0 hP hK
  obtain ⟨rfl, hZ, hh, hC⟩ := hP
  have hx := Bd.exec
  have hby := Bd.bytes
  have hml : c.maxLocals = 2 := hml0
  have hown : s.vm.findClass zs2 = some m.cls := findClass_of_methodNamed Bd.named
  have hnm := (name_of_methodNamed Bd.named Bd.method).1
  have X0 : Stand p l e ({ frames := 2, cells := 4, slots := 8, locals := 29 } : Room) (s.setVm s.vm) m #[(.ref a44), (.ref a45)] below meth c s₁ [] 0 0 := Stand.of_body Bd
  have hS : s.Since s.vm 0 := (State.WarmedH.refl s).since 0
  obtain ⟨k0, hk0, hS⟩ : ∃ k0, k0 ≤ h0.size ∧ s.Since s.vm k0 := ⟨0, Nat.zero_le _, hS⟩
  have hZ : Z.Warmed39 (s.setVm s.vm).vm := hZ
  have hown : (s.setVm s.vm).vm.findClass zs2 = some m.cls := hown
  have C0 : CHr Z consts_1 s.vm h0 s.vm h0 := CHr.refl hC
  have hEE := own_ee hw
  have e0 : s₁.heap = h0 := by rw [← hh, Bd.state]; rfl
  have N0 := Fr.nil n0
  refine own_out ?_
  refine own_via (fun t k => castTop (ef_2 m a44 a45) (XS.aloadN X0.here hx rfl (hb hby d1_0) rfl rfl (XS.aloadN X0.here hx rfl (hb hby d1_1) rfl rfl (XS.iconst X0.here hx rfl (hb hby d1_2) (XS.aloadN X0.here hx rfl (hb hby d1_3) rfl rfl k))))) ?_
  show own_Goes p e below (s₁.setTop (mkF m 4 #[rv a44, rv a45] [(.ref a45), (.int (0 : Int32)), (.ref a45), (.ref a44)])) _
  obtain ⟨_, _, _, V66⟩ := id (pL_a45)
  obtain ⟨cl66, Ar66, -, S66, M66, -, -⟩ := id (V66)
  refine own_via (fun t k => X0.arraylength hx (by rw [e0]; exact Ar66.1) (State.isArrayOf_alike hZ.alike Ar66.2.1) (g := (mkF m 4 #[rv a44, rv a45] [(.ref a45), (.int (0 : Int32)), (.ref a45), (.ref a44)])) rfl rfl (hb hby d1_4) t k) ?_
  rw [len_of S66 M66]
  show own_Goes p e below (s₁.setTop (mkF m 5 #[rv a44, rv a45] [(.int (0 : Int32)), (.int (0 : Int32)), (.ref a45), (.ref a44)])) _
  refine own_via (fun t k => XS.aconstNull X0.here hx rfl (hb hby d1_5) k) ?_
  obtain ⟨_, T67, _, X67, hQ67, Cr67, hS, hZ, hown, st67⟩ := own_ciH X0 hx hZ hS hk0 hown (wd hw 7 rfl) (wd hw 8 rfl) (wd hw 10 rfl) (wd hw 2 rfl) rfl (by decide) hEE.ew C0.1 (rm1 l Z a0 hw [] a44 a45 p46 h0 n0 O0 pF_a44_value pE_a44 pG_a44 pF_a44_coder) e0 (g := (mkF m 6 #[rv a44, rv a45] [.null, (.int (0 : Int32)), (.int (0 : Int32)), (.ref a45), (.ref a44)])) rfl (by rw [hml]; rfl) (rest := []) (W := 0) (lenOf pd_1 rfl) rfl (by show 2 * 0 + _ ≤ _; exact Nat.le_of_eq rfl) (hb hby d1_6) (by decide) (by decide) (by decide) (by decide)
  obtain ⟨h67, e67⟩ : ∃ z, T67.heap = z := ⟨_, rfl⟩
  rw [e67] at hQ67 Cr67
  obtain ⟨rfl, Nq67, K67, ex116⟩ := hQ67
  have N67 := Fr.app N0 Nq67
  have C117 := C0.trans Cr67
  have hk118 : T67.heap.size ≤ h67.size := Nat.le_of_eq (congrArg Array.size e67)
  refine own_via (fun t k => st67 t k) ?_
  obtain ⟨fs, hr, hrun, hended, hRW⟩ := X67.leaveW hS (by rw [e67]; first | exact hk118 | exact Nat.le_refl _) (v := none) (fun _ => rfl)
  have Cz : CHr Z consts_1 s.vm s.heap T67.vm T67.heap := own_chr (C117.trans (CHv.at X67 hZ hEE.ew C117.1)) hh e67
  refine own_end (t := T67.setFrames fs) ?_ ⟨_, hrun, hended, _, _, rfl, ?_, Cz, own_rmono hRW (by decide) (by decide)⟩
  · exact X67.returnOut hx Bd.returns (hb hby d1_9) hr
  · show Q2 Z a44 a45 p46 h0 n0 _ T67.heap _
    rw [e67]
    exact ⟨rfl, N67, ((Keep.refl h0 [a44]).trans K67 (allS (Or.inl (List.mem_of_getElem? (i := 0) rfl)) all0)), ex116⟩
theorem pd_2 : parseMethodDescriptor "([C)V" = some ⟨[(.array .char)], none⟩ := by decide +kernel
theorem d2_27 : decode jdk_42_method_149_code 27 = .ok (.getstatic 38, 3) := by decide +kernel
theorem d2_30 : decode jdk_42_method_149_code 30 = .ok (.ifCond .eq 28, 3) := by decide +kernel
theorem d2_33 : decode jdk_42_method_149_code 33 = .ok (.aload_n 1, 1) := by decide +kernel
theorem d2_34 : decode jdk_42_method_149_code 34 = .ok (.iload_n 2, 1) := by decide +kernel
theorem d2_35 : decode jdk_42_method_149_code 35 = .ok (.iload_n 3, 1) := by decide +kernel
theorem d2_36 : decode jdk_42_method_149_code 36 = .ok (.invokestatic 177, 3) := by decide +kernel
theorem d4_0 : decode jdk_52_method_16_code 0 = .ok (.iload_n 2, 1) := by decide +kernel
theorem d4_1 : decode jdk_52_method_16_code 1 = .ok (.newarray .byte, 2) := by decide +kernel
theorem d4_3 : decode jdk_52_method_16_code 3 = .ok (.astore_n 3, 1) := by decide +kernel
theorem d4_4 : decode jdk_52_method_16_code 4 = .ok (.aload_n 0, 1) := by decide +kernel
theorem d4_5 : decode jdk_52_method_16_code 5 = .ok (.iload_n 1, 1) := by decide +kernel
theorem d4_6 : decode jdk_52_method_16_code 6 = .ok (.aload_n 3, 1) := by decide +kernel
theorem d4_7 : decode jdk_52_method_16_code 7 = .ok (.iconst 0, 1) := by decide +kernel
theorem d4_8 : decode jdk_52_method_16_code 8 = .ok (.iload_n 2, 1) := by decide +kernel
theorem d4_9 : decode jdk_52_method_16_code 9 = .ok (.invokestatic 115, 3) := by decide +kernel
theorem d5_0 : decode jdk_52_method_21_code 0 = .ok (.iconst 0, 1) := by decide +kernel
theorem d5_1 : decode jdk_52_method_21_code 1 = .ok (.istore 5, 2) := by decide +kernel
theorem d5_3 : decode jdk_52_method_21_code 3 = .ok (.iload 5, 2) := by decide +kernel
theorem d5_5 : decode jdk_52_method_21_code 5 = .ok (.iload 4, 2) := by decide +kernel
theorem d5_7 : decode jdk_52_method_21_code 7 = .ok (.if_icmp .ge 37, 3) := by decide +kernel
theorem d5_10 : decode jdk_52_method_21_code 10 = .ok (.aload_n 0, 1) := by decide +kernel
theorem d5_11 : decode jdk_52_method_21_code 11 = .ok (.iload_n 1, 1) := by decide +kernel
theorem d5_12 : decode jdk_52_method_21_code 12 = .ok (.caload, 1) := by decide +kernel
theorem d5_13 : decode jdk_52_method_21_code 13 = .ok (.istore 6, 2) := by decide +kernel
theorem d5_15 : decode jdk_52_method_21_code 15 = .ok (.iload 6, 2) := by decide +kernel
theorem d5_17 : decode jdk_52_method_21_code 17 = .ok (.sipush 255, 3) := by decide +kernel
theorem d5_20 : decode jdk_52_method_21_code 20 = .ok (.if_icmp .le 6, 3) := by decide +kernel
theorem d5_26 : decode jdk_52_method_21_code 26 = .ok (.aload_n 2, 1) := by decide +kernel
theorem d5_27 : decode jdk_52_method_21_code 27 = .ok (.iload_n 3, 1) := by decide +kernel
theorem d5_28 : decode jdk_52_method_21_code 28 = .ok (.iload 6, 2) := by decide +kernel
theorem d5_30 : decode jdk_52_method_21_code 30 = .ok (.i2b, 1) := by decide +kernel
theorem d5_31 : decode jdk_52_method_21_code 31 = .ok (.bastore, 1) := by decide +kernel
theorem d5_32 : decode jdk_52_method_21_code 32 = .ok (.iinc 1 1, 3) := by decide +kernel
theorem d5_35 : decode jdk_52_method_21_code 35 = .ok (.iinc 3 1, 3) := by decide +kernel
theorem d5_38 : decode jdk_52_method_21_code 38 = .ok (.iinc 5 1, 3) := by decide +kernel
theorem d5_41 : decode jdk_52_method_21_code 41 = .ok (.goto (-38), 3) := by decide +kernel
theorem d5_44 : decode jdk_52_method_21_code 44 = .ok (.iload 4, 2) := by decide +kernel
theorem d5_46 : decode jdk_52_method_21_code 46 = .ok (.ireturn, 1) := by decide +kernel
theorem ef_3 (m : MethodId) (x0 : Addr) (x1 : Int32) (x2 : Addr) (x3 : Int32) (x4 : Int32) : entryFrame m #[(.ref x0), (.int x1), (.ref x2), (.int x3), (.int x4)] 7 = mkF m 0 #[rv x0, iv x1, rv x2, iv x3, iv x4, .unset, .unset] [] := by first | (simp [entryFrame, mkF, argsToLocals, Value.category]; done) | rfl
theorem pn_2 : plainName "java/lang/StringUTF16" = true := by first | (simp [plainName, overriddenIn]; done) | decide +kernel
def Q3 (Z : State) (a260 : Addr) (a261 : Addr) (k268 : ClassId) (p267 : Int32) (k269 : ClassId) (h0 : Heap) (n0 : Nat) (v : Option Value) (h : Heap) (L : List Loc) : Prop := v = some (.int (1 : Int32)) ∧ Fr n0 L ∧ Keep h0 h [a261] ∧ Arv Z h a261 k269 .byte (1 : Int32) [(.int (p267.toInt8.toInt32))] (.int (0 : Int32))
set_option maxRecDepth 65536 in
set_option maxHeartbeats 40000000 in
theorem rm3 (l : Launch) (Z : State) (a0 : Array Value) (hw : ∀ d ∈ tables_1, d.before a0 Z = true) (ws : List Jvm.Cond) (a260 : Addr) (a261 : Addr) (k268 : ClassId) (p267 : Int32) (k269 : ClassId) (h0 : Heap) (n0 : Nat) (O0 : Old Z n0 h0) (pV_a260 : Arv Z h0 a260 k268 .char (1 : Int32) [(.int p267)] (.int (0 : Int32))) (pC291 : ¬ ((255 : Int32) < p267)) (pV_a261 : Arv Z h0 a261 k269 .byte (1 : Int32) [] (.int (0 : Int32))) (pG_a261 : n0 ≤ a261) :
    MetFree l (⟨zs3, "compress", "([CI[BII)I"⟩ : MethodName) (head1 (Jvm.Cond.code (⟨zs3, "compress", "([CI[BII)I"⟩ : MethodName) jdk_52_method_21_code 7 (some .int) :: ws) ({ frames := 0, cells := 0, slots := 0, locals := 0 } : Room)) (fun a U => a = #[(.ref a260), (.int (0 : Int32)), (.ref a261), (.int (0 : Int32)), (.int (1 : Int32))] ∧ Z.Warmed39 U.vm ∧ U.heap = h0 ∧ CHv Z consts_1 U.vm h0) (fun _ _ _ _ _ => True) (fun _ U o U' => ∃ v L, o = .returned v ∧ Q3 Z a260 a261 k268 p267 k269 h0 n0 v U'.heap L ∧ CHr Z consts_1 U.vm U.heap U'.vm U'.heap ∧ ReturnedEndW U o U' L ({ frames := 0, cells := 0, slots := 0, locals := 0 } : Room).cells ({ frames := 0, cells := 0, slots := 0, locals := 0 } : Room).slots) := by
  refine MetFree.of_bodySF (plainFor_of_name pn_2) hisR ?_
  intro p e s m args below meth c s₁ Bd hml0 hP hK
  obtain ⟨rfl, hZ, hh, hC⟩ := hP
  have hx := Bd.exec
  have hby := Bd.bytes
  have hml : c.maxLocals = 7 := hml0
  have hown : s.vm.findClass zs3 = some m.cls := findClass_of_methodNamed Bd.named
  have hnm := (name_of_methodNamed Bd.named Bd.method).1
  have X0 : Stand p l e ({ frames := 0, cells := 0, slots := 0, locals := 0 } : Room) (s.setVm s.vm) m #[(.ref a260), (.int (0 : Int32)), (.ref a261), (.int (0 : Int32)), (.int (1 : Int32))] below meth c s₁ [] 0 0 := Stand.of_body Bd
  have hS : s.Since s.vm 0 := (State.WarmedH.refl s).since 0
  obtain ⟨k0, hk0, hS⟩ : ∃ k0, k0 ≤ h0.size ∧ s.Since s.vm k0 := ⟨0, Nat.zero_le _, hS⟩
  have hZ : Z.Warmed39 (s.setVm s.vm).vm := hZ
  have hown : (s.setVm s.vm).vm.findClass zs3 = some m.cls := hown
  have C0 : CHr Z consts_1 s.vm h0 s.vm h0 := CHr.refl hC
  have hEE := own_ee hw
  have e0 : s₁.heap = h0 := by rw [← hh, Bd.state]; rfl
  have N0 := Fr.nil n0
  refine own_out ?_
  refine own_via (fun t k => castTop (ef_3 m a260 (0 : Int32) a261 (0 : Int32) (1 : Int32)) (XS.iconst X0.here hx rfl (hb hby d5_0) (XS.istore X0.here hx rfl (hb hby d5_1) rfl (l' := #[rv a260, iv (0 : Int32), rv a261, iv (0 : Int32), iv (1 : Int32), iv (0 : Int32), .unset]) rfl (XS.iload X0.here hx rfl (hb hby d5_3) rfl (XS.iload X0.here hx rfl (hb hby d5_5) rfl (XS.icmpNo X0.here hx rfl (hb hby d5_7) rfl (tlt (by decide : (0 : Int32) < (1 : Int32))).2.1 (XS.aloadN X0.here hx rfl (hb hby d5_10) rfl rfl (XS.iloadN X0.here hx rfl (hb hby d5_11) rfl k)))))))) ?_
  show own_Goes p e below (s₁.setTop (mkF m 12 #[rv a260, iv (0 : Int32), rv a261, iv (0 : Int32), iv (1 : Int32), iv (0 : Int32), .unset] [(.int (0 : Int32)), (.ref a260)])) _
  obtain ⟨cl293, Ar293, qq293, S293, M293, H293, G293⟩ := id (pV_a260)
  have hin293 : ¬ ((0 : Int32) < 0 ∨ cl293.slots.size ≤ ((0 : Int32)).toNatClampNeg) := inb_of S293 ⟨by decide, by decide⟩
  refine own_via (fun t k => X0.caload hx (j := (0 : Int32)) (v := (.int p267)) (by rw [e0]; exact Ar293.1) (State.isArrayOf_alike hZ.alike Ar293.2.1) Ar293.2.2 hin293 (Has.at H293 hin293 rfl) (g := (mkF m 12 #[rv a260, iv (0 : Int32), rv a261, iv (0 : Int32), iv (1 : Int32), iv (0 : Int32), .unset] [(.int (0 : Int32)), (.ref a260)])) rfl rfl (hb hby d5_12) t (XS.istore X0.here hx rfl (hb hby d5_13) rfl (l' := #[rv a260, iv (0 : Int32), rv a261, iv (0 : Int32), iv (1 : Int32), iv (0 : Int32), iv p267]) rfl (XS.iload X0.here hx rfl (hb hby d5_15) rfl (XS.sipush X0.here hx rfl (hb hby d5_17) (XS.icmpYes X0.here hx rfl (pc0 := 20) (pc' := 26) rfl (hb hby d5_20) rfl (flt pC291).2.2.2 (by decide) (by decide) (XS.aloadN X0.here hx rfl (hb hby d5_26) rfl rfl (XS.iloadN X0.here hx rfl (hb hby d5_27) rfl (XS.iload X0.here hx rfl (hb hby d5_28) rfl (XS.i2b X0.here hx rfl (hb hby d5_30) rfl k))))))))) ?_
  show own_Goes p e below (s₁.setTop (mkF m 31 #[rv a260, iv (0 : Int32), rv a261, iv (0 : Int32), iv (1 : Int32), iv (0 : Int32), iv p267] [(.int (p267.toInt8.toInt32)), (.int (0 : Int32)), (.ref a261)])) _
  have V294 : Arv Z h0 a261 k269 .byte (1 : Int32) [(.int (0 : Int32))] (.int (0 : Int32)) := pV_a261.pad (pad_rep [] (.int (0 : Int32)) 1)
  obtain ⟨cl295, Ar295, qq295, S295, M295, H295, G295⟩ := id (V294)
  have hin295 : ¬ ((0 : Int32) < 0 ∨ cl295.slots.size ≤ ((0 : Int32)).toNatClampNeg) := inb_of S295 ⟨by decide, by decide⟩
  obtain ⟨T295, h295, X295, e295, W295, st295⟩ := stB X0 hx hZ e0 Ar295 (j := (0 : Int32)) hin295 (g := (mkF m 31 #[rv a260, iv (0 : Int32), rv a261, iv (0 : Int32), iv (1 : Int32), iv (0 : Int32), iv p267] [(.int (p267.toInt8.toInt32)), (.int (0 : Int32)), (.ref a261)])) rfl rfl (hb hby d5_31)
  refine own_via (fun t k => st295 t k) ?_
  have V296 : Arv Z h295 a261 k269 .byte (1 : Int32) [(.int (p267.toInt8.toInt32))] (.int (0 : Int32)) := by
    have qv := Arv.set Ar295 qq295 S295 M295 H295 G295 (fits_nar_byte _) W295 0 rfl (Nat.le_of_ble_eq_true rfl)
    first | rw [show nar .byte (p267.toInt8.toInt32) = (p267.toInt8.toInt32) from own_b2 _] at qv | rw [own_b2] at qv
    exact qv
  have Sf297 : Safe Z consts_1 _ h0 a261 := (own_safeB hZ hEE pV_a261 (by decide))
  have C295 := C0.trans (CHr.wr W295 Sf297 C0.1)
  have N295 := Fr.snoc X295 N0 pG_a261
  show own_Goes p e below (T295.setTop (mkF m 32 #[rv a260, iv (0 : Int32), rv a261, iv (0 : Int32), iv (1 : Int32), iv (0 : Int32), iv p267] [])) _
  refine own_via (fun t k => XS.iinc X295.here hx rfl (hb hby d5_32) rfl (l' := #[rv a260, iv (1 : Int32), rv a261, iv (0 : Int32), iv (1 : Int32), iv (0 : Int32), iv p267]) rfl (XS.iinc X295.here hx rfl (hb hby d5_35) rfl (l' := #[rv a260, iv (1 : Int32), rv a261, iv (1 : Int32), iv (1 : Int32), iv (0 : Int32), iv p267]) rfl (XS.iinc X295.here hx rfl (hb hby d5_38) rfl (l' := #[rv a260, iv (1 : Int32), rv a261, iv (1 : Int32), iv (1 : Int32), iv (1 : Int32), iv p267]) rfl (XS.goto X295.here hx rfl (pc0 := 41) (pc' := 3) rfl (hb hby d5_41) (by decide) (by decide) (XS.iload X295.here hx rfl (hb hby d5_3) rfl (XS.iload X295.here hx rfl (hb hby d5_5) rfl (XS.icmpYes X295.here hx rfl (pc0 := 7) (pc' := 44) rfl (hb hby d5_7) rfl (flt (by decide : ¬ ((1 : Int32) < (1 : Int32)))).2.1 (by decide) (by decide) (XS.iload X295.here hx rfl (hb hby d5_44) rfl k)))))))) ?_
  show own_Goes p e below (T295.setTop (mkF m 46 #[rv a260, iv (1 : Int32), rv a261, iv (1 : Int32), iv (1 : Int32), iv (1 : Int32), iv p267] [(.int (1 : Int32))])) _
  have K298 : k0 ≤ h295.size := (Nat.le_trans hk0 (Nat.le_of_eq W295.size.symm))
  obtain ⟨fs, hr, hrun, hended, hRW⟩ := X295.leaveW hS (by rw [e295]; first | exact K298 | exact Nat.le_refl _) (v := some (.int (1 : Int32))) (fun h => by rw [Bd.returns] at h; cases h)
  have Cz : CHr Z consts_1 s.vm s.heap T295.vm T295.heap := own_chr (C295.trans (CHv.at X295 hZ hEE.ew C295.1)) hh e295
  refine own_end (t := T295.setFrames fs) ?_ ⟨_, hrun, hended, _, _, rfl, ?_, Cz, own_rmono hRW (by decide) (by decide)⟩
  · exact retI X295 hx Bd.returns (hb hby d5_46) hr
  · show Q3 Z a260 a261 k268 p267 k269 h0 n0 _ T295.heap _
    rw [e295]
    exact ⟨rfl, N295, ((Keep.refl h0 [a261]).wr W295 (Or.inl (List.mem_of_getElem? (i := 0) rfl))), V296⟩
theorem pd_3 : parseMethodDescriptor "([CI[BII)I" = some ⟨[(.array .char), .int, (.array .byte), .int, .int], some .int⟩ := by decide +kernel
theorem d4_12 : decode jdk_52_method_16_code 12 = .ok (.istore 4, 2) := by decide +kernel
theorem d4_14 : decode jdk_52_method_16_code 14 = .ok (.iload 4, 2) := by decide +kernel
theorem d4_16 : decode jdk_52_method_16_code 16 = .ok (.iload_n 2, 1) := by decide +kernel
theorem d4_17 : decode jdk_52_method_16_code 17 = .ok (.if_icmp .eq 40, 3) := by decide +kernel
theorem d4_57 : decode jdk_52_method_16_code 57 = .ok (.aload_n 3, 1) := by decide +kernel
theorem d4_58 : decode jdk_52_method_16_code 58 = .ok (.areturn, 1) := by decide +kernel
theorem ef_4 (m : MethodId) (x0 : Addr) (x1 : Int32) (x2 : Int32) : entryFrame m #[(.ref x0), (.int x1), (.int x2)] 6 = mkF m 0 #[rv x0, iv x1, iv x2, .unset, .unset, .unset] [] := by first | (simp [entryFrame, mkF, argsToLocals, Value.category]; done) | rfl
def Q4 (Z : State) (a223 : Addr) (k230 : ClassId) (p229 : Int32) (h0 : Heap) (n0 : Nat) (v : Option Value) (h : Heap) (L : List Loc) : Prop := (∃ (b255 : Addr) (k254 : ClassId), v = some (.ref b255) ∧ Fr n0 L ∧ Keep h0 h [] ∧ h0.size ≤ b255 ∧ Arv Z h b255 k254 .byte (1 : Int32) [(.int (p229.toInt8.toInt32))] (.int (0 : Int32)))
set_option maxRecDepth 65536 in
set_option maxHeartbeats 40000000 in
theorem rm4 (l : Launch) (Z : State) (a0 : Array Value) (hw : ∀ d ∈ tables_1, d.before a0 Z = true) (ws : List Jvm.Cond) (a223 : Addr) (k230 : ClassId) (p229 : Int32) (h0 : Heap) (n0 : Nat) (O0 : Old Z n0 h0) (pV_a223 : Arv Z h0 a223 k230 .char (1 : Int32) [(.int p229)] (.int (0 : Int32))) (pC252 : ¬ ((255 : Int32) < p229)) :
    MetFree l (⟨zs3, "compress", "([CII)[B"⟩ : MethodName) (head1 (Jvm.Cond.code (⟨zs3, "compress", "([CII)[B"⟩ : MethodName) jdk_52_method_16_code 6 (some (.array .byte)) :: ws) ({ frames := 1, cells := 1, slots := 1, locals := 18 } : Room)) (fun a U => a = #[(.ref a223), (.int (0 : Int32)), (.int (1 : Int32))] ∧ Z.Warmed39 U.vm ∧ U.heap = h0 ∧ CHv Z consts_1 U.vm h0) (fun _ _ _ _ _ => True) (fun _ U o U' => ∃ v L, o = .returned v ∧ Q4 Z a223 k230 p229 h0 n0 v U'.heap L ∧ CHr Z consts_1 U.vm U.heap U'.vm U'.heap ∧ ReturnedEndW U o U' L ({ frames := 1, cells := 1, slots := 1, locals := 18 } : Room).cells ({ frames := 1, cells := 1, slots := 1, locals := 18 } : Room).slots) := by
  refine MetFree.of_bodySF (plainFor_of_name pn_2) hisR ?_
  intro p e s m args below meth c s₁ Bd hml0 hP hK
  obtain ⟨rfl, hZ, hh, hC⟩ := hP
  have hx := Bd.exec
  have hby := Bd.bytes
  have hml : c.maxLocals = 6 := hml0
  have hown : s.vm.findClass zs3 = some m.cls := findClass_of_methodNamed Bd.named
  have hnm := (name_of_methodNamed Bd.named Bd.method).1
  have X0 : Stand p l e ({ frames := 1, cells := 1, slots := 1, locals := 18 } : Room) (s.setVm s.vm) m #[(.ref a223), (.int (0 : Int32)), (.int (1 : Int32))] below meth c s₁ [] 0 0 := Stand.of_body Bd
  have hS : s.Since s.vm 0 := (State.WarmedH.refl s).since 0
  obtain ⟨k0, hk0, hS⟩ : ∃ k0, k0 ≤ h0.size ∧ s.Since s.vm k0 := ⟨0, Nat.zero_le _, hS⟩
  have hZ : Z.Warmed39 (s.setVm s.vm).vm := hZ
  have hown : (s.setVm s.vm).vm.findClass zs3 = some m.cls := hown
  have C0 : CHr Z consts_1 s.vm h0 s.vm h0 := CHr.refl hC
  have hEE := own_ee hw
  have e0 : s₁.heap = h0 := by rw [← hh, Bd.state]; rfl
  have N0 := Fr.nil n0
  refine own_out ?_
  refine own_via (fun t k => castTop (ef_4 m a223 (0 : Int32) (1 : Int32)) (XS.iloadN X0.here hx rfl (hb hby d4_0) rfl k)) ?_
  obtain ⟨T254, h254, k254, X254, e254, E254, A254, st254⟩ := newP X0 hx hZ (wd hw 15 rfl) e0 (g := (mkF m 1 #[rv a223, iv (0 : Int32), iv (1 : Int32), .unset, .unset, .unset] [(.int (1 : Int32))])) rfl (hb hby d4_1) rfl (by decide) (cap := 1) (by decide) (by decide) (by decide) (by decide)
  obtain ⟨b255, q254⟩ : ∃ z, z = h0.size := ⟨_, rfl⟩
  rw [← q254] at A254 st254
  refine own_via (fun t k => st254 t k) ?_
  have C254 := C0.trans (CHr.ext E254 C0.1)
  have g256 : n0 ≤ b255 := Nat.le_trans (own_old O0) (Nat.le_of_eq q254.symm)
  have B257 : h0.size ≤ b255 := Nat.le_trans (Nat.le_refl _) (Nat.le_of_eq q254.symm)
  have V258 : Arv Z h254 b255 k254 .byte (1 : Int32) [] (.int (0 : Int32)) := Arv.new A254 (by decide)
  show own_Goes p e below (T254.setTop (mkF m 3 #[rv a223, iv (0 : Int32), iv (1 : Int32), .unset, .unset, .unset] [(.ref b255)])) _
  refine own_via (fun t k => XS.astoreN X254.here hx rfl (hb hby d4_3) rfl rfl (l' := #[rv a223, iv (0 : Int32), iv (1 : Int32), rv b255, .unset, .unset]) rfl (XS.aloadN X254.here hx rfl (hb hby d4_4) rfl rfl (XS.iloadN X254.here hx rfl (hb hby d4_5) rfl (XS.aloadN X254.here hx rfl (hb hby d4_6) rfl rfl (XS.iconst X254.here hx rfl (hb hby d4_7) (XS.iloadN X254.here hx rfl (hb hby d4_8) rfl k)))))) ?_
  show own_Goes p e below (T254.setTop (mkF m 9 #[rv a223, iv (0 : Int32), iv (1 : Int32), rv b255, .unset, .unset] [(.int (1 : Int32)), (.int (0 : Int32)), (.ref b255), (.int (0 : Int32)), (.ref a223)])) _
  have V299 : Arv Z h254 a223 k230 .char (1 : Int32) [(.int p229)] (.int (0 : Int32)) := (pV_a223.ext E254)
  have O300 : Old Z n0 h254 := (O0.ext E254)
  have K301 : k0 ≤ h254.size := (Nat.le_trans hk0 E254.1)
  obtain ⟨_, T259, _, X259, hQ259, Cr259, hS, hZ, hown, st259⟩ := own_csH X254 hx hZ hS K301 hown (wd hw 27 rfl) (wd hw 28 rfl) (wd hw 29 rfl) (wd hw 25 rfl) (by decide) hEE.ew C254.1 (rm3 l Z a0 hw [] a223 b255 k230 p229 k254 h254 n0 O300 V299 pC252 V258 g256) e254 (g := (mkF m 9 #[rv a223, iv (0 : Int32), iv (1 : Int32), rv b255, .unset, .unset] [(.int (1 : Int32)), (.int (0 : Int32)), (.ref b255), (.int (0 : Int32)), (.ref a223)])) rfl (by rw [hml]; rfl) (rest := []) (W := 0) (lenOf pd_3 rfl) rfl (by show 2 * 0 + _ ≤ _; exact Nat.le_of_eq rfl) (hb hby d4_9) (by decide) (by decide) (by decide) (by decide)
  obtain ⟨h259, e259⟩ : ∃ z, T259.heap = z := ⟨_, rfl⟩
  rw [e259] at hQ259 Cr259
  obtain ⟨rfl, Nq259, K259, vx302⟩ := hQ259
  have N259 := Fr.app N0 Nq259
  have C303 := C254.trans Cr259
  have hk304 : T259.heap.size ≤ h259.size := Nat.le_of_eq (congrArg Array.size e259)
  refine own_via (fun t k => st259 t (XS.istore X259.here hx rfl (hb hby d4_12) rfl (l' := #[rv a223, iv (0 : Int32), iv (1 : Int32), rv b255, iv (1 : Int32), .unset]) rfl (XS.iload X259.here hx rfl (hb hby d4_14) rfl (XS.iloadN X259.here hx rfl (hb hby d4_16) rfl (XS.icmpYes X259.here hx rfl (pc0 := 17) (pc' := 57) rfl (hb hby d4_17) rfl (teq (by decide : (1 : Int32) = (1 : Int32))).1 (by decide) (by decide) (XS.aloadN X259.here hx rfl (hb hby d4_57) rfl rfl k)))))) ?_
  show own_Goes p e below (T259.setTop (mkF m 58 #[rv a223, iv (0 : Int32), iv (1 : Int32), rv b255, iv (1 : Int32), .unset] [(.ref b255)])) _
  obtain ⟨fs, hr, hrun, hended, hRW⟩ := X259.leaveW hS (by rw [e259]; first | exact hk304 | exact Nat.le_refl _) (v := some (.ref b255)) (fun h => by rw [Bd.returns] at h; cases h)
  have Cz : CHr Z consts_1 s.vm s.heap T259.vm T259.heap := own_chr (C303.trans (CHv.at X259 hZ hEE.ew C303.1)) hh e259
  refine own_end (t := T259.setFrames fs) ?_ ⟨_, hrun, hended, _, _, rfl, ?_, Cz, own_rmono hRW (by decide) (by decide)⟩
  · jvm_step X259.here [X259.here.top, hx, (hb hby d4_58), X259.method', Bd.returns, Value.isRef, FieldType.isReference]
    first | (intro acts; rw [hr _ acts rfl rfl rfl]) | rw [hr _ _ rfl rfl rfl]
    exact Steps.refl _
  · show Q4 Z a223 k230 p229 h0 n0 _ T259.heap _
    rw [e259]
    exact ⟨b255, k254, rfl, N259, (((Keep.refl h0 []).ext E254).trans K259 (allS (Or.inr B257) all0)), B257, vx302⟩
theorem pd_4 : parseMethodDescriptor "([CII)[B" = some ⟨[(.array .char), .int, .int], some (.array .byte)⟩ := by decide +kernel
theorem d2_39 : decode jdk_42_method_149_code 39 = .ok (.astore 5, 2) := by decide +kernel
theorem d2_41 : decode jdk_42_method_149_code 41 = .ok (.aload_n 0, 1) := by decide +kernel
theorem d2_42 : decode jdk_42_method_149_code 42 = .ok (.aload 5, 2) := by decide +kernel
theorem d2_44 : decode jdk_42_method_149_code 44 = .ok (.iload_n 3, 1) := by decide +kernel
theorem d2_45 : decode jdk_42_method_149_code 45 = .ok (.invokestatic 47, 3) := by decide +kernel
theorem d6_0 : decode jdk_52_method_15_code 0 = .ok (.iload_n 1, 1) := by decide +kernel
theorem d6_1 : decode jdk_52_method_15_code 1 = .ok (.aload_n 0, 1) := by decide +kernel
theorem d6_2 : decode jdk_52_method_15_code 2 = .ok (.arraylength, 1) := by decide +kernel
theorem d6_3 : decode jdk_52_method_15_code 3 = .ok (.isub, 1) := by decide +kernel
theorem d6_4 : decode jdk_52_method_15_code 4 = .ok (.bipush 31, 2) := by decide +kernel
theorem d6_6 : decode jdk_52_method_15_code 6 = .ok (.iushr, 1) := by decide +kernel
theorem d6_7 : decode jdk_52_method_15_code 7 = .ok (.i2b, 1) := by decide +kernel
theorem d6_8 : decode jdk_52_method_15_code 8 = .ok (.ireturn, 1) := by decide +kernel
theorem ef_5 (m : MethodId) (x0 : Addr) (x1 : Int32) : entryFrame m #[(.ref x0), (.int x1)] 2 = mkF m 0 #[rv x0, iv x1] [] := by first | (simp [entryFrame, mkF, argsToLocals, Value.category]; done) | rfl
def Q5 (Z : State) (a314 : Addr) (h0 : Heap) (n0 : Nat) (v : Option Value) (h : Heap) (L : List Loc) : Prop := v = some (.int (0 : Int32)) ∧ Fr n0 L ∧ h = h0
set_option maxRecDepth 65536 in
set_option maxHeartbeats 40000000 in
theorem rm5 (l : Launch) (Z : State) (a0 : Array Value) (hw : ∀ d ∈ tables_1, d.before a0 Z = true) (ws : List Jvm.Cond) (a314 : Addr) (h0 : Heap) (n0 : Nat) (O0 : Old Z n0 h0) (pL_a314 : own_Len Z h0 a314 .byte (1 : Int32)) :
    MetFree l (⟨zs3, zs17, "([BI)B"⟩ : MethodName) (head1 (Jvm.Cond.code (⟨zs3, zs17, "([BI)B"⟩ : MethodName) jdk_52_method_15_code 2 (some .byte) :: ws) ({ frames := 0, cells := 0, slots := 0, locals := 0 } : Room)) (fun a U => a = #[(.ref a314), (.int (1 : Int32))] ∧ Z.Warmed39 U.vm ∧ U.heap = h0 ∧ CHv Z consts_1 U.vm h0) (fun _ _ _ _ _ => True) (fun _ U o U' => ∃ v L, o = .returned v ∧ Q5 Z a314 h0 n0 v U'.heap L ∧ CHr Z consts_1 U.vm U.heap U'.vm U'.heap ∧ ReturnedEndW U o U' L ({ frames := 0, cells := 0, slots := 0, locals := 0 } : Room).cells ({ frames := 0, cells := 0, slots := 0, locals := 0 } : Room).slots) := by
  refine MetFree.of_bodySF (plainFor_of_name pn_2) hisR ?_
  intro p e s m args below meth c s₁ Bd hml0 hP hK
  obtain ⟨rfl, hZ, hh, hC⟩ := hP
  have hx := Bd.exec
  have hby := Bd.bytes
  have hml : c.maxLocals = 2 := hml0
  have hown : s.vm.findClass zs3 = some m.cls := findClass_of_methodNamed Bd.named
  have hnm := (name_of_methodNamed Bd.named Bd.method).1
  have X0 : Stand p l e ({ frames := 0, cells := 0, slots := 0, locals := 0 } : Room) (s.setVm s.vm) m #[(.ref a314), (.int (1 : Int32))] below meth c s₁ [] 0 0 := Stand.of_body Bd
  have hS : s.Since s.vm 0 := (State.WarmedH.refl s).since 0
  obtain ⟨k0, hk0, hS⟩ : ∃ k0, k0 ≤ h0.size ∧ s.Since s.vm k0 := ⟨0, Nat.zero_le _, hS⟩
  have hZ : Z.Warmed39 (s.setVm s.vm).vm := hZ
  have hown : (s.setVm s.vm).vm.findClass zs3 = some m.cls := hown
  have C0 : CHr Z consts_1 s.vm h0 s.vm h0 := CHr.refl hC
  have hEE := own_ee hw
  have e0 : s₁.heap = h0 := by rw [← hh, Bd.state]; rfl
  have N0 := Fr.nil n0
  refine own_out ?_
  refine own_via (fun t k => castTop (ef_5 m a314 (1 : Int32)) (XS.iloadN X0.here hx rfl (hb hby d6_0) rfl (XS.aloadN X0.here hx rfl (hb hby d6_1) rfl rfl k))) ?_
  show own_Goes p e below (s₁.setTop (mkF m 2 #[rv a314, iv (1 : Int32)] [(.ref a314), (.int (1 : Int32))])) _
  obtain ⟨_, _, _, V347⟩ := id (pL_a314)
  obtain ⟨cl347, Ar347, -, S347, M347, -, -⟩ := id (V347)
  refine own_via (fun t k => X0.arraylength hx (by rw [e0]; exact Ar347.1) (State.isArrayOf_alike hZ.alike Ar347.2.1) (g := (mkF m 2 #[rv a314, iv (1 : Int32)] [(.ref a314), (.int (1 : Int32))])) rfl rfl (hb hby d6_2) t k) ?_
  rw [len_of S347 M347]
  show own_Goes p e below (s₁.setTop (mkF m 3 #[rv a314, iv (1 : Int32)] [(.int (1 : Int32)), (.int (1 : Int32))])) _
  refine own_via (fun t k => XS.isub X0.here hx rfl (hb hby d6_3) rfl (XS.bipush X0.here hx rfl (hb hby d6_4) (XS.iushr X0.here hx rfl (hb hby d6_6) rfl (XS.i2b X0.here hx rfl (hb hby d6_7) rfl k)))) ?_
  show own_Goes p e below (s₁.setTop (mkF m 8 #[rv a314, iv (1 : Int32)] [(.int (0 : Int32))])) _
  obtain ⟨fs, hr, hrun, hended, hRW⟩ := X0.leaveW hS (by rw [e0]; first | exact hk0 | exact Nat.le_refl _) (v := some (.int (0 : Int32))) (fun h => by rw [Bd.returns] at h; cases h)
  have Cz : CHr Z consts_1 s.vm s.heap s₁.vm s₁.heap := own_chr (C0.trans (CHv.at X0 hZ hEE.ew C0.1)) hh e0
  refine own_end (t := s₁.setFrames fs) ?_ ⟨_, hrun, hended, _, _, rfl, ?_, Cz, own_rmono hRW (by decide) (by decide)⟩
  · exact retN X0 hx (t := .byte) Bd.returns (by simp) (hb hby d6_8) hr
  · show Q5 Z a314 h0 n0 _ s₁.heap _
    rw [e0]
    exact ⟨rfl, N0, rfl⟩
theorem pd_5 : parseMethodDescriptor "([BI)B" = some ⟨[(.array .byte), .int], some .byte⟩ := by decide +kernel
theorem d2_48 : decode jdk_42_method_149_code 48 = .ok (.putfield 15, 3) := by decide +kernel
theorem d2_51 : decode jdk_42_method_149_code 51 = .ok (.aload_n 0, 1) := by decide +kernel
theorem d2_52 : decode jdk_42_method_149_code 52 = .ok (.aload 5, 2) := by decide +kernel
theorem d2_54 : decode jdk_42_method_149_code 54 = .ok (.putfield 9, 3) := by decide +kernel
theorem d2_57 : decode jdk_42_method_149_code 57 = .ok (.return_, 1) := by decide +kernel
def Q6 (Z : State) (a189 : Addr) (a190 : Addr) (i19 : Int32) (k196 : ClassId) (p195 : Int32) (p194 : Int32) (h0 : Heap) (n0 : Nat) (v : Option Value) (h : Heap) (L : List Loc) : Prop := v = none ∧ Fr n0 L ∧ Keep h0 h [a189] ∧ Exa Z h a189 zs2
set_option maxRecDepth 65536 in
set_option maxHeartbeats 40000000 in
theorem rm6 (l : Launch) (Z : State) (a0 : Array Value) (hw : ∀ d ∈ tables_1, d.before a0 Z = true) (ws : List Jvm.Cond) (a189 : Addr) (a190 : Addr) (i19 : Int32) (k196 : ClassId) (p195 : Int32) (p194 : Int32) (h0 : Heap) (n0 : Nat) (O0 : Old Z n0 h0) (S_String_COMPACT_STRINGS : Sta Z Z.heap zs2 zs15 "Z" (.int i19)) (pC197 : ¬ (i19 = (0 : Int32))) (pV_a190 : Arv Z h0 a190 k196 .char (1 : Int32) [(.int p195)] (.int (0 : Int32))) (pC218 : ¬ ((255 : Int32) < p195)) (pF_a189_coder : Fld Z h0 a189 zs2 "coder" "B" (.int p194)) (pE_a189 : Exa Z h0 a189 zs2) (pG_a189 : n0 ≤ a189) (pF_a189_value : Fld Z h0 a189 zs2 "value" "[B" .null) :
    MetFree l (⟨zs2, "<init>", zs12⟩ : MethodName) (head1 (Jvm.Cond.code (⟨zs2, "<init>", zs12⟩ : MethodName) jdk_42_method_149_code 6 none :: ws) ({ frames := 2, cells := 1, slots := 1, locals := 35 } : Room)) (fun a U => a = #[(.ref a189), (.ref a190), (.int (0 : Int32)), (.int (1 : Int32)), .null] ∧ Z.Warmed39 U.vm ∧ U.heap = h0 ∧ CHv Z consts_1 U.vm h0) (fun _ _ _ _ _ => True) (fun _ U o U' => ∃ v L, o = .returned v ∧ Q6 Z a189 a190 i19 k196 p195 p194 h0 n0 v U'.heap L ∧ CHr Z consts_1 U.vm U.heap U'.vm U'.heap ∧ ReturnedEndW U o U' L ({ frames := 2, cells := 1, slots := 1, locals := 35 } : Room).cells ({ frames := 2, cells := 1, slots := 1, locals := 35 } : Room).slots) := by
  refine MetFree.of_bodySF (plainFor_of_name pn_1) hisR ?_
  intro p e s m args below meth c s₁ Bd hml0 hP hK
  obtain ⟨rfl, hZ, hh, hC⟩ := hP
  have hx := Bd.exec
  have hby := Bd.bytes
  have hml : c.maxLocals = 6 := hml0
  have hown : s.vm.findClass zs2 = some m.cls := findClass_of_methodNamed Bd.named
  have hnm := (name_of_methodNamed Bd.named Bd.method).1
  have X0 : Stand p l e ({ frames := 2, cells := 1, slots := 1, locals := 35 } : Room) (s.setVm s.vm) m #[(.ref a189), (.ref a190), (.int (0 : Int32)), (.int (1 : Int32)), .null] below meth c s₁ [] 0 0 := Stand.of_body Bd
  have hS : s.Since s.vm 0 := (State.WarmedH.refl s).since 0
  obtain ⟨k0, hk0, hS⟩ : ∃ k0, k0 ≤ h0.size ∧ s.Since s.vm k0 := ⟨0, Nat.zero_le _, hS⟩
  have hZ : Z.Warmed39 (s.setVm s.vm).vm := hZ
  have hown : (s.setVm s.vm).vm.findClass zs2 = some m.cls := hown
  have C0 : CHr Z consts_1 s.vm h0 s.vm h0 := CHr.refl hC
  have hEE := own_ee hw
  have e0 : s₁.heap = h0 := by rw [← hh, Bd.state]; rfl
  have N0 := Fr.nil n0
  refine own_out ?_
  refine own_via (fun t k => castTop (ef_1 m a189 a190 (0 : Int32) (1 : Int32)) (XS.aloadN X0.here hx rfl (hb hby d2_0) rfl rfl k)) ?_
  obtain ⟨T220, X220, e220, st220⟩ := initO X0 hx hZ hown (wd hw 11 rfl) (wd hw 12 rfl) (wd hw 13 rfl) e0 (g := (mkF m 1 #[rv a189, rv a190, iv (0 : Int32), iv (1 : Int32), .val .null, .unset] [(.ref a189)])) rfl (by rw [hml]; rfl) rfl (hb hby d2_1) (by decide) (W := 0) (by show 2 * 0 + _ ≤ _; exact Nat.le_of_eq rfl) (by decide)
  refine own_via (fun t k => st220 t (XS.iloadN X220.here hx rfl (hb hby d2_4) rfl (XS.ifYes X220.here hx rfl (pc0 := 5) (pc' := 27) rfl (hb hby d2_5) rfl ((if0 _ _).trans (feq (by decide : ¬ ((1 : Int32) = (0 : Int32)))).2) (by decide) (by decide) k))) ?_
  show own_Goes p e below (T220.setTop (mkF m 27 #[rv a189, rv a190, iv (0 : Int32), iv (1 : Int32), .val .null, .unset] [])) _
  obtain ⟨T221, X221, e221, st221⟩ := getS2 X220 hx hZ hown (host := "") (Or.inl (wd hw 22 rfl)) Via.refl e220 (S_String_COMPACT_STRINGS.ext O0.2) (g := (mkF m 27 #[rv a189, rv a190, iv (0 : Int32), iv (1 : Int32), .val .null, .unset] [])) rfl (hb hby d2_27)
  refine own_via (fun t k => st221 t (XS.ifNo X221.here hx rfl (hb hby d2_30) rfl ((if0 _ _).trans (feq pC197).1) (XS.aloadN X221.here hx rfl (hb hby d2_33) rfl rfl (XS.iloadN X221.here hx rfl (hb hby d2_34) rfl (XS.iloadN X221.here hx rfl (hb hby d2_35) rfl k))))) ?_
  show own_Goes p e below (T221.setTop (mkF m 36 #[rv a189, rv a190, iv (0 : Int32), iv (1 : Int32), .val .null, .unset] [(.int (1 : Int32)), (.int (0 : Int32)), (.ref a190)])) _
  obtain ⟨_, T222, _, X222, hQ222, Cr222, hS, hZ, hown, st222⟩ := own_csH X221 hx hZ hS hk0 hown (wd hw 23 rfl) (wd hw 24 rfl) (wd hw 26 rfl) (wd hw 25 rfl) (by decide) hEE.ew C0.1 (rm4 l Z a0 hw [] a190 k196 p195 h0 n0 O0 pV_a190 pC218) e221 (g := (mkF m 36 #[rv a189, rv a190, iv (0 : Int32), iv (1 : Int32), .val .null, .unset] [(.int (1 : Int32)), (.int (0 : Int32)), (.ref a190)])) rfl (by rw [hml]; rfl) (rest := []) (W := 0) (lenOf pd_4 rfl) rfl (by show 2 * 0 + _ ≤ _; exact Nat.le_of_eq rfl) (hb hby d2_36) (by decide) (by decide) (by decide) (by decide)
  obtain ⟨h222, e222⟩ : ∃ z, T222.heap = z := ⟨_, rfl⟩
  rw [e222] at hQ222 Cr222
  obtain ⟨b305, k306, rfl, Nq222, K222, bx307, vx308⟩ := hQ222
  have N222 := Fr.app N0 Nq222
  have C309 := C0.trans Cr222
  have g310 : n0 ≤ b305 := Nat.le_trans (own_old O0) bx307
  have B311 : h0.size ≤ b305 := Nat.le_trans (Nat.le_refl _) bx307
  have hk312 : T222.heap.size ≤ h222.size := Nat.le_of_eq (congrArg Array.size e222)
  refine own_via (fun t k => st222 t (XS.astore X222.here hx rfl (hb hby d2_39) rfl rfl (l' := #[rv a189, rv a190, iv (0 : Int32), iv (1 : Int32), .val .null, rv b305]) rfl (XS.aloadN X222.here hx rfl (hb hby d2_41) rfl rfl (XS.aload X222.here hx rfl (hb hby d2_42) rfl rfl (XS.iloadN X222.here hx rfl (hb hby d2_44) rfl k))))) ?_
  show own_Goes p e below (T222.setTop (mkF m 45 #[rv a189, rv a190, iv (0 : Int32), iv (1 : Int32), .val .null, rv b305] [(.int (1 : Int32)), (.ref b305), (.ref a189)])) _
  have l348 : own_Len Z h222 b305 .byte (1 : Int32) := ⟨_, _, _, vx308⟩
  have O349 : Old Z n0 h222 := (O0.keep K222 all0)
  obtain ⟨_, T313, _, X313, hQ313, Cr313, hS, hZ, hown, st313⟩ := own_csH X222 hx hZ hS hk312 hown (wd hw 30 rfl) (wd hw 31 rfl) (wd hw 32 rfl) (wd hw 25 rfl) (by decide) hEE.ew C309.1 (rm5 l Z a0 hw [] b305 h222 n0 O349 l348) e222 (g := (mkF m 45 #[rv a189, rv a190, iv (0 : Int32), iv (1 : Int32), .val .null, rv b305] [(.int (1 : Int32)), (.ref b305), (.ref a189)])) rfl (by rw [hml]; rfl) (rest := [(.ref a189)]) (W := 1) (lenOf pd_5 rfl) rfl (by show 2 * 0 + _ ≤ _; exact Nat.le_of_eq rfl) (hb hby d2_45) (by decide) (by decide) (by decide) (by decide)
  obtain ⟨rfl, Nq313, hh350⟩ := hQ313
  have N313 := Fr.app N222 Nq313
  rw [hh350] at Cr313
  have C351 := C309.trans Cr313
  have hk352 : T313.heap.size ≤ h222.size := Nat.le_of_eq (congrArg Array.size hh350)
  refine own_via (fun t k => st313 t k) ?_
  have F353 : Fld Z h222 a189 zs2 "coder" "B" (.int p194) := (pF_a189_coder.keep K222 nin0)
  have E354 : Exa Z h222 a189 zs2 := (pE_a189.keep K222)
  obtain ⟨T355, h355, X355, e355, W355, st355⟩ := putFN X313 hx hZ hown (wd hw 21 rfl) Via.refl hh350 F353 E354 (Or.inr ⟨(wd hw 17 rfl), rfl, hnm⟩) (wd hw 1 rfl) (ty := .byte) (v' := (.int (0 : Int32))) (by decide) rfl (by decide) (g := (mkF m 48 #[rv a189, rv a190, iv (0 : Int32), iv (1 : Int32), .val .null, rv b305] [(.int (0 : Int32)), (.ref a189)])) rfl rfl (hb hby d2_48)
  refine own_via (fun t k => st355 t k) ?_
  have Fw355 : Fld Z h355 a189 zs2 "coder" "B" (.int (0 : Int32)) := F353.same W355
  have F356 : Fld Z h222 a189 zs2 "value" "[B" .null := (pF_a189_value.keep K222 nin0)
  have Sf357 : Safe Z consts_1 _ h222 a189 := (own_safeS hZ.alike E354 F356)
  have C355 := C351.trans (CHr.wr W355 Sf357 C351.1)
  have Sa358 := Safe.wr W355 Sf357 C351.1 Sf357
  have N355 := Fr.snoc X355 N313 pG_a189
  show own_Goes p e below (T355.setTop (mkF m 51 #[rv a189, rv a190, iv (0 : Int32), iv (1 : Int32), .val .null, rv b305] [])) _
  refine own_via (fun t k => XS.aloadN X355.here hx rfl (hb hby d2_51) rfl rfl (XS.aload X355.here hx rfl (hb hby d2_52) rfl rfl k)) ?_
  have F359 : Fld Z h355 a189 zs2 "value" "[B" .null := (F356.other W355 (Or.inr (slot_ne (Or.inr (wd hw 16 rfl)) (Or.inr (wd hw 17 rfl)) (by decide) (t := (.array .byte)) (t' := .byte) (by decide) (by decide))))
  have E360 : Exa Z h355 a189 zs2 := (E354.wr W355)
  obtain ⟨T361, h361, X361, e361, W361, st361⟩ := putF X355 hx hZ hown (host := "") (Or.inl (wd hw 20 rfl)) Via.refl e355 F359 E360 (Or.inr ⟨(wd hw 16 rfl), rfl, hnm⟩) (wd hw 1 rfl) (ty := (.array .byte)) (by decide) rfl rfl (g := (mkF m 54 #[rv a189, rv a190, iv (0 : Int32), iv (1 : Int32), .val .null, rv b305] [(.ref b305), (.ref a189)])) rfl rfl (hb hby d2_54)
  refine own_via (fun t k => st361 t k) ?_
  have Fw361 : Fld Z h361 a189 zs2 "value" "[B" (.ref b305) := F359.same W361
  have Sf362 : Safe Z consts_1 _ h355 a189 := Sa358
  have C361 := C355.trans (CHr.wr W361 Sf362 C355.1)
  have Sa363 := Safe.wr W361 Sf362 C355.1 Sa358
  have N361 := Fr.snoc X361 N355 pG_a189
  show own_Goes p e below (T361.setTop (mkF m 57 #[rv a189, rv a190, iv (0 : Int32), iv (1 : Int32), .val .null, rv b305] [])) _
  have K364 : T313.heap.size ≤ h361.size := (Nat.le_trans (Nat.le_trans hk352 (Nat.le_of_eq W355.size.symm)) (Nat.le_of_eq W361.size.symm))
  obtain ⟨fs, hr, hrun, hended, hRW⟩ := X361.leaveW hS (by rw [e361]; first | exact K364 | exact Nat.le_refl _) (v := none) (fun _ => rfl)
  have Cz : CHr Z consts_1 s.vm s.heap T361.vm T361.heap := own_chr (C361.trans (CHv.at X361 hZ hEE.ew C361.1)) hh e361
  refine own_end (t := T361.setFrames fs) ?_ ⟨_, hrun, hended, _, _, rfl, ?_, Cz, own_rmono hRW (by decide) (by decide)⟩
  · exact X361.returnOut hx Bd.returns (hb hby d2_57) hr
  have E365 : Exa Z h361 a189 zs2 := (E360.wr W361)
  · show Q6 Z a189 a190 i19 k196 p195 p194 h0 n0 _ T361.heap _
    rw [e361]
    exact ⟨rfl, N361, ((((Keep.refl h0 [a189]).trans K222 all0).wr W355 (Or.inl (List.mem_of_getElem? (i := 0) rfl))).wr W361 (Or.inl (List.mem_of_getElem? (i := 0) rfl))), E365⟩
def Q7 (Z : State) (a156 : Addr) (a157 : Addr) (i19 : Int32) (k163 : ClassId) (p162 : Int32) (p161 : Int32) (h0 : Heap) (n0 : Nat) (v : Option Value) (h : Heap) (L : List Loc) : Prop := v = none ∧ Fr n0 L ∧ Keep h0 h [a156] ∧ Exa Z h a156 zs2
set_option maxRecDepth 65536 in
set_option maxHeartbeats 40000000 in
theorem rm7 (l : Launch) (Z : State) (a0 : Array Value) (hw : ∀ d ∈ tables_1, d.before a0 Z = true) (ws : List Jvm.Cond) (a156 : Addr) (a157 : Addr) (i19 : Int32) (k163 : ClassId) (p162 : Int32) (p161 : Int32) (h0 : Heap) (n0 : Nat) (O0 : Old Z n0 h0) (pL_a157 : own_Len Z h0 a157 .char (1 : Int32)) (S_String_COMPACT_STRINGS : Sta Z Z.heap zs2 zs15 "Z" (.int i19)) (pC164 : ¬ (i19 = (0 : Int32))) (pV_a157 : Arv Z h0 a157 k163 .char (1 : Int32) [(.int p162)] (.int (0 : Int32))) (pC185 : ¬ ((255 : Int32) < p162)) (pF_a156_coder : Fld Z h0 a156 zs2 "coder" "B" (.int p161)) (pE_a156 : Exa Z h0 a156 zs2) (pG_a156 : n0 ≤ a156) (pF_a156_value : Fld Z h0 a156 zs2 "value" "[B" .null) :
    MetFree l (⟨zs2, "<init>", "([C)V"⟩ : MethodName) (head1 (Jvm.Cond.code (⟨zs2, "<init>", "([C)V"⟩ : MethodName) jdk_42_method_3_code 2 none :: ws) ({ frames := 3, cells := 1, slots := 1, locals := 52 } : Room)) (fun a U => a = #[(.ref a156), (.ref a157)] ∧ Z.Warmed39 U.vm ∧ U.heap = h0 ∧ CHv Z consts_1 U.vm h0) (fun _ _ _ _ _ => True) (fun _ U o U' => ∃ v L, o = .returned v ∧ Q7 Z a156 a157 i19 k163 p162 p161 h0 n0 v U'.heap L ∧ CHr Z consts_1 U.vm U.heap U'.vm U'.heap ∧ ReturnedEndW U o U' L ({ frames := 3, cells := 1, slots := 1, locals := 52 } : Room).cells ({ frames := 3, cells := 1, slots := 1, locals := 52 } : Room).slots) := by
  refine MetFree.of_bodySF (plainFor_of_name pn_1) hisR ?_
  intro p e s m args below meth c s₁ Bd hml0 hP hK
  obtain ⟨rfl, hZ, hh, hC⟩ := hP
  have hx := Bd.exec
  have hby := Bd.bytes
  have hml : c.maxLocals = 2 := hml0
  have hown : s.vm.findClass zs2 = some m.cls := findClass_of_methodNamed Bd.named
  have hnm := (name_of_methodNamed Bd.named Bd.method).1
  have X0 : Stand p l e ({ frames := 3, cells := 1, slots := 1, locals := 52 } : Room) (s.setVm s.vm) m #[(.ref a156), (.ref a157)] below meth c s₁ [] 0 0 := Stand.of_body Bd
  have hS : s.Since s.vm 0 := (State.WarmedH.refl s).since 0
  obtain ⟨k0, hk0, hS⟩ : ∃ k0, k0 ≤ h0.size ∧ s.Since s.vm k0 := ⟨0, Nat.zero_le _, hS⟩
  have hZ : Z.Warmed39 (s.setVm s.vm).vm := hZ
  have hown : (s.setVm s.vm).vm.findClass zs2 = some m.cls := hown
  have C0 : CHr Z consts_1 s.vm h0 s.vm h0 := CHr.refl hC
  have hEE := own_ee hw
  have e0 : s₁.heap = h0 := by rw [← hh, Bd.state]; rfl
  have N0 := Fr.nil n0
  refine own_out ?_
  refine own_via (fun t k => castTop (ef_2 m a156 a157) (XS.aloadN X0.here hx rfl (hb hby d1_0) rfl rfl (XS.aloadN X0.here hx rfl (hb hby d1_1) rfl rfl (XS.iconst X0.here hx rfl (hb hby d1_2) (XS.aloadN X0.here hx rfl (hb hby d1_3) rfl rfl k))))) ?_
  show own_Goes p e below (s₁.setTop (mkF m 4 #[rv a156, rv a157] [(.ref a157), (.int (0 : Int32)), (.ref a157), (.ref a156)])) _
  obtain ⟨_, _, _, V187⟩ := id (pL_a157)
  obtain ⟨cl187, Ar187, -, S187, M187, -, -⟩ := id (V187)
  refine own_via (fun t k => X0.arraylength hx (by rw [e0]; exact Ar187.1) (State.isArrayOf_alike hZ.alike Ar187.2.1) (g := (mkF m 4 #[rv a156, rv a157] [(.ref a157), (.int (0 : Int32)), (.ref a157), (.ref a156)])) rfl rfl (hb hby d1_4) t k) ?_
  rw [len_of S187 M187]
  show own_Goes p e below (s₁.setTop (mkF m 5 #[rv a156, rv a157] [(.int (1 : Int32)), (.int (0 : Int32)), (.ref a157), (.ref a156)])) _
  refine own_via (fun t k => XS.aconstNull X0.here hx rfl (hb hby d1_5) k) ?_
  obtain ⟨_, T188, _, X188, hQ188, Cr188, hS, hZ, hown, st188⟩ := own_ciH X0 hx hZ hS hk0 hown (wd hw 7 rfl) (wd hw 8 rfl) (wd hw 10 rfl) (wd hw 2 rfl) rfl (by decide) hEE.ew C0.1 (rm6 l Z a0 hw [] a156 a157 i19 k163 p162 p161 h0 n0 O0 S_String_COMPACT_STRINGS pC164 pV_a157 pC185 pF_a156_coder pE_a156 pG_a156 pF_a156_value) e0 (g := (mkF m 6 #[rv a156, rv a157] [.null, (.int (1 : Int32)), (.int (0 : Int32)), (.ref a157), (.ref a156)])) rfl (by rw [hml]; rfl) (rest := []) (W := 0) (lenOf pd_1 rfl) rfl (by show 2 * 0 + _ ≤ _; exact Nat.le_of_eq rfl) (hb hby d1_6) (by decide) (by decide) (by decide) (by decide)
  obtain ⟨h188, e188⟩ : ∃ z, T188.heap = z := ⟨_, rfl⟩
  rw [e188] at hQ188 Cr188
  obtain ⟨rfl, Nq188, K188, ex366⟩ := hQ188
  have N188 := Fr.app N0 Nq188
  have C367 := C0.trans Cr188
  have hk368 : T188.heap.size ≤ h188.size := Nat.le_of_eq (congrArg Array.size e188)
  refine own_via (fun t k => st188 t k) ?_
  obtain ⟨fs, hr, hrun, hended, hRW⟩ := X188.leaveW hS (by rw [e188]; first | exact hk368 | exact Nat.le_refl _) (v := none) (fun _ => rfl)
  have Cz : CHr Z consts_1 s.vm s.heap T188.vm T188.heap := own_chr (C367.trans (CHv.at X188 hZ hEE.ew C367.1)) hh e188
  refine own_end (t := T188.setFrames fs) ?_ ⟨_, hrun, hended, _, _, rfl, ?_, Cz, own_rmono hRW (by decide) (by decide)⟩
  · exact X188.returnOut hx Bd.returns (hb hby d1_9) hr
  · show Q7 Z a156 a157 i19 k163 p162 p161 h0 n0 _ T188.heap _
    rw [e188]
    exact ⟨rfl, N188, ((Keep.refl h0 [a156]).trans K188 (allS (Or.inl (List.mem_of_getElem? (i := 0) rfl)) all0)), ex366⟩
theorem d7_0 : decode jdk_38_method_2_code 0 = .ok (.aload_n 0, 1) := by decide +kernel
theorem d7_1 : decode jdk_38_method_2_code 1 = .ok (.invokespecial 1, 3) := by decide +kernel
theorem d8_0 : decode jdk_39_method_1_code 0 = .ok (.aload_n 0, 1) := by decide +kernel
theorem d8_1 : decode jdk_39_method_1_code 1 = .ok (.invokespecial 1, 3) := by decide +kernel
theorem d9_0 : decode jdk_22_method_1_code 0 = .ok (.aload_n 0, 1) := by decide +kernel
theorem d9_1 : decode jdk_22_method_1_code 1 = .ok (.invokespecial 1, 3) := by decide +kernel
theorem d9_4 : decode jdk_22_method_1_code 4 = .ok (.return_, 1) := by decide +kernel
theorem ef_6 (m : MethodId) (x0 : Addr) : entryFrame m #[(.ref x0)] 1 = mkF m 0 #[rv x0] [] := by first | (simp [entryFrame, mkF, argsToLocals, Value.category]; done) | rfl
theorem pn_3 : plainName "java/util/AbstractCollection" = true := by first | (simp [plainName, overriddenIn]; done) | decide +kernel
def Q8 (Z : State) (a460 : Addr) (h0 : Heap) (n0 : Nat) (v : Option Value) (h : Heap) (L : List Loc) : Prop := v = none ∧ Fr n0 L ∧ h = h0
set_option maxRecDepth 65536 in
set_option maxHeartbeats 40000000 in
theorem rm8 (l : Launch) (Z : State) (a0 : Array Value) (hw : ∀ d ∈ tables_1, d.before a0 Z = true) (ws : List Jvm.Cond) (a460 : Addr) (h0 : Heap) (n0 : Nat) (O0 : Old Z n0 h0) :
    MetFree l (⟨zs14, "<init>", "()V"⟩ : MethodName) (head1 (Jvm.Cond.code (⟨zs14, "<init>", "()V"⟩ : MethodName) jdk_22_method_1_code 1 none :: ws) ({ frames := 1, cells := 0, slots := 0, locals := 12 } : Room)) (fun a U => a = #[(.ref a460)] ∧ Z.Warmed39 U.vm ∧ U.heap = h0 ∧ CHv Z consts_1 U.vm h0) (fun _ _ _ _ _ => True) (fun _ U o U' => ∃ v L, o = .returned v ∧ Q8 Z a460 h0 n0 v U'.heap L ∧ CHr Z consts_1 U.vm U.heap U'.vm U'.heap ∧ ReturnedEndW U o U' L ({ frames := 1, cells := 0, slots := 0, locals := 12 } : Room).cells ({ frames := 1, cells := 0, slots := 0, locals := 12 } : Room).slots) := by
  refine MetFree.of_bodySF (plainFor_of_name pn_3) hisR ?_
  intro p e s m args below meth c s₁ Bd hml0 hP hK
  obtain ⟨rfl, hZ, hh, hC⟩ := hP
  have hx := Bd.exec
  have hby := Bd.bytes
  have hml : c.maxLocals = 1 := hml0
  have hown : s.vm.findClass zs14 = some m.cls := findClass_of_methodNamed Bd.named
  have hnm := (name_of_methodNamed Bd.named Bd.method).1
  have X0 : Stand p l e ({ frames := 1, cells := 0, slots := 0, locals := 12 } : Room) (s.setVm s.vm) m #[(.ref a460)] below meth c s₁ [] 0 0 := Stand.of_body Bd
  have hS : s.Since s.vm 0 := (State.WarmedH.refl s).since 0
  obtain ⟨k0, hk0, hS⟩ : ∃ k0, k0 ≤ h0.size ∧ s.Since s.vm k0 := ⟨0, Nat.zero_le _, hS⟩
  have hZ : Z.Warmed39 (s.setVm s.vm).vm := hZ
  have hown : (s.setVm s.vm).vm.findClass zs14 = some m.cls := hown
  have C0 : CHr Z consts_1 s.vm h0 s.vm h0 := CHr.refl hC
  have hEE := own_ee hw
  have e0 : s₁.heap = h0 := by rw [← hh, Bd.state]; rfl
  have N0 := Fr.nil n0
  refine own_out ?_
  refine own_via (fun t k => castTop (ef_6 m a460) (XS.aloadN X0.here hx rfl (hb hby d9_0) rfl rfl k)) ?_
  obtain ⟨T492, X492, e492, st492⟩ := initO X0 hx hZ hown (wd hw 51 rfl) (wd hw 12 rfl) (wd hw 13 rfl) e0 (g := (mkF m 1 #[rv a460] [(.ref a460)])) rfl (by rw [hml]; rfl) rfl (hb hby d9_1) (by decide) (W := 0) (by show 2 * 0 + _ ≤ _; exact Nat.le_of_eq rfl) (by decide)
  refine own_via (fun t k => st492 t k) ?_
  obtain ⟨fs, hr, hrun, hended, hRW⟩ := X492.leaveW hS (by rw [e492]; first | exact hk0 | exact Nat.le_refl _) (v := none) (fun _ => rfl)
  have Cz : CHr Z consts_1 s.vm s.heap T492.vm T492.heap := own_chr (C0.trans (CHv.at X492 hZ hEE.ew C0.1)) hh e492
  refine own_end (t := T492.setFrames fs) ?_ ⟨_, hrun, hended, _, _, rfl, ?_, Cz, own_rmono hRW (by decide) (by decide)⟩
  · exact X492.returnOut hx Bd.returns (hb hby d9_4) hr
  · show Q8 Z a460 h0 n0 _ T492.heap _
    rw [e492]
    exact ⟨rfl, N0, rfl⟩
theorem pd_6 : parseMethodDescriptor "()V" = some ⟨[], none⟩ := by decide +kernel
theorem d8_4 : decode jdk_39_method_1_code 4 = .ok (.aload_n 0, 1) := by decide +kernel
theorem d8_5 : decode jdk_39_method_1_code 5 = .ok (.iconst 0, 1) := by decide +kernel
theorem d8_6 : decode jdk_39_method_1_code 6 = .ok (.putfield 7, 3) := by decide +kernel
theorem d8_9 : decode jdk_39_method_1_code 9 = .ok (.return_, 1) := by decide +kernel
theorem ef_7 (m : MethodId) (x0 : Addr) : entryFrame m #[(.ref x0)] 1 = mkF m 0 #[rv x0] [] := by first | (simp [entryFrame, mkF, argsToLocals, Value.category]; done) | rfl
theorem pn_4 : plainName "java/util/AbstractList" = true := by first | (simp [plainName, overriddenIn]; done) | decide +kernel
def Q9 (Z : State) (a427 : Addr) (p435 : Int32) (h0 : Heap) (n0 : Nat) (v : Option Value) (h : Heap) (L : List Loc) : Prop := v = none ∧ Fr n0 L ∧ Keep h0 h [a427] ∧ Exa Z h a427 zs5 ∧ Fld Z h a427 zs6 "modCount" "I" (.int (0 : Int32)) ∧ Fld Z h a427 zs5 "elementData" zs7 .null
set_option maxRecDepth 65536 in
set_option maxHeartbeats 40000000 in
theorem rm9 (l : Launch) (Z : State) (a0 : Array Value) (hw : ∀ d ∈ tables_1, d.before a0 Z = true) (ws : List Jvm.Cond) (a427 : Addr) (p435 : Int32) (h0 : Heap) (n0 : Nat) (O0 : Old Z n0 h0) (pF_a427_modCount : Fld Z h0 a427 zs6 "modCount" "I" (.int p435)) (pE_a427 : Exa Z h0 a427 zs5) (pG_a427 : n0 ≤ a427) (pF_a427_elementData : Fld Z h0 a427 zs5 "elementData" zs7 .null) :
    MetFree l (⟨zs6, "<init>", "()V"⟩ : MethodName) (head1 (Jvm.Cond.code (⟨zs6, "<init>", "()V"⟩ : MethodName) jdk_39_method_1_code 1 none :: ws) ({ frames := 2, cells := 0, slots := 0, locals := 24 } : Room)) (fun a U => a = #[(.ref a427)] ∧ Z.Warmed39 U.vm ∧ U.heap = h0 ∧ CHv Z consts_1 U.vm h0) (fun _ _ _ _ _ => True) (fun _ U o U' => ∃ v L, o = .returned v ∧ Q9 Z a427 p435 h0 n0 v U'.heap L ∧ CHr Z consts_1 U.vm U.heap U'.vm U'.heap ∧ ReturnedEndW U o U' L ({ frames := 2, cells := 0, slots := 0, locals := 24 } : Room).cells ({ frames := 2, cells := 0, slots := 0, locals := 24 } : Room).slots) := by
  refine MetFree.of_bodySF (plainFor_of_name pn_4) hisR ?_
  intro p e s m args below meth c s₁ Bd hml0 hP hK
  obtain ⟨rfl, hZ, hh, hC⟩ := hP
  have hx := Bd.exec
  have hby := Bd.bytes
  have hml : c.maxLocals = 1 := hml0
  have hown : s.vm.findClass zs6 = some m.cls := findClass_of_methodNamed Bd.named
  have hnm := (name_of_methodNamed Bd.named Bd.method).1
  have X0 : Stand p l e ({ frames := 2, cells := 0, slots := 0, locals := 24 } : Room) (s.setVm s.vm) m #[(.ref a427)] below meth c s₁ [] 0 0 := Stand.of_body Bd
  have hS : s.Since s.vm 0 := (State.WarmedH.refl s).since 0
  obtain ⟨k0, hk0, hS⟩ : ∃ k0, k0 ≤ h0.size ∧ s.Since s.vm k0 := ⟨0, Nat.zero_le _, hS⟩
  have hZ : Z.Warmed39 (s.setVm s.vm).vm := hZ
  have hown : (s.setVm s.vm).vm.findClass zs6 = some m.cls := hown
  have C0 : CHr Z consts_1 s.vm h0 s.vm h0 := CHr.refl hC
  have hEE := own_ee hw
  have e0 : s₁.heap = h0 := by rw [← hh, Bd.state]; rfl
  have N0 := Fr.nil n0
  refine own_out ?_
  refine own_via (fun t k => castTop (ef_7 m a427) (XS.aloadN X0.here hx rfl (hb hby d8_0) rfl rfl k)) ?_
  obtain ⟨_, T459, _, X459, hQ459, Cr459, hS, hZ, hown, st459⟩ := own_ciH X0 hx hZ hS hk0 hown (wd hw 45 rfl) (wd hw 46 rfl) (wd hw 50 rfl) (wd hw 49 rfl) rfl (by decide) hEE.ew C0.1 (rm8 l Z a0 hw [] a427 h0 n0 O0 ) e0 (g := (mkF m 1 #[rv a427] [(.ref a427)])) rfl (by rw [hml]; rfl) (rest := []) (W := 0) (lenOf pd_6 rfl) rfl (by show 2 * 0 + _ ≤ _; exact Nat.le_of_eq rfl) (hb hby d8_1) (by decide) (by decide) (by decide) (by decide)
  obtain ⟨rfl, Nq459, hh493⟩ := hQ459
  have N459 := Fr.app N0 Nq459
  rw [hh493] at Cr459
  have C494 := C0.trans Cr459
  have hk495 : T459.heap.size ≤ h0.size := Nat.le_of_eq (congrArg Array.size hh493)
  refine own_via (fun t k => st459 t (XS.aloadN X459.here hx rfl (hb hby d8_4) rfl rfl (XS.iconst X459.here hx rfl (hb hby d8_5) k))) ?_
  show own_Goes p e below (T459.setTop (mkF m 6 #[rv a427] [(.int (0 : Int32)), (.ref a427)])) _
  obtain ⟨T496, h496, X496, e496, W496, st496⟩ := putF X459 hx hZ hown (host := "") (Or.inl (wd hw 52 rfl)) Via.refl hh493 pF_a427_modCount pE_a427 (Or.inl (wd hw 53 rfl)) (wd hw 34 rfl) (ty := .int) (by decide) rfl rfl (g := (mkF m 6 #[rv a427] [(.int (0 : Int32)), (.ref a427)])) rfl rfl (hb hby d8_6)
  refine own_via (fun t k => st496 t k) ?_
  have Fw496 : Fld Z h496 a427 zs6 "modCount" "I" (.int (0 : Int32)) := pF_a427_modCount.same W496
  have Sf497 : Safe Z consts_1 _ h0 a427 := (Safe.exa hZ.alike pE_a427 (by decide) (by decide))
  have C496 := C494.trans (CHr.wr W496 Sf497 C494.1)
  have N496 := Fr.snoc X496 N459 pG_a427
  show own_Goes p e below (T496.setTop (mkF m 9 #[rv a427] [])) _
  have K498 : T459.heap.size ≤ h496.size := (Nat.le_trans hk495 (Nat.le_of_eq W496.size.symm))
  obtain ⟨fs, hr, hrun, hended, hRW⟩ := X496.leaveW hS (by rw [e496]; first | exact K498 | exact Nat.le_refl _) (v := none) (fun _ => rfl)
  have Cz : CHr Z consts_1 s.vm s.heap T496.vm T496.heap := own_chr (C496.trans (CHv.at X496 hZ hEE.ew C496.1)) hh e496
  refine own_end (t := T496.setFrames fs) ?_ ⟨_, hrun, hended, _, _, rfl, ?_, Cz, own_rmono hRW (by decide) (by decide)⟩
  · exact X496.returnOut hx Bd.returns (hb hby d8_9) hr
  have E499 : Exa Z h496 a427 zs5 := (pE_a427.wr W496)
  have F500 : Fld Z h496 a427 zs5 "elementData" zs7 .null := (pF_a427_elementData.other W496 (Or.inr (slot_ne (Or.inl (wd hw 56 rfl)) (Or.inl (wd hw 53 rfl)) (by decide) (t := (.array (.object zs13))) (t' := .int) (by decide) (by decide))))
  · show Q9 Z a427 p435 h0 n0 _ T496.heap _
    rw [e496]
    exact ⟨rfl, N496, ((Keep.refl h0 [a427]).wr W496 (Or.inl (List.mem_of_getElem? (i := 0) rfl))), E499, Fw496, F500⟩
theorem d7_4 : decode jdk_38_method_2_code 4 = .ok (.aload_n 0, 1) := by decide +kernel
theorem d7_5 : decode jdk_38_method_2_code 5 = .ok (.getstatic 39, 3) := by decide +kernel
theorem d7_8 : decode jdk_38_method_2_code 8 = .ok (.putfield 9, 3) := by decide +kernel
theorem d7_11 : decode jdk_38_method_2_code 11 = .ok (.return_, 1) := by decide +kernel
theorem ef_8 (m : MethodId) (x0 : Addr) : entryFrame m #[(.ref x0)] 1 = mkF m 0 #[rv x0] [] := by first | (simp [entryFrame, mkF, argsToLocals, Value.category]; done) | rfl
theorem pn_5 : plainName "java/util/ArrayList" = true := by first | (simp [plainName, overriddenIn]; done) | decide +kernel
def Q10 (Z : State) (a394 : Addr) (p402 : Int32) (w24 : Addr) (h0 : Heap) (n0 : Nat) (v : Option Value) (h : Heap) (L : List Loc) : Prop := v = none ∧ Fr n0 L ∧ Keep h0 h [a394] ∧ Exa Z h a394 zs5 ∧ Fld Z h a394 zs6 "modCount" "I" (.int (0 : Int32)) ∧ Fld Z h a394 zs5 "elementData" zs7 (.ref w24)
set_option maxRecDepth 65536 in
set_option maxHeartbeats 40000000 in
theorem rm10 (l : Launch) (Z : State) (a0 : Array Value) (hw : ∀ d ∈ tables_1, d.before a0 Z = true) (ws : List Jvm.Cond) (a394 : Addr) (p402 : Int32) (w24 : Addr) (h0 : Heap) (n0 : Nat) (O0 : Old Z n0 h0) (pF_a394_modCount : Fld Z h0 a394 zs6 "modCount" "I" (.int p402)) (pE_a394 : Exa Z h0 a394 zs5) (pG_a394 : n0 ≤ a394) (pF_a394_elementData : Fld Z h0 a394 zs5 "elementData" zs7 .null) (S_ArrayList_DEFAULTCAPACITY_EMPTY_ELEMENTDATA : Sta Z Z.heap zs5 "DEFAULTCAPACITY_EMPTY_ELEMENTDATA" zs7 (.ref w24)) :
    MetFree l (⟨zs5, "<init>", "()V"⟩ : MethodName) (head1 (Jvm.Cond.code (⟨zs5, "<init>", "()V"⟩ : MethodName) jdk_38_method_2_code 1 none :: ws) ({ frames := 3, cells := 0, slots := 0, locals := 36 } : Room)) (fun a U => a = #[(.ref a394)] ∧ Z.Warmed39 U.vm ∧ U.heap = h0 ∧ CHv Z consts_1 U.vm h0) (fun _ _ _ _ _ => True) (fun _ U o U' => ∃ v L, o = .returned v ∧ Q10 Z a394 p402 w24 h0 n0 v U'.heap L ∧ CHr Z consts_1 U.vm U.heap U'.vm U'.heap ∧ ReturnedEndW U o U' L ({ frames := 3, cells := 0, slots := 0, locals := 36 } : Room).cells ({ frames := 3, cells := 0, slots := 0, locals := 36 } : Room).slots) := by
  refine MetFree.of_bodySF (plainFor_of_name pn_5) hisR ?_
  intro p e s m args below meth c s₁ Bd hml0 hP hK
  obtain ⟨rfl, hZ, hh, hC⟩ := hP
  have hx := Bd.exec
  have hby := Bd.bytes
  have hml : c.maxLocals = 1 := hml0
  have hown : s.vm.findClass zs5 = some m.cls := findClass_of_methodNamed Bd.named
  have hnm := (name_of_methodNamed Bd.named Bd.method).1
  have X0 : Stand p l e ({ frames := 3, cells := 0, slots := 0, locals := 36 } : Room) (s.setVm s.vm) m #[(.ref a394)] below meth c s₁ [] 0 0 := Stand.of_body Bd
  have hS : s.Since s.vm 0 := (State.WarmedH.refl s).since 0
  obtain ⟨k0, hk0, hS⟩ : ∃ k0, k0 ≤ h0.size ∧ s.Since s.vm k0 := ⟨0, Nat.zero_le _, hS⟩
  have hZ : Z.Warmed39 (s.setVm s.vm).vm := hZ
  have hown : (s.setVm s.vm).vm.findClass zs5 = some m.cls := hown
  have C0 : CHr Z consts_1 s.vm h0 s.vm h0 := CHr.refl hC
  have hEE := own_ee hw
  have e0 : s₁.heap = h0 := by rw [← hh, Bd.state]; rfl
  have N0 := Fr.nil n0
  refine own_out ?_
  refine own_via (fun t k => castTop (ef_8 m a394) (XS.aloadN X0.here hx rfl (hb hby d7_0) rfl rfl k)) ?_
  obtain ⟨_, T426, _, X426, hQ426, Cr426, hS, hZ, hown, st426⟩ := own_ciH X0 hx hZ hS hk0 hown (wd hw 39 rfl) (wd hw 40 rfl) (wd hw 44 rfl) (wd hw 43 rfl) rfl (by decide) hEE.ew C0.1 (rm9 l Z a0 hw [] a394 p402 h0 n0 O0 pF_a394_modCount pE_a394 pG_a394 pF_a394_elementData) e0 (g := (mkF m 1 #[rv a394] [(.ref a394)])) rfl (by rw [hml]; rfl) (rest := []) (W := 0) (lenOf pd_6 rfl) rfl (by show 2 * 0 + _ ≤ _; exact Nat.le_of_eq rfl) (hb hby d7_1) (by decide) (by decide) (by decide) (by decide)
  obtain ⟨h426, e426⟩ : ∃ z, T426.heap = z := ⟨_, rfl⟩
  rw [e426] at hQ426 Cr426
  obtain ⟨rfl, Nq426, K426, ex501, fx502, fx503⟩ := hQ426
  have N426 := Fr.app N0 Nq426
  have C504 := C0.trans Cr426
  have hk505 : T426.heap.size ≤ h426.size := Nat.le_of_eq (congrArg Array.size e426)
  refine own_via (fun t k => st426 t (XS.aloadN X426.here hx rfl (hb hby d7_4) rfl rfl k)) ?_
  have O507 : Old Z n0 h426 := (O0.keep K426 (allS pG_a394 all0))
  obtain ⟨T506, X506, e506, st506⟩ := getS2 X426 hx hZ hown (host := "") (Or.inl (wd hw 54 rfl)) Via.refl e426 (S_ArrayList_DEFAULTCAPACITY_EMPTY_ELEMENTDATA.ext O507.2) (g := (mkF m 5 #[rv a394] [(.ref a394)])) rfl (hb hby d7_5)
  refine own_via (fun t k => st506 t k) ?_
  obtain ⟨T508, h508, X508, e508, W508, st508⟩ := putF X506 hx hZ hown (host := "") (Or.inl (wd hw 55 rfl)) Via.refl e506 fx503 ex501 (Or.inl (wd hw 56 rfl)) (wd hw 34 rfl) (ty := (.array (.object zs13))) (by decide) rfl rfl (g := (mkF m 8 #[rv a394] [(.ref w24), (.ref a394)])) rfl rfl (hb hby d7_8)
  refine own_via (fun t k => st508 t k) ?_
  have Fw508 : Fld Z h508 a394 zs5 "elementData" zs7 (.ref w24) := fx503.same W508
  have Sf509 : Safe Z consts_1 _ h426 a394 := (Safe.exa hZ.alike ex501 (by decide) (by decide))
  have C508 := C504.trans (CHr.wr W508 Sf509 C504.1)
  have N508 := Fr.snoc X508 N426 pG_a394
  show own_Goes p e below (T508.setTop (mkF m 11 #[rv a394] [])) _
  have K510 : T426.heap.size ≤ h508.size := (Nat.le_trans hk505 (Nat.le_of_eq W508.size.symm))
  obtain ⟨fs, hr, hrun, hended, hRW⟩ := X508.leaveW hS (by rw [e508]; first | exact K510 | exact Nat.le_refl _) (v := none) (fun _ => rfl)
  have Cz : CHr Z consts_1 s.vm s.heap T508.vm T508.heap := own_chr (C508.trans (CHv.at X508 hZ hEE.ew C508.1)) hh e508
  refine own_end (t := T508.setFrames fs) ?_ ⟨_, hrun, hended, _, _, rfl, ?_, Cz, own_rmono hRW (by decide) (by decide)⟩
  · exact X508.returnOut hx Bd.returns (hb hby d7_11) hr
  have E511 : Exa Z h508 a394 zs5 := (ex501.wr W508)
  have F512 : Fld Z h508 a394 zs6 "modCount" "I" (.int (0 : Int32)) := (fx502.other W508 (Or.inr (slot_ne (Or.inl (wd hw 53 rfl)) (Or.inl (wd hw 56 rfl)) (by decide) (t := .int) (t' := (.array (.object zs13))) (by decide) (by decide))))
  · show Q10 Z a394 p402 w24 h0 n0 _ T508.heap _
    rw [e508]
    exact ⟨rfl, N508, (((Keep.refl h0 [a394]).trans K426 (allS (Or.inl (List.mem_of_getElem? (i := 0) rfl)) all0)).wr W508 (Or.inl (List.mem_of_getElem? (i := 0) rfl))), E511, F512, Fw508⟩
theorem d10_0 : decode prog_40_method_1_code 0 = .ok (.aload_n 0, 1) := by decide +kernel
theorem d10_1 : decode prog_40_method_1_code 1 = .ok (.invokespecial 1, 3) := by decide +kernel
theorem d11_0 : decode jdk_30_method_1_code 0 = .ok (.aload_n 0, 1) := by decide +kernel
theorem d11_1 : decode jdk_30_method_1_code 1 = .ok (.invokespecial 1, 3) := by decide +kernel
theorem d11_4 : decode jdk_30_method_1_code 4 = .ok (.return_, 1) := by decide +kernel
theorem ef_9 (m : MethodId) (x0 : Addr) : entryFrame m #[(.ref x0)] 1 = mkF m 0 #[rv x0] [] := by first | (simp [entryFrame, mkF, argsToLocals, Value.category]; done) | rfl
theorem pn_6 : plainName "java/lang/Record" = true := by first | (simp [plainName, overriddenIn]; done) | decide +kernel
def Q11 (Z : State) (a573 : Addr) (h0 : Heap) (n0 : Nat) (v : Option Value) (h : Heap) (L : List Loc) : Prop := v = none ∧ Fr n0 L ∧ h = h0
set_option maxRecDepth 65536 in
set_option maxHeartbeats 40000000 in
theorem rm11 (l : Launch) (Z : State) (a0 : Array Value) (hw : ∀ d ∈ tables_1, d.before a0 Z = true) (ws : List Jvm.Cond) (a573 : Addr) (h0 : Heap) (n0 : Nat) (O0 : Old Z n0 h0) :
    MetFree l (⟨zs16, "<init>", "()V"⟩ : MethodName) (head1 (Jvm.Cond.code (⟨zs16, "<init>", "()V"⟩ : MethodName) jdk_30_method_1_code 1 none :: ws) ({ frames := 1, cells := 0, slots := 0, locals := 12 } : Room)) (fun a U => a = #[(.ref a573)] ∧ Z.Warmed39 U.vm ∧ U.heap = h0 ∧ CHv Z consts_1 U.vm h0) (fun _ _ _ _ _ => True) (fun _ U o U' => ∃ v L, o = .returned v ∧ Q11 Z a573 h0 n0 v U'.heap L ∧ CHr Z consts_1 U.vm U.heap U'.vm U'.heap ∧ ReturnedEndW U o U' L ({ frames := 1, cells := 0, slots := 0, locals := 12 } : Room).cells ({ frames := 1, cells := 0, slots := 0, locals := 12 } : Room).slots) := by
  refine MetFree.of_bodySF (plainFor_of_name pn_6) hisR ?_
  intro p e s m args below meth c s₁ Bd hml0 hP hK
  obtain ⟨rfl, hZ, hh, hC⟩ := hP
  have hx := Bd.exec
  have hby := Bd.bytes
  have hml : c.maxLocals = 1 := hml0
  have hown : s.vm.findClass zs16 = some m.cls := findClass_of_methodNamed Bd.named
  have hnm := (name_of_methodNamed Bd.named Bd.method).1
  have X0 : Stand p l e ({ frames := 1, cells := 0, slots := 0, locals := 12 } : Room) (s.setVm s.vm) m #[(.ref a573)] below meth c s₁ [] 0 0 := Stand.of_body Bd
  have hS : s.Since s.vm 0 := (State.WarmedH.refl s).since 0
  obtain ⟨k0, hk0, hS⟩ : ∃ k0, k0 ≤ h0.size ∧ s.Since s.vm k0 := ⟨0, Nat.zero_le _, hS⟩
  have hZ : Z.Warmed39 (s.setVm s.vm).vm := hZ
  have hown : (s.setVm s.vm).vm.findClass zs16 = some m.cls := hown
  have C0 : CHr Z consts_1 s.vm h0 s.vm h0 := CHr.refl hC
  have hEE := own_ee hw
  have e0 : s₁.heap = h0 := by rw [← hh, Bd.state]; rfl
  have N0 := Fr.nil n0
  refine own_out ?_
  refine own_via (fun t k => castTop (ef_9 m a573) (XS.aloadN X0.here hx rfl (hb hby d11_0) rfl rfl k)) ?_
  obtain ⟨T606, X606, e606, st606⟩ := initO X0 hx hZ hown (wd hw 68 rfl) (wd hw 12 rfl) (wd hw 13 rfl) e0 (g := (mkF m 1 #[rv a573] [(.ref a573)])) rfl (by rw [hml]; rfl) rfl (hb hby d11_1) (by decide) (W := 0) (by show 2 * 0 + _ ≤ _; exact Nat.le_of_eq rfl) (by decide)
  refine own_via (fun t k => st606 t k) ?_
  obtain ⟨fs, hr, hrun, hended, hRW⟩ := X606.leaveW hS (by rw [e606]; first | exact hk0 | exact Nat.le_refl _) (v := none) (fun _ => rfl)
  have Cz : CHr Z consts_1 s.vm s.heap T606.vm T606.heap := own_chr (C0.trans (CHv.at X606 hZ hEE.ew C0.1)) hh e606
  refine own_end (t := T606.setFrames fs) ?_ ⟨_, hrun, hended, _, _, rfl, ?_, Cz, own_rmono hRW (by decide) (by decide)⟩
  · exact X606.returnOut hx Bd.returns (hb hby d11_4) hr
  · show Q11 Z a573 h0 n0 _ T606.heap _
    rw [e606]
    exact ⟨rfl, N0, rfl⟩
theorem d10_4 : decode prog_40_method_1_code 4 = .ok (.aload_n 0, 1) := by decide +kernel
theorem d10_5 : decode prog_40_method_1_code 5 = .ok (.aload_n 1, 1) := by decide +kernel
theorem d10_6 : decode prog_40_method_1_code 6 = .ok (.putfield 7, 3) := by decide +kernel
theorem d10_9 : decode prog_40_method_1_code 9 = .ok (.aload_n 0, 1) := by decide +kernel
theorem d10_10 : decode prog_40_method_1_code 10 = .ok (.aload_n 2, 1) := by decide +kernel
theorem d10_11 : decode prog_40_method_1_code 11 = .ok (.putfield 13, 3) := by decide +kernel
theorem d10_14 : decode prog_40_method_1_code 14 = .ok (.aload_n 0, 1) := by decide +kernel
theorem d10_15 : decode prog_40_method_1_code 15 = .ok (.aload_n 3, 1) := by decide +kernel
theorem d10_16 : decode prog_40_method_1_code 16 = .ok (.putfield 16, 3) := by decide +kernel
theorem d10_19 : decode prog_40_method_1_code 19 = .ok (.return_, 1) := by decide +kernel
theorem ef_10 (m : MethodId) (x0 : Addr) (x1 : Addr) (x2 : Addr) (x3 : Addr) : entryFrame m #[(.ref x0), (.ref x1), (.ref x2), (.ref x3)] 4 = mkF m 0 #[rv x0, rv x1, rv x2, rv x3] [] := by first | (simp [entryFrame, mkF, argsToLocals, Value.category]; done) | rfl
theorem pn_7 : plainName "com/example/hearthkey/hearthkey/gateway/cli/Option" = true := by first | (simp [plainName, overriddenIn]; done) | decide +kernel
def Q12 (Z : State) (a539 : Addr) (a540 : Addr) (a541 : Addr) (a542 : Addr) (h0 : Heap) (n0 : Nat) (v : Option Value) (h : Heap) (L : List Loc) : Prop := v = none ∧ Fr n0 L ∧ Keep h0 h [a539] ∧ Exa Z h a539 zs1 ∧ Fld Z h a539 zs1 "name" zs4 (.ref a540) ∧ Fld Z h a539 zs1 "value" zs4 (.ref a541) ∧ Fld Z h a539 zs1 "about" zs10 (.ref a542)
set_option maxRecDepth 65536 in
set_option maxHeartbeats 40000000 in
theorem rm12 (l : Launch) (Z : State) (a0 : Array Value) (hw : ∀ d ∈ tables_1, d.before a0 Z = true) (ws : List Jvm.Cond) (a539 : Addr) (a540 : Addr) (a541 : Addr) (a542 : Addr) (h0 : Heap) (n0 : Nat) (O0 : Old Z n0 h0) (pF_a539_name : Fld Z h0 a539 zs1 "name" zs4 .null) (pE_a539 : Exa Z h0 a539 zs1) (pG_a539 : n0 ≤ a539) (pF_a539_value : Fld Z h0 a539 zs1 "value" zs4 .null) (pF_a539_about : Fld Z h0 a539 zs1 "about" zs10 .null) :
    MetFree l (⟨zs1, "<init>", zs8⟩ : MethodName) (head1 (Jvm.Cond.code (⟨zs1, "<init>", zs8⟩ : MethodName) prog_40_method_1_code 4 none :: ws) ({ frames := 2, cells := 0, slots := 0, locals := 24 } : Room)) (fun a U => a = #[(.ref a539), (.ref a540), (.ref a541), (.ref a542)] ∧ Z.Warmed39 U.vm ∧ U.heap = h0 ∧ CHv Z consts_1 U.vm h0) (fun _ _ _ _ _ => True) (fun _ U o U' => ∃ v L, o = .returned v ∧ Q12 Z a539 a540 a541 a542 h0 n0 v U'.heap L ∧ CHr Z consts_1 U.vm U.heap U'.vm U'.heap ∧ ReturnedEndW U o U' L ({ frames := 2, cells := 0, slots := 0, locals := 24 } : Room).cells ({ frames := 2, cells := 0, slots := 0, locals := 24 } : Room).slots) := by
  refine MetFree.of_bodySF (plainFor_of_name pn_7) hisR ?_
  intro p e s m args below meth c s₁ Bd hml0 hP hK
  obtain ⟨rfl, hZ, hh, hC⟩ := hP
  have hx := Bd.exec
  have hby := Bd.bytes
  have hml : c.maxLocals = 4 := hml0
  have hown : s.vm.findClass zs1 = some m.cls := findClass_of_methodNamed Bd.named
  have hnm := (name_of_methodNamed Bd.named Bd.method).1
  have X0 : Stand p l e ({ frames := 2, cells := 0, slots := 0, locals := 24 } : Room) (s.setVm s.vm) m #[(.ref a539), (.ref a540), (.ref a541), (.ref a542)] below meth c s₁ [] 0 0 := Stand.of_body Bd
  have hS : s.Since s.vm 0 := (State.WarmedH.refl s).since 0
  obtain ⟨k0, hk0, hS⟩ : ∃ k0, k0 ≤ h0.size ∧ s.Since s.vm k0 := ⟨0, Nat.zero_le _, hS⟩
  have hZ : Z.Warmed39 (s.setVm s.vm).vm := hZ
  have hown : (s.setVm s.vm).vm.findClass zs1 = some m.cls := hown
  have C0 : CHr Z consts_1 s.vm h0 s.vm h0 := CHr.refl hC
  have hEE := own_ee hw
  have e0 : s₁.heap = h0 := by rw [← hh, Bd.state]; rfl
  have N0 := Fr.nil n0
  refine own_out ?_
  refine own_via (fun t k => castTop (ef_10 m a539 a540 a541 a542) (XS.aloadN X0.here hx rfl (hb hby d10_0) rfl rfl k)) ?_
  obtain ⟨_, T572, _, X572, hQ572, Cr572, hS, hZ, hown, st572⟩ := own_ciH X0 hx hZ hS hk0 hown (wd hw 63 rfl) (wd hw 64 rfl) (wd hw 67 rfl) (wd hw 66 rfl) rfl (by decide) hEE.ew C0.1 (rm11 l Z a0 hw [] a539 h0 n0 O0 ) e0 (g := (mkF m 1 #[rv a539, rv a540, rv a541, rv a542] [(.ref a539)])) rfl (by rw [hml]; rfl) (rest := []) (W := 0) (lenOf pd_6 rfl) rfl (by show 2 * 0 + _ ≤ _; exact Nat.le_of_eq rfl) (hb hby d10_1) (by decide) (by decide) (by decide) (by decide)
  obtain ⟨rfl, Nq572, hh607⟩ := hQ572
  have N572 := Fr.app N0 Nq572
  rw [hh607] at Cr572
  have C608 := C0.trans Cr572
  have hk609 : T572.heap.size ≤ h0.size := Nat.le_of_eq (congrArg Array.size hh607)
  refine own_via (fun t k => st572 t (XS.aloadN X572.here hx rfl (hb hby d10_4) rfl rfl (XS.aloadN X572.here hx rfl (hb hby d10_5) rfl rfl k))) ?_
  show own_Goes p e below (T572.setTop (mkF m 6 #[rv a539, rv a540, rv a541, rv a542] [(.ref a540), (.ref a539)])) _
  obtain ⟨T610, h610, X610, e610, W610, st610⟩ := putF X572 hx hZ hown (host := "") (Or.inl (wd hw 69 rfl)) Via.refl hh607 pF_a539_name pE_a539 (Or.inr ⟨(wd hw 70 rfl), rfl, hnm⟩) (wd hw 58 rfl) (ty := (.object zs2)) (by decide) rfl rfl (g := (mkF m 6 #[rv a539, rv a540, rv a541, rv a542] [(.ref a540), (.ref a539)])) rfl rfl (hb hby d10_6)
  refine own_via (fun t k => st610 t k) ?_
  have Fw610 : Fld Z h610 a539 zs1 "name" zs4 (.ref a540) := pF_a539_name.same W610
  have Sf611 : Safe Z consts_1 _ h0 a539 := (Safe.exa hZ.alike pE_a539 (by decide) (by decide))
  have C610 := C608.trans (CHr.wr W610 Sf611 C608.1)
  have N610 := Fr.snoc X610 N572 pG_a539
  show own_Goes p e below (T610.setTop (mkF m 9 #[rv a539, rv a540, rv a541, rv a542] [])) _
  refine own_via (fun t k => XS.aloadN X610.here hx rfl (hb hby d10_9) rfl rfl (XS.aloadN X610.here hx rfl (hb hby d10_10) rfl rfl k)) ?_
  have F612 : Fld Z h610 a539 zs1 "value" zs4 .null := (pF_a539_value.other W610 (Or.inr (slot_ne (Or.inr (wd hw 72 rfl)) (Or.inr (wd hw 70 rfl)) (by decide) (t := (.object zs2)) (t' := (.object zs2)) (by decide) (by decide))))
  have E613 : Exa Z h610 a539 zs1 := (pE_a539.wr W610)
  obtain ⟨T614, h614, X614, e614, W614, st614⟩ := putF X610 hx hZ hown (host := "") (Or.inl (wd hw 71 rfl)) Via.refl e610 F612 E613 (Or.inr ⟨(wd hw 72 rfl), rfl, hnm⟩) (wd hw 58 rfl) (ty := (.object zs2)) (by decide) rfl rfl (g := (mkF m 11 #[rv a539, rv a540, rv a541, rv a542] [(.ref a541), (.ref a539)])) rfl rfl (hb hby d10_11)
  refine own_via (fun t k => st614 t k) ?_
  have Fw614 : Fld Z h614 a539 zs1 "value" zs4 (.ref a541) := F612.same W614
  have Sf615 : Safe Z consts_1 _ h610 a539 := (Safe.exa hZ.alike E613 (by decide) (by decide))
  have C614 := C610.trans (CHr.wr W614 Sf615 C610.1)
  have N614 := Fr.snoc X614 N610 pG_a539
  show own_Goes p e below (T614.setTop (mkF m 14 #[rv a539, rv a540, rv a541, rv a542] [])) _
  refine own_via (fun t k => XS.aloadN X614.here hx rfl (hb hby d10_14) rfl rfl (XS.aloadN X614.here hx rfl (hb hby d10_15) rfl rfl k)) ?_
  have F616 : Fld Z h614 a539 zs1 "about" zs10 .null := ((pF_a539_about.other W610 (Or.inr (slot_ne (Or.inr (wd hw 74 rfl)) (Or.inr (wd hw 70 rfl)) (by decide) (t := (.object zs9)) (t' := (.object zs2)) (by decide) (by decide)))).other W614 (Or.inr (slot_ne (Or.inr (wd hw 74 rfl)) (Or.inr (wd hw 72 rfl)) (by decide) (t := (.object zs9)) (t' := (.object zs2)) (by decide) (by decide))))
  have E617 : Exa Z h614 a539 zs1 := (E613.wr W614)
  obtain ⟨T618, h618, X618, e618, W618, st618⟩ := putF X614 hx hZ hown (host := "") (Or.inl (wd hw 73 rfl)) Via.refl e614 F616 E617 (Or.inr ⟨(wd hw 74 rfl), rfl, hnm⟩) (wd hw 58 rfl) (ty := (.object zs9)) (by decide) rfl rfl (g := (mkF m 16 #[rv a539, rv a540, rv a541, rv a542] [(.ref a542), (.ref a539)])) rfl rfl (hb hby d10_16)
  refine own_via (fun t k => st618 t k) ?_
  have Fw618 : Fld Z h618 a539 zs1 "about" zs10 (.ref a542) := F616.same W618
  have Sf619 : Safe Z consts_1 _ h614 a539 := (Safe.exa hZ.alike E617 (by decide) (by decide))
  have C618 := C614.trans (CHr.wr W618 Sf619 C614.1)
  have N618 := Fr.snoc X618 N614 pG_a539
  show own_Goes p e below (T618.setTop (mkF m 19 #[rv a539, rv a540, rv a541, rv a542] [])) _
  have K620 : T572.heap.size ≤ h618.size := (Nat.le_trans (Nat.le_trans (Nat.le_trans hk609 (Nat.le_of_eq W610.size.symm)) (Nat.le_of_eq W614.size.symm)) (Nat.le_of_eq W618.size.symm))
  obtain ⟨fs, hr, hrun, hended, hRW⟩ := X618.leaveW hS (by rw [e618]; first | exact K620 | exact Nat.le_refl _) (v := none) (fun _ => rfl)
  have Cz : CHr Z consts_1 s.vm s.heap T618.vm T618.heap := own_chr (C618.trans (CHv.at X618 hZ hEE.ew C618.1)) hh e618
  refine own_end (t := T618.setFrames fs) ?_ ⟨_, hrun, hended, _, _, rfl, ?_, Cz, own_rmono hRW (by decide) (by decide)⟩
  · exact X618.returnOut hx Bd.returns (hb hby d10_19) hr
  have E621 : Exa Z h618 a539 zs1 := (E617.wr W618)
  have F622 : Fld Z h618 a539 zs1 "name" zs4 (.ref a540) := ((Fw610.other W614 (Or.inr (slot_ne (Or.inr (wd hw 70 rfl)) (Or.inr (wd hw 72 rfl)) (by decide) (t := (.object zs2)) (t' := (.object zs2)) (by decide) (by decide)))).other W618 (Or.inr (slot_ne (Or.inr (wd hw 70 rfl)) (Or.inr (wd hw 74 rfl)) (by decide) (t := (.object zs2)) (t' := (.object zs9)) (by decide) (by decide))))
  have F623 : Fld Z h618 a539 zs1 "value" zs4 (.ref a541) := (Fw614.other W618 (Or.inr (slot_ne (Or.inr (wd hw 72 rfl)) (Or.inr (wd hw 74 rfl)) (by decide) (t := (.object zs2)) (t' := (.object zs9)) (by decide) (by decide))))
  · show Q12 Z a539 a540 a541 a542 h0 n0 _ T618.heap _
    rw [e618]
    exact ⟨rfl, N618, ((((Keep.refl h0 [a539]).wr W610 (Or.inl (List.mem_of_getElem? (i := 0) rfl))).wr W614 (Or.inl (List.mem_of_getElem? (i := 0) rfl))).wr W618 (Or.inl (List.mem_of_getElem? (i := 0) rfl))), E621, F622, F623, Fw618⟩
theorem pd_7 : parseMethodDescriptor "(Ljava/lang/String;Ljava/lang/String;Ljava/util/List;)V" = some ⟨[(.object "java/lang/String"), (.object "java/lang/String"), (.object "java/util/List")], none⟩ := by decide +kernel
theorem d12_0 : decode prog_40_method_4_code 0 = .ok (.aload_n 0, 1) := by decide +kernel
theorem d12_1 : decode prog_40_method_4_code 1 = .ok (.getfield 13, 3) := by decide +kernel
theorem d12_4 : decode prog_40_method_4_code 4 = .ok (.ifnonnull 7, 3) := by decide +kernel
theorem d12_11 : decode prog_40_method_4_code 11 = .ok (.iconst 0, 1) := by decide +kernel
theorem d12_12 : decode prog_40_method_4_code 12 = .ok (.ireturn, 1) := by decide +kernel
theorem ef_11 (m : MethodId) (x0 : Addr) : entryFrame m #[(.ref x0)] 1 = mkF m 0 #[rv x0] [] := by first | (simp [entryFrame, mkF, argsToLocals, Value.category]; done) | rfl
def Q13 (Z : State) (a633 : Addr) (a634 : Addr) (h0 : Heap) (n0 : Nat) (v : Option Value) (h : Heap) (L : List Loc) : Prop := v = some (.int (0 : Int32)) ∧ Fr n0 L ∧ h = h0
set_option maxRecDepth 65536 in
set_option maxHeartbeats 40000000 in
theorem rm13 (l : Launch) (Z : State) (a0 : Array Value) (hw : ∀ d ∈ tables_1, d.before a0 Z = true) (ws : List Jvm.Cond) (a633 : Addr) (a634 : Addr) (h0 : Heap) (n0 : Nat) (O0 : Old Z n0 h0) (pF_a633_value : Fld Z h0 a633 zs1 "value" zs4 (.ref a634)) :
    MetFree l (⟨zs1, "isFlag", "()Z"⟩ : MethodName) (head1 (Jvm.Cond.code (⟨zs1, "isFlag", "()Z"⟩ : MethodName) prog_40_method_4_code 1 (some .boolean) :: ws) ({ frames := 0, cells := 0, slots := 0, locals := 0 } : Room)) (fun a U => a = #[(.ref a633)] ∧ Z.Warmed39 U.vm ∧ U.heap = h0 ∧ CHv Z consts_1 U.vm h0) (fun _ _ _ _ _ => True) (fun _ U o U' => ∃ v L, o = .returned v ∧ Q13 Z a633 a634 h0 n0 v U'.heap L ∧ CHr Z consts_1 U.vm U.heap U'.vm U'.heap ∧ ReturnedEndW U o U' L ({ frames := 0, cells := 0, slots := 0, locals := 0 } : Room).cells ({ frames := 0, cells := 0, slots := 0, locals := 0 } : Room).slots) := by
  refine MetFree.of_bodySF (plainFor_of_name pn_7) hisR ?_
  intro p e s m args below meth c s₁ Bd hml0 hP hK
  obtain ⟨rfl, hZ, hh, hC⟩ := hP
  have hx := Bd.exec
  have hby := Bd.bytes
  have hml : c.maxLocals = 1 := hml0
  have hown : s.vm.findClass zs1 = some m.cls := findClass_of_methodNamed Bd.named
  have hnm := (name_of_methodNamed Bd.named Bd.method).1
  have X0 : Stand p l e ({ frames := 0, cells := 0, slots := 0, locals := 0 } : Room) (s.setVm s.vm) m #[(.ref a633)] below meth c s₁ [] 0 0 := Stand.of_body Bd
  have hS : s.Since s.vm 0 := (State.WarmedH.refl s).since 0
  obtain ⟨k0, hk0, hS⟩ : ∃ k0, k0 ≤ h0.size ∧ s.Since s.vm k0 := ⟨0, Nat.zero_le _, hS⟩
  have hZ : Z.Warmed39 (s.setVm s.vm).vm := hZ
  have hown : (s.setVm s.vm).vm.findClass zs1 = some m.cls := hown
  have C0 : CHr Z consts_1 s.vm h0 s.vm h0 := CHr.refl hC
  have hEE := own_ee hw
  have e0 : s₁.heap = h0 := by rw [← hh, Bd.state]; rfl
  have N0 := Fr.nil n0
  refine own_out ?_
  refine own_via (fun t k => castTop (ef_11 m a633) (XS.aloadN X0.here hx rfl (hb hby d12_0) rfl rfl k)) ?_
  obtain ⟨T666, X666, e666, st666⟩ := getF X0 hx hZ hown (host := "") (Or.inl (wd hw 71 rfl)) Via.refl e0 pF_a633_value (g := (mkF m 1 #[rv a633] [(.ref a633)])) rfl rfl (hb hby d12_1)
  refine own_via (fun t k => st666 t (XS.ifnonnullYes X666.here hx rfl (pc0 := 4) (pc' := 11) rfl (hb hby d12_4) rfl (by decide) (by decide) (XS.iconst X666.here hx rfl (hb hby d12_11) k))) ?_
  show own_Goes p e below (T666.setTop (mkF m 12 #[rv a633] [(.int (0 : Int32))])) _
  obtain ⟨fs, hr, hrun, hended, hRW⟩ := X666.leaveW hS (by rw [e666]; first | exact hk0 | exact Nat.le_refl _) (v := some (.int (0 : Int32))) (fun h => by rw [Bd.returns] at h; cases h)
  have Cz : CHr Z consts_1 s.vm s.heap T666.vm T666.heap := own_chr (C0.trans (CHv.at X666 hZ hEE.ew C0.1)) hh e666
  refine own_end (t := T666.setFrames fs) ?_ ⟨_, hrun, hended, _, _, rfl, ?_, Cz, own_rmono hRW (by decide) (by decide)⟩
  · exact retN X666 hx (t := .boolean) Bd.returns (by simp) (hb hby d12_12) hr
  · show Q13 Z a633 a634 h0 n0 _ T666.heap _
    rw [e666]
    exact ⟨rfl, N0, rfl⟩
theorem pd_8 : parseMethodDescriptor "()Z" = some ⟨[], some .boolean⟩ := by decide +kernel
theorem d13_0 : decode jdk_42_method_139_code 0 = .ok (.getstatic 38, 3) := by decide +kernel
theorem d13_3 : decode jdk_42_method_139_code 3 = .ok (.ifCond .eq 23, 3) := by decide +kernel
theorem d13_6 : decode jdk_42_method_139_code 6 = .ok (.iload_n 0, 1) := by decide +kernel
theorem d13_7 : decode jdk_42_method_139_code 7 = .ok (.invokestatic 1015, 3) := by decide +kernel
theorem d14_0 : decode jdk_43_method_3_code 0 = .ok (.iload_n 0, 1) := by decide +kernel
theorem d14_1 : decode jdk_43_method_3_code 1 = .ok (.sipush 255, 3) := by decide +kernel
theorem d14_4 : decode jdk_43_method_3_code 4 = .ok (.if_icmp .gt 7, 3) := by decide +kernel
theorem d14_7 : decode jdk_43_method_3_code 7 = .ok (.iconst 1, 1) := by decide +kernel
theorem d14_8 : decode jdk_43_method_3_code 8 = .ok (.goto 4, 3) := by decide +kernel
theorem d14_12 : decode jdk_43_method_3_code 12 = .ok (.ireturn, 1) := by decide +kernel
theorem ef_12 (m : MethodId) (x0 : Int32) : entryFrame m #[(.int x0)] 1 = mkF m 0 #[iv x0] [] := by first | (simp [entryFrame, mkF, argsToLocals, Value.category]; done) | rfl
theorem pn_8 : plainName "java/lang/StringLatin1" = true := by first | (simp [plainName, overriddenIn]; done) | decide +kernel
def Q14 (Z : State) (p695 : Int32) (h0 : Heap) (n0 : Nat) (v : Option Value) (h : Heap) (L : List Loc) : Prop := v = some (.int (1 : Int32)) ∧ Fr n0 L ∧ h = h0
set_option maxRecDepth 65536 in
set_option maxHeartbeats 40000000 in
theorem rm14 (l : Launch) (Z : State) (a0 : Array Value) (hw : ∀ d ∈ tables_1, d.before a0 Z = true) (ws : List Jvm.Cond) (p695 : Int32) (h0 : Heap) (n0 : Nat) (O0 : Old Z n0 h0) (pC706 : ¬ ((255 : Int32) < p695)) :
    MetFree l (⟨zs11, "canEncode", "(C)Z"⟩ : MethodName) (head1 (Jvm.Cond.code (⟨zs11, "canEncode", "(C)Z"⟩ : MethodName) jdk_43_method_3_code 1 (some .boolean) :: ws) ({ frames := 0, cells := 0, slots := 0, locals := 0 } : Room)) (fun a U => a = #[(.int p695)] ∧ Z.Warmed39 U.vm ∧ U.heap = h0 ∧ CHv Z consts_1 U.vm h0) (fun _ _ _ _ _ => True) (fun _ U o U' => ∃ v L, o = .returned v ∧ Q14 Z p695 h0 n0 v U'.heap L ∧ CHr Z consts_1 U.vm U.heap U'.vm U'.heap ∧ ReturnedEndW U o U' L ({ frames := 0, cells := 0, slots := 0, locals := 0 } : Room).cells ({ frames := 0, cells := 0, slots := 0, locals := 0 } : Room).slots) := by
  refine MetFree.of_bodySF (plainFor_of_name pn_8) hisR ?_
  intro p e s m args below meth c s₁ Bd hml0 hP hK
  obtain ⟨rfl, hZ, hh, hC⟩ := hP
  have hx := Bd.exec
  have hby := Bd.bytes
  have hml : c.maxLocals = 1 := hml0
  have hown : s.vm.findClass zs11 = some m.cls := findClass_of_methodNamed Bd.named
  have hnm := (name_of_methodNamed Bd.named Bd.method).1
  have X0 : Stand p l e ({ frames := 0, cells := 0, slots := 0, locals := 0 } : Room) (s.setVm s.vm) m #[(.int p695)] below meth c s₁ [] 0 0 := Stand.of_body Bd
  have hS : s.Since s.vm 0 := (State.WarmedH.refl s).since 0
  obtain ⟨k0, hk0, hS⟩ : ∃ k0, k0 ≤ h0.size ∧ s.Since s.vm k0 := ⟨0, Nat.zero_le _, hS⟩
  have hZ : Z.Warmed39 (s.setVm s.vm).vm := hZ
  have hown : (s.setVm s.vm).vm.findClass zs11 = some m.cls := hown
  have C0 : CHr Z consts_1 s.vm h0 s.vm h0 := CHr.refl hC
  have hEE := own_ee hw
  have e0 : s₁.heap = h0 := by rw [← hh, Bd.state]; rfl
  have N0 := Fr.nil n0
  refine own_out ?_
  refine own_via (fun t k => castTop (ef_12 m p695) (XS.iloadN X0.here hx rfl (hb hby d14_0) rfl (XS.sipush X0.here hx rfl (hb hby d14_1) (XS.icmpNo X0.here hx rfl (hb hby d14_4) rfl (flt pC706).2.2.1 (XS.iconst X0.here hx rfl (hb hby d14_7) (XS.goto X0.here hx rfl (pc0 := 8) (pc' := 12) rfl (hb hby d14_8) (by decide) (by decide) k)))))) ?_
  show own_Goes p e below (s₁.setTop (mkF m 12 #[iv p695] [(.int (1 : Int32))])) _
  obtain ⟨fs, hr, hrun, hended, hRW⟩ := X0.leaveW hS (by rw [e0]; first | exact hk0 | exact Nat.le_refl _) (v := some (.int (1 : Int32))) (fun h => by rw [Bd.returns] at h; cases h)
  have Cz : CHr Z consts_1 s.vm s.heap s₁.vm s₁.heap := own_chr (C0.trans (CHv.at X0 hZ hEE.ew C0.1)) hh e0
  refine own_end (t := s₁.setFrames fs) ?_ ⟨_, hrun, hended, _, _, rfl, ?_, Cz, own_rmono hRW (by decide) (by decide)⟩
  · exact retN X0 hx (t := .boolean) Bd.returns (by simp) (hb hby d14_12) hr
  · show Q14 Z p695 h0 n0 _ s₁.heap _
    rw [e0]
    exact ⟨rfl, N0, rfl⟩
theorem pd_9 : parseMethodDescriptor "(C)Z" = some ⟨[.char], some .boolean⟩ := by decide +kernel
theorem d13_10 : decode jdk_42_method_139_code 10 = .ok (.ifCond .eq 16, 3) := by decide +kernel
theorem d13_13 : decode jdk_42_method_139_code 13 = .ok (.new 10, 3) := by decide +kernel
theorem d13_16 : decode jdk_42_method_139_code 16 = .ok (.dup, 1) := by decide +kernel
theorem d13_17 : decode jdk_42_method_139_code 17 = .ok (.iload_n 0, 1) := by decide +kernel
theorem d13_18 : decode jdk_42_method_139_code 18 = .ok (.invokestatic 1018, 3) := by decide +kernel
theorem d15_0 : decode jdk_43_method_46_code 0 = .ok (.iconst 1, 1) := by decide +kernel
theorem d15_1 : decode jdk_43_method_46_code 1 = .ok (.newarray .byte, 2) := by decide +kernel
theorem d15_3 : decode jdk_43_method_46_code 3 = .ok (.dup, 1) := by decide +kernel
theorem d15_4 : decode jdk_43_method_46_code 4 = .ok (.iconst 0, 1) := by decide +kernel
theorem d15_5 : decode jdk_43_method_46_code 5 = .ok (.iload_n 0, 1) := by decide +kernel
theorem d15_6 : decode jdk_43_method_46_code 6 = .ok (.i2b, 1) := by decide +kernel
theorem d15_7 : decode jdk_43_method_46_code 7 = .ok (.bastore, 1) := by decide +kernel
theorem d15_8 : decode jdk_43_method_46_code 8 = .ok (.areturn, 1) := by decide +kernel
theorem ef_13 (m : MethodId) (x0 : Int32) : entryFrame m #[(.int x0)] 1 = mkF m 0 #[iv x0] [] := by first | (simp [entryFrame, mkF, argsToLocals, Value.category]; done) | rfl
def Q15 (Z : State) (p725 : Int32) (h0 : Heap) (n0 : Nat) (v : Option Value) (h : Heap) (L : List Loc) : Prop := (∃ (b748 : Addr) (k747 : ClassId), v = some (.ref b748) ∧ Fr n0 L ∧ Keep h0 h [] ∧ h0.size ≤ b748 ∧ Arv Z h b748 k747 .byte (1 : Int32) [(.int (p725.toInt8.toInt32))] (.int (0 : Int32)))
set_option maxRecDepth 65536 in
set_option maxHeartbeats 40000000 in
theorem rm15 (l : Launch) (Z : State) (a0 : Array Value) (hw : ∀ d ∈ tables_1, d.before a0 Z = true) (ws : List Jvm.Cond) (p725 : Int32) (h0 : Heap) (n0 : Nat) (O0 : Old Z n0 h0) :
    MetFree l (⟨zs11, "toBytes", "(C)[B"⟩ : MethodName) (head1 (Jvm.Cond.code (⟨zs11, "toBytes", "(C)[B"⟩ : MethodName) jdk_43_method_46_code 1 (some (.array .byte)) :: ws) ({ frames := 0, cells := 1, slots := 1, locals := 0 } : Room)) (fun a U => a = #[(.int p725)] ∧ Z.Warmed39 U.vm ∧ U.heap = h0 ∧ CHv Z consts_1 U.vm h0) (fun _ _ _ _ _ => True) (fun _ U o U' => ∃ v L, o = .returned v ∧ Q15 Z p725 h0 n0 v U'.heap L ∧ CHr Z consts_1 U.vm U.heap U'.vm U'.heap ∧ ReturnedEndW U o U' L ({ frames := 0, cells := 1, slots := 1, locals := 0 } : Room).cells ({ frames := 0, cells := 1, slots := 1, locals := 0 } : Room).slots) := by
  refine MetFree.of_bodySF (plainFor_of_name pn_8) hisR ?_
  intro p e s m args below meth c s₁ Bd hml0 hP hK
  obtain ⟨rfl, hZ, hh, hC⟩ := hP
  have hx := Bd.exec
  have hby := Bd.bytes
  have hml : c.maxLocals = 1 := hml0
  have hown : s.vm.findClass zs11 = some m.cls := findClass_of_methodNamed Bd.named
  have hnm := (name_of_methodNamed Bd.named Bd.method).1
  have X0 : Stand p l e ({ frames := 0, cells := 1, slots := 1, locals := 0 } : Room) (s.setVm s.vm) m #[(.int p725)] below meth c s₁ [] 0 0 := Stand.of_body Bd
  have hS : s.Since s.vm 0 := (State.WarmedH.refl s).since 0
  obtain ⟨k0, hk0, hS⟩ : ∃ k0, k0 ≤ h0.size ∧ s.Since s.vm k0 := ⟨0, Nat.zero_le _, hS⟩
  have hZ : Z.Warmed39 (s.setVm s.vm).vm := hZ
  have hown : (s.setVm s.vm).vm.findClass zs11 = some m.cls := hown
  have C0 : CHr Z consts_1 s.vm h0 s.vm h0 := CHr.refl hC
  have hEE := own_ee hw
  have e0 : s₁.heap = h0 := by rw [← hh, Bd.state]; rfl
  have N0 := Fr.nil n0
  refine own_out ?_
  refine own_via (fun t k => castTop (ef_13 m p725) (XS.iconst X0.here hx rfl (hb hby d15_0) k)) ?_
  obtain ⟨T747, h747, k747, X747, e747, E747, A747, st747⟩ := newP X0 hx hZ (wd hw 15 rfl) e0 (g := (mkF m 1 #[iv p725] [(.int (1 : Int32))])) rfl (hb hby d15_1) rfl (by decide) (cap := 1) (by decide) (by decide) (by decide) (by decide)
  obtain ⟨b748, q747⟩ : ∃ z, z = h0.size := ⟨_, rfl⟩
  rw [← q747] at A747 st747
  refine own_via (fun t k => st747 t k) ?_
  have C747 := C0.trans (CHr.ext E747 C0.1)
  have g749 : n0 ≤ b748 := Nat.le_trans (own_old O0) (Nat.le_of_eq q747.symm)
  have B750 : h0.size ≤ b748 := Nat.le_trans (Nat.le_refl _) (Nat.le_of_eq q747.symm)
  have V751 : Arv Z h747 b748 k747 .byte (1 : Int32) [] (.int (0 : Int32)) := Arv.new A747 (by decide)
  show own_Goes p e below (T747.setTop (mkF m 3 #[iv p725] [(.ref b748)])) _
  refine own_via (fun t k => XS.dup X747.here hx rfl (hb hby d15_3) rfl rfl (XS.iconst X747.here hx rfl (hb hby d15_4) (XS.iloadN X747.here hx rfl (hb hby d15_5) rfl (XS.i2b X747.here hx rfl (hb hby d15_6) rfl k)))) ?_
  show own_Goes p e below (T747.setTop (mkF m 7 #[iv p725] [(.int (p725.toInt8.toInt32)), (.int (0 : Int32)), (.ref b748), (.ref b748)])) _
  have V752 : Arv Z h747 b748 k747 .byte (1 : Int32) [(.int (0 : Int32))] (.int (0 : Int32)) := V751.pad (pad_rep [] (.int (0 : Int32)) 1)
  obtain ⟨cl753, Ar753, qq753, S753, M753, H753, G753⟩ := id (V752)
  have hin753 : ¬ ((0 : Int32) < 0 ∨ cl753.slots.size ≤ ((0 : Int32)).toNatClampNeg) := inb_of S753 ⟨by decide, by decide⟩
  obtain ⟨T753, h753, X753, e753, W753, st753⟩ := stB X747 hx hZ e747 Ar753 (j := (0 : Int32)) hin753 (g := (mkF m 7 #[iv p725] [(.int (p725.toInt8.toInt32)), (.int (0 : Int32)), (.ref b748), (.ref b748)])) rfl rfl (hb hby d15_7)
  refine own_via (fun t k => st753 t k) ?_
  have V754 : Arv Z h753 b748 k747 .byte (1 : Int32) [(.int (p725.toInt8.toInt32))] (.int (0 : Int32)) := by
    have qv := Arv.set Ar753 qq753 S753 M753 H753 G753 (fits_nar_byte _) W753 0 rfl (Nat.le_of_ble_eq_true rfl)
    first | rw [show nar .byte (p725.toInt8.toInt32) = (p725.toInt8.toInt32) from own_b2 _] at qv | rw [own_b2] at qv
    exact qv
  have Sf755 : Safe Z consts_1 _ h747 b748 := (own_safeB hZ hEE V751 (by decide))
  have C753 := C747.trans (CHr.wr W753 Sf755 C747.1)
  have N753 := Fr.snoc X753 N0 g749
  show own_Goes p e below (T753.setTop (mkF m 8 #[iv p725] [(.ref b748)])) _
  have K756 : k0 ≤ h753.size := (Nat.le_trans (Nat.le_trans hk0 E747.1) (Nat.le_of_eq W753.size.symm))
  obtain ⟨fs, hr, hrun, hended, hRW⟩ := X753.leaveW hS (by rw [e753]; first | exact K756 | exact Nat.le_refl _) (v := some (.ref b748)) (fun h => by rw [Bd.returns] at h; cases h)
  have Cz : CHr Z consts_1 s.vm s.heap T753.vm T753.heap := own_chr (C753.trans (CHv.at X753 hZ hEE.ew C753.1)) hh e753
  refine own_end (t := T753.setFrames fs) ?_ ⟨_, hrun, hended, _, _, rfl, ?_, Cz, own_rmono hRW (by decide) (by decide)⟩
  · jvm_step X753.here [X753.here.top, hx, (hb hby d15_8), X753.method', Bd.returns, Value.isRef, FieldType.isReference]
    first | (intro acts; rw [hr _ acts rfl rfl rfl]) | rw [hr _ _ rfl rfl rfl]
    exact Steps.refl _
  · show Q15 Z p725 h0 n0 _ T753.heap _
    rw [e753]
    exact ⟨b748, k747, rfl, N753, (((Keep.refl h0 []).ext E747).wr W753 (Or.inr B750)), B750, V754⟩
theorem pd_10 : parseMethodDescriptor "(C)[B" = some ⟨[.char], some (.array .byte)⟩ := by decide +kernel
theorem d13_21 : decode jdk_42_method_139_code 21 = .ok (.iconst 0, 1) := by decide +kernel
theorem d13_22 : decode jdk_42_method_139_code 22 = .ok (.invokespecial 209, 3) := by decide +kernel
theorem d16_0 : decode jdk_42_method_151_code 0 = .ok (.aload_n 0, 1) := by decide +kernel
theorem d16_1 : decode jdk_42_method_151_code 1 = .ok (.invokespecial 1, 3) := by decide +kernel
theorem d16_4 : decode jdk_42_method_151_code 4 = .ok (.aload_n 0, 1) := by decide +kernel
theorem d16_5 : decode jdk_42_method_151_code 5 = .ok (.aload_n 1, 1) := by decide +kernel
theorem d16_6 : decode jdk_42_method_151_code 6 = .ok (.putfield 9, 3) := by decide +kernel
theorem d16_9 : decode jdk_42_method_151_code 9 = .ok (.aload_n 0, 1) := by decide +kernel
theorem d16_10 : decode jdk_42_method_151_code 10 = .ok (.iload_n 2, 1) := by decide +kernel
theorem d16_11 : decode jdk_42_method_151_code 11 = .ok (.putfield 15, 3) := by decide +kernel
theorem d16_14 : decode jdk_42_method_151_code 14 = .ok (.return_, 1) := by decide +kernel
theorem ef_14 (m : MethodId) (x0 : Addr) (x1 : Addr) (x2 : Int32) : entryFrame m #[(.ref x0), (.ref x1), (.int x2)] 3 = mkF m 0 #[rv x0, rv x1, iv x2] [] := by first | (simp [entryFrame, mkF, argsToLocals, Value.category]; done) | rfl
def Q16 (Z : State) (a770 : Addr) (a771 : Addr) (p772 : Int32) (h0 : Heap) (n0 : Nat) (v : Option Value) (h : Heap) (L : List Loc) : Prop := v = none ∧ Fr n0 L ∧ Keep h0 h [a770] ∧ Exa Z h a770 zs2
set_option maxRecDepth 65536 in
set_option maxHeartbeats 40000000 in
theorem rm16 (l : Launch) (Z : State) (a0 : Array Value) (hw : ∀ d ∈ tables_1, d.before a0 Z = true) (ws : List Jvm.Cond) (a770 : Addr) (a771 : Addr) (p772 : Int32) (h0 : Heap) (n0 : Nat) (O0 : Old Z n0 h0) (pF_a770_value : Fld Z h0 a770 zs2 "value" "[B" .null) (pE_a770 : Exa Z h0 a770 zs2) (pG_a770 : n0 ≤ a770) (pF_a770_coder : Fld Z h0 a770 zs2 "coder" "B" (.int p772)) :
    MetFree l (⟨zs2, "<init>", "([BB)V"⟩ : MethodName) (head1 (Jvm.Cond.code (⟨zs2, "<init>", "([BB)V"⟩ : MethodName) jdk_42_method_151_code 3 none :: ws) ({ frames := 1, cells := 0, slots := 0, locals := 12 } : Room)) (fun a U => a = #[(.ref a770), (.ref a771), (.int (0 : Int32))] ∧ Z.Warmed39 U.vm ∧ U.heap = h0 ∧ CHv Z consts_1 U.vm h0) (fun _ _ _ _ _ => True) (fun _ U o U' => ∃ v L, o = .returned v ∧ Q16 Z a770 a771 p772 h0 n0 v U'.heap L ∧ CHr Z consts_1 U.vm U.heap U'.vm U'.heap ∧ ReturnedEndW U o U' L ({ frames := 1, cells := 0, slots := 0, locals := 12 } : Room).cells ({ frames := 1, cells := 0, slots := 0, locals := 12 } : Room).slots) := by
  refine MetFree.of_bodySF (plainFor_of_name pn_1) hisR ?_
  intro p e s m args below meth c s₁ Bd hml0 hP hK
  obtain ⟨rfl, hZ, hh, hC⟩ := hP
  have hx := Bd.exec
  have hby := Bd.bytes
  have hml : c.maxLocals = 3 := hml0
  have hown : s.vm.findClass zs2 = some m.cls := findClass_of_methodNamed Bd.named
  have hnm := (name_of_methodNamed Bd.named Bd.method).1
  have X0 : Stand p l e ({ frames := 1, cells := 0, slots := 0, locals := 12 } : Room) (s.setVm s.vm) m #[(.ref a770), (.ref a771), (.int (0 : Int32))] below meth c s₁ [] 0 0 := Stand.of_body Bd
  have hS : s.Since s.vm 0 := (State.WarmedH.refl s).since 0
  obtain ⟨k0, hk0, hS⟩ : ∃ k0, k0 ≤ h0.size ∧ s.Since s.vm k0 := ⟨0, Nat.zero_le _, hS⟩
  have hZ : Z.Warmed39 (s.setVm s.vm).vm := hZ
  have hown : (s.setVm s.vm).vm.findClass zs2 = some m.cls := hown
  have C0 : CHr Z consts_1 s.vm h0 s.vm h0 := CHr.refl hC
  have hEE := own_ee hw
  have e0 : s₁.heap = h0 := by rw [← hh, Bd.state]; rfl
  have N0 := Fr.nil n0
  refine own_out ?_
  refine own_via (fun t k => castTop (ef_14 m a770 a771 (0 : Int32)) (XS.aloadN X0.here hx rfl (hb hby d16_0) rfl rfl k)) ?_
  obtain ⟨T795, X795, e795, st795⟩ := initO X0 hx hZ hown (wd hw 11 rfl) (wd hw 12 rfl) (wd hw 13 rfl) e0 (g := (mkF m 1 #[rv a770, rv a771, iv (0 : Int32)] [(.ref a770)])) rfl (by rw [hml]; rfl) rfl (hb hby d16_1) (by decide) (W := 0) (by show 2 * 0 + _ ≤ _; exact Nat.le_of_eq rfl) (by decide)
  refine own_via (fun t k => st795 t (XS.aloadN X795.here hx rfl (hb hby d16_4) rfl rfl (XS.aloadN X795.here hx rfl (hb hby d16_5) rfl rfl k))) ?_
  show own_Goes p e below (T795.setTop (mkF m 6 #[rv a770, rv a771, iv (0 : Int32)] [(.ref a771), (.ref a770)])) _
  obtain ⟨T796, h796, X796, e796, W796, st796⟩ := putF X795 hx hZ hown (host := "") (Or.inl (wd hw 20 rfl)) Via.refl e795 pF_a770_value pE_a770 (Or.inr ⟨(wd hw 16 rfl), rfl, hnm⟩) (wd hw 1 rfl) (ty := (.array .byte)) (by decide) rfl rfl (g := (mkF m 6 #[rv a770, rv a771, iv (0 : Int32)] [(.ref a771), (.ref a770)])) rfl rfl (hb hby d16_6)
  refine own_via (fun t k => st796 t k) ?_
  have Fw796 : Fld Z h796 a770 zs2 "value" "[B" (.ref a771) := pF_a770_value.same W796
  have Sf797 : Safe Z consts_1 _ h0 a770 := (own_safeS hZ.alike pE_a770 pF_a770_value)
  have C796 := C0.trans (CHr.wr W796 Sf797 C0.1)
  have Sa798 := Safe.wr W796 Sf797 C0.1 Sf797
  have N796 := Fr.snoc X796 N0 pG_a770
  show own_Goes p e below (T796.setTop (mkF m 9 #[rv a770, rv a771, iv (0 : Int32)] [])) _
  refine own_via (fun t k => XS.aloadN X796.here hx rfl (hb hby d16_9) rfl rfl (XS.iloadN X796.here hx rfl (hb hby d16_10) rfl k)) ?_
  have F799 : Fld Z h796 a770 zs2 "coder" "B" (.int p772) := (pF_a770_coder.other W796 (Or.inr (slot_ne (Or.inr (wd hw 17 rfl)) (Or.inr (wd hw 16 rfl)) (by decide) (t := .byte) (t' := (.array .byte)) (by decide) (by decide))))
  have E800 : Exa Z h796 a770 zs2 := (pE_a770.wr W796)
  obtain ⟨T801, h801, X801, e801, W801, st801⟩ := putFN X796 hx hZ hown (wd hw 21 rfl) Via.refl e796 F799 E800 (Or.inr ⟨(wd hw 17 rfl), rfl, hnm⟩) (wd hw 1 rfl) (ty := .byte) (v' := (.int (0 : Int32))) (by decide) rfl (by decide) (g := (mkF m 11 #[rv a770, rv a771, iv (0 : Int32)] [(.int (0 : Int32)), (.ref a770)])) rfl rfl (hb hby d16_11)
  refine own_via (fun t k => st801 t k) ?_
  have Fw801 : Fld Z h801 a770 zs2 "coder" "B" (.int (0 : Int32)) := F799.same W801
  have Sf802 : Safe Z consts_1 _ h796 a770 := Sa798
  have C801 := C796.trans (CHr.wr W801 Sf802 C796.1)
  have Sa803 := Safe.wr W801 Sf802 C796.1 Sa798
  have N801 := Fr.snoc X801 N796 pG_a770
  show own_Goes p e below (T801.setTop (mkF m 14 #[rv a770, rv a771, iv (0 : Int32)] [])) _
  have K804 : k0 ≤ h801.size := (Nat.le_trans (Nat.le_trans hk0 (Nat.le_of_eq W796.size.symm)) (Nat.le_of_eq W801.size.symm))
  obtain ⟨fs, hr, hrun, hended, hRW⟩ := X801.leaveW hS (by rw [e801]; first | exact K804 | exact Nat.le_refl _) (v := none) (fun _ => rfl)
  have Cz : CHr Z consts_1 s.vm s.heap T801.vm T801.heap := own_chr (C801.trans (CHv.at X801 hZ hEE.ew C801.1)) hh e801
  refine own_end (t := T801.setFrames fs) ?_ ⟨_, hrun, hended, _, _, rfl, ?_, Cz, own_rmono hRW (by decide) (by decide)⟩
  · exact X801.returnOut hx Bd.returns (hb hby d16_14) hr
  have E805 : Exa Z h801 a770 zs2 := (E800.wr W801)
  · show Q16 Z a770 a771 p772 h0 n0 _ T801.heap _
    rw [e801]
    exact ⟨rfl, N801, (((Keep.refl h0 [a770]).wr W796 (Or.inl (List.mem_of_getElem? (i := 0) rfl))).wr W801 (Or.inl (List.mem_of_getElem? (i := 0) rfl))), E805⟩
theorem pd_11 : parseMethodDescriptor "([BB)V" = some ⟨[(.array .byte), .byte], none⟩ := by decide +kernel
theorem d13_25 : decode jdk_42_method_139_code 25 = .ok (.areturn, 1) := by decide +kernel
theorem ef_15 (m : MethodId) (x0 : Int32) : entryFrame m #[(.int x0)] 1 = mkF m 0 #[iv x0] [] := by first | (simp [entryFrame, mkF, argsToLocals, Value.category]; done) | rfl
def Q17 (Z : State) (p673 : Int32) (i19 : Int32) (h0 : Heap) (n0 : Nat) (v : Option Value) (h : Heap) (L : List Loc) : Prop := (∃ (b719 : Addr), v = some (.ref b719) ∧ Fr n0 L ∧ Keep h0 h [] ∧ h0.size ≤ b719 ∧ Exa Z h b719 zs2)
set_option maxRecDepth 65536 in
set_option maxHeartbeats 40000000 in
theorem rm17 (l : Launch) (Z : State) (a0 : Array Value) (hw : ∀ d ∈ tables_1, d.before a0 Z = true) (ws : List Jvm.Cond) (p673 : Int32) (i19 : Int32) (h0 : Heap) (n0 : Nat) (O0 : Old Z n0 h0) (S_String_COMPACT_STRINGS : Sta Z Z.heap zs2 zs15 "Z" (.int i19)) (pC674 : ¬ (i19 = (0 : Int32))) (pC684 : ¬ ((255 : Int32) < p673)) :
    MetFree l (⟨zs2, "valueOf", "(C)Ljava/lang/String;"⟩ : MethodName) (head1 (Jvm.Cond.code (⟨zs2, "valueOf", "(C)Ljava/lang/String;"⟩ : MethodName) jdk_42_method_139_code 1 (some (.object zs2)) :: ws) ({ frames := 2, cells := 2, slots := 5, locals := 27 } : Room)) (fun a U => a = #[(.int p673)] ∧ Z.Warmed39 U.vm ∧ U.heap = h0 ∧ CHv Z consts_1 U.vm h0) (fun _ _ _ _ _ => True) (fun _ U o U' => ∃ v L, o = .returned v ∧ Q17 Z p673 i19 h0 n0 v U'.heap L ∧ CHr Z consts_1 U.vm U.heap U'.vm U'.heap ∧ ReturnedEndW U o U' L ({ frames := 2, cells := 2, slots := 5, locals := 27 } : Room).cells ({ frames := 2, cells := 2, slots := 5, locals := 27 } : Room).slots) := by
  refine MetFree.of_bodySF (plainFor_of_name pn_1) hisR ?_
  intro p e s m args below meth c s₁ Bd hml0 hP hK
  obtain ⟨rfl, hZ, hh, hC⟩ := hP
  have hx := Bd.exec
  have hby := Bd.bytes
  have hml : c.maxLocals = 1 := hml0
  have hown : s.vm.findClass zs2 = some m.cls := findClass_of_methodNamed Bd.named
  have hnm := (name_of_methodNamed Bd.named Bd.method).1
  have X0 : Stand p l e ({ frames := 2, cells := 2, slots := 5, locals := 27 } : Room) (s.setVm s.vm) m #[(.int p673)] below meth c s₁ [] 0 0 := Stand.of_body Bd
  have hS : s.Since s.vm 0 := (State.WarmedH.refl s).since 0
  obtain ⟨k0, hk0, hS⟩ : ∃ k0, k0 ≤ h0.size ∧ s.Since s.vm k0 := ⟨0, Nat.zero_le _, hS⟩
  have hZ : Z.Warmed39 (s.setVm s.vm).vm := hZ
  have hown : (s.setVm s.vm).vm.findClass zs2 = some m.cls := hown
  have C0 : CHr Z consts_1 s.vm h0 s.vm h0 := CHr.refl hC
  have hEE := own_ee hw
  have e0 : s₁.heap = h0 := by rw [← hh, Bd.state]; rfl
  have N0 := Fr.nil n0
  refine own_out ?_
  refine own_via (fun t k => castTop (ef_15 m p673) k) ?_
  obtain ⟨T693, X693, e693, st693⟩ := getS2 X0 hx hZ hown (host := "") (Or.inl (wd hw 22 rfl)) Via.refl e0 (S_String_COMPACT_STRINGS.ext O0.2) (g := (mkF m 0 #[iv p673] [])) rfl (hb hby d13_0)
  refine own_via (fun t k => st693 t (XS.ifNo X693.here hx rfl (hb hby d13_3) rfl ((if0 _ _).trans (feq pC674).1) (XS.iloadN X693.here hx rfl (hb hby d13_6) rfl k))) ?_
  show own_Goes p e below (T693.setTop (mkF m 7 #[iv p673] [(.int p673)])) _
  obtain ⟨_, T694, _, X694, hQ694, Cr694, hS, hZ, hown, st694⟩ := own_csH X693 hx hZ hS hk0 hown (wd hw 83 rfl) (wd hw 84 rfl) (wd hw 86 rfl) (wd hw 85 rfl) (by decide) hEE.ew C0.1 (rm14 l Z a0 hw [] p673 h0 n0 O0 pC684) e693 (g := (mkF m 7 #[iv p673] [(.int p673)])) rfl (by rw [hml]; rfl) (rest := []) (W := 0) (lenOf pd_9 rfl) rfl (by show 2 * 0 + _ ≤ _; exact Nat.le_of_eq rfl) (hb hby d13_7) (by decide) (by decide) (by decide) (by decide)
  obtain ⟨rfl, Nq694, hh715⟩ := hQ694
  have N694 := Fr.app N0 Nq694
  rw [hh715] at Cr694
  have C716 := C0.trans Cr694
  have hk717 : T694.heap.size ≤ h0.size := Nat.le_of_eq (congrArg Array.size hh715)
  refine own_via (fun t k => st694 t (XS.ifNo X694.here hx rfl (hb hby d13_10) rfl ((if0 _ _).trans (feq (by decide : ¬ ((1 : Int32) = (0 : Int32)))).1) k)) ?_
  obtain ⟨T718, h718, X718, e718, E718, A718, D718, -, st718⟩ := newO X694 hx hZ hown (wd hw 87 rfl) (wd hw 1 rfl) (wd hw 2 rfl) hh715 (g := (mkF m 13 #[iv p673] [])) rfl (hb hby d13_13) (by decide) (by decide)
  obtain ⟨b719, q718⟩ : ∃ z, z = h0.size := ⟨_, rfl⟩
  rw [← q718] at A718 D718 st718
  refine own_via (fun t k => st718 t k) ?_
  have C718 := C716.trans (CHr.ext E718 C716.1)
  have g720 : n0 ≤ b719 := Nat.le_trans (own_old O0) (Nat.le_of_eq q718.symm)
  have B721 : h0.size ≤ b719 := Nat.le_trans (Nat.le_refl _) (Nat.le_of_eq q718.symm)
  have F722 : Fld Z h718 b719 zs2 "value" "[B" .null := D718 (Or.inr (wd hw 16 rfl)) (ty := (.array .byte)) (by decide)
  have F723 : Fld Z h718 b719 zs2 "coder" "B" (.int (0 : Int32)) := D718 (Or.inr (wd hw 17 rfl)) (ty := .byte) (by decide)
  show own_Goes p e below (T718.setTop (mkF m 16 #[iv p673] [(.ref b719)])) _
  refine own_via (fun t k => XS.dup X718.here hx rfl (hb hby d13_16) rfl rfl (XS.iloadN X718.here hx rfl (hb hby d13_17) rfl k)) ?_
  have O757 : Old Z n0 h718 := (O0.ext E718)
  have K758 : T694.heap.size ≤ h718.size := (Nat.le_trans hk717 E718.1)
  obtain ⟨_, T724, _, X724, hQ724, Cr724, hS, hZ, hown, st724⟩ := own_csH X718 hx hZ hS K758 hown (wd hw 88 rfl) (wd hw 89 rfl) (wd hw 90 rfl) (wd hw 85 rfl) (by decide) hEE.ew C718.1 (rm15 l Z a0 hw [] p673 h718 n0 O757 ) e718 (g := (mkF m 18 #[iv p673] [(.int p673), (.ref b719), (.ref b719)])) rfl (by rw [hml]; rfl) (rest := [(.ref b719), (.ref b719)]) (W := 2) (lenOf pd_10 rfl) rfl (by show 2 * 0 + _ ≤ _; exact Nat.le_of_eq rfl) (hb hby d13_18) (by decide) (by decide) (by decide) (by decide)
  obtain ⟨h724, e724⟩ : ∃ z, T724.heap = z := ⟨_, rfl⟩
  rw [e724] at hQ724 Cr724
  obtain ⟨b759, k760, rfl, Nq724, K724, bx761, vx762⟩ := hQ724
  have N724 := Fr.app N694 Nq724
  have C763 := C718.trans Cr724
  have N764 : b719 ≠ b759 := Nat.ne_of_lt (Nat.lt_of_lt_of_le A718.lt bx761)
  have g765 : n0 ≤ b759 := Nat.le_trans (own_old O757) bx761
  have Z767 : h0.size ≤ h718.size := (Nat.le_trans (Nat.le_refl _) E718.1)
  have B766 : h0.size ≤ b759 := Nat.le_trans Z767 bx761
  have hk768 : T724.heap.size ≤ h724.size := Nat.le_of_eq (congrArg Array.size e724)
  refine own_via (fun t k => st724 t (XS.iconst X724.here hx rfl (hb hby d13_21) k)) ?_
  have F806 : Fld Z h724 b719 zs2 "value" "[B" .null := (F722.keep K724 nin0)
  have E807 : Exa Z h724 b719 zs2 := (A718.keep K724)
  have F808 : Fld Z h724 b719 zs2 "coder" "B" (.int (0 : Int32)) := (F723.keep K724 nin0)
  have O809 : Old Z n0 h724 := (O757.keep K724 all0)
  obtain ⟨_, T769, _, X769, hQ769, Cr769, hS, hZ, hown, st769⟩ := own_ciH X724 hx hZ hS hk768 hown (wd hw 91 rfl) (wd hw 92 rfl) (wd hw 93 rfl) (wd hw 2 rfl) rfl (by decide) hEE.ew C763.1 (rm16 l Z a0 hw [] b719 b759 (0 : Int32) h724 n0 O809 F806 E807 g720 F808) e724 (g := (mkF m 22 #[iv p673] [(.int (0 : Int32)), (.ref b759), (.ref b719), (.ref b719)])) rfl (by rw [hml]; rfl) (rest := [(.ref b719)]) (W := 1) (lenOf pd_11 rfl) rfl (by show 2 * 0 + _ ≤ _; exact Nat.le_of_eq rfl) (hb hby d13_22) (by decide) (by decide) (by decide) (by decide)
  obtain ⟨h769, e769⟩ : ∃ z, T769.heap = z := ⟨_, rfl⟩
  rw [e769] at hQ769 Cr769
  obtain ⟨rfl, Nq769, K769, ex810⟩ := hQ769
  have N769 := Fr.app N724 Nq769
  have C811 := C763.trans Cr769
  have hk812 : T769.heap.size ≤ h769.size := Nat.le_of_eq (congrArg Array.size e769)
  refine own_via (fun t k => st769 t k) ?_
  obtain ⟨fs, hr, hrun, hended, hRW⟩ := X769.leaveW hS (by rw [e769]; first | exact hk812 | exact Nat.le_refl _) (v := some (.ref b719)) (fun h => by rw [Bd.returns] at h; cases h)
  have Cz : CHr Z consts_1 s.vm s.heap T769.vm T769.heap := own_chr (C811.trans (CHv.at X769 hZ hEE.ew C811.1)) hh e769
  refine own_end (t := T769.setFrames fs) ?_ ⟨_, hrun, hended, _, _, rfl, ?_, Cz, own_rmono hRW (by decide) (by decide)⟩
  · jvm_step X769.here [X769.here.top, hx, (hb hby d13_25), X769.method', Bd.returns, Value.isRef, FieldType.isReference]
    first | (intro acts; rw [hr _ acts rfl rfl rfl]) | rw [hr _ _ rfl rfl rfl]
    exact Steps.refl _
  · show Q17 Z p673 i19 h0 n0 _ T769.heap _
    rw [e769]
    exact ⟨b719, rfl, N769, ((((Keep.refl h0 []).ext E718).trans K724 all0).trans K769 (allS (Or.inr B721) all0)), B721, ex810⟩
theorem pd_12 : parseMethodDescriptor "(C)Ljava/lang/String;" = some ⟨[.char], some (.object "java/lang/String")⟩ := by decide +kernel
theorem own_neV {Z : State} {h : Heap} {a b : Addr} {k k' : ClassId} {ty ty' : FieldType} {z z' : Int32} {vs vs' : List Value} {d d' : Value} (A : Arv Z h a k ty z vs d) (B : Arv Z h b k' ty' z' vs' d') (ht : ty ≠ ty') : a ≠ b := fun e => by
  subst e
  obtain ⟨c, ⟨a1, ⟨-, kA, hkA, compA, hkindA⟩, -⟩, -⟩ := A
  obtain ⟨c', ⟨b1, ⟨-, kB, hkB, compB, hkindB⟩, -⟩, -⟩ := B
  cases a1.symm.trans b1
  cases hkA.symm.trans hkB
  have := hkindA.symm.trans hkindB
  injection this with _ e
  exact ht e
def Q18 (Z : State) (a1013 : Addr) (a1014 : Addr) (k1019 : ClassId) (p1017 : Int32) (p1018 : Int32) (k1020 : ClassId) (h0 : Heap) (n0 : Nat) (v : Option Value) (h : Heap) (L : List Loc) : Prop := v = some (.int (2 : Int32)) ∧ Fr n0 L ∧ Keep h0 h [a1014] ∧ Arv Z h a1014 k1020 .byte (2 : Int32) [(.int (p1017.toInt8.toInt32)), (.int (p1018.toInt8.toInt32))] (.int (0 : Int32))
set_option maxRecDepth 65536 in
set_option maxHeartbeats 40000000 in
theorem rm18 (l : Launch) (Z : State) (a0 : Array Value) (hw : ∀ d ∈ tables_1, d.before a0 Z = true) (ws : List Jvm.Cond) (a1013 : Addr) (a1014 : Addr) (k1019 : ClassId) (p1017 : Int32) (p1018 : Int32) (k1020 : ClassId) (h0 : Heap) (n0 : Nat) (O0 : Old Z n0 h0) (pV_a1013 : Arv Z h0 a1013 k1019 .char (2 : Int32) [(.int p1017), (.int p1018)] (.int (0 : Int32))) (pC1031 : ¬ ((255 : Int32) < p1017)) (pV_a1014 : Arv Z h0 a1014 k1020 .byte (2 : Int32) [] (.int (0 : Int32))) (pG_a1014 : n0 ≤ a1014) (pC1036 : ¬ ((255 : Int32) < p1018)) :
    MetFree l (⟨zs3, "compress", "([CI[BII)I"⟩ : MethodName) (head1 (Jvm.Cond.code (⟨zs3, "compress", "([CI[BII)I"⟩ : MethodName) jdk_52_method_21_code 7 (some .int) :: ws) ({ frames := 0, cells := 0, slots := 0, locals := 0 } : Room)) (fun a U => a = #[(.ref a1013), (.int (0 : Int32)), (.ref a1014), (.int (0 : Int32)), (.int (2 : Int32))] ∧ Z.Warmed39 U.vm ∧ U.heap = h0 ∧ CHv Z consts_1 U.vm h0) (fun _ _ _ _ _ => True) (fun _ U o U' => ∃ v L, o = .returned v ∧ Q18 Z a1013 a1014 k1019 p1017 p1018 k1020 h0 n0 v U'.heap L ∧ CHr Z consts_1 U.vm U.heap U'.vm U'.heap ∧ ReturnedEndW U o U' L ({ frames := 0, cells := 0, slots := 0, locals := 0 } : Room).cells ({ frames := 0, cells := 0, slots := 0, locals := 0 } : Room).slots) := by
  refine MetFree.of_bodySF (plainFor_of_name pn_2) hisR ?_
  intro p e s m args below meth c s₁ Bd hml0 hP hK
  obtain ⟨rfl, hZ, hh, hC⟩ := hP
  have hx := Bd.exec
  have hby := Bd.bytes
  have hml : c.maxLocals = 7 := hml0
  have hown : s.vm.findClass zs3 = some m.cls := findClass_of_methodNamed Bd.named
  have hnm := (name_of_methodNamed Bd.named Bd.method).1
  have X0 : Stand p l e ({ frames := 0, cells := 0, slots := 0, locals := 0 } : Room) (s.setVm s.vm) m #[(.ref a1013), (.int (0 : Int32)), (.ref a1014), (.int (0 : Int32)), (.int (2 : Int32))] below meth c s₁ [] 0 0 := Stand.of_body Bd
  have hS : s.Since s.vm 0 := (State.WarmedH.refl s).since 0
  obtain ⟨k0, hk0, hS⟩ : ∃ k0, k0 ≤ h0.size ∧ s.Since s.vm k0 := ⟨0, Nat.zero_le _, hS⟩
  have hZ : Z.Warmed39 (s.setVm s.vm).vm := hZ
  have hown : (s.setVm s.vm).vm.findClass zs3 = some m.cls := hown
  have C0 : CHr Z consts_1 s.vm h0 s.vm h0 := CHr.refl hC
  have hEE := own_ee hw
  have e0 : s₁.heap = h0 := by rw [← hh, Bd.state]; rfl
  have N0 := Fr.nil n0
  refine own_out ?_
  refine own_via (fun t k => castTop (ef_3 m a1013 (0 : Int32) a1014 (0 : Int32) (2 : Int32)) (XS.iconst X0.here hx rfl (hb hby d5_0) (XS.istore X0.here hx rfl (hb hby d5_1) rfl (l' := #[rv a1013, iv (0 : Int32), rv a1014, iv (0 : Int32), iv (2 : Int32), iv (0 : Int32), .unset]) rfl (XS.iload X0.here hx rfl (hb hby d5_3) rfl (XS.iload X0.here hx rfl (hb hby d5_5) rfl (XS.icmpNo X0.here hx rfl (hb hby d5_7) rfl (tlt (by decide : (0 : Int32) < (2 : Int32))).2.1 (XS.aloadN X0.here hx rfl (hb hby d5_10) rfl rfl (XS.iloadN X0.here hx rfl (hb hby d5_11) rfl k)))))))) ?_
  show own_Goes p e below (s₁.setTop (mkF m 12 #[rv a1013, iv (0 : Int32), rv a1014, iv (0 : Int32), iv (2 : Int32), iv (0 : Int32), .unset] [(.int (0 : Int32)), (.ref a1013)])) _
  obtain ⟨cl1040, Ar1040, qq1040, S1040, M1040, H1040, G1040⟩ := id (pV_a1013)
  have hin1040 : ¬ ((0 : Int32) < 0 ∨ cl1040.slots.size ≤ ((0 : Int32)).toNatClampNeg) := inb_of S1040 ⟨by decide, by decide⟩
  refine own_via (fun t k => X0.caload hx (j := (0 : Int32)) (v := (.int p1017)) (by rw [e0]; exact Ar1040.1) (State.isArrayOf_alike hZ.alike Ar1040.2.1) Ar1040.2.2 hin1040 (Has.at H1040 hin1040 rfl) (g := (mkF m 12 #[rv a1013, iv (0 : Int32), rv a1014, iv (0 : Int32), iv (2 : Int32), iv (0 : Int32), .unset] [(.int (0 : Int32)), (.ref a1013)])) rfl rfl (hb hby d5_12) t (XS.istore X0.here hx rfl (hb hby d5_13) rfl (l' := #[rv a1013, iv (0 : Int32), rv a1014, iv (0 : Int32), iv (2 : Int32), iv (0 : Int32), iv p1017]) rfl (XS.iload X0.here hx rfl (hb hby d5_15) rfl (XS.sipush X0.here hx rfl (hb hby d5_17) (XS.icmpYes X0.here hx rfl (pc0 := 20) (pc' := 26) rfl (hb hby d5_20) rfl (flt pC1031).2.2.2 (by decide) (by decide) (XS.aloadN X0.here hx rfl (hb hby d5_26) rfl rfl (XS.iloadN X0.here hx rfl (hb hby d5_27) rfl (XS.iload X0.here hx rfl (hb hby d5_28) rfl (XS.i2b X0.here hx rfl (hb hby d5_30) rfl k))))))))) ?_
  show own_Goes p e below (s₁.setTop (mkF m 31 #[rv a1013, iv (0 : Int32), rv a1014, iv (0 : Int32), iv (2 : Int32), iv (0 : Int32), iv p1017] [(.int (p1017.toInt8.toInt32)), (.int (0 : Int32)), (.ref a1014)])) _
  have V1041 : Arv Z h0 a1014 k1020 .byte (2 : Int32) [(.int (0 : Int32))] (.int (0 : Int32)) := pV_a1014.pad (pad_rep [] (.int (0 : Int32)) 1)
  obtain ⟨cl1042, Ar1042, qq1042, S1042, M1042, H1042, G1042⟩ := id (V1041)
  have hin1042 : ¬ ((0 : Int32) < 0 ∨ cl1042.slots.size ≤ ((0 : Int32)).toNatClampNeg) := inb_of S1042 ⟨by decide, by decide⟩
  obtain ⟨T1042, h1042, X1042, e1042, W1042, st1042⟩ := stB X0 hx hZ e0 Ar1042 (j := (0 : Int32)) hin1042 (g := (mkF m 31 #[rv a1013, iv (0 : Int32), rv a1014, iv (0 : Int32), iv (2 : Int32), iv (0 : Int32), iv p1017] [(.int (p1017.toInt8.toInt32)), (.int (0 : Int32)), (.ref a1014)])) rfl rfl (hb hby d5_31)
  refine own_via (fun t k => st1042 t k) ?_
  have V1043 : Arv Z h1042 a1014 k1020 .byte (2 : Int32) [(.int (p1017.toInt8.toInt32))] (.int (0 : Int32)) := by
    have qv := Arv.set Ar1042 qq1042 S1042 M1042 H1042 G1042 (fits_nar_byte _) W1042 0 rfl (Nat.le_of_ble_eq_true rfl)
    first | rw [show nar .byte (p1017.toInt8.toInt32) = (p1017.toInt8.toInt32) from own_b2 _] at qv | rw [own_b2] at qv
    exact qv
  have Sf1044 : Safe Z consts_1 _ h0 a1014 := (own_safeB hZ hEE pV_a1014 (by decide))
  have C1042 := C0.trans (CHr.wr W1042 Sf1044 C0.1)
  have N1042 := Fr.snoc X1042 N0 pG_a1014
  show own_Goes p e below (T1042.setTop (mkF m 32 #[rv a1013, iv (0 : Int32), rv a1014, iv (0 : Int32), iv (2 : Int32), iv (0 : Int32), iv p1017] [])) _
  refine own_via (fun t k => XS.iinc X1042.here hx rfl (hb hby d5_32) rfl (l' := #[rv a1013, iv (1 : Int32), rv a1014, iv (0 : Int32), iv (2 : Int32), iv (0 : Int32), iv p1017]) rfl (XS.iinc X1042.here hx rfl (hb hby d5_35) rfl (l' := #[rv a1013, iv (1 : Int32), rv a1014, iv (1 : Int32), iv (2 : Int32), iv (0 : Int32), iv p1017]) rfl (XS.iinc X1042.here hx rfl (hb hby d5_38) rfl (l' := #[rv a1013, iv (1 : Int32), rv a1014, iv (1 : Int32), iv (2 : Int32), iv (1 : Int32), iv p1017]) rfl (XS.goto X1042.here hx rfl (pc0 := 41) (pc' := 3) rfl (hb hby d5_41) (by decide) (by decide) (XS.iload X1042.here hx rfl (hb hby d5_3) rfl (XS.iload X1042.here hx rfl (hb hby d5_5) rfl (XS.icmpNo X1042.here hx rfl (hb hby d5_7) rfl (tlt (by decide : (1 : Int32) < (2 : Int32))).2.1 (XS.aloadN X1042.here hx rfl (hb hby d5_10) rfl rfl (XS.iloadN X1042.here hx rfl (hb hby d5_11) rfl k))))))))) ?_
  show own_Goes p e below (T1042.setTop (mkF m 12 #[rv a1013, iv (1 : Int32), rv a1014, iv (1 : Int32), iv (2 : Int32), iv (1 : Int32), iv p1017] [(.int (1 : Int32)), (.ref a1013)])) _
  have V1045 : Arv Z h1042 a1013 k1019 .char (2 : Int32) [(.int p1017), (.int p1018)] (.int (0 : Int32)) := (pV_a1013.other W1042 (own_neV pV_a1013 pV_a1014 (by simp)))
  obtain ⟨cl1046, Ar1046, qq1046, S1046, M1046, H1046, G1046⟩ := id (V1045)
  have hin1046 : ¬ ((1 : Int32) < 0 ∨ cl1046.slots.size ≤ ((1 : Int32)).toNatClampNeg) := inb_of S1046 ⟨by decide, by decide⟩
  refine own_via (fun t k => X1042.caload hx (j := (1 : Int32)) (v := (.int p1018)) (by rw [e1042]; exact Ar1046.1) (State.isArrayOf_alike hZ.alike Ar1046.2.1) Ar1046.2.2 hin1046 (Has.at H1046 hin1046 rfl) (g := (mkF m 12 #[rv a1013, iv (1 : Int32), rv a1014, iv (1 : Int32), iv (2 : Int32), iv (1 : Int32), iv p1017] [(.int (1 : Int32)), (.ref a1013)])) rfl rfl (hb hby d5_12) t (XS.istore X1042.here hx rfl (hb hby d5_13) rfl (l' := #[rv a1013, iv (1 : Int32), rv a1014, iv (1 : Int32), iv (2 : Int32), iv (1 : Int32), iv p1018]) rfl (XS.iload X1042.here hx rfl (hb hby d5_15) rfl (XS.sipush X1042.here hx rfl (hb hby d5_17) (XS.icmpYes X1042.here hx rfl (pc0 := 20) (pc' := 26) rfl (hb hby d5_20) rfl (flt pC1036).2.2.2 (by decide) (by decide) (XS.aloadN X1042.here hx rfl (hb hby d5_26) rfl rfl (XS.iloadN X1042.here hx rfl (hb hby d5_27) rfl (XS.iload X1042.here hx rfl (hb hby d5_28) rfl (XS.i2b X1042.here hx rfl (hb hby d5_30) rfl k))))))))) ?_
  show own_Goes p e below (T1042.setTop (mkF m 31 #[rv a1013, iv (1 : Int32), rv a1014, iv (1 : Int32), iv (2 : Int32), iv (1 : Int32), iv p1018] [(.int (p1018.toInt8.toInt32)), (.int (1 : Int32)), (.ref a1014)])) _
  have V1047 : Arv Z h1042 a1014 k1020 .byte (2 : Int32) [(.int (p1017.toInt8.toInt32)), (.int (0 : Int32))] (.int (0 : Int32)) := V1043.pad (pad_rep [(.int (p1017.toInt8.toInt32))] (.int (0 : Int32)) 1)
  obtain ⟨cl1048, Ar1048, qq1048, S1048, M1048, H1048, G1048⟩ := id (V1047)
  have hin1048 : ¬ ((1 : Int32) < 0 ∨ cl1048.slots.size ≤ ((1 : Int32)).toNatClampNeg) := inb_of S1048 ⟨by decide, by decide⟩
  obtain ⟨T1048, h1048, X1048, e1048, W1048, st1048⟩ := stB X1042 hx hZ e1042 Ar1048 (j := (1 : Int32)) hin1048 (g := (mkF m 31 #[rv a1013, iv (1 : Int32), rv a1014, iv (1 : Int32), iv (2 : Int32), iv (1 : Int32), iv p1018] [(.int (p1018.toInt8.toInt32)), (.int (1 : Int32)), (.ref a1014)])) rfl rfl (hb hby d5_31)
  refine own_via (fun t k => st1048 t k) ?_
  have V1049 : Arv Z h1048 a1014 k1020 .byte (2 : Int32) [(.int (p1017.toInt8.toInt32)), (.int (p1018.toInt8.toInt32))] (.int (0 : Int32)) := by
    have qv := Arv.set Ar1048 qq1048 S1048 M1048 H1048 G1048 (fits_nar_byte _) W1048 1 rfl (Nat.le_of_ble_eq_true rfl)
    first | rw [show nar .byte (p1018.toInt8.toInt32) = (p1018.toInt8.toInt32) from own_b2 _] at qv | rw [own_b2] at qv
    exact qv
  have Sf1050 : Safe Z consts_1 _ h1042 a1014 := (own_safeB hZ hEE V1043 (by decide))
  have C1048 := C1042.trans (CHr.wr W1048 Sf1050 C1042.1)
  have N1048 := Fr.snoc X1048 N1042 pG_a1014
  show own_Goes p e below (T1048.setTop (mkF m 32 #[rv a1013, iv (1 : Int32), rv a1014, iv (1 : Int32), iv (2 : Int32), iv (1 : Int32), iv p1018] [])) _
  refine own_via (fun t k => XS.iinc X1048.here hx rfl (hb hby d5_32) rfl (l' := #[rv a1013, iv (2 : Int32), rv a1014, iv (1 : Int32), iv (2 : Int32), iv (1 : Int32), iv p1018]) rfl (XS.iinc X1048.here hx rfl (hb hby d5_35) rfl (l' := #[rv a1013, iv (2 : Int32), rv a1014, iv (2 : Int32), iv (2 : Int32), iv (1 : Int32), iv p1018]) rfl (XS.iinc X1048.here hx rfl (hb hby d5_38) rfl (l' := #[rv a1013, iv (2 : Int32), rv a1014, iv (2 : Int32), iv (2 : Int32), iv (2 : Int32), iv p1018]) rfl (XS.goto X1048.here hx rfl (pc0 := 41) (pc' := 3) rfl (hb hby d5_41) (by decide) (by decide) (XS.iload X1048.here hx rfl (hb hby d5_3) rfl (XS.iload X1048.here hx rfl (hb hby d5_5) rfl (XS.icmpYes X1048.here hx rfl (pc0 := 7) (pc' := 44) rfl (hb hby d5_7) rfl (flt (by decide : ¬ ((2 : Int32) < (2 : Int32)))).2.1 (by decide) (by decide) (XS.iload X1048.here hx rfl (hb hby d5_44) rfl k)))))))) ?_
  show own_Goes p e below (T1048.setTop (mkF m 46 #[rv a1013, iv (2 : Int32), rv a1014, iv (2 : Int32), iv (2 : Int32), iv (2 : Int32), iv p1018] [(.int (2 : Int32))])) _
  have K1051 : k0 ≤ h1048.size := (Nat.le_trans (Nat.le_trans hk0 (Nat.le_of_eq W1042.size.symm)) (Nat.le_of_eq W1048.size.symm))
  obtain ⟨fs, hr, hrun, hended, hRW⟩ := X1048.leaveW hS (by rw [e1048]; first | exact K1051 | exact Nat.le_refl _) (v := some (.int (2 : Int32))) (fun h => by rw [Bd.returns] at h; cases h)
  have Cz : CHr Z consts_1 s.vm s.heap T1048.vm T1048.heap := own_chr (C1048.trans (CHv.at X1048 hZ hEE.ew C1048.1)) hh e1048
  refine own_end (t := T1048.setFrames fs) ?_ ⟨_, hrun, hended, _, _, rfl, ?_, Cz, own_rmono hRW (by decide) (by decide)⟩
  · exact retI X1048 hx Bd.returns (hb hby d5_46) hr
  · show Q18 Z a1013 a1014 k1019 p1017 p1018 k1020 h0 n0 _ T1048.heap _
    rw [e1048]
    exact ⟨rfl, N1048, (((Keep.refl h0 [a1014]).wr W1042 (Or.inl (List.mem_of_getElem? (i := 0) rfl))).wr W1048 (Or.inl (List.mem_of_getElem? (i := 0) rfl))), V1049⟩
def Q19 (Z : State) (a982 : Addr) (k987 : ClassId) (p985 : Int32) (p986 : Int32) (h0 : Heap) (n0 : Nat) (v : Option Value) (h : Heap) (L : List Loc) : Prop := (∃ (b1008 : Addr) (k1007 : ClassId), v = some (.ref b1008) ∧ Fr n0 L ∧ Keep h0 h [] ∧ h0.size ≤ b1008 ∧ Arv Z h b1008 k1007 .byte (2 : Int32) [(.int (p985.toInt8.toInt32)), (.int (p986.toInt8.toInt32))] (.int (0 : Int32)))
set_option maxRecDepth 65536 in
set_option maxHeartbeats 40000000 in
theorem rm19 (l : Launch) (Z : State) (a0 : Array Value) (hw : ∀ d ∈ tables_1, d.before a0 Z = true) (ws : List Jvm.Cond) (a982 : Addr) (k987 : ClassId) (p985 : Int32) (p986 : Int32) (h0 : Heap) (n0 : Nat) (O0 : Old Z n0 h0) (pV_a982 : Arv Z h0 a982 k987 .char (2 : Int32) [(.int p985), (.int p986)] (.int (0 : Int32))) (pC998 : ¬ ((255 : Int32) < p985)) (pC1003 : ¬ ((255 : Int32) < p986)) :
    MetFree l (⟨zs3, "compress", "([CII)[B"⟩ : MethodName) (head1 (Jvm.Cond.code (⟨zs3, "compress", "([CII)[B"⟩ : MethodName) jdk_52_method_16_code 6 (some (.array .byte)) :: ws) ({ frames := 1, cells := 1, slots := 2, locals := 18 } : Room)) (fun a U => a = #[(.ref a982), (.int (0 : Int32)), (.int (2 : Int32))] ∧ Z.Warmed39 U.vm ∧ U.heap = h0 ∧ CHv Z consts_1 U.vm h0) (fun _ _ _ _ _ => True) (fun _ U o U' => ∃ v L, o = .returned v ∧ Q19 Z a982 k987 p985 p986 h0 n0 v U'.heap L ∧ CHr Z consts_1 U.vm U.heap U'.vm U'.heap ∧ ReturnedEndW U o U' L ({ frames := 1, cells := 1, slots := 2, locals := 18 } : Room).cells ({ frames := 1, cells := 1, slots := 2, locals := 18 } : Room).slots) := by
  refine MetFree.of_bodySF (plainFor_of_name pn_2) hisR ?_
  intro p e s m args below meth c s₁ Bd hml0 hP hK
  obtain ⟨rfl, hZ, hh, hC⟩ := hP
  have hx := Bd.exec
  have hby := Bd.bytes
  have hml : c.maxLocals = 6 := hml0
  have hown : s.vm.findClass zs3 = some m.cls := findClass_of_methodNamed Bd.named
  have hnm := (name_of_methodNamed Bd.named Bd.method).1
  have X0 : Stand p l e ({ frames := 1, cells := 1, slots := 2, locals := 18 } : Room) (s.setVm s.vm) m #[(.ref a982), (.int (0 : Int32)), (.int (2 : Int32))] below meth c s₁ [] 0 0 := Stand.of_body Bd
  have hS : s.Since s.vm 0 := (State.WarmedH.refl s).since 0
  obtain ⟨k0, hk0, hS⟩ : ∃ k0, k0 ≤ h0.size ∧ s.Since s.vm k0 := ⟨0, Nat.zero_le _, hS⟩
  have hZ : Z.Warmed39 (s.setVm s.vm).vm := hZ
  have hown : (s.setVm s.vm).vm.findClass zs3 = some m.cls := hown
  have C0 : CHr Z consts_1 s.vm h0 s.vm h0 := CHr.refl hC
  have hEE := own_ee hw
  have e0 : s₁.heap = h0 := by rw [← hh, Bd.state]; rfl
  have N0 := Fr.nil n0
  refine own_out ?_
  refine own_via (fun t k => castTop (ef_4 m a982 (0 : Int32) (2 : Int32)) (XS.iloadN X0.here hx rfl (hb hby d4_0) rfl k)) ?_
  obtain ⟨T1007, h1007, k1007, X1007, e1007, E1007, A1007, st1007⟩ := newP X0 hx hZ (wd hw 15 rfl) e0 (g := (mkF m 1 #[rv a982, iv (0 : Int32), iv (2 : Int32), .unset, .unset, .unset] [(.int (2 : Int32))])) rfl (hb hby d4_1) rfl (by decide) (cap := 2) (by decide) (by decide) (by decide) (by decide)
  obtain ⟨b1008, q1007⟩ : ∃ z, z = h0.size := ⟨_, rfl⟩
  rw [← q1007] at A1007 st1007
  refine own_via (fun t k => st1007 t k) ?_
  have C1007 := C0.trans (CHr.ext E1007 C0.1)
  have g1009 : n0 ≤ b1008 := Nat.le_trans (own_old O0) (Nat.le_of_eq q1007.symm)
  have B1010 : h0.size ≤ b1008 := Nat.le_trans (Nat.le_refl _) (Nat.le_of_eq q1007.symm)
  have V1011 : Arv Z h1007 b1008 k1007 .byte (2 : Int32) [] (.int (0 : Int32)) := Arv.new A1007 (by decide)
  show own_Goes p e below (T1007.setTop (mkF m 3 #[rv a982, iv (0 : Int32), iv (2 : Int32), .unset, .unset, .unset] [(.ref b1008)])) _
  refine own_via (fun t k => XS.astoreN X1007.here hx rfl (hb hby d4_3) rfl rfl (l' := #[rv a982, iv (0 : Int32), iv (2 : Int32), rv b1008, .unset, .unset]) rfl (XS.aloadN X1007.here hx rfl (hb hby d4_4) rfl rfl (XS.iloadN X1007.here hx rfl (hb hby d4_5) rfl (XS.aloadN X1007.here hx rfl (hb hby d4_6) rfl rfl (XS.iconst X1007.here hx rfl (hb hby d4_7) (XS.iloadN X1007.here hx rfl (hb hby d4_8) rfl k)))))) ?_
  show own_Goes p e below (T1007.setTop (mkF m 9 #[rv a982, iv (0 : Int32), iv (2 : Int32), rv b1008, .unset, .unset] [(.int (2 : Int32)), (.int (0 : Int32)), (.ref b1008), (.int (0 : Int32)), (.ref a982)])) _
  have V1052 : Arv Z h1007 a982 k987 .char (2 : Int32) [(.int p985), (.int p986)] (.int (0 : Int32)) := (pV_a982.ext E1007)
  have O1053 : Old Z n0 h1007 := (O0.ext E1007)
  have K1054 : k0 ≤ h1007.size := (Nat.le_trans hk0 E1007.1)
  obtain ⟨_, T1012, _, X1012, hQ1012, Cr1012, hS, hZ, hown, st1012⟩ := own_csH X1007 hx hZ hS K1054 hown (wd hw 27 rfl) (wd hw 28 rfl) (wd hw 29 rfl) (wd hw 25 rfl) (by decide) hEE.ew C1007.1 (rm18 l Z a0 hw [] a982 b1008 k987 p985 p986 k1007 h1007 n0 O1053 V1052 pC998 V1011 g1009 pC1003) e1007 (g := (mkF m 9 #[rv a982, iv (0 : Int32), iv (2 : Int32), rv b1008, .unset, .unset] [(.int (2 : Int32)), (.int (0 : Int32)), (.ref b1008), (.int (0 : Int32)), (.ref a982)])) rfl (by rw [hml]; rfl) (rest := []) (W := 0) (lenOf pd_3 rfl) rfl (by show 2 * 0 + _ ≤ _; exact Nat.le_of_eq rfl) (hb hby d4_9) (by decide) (by decide) (by decide) (by decide)
  obtain ⟨h1012, e1012⟩ : ∃ z, T1012.heap = z := ⟨_, rfl⟩
  rw [e1012] at hQ1012 Cr1012
  obtain ⟨rfl, Nq1012, K1012, vx1055⟩ := hQ1012
  have N1012 := Fr.app N0 Nq1012
  have C1056 := C1007.trans Cr1012
  have hk1057 : T1012.heap.size ≤ h1012.size := Nat.le_of_eq (congrArg Array.size e1012)
  refine own_via (fun t k => st1012 t (XS.istore X1012.here hx rfl (hb hby d4_12) rfl (l' := #[rv a982, iv (0 : Int32), iv (2 : Int32), rv b1008, iv (2 : Int32), .unset]) rfl (XS.iload X1012.here hx rfl (hb hby d4_14) rfl (XS.iloadN X1012.here hx rfl (hb hby d4_16) rfl (XS.icmpYes X1012.here hx rfl (pc0 := 17) (pc' := 57) rfl (hb hby d4_17) rfl (teq (by decide : (2 : Int32) = (2 : Int32))).1 (by decide) (by decide) (XS.aloadN X1012.here hx rfl (hb hby d4_57) rfl rfl k)))))) ?_
  show own_Goes p e below (T1012.setTop (mkF m 58 #[rv a982, iv (0 : Int32), iv (2 : Int32), rv b1008, iv (2 : Int32), .unset] [(.ref b1008)])) _
  obtain ⟨fs, hr, hrun, hended, hRW⟩ := X1012.leaveW hS (by rw [e1012]; first | exact hk1057 | exact Nat.le_refl _) (v := some (.ref b1008)) (fun h => by rw [Bd.returns] at h; cases h)
  have Cz : CHr Z consts_1 s.vm s.heap T1012.vm T1012.heap := own_chr (C1056.trans (CHv.at X1012 hZ hEE.ew C1056.1)) hh e1012
  refine own_end (t := T1012.setFrames fs) ?_ ⟨_, hrun, hended, _, _, rfl, ?_, Cz, own_rmono hRW (by decide) (by decide)⟩
  · jvm_step X1012.here [X1012.here.top, hx, (hb hby d4_58), X1012.method', Bd.returns, Value.isRef, FieldType.isReference]
    first | (intro acts; rw [hr _ acts rfl rfl rfl]) | rw [hr _ _ rfl rfl rfl]
    exact Steps.refl _
  · show Q19 Z a982 k987 p985 p986 h0 n0 _ T1012.heap _
    rw [e1012]
    exact ⟨b1008, k1007, rfl, N1012, (((Keep.refl h0 []).ext E1007).trans K1012 (allS (Or.inr B1010) all0)), B1010, vx1055⟩
def Q20 (Z : State) (a1067 : Addr) (h0 : Heap) (n0 : Nat) (v : Option Value) (h : Heap) (L : List Loc) : Prop := v = some (.int (0 : Int32)) ∧ Fr n0 L ∧ h = h0
set_option maxRecDepth 65536 in
set_option maxHeartbeats 40000000 in
theorem rm20 (l : Launch) (Z : State) (a0 : Array Value) (hw : ∀ d ∈ tables_1, d.before a0 Z = true) (ws : List Jvm.Cond) (a1067 : Addr) (h0 : Heap) (n0 : Nat) (O0 : Old Z n0 h0) (pL_a1067 : own_Len Z h0 a1067 .byte (2 : Int32)) :
    MetFree l (⟨zs3, zs17, "([BI)B"⟩ : MethodName) (head1 (Jvm.Cond.code (⟨zs3, zs17, "([BI)B"⟩ : MethodName) jdk_52_method_15_code 2 (some .byte) :: ws) ({ frames := 0, cells := 0, slots := 0, locals := 0 } : Room)) (fun a U => a = #[(.ref a1067), (.int (2 : Int32))] ∧ Z.Warmed39 U.vm ∧ U.heap = h0 ∧ CHv Z consts_1 U.vm h0) (fun _ _ _ _ _ => True) (fun _ U o U' => ∃ v L, o = .returned v ∧ Q20 Z a1067 h0 n0 v U'.heap L ∧ CHr Z consts_1 U.vm U.heap U'.vm U'.heap ∧ ReturnedEndW U o U' L ({ frames := 0, cells := 0, slots := 0, locals := 0 } : Room).cells ({ frames := 0, cells := 0, slots := 0, locals := 0 } : Room).slots) := by
  refine MetFree.of_bodySF (plainFor_of_name pn_2) hisR ?_
  intro p e s m args below meth c s₁ Bd hml0 hP hK
  obtain ⟨rfl, hZ, hh, hC⟩ := hP
  have hx := Bd.exec
  have hby := Bd.bytes
  have hml : c.maxLocals = 2 := hml0
  have hown : s.vm.findClass zs3 = some m.cls := findClass_of_methodNamed Bd.named
  have hnm := (name_of_methodNamed Bd.named Bd.method).1
  have X0 : Stand p l e ({ frames := 0, cells := 0, slots := 0, locals := 0 } : Room) (s.setVm s.vm) m #[(.ref a1067), (.int (2 : Int32))] below meth c s₁ [] 0 0 := Stand.of_body Bd
  have hS : s.Since s.vm 0 := (State.WarmedH.refl s).since 0
  obtain ⟨k0, hk0, hS⟩ : ∃ k0, k0 ≤ h0.size ∧ s.Since s.vm k0 := ⟨0, Nat.zero_le _, hS⟩
  have hZ : Z.Warmed39 (s.setVm s.vm).vm := hZ
  have hown : (s.setVm s.vm).vm.findClass zs3 = some m.cls := hown
  have C0 : CHr Z consts_1 s.vm h0 s.vm h0 := CHr.refl hC
  have hEE := own_ee hw
  have e0 : s₁.heap = h0 := by rw [← hh, Bd.state]; rfl
  have N0 := Fr.nil n0
  refine own_out ?_
  refine own_via (fun t k => castTop (ef_5 m a1067 (2 : Int32)) (XS.iloadN X0.here hx rfl (hb hby d6_0) rfl (XS.aloadN X0.here hx rfl (hb hby d6_1) rfl rfl k))) ?_
  show own_Goes p e below (s₁.setTop (mkF m 2 #[rv a1067, iv (2 : Int32)] [(.ref a1067), (.int (2 : Int32))])) _
  obtain ⟨_, _, _, V1094⟩ := id (pL_a1067)
  obtain ⟨cl1094, Ar1094, -, S1094, M1094, -, -⟩ := id (V1094)
  refine own_via (fun t k => X0.arraylength hx (by rw [e0]; exact Ar1094.1) (State.isArrayOf_alike hZ.alike Ar1094.2.1) (g := (mkF m 2 #[rv a1067, iv (2 : Int32)] [(.ref a1067), (.int (2 : Int32))])) rfl rfl (hb hby d6_2) t k) ?_
  rw [len_of S1094 M1094]
  show own_Goes p e below (s₁.setTop (mkF m 3 #[rv a1067, iv (2 : Int32)] [(.int (2 : Int32)), (.int (2 : Int32))])) _
  refine own_via (fun t k => XS.isub X0.here hx rfl (hb hby d6_3) rfl (XS.bipush X0.here hx rfl (hb hby d6_4) (XS.iushr X0.here hx rfl (hb hby d6_6) rfl (XS.i2b X0.here hx rfl (hb hby d6_7) rfl k)))) ?_
  show own_Goes p e below (s₁.setTop (mkF m 8 #[rv a1067, iv (2 : Int32)] [(.int (0 : Int32))])) _
  obtain ⟨fs, hr, hrun, hended, hRW⟩ := X0.leaveW hS (by rw [e0]; first | exact hk0 | exact Nat.le_refl _) (v := some (.int (0 : Int32))) (fun h => by rw [Bd.returns] at h; cases h)
  have Cz : CHr Z consts_1 s.vm s.heap s₁.vm s₁.heap := own_chr (C0.trans (CHv.at X0 hZ hEE.ew C0.1)) hh e0
  refine own_end (t := s₁.setFrames fs) ?_ ⟨_, hrun, hended, _, _, rfl, ?_, Cz, own_rmono hRW (by decide) (by decide)⟩
  · exact retN X0 hx (t := .byte) Bd.returns (by simp) (hb hby d6_8) hr
  · show Q20 Z a1067 h0 n0 _ s₁.heap _
    rw [e0]
    exact ⟨rfl, N0, rfl⟩
def Q21 (Z : State) (a954 : Addr) (a955 : Addr) (i19 : Int32) (k959 : ClassId) (p957 : Int32) (p958 : Int32) (p956 : Int32) (h0 : Heap) (n0 : Nat) (v : Option Value) (h : Heap) (L : List Loc) : Prop := v = none ∧ Fr n0 L ∧ Keep h0 h [a954] ∧ Exa Z h a954 zs2
set_option maxRecDepth 65536 in
set_option maxHeartbeats 40000000 in
theorem rm21 (l : Launch) (Z : State) (a0 : Array Value) (hw : ∀ d ∈ tables_1, d.before a0 Z = true) (ws : List Jvm.Cond) (a954 : Addr) (a955 : Addr) (i19 : Int32) (k959 : ClassId) (p957 : Int32) (p958 : Int32) (p956 : Int32) (h0 : Heap) (n0 : Nat) (O0 : Old Z n0 h0) (S_String_COMPACT_STRINGS : Sta Z Z.heap zs2 zs15 "Z" (.int i19)) (pC960 : ¬ (i19 = (0 : Int32))) (pV_a955 : Arv Z h0 a955 k959 .char (2 : Int32) [(.int p957), (.int p958)] (.int (0 : Int32))) (pC970 : ¬ ((255 : Int32) < p957)) (pC975 : ¬ ((255 : Int32) < p958)) (pF_a954_coder : Fld Z h0 a954 zs2 "coder" "B" (.int p956)) (pE_a954 : Exa Z h0 a954 zs2) (pG_a954 : n0 ≤ a954) (pF_a954_value : Fld Z h0 a954 zs2 "value" "[B" .null) :
    MetFree l (⟨zs2, "<init>", zs12⟩ : MethodName) (head1 (Jvm.Cond.code (⟨zs2, "<init>", zs12⟩ : MethodName) jdk_42_method_149_code 6 none :: ws) ({ frames := 2, cells := 1, slots := 2, locals := 35 } : Room)) (fun a U => a = #[(.ref a954), (.ref a955), (.int (0 : Int32)), (.int (2 : Int32)), .null] ∧ Z.Warmed39 U.vm ∧ U.heap = h0 ∧ CHv Z consts_1 U.vm h0) (fun _ _ _ _ _ => True) (fun _ U o U' => ∃ v L, o = .returned v ∧ Q21 Z a954 a955 i19 k959 p957 p958 p956 h0 n0 v U'.heap L ∧ CHr Z consts_1 U.vm U.heap U'.vm U'.heap ∧ ReturnedEndW U o U' L ({ frames := 2, cells := 1, slots := 2, locals := 35 } : Room).cells ({ frames := 2, cells := 1, slots := 2, locals := 35 } : Room).slots) := by
  refine MetFree.of_bodySF (plainFor_of_name pn_1) hisR ?_
  intro p e s m args below meth c s₁ Bd hml0 hP hK
  obtain ⟨rfl, hZ, hh, hC⟩ := hP
  have hx := Bd.exec
  have hby := Bd.bytes
  have hml : c.maxLocals = 6 := hml0
  have hown : s.vm.findClass zs2 = some m.cls := findClass_of_methodNamed Bd.named
  have hnm := (name_of_methodNamed Bd.named Bd.method).1
  have X0 : Stand p l e ({ frames := 2, cells := 1, slots := 2, locals := 35 } : Room) (s.setVm s.vm) m #[(.ref a954), (.ref a955), (.int (0 : Int32)), (.int (2 : Int32)), .null] below meth c s₁ [] 0 0 := Stand.of_body Bd
  have hS : s.Since s.vm 0 := (State.WarmedH.refl s).since 0
  obtain ⟨k0, hk0, hS⟩ : ∃ k0, k0 ≤ h0.size ∧ s.Since s.vm k0 := ⟨0, Nat.zero_le _, hS⟩
  have hZ : Z.Warmed39 (s.setVm s.vm).vm := hZ
  have hown : (s.setVm s.vm).vm.findClass zs2 = some m.cls := hown
  have C0 : CHr Z consts_1 s.vm h0 s.vm h0 := CHr.refl hC
  have hEE := own_ee hw
  have e0 : s₁.heap = h0 := by rw [← hh, Bd.state]; rfl
  have N0 := Fr.nil n0
  refine own_out ?_
  refine own_via (fun t k => castTop (ef_1 m a954 a955 (0 : Int32) (2 : Int32)) (XS.aloadN X0.here hx rfl (hb hby d2_0) rfl rfl k)) ?_
  obtain ⟨T979, X979, e979, st979⟩ := initO X0 hx hZ hown (wd hw 11 rfl) (wd hw 12 rfl) (wd hw 13 rfl) e0 (g := (mkF m 1 #[rv a954, rv a955, iv (0 : Int32), iv (2 : Int32), .val .null, .unset] [(.ref a954)])) rfl (by rw [hml]; rfl) rfl (hb hby d2_1) (by decide) (W := 0) (by show 2 * 0 + _ ≤ _; exact Nat.le_of_eq rfl) (by decide)
  refine own_via (fun t k => st979 t (XS.iloadN X979.here hx rfl (hb hby d2_4) rfl (XS.ifYes X979.here hx rfl (pc0 := 5) (pc' := 27) rfl (hb hby d2_5) rfl ((if0 _ _).trans (feq (by decide : ¬ ((2 : Int32) = (0 : Int32)))).2) (by decide) (by decide) k))) ?_
  show own_Goes p e below (T979.setTop (mkF m 27 #[rv a954, rv a955, iv (0 : Int32), iv (2 : Int32), .val .null, .unset] [])) _
  obtain ⟨T980, X980, e980, st980⟩ := getS2 X979 hx hZ hown (host := "") (Or.inl (wd hw 22 rfl)) Via.refl e979 (S_String_COMPACT_STRINGS.ext O0.2) (g := (mkF m 27 #[rv a954, rv a955, iv (0 : Int32), iv (2 : Int32), .val .null, .unset] [])) rfl (hb hby d2_27)
  refine own_via (fun t k => st980 t (XS.ifNo X980.here hx rfl (hb hby d2_30) rfl ((if0 _ _).trans (feq pC960).1) (XS.aloadN X980.here hx rfl (hb hby d2_33) rfl rfl (XS.iloadN X980.here hx rfl (hb hby d2_34) rfl (XS.iloadN X980.here hx rfl (hb hby d2_35) rfl k))))) ?_
  show own_Goes p e below (T980.setTop (mkF m 36 #[rv a954, rv a955, iv (0 : Int32), iv (2 : Int32), .val .null, .unset] [(.int (2 : Int32)), (.int (0 : Int32)), (.ref a955)])) _
  obtain ⟨_, T981, _, X981, hQ981, Cr981, hS, hZ, hown, st981⟩ := own_csH X980 hx hZ hS hk0 hown (wd hw 23 rfl) (wd hw 24 rfl) (wd hw 26 rfl) (wd hw 25 rfl) (by decide) hEE.ew C0.1 (rm19 l Z a0 hw [] a955 k959 p957 p958 h0 n0 O0 pV_a955 pC970 pC975) e980 (g := (mkF m 36 #[rv a954, rv a955, iv (0 : Int32), iv (2 : Int32), .val .null, .unset] [(.int (2 : Int32)), (.int (0 : Int32)), (.ref a955)])) rfl (by rw [hml]; rfl) (rest := []) (W := 0) (lenOf pd_4 rfl) rfl (by show 2 * 0 + _ ≤ _; exact Nat.le_of_eq rfl) (hb hby d2_36) (by decide) (by decide) (by decide) (by decide)
  obtain ⟨h981, e981⟩ : ∃ z, T981.heap = z := ⟨_, rfl⟩
  rw [e981] at hQ981 Cr981
  obtain ⟨b1058, k1059, rfl, Nq981, K981, bx1060, vx1061⟩ := hQ981
  have N981 := Fr.app N0 Nq981
  have C1062 := C0.trans Cr981
  have g1063 : n0 ≤ b1058 := Nat.le_trans (own_old O0) bx1060
  have B1064 : h0.size ≤ b1058 := Nat.le_trans (Nat.le_refl _) bx1060
  have hk1065 : T981.heap.size ≤ h981.size := Nat.le_of_eq (congrArg Array.size e981)
  refine own_via (fun t k => st981 t (XS.astore X981.here hx rfl (hb hby d2_39) rfl rfl (l' := #[rv a954, rv a955, iv (0 : Int32), iv (2 : Int32), .val .null, rv b1058]) rfl (XS.aloadN X981.here hx rfl (hb hby d2_41) rfl rfl (XS.aload X981.here hx rfl (hb hby d2_42) rfl rfl (XS.iloadN X981.here hx rfl (hb hby d2_44) rfl k))))) ?_
  show own_Goes p e below (T981.setTop (mkF m 45 #[rv a954, rv a955, iv (0 : Int32), iv (2 : Int32), .val .null, rv b1058] [(.int (2 : Int32)), (.ref b1058), (.ref a954)])) _
  have l1095 : own_Len Z h981 b1058 .byte (2 : Int32) := ⟨_, _, _, vx1061⟩
  have O1096 : Old Z n0 h981 := (O0.keep K981 all0)
  obtain ⟨_, T1066, _, X1066, hQ1066, Cr1066, hS, hZ, hown, st1066⟩ := own_csH X981 hx hZ hS hk1065 hown (wd hw 30 rfl) (wd hw 31 rfl) (wd hw 32 rfl) (wd hw 25 rfl) (by decide) hEE.ew C1062.1 (rm20 l Z a0 hw [] b1058 h981 n0 O1096 l1095) e981 (g := (mkF m 45 #[rv a954, rv a955, iv (0 : Int32), iv (2 : Int32), .val .null, rv b1058] [(.int (2 : Int32)), (.ref b1058), (.ref a954)])) rfl (by rw [hml]; rfl) (rest := [(.ref a954)]) (W := 1) (lenOf pd_5 rfl) rfl (by show 2 * 0 + _ ≤ _; exact Nat.le_of_eq rfl) (hb hby d2_45) (by decide) (by decide) (by decide) (by decide)
  obtain ⟨rfl, Nq1066, hh1097⟩ := hQ1066
  have N1066 := Fr.app N981 Nq1066
  rw [hh1097] at Cr1066
  have C1098 := C1062.trans Cr1066
  have hk1099 : T1066.heap.size ≤ h981.size := Nat.le_of_eq (congrArg Array.size hh1097)
  refine own_via (fun t k => st1066 t k) ?_
  have F1100 : Fld Z h981 a954 zs2 "coder" "B" (.int p956) := (pF_a954_coder.keep K981 nin0)
  have E1101 : Exa Z h981 a954 zs2 := (pE_a954.keep K981)
  obtain ⟨T1102, h1102, X1102, e1102, W1102, st1102⟩ := putFN X1066 hx hZ hown (wd hw 21 rfl) Via.refl hh1097 F1100 E1101 (Or.inr ⟨(wd hw 17 rfl), rfl, hnm⟩) (wd hw 1 rfl) (ty := .byte) (v' := (.int (0 : Int32))) (by decide) rfl (by decide) (g := (mkF m 48 #[rv a954, rv a955, iv (0 : Int32), iv (2 : Int32), .val .null, rv b1058] [(.int (0 : Int32)), (.ref a954)])) rfl rfl (hb hby d2_48)
  refine own_via (fun t k => st1102 t k) ?_
  have Fw1102 : Fld Z h1102 a954 zs2 "coder" "B" (.int (0 : Int32)) := F1100.same W1102
  have F1103 : Fld Z h981 a954 zs2 "value" "[B" .null := (pF_a954_value.keep K981 nin0)
  have Sf1104 : Safe Z consts_1 _ h981 a954 := (own_safeS hZ.alike E1101 F1103)
  have C1102 := C1098.trans (CHr.wr W1102 Sf1104 C1098.1)
  have Sa1105 := Safe.wr W1102 Sf1104 C1098.1 Sf1104
  have N1102 := Fr.snoc X1102 N1066 pG_a954
  show own_Goes p e below (T1102.setTop (mkF m 51 #[rv a954, rv a955, iv (0 : Int32), iv (2 : Int32), .val .null, rv b1058] [])) _
  refine own_via (fun t k => XS.aloadN X1102.here hx rfl (hb hby d2_51) rfl rfl (XS.aload X1102.here hx rfl (hb hby d2_52) rfl rfl k)) ?_
  have F1106 : Fld Z h1102 a954 zs2 "value" "[B" .null := (F1103.other W1102 (Or.inr (slot_ne (Or.inr (wd hw 16 rfl)) (Or.inr (wd hw 17 rfl)) (by decide) (t := (.array .byte)) (t' := .byte) (by decide) (by decide))))
  have E1107 : Exa Z h1102 a954 zs2 := (E1101.wr W1102)
  obtain ⟨T1108, h1108, X1108, e1108, W1108, st1108⟩ := putF X1102 hx hZ hown (host := "") (Or.inl (wd hw 20 rfl)) Via.refl e1102 F1106 E1107 (Or.inr ⟨(wd hw 16 rfl), rfl, hnm⟩) (wd hw 1 rfl) (ty := (.array .byte)) (by decide) rfl rfl (g := (mkF m 54 #[rv a954, rv a955, iv (0 : Int32), iv (2 : Int32), .val .null, rv b1058] [(.ref b1058), (.ref a954)])) rfl rfl (hb hby d2_54)
  refine own_via (fun t k => st1108 t k) ?_
  have Fw1108 : Fld Z h1108 a954 zs2 "value" "[B" (.ref b1058) := F1106.same W1108
  have Sf1109 : Safe Z consts_1 _ h1102 a954 := Sa1105
  have C1108 := C1102.trans (CHr.wr W1108 Sf1109 C1102.1)
  have Sa1110 := Safe.wr W1108 Sf1109 C1102.1 Sa1105
  have N1108 := Fr.snoc X1108 N1102 pG_a954
  show own_Goes p e below (T1108.setTop (mkF m 57 #[rv a954, rv a955, iv (0 : Int32), iv (2 : Int32), .val .null, rv b1058] [])) _
  have K1111 : T1066.heap.size ≤ h1108.size := (Nat.le_trans (Nat.le_trans hk1099 (Nat.le_of_eq W1102.size.symm)) (Nat.le_of_eq W1108.size.symm))
  obtain ⟨fs, hr, hrun, hended, hRW⟩ := X1108.leaveW hS (by rw [e1108]; first | exact K1111 | exact Nat.le_refl _) (v := none) (fun _ => rfl)
  have Cz : CHr Z consts_1 s.vm s.heap T1108.vm T1108.heap := own_chr (C1108.trans (CHv.at X1108 hZ hEE.ew C1108.1)) hh e1108
  refine own_end (t := T1108.setFrames fs) ?_ ⟨_, hrun, hended, _, _, rfl, ?_, Cz, own_rmono hRW (by decide) (by decide)⟩
  · exact X1108.returnOut hx Bd.returns (hb hby d2_57) hr
  have E1112 : Exa Z h1108 a954 zs2 := (E1107.wr W1108)
  · show Q21 Z a954 a955 i19 k959 p957 p958 p956 h0 n0 _ T1108.heap _
    rw [e1108]
    exact ⟨rfl, N1108, ((((Keep.refl h0 [a954]).trans K981 all0).wr W1102 (Or.inl (List.mem_of_getElem? (i := 0) rfl))).wr W1108 (Or.inl (List.mem_of_getElem? (i := 0) rfl))), E1112⟩
def Q22 (Z : State) (a927 : Addr) (a928 : Addr) (i19 : Int32) (k932 : ClassId) (p930 : Int32) (p931 : Int32) (p929 : Int32) (h0 : Heap) (n0 : Nat) (v : Option Value) (h : Heap) (L : List Loc) : Prop := v = none ∧ Fr n0 L ∧ Keep h0 h [a927] ∧ Exa Z h a927 zs2
set_option maxRecDepth 65536 in
set_option maxHeartbeats 40000000 in
theorem rm22 (l : Launch) (Z : State) (a0 : Array Value) (hw : ∀ d ∈ tables_1, d.before a0 Z = true) (ws : List Jvm.Cond) (a927 : Addr) (a928 : Addr) (i19 : Int32) (k932 : ClassId) (p930 : Int32) (p931 : Int32) (p929 : Int32) (h0 : Heap) (n0 : Nat) (O0 : Old Z n0 h0) (pL_a928 : own_Len Z h0 a928 .char (2 : Int32)) (S_String_COMPACT_STRINGS : Sta Z Z.heap zs2 zs15 "Z" (.int i19)) (pC933 : ¬ (i19 = (0 : Int32))) (pV_a928 : Arv Z h0 a928 k932 .char (2 : Int32) [(.int p930), (.int p931)] (.int (0 : Int32))) (pC943 : ¬ ((255 : Int32) < p930)) (pC948 : ¬ ((255 : Int32) < p931)) (pF_a927_coder : Fld Z h0 a927 zs2 "coder" "B" (.int p929)) (pE_a927 : Exa Z h0 a927 zs2) (pG_a927 : n0 ≤ a927) (pF_a927_value : Fld Z h0 a927 zs2 "value" "[B" .null) :
    MetFree l (⟨zs2, "<init>", "([C)V"⟩ : MethodName) (head1 (Jvm.Cond.code (⟨zs2, "<init>", "([C)V"⟩ : MethodName) jdk_42_method_3_code 2 none :: ws) ({ frames := 3, cells := 1, slots := 2, locals := 52 } : Room)) (fun a U => a = #[(.ref a927), (.ref a928)] ∧ Z.Warmed39 U.vm ∧ U.heap = h0 ∧ CHv Z consts_1 U.vm h0) (fun _ _ _ _ _ => True) (fun _ U o U' => ∃ v L, o = .returned v ∧ Q22 Z a927 a928 i19 k932 p930 p931 p929 h0 n0 v U'.heap L ∧ CHr Z consts_1 U.vm U.heap U'.vm U'.heap ∧ ReturnedEndW U o U' L ({ frames := 3, cells := 1, slots := 2, locals := 52 } : Room).cells ({ frames := 3, cells := 1, slots := 2, locals := 52 } : Room).slots) := by
  refine MetFree.of_bodySF (plainFor_of_name pn_1) hisR ?_
  intro p e s m args below meth c s₁ Bd hml0 hP hK
  obtain ⟨rfl, hZ, hh, hC⟩ := hP
  have hx := Bd.exec
  have hby := Bd.bytes
  have hml : c.maxLocals = 2 := hml0
  have hown : s.vm.findClass zs2 = some m.cls := findClass_of_methodNamed Bd.named
  have hnm := (name_of_methodNamed Bd.named Bd.method).1
  have X0 : Stand p l e ({ frames := 3, cells := 1, slots := 2, locals := 52 } : Room) (s.setVm s.vm) m #[(.ref a927), (.ref a928)] below meth c s₁ [] 0 0 := Stand.of_body Bd
  have hS : s.Since s.vm 0 := (State.WarmedH.refl s).since 0
  obtain ⟨k0, hk0, hS⟩ : ∃ k0, k0 ≤ h0.size ∧ s.Since s.vm k0 := ⟨0, Nat.zero_le _, hS⟩
  have hZ : Z.Warmed39 (s.setVm s.vm).vm := hZ
  have hown : (s.setVm s.vm).vm.findClass zs2 = some m.cls := hown
  have C0 : CHr Z consts_1 s.vm h0 s.vm h0 := CHr.refl hC
  have hEE := own_ee hw
  have e0 : s₁.heap = h0 := by rw [← hh, Bd.state]; rfl
  have N0 := Fr.nil n0
  refine own_out ?_
  refine own_via (fun t k => castTop (ef_2 m a927 a928) (XS.aloadN X0.here hx rfl (hb hby d1_0) rfl rfl (XS.aloadN X0.here hx rfl (hb hby d1_1) rfl rfl (XS.iconst X0.here hx rfl (hb hby d1_2) (XS.aloadN X0.here hx rfl (hb hby d1_3) rfl rfl k))))) ?_
  show own_Goes p e below (s₁.setTop (mkF m 4 #[rv a927, rv a928] [(.ref a928), (.int (0 : Int32)), (.ref a928), (.ref a927)])) _
  obtain ⟨_, _, _, V952⟩ := id (pL_a928)
  obtain ⟨cl952, Ar952, -, S952, M952, -, -⟩ := id (V952)
  refine own_via (fun t k => X0.arraylength hx (by rw [e0]; exact Ar952.1) (State.isArrayOf_alike hZ.alike Ar952.2.1) (g := (mkF m 4 #[rv a927, rv a928] [(.ref a928), (.int (0 : Int32)), (.ref a928), (.ref a927)])) rfl rfl (hb hby d1_4) t k) ?_
  rw [len_of S952 M952]
  show own_Goes p e below (s₁.setTop (mkF m 5 #[rv a927, rv a928] [(.int (2 : Int32)), (.int (0 : Int32)), (.ref a928), (.ref a927)])) _
  refine own_via (fun t k => XS.aconstNull X0.here hx rfl (hb hby d1_5) k) ?_
  obtain ⟨_, T953, _, X953, hQ953, Cr953, hS, hZ, hown, st953⟩ := own_ciH X0 hx hZ hS hk0 hown (wd hw 7 rfl) (wd hw 8 rfl) (wd hw 10 rfl) (wd hw 2 rfl) rfl (by decide) hEE.ew C0.1 (rm21 l Z a0 hw [] a927 a928 i19 k932 p930 p931 p929 h0 n0 O0 S_String_COMPACT_STRINGS pC933 pV_a928 pC943 pC948 pF_a927_coder pE_a927 pG_a927 pF_a927_value) e0 (g := (mkF m 6 #[rv a927, rv a928] [.null, (.int (2 : Int32)), (.int (0 : Int32)), (.ref a928), (.ref a927)])) rfl (by rw [hml]; rfl) (rest := []) (W := 0) (lenOf pd_1 rfl) rfl (by show 2 * 0 + _ ≤ _; exact Nat.le_of_eq rfl) (hb hby d1_6) (by decide) (by decide) (by decide) (by decide)
  obtain ⟨h953, e953⟩ : ∃ z, T953.heap = z := ⟨_, rfl⟩
  rw [e953] at hQ953 Cr953
  obtain ⟨rfl, Nq953, K953, ex1113⟩ := hQ953
  have N953 := Fr.app N0 Nq953
  have C1114 := C0.trans Cr953
  have hk1115 : T953.heap.size ≤ h953.size := Nat.le_of_eq (congrArg Array.size e953)
  refine own_via (fun t k => st953 t k) ?_
  obtain ⟨fs, hr, hrun, hended, hRW⟩ := X953.leaveW hS (by rw [e953]; first | exact hk1115 | exact Nat.le_refl _) (v := none) (fun _ => rfl)
  have Cz : CHr Z consts_1 s.vm s.heap T953.vm T953.heap := own_chr (C1114.trans (CHv.at X953 hZ hEE.ew C1114.1)) hh e953
  refine own_end (t := T953.setFrames fs) ?_ ⟨_, hrun, hended, _, _, rfl, ?_, Cz, own_rmono hRW (by decide) (by decide)⟩
  · exact X953.returnOut hx Bd.returns (hb hby d1_9) hr
  · show Q22 Z a927 a928 i19 k932 p930 p931 p929 h0 n0 _ T953.heap _
    rw [e953]
    exact ⟨rfl, N953, ((Keep.refl h0 [a927]).trans K953 (allS (Or.inl (List.mem_of_getElem? (i := 0) rfl)) all0)), ex1113⟩
theorem ef_16 (m : MethodId) (x0 : Addr) (x1 : Addr) (x3 : Addr) : entryFrame m #[(.ref x0), (.ref x1), .null, (.ref x3)] 4 = mkF m 0 #[rv x0, rv x1, .val .null, rv x3] [] := by first | (simp [entryFrame, mkF, argsToLocals, Value.category]; done) | rfl
def Q23 (Z : State) (a1279 : Addr) (a1280 : Addr) (a1281 : Addr) (h0 : Heap) (n0 : Nat) (v : Option Value) (h : Heap) (L : List Loc) : Prop := v = none ∧ Fr n0 L ∧ Keep h0 h [a1279] ∧ Exa Z h a1279 zs1 ∧ Fld Z h a1279 zs1 "name" zs4 (.ref a1280) ∧ Fld Z h a1279 zs1 "value" zs4 .null ∧ Fld Z h a1279 zs1 "about" zs10 (.ref a1281)
set_option maxRecDepth 65536 in
set_option maxHeartbeats 40000000 in
theorem rm23 (l : Launch) (Z : State) (a0 : Array Value) (hw : ∀ d ∈ tables_1, d.before a0 Z = true) (ws : List Jvm.Cond) (a1279 : Addr) (a1280 : Addr) (a1281 : Addr) (h0 : Heap) (n0 : Nat) (O0 : Old Z n0 h0) (pF_a1279_name : Fld Z h0 a1279 zs1 "name" zs4 .null) (pE_a1279 : Exa Z h0 a1279 zs1) (pG_a1279 : n0 ≤ a1279) (pF_a1279_value : Fld Z h0 a1279 zs1 "value" zs4 .null) (pF_a1279_about : Fld Z h0 a1279 zs1 "about" zs10 .null) :
    MetFree l (⟨zs1, "<init>", zs8⟩ : MethodName) (head1 (Jvm.Cond.code (⟨zs1, "<init>", zs8⟩ : MethodName) prog_40_method_1_code 4 none :: ws) ({ frames := 2, cells := 0, slots := 0, locals := 24 } : Room)) (fun a U => a = #[(.ref a1279), (.ref a1280), .null, (.ref a1281)] ∧ Z.Warmed39 U.vm ∧ U.heap = h0 ∧ CHv Z consts_1 U.vm h0) (fun _ _ _ _ _ => True) (fun _ U o U' => ∃ v L, o = .returned v ∧ Q23 Z a1279 a1280 a1281 h0 n0 v U'.heap L ∧ CHr Z consts_1 U.vm U.heap U'.vm U'.heap ∧ ReturnedEndW U o U' L ({ frames := 2, cells := 0, slots := 0, locals := 24 } : Room).cells ({ frames := 2, cells := 0, slots := 0, locals := 24 } : Room).slots) := by
  refine MetFree.of_bodySF (plainFor_of_name pn_7) hisR ?_
  intro p e s m args below meth c s₁ Bd hml0 hP hK
  obtain ⟨rfl, hZ, hh, hC⟩ := hP
  have hx := Bd.exec
  have hby := Bd.bytes
  have hml : c.maxLocals = 4 := hml0
  have hown : s.vm.findClass zs1 = some m.cls := findClass_of_methodNamed Bd.named
  have hnm := (name_of_methodNamed Bd.named Bd.method).1
  have X0 : Stand p l e ({ frames := 2, cells := 0, slots := 0, locals := 24 } : Room) (s.setVm s.vm) m #[(.ref a1279), (.ref a1280), .null, (.ref a1281)] below meth c s₁ [] 0 0 := Stand.of_body Bd
  have hS : s.Since s.vm 0 := (State.WarmedH.refl s).since 0
  obtain ⟨k0, hk0, hS⟩ : ∃ k0, k0 ≤ h0.size ∧ s.Since s.vm k0 := ⟨0, Nat.zero_le _, hS⟩
  have hZ : Z.Warmed39 (s.setVm s.vm).vm := hZ
  have hown : (s.setVm s.vm).vm.findClass zs1 = some m.cls := hown
  have C0 : CHr Z consts_1 s.vm h0 s.vm h0 := CHr.refl hC
  have hEE := own_ee hw
  have e0 : s₁.heap = h0 := by rw [← hh, Bd.state]; rfl
  have N0 := Fr.nil n0
  refine own_out ?_
  refine own_via (fun t k => castTop (ef_16 m a1279 a1280 a1281) (XS.aloadN X0.here hx rfl (hb hby d10_0) rfl rfl k)) ?_
  obtain ⟨_, T1308, _, X1308, hQ1308, Cr1308, hS, hZ, hown, st1308⟩ := own_ciH X0 hx hZ hS hk0 hown (wd hw 63 rfl) (wd hw 64 rfl) (wd hw 67 rfl) (wd hw 66 rfl) rfl (by decide) hEE.ew C0.1 (rm11 l Z a0 hw [] a1279 h0 n0 O0 ) e0 (g := (mkF m 1 #[rv a1279, rv a1280, .val .null, rv a1281] [(.ref a1279)])) rfl (by rw [hml]; rfl) (rest := []) (W := 0) (lenOf pd_6 rfl) rfl (by show 2 * 0 + _ ≤ _; exact Nat.le_of_eq rfl) (hb hby d10_1) (by decide) (by decide) (by decide) (by decide)
  obtain ⟨rfl, Nq1308, hh1309⟩ := hQ1308
  have N1308 := Fr.app N0 Nq1308
  rw [hh1309] at Cr1308
  have C1310 := C0.trans Cr1308
  have hk1311 : T1308.heap.size ≤ h0.size := Nat.le_of_eq (congrArg Array.size hh1309)
  refine own_via (fun t k => st1308 t (XS.aloadN X1308.here hx rfl (hb hby d10_4) rfl rfl (XS.aloadN X1308.here hx rfl (hb hby d10_5) rfl rfl k))) ?_
  show own_Goes p e below (T1308.setTop (mkF m 6 #[rv a1279, rv a1280, .val .null, rv a1281] [(.ref a1280), (.ref a1279)])) _
  obtain ⟨T1312, h1312, X1312, e1312, W1312, st1312⟩ := putF X1308 hx hZ hown (host := "") (Or.inl (wd hw 69 rfl)) Via.refl hh1309 pF_a1279_name pE_a1279 (Or.inr ⟨(wd hw 70 rfl), rfl, hnm⟩) (wd hw 58 rfl) (ty := (.object zs2)) (by decide) rfl rfl (g := (mkF m 6 #[rv a1279, rv a1280, .val .null, rv a1281] [(.ref a1280), (.ref a1279)])) rfl rfl (hb hby d10_6)
  refine own_via (fun t k => st1312 t k) ?_
  have Fw1312 : Fld Z h1312 a1279 zs1 "name" zs4 (.ref a1280) := pF_a1279_name.same W1312
  have Sf1313 : Safe Z consts_1 _ h0 a1279 := (Safe.exa hZ.alike pE_a1279 (by decide) (by decide))
  have C1312 := C1310.trans (CHr.wr W1312 Sf1313 C1310.1)
  have N1312 := Fr.snoc X1312 N1308 pG_a1279
  show own_Goes p e below (T1312.setTop (mkF m 9 #[rv a1279, rv a1280, .val .null, rv a1281] [])) _
  refine own_via (fun t k => XS.aloadN X1312.here hx rfl (hb hby d10_9) rfl rfl (XS.aloadN X1312.here hx rfl (hb hby d10_10) rfl rfl k)) ?_
  have F1314 : Fld Z h1312 a1279 zs1 "value" zs4 .null := (pF_a1279_value.other W1312 (Or.inr (slot_ne (Or.inr (wd hw 72 rfl)) (Or.inr (wd hw 70 rfl)) (by decide) (t := (.object zs2)) (t' := (.object zs2)) (by decide) (by decide))))
  have E1315 : Exa Z h1312 a1279 zs1 := (pE_a1279.wr W1312)
  obtain ⟨T1316, h1316, X1316, e1316, W1316, st1316⟩ := putF X1312 hx hZ hown (host := "") (Or.inl (wd hw 71 rfl)) Via.refl e1312 F1314 E1315 (Or.inr ⟨(wd hw 72 rfl), rfl, hnm⟩) (wd hw 58 rfl) (ty := (.object zs2)) (by decide) rfl rfl (g := (mkF m 11 #[rv a1279, rv a1280, .val .null, rv a1281] [.null, (.ref a1279)])) rfl rfl (hb hby d10_11)
  refine own_via (fun t k => st1316 t k) ?_
  have Fw1316 : Fld Z h1316 a1279 zs1 "value" zs4 .null := F1314.same W1316
  have Sf1317 : Safe Z consts_1 _ h1312 a1279 := (Safe.exa hZ.alike E1315 (by decide) (by decide))
  have C1316 := C1312.trans (CHr.wr W1316 Sf1317 C1312.1)
  have N1316 := Fr.snoc X1316 N1312 pG_a1279
  show own_Goes p e below (T1316.setTop (mkF m 14 #[rv a1279, rv a1280, .val .null, rv a1281] [])) _
  refine own_via (fun t k => XS.aloadN X1316.here hx rfl (hb hby d10_14) rfl rfl (XS.aloadN X1316.here hx rfl (hb hby d10_15) rfl rfl k)) ?_
  have F1318 : Fld Z h1316 a1279 zs1 "about" zs10 .null := ((pF_a1279_about.other W1312 (Or.inr (slot_ne (Or.inr (wd hw 74 rfl)) (Or.inr (wd hw 70 rfl)) (by decide) (t := (.object zs9)) (t' := (.object zs2)) (by decide) (by decide)))).other W1316 (Or.inr (slot_ne (Or.inr (wd hw 74 rfl)) (Or.inr (wd hw 72 rfl)) (by decide) (t := (.object zs9)) (t' := (.object zs2)) (by decide) (by decide))))
  have E1319 : Exa Z h1316 a1279 zs1 := (E1315.wr W1316)
  obtain ⟨T1320, h1320, X1320, e1320, W1320, st1320⟩ := putF X1316 hx hZ hown (host := "") (Or.inl (wd hw 73 rfl)) Via.refl e1316 F1318 E1319 (Or.inr ⟨(wd hw 74 rfl), rfl, hnm⟩) (wd hw 58 rfl) (ty := (.object zs9)) (by decide) rfl rfl (g := (mkF m 16 #[rv a1279, rv a1280, .val .null, rv a1281] [(.ref a1281), (.ref a1279)])) rfl rfl (hb hby d10_16)
  refine own_via (fun t k => st1320 t k) ?_
  have Fw1320 : Fld Z h1320 a1279 zs1 "about" zs10 (.ref a1281) := F1318.same W1320
  have Sf1321 : Safe Z consts_1 _ h1316 a1279 := (Safe.exa hZ.alike E1319 (by decide) (by decide))
  have C1320 := C1316.trans (CHr.wr W1320 Sf1321 C1316.1)
  have N1320 := Fr.snoc X1320 N1316 pG_a1279
  show own_Goes p e below (T1320.setTop (mkF m 19 #[rv a1279, rv a1280, .val .null, rv a1281] [])) _
  have K1322 : T1308.heap.size ≤ h1320.size := (Nat.le_trans (Nat.le_trans (Nat.le_trans hk1311 (Nat.le_of_eq W1312.size.symm)) (Nat.le_of_eq W1316.size.symm)) (Nat.le_of_eq W1320.size.symm))
  obtain ⟨fs, hr, hrun, hended, hRW⟩ := X1320.leaveW hS (by rw [e1320]; first | exact K1322 | exact Nat.le_refl _) (v := none) (fun _ => rfl)
  have Cz : CHr Z consts_1 s.vm s.heap T1320.vm T1320.heap := own_chr (C1320.trans (CHv.at X1320 hZ hEE.ew C1320.1)) hh e1320
  refine own_end (t := T1320.setFrames fs) ?_ ⟨_, hrun, hended, _, _, rfl, ?_, Cz, own_rmono hRW (by decide) (by decide)⟩
  · exact X1320.returnOut hx Bd.returns (hb hby d10_19) hr
  have E1323 : Exa Z h1320 a1279 zs1 := (E1319.wr W1320)
  have F1324 : Fld Z h1320 a1279 zs1 "name" zs4 (.ref a1280) := ((Fw1312.other W1316 (Or.inr (slot_ne (Or.inr (wd hw 70 rfl)) (Or.inr (wd hw 72 rfl)) (by decide) (t := (.object zs2)) (t' := (.object zs2)) (by decide) (by decide)))).other W1320 (Or.inr (slot_ne (Or.inr (wd hw 70 rfl)) (Or.inr (wd hw 74 rfl)) (by decide) (t := (.object zs2)) (t' := (.object zs9)) (by decide) (by decide))))
  have F1325 : Fld Z h1320 a1279 zs1 "value" zs4 .null := (Fw1316.other W1320 (Or.inr (slot_ne (Or.inr (wd hw 72 rfl)) (Or.inr (wd hw 74 rfl)) (by decide) (t := (.object zs2)) (t' := (.object zs9)) (by decide) (by decide))))
  · show Q23 Z a1279 a1280 a1281 h0 n0 _ T1320.heap _
    rw [e1320]
    exact ⟨rfl, N1320, ((((Keep.refl h0 [a1279]).wr W1312 (Or.inl (List.mem_of_getElem? (i := 0) rfl))).wr W1316 (Or.inl (List.mem_of_getElem? (i := 0) rfl))).wr W1320 (Or.inl (List.mem_of_getElem? (i := 0) rfl))), E1323, F1324, F1325, Fw1320⟩
theorem d12_7 : decode prog_40_method_4_code 7 = .ok (.iconst 1, 1) := by decide +kernel
theorem d12_8 : decode prog_40_method_4_code 8 = .ok (.goto 4, 3) := by decide +kernel
def Q24 (Z : State) (a1335 : Addr) (h0 : Heap) (n0 : Nat) (v : Option Value) (h : Heap) (L : List Loc) : Prop := v = some (.int (1 : Int32)) ∧ Fr n0 L ∧ h = h0
set_option maxRecDepth 65536 in
set_option maxHeartbeats 40000000 in
theorem rm24 (l : Launch) (Z : State) (a0 : Array Value) (hw : ∀ d ∈ tables_1, d.before a0 Z = true) (ws : List Jvm.Cond) (a1335 : Addr) (h0 : Heap) (n0 : Nat) (O0 : Old Z n0 h0) (pF_a1335_value : Fld Z h0 a1335 zs1 "value" zs4 .null) :
    MetFree l (⟨zs1, "isFlag", "()Z"⟩ : MethodName) (head1 (Jvm.Cond.code (⟨zs1, "isFlag", "()Z"⟩ : MethodName) prog_40_method_4_code 1 (some .boolean) :: ws) ({ frames := 0, cells := 0, slots := 0, locals := 0 } : Room)) (fun a U => a = #[(.ref a1335)] ∧ Z.Warmed39 U.vm ∧ U.heap = h0 ∧ CHv Z consts_1 U.vm h0) (fun _ _ _ _ _ => True) (fun _ U o U' => ∃ v L, o = .returned v ∧ Q24 Z a1335 h0 n0 v U'.heap L ∧ CHr Z consts_1 U.vm U.heap U'.vm U'.heap ∧ ReturnedEndW U o U' L ({ frames := 0, cells := 0, slots := 0, locals := 0 } : Room).cells ({ frames := 0, cells := 0, slots := 0, locals := 0 } : Room).slots) := by
  refine MetFree.of_bodySF (plainFor_of_name pn_7) hisR ?_
  intro p e s m args below meth c s₁ Bd hml0 hP hK
  obtain ⟨rfl, hZ, hh, hC⟩ := hP
  have hx := Bd.exec
  have hby := Bd.bytes
  have hml : c.maxLocals = 1 := hml0
  have hown : s.vm.findClass zs1 = some m.cls := findClass_of_methodNamed Bd.named
  have hnm := (name_of_methodNamed Bd.named Bd.method).1
  have X0 : Stand p l e ({ frames := 0, cells := 0, slots := 0, locals := 0 } : Room) (s.setVm s.vm) m #[(.ref a1335)] below meth c s₁ [] 0 0 := Stand.of_body Bd
  have hS : s.Since s.vm 0 := (State.WarmedH.refl s).since 0
  obtain ⟨k0, hk0, hS⟩ : ∃ k0, k0 ≤ h0.size ∧ s.Since s.vm k0 := ⟨0, Nat.zero_le _, hS⟩
  have hZ : Z.Warmed39 (s.setVm s.vm).vm := hZ
  have hown : (s.setVm s.vm).vm.findClass zs1 = some m.cls := hown
  have C0 : CHr Z consts_1 s.vm h0 s.vm h0 := CHr.refl hC
  have hEE := own_ee hw
  have e0 : s₁.heap = h0 := by rw [← hh, Bd.state]; rfl
  have N0 := Fr.nil n0
  refine own_out ?_
  refine own_via (fun t k => castTop (ef_11 m a1335) (XS.aloadN X0.here hx rfl (hb hby d12_0) rfl rfl k)) ?_
  obtain ⟨T1364, X1364, e1364, st1364⟩ := getF X0 hx hZ hown (host := "") (Or.inl (wd hw 71 rfl)) Via.refl e0 pF_a1335_value (g := (mkF m 1 #[rv a1335] [(.ref a1335)])) rfl rfl (hb hby d12_1)
  refine own_via (fun t k => st1364 t (XS.ifnonnullNo X1364.here hx rfl (hb hby d12_4) rfl (XS.iconst X1364.here hx rfl (hb hby d12_7) (XS.goto X1364.here hx rfl (pc0 := 8) (pc' := 12) rfl (hb hby d12_8) (by decide) (by decide) k)))) ?_
  show own_Goes p e below (T1364.setTop (mkF m 12 #[rv a1335] [(.int (1 : Int32))])) _
  obtain ⟨fs, hr, hrun, hended, hRW⟩ := X1364.leaveW hS (by rw [e1364]; first | exact hk0 | exact Nat.le_refl _) (v := some (.int (1 : Int32))) (fun h => by rw [Bd.returns] at h; cases h)
  have Cz : CHr Z consts_1 s.vm s.heap T1364.vm T1364.heap := own_chr (C0.trans (CHv.at X1364 hZ hEE.ew C0.1)) hh e1364
  refine own_end (t := T1364.setFrames fs) ?_ ⟨_, hrun, hended, _, _, rfl, ?_, Cz, own_rmono hRW (by decide) (by decide)⟩
  · exact retN X1364 hx (t := .boolean) Bd.returns (by simp) (hb hby d12_12) hr
  · show Q24 Z a1335 h0 n0 _ T1364.heap _
    rw [e1364]
    exact ⟨rfl, N0, rfl⟩
theorem ef_17 (m : MethodId) (x0 : Int32) (x1 : Int32) (x2 : Int32) (x3 : Int32) : entryFrame m #[(.int x0), (.int x1), (.int x2), (.int x3)] maxLocals = mkF m 0 #[iv x0, iv x1, iv x2, iv x3, .unset, .unset, .unset, .unset, .unset, .unset, .unset, .unset] [] := by first | (simp [entryFrame, mkF, argsToLocals, Value.category, maxLocals]; done) | rfl
theorem pn_9 : plainName "com/example/hearthkey/hearthkey/gateway/cli/OptionIsFlagPinLaw" = true := by first | (simp [plainName, overriddenIn]; done) | decide +kernel
set_option maxRecDepth 65536 in
set_option maxHeartbeats 40000000 in
theorem rm0 (l : Launch) (Z : State) (a0 : Array Value) (hw : ∀ d ∈ tables_1, d.before a0 Z = true) (ws : List Jvm.Cond) (i0 : Int32) (i1 : Int32) (i2 : Int32) (i3 : Int32) (i19 : Int32) (w24 : Addr) (h0 : Heap) (n0 : Nat) (O0 : Old Z n0 h0) (S_String_COMPACT_STRINGS : Sta Z Z.heap zs2 zs15 "Z" (.int i19)) (SNZ_i19 : ¬ (i19 = (0 : Int32))) (S_ArrayList_DEFAULTCAPACITY_EMPTY_ELEMENTDATA : Sta Z Z.heap zs5 "DEFAULTCAPACITY_EMPTY_ELEMENTDATA" zs7 (.ref w24)) :
    MetFree l x (head1 (Jvm.Cond.code x code maxLocals ret :: ws) room_1) (fun a U => a = #[(.int i0), (.int i1), (.int i2), (.int i3)] ∧ Z.Warmed39 U.vm ∧ U.heap = h0 ∧ CHv Z consts_1 U.vm h0) (fun _ _ _ _ _ => True) (fun _ U o U' => ∃ v L, o = .returned v ∧ own_Q0 n0 v L ∧ ReturnedEndW U o U' L room_1.cells room_1.slots) := by
  refine MetFree.of_bodySF (plainFor_of_name pn_9) hisR ?_
  intro p e s m args below meth c s₁ Bd hml0 hP hK
  obtain ⟨rfl, hZ, hh, hC⟩ := hP
  have hx := Bd.exec
  have hby := Bd.bytes
  have hml : c.maxLocals = 12 := hml0
  have hown : s.vm.findClass "com/example/hearthkey/hearthkey/gateway/cli/OptionIsFlagPinLaw" = some m.cls := findClass_of_methodNamed Bd.named
  have hnm := (name_of_methodNamed Bd.named Bd.method).1
  have X0 : Stand p l e room_1 (s.setVm s.vm) m #[(.int i0), (.int i1), (.int i2), (.int i3)] below meth c s₁ [] 0 0 := Stand.of_body Bd
  have hS : s.Since s.vm 0 := (State.WarmedH.refl s).since 0
  obtain ⟨k0, hk0, hS⟩ : ∃ k0, k0 ≤ h0.size ∧ s.Since s.vm k0 := ⟨0, Nat.zero_le _, hS⟩
  have hZ : Z.Warmed39 (s.setVm s.vm).vm := hZ
  have hown : (s.setVm s.vm).vm.findClass "com/example/hearthkey/hearthkey/gateway/cli/OptionIsFlagPinLaw" = some m.cls := hown
  have C0 : CHr Z consts_1 s.vm h0 s.vm h0 := CHr.refl hC
  have hEE := own_ee hw
  have e0 : s₁.heap = h0 := by rw [← hh, Bd.state]; rfl
  have N0 := Fr.nil n0
  refine own_out ?_
  show own_Goes p e below _ (own_G s below n0)
  refine own_via (fun t k => castTop (ef_17 m i0 i1 i2 i3) (XS.iloadN X0.here hx rfl (hb hby at_0) rfl (XS.iconst X0.here hx rfl (hb hby at_1) (XS.iand X0.here hx rfl (hb hby at_2) rfl k)))) ?_
  show own_Goes p e below (s₁.setTop (mkF m 3 #[iv i0, iv i1, iv i2, iv i3, .unset, .unset, .unset, .unset, .unset, .unset, .unset, .unset] [(.int (i0 &&& (1 : Int32)))])) _
  by_cases hc27 : (i0 &&& (1 : Int32)) = (0 : Int32)
  · refine own_via (fun t k => XS.ifYes X0.here hx rfl (pc0 := 3) (pc' := 10) rfl (hb hby at_3) rfl ((if0 _ _).trans (teq hc27).1) (by decide) (by decide) (XS.iconst X0.here hx rfl (hb hby at_10) (XS.istore X0.here hx rfl (hb hby at_11) rfl (l' := #[iv i0, iv i1, iv i2, iv i3, iv (0 : Int32), .unset, .unset, .unset, .unset, .unset, .unset, .unset]) rfl (XS.iloadN X0.here hx rfl (hb hby at_13) rfl (XS.iconst X0.here hx rfl (hb hby at_14) (XS.iushr X0.here hx rfl (hb hby at_15) rfl (XS.iconst X0.here hx rfl (hb hby at_16) (XS.iand X0.here hx rfl (hb hby at_17) rfl (XS.istore X0.here hx rfl (hb hby at_18) rfl (l' := #[iv i0, iv i1, iv i2, iv i3, iv (0 : Int32), iv (((i0.toUInt32 >>> ((1 : Int32) &&& 31).toUInt32).toInt32) &&& (3 : Int32)), .unset, .unset, .unset, .unset, .unset, .unset]) rfl (XS.iloadN X0.here hx rfl (hb hby at_20) rfl (XS.sipush X0.here hx rfl (hb hby at_21) (XS.iand X0.here hx rfl (hb hby at_24) rfl k)))))))))))) ?_
    show own_Goes p e below (s₁.setTop (mkF m 25 #[iv i0, iv i1, iv i2, iv i3, iv (0 : Int32), iv (((i0.toUInt32 >>> ((1 : Int32) &&& 31).toUInt32).toInt32) &&& (3 : Int32)), .unset, .unset, .unset, .unset, .unset, .unset] [(.int (i1 &&& (255 : Int32)))])) _
    refine own_via (fun t k => XS.i2c X0.here hx rfl (hb hby at_25) rfl (XS.istore X0.here hx rfl (hb hby at_26) rfl (l' := #[iv i0, iv i1, iv i2, iv i3, iv (0 : Int32), iv (((i0.toUInt32 >>> ((1 : Int32) &&& 31).toUInt32).toInt32) &&& (3 : Int32)), iv ((i1 &&& (255 : Int32)).toUInt32.toUInt16.toUInt32.toInt32), .unset, .unset, .unset, .unset, .unset]) rfl (XS.iloadN X0.here hx rfl (hb hby at_28) rfl (XS.sipush X0.here hx rfl (hb hby at_29) (XS.iand X0.here hx rfl (hb hby at_32) rfl (XS.i2c X0.here hx rfl (hb hby at_33) rfl (XS.istore X0.here hx rfl (hb hby at_34) rfl (l' := #[iv i0, iv i1, iv i2, iv i3, iv (0 : Int32), iv (((i0.toUInt32 >>> ((1 : Int32) &&& 31).toUInt32).toInt32) &&& (3 : Int32)), iv ((i1 &&& (255 : Int32)).toUInt32.toUInt16.toUInt32.toInt32), iv ((i2 &&& (255 : Int32)).toUInt32.toUInt16.toUInt32.toInt32), .unset, .unset, .unset, .unset]) rfl (XS.iload X0.here hx rfl (hb hby at_36) rfl (XS.ifYes X0.here hx rfl (pc0 := 38) (pc' := 47) rfl (hb hby at_38) rfl ((if0 _ _).trans (teq (by decide : (0 : Int32) = (0 : Int32))).1) (by decide) (by decide) (XS.iload X0.here hx rfl (hb hby at_47) rfl k)))))))))) ?_
    show own_Goes p e below (s₁.setTop (mkF m 49 #[iv i0, iv i1, iv i2, iv i3, iv (0 : Int32), iv (((i0.toUInt32 >>> ((1 : Int32) &&& 31).toUInt32).toInt32) &&& (3 : Int32)), iv ((i1 &&& (255 : Int32)).toUInt32.toUInt16.toUInt32.toInt32), iv ((i2 &&& (255 : Int32)).toUInt32.toUInt16.toUInt32.toInt32), .unset, .unset, .unset, .unset] [(.int (((i0.toUInt32 >>> ((1 : Int32) &&& 31).toUInt32).toInt32) &&& (3 : Int32)))])) _
    by_cases hc28 : (((i0.toUInt32 >>> ((1 : Int32) &&& 31).toUInt32).toInt32) &&& (3 : Int32)) = (0 : Int32)
    · refine own_via (fun t k => XS.ifNo X0.here hx rfl (hb hby at_49) rfl ((if0 _ _).trans (teq hc28).2) k) ?_
      obtain ⟨T29, h29, X29, e29, E29, A29, D29, -, st29⟩ := newO X0 hx hZ hown (wd hw 0 rfl) (wd hw 1 rfl) (wd hw 2 rfl) e0 (g := (mkF m 52 #[iv i0, iv i1, iv i2, iv i3, iv (0 : Int32), iv (((i0.toUInt32 >>> ((1 : Int32) &&& 31).toUInt32).toInt32) &&& (3 : Int32)), iv ((i1 &&& (255 : Int32)).toUInt32.toUInt16.toUInt32.toInt32), iv ((i2 &&& (255 : Int32)).toUInt32.toUInt16.toUInt32.toInt32), .unset, .unset, .unset, .unset] [])) rfl (hb hby at_52) (by decide) (by decide)
      obtain ⟨b30, q29⟩ : ∃ z, z = h0.size := ⟨_, rfl⟩
      rw [← q29] at A29 D29 st29
      refine own_via (fun t k => st29 t k) ?_
      have C29 := C0.trans (CHr.ext E29 C0.1)
      have g31 : n0 ≤ b30 := Nat.le_trans (own_old O0) (Nat.le_of_eq q29.symm)
      have B32 : h0.size ≤ b30 := Nat.le_trans (Nat.le_refl _) (Nat.le_of_eq q29.symm)
      have F33 : Fld Z h29 b30 zs2 "value" "[B" .null := D29 (Or.inr (wd hw 16 rfl)) (ty := (.array .byte)) (by decide)
      have F34 : Fld Z h29 b30 zs2 "coder" "B" (.int (0 : Int32)) := D29 (Or.inr (wd hw 17 rfl)) (ty := .byte) (by decide)
      show own_Goes p e below (T29.setTop (mkF m 55 #[iv i0, iv i1, iv i2, iv i3, iv (0 : Int32), iv (((i0.toUInt32 >>> ((1 : Int32) &&& 31).toUInt32).toInt32) &&& (3 : Int32)), iv ((i1 &&& (255 : Int32)).toUInt32.toUInt16.toUInt32.toInt32), iv ((i2 &&& (255 : Int32)).toUInt32.toUInt16.toUInt32.toInt32), .unset, .unset, .unset, .unset] [(.ref b30)])) _
      refine own_via (fun t k => XS.dup X29.here hx rfl (hb hby at_55) rfl rfl (XS.iconst X29.here hx rfl (hb hby at_56) k)) ?_
      obtain ⟨T35, h35, k35, X35, e35, E35, A35, st35⟩ := newP X29 hx hZ (wd hw 3 rfl) e29 (g := (mkF m 57 #[iv i0, iv i1, iv i2, iv i3, iv (0 : Int32), iv (((i0.toUInt32 >>> ((1 : Int32) &&& 31).toUInt32).toInt32) &&& (3 : Int32)), iv ((i1 &&& (255 : Int32)).toUInt32.toUInt16.toUInt32.toInt32), iv ((i2 &&& (255 : Int32)).toUInt32.toUInt16.toUInt32.toInt32), .unset, .unset, .unset, .unset] [(.int (0 : Int32)), (.ref b30), (.ref b30)])) rfl (hb hby at_57) rfl (by decide) (cap := 0) (by decide) (by decide) (by decide) (by decide)
      obtain ⟨b36, q35⟩ : ∃ z, z = h29.size := ⟨_, rfl⟩
      rw [← q35] at A35 st35
      refine own_via (fun t k => st35 t k) ?_
      have C35 := C29.trans (CHr.ext E35 C29.1)
      have N37 : b30 ≠ b36 := Nat.ne_of_lt (Nat.lt_of_lt_of_le A29.lt (Nat.le_of_eq q35.symm))
      have O39 : Old Z n0 h29 := (O0.ext E29)
      have g38 : n0 ≤ b36 := Nat.le_trans (own_old O39) (Nat.le_of_eq q35.symm)
      have Z41 : h0.size ≤ h29.size := (Nat.le_trans (Nat.le_refl _) E29.1)
      have B40 : h0.size ≤ b36 := Nat.le_trans Z41 (Nat.le_of_eq q35.symm)
      have V42 : Arv Z h35 b36 k35 .char (0 : Int32) [] (.int (0 : Int32)) := Arv.new A35 (by decide)
      show own_Goes p e below (T35.setTop (mkF m 59 #[iv i0, iv i1, iv i2, iv i3, iv (0 : Int32), iv (((i0.toUInt32 >>> ((1 : Int32) &&& 31).toUInt32).toInt32) &&& (3 : Int32)), iv ((i1 &&& (255 : Int32)).toUInt32.toUInt16.toUInt32.toInt32), iv ((i2 &&& (255 : Int32)).toUInt32.toUInt16.toUInt32.toInt32), .unset, .unset, .unset, .unset] [(.ref b36), (.ref b30), (.ref b30)])) _
      have l119 : own_Len Z h35 b36 .char (0 : Int32) := ⟨_, _, _, V42⟩
      have F120 : Fld Z h35 b30 zs2 "value" "[B" .null := (F33.ext E35)
      have E121 : Exa Z h35 b30 zs2 := (A29.ext E35)
      have F122 : Fld Z h35 b30 zs2 "coder" "B" (.int (0 : Int32)) := (F34.ext E35)
      have O123 : Old Z n0 h35 := (O39.ext E35)
      have K124 : k0 ≤ h35.size := (Nat.le_trans (Nat.le_trans hk0 E29.1) E35.1)
      obtain ⟨_, T43, _, X43, hQ43, Cr43, hS, hZ, hown, st43⟩ := own_ciH X35 hx hZ hS K124 hown (wd hw 4 rfl) (wd hw 5 rfl) (wd hw 6 rfl) (wd hw 2 rfl) rfl (by decide) hEE.ew C35.1 (rm2 l Z a0 hw [] b30 b36 (0 : Int32) h35 n0 O123 l119 F120 E121 g31 F122) e35 (g := (mkF m 59 #[iv i0, iv i1, iv i2, iv i3, iv (0 : Int32), iv (((i0.toUInt32 >>> ((1 : Int32) &&& 31).toUInt32).toInt32) &&& (3 : Int32)), iv ((i1 &&& (255 : Int32)).toUInt32.toUInt16.toUInt32.toInt32), iv ((i2 &&& (255 : Int32)).toUInt32.toUInt16.toUInt32.toInt32), .unset, .unset, .unset, .unset] [(.ref b36), (.ref b30), (.ref b30)])) rfl (by rw [hml]; rfl) (rest := [(.ref b30)]) (W := 1) (lenOf pd_2 rfl) rfl (by show 2 * 0 + _ ≤ _; exact Nat.le_of_eq rfl) (hb hby at_59) (by decide) (by decide) (by decide) (by decide)
      obtain ⟨h43, e43⟩ : ∃ z, T43.heap = z := ⟨_, rfl⟩
      rw [e43] at hQ43 Cr43
      obtain ⟨rfl, Nq43, K43, ex125⟩ := hQ43
      have N43 := Fr.app N0 Nq43
      have C126 := C35.trans Cr43
      have hk127 : T43.heap.size ≤ h43.size := Nat.le_of_eq (congrArg Array.size e43)
      refine own_via (fun t k => st43 t (XS.astore X43.here hx rfl (hb hby at_62) rfl rfl (l' := #[iv i0, iv i1, iv i2, iv i3, iv (0 : Int32), iv (((i0.toUInt32 >>> ((1 : Int32) &&& 31).toUInt32).toInt32) &&& (3 : Int32)), iv ((i1 &&& (255 : Int32)).toUInt32.toUInt16.toUInt32.toInt32), iv ((i2 &&& (255 : Int32)).toUInt32.toUInt16.toUInt32.toInt32), rv b30, .unset, .unset, .unset]) rfl (XS.goto X43.here hx rfl (pc0 := 64) (pc' := 105) rfl (hb hby at_64) (by decide) (by decide) k))) ?_
      show own_Goes p e below (T43.setTop (mkF m 105 #[iv i0, iv i1, iv i2, iv i3, iv (0 : Int32), iv (((i0.toUInt32 >>> ((1 : Int32) &&& 31).toUInt32).toInt32) &&& (3 : Int32)), iv ((i1 &&& (255 : Int32)).toUInt32.toUInt16.toUInt32.toInt32), iv ((i2 &&& (255 : Int32)).toUInt32.toUInt16.toUInt32.toInt32), rv b30, .unset, .unset, .unset] [])) _
      obtain ⟨T128, h128, X128, e128, E128, A128, D128, -, st128⟩ := newO X43 hx hZ hown (wd hw 0 rfl) (wd hw 1 rfl) (wd hw 2 rfl) e43 (g := (mkF m 105 #[iv i0, iv i1, iv i2, iv i3, iv (0 : Int32), iv (((i0.toUInt32 >>> ((1 : Int32) &&& 31).toUInt32).toInt32) &&& (3 : Int32)), iv ((i1 &&& (255 : Int32)).toUInt32.toUInt16.toUInt32.toInt32), iv ((i2 &&& (255 : Int32)).toUInt32.toUInt16.toUInt32.toInt32), rv b30, .unset, .unset, .unset] [])) rfl (hb hby at_105) (by decide) (by decide)
      obtain ⟨b129, q128⟩ : ∃ z, z = h43.size := ⟨_, rfl⟩
      rw [← q128] at A128 D128 st128
      refine own_via (fun t k => st128 t k) ?_
      have C128 := C126.trans (CHr.ext E128 C126.1)
      have N130 : b30 ≠ b129 := Nat.ne_of_lt (Nat.lt_of_lt_of_le ex125.lt (Nat.le_of_eq q128.symm))
      have V132 : Arv Z h43 b36 k35 .char (0 : Int32) [] (.int (0 : Int32)) := (V42.keep K43 (ninS (Ne.symm N37) nin0))
      have N131 : b36 ≠ b129 := Nat.ne_of_lt (Nat.lt_of_lt_of_le V132.lt (Nat.le_of_eq q128.symm))
      have O134 : Old Z n0 h43 := (O123.keep K43 (allS g31 all0))
      have g133 : n0 ≤ b129 := Nat.le_trans (own_old O134) (Nat.le_of_eq q128.symm)
      have Z136 : h0.size ≤ h43.size := (Nat.le_trans (Nat.le_trans Z41 E35.1) K43.1)
      have B135 : h0.size ≤ b129 := Nat.le_trans Z136 (Nat.le_of_eq q128.symm)
      have F137 : Fld Z h128 b129 zs2 "value" "[B" .null := D128 (Or.inr (wd hw 16 rfl)) (ty := (.array .byte)) (by decide)
      have F138 : Fld Z h128 b129 zs2 "coder" "B" (.int (0 : Int32)) := D128 (Or.inr (wd hw 17 rfl)) (ty := .byte) (by decide)
      show own_Goes p e below (T128.setTop (mkF m 108 #[iv i0, iv i1, iv i2, iv i3, iv (0 : Int32), iv (((i0.toUInt32 >>> ((1 : Int32) &&& 31).toUInt32).toInt32) &&& (3 : Int32)), iv ((i1 &&& (255 : Int32)).toUInt32.toUInt16.toUInt32.toInt32), iv ((i2 &&& (255 : Int32)).toUInt32.toUInt16.toUInt32.toInt32), rv b30, .unset, .unset, .unset] [(.ref b129)])) _
      refine own_via (fun t k => XS.dup X128.here hx rfl (hb hby at_108) rfl rfl (XS.iconst X128.here hx rfl (hb hby at_109) k)) ?_
      obtain ⟨T139, h139, k139, X139, e139, E139, A139, st139⟩ := newP X128 hx hZ (wd hw 3 rfl) e128 (g := (mkF m 110 #[iv i0, iv i1, iv i2, iv i3, iv (0 : Int32), iv (((i0.toUInt32 >>> ((1 : Int32) &&& 31).toUInt32).toInt32) &&& (3 : Int32)), iv ((i1 &&& (255 : Int32)).toUInt32.toUInt16.toUInt32.toInt32), iv ((i2 &&& (255 : Int32)).toUInt32.toUInt16.toUInt32.toInt32), rv b30, .unset, .unset, .unset] [(.int (1 : Int32)), (.ref b129), (.ref b129)])) rfl (hb hby at_110) rfl (by decide) (cap := 1) (by decide) (by decide) (by decide) (by decide)
      obtain ⟨b140, q139⟩ : ∃ z, z = h128.size := ⟨_, rfl⟩
      rw [← q139] at A139 st139
      refine own_via (fun t k => st139 t k) ?_
      have C139 := C128.trans (CHr.ext E139 C128.1)
      have E142 : Exa Z h128 b30 zs2 := (ex125.ext E128)
      have N141 : b30 ≠ b140 := Nat.ne_of_lt (Nat.lt_of_lt_of_le E142.lt (Nat.le_of_eq q139.symm))
      have V144 : Arv Z h128 b36 k35 .char (0 : Int32) [] (.int (0 : Int32)) := (V132.ext E128)
      have N143 : b36 ≠ b140 := Nat.ne_of_lt (Nat.lt_of_lt_of_le V144.lt (Nat.le_of_eq q139.symm))
      have N145 : b129 ≠ b140 := Nat.ne_of_lt (Nat.lt_of_lt_of_le A128.lt (Nat.le_of_eq q139.symm))
      have O147 : Old Z n0 h128 := (O134.ext E128)
      have g146 : n0 ≤ b140 := Nat.le_trans (own_old O147) (Nat.le_of_eq q139.symm)
      have Z149 : h0.size ≤ h128.size := (Nat.le_trans Z136 E128.1)
      have B148 : h0.size ≤ b140 := Nat.le_trans Z149 (Nat.le_of_eq q139.symm)
      have V150 : Arv Z h139 b140 k139 .char (1 : Int32) [] (.int (0 : Int32)) := Arv.new A139 (by decide)
      show own_Goes p e below (T139.setTop (mkF m 112 #[iv i0, iv i1, iv i2, iv i3, iv (0 : Int32), iv (((i0.toUInt32 >>> ((1 : Int32) &&& 31).toUInt32).toInt32) &&& (3 : Int32)), iv ((i1 &&& (255 : Int32)).toUInt32.toUInt16.toUInt32.toInt32), iv ((i2 &&& (255 : Int32)).toUInt32.toUInt16.toUInt32.toInt32), rv b30, .unset, .unset, .unset] [(.ref b140), (.ref b129), (.ref b129)])) _
      refine own_via (fun t k => XS.dup X139.here hx rfl (hb hby at_112) rfl rfl (XS.iconst X139.here hx rfl (hb hby at_113) (XS.iloadN X139.here hx rfl (hb hby at_114) rfl (XS.sipush X139.here hx rfl (hb hby at_115) (XS.iand X139.here hx rfl (hb hby at_118) rfl (XS.i2c X139.here hx rfl (hb hby at_119) rfl k)))))) ?_
      show own_Goes p e below (T139.setTop (mkF m 120 #[iv i0, iv i1, iv i2, iv i3, iv (0 : Int32), iv (((i0.toUInt32 >>> ((1 : Int32) &&& 31).toUInt32).toInt32) &&& (3 : Int32)), iv ((i1 &&& (255 : Int32)).toUInt32.toUInt16.toUInt32.toInt32), iv ((i2 &&& (255 : Int32)).toUInt32.toUInt16.toUInt32.toInt32), rv b30, .unset, .unset, .unset] [(.int ((i3 &&& (255 : Int32)).toUInt32.toUInt16.toUInt32.toInt32)), (.int (0 : Int32)), (.ref b140), (.ref b140), (.ref b129), (.ref b129)])) _
      have V151 : Arv Z h139 b140 k139 .char (1 : Int32) [(.int (0 : Int32))] (.int (0 : Int32)) := V150.pad (pad_rep [] (.int (0 : Int32)) 1)
      obtain ⟨cl152, Ar152, qq152, S152, M152, H152, G152⟩ := id (V151)
      have hin152 : ¬ ((0 : Int32) < 0 ∨ cl152.slots.size ≤ ((0 : Int32)).toNatClampNeg) := inb_of S152 ⟨by decide, by decide⟩
      obtain ⟨T152, h152, X152, e152, W152, st152⟩ := stC X139 hx hZ e139 Ar152 (j := (0 : Int32)) hin152 (g := (mkF m 120 #[iv i0, iv i1, iv i2, iv i3, iv (0 : Int32), iv (((i0.toUInt32 >>> ((1 : Int32) &&& 31).toUInt32).toInt32) &&& (3 : Int32)), iv ((i1 &&& (255 : Int32)).toUInt32.toUInt16.toUInt32.toInt32), iv ((i2 &&& (255 : Int32)).toUInt32.toUInt16.toUInt32.toInt32), rv b30, .unset, .unset, .unset] [(.int ((i3 &&& (255 : Int32)).toUInt32.toUInt16.toUInt32.toInt32)), (.int (0 : Int32)), (.ref b140), (.ref b140), (.ref b129), (.ref b129)])) rfl rfl (hb hby at_120)
      refine own_via (fun t k => st152 t k) ?_
      have V153 : Arv Z h152 b140 k139 .char (1 : Int32) [(.int ((i3 &&& (255 : Int32)).toUInt32.toUInt16.toUInt32.toInt32))] (.int (0 : Int32)) := by
        have qv := Arv.set Ar152 qq152 S152 M152 H152 G152 (fits_nar_char _) W152 0 rfl (Nat.le_of_ble_eq_true rfl)
        first | rw [show nar .char ((i3 &&& (255 : Int32)).toUInt32.toUInt16.toUInt32.toInt32) = ((i3 &&& (255 : Int32)).toUInt32.toUInt16.toUInt32.toInt32) from own_c2 _] at qv | rw [own_c2] at qv
        exact qv
      have Sf154 : Safe Z consts_1 _ h139 b140 := (own_safeA hZ.alike V150 (by simp))
      have C152 := C139.trans (CHr.wr W152 Sf154 C139.1)
      have N152 := Fr.snoc X152 N43 g146
      show own_Goes p e below (T152.setTop (mkF m 121 #[iv i0, iv i1, iv i2, iv i3, iv (0 : Int32), iv (((i0.toUInt32 >>> ((1 : Int32) &&& 31).toUInt32).toInt32) &&& (3 : Int32)), iv ((i1 &&& (255 : Int32)).toUInt32.toUInt16.toUInt32.toInt32), iv ((i2 &&& (255 : Int32)).toUInt32.toUInt16.toUInt32.toInt32), rv b30, .unset, .unset, .unset] [(.ref b140), (.ref b129), (.ref b129)])) _
      have l369 : own_Len Z h152 b140 .char (1 : Int32) := ⟨_, _, _, V153⟩
      have F370 : Fld Z h152 b129 zs2 "coder" "B" (.int (0 : Int32)) := ((F138.ext E139).other W152 (Or.inl N145))
      have E371 : Exa Z h152 b129 zs2 := ((A128.ext E139).wr W152)
      have F372 : Fld Z h152 b129 zs2 "value" "[B" .null := ((F137.ext E139).other W152 (Or.inl N145))
      have O373 : Old Z n0 h152 := ((O147.ext E139).wr W152 g146)
      have K374 : T43.heap.size ≤ h152.size := (Nat.le_trans (Nat.le_trans (Nat.le_trans hk127 E128.1) E139.1) (Nat.le_of_eq W152.size.symm))
      obtain ⟨_, T155, _, X155, hQ155, Cr155, hS, hZ, hown, st155⟩ := own_ciH X152 hx hZ hS K374 hown (wd hw 4 rfl) (wd hw 5 rfl) (wd hw 6 rfl) (wd hw 2 rfl) rfl (by decide) hEE.ew C152.1 (rm7 l Z a0 hw [] b129 b140 i19 k139 ((i3 &&& (255 : Int32)).toUInt32.toUInt16.toUInt32.toInt32) (0 : Int32) h152 n0 O373 l369 S_String_COMPACT_STRINGS SNZ_i19 V153 (own_ch1 i3) F370 E371 g133 F372) e152 (g := (mkF m 121 #[iv i0, iv i1, iv i2, iv i3, iv (0 : Int32), iv (((i0.toUInt32 >>> ((1 : Int32) &&& 31).toUInt32).toInt32) &&& (3 : Int32)), iv ((i1 &&& (255 : Int32)).toUInt32.toUInt16.toUInt32.toInt32), iv ((i2 &&& (255 : Int32)).toUInt32.toUInt16.toUInt32.toInt32), rv b30, .unset, .unset, .unset] [(.ref b140), (.ref b129), (.ref b129)])) rfl (by rw [hml]; rfl) (rest := [(.ref b129)]) (W := 1) (lenOf pd_2 rfl) rfl (by show 2 * 0 + _ ≤ _; exact Nat.le_of_eq rfl) (hb hby at_121) (by decide) (by decide) (by decide) (by decide)
      obtain ⟨h155, e155⟩ : ∃ z, T155.heap = z := ⟨_, rfl⟩
      rw [e155] at hQ155 Cr155
      obtain ⟨rfl, Nq155, K155, ex375⟩ := hQ155
      have N155 := Fr.app N152 Nq155
      have C376 := C152.trans Cr155
      have hk377 : T155.heap.size ≤ h155.size := Nat.le_of_eq (congrArg Array.size e155)
      refine own_via (fun t k => st155 t (XS.astore X155.here hx rfl (hb hby at_124) rfl rfl (l' := #[iv i0, iv i1, iv i2, iv i3, iv (0 : Int32), iv (((i0.toUInt32 >>> ((1 : Int32) &&& 31).toUInt32).toInt32) &&& (3 : Int32)), iv ((i1 &&& (255 : Int32)).toUInt32.toUInt16.toUInt32.toInt32), iv ((i2 &&& (255 : Int32)).toUInt32.toUInt16.toUInt32.toInt32), rv b30, rv b129, .unset, .unset]) rfl k)) ?_
      obtain ⟨T378, h378, X378, e378, E378, A378, D378, -, st378⟩ := newO X155 hx hZ hown (wd hw 33 rfl) (wd hw 34 rfl) (wd hw 35 rfl) e155 (g := (mkF m 126 #[iv i0, iv i1, iv i2, iv i3, iv (0 : Int32), iv (((i0.toUInt32 >>> ((1 : Int32) &&& 31).toUInt32).toInt32) &&& (3 : Int32)), iv ((i1 &&& (255 : Int32)).toUInt32.toUInt16.toUInt32.toInt32), iv ((i2 &&& (255 : Int32)).toUInt32.toUInt16.toUInt32.toInt32), rv b30, rv b129, .unset, .unset] [])) rfl (hb hby at_126) (by decide) (by decide)
      obtain ⟨b379, q378⟩ : ∃ z, z = h155.size := ⟨_, rfl⟩
      rw [← q378] at A378 D378 st378
      refine own_via (fun t k => st378 t k) ?_
      have C378 := C376.trans (CHr.ext E378 C376.1)
      have E381 : Exa Z h155 b30 zs2 := (((E142.ext E139).wr W152).keep K155)
      have N380 : b30 ≠ b379 := Nat.ne_of_lt (Nat.lt_of_lt_of_le E381.lt (Nat.le_of_eq q378.symm))
      have V383 : Arv Z h155 b36 k35 .char (0 : Int32) [] (.int (0 : Int32)) := (((V144.ext E139).other W152 N143).keep K155 (ninS N131 nin0))
      have N382 : b36 ≠ b379 := Nat.ne_of_lt (Nat.lt_of_lt_of_le V383.lt (Nat.le_of_eq q378.symm))
      have N384 : b129 ≠ b379 := Nat.ne_of_lt (Nat.lt_of_lt_of_le ex375.lt (Nat.le_of_eq q378.symm))
      have V386 : Arv Z h155 b140 k139 .char (1 : Int32) [(.int ((i3 &&& (255 : Int32)).toUInt32.toUInt16.toUInt32.toInt32))] (.int (0 : Int32)) := (V153.keep K155 (ninS (Ne.symm N145) nin0))
      have N385 : b140 ≠ b379 := Nat.ne_of_lt (Nat.lt_of_lt_of_le V386.lt (Nat.le_of_eq q378.symm))
      have O388 : Old Z n0 h155 := (O373.keep K155 (allS g133 all0))
      have g387 : n0 ≤ b379 := Nat.le_trans (own_old O388) (Nat.le_of_eq q378.symm)
      have Z390 : h0.size ≤ h155.size := (Nat.le_trans (Nat.le_trans (Nat.le_trans Z149 E139.1) (Nat.le_of_eq W152.size.symm)) K155.1)
      have B389 : h0.size ≤ b379 := Nat.le_trans Z390 (Nat.le_of_eq q378.symm)
      have F391 : Fld Z h378 b379 zs6 "modCount" "I" (.int (0 : Int32)) := D378 (Or.inl (wd hw 53 rfl)) (ty := .int) (by decide)
      have F392 : Fld Z h378 b379 zs5 "elementData" zs7 .null := D378 (Or.inl (wd hw 56 rfl)) (ty := (.array (.object zs13))) (by decide)
      show own_Goes p e below (T378.setTop (mkF m 129 #[iv i0, iv i1, iv i2, iv i3, iv (0 : Int32), iv (((i0.toUInt32 >>> ((1 : Int32) &&& 31).toUInt32).toInt32) &&& (3 : Int32)), iv ((i1 &&& (255 : Int32)).toUInt32.toUInt16.toUInt32.toInt32), iv ((i2 &&& (255 : Int32)).toUInt32.toUInt16.toUInt32.toInt32), rv b30, rv b129, .unset, .unset] [(.ref b379)])) _
      refine own_via (fun t k => XS.dup X378.here hx rfl (hb hby at_129) rfl rfl k) ?_
      have O513 : Old Z n0 h378 := (O388.ext E378)
      have K514 : T155.heap.size ≤ h378.size := (Nat.le_trans hk377 E378.1)
      obtain ⟨_, T393, _, X393, hQ393, Cr393, hS, hZ, hown, st393⟩ := own_ciH X378 hx hZ hS K514 hown (wd hw 36 rfl) (wd hw 37 rfl) (wd hw 38 rfl) (wd hw 35 rfl) rfl (by decide) hEE.ew C378.1 (rm10 l Z a0 hw [] b379 (0 : Int32) w24 h378 n0 O513 F391 A378 g387 F392 S_ArrayList_DEFAULTCAPACITY_EMPTY_ELEMENTDATA) e378 (g := (mkF m 130 #[iv i0, iv i1, iv i2, iv i3, iv (0 : Int32), iv (((i0.toUInt32 >>> ((1 : Int32) &&& 31).toUInt32).toInt32) &&& (3 : Int32)), iv ((i1 &&& (255 : Int32)).toUInt32.toUInt16.toUInt32.toInt32), iv ((i2 &&& (255 : Int32)).toUInt32.toUInt16.toUInt32.toInt32), rv b30, rv b129, .unset, .unset] [(.ref b379), (.ref b379)])) rfl (by rw [hml]; rfl) (rest := [(.ref b379)]) (W := 1) (lenOf pd_6 rfl) rfl (by show 2 * 0 + _ ≤ _; exact Nat.le_of_eq rfl) (hb hby at_130) (by decide) (by decide) (by decide) (by decide)
      obtain ⟨h393, e393⟩ : ∃ z, T393.heap = z := ⟨_, rfl⟩
      rw [e393] at hQ393 Cr393
      obtain ⟨rfl, Nq393, K393, ex515, fx516, fx517⟩ := hQ393
      have N393 := Fr.app N155 Nq393
      have C518 := C378.trans Cr393
      have hk519 : T393.heap.size ≤ h393.size := Nat.le_of_eq (congrArg Array.size e393)
      refine own_via (fun t k => st393 t (XS.astore X393.here hx rfl (hb hby at_133) rfl rfl (l' := #[iv i0, iv i1, iv i2, iv i3, iv (0 : Int32), iv (((i0.toUInt32 >>> ((1 : Int32) &&& 31).toUInt32).toInt32) &&& (3 : Int32)), iv ((i1 &&& (255 : Int32)).toUInt32.toUInt16.toUInt32.toInt32), iv ((i2 &&& (255 : Int32)).toUInt32.toUInt16.toUInt32.toInt32), rv b30, rv b129, rv b379, .unset]) rfl k)) ?_
      obtain ⟨T520, h520, X520, e520, E520, A520, D520, -, st520⟩ := newO X393 hx hZ hown (wd hw 57 rfl) (wd hw 58 rfl) (wd hw 59 rfl) e393 (g := (mkF m 135 #[iv i0, iv i1, iv i2, iv i3, iv (0 : Int32), iv (((i0.toUInt32 >>> ((1 : Int32) &&& 31).toUInt32).toInt32) &&& (3 : Int32)), iv ((i1 &&& (255 : Int32)).toUInt32.toUInt16.toUInt32.toInt32), iv ((i2 &&& (255 : Int32)).toUInt32.toUInt16.toUInt32.toInt32), rv b30, rv b129, rv b379, .unset] [])) rfl (hb hby at_135) (by decide) (by decide)
      obtain ⟨b521, q520⟩ : ∃ z, z = h393.size := ⟨_, rfl⟩
      rw [← q520] at A520 D520 st520
      refine own_via (fun t k => st520 t k) ?_
      have C520 := C518.trans (CHr.ext E520 C518.1)
      have E523 : Exa Z h393 b30 zs2 := ((E381.ext E378).keep K393)
      have N522 : b30 ≠ b521 := Nat.ne_of_lt (Nat.lt_of_lt_of_le E523.lt (Nat.le_of_eq q520.symm))
      have V525 : Arv Z h393 b36 k35 .char (0 : Int32) [] (.int (0 : Int32)) := ((V383.ext E378).keep K393 (ninS N382 nin0))
      have N524 : b36 ≠ b521 := Nat.ne_of_lt (Nat.lt_of_lt_of_le V525.lt (Nat.le_of_eq q520.symm))
      have E527 : Exa Z h393 b129 zs2 := ((ex375.ext E378).keep K393)
      have N526 : b129 ≠ b521 := Nat.ne_of_lt (Nat.lt_of_lt_of_le E527.lt (Nat.le_of_eq q520.symm))
      have V529 : Arv Z h393 b140 k139 .char (1 : Int32) [(.int ((i3 &&& (255 : Int32)).toUInt32.toUInt16.toUInt32.toInt32))] (.int (0 : Int32)) := ((V386.ext E378).keep K393 (ninS N385 nin0))
      have N528 : b140 ≠ b521 := Nat.ne_of_lt (Nat.lt_of_lt_of_le V529.lt (Nat.le_of_eq q520.symm))
      have N530 : b379 ≠ b521 := Nat.ne_of_lt (Nat.lt_of_lt_of_le ex515.lt (Nat.le_of_eq q520.symm))
      have O532 : Old Z n0 h393 := (O513.keep K393 (allS g387 all0))
      have g531 : n0 ≤ b521 := Nat.le_trans (own_old O532) (Nat.le_of_eq q520.symm)
      have Z534 : h0.size ≤ h393.size := (Nat.le_trans (Nat.le_trans Z390 E378.1) K393.1)
      have B533 : h0.size ≤ b521 := Nat.le_trans Z534 (Nat.le_of_eq q520.symm)
      have F535 : Fld Z h520 b521 zs1 "name" zs4 .null := D520 (Or.inr (wd hw 70 rfl)) (ty := (.object zs2)) (by decide)
      have F536 : Fld Z h520 b521 zs1 "value" zs4 .null := D520 (Or.inr (wd hw 72 rfl)) (ty := (.object zs2)) (by decide)
      have F537 : Fld Z h520 b521 zs1 "about" zs10 .null := D520 (Or.inr (wd hw 74 rfl)) (ty := (.object zs9)) (by decide)
      show own_Goes p e below (T520.setTop (mkF m 138 #[iv i0, iv i1, iv i2, iv i3, iv (0 : Int32), iv (((i0.toUInt32 >>> ((1 : Int32) &&& 31).toUInt32).toInt32) &&& (3 : Int32)), iv ((i1 &&& (255 : Int32)).toUInt32.toUInt16.toUInt32.toInt32), iv ((i2 &&& (255 : Int32)).toUInt32.toUInt16.toUInt32.toInt32), rv b30, rv b129, rv b379, .unset] [(.ref b521)])) _
      refine own_via (fun t k => XS.dup X520.here hx rfl (hb hby at_138) rfl rfl (XS.aload X520.here hx rfl (hb hby at_139) rfl rfl (XS.aload X520.here hx rfl (hb hby at_141) rfl rfl (XS.aload X520.here hx rfl (hb hby at_143) rfl rfl k)))) ?_
      show own_Goes p e below (T520.setTop (mkF m 145 #[iv i0, iv i1, iv i2, iv i3, iv (0 : Int32), iv (((i0.toUInt32 >>> ((1 : Int32) &&& 31).toUInt32).toInt32) &&& (3 : Int32)), iv ((i1 &&& (255 : Int32)).toUInt32.toUInt16.toUInt32.toInt32), iv ((i2 &&& (255 : Int32)).toUInt32.toUInt16.toUInt32.toInt32), rv b30, rv b129, rv b379, .unset] [(.ref b379), (.ref b30), (.ref b129), (.ref b521), (.ref b521)])) _
      have O624 : Old Z n0 h520 := (O532.ext E520)
      have K625 : T393.heap.size ≤ h520.size := (Nat.le_trans hk519 E520.1)
      obtain ⟨_, T538, _, X538, hQ538, Cr538, hS, hZ, hown, st538⟩ := own_ciH X520 hx hZ hS K625 hown (wd hw 60 rfl) (wd hw 61 rfl) (wd hw 62 rfl) (wd hw 59 rfl) rfl (by decide) hEE.ew C520.1 (rm12 l Z a0 hw [] b521 b129 b30 b379 h520 n0 O624 F535 A520 g531 F536 F537) e520 (g := (mkF m 145 #[iv i0, iv i1, iv i2, iv i3, iv (0 : Int32), iv (((i0.toUInt32 >>> ((1 : Int32) &&& 31).toUInt32).toInt32) &&& (3 : Int32)), iv ((i1 &&& (255 : Int32)).toUInt32.toUInt16.toUInt32.toInt32), iv ((i2 &&& (255 : Int32)).toUInt32.toUInt16.toUInt32.toInt32), rv b30, rv b129, rv b379, .unset] [(.ref b379), (.ref b30), (.ref b129), (.ref b521), (.ref b521)])) rfl (by rw [hml]; rfl) (rest := [(.ref b521)]) (W := 1) (lenOf pd_7 rfl) rfl (by show 2 * 0 + _ ≤ _; exact Nat.le_of_eq rfl) (hb hby at_145) (by decide) (by decide) (by decide) (by decide)
      obtain ⟨h538, e538⟩ : ∃ z, T538.heap = z := ⟨_, rfl⟩
      rw [e538] at hQ538 Cr538
      obtain ⟨rfl, Nq538, K538, ex626, fx627, fx628, fx629⟩ := hQ538
      have N538 := Fr.app N393 Nq538
      have C630 := C520.trans Cr538
      have hk631 : T538.heap.size ≤ h538.size := Nat.le_of_eq (congrArg Array.size e538)
      refine own_via (fun t k => st538 t (XS.astore X538.here hx rfl (hb hby at_148) rfl rfl (l' := #[iv i0, iv i1, iv i2, iv i3, iv (0 : Int32), iv (((i0.toUInt32 >>> ((1 : Int32) &&& 31).toUInt32).toInt32) &&& (3 : Int32)), iv ((i1 &&& (255 : Int32)).toUInt32.toUInt16.toUInt32.toInt32), iv ((i2 &&& (255 : Int32)).toUInt32.toUInt16.toUInt32.toInt32), rv b30, rv b129, rv b379, rv b521]) rfl (XS.aload X538.here hx rfl (hb hby at_150) rfl rfl k))) ?_
      show own_Goes p e below (T538.setTop (mkF m 152 #[iv i0, iv i1, iv i2, iv i3, iv (0 : Int32), iv (((i0.toUInt32 >>> ((1 : Int32) &&& 31).toUInt32).toInt32) &&& (3 : Int32)), iv ((i1 &&& (255 : Int32)).toUInt32.toUInt16.toUInt32.toInt32), iv ((i2 &&& (255 : Int32)).toUInt32.toUInt16.toUInt32.toInt32), rv b30, rv b129, rv b379, rv b521] [(.ref b521)])) _
      have O667 : Old Z n0 h538 := (O624.keep K538 (allS g531 all0))
      obtain ⟨_, T632, _, X632, hQ632, Cr632, hS, hZ, hown, st632⟩ := own_cvH X538 hx hZ hS hk631 hown (wd hw 75 rfl) (wd hw 76 rfl) (wd hw 78 rfl) (wd hw 77 rfl) (wd hw 79 rfl) (wd hw 59 rfl) (by decide) hEE.ew C630.1 (rm13 l Z a0 hw [] b521 b30 h538 n0 O667 fx628) e538 ex626 (g := (mkF m 152 #[iv i0, iv i1, iv i2, iv i3, iv (0 : Int32), iv (((i0.toUInt32 >>> ((1 : Int32) &&& 31).toUInt32).toInt32) &&& (3 : Int32)), iv ((i1 &&& (255 : Int32)).toUInt32.toUInt16.toUInt32.toInt32), iv ((i2 &&& (255 : Int32)).toUInt32.toUInt16.toUInt32.toInt32), rv b30, rv b129, rv b379, rv b521] [(.ref b521)])) rfl (by rw [hml]; rfl) (rest := []) (W := 0) (lenOf pd_8 rfl) rfl (by show 2 * 0 + _ ≤ _; exact Nat.le_of_eq rfl) (hb hby at_152) (by decide) (by decide) (by decide) (by decide)
      obtain ⟨rfl, Nq632, hh668⟩ := hQ632
      have N632 := Fr.app N538 Nq632
      rw [hh668] at Cr632
      have C669 := C630.trans Cr632
      have hk670 : T632.heap.size ≤ h538.size := Nat.le_of_eq (congrArg Array.size hh668)
      refine own_via (fun t k => st632 t (XS.iload X632.here hx rfl (hb hby at_155) rfl (XS.icmpNo X632.here hx rfl (hb hby at_157) rfl (teq (by decide : (0 : Int32) = (0 : Int32))).2 (XS.iconst X632.here hx rfl (hb hby at_160) (XS.goto X632.here hx rfl (pc0 := 161) (pc' := 165) rfl (hb hby at_161) (by decide) (by decide) k))))) ?_
      show own_Goes p e below (T632.setTop (mkF m 165 #[iv i0, iv i1, iv i2, iv i3, iv (0 : Int32), iv (((i0.toUInt32 >>> ((1 : Int32) &&& 31).toUInt32).toInt32) &&& (3 : Int32)), iv ((i1 &&& (255 : Int32)).toUInt32.toUInt16.toUInt32.toInt32), iv ((i2 &&& (255 : Int32)).toUInt32.toUInt16.toUInt32.toInt32), rv b30, rv b129, rv b379, rv b521] [(.int (1 : Int32))])) _
      obtain ⟨fs, hr, hrun, hended, hRW⟩ := X632.leaveW hS (by rw [hh668]; first | exact hk670 | exact Nat.le_refl _) (v := some (.int (1 : Int32))) (fun h => by rw [Bd.returns] at h; cases h)
      refine own_end (t := T632.setFrames fs) ?_ ⟨_, hrun, hended, _, _, rfl, ?_, own_rmono hRW (by decide) (by decide)⟩
      · exact retN X632 hx (t := .boolean) Bd.returns (by simp) (hb hby at_165) hr
      · exact ⟨rfl, N632⟩
    · refine own_via (fun t k => XS.ifYes X0.here hx rfl (pc0 := 49) (pc' := 67) rfl (hb hby at_49) rfl ((if0 _ _).trans (feq hc28).2) (by decide) (by decide) (XS.iload X0.here hx rfl (hb hby at_67) rfl (XS.iconst X0.here hx rfl (hb hby at_69) k))) ?_
      show own_Goes p e below (s₁.setTop (mkF m 70 #[iv i0, iv i1, iv i2, iv i3, iv (0 : Int32), iv (((i0.toUInt32 >>> ((1 : Int32) &&& 31).toUInt32).toInt32) &&& (3 : Int32)), iv ((i1 &&& (255 : Int32)).toUInt32.toUInt16.toUInt32.toInt32), iv ((i2 &&& (255 : Int32)).toUInt32.toUInt16.toUInt32.toInt32), .unset, .unset, .unset, .unset] [(.int (1 : Int32)), (.int (((i0.toUInt32 >>> ((1 : Int32) &&& 31).toUInt32).toInt32) &&& (3 : Int32)))])) _
      by_cases hc671 : (((i0.toUInt32 >>> ((1 : Int32) &&& 31).toUInt32).toInt32) &&& (3 : Int32)) = (1 : Int32)
      · refine own_via (fun t k => XS.icmpNo X0.here hx rfl (hb hby at_70) rfl (teq hc671).2 (XS.iload X0.here hx rfl (hb hby at_73) rfl k)) ?_
        obtain ⟨_, T672, _, X672, hQ672, Cr672, hS, hZ, hown, st672⟩ := own_csH X0 hx hZ hS hk0 hown (wd hw 80 rfl) (wd hw 81 rfl) (wd hw 82 rfl) (wd hw 2 rfl) (by decide) hEE.ew C0.1 (rm17 l Z a0 hw [] ((i1 &&& (255 : Int32)).toUInt32.toUInt16.toUInt32.toInt32) i19 h0 n0 O0 S_String_COMPACT_STRINGS SNZ_i19 (own_ch1 i1)) e0 (g := (mkF m 75 #[iv i0, iv i1, iv i2, iv i3, iv (0 : Int32), iv (((i0.toUInt32 >>> ((1 : Int32) &&& 31).toUInt32).toInt32) &&& (3 : Int32)), iv ((i1 &&& (255 : Int32)).toUInt32.toUInt16.toUInt32.toInt32), iv ((i2 &&& (255 : Int32)).toUInt32.toUInt16.toUInt32.toInt32), .unset, .unset, .unset, .unset] [(.int ((i1 &&& (255 : Int32)).toUInt32.toUInt16.toUInt32.toInt32))])) rfl (by rw [hml]; rfl) (rest := []) (W := 0) (lenOf pd_12 rfl) rfl (by show 2 * 0 + _ ≤ _; exact Nat.le_of_eq rfl) (hb hby at_75) (by decide) (by decide) (by decide) (by decide)
        obtain ⟨h672, e672⟩ : ∃ z, T672.heap = z := ⟨_, rfl⟩
        rw [e672] at hQ672 Cr672
        obtain ⟨b813, rfl, Nq672, K672, bx814, ex815⟩ := hQ672
        have N672 := Fr.app N0 Nq672
        have C816 := C0.trans Cr672
        have g817 : n0 ≤ b813 := Nat.le_trans (own_old O0) bx814
        have B818 : h0.size ≤ b813 := Nat.le_trans (Nat.le_refl _) bx814
        have hk819 : T672.heap.size ≤ h672.size := Nat.le_of_eq (congrArg Array.size e672)
        refine own_via (fun t k => st672 t (XS.astore X672.here hx rfl (hb hby at_78) rfl rfl (l' := #[iv i0, iv i1, iv i2, iv i3, iv (0 : Int32), iv (((i0.toUInt32 >>> ((1 : Int32) &&& 31).toUInt32).toInt32) &&& (3 : Int32)), iv ((i1 &&& (255 : Int32)).toUInt32.toUInt16.toUInt32.toInt32), iv ((i2 &&& (255 : Int32)).toUInt32.toUInt16.toUInt32.toInt32), rv b813, .unset, .unset, .unset]) rfl (XS.goto X672.here hx rfl (pc0 := 80) (pc' := 105) rfl (hb hby at_80) (by decide) (by decide) k))) ?_
        show own_Goes p e below (T672.setTop (mkF m 105 #[iv i0, iv i1, iv i2, iv i3, iv (0 : Int32), iv (((i0.toUInt32 >>> ((1 : Int32) &&& 31).toUInt32).toInt32) &&& (3 : Int32)), iv ((i1 &&& (255 : Int32)).toUInt32.toUInt16.toUInt32.toInt32), iv ((i2 &&& (255 : Int32)).toUInt32.toUInt16.toUInt32.toInt32), rv b813, .unset, .unset, .unset] [])) _
        obtain ⟨T820, h820, X820, e820, E820, A820, D820, -, st820⟩ := newO X672 hx hZ hown (wd hw 0 rfl) (wd hw 1 rfl) (wd hw 2 rfl) e672 (g := (mkF m 105 #[iv i0, iv i1, iv i2, iv i3, iv (0 : Int32), iv (((i0.toUInt32 >>> ((1 : Int32) &&& 31).toUInt32).toInt32) &&& (3 : Int32)), iv ((i1 &&& (255 : Int32)).toUInt32.toUInt16.toUInt32.toInt32), iv ((i2 &&& (255 : Int32)).toUInt32.toUInt16.toUInt32.toInt32), rv b813, .unset, .unset, .unset] [])) rfl (hb hby at_105) (by decide) (by decide)
        obtain ⟨b821, q820⟩ : ∃ z, z = h672.size := ⟨_, rfl⟩
        rw [← q820] at A820 D820 st820
        refine own_via (fun t k => st820 t k) ?_
        have C820 := C816.trans (CHr.ext E820 C816.1)
        have N822 : b813 ≠ b821 := Nat.ne_of_lt (Nat.lt_of_lt_of_le ex815.lt (Nat.le_of_eq q820.symm))
        have O824 : Old Z n0 h672 := (O0.keep K672 all0)
        have g823 : n0 ≤ b821 := Nat.le_trans (own_old O824) (Nat.le_of_eq q820.symm)
        have Z826 : h0.size ≤ h672.size := (Nat.le_trans (Nat.le_refl _) K672.1)
        have B825 : h0.size ≤ b821 := Nat.le_trans Z826 (Nat.le_of_eq q820.symm)
        have F827 : Fld Z h820 b821 zs2 "value" "[B" .null := D820 (Or.inr (wd hw 16 rfl)) (ty := (.array .byte)) (by decide)
        have F828 : Fld Z h820 b821 zs2 "coder" "B" (.int (0 : Int32)) := D820 (Or.inr (wd hw 17 rfl)) (ty := .byte) (by decide)
        show own_Goes p e below (T820.setTop (mkF m 108 #[iv i0, iv i1, iv i2, iv i3, iv (0 : Int32), iv (((i0.toUInt32 >>> ((1 : Int32) &&& 31).toUInt32).toInt32) &&& (3 : Int32)), iv ((i1 &&& (255 : Int32)).toUInt32.toUInt16.toUInt32.toInt32), iv ((i2 &&& (255 : Int32)).toUInt32.toUInt16.toUInt32.toInt32), rv b813, .unset, .unset, .unset] [(.ref b821)])) _
        refine own_via (fun t k => XS.dup X820.here hx rfl (hb hby at_108) rfl rfl (XS.iconst X820.here hx rfl (hb hby at_109) k)) ?_
        obtain ⟨T829, h829, k829, X829, e829, E829, A829, st829⟩ := newP X820 hx hZ (wd hw 3 rfl) e820 (g := (mkF m 110 #[iv i0, iv i1, iv i2, iv i3, iv (0 : Int32), iv (((i0.toUInt32 >>> ((1 : Int32) &&& 31).toUInt32).toInt32) &&& (3 : Int32)), iv ((i1 &&& (255 : Int32)).toUInt32.toUInt16.toUInt32.toInt32), iv ((i2 &&& (255 : Int32)).toUInt32.toUInt16.toUInt32.toInt32), rv b813, .unset, .unset, .unset] [(.int (1 : Int32)), (.ref b821), (.ref b821)])) rfl (hb hby at_110) rfl (by decide) (cap := 1) (by decide) (by decide) (by decide) (by decide)
        obtain ⟨b830, q829⟩ : ∃ z, z = h820.size := ⟨_, rfl⟩
        rw [← q829] at A829 st829
        refine own_via (fun t k => st829 t k) ?_
        have C829 := C820.trans (CHr.ext E829 C820.1)
        have E832 : Exa Z h820 b813 zs2 := (ex815.ext E820)
        have N831 : b813 ≠ b830 := Nat.ne_of_lt (Nat.lt_of_lt_of_le E832.lt (Nat.le_of_eq q829.symm))
        have N833 : b821 ≠ b830 := Nat.ne_of_lt (Nat.lt_of_lt_of_le A820.lt (Nat.le_of_eq q829.symm))
        have O835 : Old Z n0 h820 := (O824.ext E820)
        have g834 : n0 ≤ b830 := Nat.le_trans (own_old O835) (Nat.le_of_eq q829.symm)
        have Z837 : h0.size ≤ h820.size := (Nat.le_trans Z826 E820.1)
        have B836 : h0.size ≤ b830 := Nat.le_trans Z837 (Nat.le_of_eq q829.symm)
        have V838 : Arv Z h829 b830 k829 .char (1 : Int32) [] (.int (0 : Int32)) := Arv.new A829 (by decide)
        show own_Goes p e below (T829.setTop (mkF m 112 #[iv i0, iv i1, iv i2, iv i3, iv (0 : Int32), iv (((i0.toUInt32 >>> ((1 : Int32) &&& 31).toUInt32).toInt32) &&& (3 : Int32)), iv ((i1 &&& (255 : Int32)).toUInt32.toUInt16.toUInt32.toInt32), iv ((i2 &&& (255 : Int32)).toUInt32.toUInt16.toUInt32.toInt32), rv b813, .unset, .unset, .unset] [(.ref b830), (.ref b821), (.ref b821)])) _
        refine own_via (fun t k => XS.dup X829.here hx rfl (hb hby at_112) rfl rfl (XS.iconst X829.here hx rfl (hb hby at_113) (XS.iloadN X829.here hx rfl (hb hby at_114) rfl (XS.sipush X829.here hx rfl (hb hby at_115) (XS.iand X829.here hx rfl (hb hby at_118) rfl (XS.i2c X829.here hx rfl (hb hby at_119) rfl k)))))) ?_
        show own_Goes p e below (T829.setTop (mkF m 120 #[iv i0, iv i1, iv i2, iv i3, iv (0 : Int32), iv (((i0.toUInt32 >>> ((1 : Int32) &&& 31).toUInt32).toInt32) &&& (3 : Int32)), iv ((i1 &&& (255 : Int32)).toUInt32.toUInt16.toUInt32.toInt32), iv ((i2 &&& (255 : Int32)).toUInt32.toUInt16.toUInt32.toInt32), rv b813, .unset, .unset, .unset] [(.int ((i3 &&& (255 : Int32)).toUInt32.toUInt16.toUInt32.toInt32)), (.int (0 : Int32)), (.ref b830), (.ref b830), (.ref b821), (.ref b821)])) _
        have V839 : Arv Z h829 b830 k829 .char (1 : Int32) [(.int (0 : Int32))] (.int (0 : Int32)) := V838.pad (pad_rep [] (.int (0 : Int32)) 1)
        obtain ⟨cl840, Ar840, qq840, S840, M840, H840, G840⟩ := id (V839)
        have hin840 : ¬ ((0 : Int32) < 0 ∨ cl840.slots.size ≤ ((0 : Int32)).toNatClampNeg) := inb_of S840 ⟨by decide, by decide⟩
        obtain ⟨T840, h840, X840, e840, W840, st840⟩ := stC X829 hx hZ e829 Ar840 (j := (0 : Int32)) hin840 (g := (mkF m 120 #[iv i0, iv i1, iv i2, iv i3, iv (0 : Int32), iv (((i0.toUInt32 >>> ((1 : Int32) &&& 31).toUInt32).toInt32) &&& (3 : Int32)), iv ((i1 &&& (255 : Int32)).toUInt32.toUInt16.toUInt32.toInt32), iv ((i2 &&& (255 : Int32)).toUInt32.toUInt16.toUInt32.toInt32), rv b813, .unset, .unset, .unset] [(.int ((i3 &&& (255 : Int32)).toUInt32.toUInt16.toUInt32.toInt32)), (.int (0 : Int32)), (.ref b830), (.ref b830), (.ref b821), (.ref b821)])) rfl rfl (hb hby at_120)
        refine own_via (fun t k => st840 t k) ?_
        have V841 : Arv Z h840 b830 k829 .char (1 : Int32) [(.int ((i3 &&& (255 : Int32)).toUInt32.toUInt16.toUInt32.toInt32))] (.int (0 : Int32)) := by
          have qv := Arv.set Ar840 qq840 S840 M840 H840 G840 (fits_nar_char _) W840 0 rfl (Nat.le_of_ble_eq_true rfl)
          first | rw [show nar .char ((i3 &&& (255 : Int32)).toUInt32.toUInt16.toUInt32.toInt32) = ((i3 &&& (255 : Int32)).toUInt32.toUInt16.toUInt32.toInt32) from own_c2 _] at qv | rw [own_c2] at qv
          exact qv
        have Sf842 : Safe Z consts_1 _ h829 b830 := (own_safeA hZ.alike V838 (by simp))
        have C840 := C829.trans (CHr.wr W840 Sf842 C829.1)
        have N840 := Fr.snoc X840 N672 g834
        show own_Goes p e below (T840.setTop (mkF m 121 #[iv i0, iv i1, iv i2, iv i3, iv (0 : Int32), iv (((i0.toUInt32 >>> ((1 : Int32) &&& 31).toUInt32).toInt32) &&& (3 : Int32)), iv ((i1 &&& (255 : Int32)).toUInt32.toUInt16.toUInt32.toInt32), iv ((i2 &&& (255 : Int32)).toUInt32.toUInt16.toUInt32.toInt32), rv b813, .unset, .unset, .unset] [(.ref b830), (.ref b821), (.ref b821)])) _
        have l844 : own_Len Z h840 b830 .char (1 : Int32) := ⟨_, _, _, V841⟩
        have F845 : Fld Z h840 b821 zs2 "coder" "B" (.int (0 : Int32)) := ((F828.ext E829).other W840 (Or.inl N833))
        have E846 : Exa Z h840 b821 zs2 := ((A820.ext E829).wr W840)
        have F847 : Fld Z h840 b821 zs2 "value" "[B" .null := ((F827.ext E829).other W840 (Or.inl N833))
        have O848 : Old Z n0 h840 := ((O835.ext E829).wr W840 g834)
        have K849 : T672.heap.size ≤ h840.size := (Nat.le_trans (Nat.le_trans (Nat.le_trans hk819 E820.1) E829.1) (Nat.le_of_eq W840.size.symm))
        obtain ⟨_, T843, _, X843, hQ843, Cr843, hS, hZ, hown, st843⟩ := own_ciH X840 hx hZ hS K849 hown (wd hw 4 rfl) (wd hw 5 rfl) (wd hw 6 rfl) (wd hw 2 rfl) rfl (by decide) hEE.ew C840.1 (rm7 l Z a0 hw [] b821 b830 i19 k829 ((i3 &&& (255 : Int32)).toUInt32.toUInt16.toUInt32.toInt32) (0 : Int32) h840 n0 O848 l844 S_String_COMPACT_STRINGS SNZ_i19 V841 (own_ch1 i3) F845 E846 g823 F847) e840 (g := (mkF m 121 #[iv i0, iv i1, iv i2, iv i3, iv (0 : Int32), iv (((i0.toUInt32 >>> ((1 : Int32) &&& 31).toUInt32).toInt32) &&& (3 : Int32)), iv ((i1 &&& (255 : Int32)).toUInt32.toUInt16.toUInt32.toInt32), iv ((i2 &&& (255 : Int32)).toUInt32.toUInt16.toUInt32.toInt32), rv b813, .unset, .unset, .unset] [(.ref b830), (.ref b821), (.ref b821)])) rfl (by rw [hml]; rfl) (rest := [(.ref b821)]) (W := 1) (lenOf pd_2 rfl) rfl (by show 2 * 0 + _ ≤ _; exact Nat.le_of_eq rfl) (hb hby at_121) (by decide) (by decide) (by decide) (by decide)
        obtain ⟨h843, e843⟩ : ∃ z, T843.heap = z := ⟨_, rfl⟩
        rw [e843] at hQ843 Cr843
        obtain ⟨rfl, Nq843, K843, ex850⟩ := hQ843
        have N843 := Fr.app N840 Nq843
        have C851 := C840.trans Cr843
        have hk852 : T843.heap.size ≤ h843.size := Nat.le_of_eq (congrArg Array.size e843)
        refine own_via (fun t k => st843 t (XS.astore X843.here hx rfl (hb hby at_124) rfl rfl (l' := #[iv i0, iv i1, iv i2, iv i3, iv (0 : Int32), iv (((i0.toUInt32 >>> ((1 : Int32) &&& 31).toUInt32).toInt32) &&& (3 : Int32)), iv ((i1 &&& (255 : Int32)).toUInt32.toUInt16.toUInt32.toInt32), iv ((i2 &&& (255 : Int32)).toUInt32.toUInt16.toUInt32.toInt32), rv b813, rv b821, .unset, .unset]) rfl k)) ?_
        obtain ⟨T853, h853, X853, e853, E853, A853, D853, -, st853⟩ := newO X843 hx hZ hown (wd hw 33 rfl) (wd hw 34 rfl) (wd hw 35 rfl) e843 (g := (mkF m 126 #[iv i0, iv i1, iv i2, iv i3, iv (0 : Int32), iv (((i0.toUInt32 >>> ((1 : Int32) &&& 31).toUInt32).toInt32) &&& (3 : Int32)), iv ((i1 &&& (255 : Int32)).toUInt32.toUInt16.toUInt32.toInt32), iv ((i2 &&& (255 : Int32)).toUInt32.toUInt16.toUInt32.toInt32), rv b813, rv b821, .unset, .unset] [])) rfl (hb hby at_126) (by decide) (by decide)
        obtain ⟨b854, q853⟩ : ∃ z, z = h843.size := ⟨_, rfl⟩
        rw [← q853] at A853 D853 st853
        refine own_via (fun t k => st853 t k) ?_
        have C853 := C851.trans (CHr.ext E853 C851.1)
        have E856 : Exa Z h843 b813 zs2 := (((E832.ext E829).wr W840).keep K843)
        have N855 : b813 ≠ b854 := Nat.ne_of_lt (Nat.lt_of_lt_of_le E856.lt (Nat.le_of_eq q853.symm))
        have N857 : b821 ≠ b854 := Nat.ne_of_lt (Nat.lt_of_lt_of_le ex850.lt (Nat.le_of_eq q853.symm))
        have V859 : Arv Z h843 b830 k829 .char (1 : Int32) [(.int ((i3 &&& (255 : Int32)).toUInt32.toUInt16.toUInt32.toInt32))] (.int (0 : Int32)) := (V841.keep K843 (ninS (Ne.symm N833) nin0))
        have N858 : b830 ≠ b854 := Nat.ne_of_lt (Nat.lt_of_lt_of_le V859.lt (Nat.le_of_eq q853.symm))
        have O861 : Old Z n0 h843 := (O848.keep K843 (allS g823 all0))
        have g860 : n0 ≤ b854 := Nat.le_trans (own_old O861) (Nat.le_of_eq q853.symm)
        have Z863 : h0.size ≤ h843.size := (Nat.le_trans (Nat.le_trans (Nat.le_trans Z837 E829.1) (Nat.le_of_eq W840.size.symm)) K843.1)
        have B862 : h0.size ≤ b854 := Nat.le_trans Z863 (Nat.le_of_eq q853.symm)
        have F864 : Fld Z h853 b854 zs6 "modCount" "I" (.int (0 : Int32)) := D853 (Or.inl (wd hw 53 rfl)) (ty := .int) (by decide)
        have F865 : Fld Z h853 b854 zs5 "elementData" zs7 .null := D853 (Or.inl (wd hw 56 rfl)) (ty := (.array (.object zs13))) (by decide)
        show own_Goes p e below (T853.setTop (mkF m 129 #[iv i0, iv i1, iv i2, iv i3, iv (0 : Int32), iv (((i0.toUInt32 >>> ((1 : Int32) &&& 31).toUInt32).toInt32) &&& (3 : Int32)), iv ((i1 &&& (255 : Int32)).toUInt32.toUInt16.toUInt32.toInt32), iv ((i2 &&& (255 : Int32)).toUInt32.toUInt16.toUInt32.toInt32), rv b813, rv b821, .unset, .unset] [(.ref b854)])) _
        refine own_via (fun t k => XS.dup X853.here hx rfl (hb hby at_129) rfl rfl k) ?_
        have O867 : Old Z n0 h853 := (O861.ext E853)
        have K868 : T843.heap.size ≤ h853.size := (Nat.le_trans hk852 E853.1)
        obtain ⟨_, T866, _, X866, hQ866, Cr866, hS, hZ, hown, st866⟩ := own_ciH X853 hx hZ hS K868 hown (wd hw 36 rfl) (wd hw 37 rfl) (wd hw 38 rfl) (wd hw 35 rfl) rfl (by decide) hEE.ew C853.1 (rm10 l Z a0 hw [] b854 (0 : Int32) w24 h853 n0 O867 F864 A853 g860 F865 S_ArrayList_DEFAULTCAPACITY_EMPTY_ELEMENTDATA) e853 (g := (mkF m 130 #[iv i0, iv i1, iv i2, iv i3, iv (0 : Int32), iv (((i0.toUInt32 >>> ((1 : Int32) &&& 31).toUInt32).toInt32) &&& (3 : Int32)), iv ((i1 &&& (255 : Int32)).toUInt32.toUInt16.toUInt32.toInt32), iv ((i2 &&& (255 : Int32)).toUInt32.toUInt16.toUInt32.toInt32), rv b813, rv b821, .unset, .unset] [(.ref b854), (.ref b854)])) rfl (by rw [hml]; rfl) (rest := [(.ref b854)]) (W := 1) (lenOf pd_6 rfl) rfl (by show 2 * 0 + _ ≤ _; exact Nat.le_of_eq rfl) (hb hby at_130) (by decide) (by decide) (by decide) (by decide)
        obtain ⟨h866, e866⟩ : ∃ z, T866.heap = z := ⟨_, rfl⟩
        rw [e866] at hQ866 Cr866
        obtain ⟨rfl, Nq866, K866, ex869, fx870, fx871⟩ := hQ866
        have N866 := Fr.app N843 Nq866
        have C872 := C853.trans Cr866
        have hk873 : T866.heap.size ≤ h866.size := Nat.le_of_eq (congrArg Array.size e866)
        refine own_via (fun t k => st866 t (XS.astore X866.here hx rfl (hb hby at_133) rfl rfl (l' := #[iv i0, iv i1, iv i2, iv i3, iv (0 : Int32), iv (((i0.toUInt32 >>> ((1 : Int32) &&& 31).toUInt32).toInt32) &&& (3 : Int32)), iv ((i1 &&& (255 : Int32)).toUInt32.toUInt16.toUInt32.toInt32), iv ((i2 &&& (255 : Int32)).toUInt32.toUInt16.toUInt32.toInt32), rv b813, rv b821, rv b854, .unset]) rfl k)) ?_
        obtain ⟨T874, h874, X874, e874, E874, A874, D874, -, st874⟩ := newO X866 hx hZ hown (wd hw 57 rfl) (wd hw 58 rfl) (wd hw 59 rfl) e866 (g := (mkF m 135 #[iv i0, iv i1, iv i2, iv i3, iv (0 : Int32), iv (((i0.toUInt32 >>> ((1 : Int32) &&& 31).toUInt32).toInt32) &&& (3 : Int32)), iv ((i1 &&& (255 : Int32)).toUInt32.toUInt16.toUInt32.toInt32), iv ((i2 &&& (255 : Int32)).toUInt32.toUInt16.toUInt32.toInt32), rv b813, rv b821, rv b854, .unset] [])) rfl (hb hby at_135) (by decide) (by decide)
        obtain ⟨b875, q874⟩ : ∃ z, z = h866.size := ⟨_, rfl⟩
        rw [← q874] at A874 D874 st874
        refine own_via (fun t k => st874 t k) ?_
        have C874 := C872.trans (CHr.ext E874 C872.1)
        have E877 : Exa Z h866 b813 zs2 := ((E856.ext E853).keep K866)
        have N876 : b813 ≠ b875 := Nat.ne_of_lt (Nat.lt_of_lt_of_le E877.lt (Nat.le_of_eq q874.symm))
        have E879 : Exa Z h866 b821 zs2 := ((ex850.ext E853).keep K866)
        have N878 : b821 ≠ b875 := Nat.ne_of_lt (Nat.lt_of_lt_of_le E879.lt (Nat.le_of_eq q874.symm))
        have V881 : Arv Z h866 b830 k829 .char (1 : Int32) [(.int ((i3 &&& (255 : Int32)).toUInt32.toUInt16.toUInt32.toInt32))] (.int (0 : Int32)) := ((V859.ext E853).keep K866 (ninS N858 nin0))
        have N880 : b830 ≠ b875 := Nat.ne_of_lt (Nat.lt_of_lt_of_le V881.lt (Nat.le_of_eq q874.symm))
        have N882 : b854 ≠ b875 := Nat.ne_of_lt (Nat.lt_of_lt_of_le ex869.lt (Nat.le_of_eq q874.symm))
        have O884 : Old Z n0 h866 := (O867.keep K866 (allS g860 all0))
        have g883 : n0 ≤ b875 := Nat.le_trans (own_old O884) (Nat.le_of_eq q874.symm)
        have Z886 : h0.size ≤ h866.size := (Nat.le_trans (Nat.le_trans Z863 E853.1) K866.1)
        have B885 : h0.size ≤ b875 := Nat.le_trans Z886 (Nat.le_of_eq q874.symm)
        have F887 : Fld Z h874 b875 zs1 "name" zs4 .null := D874 (Or.inr (wd hw 70 rfl)) (ty := (.object zs2)) (by decide)
        have F888 : Fld Z h874 b875 zs1 "value" zs4 .null := D874 (Or.inr (wd hw 72 rfl)) (ty := (.object zs2)) (by decide)
        have F889 : Fld Z h874 b875 zs1 "about" zs10 .null := D874 (Or.inr (wd hw 74 rfl)) (ty := (.object zs9)) (by decide)
        show own_Goes p e below (T874.setTop (mkF m 138 #[iv i0, iv i1, iv i2, iv i3, iv (0 : Int32), iv (((i0.toUInt32 >>> ((1 : Int32) &&& 31).toUInt32).toInt32) &&& (3 : Int32)), iv ((i1 &&& (255 : Int32)).toUInt32.toUInt16.toUInt32.toInt32), iv ((i2 &&& (255 : Int32)).toUInt32.toUInt16.toUInt32.toInt32), rv b813, rv b821, rv b854, .unset] [(.ref b875)])) _
        refine own_via (fun t k => XS.dup X874.here hx rfl (hb hby at_138) rfl rfl (XS.aload X874.here hx rfl (hb hby at_139) rfl rfl (XS.aload X874.here hx rfl (hb hby at_141) rfl rfl (XS.aload X874.here hx rfl (hb hby at_143) rfl rfl k)))) ?_
        show own_Goes p e below (T874.setTop (mkF m 145 #[iv i0, iv i1, iv i2, iv i3, iv (0 : Int32), iv (((i0.toUInt32 >>> ((1 : Int32) &&& 31).toUInt32).toInt32) &&& (3 : Int32)), iv ((i1 &&& (255 : Int32)).toUInt32.toUInt16.toUInt32.toInt32), iv ((i2 &&& (255 : Int32)).toUInt32.toUInt16.toUInt32.toInt32), rv b813, rv b821, rv b854, .unset] [(.ref b854), (.ref b813), (.ref b821), (.ref b875), (.ref b875)])) _
        have O891 : Old Z n0 h874 := (O884.ext E874)
        have K892 : T866.heap.size ≤ h874.size := (Nat.le_trans hk873 E874.1)
        obtain ⟨_, T890, _, X890, hQ890, Cr890, hS, hZ, hown, st890⟩ := own_ciH X874 hx hZ hS K892 hown (wd hw 60 rfl) (wd hw 61 rfl) (wd hw 62 rfl) (wd hw 59 rfl) rfl (by decide) hEE.ew C874.1 (rm12 l Z a0 hw [] b875 b821 b813 b854 h874 n0 O891 F887 A874 g883 F888 F889) e874 (g := (mkF m 145 #[iv i0, iv i1, iv i2, iv i3, iv (0 : Int32), iv (((i0.toUInt32 >>> ((1 : Int32) &&& 31).toUInt32).toInt32) &&& (3 : Int32)), iv ((i1 &&& (255 : Int32)).toUInt32.toUInt16.toUInt32.toInt32), iv ((i2 &&& (255 : Int32)).toUInt32.toUInt16.toUInt32.toInt32), rv b813, rv b821, rv b854, .unset] [(.ref b854), (.ref b813), (.ref b821), (.ref b875), (.ref b875)])) rfl (by rw [hml]; rfl) (rest := [(.ref b875)]) (W := 1) (lenOf pd_7 rfl) rfl (by show 2 * 0 + _ ≤ _; exact Nat.le_of_eq rfl) (hb hby at_145) (by decide) (by decide) (by decide) (by decide)
        obtain ⟨h890, e890⟩ : ∃ z, T890.heap = z := ⟨_, rfl⟩
        rw [e890] at hQ890 Cr890
        obtain ⟨rfl, Nq890, K890, ex893, fx894, fx895, fx896⟩ := hQ890
        have N890 := Fr.app N866 Nq890
        have C897 := C874.trans Cr890
        have hk898 : T890.heap.size ≤ h890.size := Nat.le_of_eq (congrArg Array.size e890)
        refine own_via (fun t k => st890 t (XS.astore X890.here hx rfl (hb hby at_148) rfl rfl (l' := #[iv i0, iv i1, iv i2, iv i3, iv (0 : Int32), iv (((i0.toUInt32 >>> ((1 : Int32) &&& 31).toUInt32).toInt32) &&& (3 : Int32)), iv ((i1 &&& (255 : Int32)).toUInt32.toUInt16.toUInt32.toInt32), iv ((i2 &&& (255 : Int32)).toUInt32.toUInt16.toUInt32.toInt32), rv b813, rv b821, rv b854, rv b875]) rfl (XS.aload X890.here hx rfl (hb hby at_150) rfl rfl k))) ?_
        show own_Goes p e below (T890.setTop (mkF m 152 #[iv i0, iv i1, iv i2, iv i3, iv (0 : Int32), iv (((i0.toUInt32 >>> ((1 : Int32) &&& 31).toUInt32).toInt32) &&& (3 : Int32)), iv ((i1 &&& (255 : Int32)).toUInt32.toUInt16.toUInt32.toInt32), iv ((i2 &&& (255 : Int32)).toUInt32.toUInt16.toUInt32.toInt32), rv b813, rv b821, rv b854, rv b875] [(.ref b875)])) _
        have O900 : Old Z n0 h890 := (O891.keep K890 (allS g883 all0))
        obtain ⟨_, T899, _, X899, hQ899, Cr899, hS, hZ, hown, st899⟩ := own_cvH X890 hx hZ hS hk898 hown (wd hw 75 rfl) (wd hw 76 rfl) (wd hw 78 rfl) (wd hw 77 rfl) (wd hw 79 rfl) (wd hw 59 rfl) (by decide) hEE.ew C897.1 (rm13 l Z a0 hw [] b875 b813 h890 n0 O900 fx895) e890 ex893 (g := (mkF m 152 #[iv i0, iv i1, iv i2, iv i3, iv (0 : Int32), iv (((i0.toUInt32 >>> ((1 : Int32) &&& 31).toUInt32).toInt32) &&& (3 : Int32)), iv ((i1 &&& (255 : Int32)).toUInt32.toUInt16.toUInt32.toInt32), iv ((i2 &&& (255 : Int32)).toUInt32.toUInt16.toUInt32.toInt32), rv b813, rv b821, rv b854, rv b875] [(.ref b875)])) rfl (by rw [hml]; rfl) (rest := []) (W := 0) (lenOf pd_8 rfl) rfl (by show 2 * 0 + _ ≤ _; exact Nat.le_of_eq rfl) (hb hby at_152) (by decide) (by decide) (by decide) (by decide)
        obtain ⟨rfl, Nq899, hh901⟩ := hQ899
        have N899 := Fr.app N890 Nq899
        rw [hh901] at Cr899
        have C902 := C897.trans Cr899
        have hk903 : T899.heap.size ≤ h890.size := Nat.le_of_eq (congrArg Array.size hh901)
        refine own_via (fun t k => st899 t (XS.iload X899.here hx rfl (hb hby at_155) rfl (XS.icmpNo X899.here hx rfl (hb hby at_157) rfl (teq (by decide : (0 : Int32) = (0 : Int32))).2 (XS.iconst X899.here hx rfl (hb hby at_160) (XS.goto X899.here hx rfl (pc0 := 161) (pc' := 165) rfl (hb hby at_161) (by decide) (by decide) k))))) ?_
        show own_Goes p e below (T899.setTop (mkF m 165 #[iv i0, iv i1, iv i2, iv i3, iv (0 : Int32), iv (((i0.toUInt32 >>> ((1 : Int32) &&& 31).toUInt32).toInt32) &&& (3 : Int32)), iv ((i1 &&& (255 : Int32)).toUInt32.toUInt16.toUInt32.toInt32), iv ((i2 &&& (255 : Int32)).toUInt32.toUInt16.toUInt32.toInt32), rv b813, rv b821, rv b854, rv b875] [(.int (1 : Int32))])) _
        obtain ⟨fs, hr, hrun, hended, hRW⟩ := X899.leaveW hS (by rw [hh901]; first | exact hk903 | exact Nat.le_refl _) (v := some (.int (1 : Int32))) (fun h => by rw [Bd.returns] at h; cases h)
        refine own_end (t := T899.setFrames fs) ?_ ⟨_, hrun, hended, _, _, rfl, ?_, own_rmono hRW (by decide) (by decide)⟩
        · exact retN X899 hx (t := .boolean) Bd.returns (by simp) (hb hby at_165) hr
        · exact ⟨rfl, N899⟩
      · refine own_via (fun t k => XS.icmpYes X0.here hx rfl (pc0 := 70) (pc' := 83) rfl (hb hby at_70) rfl (feq hc671).2 (by decide) (by decide) k) ?_
        obtain ⟨T904, h904, X904, e904, E904, A904, D904, -, st904⟩ := newO X0 hx hZ hown (wd hw 0 rfl) (wd hw 1 rfl) (wd hw 2 rfl) e0 (g := (mkF m 83 #[iv i0, iv i1, iv i2, iv i3, iv (0 : Int32), iv (((i0.toUInt32 >>> ((1 : Int32) &&& 31).toUInt32).toInt32) &&& (3 : Int32)), iv ((i1 &&& (255 : Int32)).toUInt32.toUInt16.toUInt32.toInt32), iv ((i2 &&& (255 : Int32)).toUInt32.toUInt16.toUInt32.toInt32), .unset, .unset, .unset, .unset] [])) rfl (hb hby at_83) (by decide) (by decide)
        obtain ⟨b905, q904⟩ : ∃ z, z = h0.size := ⟨_, rfl⟩
        rw [← q904] at A904 D904 st904
        refine own_via (fun t k => st904 t k) ?_
        have C904 := C0.trans (CHr.ext E904 C0.1)
        have g906 : n0 ≤ b905 := Nat.le_trans (own_old O0) (Nat.le_of_eq q904.symm)
        have B907 : h0.size ≤ b905 := Nat.le_trans (Nat.le_refl _) (Nat.le_of_eq q904.symm)
        have F908 : Fld Z h904 b905 zs2 "value" "[B" .null := D904 (Or.inr (wd hw 16 rfl)) (ty := (.array .byte)) (by decide)
        have F909 : Fld Z h904 b905 zs2 "coder" "B" (.int (0 : Int32)) := D904 (Or.inr (wd hw 17 rfl)) (ty := .byte) (by decide)
        show own_Goes p e below (T904.setTop (mkF m 86 #[iv i0, iv i1, iv i2, iv i3, iv (0 : Int32), iv (((i0.toUInt32 >>> ((1 : Int32) &&& 31).toUInt32).toInt32) &&& (3 : Int32)), iv ((i1 &&& (255 : Int32)).toUInt32.toUInt16.toUInt32.toInt32), iv ((i2 &&& (255 : Int32)).toUInt32.toUInt16.toUInt32.toInt32), .unset, .unset, .unset, .unset] [(.ref b905)])) _
        refine own_via (fun t k => XS.dup X904.here hx rfl (hb hby at_86) rfl rfl (XS.iconst X904.here hx rfl (hb hby at_87) k)) ?_
        obtain ⟨T910, h910, k910, X910, e910, E910, A910, st910⟩ := newP X904 hx hZ (wd hw 3 rfl) e904 (g := (mkF m 88 #[iv i0, iv i1, iv i2, iv i3, iv (0 : Int32), iv (((i0.toUInt32 >>> ((1 : Int32) &&& 31).toUInt32).toInt32) &&& (3 : Int32)), iv ((i1 &&& (255 : Int32)).toUInt32.toUInt16.toUInt32.toInt32), iv ((i2 &&& (255 : Int32)).toUInt32.toUInt16.toUInt32.toInt32), .unset, .unset, .unset, .unset] [(.int (2 : Int32)), (.ref b905), (.ref b905)])) rfl (hb hby at_88) rfl (by decide) (cap := 2) (by decide) (by decide) (by decide) (by decide)
        obtain ⟨b911, q910⟩ : ∃ z, z = h904.size := ⟨_, rfl⟩
        rw [← q910] at A910 st910
        refine own_via (fun t k => st910 t k) ?_
        have C910 := C904.trans (CHr.ext E910 C904.1)
        have N912 : b905 ≠ b911 := Nat.ne_of_lt (Nat.lt_of_lt_of_le A904.lt (Nat.le_of_eq q910.symm))
        have O914 : Old Z n0 h904 := (O0.ext E904)
        have g913 : n0 ≤ b911 := Nat.le_trans (own_old O914) (Nat.le_of_eq q910.symm)
        have Z916 : h0.size ≤ h904.size := (Nat.le_trans (Nat.le_refl _) E904.1)
        have B915 : h0.size ≤ b911 := Nat.le_trans Z916 (Nat.le_of_eq q910.symm)
        have V917 : Arv Z h910 b911 k910 .char (2 : Int32) [] (.int (0 : Int32)) := Arv.new A910 (by decide)
        show own_Goes p e below (T910.setTop (mkF m 90 #[iv i0, iv i1, iv i2, iv i3, iv (0 : Int32), iv (((i0.toUInt32 >>> ((1 : Int32) &&& 31).toUInt32).toInt32) &&& (3 : Int32)), iv ((i1 &&& (255 : Int32)).toUInt32.toUInt16.toUInt32.toInt32), iv ((i2 &&& (255 : Int32)).toUInt32.toUInt16.toUInt32.toInt32), .unset, .unset, .unset, .unset] [(.ref b911), (.ref b905), (.ref b905)])) _
        refine own_via (fun t k => XS.dup X910.here hx rfl (hb hby at_90) rfl rfl (XS.iconst X910.here hx rfl (hb hby at_91) (XS.iload X910.here hx rfl (hb hby at_92) rfl k))) ?_
        show own_Goes p e below (T910.setTop (mkF m 94 #[iv i0, iv i1, iv i2, iv i3, iv (0 : Int32), iv (((i0.toUInt32 >>> ((1 : Int32) &&& 31).toUInt32).toInt32) &&& (3 : Int32)), iv ((i1 &&& (255 : Int32)).toUInt32.toUInt16.toUInt32.toInt32), iv ((i2 &&& (255 : Int32)).toUInt32.toUInt16.toUInt32.toInt32), .unset, .unset, .unset, .unset] [(.int ((i1 &&& (255 : Int32)).toUInt32.toUInt16.toUInt32.toInt32)), (.int (0 : Int32)), (.ref b911), (.ref b911), (.ref b905), (.ref b905)])) _
        have V918 : Arv Z h910 b911 k910 .char (2 : Int32) [(.int (0 : Int32))] (.int (0 : Int32)) := V917.pad (pad_rep [] (.int (0 : Int32)) 1)
        obtain ⟨cl919, Ar919, qq919, S919, M919, H919, G919⟩ := id (V918)
        have hin919 : ¬ ((0 : Int32) < 0 ∨ cl919.slots.size ≤ ((0 : Int32)).toNatClampNeg) := inb_of S919 ⟨by decide, by decide⟩
        obtain ⟨T919, h919, X919, e919, W919, st919⟩ := stC X910 hx hZ e910 Ar919 (j := (0 : Int32)) hin919 (g := (mkF m 94 #[iv i0, iv i1, iv i2, iv i3, iv (0 : Int32), iv (((i0.toUInt32 >>> ((1 : Int32) &&& 31).toUInt32).toInt32) &&& (3 : Int32)), iv ((i1 &&& (255 : Int32)).toUInt32.toUInt16.toUInt32.toInt32), iv ((i2 &&& (255 : Int32)).toUInt32.toUInt16.toUInt32.toInt32), .unset, .unset, .unset, .unset] [(.int ((i1 &&& (255 : Int32)).toUInt32.toUInt16.toUInt32.toInt32)), (.int (0 : Int32)), (.ref b911), (.ref b911), (.ref b905), (.ref b905)])) rfl rfl (hb hby at_94)
        refine own_via (fun t k => st919 t k) ?_
        have V920 : Arv Z h919 b911 k910 .char (2 : Int32) [(.int ((i1 &&& (255 : Int32)).toUInt32.toUInt16.toUInt32.toInt32))] (.int (0 : Int32)) := by
          have qv := Arv.set Ar919 qq919 S919 M919 H919 G919 (fits_nar_char _) W919 0 rfl (Nat.le_of_ble_eq_true rfl)
          first | rw [show nar .char ((i1 &&& (255 : Int32)).toUInt32.toUInt16.toUInt32.toInt32) = ((i1 &&& (255 : Int32)).toUInt32.toUInt16.toUInt32.toInt32) from own_c2 _] at qv | rw [own_c2] at qv
          exact qv
        have Sf921 : Safe Z consts_1 _ h910 b911 := (own_safeA hZ.alike V917 (by simp))
        have C919 := C910.trans (CHr.wr W919 Sf921 C910.1)
        have N919 := Fr.snoc X919 N0 g913
        show own_Goes p e below (T919.setTop (mkF m 95 #[iv i0, iv i1, iv i2, iv i3, iv (0 : Int32), iv (((i0.toUInt32 >>> ((1 : Int32) &&& 31).toUInt32).toInt32) &&& (3 : Int32)), iv ((i1 &&& (255 : Int32)).toUInt32.toUInt16.toUInt32.toInt32), iv ((i2 &&& (255 : Int32)).toUInt32.toUInt16.toUInt32.toInt32), .unset, .unset, .unset, .unset] [(.ref b911), (.ref b905), (.ref b905)])) _
        refine own_via (fun t k => XS.dup X919.here hx rfl (hb hby at_95) rfl rfl (XS.iconst X919.here hx rfl (hb hby at_96) (XS.iload X919.here hx rfl (hb hby at_97) rfl k))) ?_
        show own_Goes p e below (T919.setTop (mkF m 99 #[iv i0, iv i1, iv i2, iv i3, iv (0 : Int32), iv (((i0.toUInt32 >>> ((1 : Int32) &&& 31).toUInt32).toInt32) &&& (3 : Int32)), iv ((i1 &&& (255 : Int32)).toUInt32.toUInt16.toUInt32.toInt32), iv ((i2 &&& (255 : Int32)).toUInt32.toUInt16.toUInt32.toInt32), .unset, .unset, .unset, .unset] [(.int ((i2 &&& (255 : Int32)).toUInt32.toUInt16.toUInt32.toInt32)), (.int (1 : Int32)), (.ref b911), (.ref b911), (.ref b905), (.ref b905)])) _
        have V922 : Arv Z h919 b911 k910 .char (2 : Int32) [(.int ((i1 &&& (255 : Int32)).toUInt32.toUInt16.toUInt32.toInt32)), (.int (0 : Int32))] (.int (0 : Int32)) := V920.pad (pad_rep [(.int ((i1 &&& (255 : Int32)).toUInt32.toUInt16.toUInt32.toInt32))] (.int (0 : Int32)) 1)
        obtain ⟨cl923, Ar923, qq923, S923, M923, H923, G923⟩ := id (V922)
        have hin923 : ¬ ((1 : Int32) < 0 ∨ cl923.slots.size ≤ ((1 : Int32)).toNatClampNeg) := inb_of S923 ⟨by decide, by decide⟩
        obtain ⟨T923, h923, X923, e923, W923, st923⟩ := stC X919 hx hZ e919 Ar923 (j := (1 : Int32)) hin923 (g := (mkF m 99 #[iv i0, iv i1, iv i2, iv i3, iv (0 : Int32), iv (((i0.toUInt32 >>> ((1 : Int32) &&& 31).toUInt32).toInt32) &&& (3 : Int32)), iv ((i1 &&& (255 : Int32)).toUInt32.toUInt16.toUInt32.toInt32), iv ((i2 &&& (255 : Int32)).toUInt32.toUInt16.toUInt32.toInt32), .unset, .unset, .unset, .unset] [(.int ((i2 &&& (255 : Int32)).toUInt32.toUInt16.toUInt32.toInt32)), (.int (1 : Int32)), (.ref b911), (.ref b911), (.ref b905), (.ref b905)])) rfl rfl (hb hby at_99)
        refine own_via (fun t k => st923 t k) ?_
        have V924 : Arv Z h923 b911 k910 .char (2 : Int32) [(.int ((i1 &&& (255 : Int32)).toUInt32.toUInt16.toUInt32.toInt32)), (.int ((i2 &&& (255 : Int32)).toUInt32.toUInt16.toUInt32.toInt32))] (.int (0 : Int32)) := by
          have qv := Arv.set Ar923 qq923 S923 M923 H923 G923 (fits_nar_char _) W923 1 rfl (Nat.le_of_ble_eq_true rfl)
          first | rw [show nar .char ((i2 &&& (255 : Int32)).toUInt32.toUInt16.toUInt32.toInt32) = ((i2 &&& (255 : Int32)).toUInt32.toUInt16.toUInt32.toInt32) from own_c2 _] at qv | rw [own_c2] at qv
          exact qv
        have Sf925 : Safe Z consts_1 _ h919 b911 := (own_safeA hZ.alike V920 (by simp))
        have C923 := C919.trans (CHr.wr W923 Sf925 C919.1)
        have N923 := Fr.snoc X923 N919 g913
        show own_Goes p e below (T923.setTop (mkF m 100 #[iv i0, iv i1, iv i2, iv i3, iv (0 : Int32), iv (((i0.toUInt32 >>> ((1 : Int32) &&& 31).toUInt32).toInt32) &&& (3 : Int32)), iv ((i1 &&& (255 : Int32)).toUInt32.toUInt16.toUInt32.toInt32), iv ((i2 &&& (255 : Int32)).toUInt32.toUInt16.toUInt32.toInt32), .unset, .unset, .unset, .unset] [(.ref b911), (.ref b905), (.ref b905)])) _
        have l1116 : own_Len Z h923 b911 .char (2 : Int32) := ⟨_, _, _, V924⟩
        have F1117 : Fld Z h923 b905 zs2 "coder" "B" (.int (0 : Int32)) := (((F909.ext E910).other W919 (Or.inl N912)).other W923 (Or.inl N912))
        have E1118 : Exa Z h923 b905 zs2 := (((A904.ext E910).wr W919).wr W923)
        have F1119 : Fld Z h923 b905 zs2 "value" "[B" .null := (((F908.ext E910).other W919 (Or.inl N912)).other W923 (Or.inl N912))
        have O1120 : Old Z n0 h923 := (((O914.ext E910).wr W919 g913).wr W923 g913)
        have K1121 : k0 ≤ h923.size := (Nat.le_trans (Nat.le_trans (Nat.le_trans (Nat.le_trans hk0 E904.1) E910.1) (Nat.le_of_eq W919.size.symm)) (Nat.le_of_eq W923.size.symm))
        obtain ⟨_, T926, _, X926, hQ926, Cr926, hS, hZ, hown, st926⟩ := own_ciH X923 hx hZ hS K1121 hown (wd hw 4 rfl) (wd hw 5 rfl) (wd hw 6 rfl) (wd hw 2 rfl) rfl (by decide) hEE.ew C923.1 (rm22 l Z a0 hw [] b905 b911 i19 k910 ((i1 &&& (255 : Int32)).toUInt32.toUInt16.toUInt32.toInt32) ((i2 &&& (255 : Int32)).toUInt32.toUInt16.toUInt32.toInt32) (0 : Int32) h923 n0 O1120 l1116 S_String_COMPACT_STRINGS SNZ_i19 V924 (own_ch1 i1) (own_ch1 i2) F1117 E1118 g906 F1119) e923 (g := (mkF m 100 #[iv i0, iv i1, iv i2, iv i3, iv (0 : Int32), iv (((i0.toUInt32 >>> ((1 : Int32) &&& 31).toUInt32).toInt32) &&& (3 : Int32)), iv ((i1 &&& (255 : Int32)).toUInt32.toUInt16.toUInt32.toInt32), iv ((i2 &&& (255 : Int32)).toUInt32.toUInt16.toUInt32.toInt32), .unset, .unset, .unset, .unset] [(.ref b911), (.ref b905), (.ref b905)])) rfl (by rw [hml]; rfl) (rest := [(.ref b905)]) (W := 1) (lenOf pd_2 rfl) rfl (by show 2 * 0 + _ ≤ _; exact Nat.le_of_eq rfl) (hb hby at_100) (by decide) (by decide) (by decide) (by decide)
        obtain ⟨h926, e926⟩ : ∃ z, T926.heap = z := ⟨_, rfl⟩
        rw [e926] at hQ926 Cr926
        obtain ⟨rfl, Nq926, K926, ex1122⟩ := hQ926
        have N926 := Fr.app N923 Nq926
        have C1123 := C923.trans Cr926
        have hk1124 : T926.heap.size ≤ h926.size := Nat.le_of_eq (congrArg Array.size e926)
        refine own_via (fun t k => st926 t (XS.astore X926.here hx rfl (hb hby at_103) rfl rfl (l' := #[iv i0, iv i1, iv i2, iv i3, iv (0 : Int32), iv (((i0.toUInt32 >>> ((1 : Int32) &&& 31).toUInt32).toInt32) &&& (3 : Int32)), iv ((i1 &&& (255 : Int32)).toUInt32.toUInt16.toUInt32.toInt32), iv ((i2 &&& (255 : Int32)).toUInt32.toUInt16.toUInt32.toInt32), rv b905, .unset, .unset, .unset]) rfl k)) ?_
        obtain ⟨T1125, h1125, X1125, e1125, E1125, A1125, D1125, -, st1125⟩ := newO X926 hx hZ hown (wd hw 0 rfl) (wd hw 1 rfl) (wd hw 2 rfl) e926 (g := (mkF m 105 #[iv i0, iv i1, iv i2, iv i3, iv (0 : Int32), iv (((i0.toUInt32 >>> ((1 : Int32) &&& 31).toUInt32).toInt32) &&& (3 : Int32)), iv ((i1 &&& (255 : Int32)).toUInt32.toUInt16.toUInt32.toInt32), iv ((i2 &&& (255 : Int32)).toUInt32.toUInt16.toUInt32.toInt32), rv b905, .unset, .unset, .unset] [])) rfl (hb hby at_105) (by decide) (by decide)
        obtain ⟨b1126, q1125⟩ : ∃ z, z = h926.size := ⟨_, rfl⟩
        rw [← q1125] at A1125 D1125 st1125
        refine own_via (fun t k => st1125 t k) ?_
        have C1125 := C1123.trans (CHr.ext E1125 C1123.1)
        have N1127 : b905 ≠ b1126 := Nat.ne_of_lt (Nat.lt_of_lt_of_le ex1122.lt (Nat.le_of_eq q1125.symm))
        have V1129 : Arv Z h926 b911 k910 .char (2 : Int32) [(.int ((i1 &&& (255 : Int32)).toUInt32.toUInt16.toUInt32.toInt32)), (.int ((i2 &&& (255 : Int32)).toUInt32.toUInt16.toUInt32.toInt32))] (.int (0 : Int32)) := (V924.keep K926 (ninS (Ne.symm N912) nin0))
        have N1128 : b911 ≠ b1126 := Nat.ne_of_lt (Nat.lt_of_lt_of_le V1129.lt (Nat.le_of_eq q1125.symm))
        have O1131 : Old Z n0 h926 := (O1120.keep K926 (allS g906 all0))
        have g1130 : n0 ≤ b1126 := Nat.le_trans (own_old O1131) (Nat.le_of_eq q1125.symm)
        have Z1133 : h0.size ≤ h926.size := (Nat.le_trans (Nat.le_trans (Nat.le_trans (Nat.le_trans Z916 E910.1) (Nat.le_of_eq W919.size.symm)) (Nat.le_of_eq W923.size.symm)) K926.1)
        have B1132 : h0.size ≤ b1126 := Nat.le_trans Z1133 (Nat.le_of_eq q1125.symm)
        have F1134 : Fld Z h1125 b1126 zs2 "value" "[B" .null := D1125 (Or.inr (wd hw 16 rfl)) (ty := (.array .byte)) (by decide)
        have F1135 : Fld Z h1125 b1126 zs2 "coder" "B" (.int (0 : Int32)) := D1125 (Or.inr (wd hw 17 rfl)) (ty := .byte) (by decide)
        show own_Goes p e below (T1125.setTop (mkF m 108 #[iv i0, iv i1, iv i2, iv i3, iv (0 : Int32), iv (((i0.toUInt32 >>> ((1 : Int32) &&& 31).toUInt32).toInt32) &&& (3 : Int32)), iv ((i1 &&& (255 : Int32)).toUInt32.toUInt16.toUInt32.toInt32), iv ((i2 &&& (255 : Int32)).toUInt32.toUInt16.toUInt32.toInt32), rv b905, .unset, .unset, .unset] [(.ref b1126)])) _
        refine own_via (fun t k => XS.dup X1125.here hx rfl (hb hby at_108) rfl rfl (XS.iconst X1125.here hx rfl (hb hby at_109) k)) ?_
        obtain ⟨T1136, h1136, k1136, X1136, e1136, E1136, A1136, st1136⟩ := newP X1125 hx hZ (wd hw 3 rfl) e1125 (g := (mkF m 110 #[iv i0, iv i1, iv i2, iv i3, iv (0 : Int32), iv (((i0.toUInt32 >>> ((1 : Int32) &&& 31).toUInt32).toInt32) &&& (3 : Int32)), iv ((i1 &&& (255 : Int32)).toUInt32.toUInt16.toUInt32.toInt32), iv ((i2 &&& (255 : Int32)).toUInt32.toUInt16.toUInt32.toInt32), rv b905, .unset, .unset, .unset] [(.int (1 : Int32)), (.ref b1126), (.ref b1126)])) rfl (hb hby at_110) rfl (by decide) (cap := 1) (by decide) (by decide) (by decide) (by decide)
        obtain ⟨b1137, q1136⟩ : ∃ z, z = h1125.size := ⟨_, rfl⟩
        rw [← q1136] at A1136 st1136
        refine own_via (fun t k => st1136 t k) ?_
        have C1136 := C1125.trans (CHr.ext E1136 C1125.1)
        have E1139 : Exa Z h1125 b905 zs2 := (ex1122.ext E1125)
        have N1138 : b905 ≠ b1137 := Nat.ne_of_lt (Nat.lt_of_lt_of_le E1139.lt (Nat.le_of_eq q1136.symm))
        have V1141 : Arv Z h1125 b911 k910 .char (2 : Int32) [(.int ((i1 &&& (255 : Int32)).toUInt32.toUInt16.toUInt32.toInt32)), (.int ((i2 &&& (255 : Int32)).toUInt32.toUInt16.toUInt32.toInt32))] (.int (0 : Int32)) := (V1129.ext E1125)
        have N1140 : b911 ≠ b1137 := Nat.ne_of_lt (Nat.lt_of_lt_of_le V1141.lt (Nat.le_of_eq q1136.symm))
        have N1142 : b1126 ≠ b1137 := Nat.ne_of_lt (Nat.lt_of_lt_of_le A1125.lt (Nat.le_of_eq q1136.symm))
        have O1144 : Old Z n0 h1125 := (O1131.ext E1125)
        have g1143 : n0 ≤ b1137 := Nat.le_trans (own_old O1144) (Nat.le_of_eq q1136.symm)
        have Z1146 : h0.size ≤ h1125.size := (Nat.le_trans Z1133 E1125.1)
        have B1145 : h0.size ≤ b1137 := Nat.le_trans Z1146 (Nat.le_of_eq q1136.symm)
        have V1147 : Arv Z h1136 b1137 k1136 .char (1 : Int32) [] (.int (0 : Int32)) := Arv.new A1136 (by decide)
        show own_Goes p e below (T1136.setTop (mkF m 112 #[iv i0, iv i1, iv i2, iv i3, iv (0 : Int32), iv (((i0.toUInt32 >>> ((1 : Int32) &&& 31).toUInt32).toInt32) &&& (3 : Int32)), iv ((i1 &&& (255 : Int32)).toUInt32.toUInt16.toUInt32.toInt32), iv ((i2 &&& (255 : Int32)).toUInt32.toUInt16.toUInt32.toInt32), rv b905, .unset, .unset, .unset] [(.ref b1137), (.ref b1126), (.ref b1126)])) _
        refine own_via (fun t k => XS.dup X1136.here hx rfl (hb hby at_112) rfl rfl (XS.iconst X1136.here hx rfl (hb hby at_113) (XS.iloadN X1136.here hx rfl (hb hby at_114) rfl (XS.sipush X1136.here hx rfl (hb hby at_115) (XS.iand X1136.here hx rfl (hb hby at_118) rfl (XS.i2c X1136.here hx rfl (hb hby at_119) rfl k)))))) ?_
        show own_Goes p e below (T1136.setTop (mkF m 120 #[iv i0, iv i1, iv i2, iv i3, iv (0 : Int32), iv (((i0.toUInt32 >>> ((1 : Int32) &&& 31).toUInt32).toInt32) &&& (3 : Int32)), iv ((i1 &&& (255 : Int32)).toUInt32.toUInt16.toUInt32.toInt32), iv ((i2 &&& (255 : Int32)).toUInt32.toUInt16.toUInt32.toInt32), rv b905, .unset, .unset, .unset] [(.int ((i3 &&& (255 : Int32)).toUInt32.toUInt16.toUInt32.toInt32)), (.int (0 : Int32)), (.ref b1137), (.ref b1137), (.ref b1126), (.ref b1126)])) _
        have V1148 : Arv Z h1136 b1137 k1136 .char (1 : Int32) [(.int (0 : Int32))] (.int (0 : Int32)) := V1147.pad (pad_rep [] (.int (0 : Int32)) 1)
        obtain ⟨cl1149, Ar1149, qq1149, S1149, M1149, H1149, G1149⟩ := id (V1148)
        have hin1149 : ¬ ((0 : Int32) < 0 ∨ cl1149.slots.size ≤ ((0 : Int32)).toNatClampNeg) := inb_of S1149 ⟨by decide, by decide⟩
        obtain ⟨T1149, h1149, X1149, e1149, W1149, st1149⟩ := stC X1136 hx hZ e1136 Ar1149 (j := (0 : Int32)) hin1149 (g := (mkF m 120 #[iv i0, iv i1, iv i2, iv i3, iv (0 : Int32), iv (((i0.toUInt32 >>> ((1 : Int32) &&& 31).toUInt32).toInt32) &&& (3 : Int32)), iv ((i1 &&& (255 : Int32)).toUInt32.toUInt16.toUInt32.toInt32), iv ((i2 &&& (255 : Int32)).toUInt32.toUInt16.toUInt32.toInt32), rv b905, .unset, .unset, .unset] [(.int ((i3 &&& (255 : Int32)).toUInt32.toUInt16.toUInt32.toInt32)), (.int (0 : Int32)), (.ref b1137), (.ref b1137), (.ref b1126), (.ref b1126)])) rfl rfl (hb hby at_120)
        refine own_via (fun t k => st1149 t k) ?_
        have V1150 : Arv Z h1149 b1137 k1136 .char (1 : Int32) [(.int ((i3 &&& (255 : Int32)).toUInt32.toUInt16.toUInt32.toInt32))] (.int (0 : Int32)) := by
          have qv := Arv.set Ar1149 qq1149 S1149 M1149 H1149 G1149 (fits_nar_char _) W1149 0 rfl (Nat.le_of_ble_eq_true rfl)
          first | rw [show nar .char ((i3 &&& (255 : Int32)).toUInt32.toUInt16.toUInt32.toInt32) = ((i3 &&& (255 : Int32)).toUInt32.toUInt16.toUInt32.toInt32) from own_c2 _] at qv | rw [own_c2] at qv
          exact qv
        have Sf1151 : Safe Z consts_1 _ h1136 b1137 := (own_safeA hZ.alike V1147 (by simp))
        have C1149 := C1136.trans (CHr.wr W1149 Sf1151 C1136.1)
        have N1149 := Fr.snoc X1149 N926 g1143
        show own_Goes p e below (T1149.setTop (mkF m 121 #[iv i0, iv i1, iv i2, iv i3, iv (0 : Int32), iv (((i0.toUInt32 >>> ((1 : Int32) &&& 31).toUInt32).toInt32) &&& (3 : Int32)), iv ((i1 &&& (255 : Int32)).toUInt32.toUInt16.toUInt32.toInt32), iv ((i2 &&& (255 : Int32)).toUInt32.toUInt16.toUInt32.toInt32), rv b905, .unset, .unset, .unset] [(.ref b1137), (.ref b1126), (.ref b1126)])) _
        have l1153 : own_Len Z h1149 b1137 .char (1 : Int32) := ⟨_, _, _, V1150⟩
        have F1154 : Fld Z h1149 b1126 zs2 "coder" "B" (.int (0 : Int32)) := ((F1135.ext E1136).other W1149 (Or.inl N1142))
        have E1155 : Exa Z h1149 b1126 zs2 := ((A1125.ext E1136).wr W1149)
        have F1156 : Fld Z h1149 b1126 zs2 "value" "[B" .null := ((F1134.ext E1136).other W1149 (Or.inl N1142))
        have O1157 : Old Z n0 h1149 := ((O1144.ext E1136).wr W1149 g1143)
        have K1158 : T926.heap.size ≤ h1149.size := (Nat.le_trans (Nat.le_trans (Nat.le_trans hk1124 E1125.1) E1136.1) (Nat.le_of_eq W1149.size.symm))
        obtain ⟨_, T1152, _, X1152, hQ1152, Cr1152, hS, hZ, hown, st1152⟩ := own_ciH X1149 hx hZ hS K1158 hown (wd hw 4 rfl) (wd hw 5 rfl) (wd hw 6 rfl) (wd hw 2 rfl) rfl (by decide) hEE.ew C1149.1 (rm7 l Z a0 hw [] b1126 b1137 i19 k1136 ((i3 &&& (255 : Int32)).toUInt32.toUInt16.toUInt32.toInt32) (0 : Int32) h1149 n0 O1157 l1153 S_String_COMPACT_STRINGS SNZ_i19 V1150 (own_ch1 i3) F1154 E1155 g1130 F1156) e1149 (g := (mkF m 121 #[iv i0, iv i1, iv i2, iv i3, iv (0 : Int32), iv (((i0.toUInt32 >>> ((1 : Int32) &&& 31).toUInt32).toInt32) &&& (3 : Int32)), iv ((i1 &&& (255 : Int32)).toUInt32.toUInt16.toUInt32.toInt32), iv ((i2 &&& (255 : Int32)).toUInt32.toUInt16.toUInt32.toInt32), rv b905, .unset, .unset, .unset] [(.ref b1137), (.ref b1126), (.ref b1126)])) rfl (by rw [hml]; rfl) (rest := [(.ref b1126)]) (W := 1) (lenOf pd_2 rfl) rfl (by show 2 * 0 + _ ≤ _; exact Nat.le_of_eq rfl) (hb hby at_121) (by decide) (by decide) (by decide) (by decide)
        obtain ⟨h1152, e1152⟩ : ∃ z, T1152.heap = z := ⟨_, rfl⟩
        rw [e1152] at hQ1152 Cr1152
        obtain ⟨rfl, Nq1152, K1152, ex1159⟩ := hQ1152
        have N1152 := Fr.app N1149 Nq1152
        have C1160 := C1149.trans Cr1152
        have hk1161 : T1152.heap.size ≤ h1152.size := Nat.le_of_eq (congrArg Array.size e1152)
        refine own_via (fun t k => st1152 t (XS.astore X1152.here hx rfl (hb hby at_124) rfl rfl (l' := #[iv i0, iv i1, iv i2, iv i3, iv (0 : Int32), iv (((i0.toUInt32 >>> ((1 : Int32) &&& 31).toUInt32).toInt32) &&& (3 : Int32)), iv ((i1 &&& (255 : Int32)).toUInt32.toUInt16.toUInt32.toInt32), iv ((i2 &&& (255 : Int32)).toUInt32.toUInt16.toUInt32.toInt32), rv b905, rv b1126, .unset, .unset]) rfl k)) ?_
        obtain ⟨T1162, h1162, X1162, e1162, E1162, A1162, D1162, -, st1162⟩ := newO X1152 hx hZ hown (wd hw 33 rfl) (wd hw 34 rfl) (wd hw 35 rfl) e1152 (g := (mkF m 126 #[iv i0, iv i1, iv i2, iv i3, iv (0 : Int32), iv (((i0.toUInt32 >>> ((1 : Int32) &&& 31).toUInt32).toInt32) &&& (3 : Int32)), iv ((i1 &&& (255 : Int32)).toUInt32.toUInt16.toUInt32.toInt32), iv ((i2 &&& (255 : Int32)).toUInt32.toUInt16.toUInt32.toInt32), rv b905, rv b1126, .unset, .unset] [])) rfl (hb hby at_126) (by decide) (by decide)
        obtain ⟨b1163, q1162⟩ : ∃ z, z = h1152.size := ⟨_, rfl⟩
        rw [← q1162] at A1162 D1162 st1162
        refine own_via (fun t k => st1162 t k) ?_
        have C1162 := C1160.trans (CHr.ext E1162 C1160.1)
        have E1165 : Exa Z h1152 b905 zs2 := (((E1139.ext E1136).wr W1149).keep K1152)
        have N1164 : b905 ≠ b1163 := Nat.ne_of_lt (Nat.lt_of_lt_of_le E1165.lt (Nat.le_of_eq q1162.symm))
        have V1167 : Arv Z h1152 b911 k910 .char (2 : Int32) [(.int ((i1 &&& (255 : Int32)).toUInt32.toUInt16.toUInt32.toInt32)), (.int ((i2 &&& (255 : Int32)).toUInt32.toUInt16.toUInt32.toInt32))] (.int (0 : Int32)) := (((V1141.ext E1136).other W1149 N1140).keep K1152 (ninS N1128 nin0))
        have N1166 : b911 ≠ b1163 := Nat.ne_of_lt (Nat.lt_of_lt_of_le V1167.lt (Nat.le_of_eq q1162.symm))
        have N1168 : b1126 ≠ b1163 := Nat.ne_of_lt (Nat.lt_of_lt_of_le ex1159.lt (Nat.le_of_eq q1162.symm))
        have V1170 : Arv Z h1152 b1137 k1136 .char (1 : Int32) [(.int ((i3 &&& (255 : Int32)).toUInt32.toUInt16.toUInt32.toInt32))] (.int (0 : Int32)) := (V1150.keep K1152 (ninS (Ne.symm N1142) nin0))
        have N1169 : b1137 ≠ b1163 := Nat.ne_of_lt (Nat.lt_of_lt_of_le V1170.lt (Nat.le_of_eq q1162.symm))
        have O1172 : Old Z n0 h1152 := (O1157.keep K1152 (allS g1130 all0))
        have g1171 : n0 ≤ b1163 := Nat.le_trans (own_old O1172) (Nat.le_of_eq q1162.symm)
        have Z1174 : h0.size ≤ h1152.size := (Nat.le_trans (Nat.le_trans (Nat.le_trans Z1146 E1136.1) (Nat.le_of_eq W1149.size.symm)) K1152.1)
        have B1173 : h0.size ≤ b1163 := Nat.le_trans Z1174 (Nat.le_of_eq q1162.symm)
        have F1175 : Fld Z h1162 b1163 zs6 "modCount" "I" (.int (0 : Int32)) := D1162 (Or.inl (wd hw 53 rfl)) (ty := .int) (by decide)
        have F1176 : Fld Z h1162 b1163 zs5 "elementData" zs7 .null := D1162 (Or.inl (wd hw 56 rfl)) (ty := (.array (.object zs13))) (by decide)
        show own_Goes p e below (T1162.setTop (mkF m 129 #[iv i0, iv i1, iv i2, iv i3, iv (0 : Int32), iv (((i0.toUInt32 >>> ((1 : Int32) &&& 31).toUInt32).toInt32) &&& (3 : Int32)), iv ((i1 &&& (255 : Int32)).toUInt32.toUInt16.toUInt32.toInt32), iv ((i2 &&& (255 : Int32)).toUInt32.toUInt16.toUInt32.toInt32), rv b905, rv b1126, .unset, .unset] [(.ref b1163)])) _
        refine own_via (fun t k => XS.dup X1162.here hx rfl (hb hby at_129) rfl rfl k) ?_
        have O1178 : Old Z n0 h1162 := (O1172.ext E1162)
        have K1179 : T1152.heap.size ≤ h1162.size := (Nat.le_trans hk1161 E1162.1)
        obtain ⟨_, T1177, _, X1177, hQ1177, Cr1177, hS, hZ, hown, st1177⟩ := own_ciH X1162 hx hZ hS K1179 hown (wd hw 36 rfl) (wd hw 37 rfl) (wd hw 38 rfl) (wd hw 35 rfl) rfl (by decide) hEE.ew C1162.1 (rm10 l Z a0 hw [] b1163 (0 : Int32) w24 h1162 n0 O1178 F1175 A1162 g1171 F1176 S_ArrayList_DEFAULTCAPACITY_EMPTY_ELEMENTDATA) e1162 (g := (mkF m 130 #[iv i0, iv i1, iv i2, iv i3, iv (0 : Int32), iv (((i0.toUInt32 >>> ((1 : Int32) &&& 31).toUInt32).toInt32) &&& (3 : Int32)), iv ((i1 &&& (255 : Int32)).toUInt32.toUInt16.toUInt32.toInt32), iv ((i2 &&& (255 : Int32)).toUInt32.toUInt16.toUInt32.toInt32), rv b905, rv b1126, .unset, .unset] [(.ref b1163), (.ref b1163)])) rfl (by rw [hml]; rfl) (rest := [(.ref b1163)]) (W := 1) (lenOf pd_6 rfl) rfl (by show 2 * 0 + _ ≤ _; exact Nat.le_of_eq rfl) (hb hby at_130) (by decide) (by decide) (by decide) (by decide)
        obtain ⟨h1177, e1177⟩ : ∃ z, T1177.heap = z := ⟨_, rfl⟩
        rw [e1177] at hQ1177 Cr1177
        obtain ⟨rfl, Nq1177, K1177, ex1180, fx1181, fx1182⟩ := hQ1177
        have N1177 := Fr.app N1152 Nq1177
        have C1183 := C1162.trans Cr1177
        have hk1184 : T1177.heap.size ≤ h1177.size := Nat.le_of_eq (congrArg Array.size e1177)
        refine own_via (fun t k => st1177 t (XS.astore X1177.here hx rfl (hb hby at_133) rfl rfl (l' := #[iv i0, iv i1, iv i2, iv i3, iv (0 : Int32), iv (((i0.toUInt32 >>> ((1 : Int32) &&& 31).toUInt32).toInt32) &&& (3 : Int32)), iv ((i1 &&& (255 : Int32)).toUInt32.toUInt16.toUInt32.toInt32), iv ((i2 &&& (255 : Int32)).toUInt32.toUInt16.toUInt32.toInt32), rv b905, rv b1126, rv b1163, .unset]) rfl k)) ?_
        obtain ⟨T1185, h1185, X1185, e1185, E1185, A1185, D1185, -, st1185⟩ := newO X1177 hx hZ hown (wd hw 57 rfl) (wd hw 58 rfl) (wd hw 59 rfl) e1177 (g := (mkF m 135 #[iv i0, iv i1, iv i2, iv i3, iv (0 : Int32), iv (((i0.toUInt32 >>> ((1 : Int32) &&& 31).toUInt32).toInt32) &&& (3 : Int32)), iv ((i1 &&& (255 : Int32)).toUInt32.toUInt16.toUInt32.toInt32), iv ((i2 &&& (255 : Int32)).toUInt32.toUInt16.toUInt32.toInt32), rv b905, rv b1126, rv b1163, .unset] [])) rfl (hb hby at_135) (by decide) (by decide)
        obtain ⟨b1186, q1185⟩ : ∃ z, z = h1177.size := ⟨_, rfl⟩
        rw [← q1185] at A1185 D1185 st1185
        refine own_via (fun t k => st1185 t k) ?_
        have C1185 := C1183.trans (CHr.ext E1185 C1183.1)
        have E1188 : Exa Z h1177 b905 zs2 := ((E1165.ext E1162).keep K1177)
        have N1187 : b905 ≠ b1186 := Nat.ne_of_lt (Nat.lt_of_lt_of_le E1188.lt (Nat.le_of_eq q1185.symm))
        have V1190 : Arv Z h1177 b911 k910 .char (2 : Int32) [(.int ((i1 &&& (255 : Int32)).toUInt32.toUInt16.toUInt32.toInt32)), (.int ((i2 &&& (255 : Int32)).toUInt32.toUInt16.toUInt32.toInt32))] (.int (0 : Int32)) := ((V1167.ext E1162).keep K1177 (ninS N1166 nin0))
        have N1189 : b911 ≠ b1186 := Nat.ne_of_lt (Nat.lt_of_lt_of_le V1190.lt (Nat.le_of_eq q1185.symm))
        have E1192 : Exa Z h1177 b1126 zs2 := ((ex1159.ext E1162).keep K1177)
        have N1191 : b1126 ≠ b1186 := Nat.ne_of_lt (Nat.lt_of_lt_of_le E1192.lt (Nat.le_of_eq q1185.symm))
        have V1194 : Arv Z h1177 b1137 k1136 .char (1 : Int32) [(.int ((i3 &&& (255 : Int32)).toUInt32.toUInt16.toUInt32.toInt32))] (.int (0 : Int32)) := ((V1170.ext E1162).keep K1177 (ninS N1169 nin0))
        have N1193 : b1137 ≠ b1186 := Nat.ne_of_lt (Nat.lt_of_lt_of_le V1194.lt (Nat.le_of_eq q1185.symm))
        have N1195 : b1163 ≠ b1186 := Nat.ne_of_lt (Nat.lt_of_lt_of_le ex1180.lt (Nat.le_of_eq q1185.symm))
        have O1197 : Old Z n0 h1177 := (O1178.keep K1177 (allS g1171 all0))
        have g1196 : n0 ≤ b1186 := Nat.le_trans (own_old O1197) (Nat.le_of_eq q1185.symm)
        have Z1199 : h0.size ≤ h1177.size := (Nat.le_trans (Nat.le_trans Z1174 E1162.1) K1177.1)
        have B1198 : h0.size ≤ b1186 := Nat.le_trans Z1199 (Nat.le_of_eq q1185.symm)
        have F1200 : Fld Z h1185 b1186 zs1 "name" zs4 .null := D1185 (Or.inr (wd hw 70 rfl)) (ty := (.object zs2)) (by decide)
        have F1201 : Fld Z h1185 b1186 zs1 "value" zs4 .null := D1185 (Or.inr (wd hw 72 rfl)) (ty := (.object zs2)) (by decide)
        have F1202 : Fld Z h1185 b1186 zs1 "about" zs10 .null := D1185 (Or.inr (wd hw 74 rfl)) (ty := (.object zs9)) (by decide)
        show own_Goes p e below (T1185.setTop (mkF m 138 #[iv i0, iv i1, iv i2, iv i3, iv (0 : Int32), iv (((i0.toUInt32 >>> ((1 : Int32) &&& 31).toUInt32).toInt32) &&& (3 : Int32)), iv ((i1 &&& (255 : Int32)).toUInt32.toUInt16.toUInt32.toInt32), iv ((i2 &&& (255 : Int32)).toUInt32.toUInt16.toUInt32.toInt32), rv b905, rv b1126, rv b1163, .unset] [(.ref b1186)])) _
        refine own_via (fun t k => XS.dup X1185.here hx rfl (hb hby at_138) rfl rfl (XS.aload X1185.here hx rfl (hb hby at_139) rfl rfl (XS.aload X1185.here hx rfl (hb hby at_141) rfl rfl (XS.aload X1185.here hx rfl (hb hby at_143) rfl rfl k)))) ?_
        show own_Goes p e below (T1185.setTop (mkF m 145 #[iv i0, iv i1, iv i2, iv i3, iv (0 : Int32), iv (((i0.toUInt32 >>> ((1 : Int32) &&& 31).toUInt32).toInt32) &&& (3 : Int32)), iv ((i1 &&& (255 : Int32)).toUInt32.toUInt16.toUInt32.toInt32), iv ((i2 &&& (255 : Int32)).toUInt32.toUInt16.toUInt32.toInt32), rv b905, rv b1126, rv b1163, .unset] [(.ref b1163), (.ref b905), (.ref b1126), (.ref b1186), (.ref b1186)])) _
        have O1204 : Old Z n0 h1185 := (O1197.ext E1185)
        have K1205 : T1177.heap.size ≤ h1185.size := (Nat.le_trans hk1184 E1185.1)
        obtain ⟨_, T1203, _, X1203, hQ1203, Cr1203, hS, hZ, hown, st1203⟩ := own_ciH X1185 hx hZ hS K1205 hown (wd hw 60 rfl) (wd hw 61 rfl) (wd hw 62 rfl) (wd hw 59 rfl) rfl (by decide) hEE.ew C1185.1 (rm12 l Z a0 hw [] b1186 b1126 b905 b1163 h1185 n0 O1204 F1200 A1185 g1196 F1201 F1202) e1185 (g := (mkF m 145 #[iv i0, iv i1, iv i2, iv i3, iv (0 : Int32), iv (((i0.toUInt32 >>> ((1 : Int32) &&& 31).toUInt32).toInt32) &&& (3 : Int32)), iv ((i1 &&& (255 : Int32)).toUInt32.toUInt16.toUInt32.toInt32), iv ((i2 &&& (255 : Int32)).toUInt32.toUInt16.toUInt32.toInt32), rv b905, rv b1126, rv b1163, .unset] [(.ref b1163), (.ref b905), (.ref b1126), (.ref b1186), (.ref b1186)])) rfl (by rw [hml]; rfl) (rest := [(.ref b1186)]) (W := 1) (lenOf pd_7 rfl) rfl (by show 2 * 0 + _ ≤ _; exact Nat.le_of_eq rfl) (hb hby at_145) (by decide) (by decide) (by decide) (by decide)
        obtain ⟨h1203, e1203⟩ : ∃ z, T1203.heap = z := ⟨_, rfl⟩
        rw [e1203] at hQ1203 Cr1203
        obtain ⟨rfl, Nq1203, K1203, ex1206, fx1207, fx1208, fx1209⟩ := hQ1203
        have N1203 := Fr.app N1177 Nq1203
        have C1210 := C1185.trans Cr1203
        have hk1211 : T1203.heap.size ≤ h1203.size := Nat.le_of_eq (congrArg Array.size e1203)
        refine own_via (fun t k => st1203 t (XS.astore X1203.here hx rfl (hb hby at_148) rfl rfl (l' := #[iv i0, iv i1, iv i2, iv i3, iv (0 : Int32), iv (((i0.toUInt32 >>> ((1 : Int32) &&& 31).toUInt32).toInt32) &&& (3 : Int32)), iv ((i1 &&& (255 : Int32)).toUInt32.toUInt16.toUInt32.toInt32), iv ((i2 &&& (255 : Int32)).toUInt32.toUInt16.toUInt32.toInt32), rv b905, rv b1126, rv b1163, rv b1186]) rfl (XS.aload X1203.here hx rfl (hb hby at_150) rfl rfl k))) ?_
        show own_Goes p e below (T1203.setTop (mkF m 152 #[iv i0, iv i1, iv i2, iv i3, iv (0 : Int32), iv (((i0.toUInt32 >>> ((1 : Int32) &&& 31).toUInt32).toInt32) &&& (3 : Int32)), iv ((i1 &&& (255 : Int32)).toUInt32.toUInt16.toUInt32.toInt32), iv ((i2 &&& (255 : Int32)).toUInt32.toUInt16.toUInt32.toInt32), rv b905, rv b1126, rv b1163, rv b1186] [(.ref b1186)])) _
        have O1213 : Old Z n0 h1203 := (O1204.keep K1203 (allS g1196 all0))
        obtain ⟨_, T1212, _, X1212, hQ1212, Cr1212, hS, hZ, hown, st1212⟩ := own_cvH X1203 hx hZ hS hk1211 hown (wd hw 75 rfl) (wd hw 76 rfl) (wd hw 78 rfl) (wd hw 77 rfl) (wd hw 79 rfl) (wd hw 59 rfl) (by decide) hEE.ew C1210.1 (rm13 l Z a0 hw [] b1186 b905 h1203 n0 O1213 fx1208) e1203 ex1206 (g := (mkF m 152 #[iv i0, iv i1, iv i2, iv i3, iv (0 : Int32), iv (((i0.toUInt32 >>> ((1 : Int32) &&& 31).toUInt32).toInt32) &&& (3 : Int32)), iv ((i1 &&& (255 : Int32)).toUInt32.toUInt16.toUInt32.toInt32), iv ((i2 &&& (255 : Int32)).toUInt32.toUInt16.toUInt32.toInt32), rv b905, rv b1126, rv b1163, rv b1186] [(.ref b1186)])) rfl (by rw [hml]; rfl) (rest := []) (W := 0) (lenOf pd_8 rfl) rfl (by show 2 * 0 + _ ≤ _; exact Nat.le_of_eq rfl) (hb hby at_152) (by decide) (by decide) (by decide) (by decide)
        obtain ⟨rfl, Nq1212, hh1214⟩ := hQ1212
        have N1212 := Fr.app N1203 Nq1212
        rw [hh1214] at Cr1212
        have C1215 := C1210.trans Cr1212
        have hk1216 : T1212.heap.size ≤ h1203.size := Nat.le_of_eq (congrArg Array.size hh1214)
        refine own_via (fun t k => st1212 t (XS.iload X1212.here hx rfl (hb hby at_155) rfl (XS.icmpNo X1212.here hx rfl (hb hby at_157) rfl (teq (by decide : (0 : Int32) = (0 : Int32))).2 (XS.iconst X1212.here hx rfl (hb hby at_160) (XS.goto X1212.here hx rfl (pc0 := 161) (pc' := 165) rfl (hb hby at_161) (by decide) (by decide) k))))) ?_
        show own_Goes p e below (T1212.setTop (mkF m 165 #[iv i0, iv i1, iv i2, iv i3, iv (0 : Int32), iv (((i0.toUInt32 >>> ((1 : Int32) &&& 31).toUInt32).toInt32) &&& (3 : Int32)), iv ((i1 &&& (255 : Int32)).toUInt32.toUInt16.toUInt32.toInt32), iv ((i2 &&& (255 : Int32)).toUInt32.toUInt16.toUInt32.toInt32), rv b905, rv b1126, rv b1163, rv b1186] [(.int (1 : Int32))])) _
        obtain ⟨fs, hr, hrun, hended, hRW⟩ := X1212.leaveW hS (by rw [hh1214]; first | exact hk1216 | exact Nat.le_refl _) (v := some (.int (1 : Int32))) (fun h => by rw [Bd.returns] at h; cases h)
        refine own_end (t := T1212.setFrames fs) ?_ ⟨_, hrun, hended, _, _, rfl, ?_, own_rmono hRW (by decide) (by decide)⟩
        · exact retN X1212 hx (t := .boolean) Bd.returns (by simp) (hb hby at_165) hr
        · exact ⟨rfl, N1212⟩
  · refine own_via (fun t k => XS.ifNo X0.here hx rfl (hb hby at_3) rfl ((if0 _ _).trans (feq hc27).1) (XS.iconst X0.here hx rfl (hb hby at_6) (XS.goto X0.here hx rfl (pc0 := 7) (pc' := 11) rfl (hb hby at_7) (by decide) (by decide) (XS.istore X0.here hx rfl (hb hby at_11) rfl (l' := #[iv i0, iv i1, iv i2, iv i3, iv (1 : Int32), .unset, .unset, .unset, .unset, .unset, .unset, .unset]) rfl (XS.iloadN X0.here hx rfl (hb hby at_13) rfl (XS.iconst X0.here hx rfl (hb hby at_14) (XS.iushr X0.here hx rfl (hb hby at_15) rfl (XS.iconst X0.here hx rfl (hb hby at_16) (XS.iand X0.here hx rfl (hb hby at_17) rfl (XS.istore X0.here hx rfl (hb hby at_18) rfl (l' := #[iv i0, iv i1, iv i2, iv i3, iv (1 : Int32), iv (((i0.toUInt32 >>> ((1 : Int32) &&& 31).toUInt32).toInt32) &&& (3 : Int32)), .unset, .unset, .unset, .unset, .unset, .unset]) rfl (XS.iloadN X0.here hx rfl (hb hby at_20) rfl (XS.sipush X0.here hx rfl (hb hby at_21) k)))))))))))) ?_
    show own_Goes p e below (s₁.setTop (mkF m 24 #[iv i0, iv i1, iv i2, iv i3, iv (1 : Int32), iv (((i0.toUInt32 >>> ((1 : Int32) &&& 31).toUInt32).toInt32) &&& (3 : Int32)), .unset, .unset, .unset, .unset, .unset, .unset] [(.int (255 : Int32)), (.int i1)])) _
    refine own_via (fun t k => XS.iand X0.here hx rfl (hb hby at_24) rfl (XS.i2c X0.here hx rfl (hb hby at_25) rfl (XS.istore X0.here hx rfl (hb hby at_26) rfl (l' := #[iv i0, iv i1, iv i2, iv i3, iv (1 : Int32), iv (((i0.toUInt32 >>> ((1 : Int32) &&& 31).toUInt32).toInt32) &&& (3 : Int32)), iv ((i1 &&& (255 : Int32)).toUInt32.toUInt16.toUInt32.toInt32), .unset, .unset, .unset, .unset, .unset]) rfl (XS.iloadN X0.here hx rfl (hb hby at_28) rfl (XS.sipush X0.here hx rfl (hb hby at_29) (XS.iand X0.here hx rfl (hb hby at_32) rfl (XS.i2c X0.here hx rfl (hb hby at_33) rfl (XS.istore X0.here hx rfl (hb hby at_34) rfl (l' := #[iv i0, iv i1, iv i2, iv i3, iv (1 : Int32), iv (((i0.toUInt32 >>> ((1 : Int32) &&& 31).toUInt32).toInt32) &&& (3 : Int32)), iv ((i1 &&& (255 : Int32)).toUInt32.toUInt16.toUInt32.toInt32), iv ((i2 &&& (255 : Int32)).toUInt32.toUInt16.toUInt32.toInt32), .unset, .unset, .unset, .unset]) rfl (XS.iload X0.here hx rfl (hb hby at_36) rfl (XS.ifNo X0.here hx rfl (hb hby at_38) rfl ((if0 _ _).trans (feq (by decide : ¬ ((1 : Int32) = (0 : Int32)))).1) (XS.aconstNull X0.here hx rfl (hb hby at_41) (XS.astore X0.here hx rfl (hb hby at_42) rfl rfl (l' := #[iv i0, iv i1, iv i2, iv i3, iv (1 : Int32), iv (((i0.toUInt32 >>> ((1 : Int32) &&& 31).toUInt32).toInt32) &&& (3 : Int32)), iv ((i1 &&& (255 : Int32)).toUInt32.toUInt16.toUInt32.toInt32), iv ((i2 &&& (255 : Int32)).toUInt32.toUInt16.toUInt32.toInt32), .val .null, .unset, .unset, .unset]) rfl k)))))))))))) ?_
    show own_Goes p e below (s₁.setTop (mkF m 44 #[iv i0, iv i1, iv i2, iv i3, iv (1 : Int32), iv (((i0.toUInt32 >>> ((1 : Int32) &&& 31).toUInt32).toInt32) &&& (3 : Int32)), iv ((i1 &&& (255 : Int32)).toUInt32.toUInt16.toUInt32.toInt32), iv ((i2 &&& (255 : Int32)).toUInt32.toUInt16.toUInt32.toInt32), .val .null, .unset, .unset, .unset] [])) _
    refine own_via (fun t k => XS.goto X0.here hx rfl (pc0 := 44) (pc' := 105) rfl (hb hby at_44) (by decide) (by decide) k) ?_
    obtain ⟨T1217, h1217, X1217, e1217, E1217, A1217, D1217, -, st1217⟩ := newO X0 hx hZ hown (wd hw 0 rfl) (wd hw 1 rfl) (wd hw 2 rfl) e0 (g := (mkF m 105 #[iv i0, iv i1, iv i2, iv i3, iv (1 : Int32), iv (((i0.toUInt32 >>> ((1 : Int32) &&& 31).toUInt32).toInt32) &&& (3 : Int32)), iv ((i1 &&& (255 : Int32)).toUInt32.toUInt16.toUInt32.toInt32), iv ((i2 &&& (255 : Int32)).toUInt32.toUInt16.toUInt32.toInt32), .val .null, .unset, .unset, .unset] [])) rfl (hb hby at_105) (by decide) (by decide)
    obtain ⟨b1218, q1217⟩ : ∃ z, z = h0.size := ⟨_, rfl⟩
    rw [← q1217] at A1217 D1217 st1217
    refine own_via (fun t k => st1217 t k) ?_
    have C1217 := C0.trans (CHr.ext E1217 C0.1)
    have g1219 : n0 ≤ b1218 := Nat.le_trans (own_old O0) (Nat.le_of_eq q1217.symm)
    have B1220 : h0.size ≤ b1218 := Nat.le_trans (Nat.le_refl _) (Nat.le_of_eq q1217.symm)
    have F1221 : Fld Z h1217 b1218 zs2 "value" "[B" .null := D1217 (Or.inr (wd hw 16 rfl)) (ty := (.array .byte)) (by decide)
    have F1222 : Fld Z h1217 b1218 zs2 "coder" "B" (.int (0 : Int32)) := D1217 (Or.inr (wd hw 17 rfl)) (ty := .byte) (by decide)
    show own_Goes p e below (T1217.setTop (mkF m 108 #[iv i0, iv i1, iv i2, iv i3, iv (1 : Int32), iv (((i0.toUInt32 >>> ((1 : Int32) &&& 31).toUInt32).toInt32) &&& (3 : Int32)), iv ((i1 &&& (255 : Int32)).toUInt32.toUInt16.toUInt32.toInt32), iv ((i2 &&& (255 : Int32)).toUInt32.toUInt16.toUInt32.toInt32), .val .null, .unset, .unset, .unset] [(.ref b1218)])) _
    refine own_via (fun t k => XS.dup X1217.here hx rfl (hb hby at_108) rfl rfl (XS.iconst X1217.here hx rfl (hb hby at_109) k)) ?_
    obtain ⟨T1223, h1223, k1223, X1223, e1223, E1223, A1223, st1223⟩ := newP X1217 hx hZ (wd hw 3 rfl) e1217 (g := (mkF m 110 #[iv i0, iv i1, iv i2, iv i3, iv (1 : Int32), iv (((i0.toUInt32 >>> ((1 : Int32) &&& 31).toUInt32).toInt32) &&& (3 : Int32)), iv ((i1 &&& (255 : Int32)).toUInt32.toUInt16.toUInt32.toInt32), iv ((i2 &&& (255 : Int32)).toUInt32.toUInt16.toUInt32.toInt32), .val .null, .unset, .unset, .unset] [(.int (1 : Int32)), (.ref b1218), (.ref b1218)])) rfl (hb hby at_110) rfl (by decide) (cap := 1) (by decide) (by decide) (by decide) (by decide)
    obtain ⟨b1224, q1223⟩ : ∃ z, z = h1217.size := ⟨_, rfl⟩
    rw [← q1223] at A1223 st1223
    refine own_via (fun t k => st1223 t k) ?_
    have C1223 := C1217.trans (CHr.ext E1223 C1217.1)
    have N1225 : b1218 ≠ b1224 := Nat.ne_of_lt (Nat.lt_of_lt_of_le A1217.lt (Nat.le_of_eq q1223.symm))
    have O1227 : Old Z n0 h1217 := (O0.ext E1217)
    have g1226 : n0 ≤ b1224 := Nat.le_trans (own_old O1227) (Nat.le_of_eq q1223.symm)
    have Z1229 : h0.size ≤ h1217.size := (Nat.le_trans (Nat.le_refl _) E1217.1)
    have B1228 : h0.size ≤ b1224 := Nat.le_trans Z1229 (Nat.le_of_eq q1223.symm)
    have V1230 : Arv Z h1223 b1224 k1223 .char (1 : Int32) [] (.int (0 : Int32)) := Arv.new A1223 (by decide)
    show own_Goes p e below (T1223.setTop (mkF m 112 #[iv i0, iv i1, iv i2, iv i3, iv (1 : Int32), iv (((i0.toUInt32 >>> ((1 : Int32) &&& 31).toUInt32).toInt32) &&& (3 : Int32)), iv ((i1 &&& (255 : Int32)).toUInt32.toUInt16.toUInt32.toInt32), iv ((i2 &&& (255 : Int32)).toUInt32.toUInt16.toUInt32.toInt32), .val .null, .unset, .unset, .unset] [(.ref b1224), (.ref b1218), (.ref b1218)])) _
    refine own_via (fun t k => XS.dup X1223.here hx rfl (hb hby at_112) rfl rfl (XS.iconst X1223.here hx rfl (hb hby at_113) (XS.iloadN X1223.here hx rfl (hb hby at_114) rfl (XS.sipush X1223.here hx rfl (hb hby at_115) (XS.iand X1223.here hx rfl (hb hby at_118) rfl (XS.i2c X1223.here hx rfl (hb hby at_119) rfl k)))))) ?_
    show own_Goes p e below (T1223.setTop (mkF m 120 #[iv i0, iv i1, iv i2, iv i3, iv (1 : Int32), iv (((i0.toUInt32 >>> ((1 : Int32) &&& 31).toUInt32).toInt32) &&& (3 : Int32)), iv ((i1 &&& (255 : Int32)).toUInt32.toUInt16.toUInt32.toInt32), iv ((i2 &&& (255 : Int32)).toUInt32.toUInt16.toUInt32.toInt32), .val .null, .unset, .unset, .unset] [(.int ((i3 &&& (255 : Int32)).toUInt32.toUInt16.toUInt32.toInt32)), (.int (0 : Int32)), (.ref b1224), (.ref b1224), (.ref b1218), (.ref b1218)])) _
    have V1231 : Arv Z h1223 b1224 k1223 .char (1 : Int32) [(.int (0 : Int32))] (.int (0 : Int32)) := V1230.pad (pad_rep [] (.int (0 : Int32)) 1)
    obtain ⟨cl1232, Ar1232, qq1232, S1232, M1232, H1232, G1232⟩ := id (V1231)
    have hin1232 : ¬ ((0 : Int32) < 0 ∨ cl1232.slots.size ≤ ((0 : Int32)).toNatClampNeg) := inb_of S1232 ⟨by decide, by decide⟩
    obtain ⟨T1232, h1232, X1232, e1232, W1232, st1232⟩ := stC X1223 hx hZ e1223 Ar1232 (j := (0 : Int32)) hin1232 (g := (mkF m 120 #[iv i0, iv i1, iv i2, iv i3, iv (1 : Int32), iv (((i0.toUInt32 >>> ((1 : Int32) &&& 31).toUInt32).toInt32) &&& (3 : Int32)), iv ((i1 &&& (255 : Int32)).toUInt32.toUInt16.toUInt32.toInt32), iv ((i2 &&& (255 : Int32)).toUInt32.toUInt16.toUInt32.toInt32), .val .null, .unset, .unset, .unset] [(.int ((i3 &&& (255 : Int32)).toUInt32.toUInt16.toUInt32.toInt32)), (.int (0 : Int32)), (.ref b1224), (.ref b1224), (.ref b1218), (.ref b1218)])) rfl rfl (hb hby at_120)
    refine own_via (fun t k => st1232 t k) ?_
    have V1233 : Arv Z h1232 b1224 k1223 .char (1 : Int32) [(.int ((i3 &&& (255 : Int32)).toUInt32.toUInt16.toUInt32.toInt32))] (.int (0 : Int32)) := by
      have qv := Arv.set Ar1232 qq1232 S1232 M1232 H1232 G1232 (fits_nar_char _) W1232 0 rfl (Nat.le_of_ble_eq_true rfl)
      first | rw [show nar .char ((i3 &&& (255 : Int32)).toUInt32.toUInt16.toUInt32.toInt32) = ((i3 &&& (255 : Int32)).toUInt32.toUInt16.toUInt32.toInt32) from own_c2 _] at qv | rw [own_c2] at qv
      exact qv
    have Sf1234 : Safe Z consts_1 _ h1223 b1224 := (own_safeA hZ.alike V1230 (by simp))
    have C1232 := C1223.trans (CHr.wr W1232 Sf1234 C1223.1)
    have N1232 := Fr.snoc X1232 N0 g1226
    show own_Goes p e below (T1232.setTop (mkF m 121 #[iv i0, iv i1, iv i2, iv i3, iv (1 : Int32), iv (((i0.toUInt32 >>> ((1 : Int32) &&& 31).toUInt32).toInt32) &&& (3 : Int32)), iv ((i1 &&& (255 : Int32)).toUInt32.toUInt16.toUInt32.toInt32), iv ((i2 &&& (255 : Int32)).toUInt32.toUInt16.toUInt32.toInt32), .val .null, .unset, .unset, .unset] [(.ref b1224), (.ref b1218), (.ref b1218)])) _
    have l1236 : own_Len Z h1232 b1224 .char (1 : Int32) := ⟨_, _, _, V1233⟩
    have F1237 : Fld Z h1232 b1218 zs2 "coder" "B" (.int (0 : Int32)) := ((F1222.ext E1223).other W1232 (Or.inl N1225))
    have E1238 : Exa Z h1232 b1218 zs2 := ((A1217.ext E1223).wr W1232)
    have F1239 : Fld Z h1232 b1218 zs2 "value" "[B" .null := ((F1221.ext E1223).other W1232 (Or.inl N1225))
    have O1240 : Old Z n0 h1232 := ((O1227.ext E1223).wr W1232 g1226)
    have K1241 : k0 ≤ h1232.size := (Nat.le_trans (Nat.le_trans (Nat.le_trans hk0 E1217.1) E1223.1) (Nat.le_of_eq W1232.size.symm))
    obtain ⟨_, T1235, _, X1235, hQ1235, Cr1235, hS, hZ, hown, st1235⟩ := own_ciH X1232 hx hZ hS K1241 hown (wd hw 4 rfl) (wd hw 5 rfl) (wd hw 6 rfl) (wd hw 2 rfl) rfl (by decide) hEE.ew C1232.1 (rm7 l Z a0 hw [] b1218 b1224 i19 k1223 ((i3 &&& (255 : Int32)).toUInt32.toUInt16.toUInt32.toInt32) (0 : Int32) h1232 n0 O1240 l1236 S_String_COMPACT_STRINGS SNZ_i19 V1233 (own_ch1 i3) F1237 E1238 g1219 F1239) e1232 (g := (mkF m 121 #[iv i0, iv i1, iv i2, iv i3, iv (1 : Int32), iv (((i0.toUInt32 >>> ((1 : Int32) &&& 31).toUInt32).toInt32) &&& (3 : Int32)), iv ((i1 &&& (255 : Int32)).toUInt32.toUInt16.toUInt32.toInt32), iv ((i2 &&& (255 : Int32)).toUInt32.toUInt16.toUInt32.toInt32), .val .null, .unset, .unset, .unset] [(.ref b1224), (.ref b1218), (.ref b1218)])) rfl (by rw [hml]; rfl) (rest := [(.ref b1218)]) (W := 1) (lenOf pd_2 rfl) rfl (by show 2 * 0 + _ ≤ _; exact Nat.le_of_eq rfl) (hb hby at_121) (by decide) (by decide) (by decide) (by decide)
    obtain ⟨h1235, e1235⟩ : ∃ z, T1235.heap = z := ⟨_, rfl⟩
    rw [e1235] at hQ1235 Cr1235
    obtain ⟨rfl, Nq1235, K1235, ex1242⟩ := hQ1235
    have N1235 := Fr.app N1232 Nq1235
    have C1243 := C1232.trans Cr1235
    have hk1244 : T1235.heap.size ≤ h1235.size := Nat.le_of_eq (congrArg Array.size e1235)
    refine own_via (fun t k => st1235 t (XS.astore X1235.here hx rfl (hb hby at_124) rfl rfl (l' := #[iv i0, iv i1, iv i2, iv i3, iv (1 : Int32), iv (((i0.toUInt32 >>> ((1 : Int32) &&& 31).toUInt32).toInt32) &&& (3 : Int32)), iv ((i1 &&& (255 : Int32)).toUInt32.toUInt16.toUInt32.toInt32), iv ((i2 &&& (255 : Int32)).toUInt32.toUInt16.toUInt32.toInt32), .val .null, rv b1218, .unset, .unset]) rfl k)) ?_
    obtain ⟨T1245, h1245, X1245, e1245, E1245, A1245, D1245, -, st1245⟩ := newO X1235 hx hZ hown (wd hw 33 rfl) (wd hw 34 rfl) (wd hw 35 rfl) e1235 (g := (mkF m 126 #[iv i0, iv i1, iv i2, iv i3, iv (1 : Int32), iv (((i0.toUInt32 >>> ((1 : Int32) &&& 31).toUInt32).toInt32) &&& (3 : Int32)), iv ((i1 &&& (255 : Int32)).toUInt32.toUInt16.toUInt32.toInt32), iv ((i2 &&& (255 : Int32)).toUInt32.toUInt16.toUInt32.toInt32), .val .null, rv b1218, .unset, .unset] [])) rfl (hb hby at_126) (by decide) (by decide)
    obtain ⟨b1246, q1245⟩ : ∃ z, z = h1235.size := ⟨_, rfl⟩
    rw [← q1245] at A1245 D1245 st1245
    refine own_via (fun t k => st1245 t k) ?_
    have C1245 := C1243.trans (CHr.ext E1245 C1243.1)
    have N1247 : b1218 ≠ b1246 := Nat.ne_of_lt (Nat.lt_of_lt_of_le ex1242.lt (Nat.le_of_eq q1245.symm))
    have V1249 : Arv Z h1235 b1224 k1223 .char (1 : Int32) [(.int ((i3 &&& (255 : Int32)).toUInt32.toUInt16.toUInt32.toInt32))] (.int (0 : Int32)) := (V1233.keep K1235 (ninS (Ne.symm N1225) nin0))
    have N1248 : b1224 ≠ b1246 := Nat.ne_of_lt (Nat.lt_of_lt_of_le V1249.lt (Nat.le_of_eq q1245.symm))
    have O1251 : Old Z n0 h1235 := (O1240.keep K1235 (allS g1219 all0))
    have g1250 : n0 ≤ b1246 := Nat.le_trans (own_old O1251) (Nat.le_of_eq q1245.symm)
    have Z1253 : h0.size ≤ h1235.size := (Nat.le_trans (Nat.le_trans (Nat.le_trans Z1229 E1223.1) (Nat.le_of_eq W1232.size.symm)) K1235.1)
    have B1252 : h0.size ≤ b1246 := Nat.le_trans Z1253 (Nat.le_of_eq q1245.symm)
    have F1254 : Fld Z h1245 b1246 zs6 "modCount" "I" (.int (0 : Int32)) := D1245 (Or.inl (wd hw 53 rfl)) (ty := .int) (by decide)
    have F1255 : Fld Z h1245 b1246 zs5 "elementData" zs7 .null := D1245 (Or.inl (wd hw 56 rfl)) (ty := (.array (.object zs13))) (by decide)
    show own_Goes p e below (T1245.setTop (mkF m 129 #[iv i0, iv i1, iv i2, iv i3, iv (1 : Int32), iv (((i0.toUInt32 >>> ((1 : Int32) &&& 31).toUInt32).toInt32) &&& (3 : Int32)), iv ((i1 &&& (255 : Int32)).toUInt32.toUInt16.toUInt32.toInt32), iv ((i2 &&& (255 : Int32)).toUInt32.toUInt16.toUInt32.toInt32), .val .null, rv b1218, .unset, .unset] [(.ref b1246)])) _
    refine own_via (fun t k => XS.dup X1245.here hx rfl (hb hby at_129) rfl rfl k) ?_
    have O1257 : Old Z n0 h1245 := (O1251.ext E1245)
    have K1258 : T1235.heap.size ≤ h1245.size := (Nat.le_trans hk1244 E1245.1)
    obtain ⟨_, T1256, _, X1256, hQ1256, Cr1256, hS, hZ, hown, st1256⟩ := own_ciH X1245 hx hZ hS K1258 hown (wd hw 36 rfl) (wd hw 37 rfl) (wd hw 38 rfl) (wd hw 35 rfl) rfl (by decide) hEE.ew C1245.1 (rm10 l Z a0 hw [] b1246 (0 : Int32) w24 h1245 n0 O1257 F1254 A1245 g1250 F1255 S_ArrayList_DEFAULTCAPACITY_EMPTY_ELEMENTDATA) e1245 (g := (mkF m 130 #[iv i0, iv i1, iv i2, iv i3, iv (1 : Int32), iv (((i0.toUInt32 >>> ((1 : Int32) &&& 31).toUInt32).toInt32) &&& (3 : Int32)), iv ((i1 &&& (255 : Int32)).toUInt32.toUInt16.toUInt32.toInt32), iv ((i2 &&& (255 : Int32)).toUInt32.toUInt16.toUInt32.toInt32), .val .null, rv b1218, .unset, .unset] [(.ref b1246), (.ref b1246)])) rfl (by rw [hml]; rfl) (rest := [(.ref b1246)]) (W := 1) (lenOf pd_6 rfl) rfl (by show 2 * 0 + _ ≤ _; exact Nat.le_of_eq rfl) (hb hby at_130) (by decide) (by decide) (by decide) (by decide)
    obtain ⟨h1256, e1256⟩ : ∃ z, T1256.heap = z := ⟨_, rfl⟩
    rw [e1256] at hQ1256 Cr1256
    obtain ⟨rfl, Nq1256, K1256, ex1259, fx1260, fx1261⟩ := hQ1256
    have N1256 := Fr.app N1235 Nq1256
    have C1262 := C1245.trans Cr1256
    have hk1263 : T1256.heap.size ≤ h1256.size := Nat.le_of_eq (congrArg Array.size e1256)
    refine own_via (fun t k => st1256 t (XS.astore X1256.here hx rfl (hb hby at_133) rfl rfl (l' := #[iv i0, iv i1, iv i2, iv i3, iv (1 : Int32), iv (((i0.toUInt32 >>> ((1 : Int32) &&& 31).toUInt32).toInt32) &&& (3 : Int32)), iv ((i1 &&& (255 : Int32)).toUInt32.toUInt16.toUInt32.toInt32), iv ((i2 &&& (255 : Int32)).toUInt32.toUInt16.toUInt32.toInt32), .val .null, rv b1218, rv b1246, .unset]) rfl k)) ?_
    obtain ⟨T1264, h1264, X1264, e1264, E1264, A1264, D1264, -, st1264⟩ := newO X1256 hx hZ hown (wd hw 57 rfl) (wd hw 58 rfl) (wd hw 59 rfl) e1256 (g := (mkF m 135 #[iv i0, iv i1, iv i2, iv i3, iv (1 : Int32), iv (((i0.toUInt32 >>> ((1 : Int32) &&& 31).toUInt32).toInt32) &&& (3 : Int32)), iv ((i1 &&& (255 : Int32)).toUInt32.toUInt16.toUInt32.toInt32), iv ((i2 &&& (255 : Int32)).toUInt32.toUInt16.toUInt32.toInt32), .val .null, rv b1218, rv b1246, .unset] [])) rfl (hb hby at_135) (by decide) (by decide)
    obtain ⟨b1265, q1264⟩ : ∃ z, z = h1256.size := ⟨_, rfl⟩
    rw [← q1264] at A1264 D1264 st1264
    refine own_via (fun t k => st1264 t k) ?_
    have C1264 := C1262.trans (CHr.ext E1264 C1262.1)
    have E1267 : Exa Z h1256 b1218 zs2 := ((ex1242.ext E1245).keep K1256)
    have N1266 : b1218 ≠ b1265 := Nat.ne_of_lt (Nat.lt_of_lt_of_le E1267.lt (Nat.le_of_eq q1264.symm))
    have V1269 : Arv Z h1256 b1224 k1223 .char (1 : Int32) [(.int ((i3 &&& (255 : Int32)).toUInt32.toUInt16.toUInt32.toInt32))] (.int (0 : Int32)) := ((V1249.ext E1245).keep K1256 (ninS N1248 nin0))
    have N1268 : b1224 ≠ b1265 := Nat.ne_of_lt (Nat.lt_of_lt_of_le V1269.lt (Nat.le_of_eq q1264.symm))
    have N1270 : b1246 ≠ b1265 := Nat.ne_of_lt (Nat.lt_of_lt_of_le ex1259.lt (Nat.le_of_eq q1264.symm))
    have O1272 : Old Z n0 h1256 := (O1257.keep K1256 (allS g1250 all0))
    have g1271 : n0 ≤ b1265 := Nat.le_trans (own_old O1272) (Nat.le_of_eq q1264.symm)
    have Z1274 : h0.size ≤ h1256.size := (Nat.le_trans (Nat.le_trans Z1253 E1245.1) K1256.1)
    have B1273 : h0.size ≤ b1265 := Nat.le_trans Z1274 (Nat.le_of_eq q1264.symm)
    have F1275 : Fld Z h1264 b1265 zs1 "name" zs4 .null := D1264 (Or.inr (wd hw 70 rfl)) (ty := (.object zs2)) (by decide)
    have F1276 : Fld Z h1264 b1265 zs1 "value" zs4 .null := D1264 (Or.inr (wd hw 72 rfl)) (ty := (.object zs2)) (by decide)
    have F1277 : Fld Z h1264 b1265 zs1 "about" zs10 .null := D1264 (Or.inr (wd hw 74 rfl)) (ty := (.object zs9)) (by decide)
    show own_Goes p e below (T1264.setTop (mkF m 138 #[iv i0, iv i1, iv i2, iv i3, iv (1 : Int32), iv (((i0.toUInt32 >>> ((1 : Int32) &&& 31).toUInt32).toInt32) &&& (3 : Int32)), iv ((i1 &&& (255 : Int32)).toUInt32.toUInt16.toUInt32.toInt32), iv ((i2 &&& (255 : Int32)).toUInt32.toUInt16.toUInt32.toInt32), .val .null, rv b1218, rv b1246, .unset] [(.ref b1265)])) _
    refine own_via (fun t k => XS.dup X1264.here hx rfl (hb hby at_138) rfl rfl (XS.aload X1264.here hx rfl (hb hby at_139) rfl rfl (XS.aload X1264.here hx rfl (hb hby at_141) rfl rfl (XS.aload X1264.here hx rfl (hb hby at_143) rfl rfl k)))) ?_
    show own_Goes p e below (T1264.setTop (mkF m 145 #[iv i0, iv i1, iv i2, iv i3, iv (1 : Int32), iv (((i0.toUInt32 >>> ((1 : Int32) &&& 31).toUInt32).toInt32) &&& (3 : Int32)), iv ((i1 &&& (255 : Int32)).toUInt32.toUInt16.toUInt32.toInt32), iv ((i2 &&& (255 : Int32)).toUInt32.toUInt16.toUInt32.toInt32), .val .null, rv b1218, rv b1246, .unset] [(.ref b1246), .null, (.ref b1218), (.ref b1265), (.ref b1265)])) _
    have O1326 : Old Z n0 h1264 := (O1272.ext E1264)
    have K1327 : T1256.heap.size ≤ h1264.size := (Nat.le_trans hk1263 E1264.1)
    obtain ⟨_, T1278, _, X1278, hQ1278, Cr1278, hS, hZ, hown, st1278⟩ := own_ciH X1264 hx hZ hS K1327 hown (wd hw 60 rfl) (wd hw 61 rfl) (wd hw 62 rfl) (wd hw 59 rfl) rfl (by decide) hEE.ew C1264.1 (rm23 l Z a0 hw [] b1265 b1218 b1246 h1264 n0 O1326 F1275 A1264 g1271 F1276 F1277) e1264 (g := (mkF m 145 #[iv i0, iv i1, iv i2, iv i3, iv (1 : Int32), iv (((i0.toUInt32 >>> ((1 : Int32) &&& 31).toUInt32).toInt32) &&& (3 : Int32)), iv ((i1 &&& (255 : Int32)).toUInt32.toUInt16.toUInt32.toInt32), iv ((i2 &&& (255 : Int32)).toUInt32.toUInt16.toUInt32.toInt32), .val .null, rv b1218, rv b1246, .unset] [(.ref b1246), .null, (.ref b1218), (.ref b1265), (.ref b1265)])) rfl (by rw [hml]; rfl) (rest := [(.ref b1265)]) (W := 1) (lenOf pd_7 rfl) rfl (by show 2 * 0 + _ ≤ _; exact Nat.le_of_eq rfl) (hb hby at_145) (by decide) (by decide) (by decide) (by decide)
    obtain ⟨h1278, e1278⟩ : ∃ z, T1278.heap = z := ⟨_, rfl⟩
    rw [e1278] at hQ1278 Cr1278
    obtain ⟨rfl, Nq1278, K1278, ex1328, fx1329, fx1330, fx1331⟩ := hQ1278
    have N1278 := Fr.app N1256 Nq1278
    have C1332 := C1264.trans Cr1278
    have hk1333 : T1278.heap.size ≤ h1278.size := Nat.le_of_eq (congrArg Array.size e1278)
    refine own_via (fun t k => st1278 t (XS.astore X1278.here hx rfl (hb hby at_148) rfl rfl (l' := #[iv i0, iv i1, iv i2, iv i3, iv (1 : Int32), iv (((i0.toUInt32 >>> ((1 : Int32) &&& 31).toUInt32).toInt32) &&& (3 : Int32)), iv ((i1 &&& (255 : Int32)).toUInt32.toUInt16.toUInt32.toInt32), iv ((i2 &&& (255 : Int32)).toUInt32.toUInt16.toUInt32.toInt32), .val .null, rv b1218, rv b1246, rv b1265]) rfl (XS.aload X1278.here hx rfl (hb hby at_150) rfl rfl k))) ?_
    show own_Goes p e below (T1278.setTop (mkF m 152 #[iv i0, iv i1, iv i2, iv i3, iv (1 : Int32), iv (((i0.toUInt32 >>> ((1 : Int32) &&& 31).toUInt32).toInt32) &&& (3 : Int32)), iv ((i1 &&& (255 : Int32)).toUInt32.toUInt16.toUInt32.toInt32), iv ((i2 &&& (255 : Int32)).toUInt32.toUInt16.toUInt32.toInt32), .val .null, rv b1218, rv b1246, rv b1265] [(.ref b1265)])) _
    have O1365 : Old Z n0 h1278 := (O1326.keep K1278 (allS g1271 all0))
    obtain ⟨_, T1334, _, X1334, hQ1334, Cr1334, hS, hZ, hown, st1334⟩ := own_cvH X1278 hx hZ hS hk1333 hown (wd hw 75 rfl) (wd hw 76 rfl) (wd hw 78 rfl) (wd hw 77 rfl) (wd hw 79 rfl) (wd hw 59 rfl) (by decide) hEE.ew C1332.1 (rm24 l Z a0 hw [] b1265 h1278 n0 O1365 fx1330) e1278 ex1328 (g := (mkF m 152 #[iv i0, iv i1, iv i2, iv i3, iv (1 : Int32), iv (((i0.toUInt32 >>> ((1 : Int32) &&& 31).toUInt32).toInt32) &&& (3 : Int32)), iv ((i1 &&& (255 : Int32)).toUInt32.toUInt16.toUInt32.toInt32), iv ((i2 &&& (255 : Int32)).toUInt32.toUInt16.toUInt32.toInt32), .val .null, rv b1218, rv b1246, rv b1265] [(.ref b1265)])) rfl (by rw [hml]; rfl) (rest := []) (W := 0) (lenOf pd_8 rfl) rfl (by show 2 * 0 + _ ≤ _; exact Nat.le_of_eq rfl) (hb hby at_152) (by decide) (by decide) (by decide) (by decide)
    obtain ⟨rfl, Nq1334, hh1366⟩ := hQ1334
    have N1334 := Fr.app N1278 Nq1334
    rw [hh1366] at Cr1334
    have C1367 := C1332.trans Cr1334
    have hk1368 : T1334.heap.size ≤ h1278.size := Nat.le_of_eq (congrArg Array.size hh1366)
    refine own_via (fun t k => st1334 t (XS.iload X1334.here hx rfl (hb hby at_155) rfl (XS.icmpNo X1334.here hx rfl (hb hby at_157) rfl (teq (by decide : (1 : Int32) = (1 : Int32))).2 (XS.iconst X1334.here hx rfl (hb hby at_160) (XS.goto X1334.here hx rfl (pc0 := 161) (pc' := 165) rfl (hb hby at_161) (by decide) (by decide) k))))) ?_
    show own_Goes p e below (T1334.setTop (mkF m 165 #[iv i0, iv i1, iv i2, iv i3, iv (1 : Int32), iv (((i0.toUInt32 >>> ((1 : Int32) &&& 31).toUInt32).toInt32) &&& (3 : Int32)), iv ((i1 &&& (255 : Int32)).toUInt32.toUInt16.toUInt32.toInt32), iv ((i2 &&& (255 : Int32)).toUInt32.toUInt16.toUInt32.toInt32), .val .null, rv b1218, rv b1246, rv b1265] [(.int (1 : Int32))])) _
    obtain ⟨fs, hr, hrun, hended, hRW⟩ := X1334.leaveW hS (by rw [hh1366]; first | exact hk1368 | exact Nat.le_refl _) (v := some (.int (1 : Int32))) (fun h => by rw [Bd.returns] at h; cases h)
    refine own_end (t := T1334.setFrames fs) ?_ ⟨_, hrun, hended, _, _, rfl, ?_, own_rmono hRW (by decide) (by decide)⟩
    · exact retN X1334 hx (t := .boolean) Bd.returns (by simp) (hb hby at_165) hr
    · exact ⟨rfl, N1334⟩
set_option maxRecDepth 65536 in
set_option maxHeartbeats 40000000 in
theorem comes_1 {Post : Tables → Env → Array Value → State → Outcome → State → Prop} (hpost : ∀ tb e args s v u, (limb_1_1.after args s (.returned v) u = true ∧ limb_1_2.after args s (.returned v) u = true ∧ True) → ReturnedEndW s (.returned v) u (Jvm.fieldLocs frame_1_writes args s ++ Jvm.arrayLocs frame_1_arrays args s ++ Jvm.staticLocs frame_1_statics s) 32 1152 → Post tb e args s (.returned v) u) :
    ArmFor flags0 classFile x code maxLocals ret World_1 tables_1 room_1 Calls_1 rest_1 Pre_1 Post := by
  intro l hfl _ _ p e ha hc hk s m args below hf hA hF happ hP
  obtain ⟨hcalls, hrest, hpre⟩ := hP
  have hcalls0 : ∀ q ∈ consts_1, Jvm.Lit.constHeld s q.1 q.2 := hcalls.1
  obtain ⟨-, -, -, hnamed, -, -, -, hat⟩ := (Spec.applies_iff hf).mp happ
  obtain ⟨hg, hn⟩ := and_e (Cond.before_iff.mp (show (Jvm.Cond.and given_1 narrow_1).before args s = true from hpre))
  obtain ⟨g1369, g1370⟩ := and_e hg
  obtain ⟨g1371, g1372⟩ := and_e g1370
  obtain ⟨g1373, g1374⟩ := and_e g1372
  obtain ⟨g1375, g1376⟩ := and_e g1374
  obtain ⟨w0, w1, w2, w3, rfl⟩ : ∃ w0 w1 w2 w3 : Value, args = #[w0, w1, w2, w3] := by
    have hs : args.size = 4 := by simpa [Cond.value, given_1] using g1369
    obtain ⟨L⟩ := args
    match L, hs with
    | [w0, w1, w2, w3], _ => exact ⟨w0, w1, w2, w3, rfl⟩
  have hw := fun d (hd : d ∈ tables_1) => atoms_spec (ws := Jvm.Cond.code x code maxLocals ret :: tables_1) hat d (List.mem_cons_of_mem _ hd)
  have hfit : Fit s := fun {y c} hc i hi => by
    obtain ⟨ha, rfl⟩ := Array.getElem?_eq_some_iff.mp hc
    have q := List.all_eq_true.mp ((Array.all_eq_true_iff_forall_mem.mp hF) _ (Array.getElem_mem ha)) i (List.mem_range.mpr hi)
    simpa [Array.getElem?_eq_getElem hi] using q
  obtain ⟨hsets, hown0⟩ := atoms_of _ (rest_1_c_eq ▸ (show rest_1_c.before _ s = true from hrest))
  have u1 := Cond.before_iff.mp (hsets _ (List.mem_of_getElem? (i := 0) rfl))
  have u2 := Cond.before_iff.mp (hsets _ (List.mem_of_getElem? (i := 1) rfl))
  have u3 := Cond.before_iff.mp (hsets _ (List.mem_of_getElem? (i := 2) rfl))
  have u4 := Cond.before_iff.mp (hsets _ (List.mem_of_getElem? (i := 3) rfl))
  have u5 := Cond.before_iff.mp (hsets _ (List.mem_of_getElem? (i := 4) rfl))
  have u6 := Cond.before_iff.mp (hsets _ (List.mem_of_getElem? (i := 5) rfl))
  have u7 := Cond.before_iff.mp (hsets _ (List.mem_of_getElem? (i := 6) rfl))
  have u8 := Cond.before_iff.mp (hsets _ (List.mem_of_getElem? (i := 7) rfl))
  have u9 := Cond.before_iff.mp (hsets _ (List.mem_of_getElem? (i := 8) rfl))
  have u10 := Cond.before_iff.mp (hsets _ (List.mem_of_getElem? (i := 9) rfl))
  have u11 := Cond.before_iff.mp (hsets _ (List.mem_of_getElem? (i := 10) rfl))
  have u12 := Cond.before_iff.mp (hsets _ (List.mem_of_getElem? (i := 11) rfl))
  have u13 := Cond.before_iff.mp (hsets _ (List.mem_of_getElem? (i := 12) rfl))
  have u14 := Cond.before_iff.mp (hsets _ (List.mem_of_getElem? (i := 13) rfl))
  have u15 := Cond.before_iff.mp (hsets _ (List.mem_of_getElem? (i := 14) rfl))
  have u16 := Cond.before_iff.mp (hsets _ (List.mem_of_getElem? (i := 15) rfl))
  have u17 := Cond.before_iff.mp (hsets _ (List.mem_of_getElem? (i := 16) rfl))
  have u18 := Cond.before_iff.mp (hsets _ (List.mem_of_getElem? (i := 17) rfl))
  obtain ⟨i19, ev20⟩ := is_v u2
  have S_String_COMPACT_STRINGS : Sta s s.heap zs2 zs15 "Z" (.int i19) := Sta.start ev20 (Or.inl (hsets _ (List.mem_of_getElem? (i := 0) rfl)))
  have SNZ_i19 : ¬ (i19 = (0 : Int32)) := own_ne_int u3 ev20
  obtain ⟨w21, ev22⟩ := arr_v u13
  have S_ArrayList_EMPTY_ELEMENTDATA : Sta s s.heap zs5 "EMPTY_ELEMENTDATA" zs7 (.ref w21) := Sta.start ev22 (Or.inl (hsets _ (List.mem_of_getElem? (i := 10) rfl)))
  obtain ⟨cl23, Acl23⟩ := Arr.start ev22 u13
  have SE_w21 : Exa s s.heap w21 zs7 := Exa.start ev22 u14
  obtain ⟨kc_w21, SV_w21⟩ : ∃ kc, Arv s s.heap w21 kc (.object zs13) (0 : Int32) [] .null := ⟨_, own_arv0 hfit Acl23 ev22 u15⟩
  obtain ⟨w24, ev25⟩ := arr_v u16
  have S_ArrayList_DEFAULTCAPACITY_EMPTY_ELEMENTDATA : Sta s s.heap zs5 "DEFAULTCAPACITY_EMPTY_ELEMENTDATA" zs7 (.ref w24) := Sta.start ev25 (Or.inl (own_initFor (hsets _ (List.mem_of_getElem? (i := 9) rfl)) (hsets _ (List.mem_of_getElem? (i := 10) rfl)) (hsets _ (List.mem_of_getElem? (i := 11) rfl))))
  obtain ⟨cl26, Acl26⟩ := Arr.start ev25 u16
  have SE_w24 : Exa s s.heap w24 zs7 := Exa.start ev25 u17
  obtain ⟨kc_w24, SV_w24⟩ : ∃ kc, Arv s s.heap w24 kc (.object zs13) (0 : Int32) [] .null := ⟨_, own_arv0 hfit Acl26 ev25 u18⟩
  obtain ⟨i0, ei0⟩ := is_v g1371
  obtain rfl : w0 = (.int i0) := Option.some.inj ei0
  obtain ⟨i1, ei1⟩ := is_v g1373
  obtain rfl : w1 = (.int i1) := Option.some.inj ei1
  obtain ⟨i2, ei2⟩ := is_v g1375
  obtain rfl : w2 = (.int i2) := Option.some.inj ei2
  obtain ⟨i3, ei3⟩ := is_v g1376
  obtain rfl : w3 = (.int i3) := Option.some.inj ei3
  obtain ⟨n, o, h1, h2, h3, _, L, rfl, ⟨rfl, N⟩, hq⟩ := rm0 l s _ hw tables_1 i0 i1 i2 i3 i19 w24 s.heap s.heap.size (Old.start s) S_String_COMPACT_STRINGS SNZ_i19 S_ArrayList_DEFAULTCAPACITY_EMPTY_ELEMENTDATA p e ha hc hk s m _ below hf ((Spec.applies_iff_loose hf).mp happ).1 ⟨rfl, State.Warmed39.refl s, rfl, CHv.start (own_ee hw).ew hcalls0 (hsets _ (List.mem_of_getElem? (i := 2) rfl)) (wd hw 15 rfl) (wd hw 1 rfl)⟩ trivial
  refine ⟨n, _, h1, h2, h3, hpost _ _ _ _ _ _ ⟨Cond.after_iff.mpr rfl, Cond.after_iff.mpr (eq_i res_at (Term.int_eval (1)) rfl), trivial⟩ ⟨hq.1, hq.2.1, hq.2.2.1, (hq.2.2.2.sift fun y hy => Or.inr (N y hy)).mono (by decide) (by decide)⟩⟩
theorem main_1_1 : Claimed_1_1 := comes_1 fun _ _ _ _ _ _ h hF => ⟨h.1, hF⟩
theorem main_1_2 : Claimed_1_2 := comes_1 fun _ _ _ _ _ _ h hF => ⟨h.2.1, hF⟩
end Jvm.Pilot.@@N@@
namespace Jvm.Pilot.@@N@@
open Jvm Jvm.ClassFile Sem Op Lib Jvm.Free Jvm.Stand Jvm.Pilot.@@N@@.Jvm.D
/-! MADE BY PROGRAM (witnessworld.py) out of the Statement's table words and the real class files: 30 classes; the members and pool entries that the words name. The judged class is class 1, her method 1. -/
namespace start1
open Jvm.ClassFile
def u (s : String) : CpInfo := .utf8 (stringToUtf16 s)
/-- a pool by its gaps: so many unusable entries, then the entry; so many at the end -/
def gap : Nat → List CpInfo → List CpInfo
  | 0, r => r
  | n + 1, r => .unusable :: gap n r
def poolList (es : List (Nat × CpInfo)) (last : Nat) : List CpInfo := es.foldr (fun e r => gap e.1 (e.2 :: r)) (gap last [])
def pool (es : List (Nat × CpInfo)) (last : Nat) : Array CpInfo := ⟨poolList es last⟩
def fileOf (pool : Array CpInfo) (this : Nat) (attrs : Array Attribute := #[]) (ms : Array MethodInfo := #[]) (fl : Nat := 33) (sup : Nat := 0) (ifs : Array Nat := #[]) (fds : Array FieldInfo := #[]) : ClassFile where
  minorVersion := 0
  majorVersion := 65
  constantPool := pool
  accessFlags := fl
  thisClass := this
  superClass := sup
  interfaces := ifs
  fields := fds
  methods := ms
  attributes := attrs
def plain (name : String) (sup : Option ClassId) : Class where
  name := name
  kind := .ordinary
  loader := none
  accessFlags := 33
  super := sup
  interfaces := #[]
  cf := none
  fields := #[]
  methods := #[]
  instanceTypes := #[]
  staticTypes := #[]
  resolved := #[]
  callSites := []
  init := .initialized
  statics := none
  mirror := none

def pool0 : Array CpInfo := pool [(5, u "<init>"), (0, u "()V"), (1, .class_ 10), (1, u "java/lang/Object")] 113

def k0c0 : Code := { maxStack := 0, maxLocals := 1, code := object_method_1_code, exceptionTable := #[], attributes := #[] }
def k0m0 : Method := { name := "<init>", desc := "()V", sig := { parameters := [], returnType := none }, accessFlags := 1, code := some k0c0 }
/-- java/lang/Object -/
def k0 : Class := { plain "java/lang/Object" none with
  accessFlags := 33
  interfaces := #[]
  cf := some (fileOf pool0 8 #[] #[{ accessFlags := 1, nameIndex := 5, descriptorIndex := 6, attributes := #[] }] 33 0 #[] #[])
  fields := #[]
  methods := #[k0m0]
  instanceTypes := #[]
  staticTypes := #[]
  resolved := Array.replicate 124 none
  statics := none }

def pool1 : Array CpInfo := pool [(2, .class_ 4), (0, .nameAndType 5 6), (0, u "java/lang/Object"), (0, u "<init>"), (0, u "()V"), (0, .class_ 8), (0, u "java/lang/String"), (0, .methodref 7 10), (0, .nameAndType 5 11), (0, u "([C)V"), (0, .methodref 7 13), (0, .nameAndType 14 15), (0, u "valueOf"), (0, u "(C)Ljava/lang/String;"), (0, .class_ 17), (0, u "java/util/ArrayList"), (0, .methodref 16 3), (0, .class_ 20), (0, u "com/example/hearthkey/hearthkey/gateway/cli/Option"), (0, .methodref 19 22), (0, .nameAndType 5 23), (0, u "(Ljava/lang/String;Ljava/lang/String;Ljava/util/List;)V"), (0, .methodref 19 25), (0, .nameAndType 26 27), (0, u "isFlag"), (0, u "()Z"), (0, .class_ 29), (0, u "com/example/hearthkey/hearthkey/gateway/cli/OptionIsFlagPinLaw"), (2, u "law"), (0, u "(IIII)Z")] 5

def k1m0 : Method := { name := "<init>", desc := "()V", sig := { parameters := [], returnType := none }, accessFlags := 1, code := none }
def k1c1 : Code := { maxStack := 7, maxLocals := 12, code := code, exceptionTable := #[], attributes := #[] }
def k1m1 : Method := { name := "law", desc := "(IIII)Z", sig := { parameters := [.int, .int, .int, .int], returnType := some .boolean }, accessFlags := 9, code := some k1c1 }
/-- com/example/hearthkey/hearthkey/gateway/cli/OptionIsFlagPinLaw -/
def k1 : Class := { plain "com/example/hearthkey/hearthkey/gateway/cli/OptionIsFlagPinLaw" (some 0) with
  accessFlags := 49
  interfaces := #[]
  cf := some (fileOf pool1 28 #[] #[{ accessFlags := 1, nameIndex := 5, descriptorIndex := 6, attributes := #[] }, { accessFlags := 9, nameIndex := 32, descriptorIndex := 33, attributes := #[] }] 49 2 #[] #[])
  fields := #[]
  methods := #[k1m0, k1m1]
  instanceTypes := #[]
  staticTypes := #[]
  resolved := Array.replicate 39 none
  statics := none }

def pool2 : Array CpInfo := pool [(1, .class_ 2), (0, u "java/io/Serializable"), (0, .class_ 4), (0, u "java/lang/Object")] 2

/-- java/io/Serializable -/
def k2 : Class := { plain "java/io/Serializable" (some 0) with
  accessFlags := 1537
  interfaces := #[]
  cf := some (fileOf pool2 1 #[] #[] 1537 3 #[] #[])
  fields := #[]
  methods := #[]
  instanceTypes := #[]
  staticTypes := #[]
  resolved := Array.replicate 7 none
  statics := none }

def pool3 : Array CpInfo := pool [(1, .class_ 2), (0, u "java/lang/Comparable"), (0, .class_ 4), (0, u "java/lang/Object")] 7

/-- java/lang/Comparable -/
def k3 : Class := { plain "java/lang/Comparable" (some 0) with
  accessFlags := 1537
  interfaces := #[]
  cf := some (fileOf pool3 1 #[] #[] 1537 3 #[] #[])
  fields := #[]
  methods := #[]
  instanceTypes := #[]
  staticTypes := #[]
  resolved := Array.replicate 12 none
  statics := none }

def pool4 : Array CpInfo := pool [(2, .class_ 4), (1, u "java/lang/CharSequence"), (42, .class_ 48), (0, u "java/lang/CharSequence$1CodePointIterator"), (10, .class_ 60), (0, u "java/lang/CharSequence$1CharIterator"), (5, .class_ 67), (0, u "java/lang/Object")] 63

/-- java/lang/CharSequence -/
def k4 : Class := { plain "java/lang/CharSequence" (some 0) with
  accessFlags := 1537
  interfaces := #[]
  cf := some (fileOf pool4 2 #[.nestMembers #[47, 59]] #[] 1537 66 #[] #[])
  fields := #[]
  methods := #[]
  instanceTypes := #[]
  staticTypes := #[]
  resolved := Array.replicate 131 none
  statics := none }

def pool5 : Array CpInfo := pool [(1, .class_ 2), (0, u "java/lang/constant/Constable"), (0, .class_ 4), (0, u "java/lang/Object")] 6

/-- java/lang/constant/Constable -/
def k5 : Class := { plain "java/lang/constant/Constable" (some 0) with
  accessFlags := 1537
  interfaces := #[]
  cf := some (fileOf pool5 1 #[] #[] 1537 3 #[] #[])
  fields := #[]
  methods := #[]
  instanceTypes := #[]
  staticTypes := #[]
  resolved := Array.replicate 11 none
  statics := none }

def pool6 : Array CpInfo := pool [(1, .class_ 2), (0, u "java/lang/constant/ConstantDesc"), (0, .class_ 4), (0, u "java/lang/Object")] 32

/-- java/lang/constant/ConstantDesc -/
def k6 : Class := { plain "java/lang/constant/ConstantDesc" (some 0) with
  accessFlags := 1537
  interfaces := #[]
  cf := some (fileOf pool6 1 #[] #[] 1537 3 #[] #[])
  fields := #[]
  methods := #[]
  instanceTypes := #[]
  staticTypes := #[]
  resolved := Array.replicate 37 none
  statics := none }

def pool7 : Array CpInfo := pool [(1, .methodref 2 3), (0, .class_ 4), (0, .nameAndType 5 6), (0, u "java/lang/Object"), (0, u "<init>"), (0, u "()V"), (0, .string 8), (0, u ""), (0, .fieldref 10 11), (0, .class_ 12), (0, .nameAndType 13 14), (0, u "java/lang/String"), (0, u "value"), (0, u "[B"), (0, .fieldref 10 16), (0, .nameAndType 17 18), (0, u "coder"), (0, u "B"), (2, u "hash"), (0, u "I"), (2, u "hashIsZero"), (0, u "Z"), (0, .methodref 10 28), (0, .nameAndType 5 29), (0, u "([CIILjava/lang/Void;)V"), (8, .fieldref 10 39), (0, .nameAndType 40 26), (0, u "COMPACT_STRINGS"), (1, .class_ 44), (1, u "java/lang/StringUTF16"), (0, u "compress"), (1, .methodref 42 48), (0, .nameAndType 49 50), (0, u "coderFromArrayLen"), (0, u "([BI)B"), (2, u "toBytes"), (53, .class_ 109), (1, u "java/lang/StringLatin1"), (67, .methodref 42 178), (0, .nameAndType 45 179), (0, u "([CII)[B"), (29, .methodref 10 210), (0, .nameAndType 5 211), (0, u "([BB)V"), (157, u "(C)Z"), (205, .class_ 576), (0, u "java/lang/CharSequence"), (22, u "CASE_INSENSITIVE_ORDER"), (0, u "Ljava/util/Comparator;"), (181, u "valueOf"), (0, u "(C)Ljava/lang/String;"), (226, u "([C)V"), (4, .methodref 107 1016), (0, .nameAndType 1017 369), (0, u "canEncode"), (0, .methodref 107 1019), (0, .nameAndType 53 1020), (0, u "(C)[B"), (80, u "serialPersistentFields"), (0, u "[Ljava/io/ObjectStreamField;"), (0, .class_ 1104), (0, u "java/lang/String$CaseInsensitiveComparator"), (1, .class_ 1107), (0, u "java/io/Serializable"), (0, .class_ 1109), (0, u "java/lang/Comparable"), (0, .class_ 1111), (0, u "java/lang/constant/Constable"), (0, .class_ 1113), (0, u "java/lang/constant/ConstantDesc"), (2, u "serialVersionUID"), (0, u "J"), (3, u "REPL"), (0, u "C"), (2, u "LATIN1"), (1, u "UTF16")] 323

def k7m0 : Method := { name := "<init>", desc := "()V", sig := { parameters := [], returnType := none }, accessFlags := 1, code := none }
def k7c1 : Code := { maxStack := 5, maxLocals := 2, code := jdk_42_method_3_code, exceptionTable := #[], attributes := #[] }
def k7m1 : Method := { name := "<init>", desc := "([C)V", sig := { parameters := [(.array .char)], returnType := none }, accessFlags := 1, code := some k7c1 }
def k7c2 : Code := { maxStack := 4, maxLocals := 1, code := jdk_42_method_139_code, exceptionTable := #[], attributes := #[] }
def k7m2 : Method := { name := "valueOf", desc := "(C)Ljava/lang/String;", sig := { parameters := [.char], returnType := some (.object "java/lang/String") }, accessFlags := 9, code := some k7c2 }
def k7c3 : Code := { maxStack := 4, maxLocals := 6, code := jdk_42_method_149_code, exceptionTable := #[], attributes := #[] }
def k7m3 : Method := { name := "<init>", desc := "([CIILjava/lang/Void;)V", sig := { parameters := [(.array .char), .int, .int, (.object "java/lang/Void")], returnType := none }, accessFlags := 2, code := some k7c3 }
def k7c4 : Code := { maxStack := 2, maxLocals := 3, code := jdk_42_method_151_code, exceptionTable := #[], attributes := #[] }
def k7m4 : Method := { name := "<init>", desc := "([BB)V", sig := { parameters := [(.array .byte), .byte], returnType := none }, accessFlags := 0, code := some k7c4 }
/-- java/lang/String -/
def k7 : Class := { plain "java/lang/String" (some 0) with
  accessFlags := 49
  interfaces := #[2, 3, 4, 5, 6]
  cf := some (fileOf pool7 10 #[.nestMembers #[1103]] #[{ accessFlags := 1, nameIndex := 5, descriptorIndex := 6, attributes := #[] }, { accessFlags := 1, nameIndex := 5, descriptorIndex := 1010, attributes := #[] }, { accessFlags := 9, nameIndex := 782, descriptorIndex := 783, attributes := #[] }, { accessFlags := 2, nameIndex := 5, descriptorIndex := 29, attributes := #[] }, { accessFlags := 0, nameIndex := 5, descriptorIndex := 211, attributes := #[] }] 49 2 #[1106, 1108, 575, 1110, 1112] #[{ accessFlags := 18, nameIndex := 13, descriptorIndex := 14, attributes := #[] }, { accessFlags := 18, nameIndex := 17, descriptorIndex := 18, attributes := #[] }, { accessFlags := 2, nameIndex := 21, descriptorIndex := 22, attributes := #[] }, { accessFlags := 2, nameIndex := 25, descriptorIndex := 26, attributes := #[] }, { accessFlags := 26, nameIndex := 1116, descriptorIndex := 1117, attributes := #[] }, { accessFlags := 24, nameIndex := 40, descriptorIndex := 26, attributes := #[] }, { accessFlags := 26, nameIndex := 1101, descriptorIndex := 1102, attributes := #[] }, { accessFlags := 26, nameIndex := 1121, descriptorIndex := 1122, attributes := #[] }, { accessFlags := 25, nameIndex := 599, descriptorIndex := 600, attributes := #[] }, { accessFlags := 24, nameIndex := 1125, descriptorIndex := 18, attributes := #[] }, { accessFlags := 24, nameIndex := 1127, descriptorIndex := 18, attributes := #[] }])
  fields := #[{ name := "value", type := (.array .byte), accessFlags := 18, slot := 0, constantValue := 0 }, { name := "coder", type := .byte, accessFlags := 18, slot := 1, constantValue := 0 }, { name := "hash", type := .int, accessFlags := 2, slot := 2, constantValue := 0 }, { name := "hashIsZero", type := .boolean, accessFlags := 2, slot := 3, constantValue := 0 }, { name := "serialVersionUID", type := .long, accessFlags := 26, slot := 0, constantValue := 0 }, { name := "COMPACT_STRINGS", type := .boolean, accessFlags := 24, slot := 1, constantValue := 0 }, { name := "serialPersistentFields", type := (.array (.object "java/io/ObjectStreamField")), accessFlags := 26, slot := 2, constantValue := 0 }, { name := "REPL", type := .char, accessFlags := 26, slot := 3, constantValue := 0 }, { name := "CASE_INSENSITIVE_ORDER", type := (.object "java/util/Comparator"), accessFlags := 25, slot := 4, constantValue := 0 }, { name := "LATIN1", type := .byte, accessFlags := 24, slot := 5, constantValue := 0 }, { name := "UTF16", type := .byte, accessFlags := 24, slot := 6, constantValue := 0 }]
  methods := #[k7m0, k7m1, k7m2, k7m3, k7m4]
  instanceTypes := #[(.array .byte), .byte, .int, .boolean]
  staticTypes := #[.long, .boolean, (.array (.object "java/io/ObjectStreamField")), .char, (.object "java/util/Comparator"), .byte, .byte]
  resolved := Array.replicate 1451 none
  statics := some 0 }

def pool8 : Array CpInfo := pool [(6, .class_ 8), (1, u "java/lang/Object"), (0, u "<init>"), (0, u "()V"), (1, .class_ 14), (1, u "java/lang/StringUTF16"), (31, u "$assertionsDisabled"), (0, u "Z"), (13, u "HI_BYTE_SHIFT"), (0, u "I"), (2, u "LO_BYTE_SHIFT"), (49, .methodref 12 116), (0, .nameAndType 117 118), (0, u "compress"), (0, u "([CI[BII)I"), (3, u "([CII)[B"), (138, u "coderFromArrayLen"), (0, u "([BI)B"), (106, .class_ 371), (1, u "java/lang/StringUTF16$LinesSpliterator"), (58, u "MAX_LENGTH"), (196, .class_ 628), (0, u "java/lang/StringUTF16$CodePointsSpliterator"), (0, .class_ 630), (0, u "java/lang/StringUTF16$CharsSpliterator")] 4

def k8m0 : Method := { name := "<init>", desc := "()V", sig := { parameters := [], returnType := none }, accessFlags := 0, code := none }
def k8c1 : Code := { maxStack := 2, maxLocals := 2, code := jdk_52_method_15_code, exceptionTable := #[], attributes := #[] }
def k8m1 : Method := { name := "coderFromArrayLen", desc := "([BI)B", sig := { parameters := [(.array .byte), .int], returnType := some .byte }, accessFlags := 8, code := some k8c1 }
def k8c2 : Code := { maxStack := 5, maxLocals := 6, code := jdk_52_method_16_code, exceptionTable := #[], attributes := #[] }
def k8m2 : Method := { name := "compress", desc := "([CII)[B", sig := { parameters := [(.array .char), .int, .int], returnType := some (.array .byte) }, accessFlags := 9, code := some k8c2 }
def k8c3 : Code := { maxStack := 3, maxLocals := 7, code := jdk_52_method_21_code, exceptionTable := #[], attributes := #[] }
def k8m3 : Method := { name := "compress", desc := "([CI[BII)I", sig := { parameters := [(.array .char), .int, (.array .byte), .int, .int], returnType := some .int }, accessFlags := 9, code := some k8c3 }
/-- java/lang/StringUTF16 -/
def k8 : Class := { plain "java/lang/StringUTF16" (some 0) with
  accessFlags := 48
  interfaces := #[]
  cf := some (fileOf pool8 12 #[.nestMembers #[627, 629, 369]] #[{ accessFlags := 0, nameIndex := 9, descriptorIndex := 10, attributes := #[] }, { accessFlags := 8, nameIndex := 261, descriptorIndex := 262, attributes := #[] }, { accessFlags := 9, nameIndex := 117, descriptorIndex := 122, attributes := #[] }, { accessFlags := 9, nameIndex := 117, descriptorIndex := 118, attributes := #[] }] 48 6 #[] #[{ accessFlags := 26, nameIndex := 61, descriptorIndex := 62, attributes := #[] }, { accessFlags := 26, nameIndex := 65, descriptorIndex := 62, attributes := #[] }, { accessFlags := 24, nameIndex := 430, descriptorIndex := 62, attributes := #[] }, { accessFlags := 4120, nameIndex := 46, descriptorIndex := 47, attributes := #[] }])
  fields := #[{ name := "HI_BYTE_SHIFT", type := .int, accessFlags := 26, slot := 0, constantValue := 0 }, { name := "LO_BYTE_SHIFT", type := .int, accessFlags := 26, slot := 1, constantValue := 0 }, { name := "MAX_LENGTH", type := .int, accessFlags := 24, slot := 2, constantValue := 0 }, { name := "$assertionsDisabled", type := .boolean, accessFlags := 4120, slot := 3, constantValue := 0 }]
  methods := #[k8m0, k8m1, k8m2, k8m3]
  instanceTypes := #[]
  staticTypes := #[.int, .int, .int, .boolean]
  resolved := Array.replicate 635 none
  statics := none }

def pool9 : Array CpInfo := pool [(8, .class_ 10), (1, u "java/lang/Iterable"), (24, .class_ 36), (0, u "java/lang/Object")] 25

/-- java/lang/Iterable -/
def k9 : Class := { plain "java/lang/Iterable" (some 0) with
  accessFlags := 1537
  interfaces := #[]
  cf := some (fileOf pool9 8 #[] #[] 1537 35 #[] #[])
  fields := #[]
  methods := #[]
  instanceTypes := #[]
  staticTypes := #[]
  resolved := Array.replicate 62 none
  statics := none }

def pool10 : Array CpInfo := pool [(10, .class_ 12), (1, u "java/util/Collection"), (47, .class_ 61), (0, u "java/lang/Object"), (0, .class_ 63), (0, u "java/lang/Iterable")] 51

/-- java/util/Collection -/
def k10 : Class := { plain "java/util/Collection" (some 0) with
  accessFlags := 1537
  interfaces := #[9]
  cf := some (fileOf pool10 10 #[] #[] 1537 60 #[62] #[])
  fields := #[]
  methods := #[]
  instanceTypes := #[]
  staticTypes := #[]
  resolved := Array.replicate 115 none
  statics := none }

def pool11 : Array CpInfo := pool [(1, .methodref 2 3), (0, .class_ 4), (0, .nameAndType 5 6), (0, u "java/lang/Object"), (0, u "<init>"), (0, u "()V"), (1, .class_ 10), (1, u "java/util/AbstractCollection"), (66, .class_ 78), (0, u "java/util/Collection")] 81

def k11c0 : Code := { maxStack := 1, maxLocals := 1, code := jdk_22_method_1_code, exceptionTable := #[], attributes := #[] }
def k11m0 : Method := { name := "<init>", desc := "()V", sig := { parameters := [], returnType := none }, accessFlags := 4, code := some k11c0 }
/-- java/util/AbstractCollection -/
def k11 : Class := { plain "java/util/AbstractCollection" (some 0) with
  accessFlags := 1057
  interfaces := #[10]
  cf := some (fileOf pool11 8 #[] #[{ accessFlags := 4, nameIndex := 5, descriptorIndex := 6, attributes := #[] }] 1057 2 #[77] #[])
  fields := #[]
  methods := #[k11m0]
  instanceTypes := #[]
  staticTypes := #[]
  resolved := Array.replicate 160 none
  statics := none }

def pool12 : Array CpInfo := pool [(8, .class_ 10), (1, u "java/util/SequencedCollection"), (15, .class_ 27), (0, u "java/lang/Object"), (0, .class_ 29), (0, u "java/util/Collection")] 27

/-- java/util/SequencedCollection -/
def k12 : Class := { plain "java/util/SequencedCollection" (some 0) with
  accessFlags := 1537
  interfaces := #[10]
  cf := some (fileOf pool12 8 #[] #[] 1537 26 #[28] #[])
  fields := #[]
  methods := #[]
  instanceTypes := #[]
  staticTypes := #[]
  resolved := Array.replicate 57 none
  statics := none }

def pool13 : Array CpInfo := pool [(8, .class_ 10), (1, u "java/util/List"), (92, .class_ 104), (0, u "java/lang/Object"), (15, .class_ 121), (0, u "java/util/SequencedCollection")] 129

/-- java/util/List -/
def k13 : Class := { plain "java/util/List" (some 0) with
  accessFlags := 1537
  interfaces := #[12]
  cf := some (fileOf pool13 8 #[] #[] 1537 103 #[120] #[])
  fields := #[]
  methods := #[]
  instanceTypes := #[]
  staticTypes := #[]
  resolved := Array.replicate 251 none
  statics := none }

def pool14 : Array CpInfo := pool [(1, .methodref 2 3), (0, .class_ 4), (0, .nameAndType 5 6), (0, u "java/util/AbstractCollection"), (0, u "<init>"), (0, u "()V"), (0, .fieldref 8 9), (0, .class_ 10), (0, .nameAndType 11 12), (0, u "java/util/AbstractList"), (0, u "modCount"), (0, u "I"), (64, .class_ 78), (0, u "java/util/AbstractList$Itr"), (3, .class_ 83), (0, u "java/util/AbstractList$ListItr"), (9, .class_ 94), (0, u "java/util/AbstractList$RandomAccessSubList"), (3, .class_ 99), (0, u "java/util/AbstractList$SubList"), (33, .class_ 134), (0, u "java/util/List"), (73, .class_ 209), (0, u "java/util/AbstractList$SubList$1"), (0, .class_ 211), (0, u "java/util/AbstractList$RandomAccessSpliterator")] 6

def k14c0 : Code := { maxStack := 2, maxLocals := 1, code := jdk_39_method_1_code, exceptionTable := #[], attributes := #[] }
def k14m0 : Method := { name := "<init>", desc := "()V", sig := { parameters := [], returnType := none }, accessFlags := 4, code := some k14c0 }
/-- java/util/AbstractList -/
def k14 : Class := { plain "java/util/AbstractList" (some 11) with
  accessFlags := 1057
  interfaces := #[13]
  cf := some (fileOf pool14 8 #[.nestMembers #[93, 98, 208, 210, 82, 77]] #[{ accessFlags := 4, nameIndex := 5, descriptorIndex := 6, attributes := #[] }] 1057 2 #[133] #[{ accessFlags := 132, nameIndex := 11, descriptorIndex := 12, attributes := #[] }])
  fields := #[{ name := "modCount", type := .int, accessFlags := 132, slot := 0, constantValue := 0 }]
  methods := #[k14m0]
  instanceTypes := #[.int]
  staticTypes := #[]
  resolved := Array.replicate 218 none
  statics := none }

def pool15 : Array CpInfo := pool [(1, .class_ 2), (0, u "java/util/RandomAccess"), (0, .class_ 4), (0, u "java/lang/Object")] 2

/-- java/util/RandomAccess -/
def k15 : Class := { plain "java/util/RandomAccess" (some 0) with
  accessFlags := 1537
  interfaces := #[]
  cf := some (fileOf pool15 1 #[] #[] 1537 3 #[] #[])
  fields := #[]
  methods := #[]
  instanceTypes := #[]
  staticTypes := #[]
  resolved := Array.replicate 7 none
  statics := none }

def pool16 : Array CpInfo := pool [(1, .class_ 2), (0, u "java/lang/Cloneable"), (0, .class_ 4), (0, u "java/lang/Object")] 2

/-- java/lang/Cloneable -/
def k16 : Class := { plain "java/lang/Cloneable" (some 0) with
  accessFlags := 1537
  interfaces := #[]
  cf := some (fileOf pool16 1 #[] #[] 1537 3 #[] #[])
  fields := #[]
  methods := #[]
  instanceTypes := #[]
  staticTypes := #[]
  resolved := Array.replicate 7 none
  statics := none }

def pool17 : Array CpInfo := pool [(1, .methodref 2 3), (0, .class_ 4), (0, .nameAndType 5 6), (0, u "java/util/AbstractList"), (0, u "<init>"), (0, u "()V"), (2, .fieldref 10 11), (0, .class_ 12), (0, .nameAndType 13 14), (0, u "java/util/ArrayList"), (0, u "elementData"), (0, u "[Ljava/lang/Object;"), (2, u "EMPTY_ELEMENTDATA"), (21, .fieldref 10 40), (0, .nameAndType 41 14), (0, u "DEFAULTCAPACITY_EMPTY_ELEMENTDATA"), (8, u "size"), (0, u "I"), (96, .class_ 149), (0, u "java/util/List"), (112, .class_ 263), (0, u "java/util/ArrayList$ListItr"), (3, .class_ 268), (0, u "java/util/ArrayList$Itr"), (7, .class_ 277), (0, u "java/util/ArrayList$SubList"), (12, .class_ 291), (0, u "java/util/ArrayList$ArrayListSpliterator"), (37, .class_ 330), (0, u "java/util/RandomAccess"), (0, .class_ 332), (0, u "java/lang/Cloneable"), (0, .class_ 334), (0, u "java/io/Serializable"), (0, u "serialVersionUID"), (0, u "J"), (3, u "DEFAULT_CAPACITY"), (159, .class_ 501), (0, u "java/util/ArrayList$SubList$2"), (0, .class_ 503), (0, u "java/util/ArrayList$SubList$1")] 5

def k17c0 : Code := { maxStack := 2, maxLocals := 1, code := jdk_38_method_2_code, exceptionTable := #[], attributes := #[] }
def k17m0 : Method := { name := "<init>", desc := "()V", sig := { parameters := [], returnType := none }, accessFlags := 1, code := some k17c0 }
/-- java/util/ArrayList -/
def k17 : Class := { plain "java/util/ArrayList" (some 14) with
  accessFlags := 33
  interfaces := #[13, 15, 16, 2]
  cf := some (fileOf pool17 10 #[.nestMembers #[290, 276, 500, 502, 262, 267]] #[{ accessFlags := 1, nameIndex := 5, descriptorIndex := 6, attributes := #[] }] 33 2 #[148, 329, 331, 333] #[{ accessFlags := 26, nameIndex := 335, descriptorIndex := 336, attributes := #[] }, { accessFlags := 26, nameIndex := 340, descriptorIndex := 51, attributes := #[] }, { accessFlags := 26, nameIndex := 17, descriptorIndex := 14, attributes := #[] }, { accessFlags := 26, nameIndex := 41, descriptorIndex := 14, attributes := #[] }, { accessFlags := 128, nameIndex := 13, descriptorIndex := 14, attributes := #[] }, { accessFlags := 2, nameIndex := 50, descriptorIndex := 51, attributes := #[] }])
  fields := #[{ name := "serialVersionUID", type := .long, accessFlags := 26, slot := 0, constantValue := 0 }, { name := "DEFAULT_CAPACITY", type := .int, accessFlags := 26, slot := 1, constantValue := 0 }, { name := "EMPTY_ELEMENTDATA", type := (.array (.object "java/lang/Object")), accessFlags := 26, slot := 2, constantValue := 0 }, { name := "DEFAULTCAPACITY_EMPTY_ELEMENTDATA", type := (.array (.object "java/lang/Object")), accessFlags := 26, slot := 3, constantValue := 0 }, { name := "elementData", type := (.array (.object "java/lang/Object")), accessFlags := 128, slot := 1, constantValue := 0 }, { name := "size", type := .int, accessFlags := 2, slot := 2, constantValue := 0 }]
  methods := #[k17m0]
  instanceTypes := #[.int, (.array (.object "java/lang/Object")), .int]
  staticTypes := #[.long, .int, (.array (.object "java/lang/Object")), (.array (.object "java/lang/Object"))]
  resolved := Array.replicate 509 none
  statics := some 1 }

def pool18 : Array CpInfo := pool [(1, .methodref 2 3), (0, .class_ 4), (0, .nameAndType 5 6), (0, u "java/lang/Object"), (0, u "<init>"), (0, u "()V"), (0, .class_ 8), (0, u "java/lang/Record")] 13

def k18c0 : Code := { maxStack := 1, maxLocals := 1, code := jdk_30_method_1_code, exceptionTable := #[], attributes := #[] }
def k18m0 : Method := { name := "<init>", desc := "()V", sig := { parameters := [], returnType := none }, accessFlags := 4, code := some k18c0 }
/-- java/lang/Record -/
def k18 : Class := { plain "java/lang/Record" (some 0) with
  accessFlags := 1057
  interfaces := #[]
  cf := some (fileOf pool18 7 #[] #[{ accessFlags := 4, nameIndex := 5, descriptorIndex := 6, attributes := #[] }] 1057 2 #[] #[])
  fields := #[]
  methods := #[k18m0]
  instanceTypes := #[]
  staticTypes := #[]
  resolved := Array.replicate 22 none
  statics := none }

def pool19 : Array CpInfo := pool [(1, .methodref 2 3), (0, .class_ 4), (0, .nameAndType 5 6), (0, u "java/lang/Record"), (0, u "<init>"), (0, u "()V"), (0, .fieldref 8 9), (0, .class_ 10), (0, .nameAndType 11 12), (0, u "com/example/hearthkey/hearthkey/gateway/cli/Option"), (0, u "name"), (0, u "Ljava/lang/String;"), (0, .fieldref 8 14), (0, .nameAndType 15 12), (0, u "value"), (0, .fieldref 8 17), (0, .nameAndType 18 19), (0, u "about"), (0, u "Ljava/util/List;"), (8, u "(Ljava/lang/String;Ljava/lang/String;Ljava/util/List;)V"), (4, u "isFlag"), (0, u "()Z")] 69

def k19c0 : Code := { maxStack := 2, maxLocals := 4, code := prog_40_method_1_code, exceptionTable := #[], attributes := #[] }
def k19m0 : Method := { name := "<init>", desc := "(Ljava/lang/String;Ljava/lang/String;Ljava/util/List;)V", sig := { parameters := [(.object "java/lang/String"), (.object "java/lang/String"), (.object "java/util/List")], returnType := none }, accessFlags := 0, code := some k19c0 }
def k19c1 : Code := { maxStack := 1, maxLocals := 1, code := prog_40_method_4_code, exceptionTable := #[], attributes := #[] }
def k19m1 : Method := { name := "isFlag", desc := "()Z", sig := { parameters := [], returnType := some .boolean }, accessFlags := 0, code := some k19c1 }
/-- com/example/hearthkey/hearthkey/gateway/cli/Option -/
def k19 : Class := { plain "com/example/hearthkey/hearthkey/gateway/cli/Option" (some 18) with
  accessFlags := 48
  interfaces := #[]
  cf := some (fileOf pool19 8 #[] #[{ accessFlags := 0, nameIndex := 5, descriptorIndex := 28, attributes := #[] }, { accessFlags := 0, nameIndex := 33, descriptorIndex := 34, attributes := #[] }] 48 2 #[] #[{ accessFlags := 18, nameIndex := 11, descriptorIndex := 12, attributes := #[] }, { accessFlags := 18, nameIndex := 15, descriptorIndex := 12, attributes := #[] }, { accessFlags := 18, nameIndex := 18, descriptorIndex := 19, attributes := #[] }])
  fields := #[{ name := "name", type := (.object "java/lang/String"), accessFlags := 18, slot := 0, constantValue := 0 }, { name := "value", type := (.object "java/lang/String"), accessFlags := 18, slot := 1, constantValue := 0 }, { name := "about", type := (.object "java/util/List"), accessFlags := 18, slot := 2, constantValue := 0 }]
  methods := #[k19m0, k19m1]
  instanceTypes := #[(.object "java/lang/String"), (.object "java/lang/String"), (.object "java/util/List")]
  staticTypes := #[]
  resolved := Array.replicate 104 none
  statics := none }

def pool20 : Array CpInfo := pool [(4, .class_ 6), (1, u "java/lang/Object"), (0, u "<init>"), (0, u "()V"), (5, .class_ 16), (1, u "java/lang/StringLatin1"), (73, u "canEncode"), (14, u "(C)Z"), (15, u "$assertionsDisabled"), (0, u "Z"), (98, .class_ 223), (1, u "java/lang/StringLatin1$LinesSpliterator"), (156, u "toBytes"), (1, u "(C)[B"), (7, .class_ 391), (0, u "java/lang/StringLatin1$CharsSpliterator")] 3

def k20m0 : Method := { name := "<init>", desc := "()V", sig := { parameters := [], returnType := none }, accessFlags := 0, code := none }
def k20c1 : Code := { maxStack := 2, maxLocals := 1, code := jdk_43_method_3_code, exceptionTable := #[], attributes := #[] }
def k20m1 : Method := { name := "canEncode", desc := "(C)Z", sig := { parameters := [.char], returnType := some .boolean }, accessFlags := 9, code := some k20c1 }
def k20c2 : Code := { maxStack := 4, maxLocals := 1, code := jdk_43_method_46_code, exceptionTable := #[], attributes := #[] }
def k20m2 : Method := { name := "toBytes", desc := "(C)[B", sig := { parameters := [.char], returnType := some (.array .byte) }, accessFlags := 9, code := some k20c2 }
/-- java/lang/StringLatin1 -/
def k20 : Class := { plain "java/lang/StringLatin1" (some 0) with
  accessFlags := 48
  interfaces := #[]
  cf := some (fileOf pool20 14 #[.nestMembers #[390, 221]] #[{ accessFlags := 0, nameIndex := 7, descriptorIndex := 8, attributes := #[] }, { accessFlags := 9, nameIndex := 90, descriptorIndex := 105, attributes := #[] }, { accessFlags := 9, nameIndex := 380, descriptorIndex := 382, attributes := #[] }] 48 4 #[] #[{ accessFlags := 4120, nameIndex := 121, descriptorIndex := 122, attributes := #[] }])
  fields := #[{ name := "$assertionsDisabled", type := .boolean, accessFlags := 4120, slot := 0, constantValue := 0 }]
  methods := #[k20m0, k20m1, k20m2]
  instanceTypes := #[]
  staticTypes := #[.boolean]
  resolved := Array.replicate 395 none
  statics := none }

def pool21 : Array CpInfo := pool [(2, .class_ 4), (1, u "java/lang/Object"), (0, u "<init>"), (0, u "()V"), (17, .class_ 26), (1, u "jdk/internal/util/Preconditions"), (28, .class_ 56), (0, u "jdk/internal/util/Preconditions$4"), (57, .class_ 115), (0, u "jdk/internal/util/Preconditions$1"), (7, u "SIOOBE_FORMATTER"), (0, u "Ljava/util/function/BiFunction;"), (0, .class_ 126), (0, u "jdk/internal/util/Preconditions$2"), (3, u "AIOOBE_FORMATTER"), (0, .class_ 132), (0, u "jdk/internal/util/Preconditions$3"), (3, u "IOOBE_FORMATTER")] 57

def k21m0 : Method := { name := "<init>", desc := "()V", sig := { parameters := [], returnType := none }, accessFlags := 1, code := none }
/-- jdk/internal/util/Preconditions -/
def k21 : Class := { plain "jdk/internal/util/Preconditions" (some 0) with
  accessFlags := 33
  interfaces := #[]
  cf := some (fileOf pool21 24 #[.nestMembers #[55, 131, 125, 114]] #[{ accessFlags := 1, nameIndex := 5, descriptorIndex := 6, attributes := #[] }] 33 2 #[] #[{ accessFlags := 25, nameIndex := 123, descriptorIndex := 124, attributes := #[] }, { accessFlags := 25, nameIndex := 130, descriptorIndex := 124, attributes := #[] }, { accessFlags := 25, nameIndex := 136, descriptorIndex := 124, attributes := #[] }])
  fields := #[{ name := "SIOOBE_FORMATTER", type := (.object "java/util/function/BiFunction"), accessFlags := 25, slot := 0, constantValue := 0 }, { name := "AIOOBE_FORMATTER", type := (.object "java/util/function/BiFunction"), accessFlags := 25, slot := 1, constantValue := 0 }, { name := "IOOBE_FORMATTER", type := (.object "java/util/function/BiFunction"), accessFlags := 25, slot := 2, constantValue := 0 }]
  methods := #[k21m0]
  instanceTypes := #[]
  staticTypes := #[(.object "java/util/function/BiFunction"), (.object "java/util/function/BiFunction"), (.object "java/util/function/BiFunction")]
  resolved := Array.replicate 194 none
  statics := some 2 }

def pool22 : Array CpInfo := pool [(9, u "<init>"), (6, .class_ 18), (1, u "java/lang/Object"), (0, u "()V"), (1, .class_ 23), (1, u "jdk/internal/util/ArraysSupport"), (0, u "LOG2_ARRAY_LONG_INDEX_SCALE"), (0, u "I"), (2, u "U"), (0, u "Ljdk/internal/misc/Unsafe;"), (8, u "BIG_ENDIAN"), (0, u "Z"), (8, u "LOG2_BYTE_BIT_SIZE"), (4, u "LOG2_ARRAY_INT_INDEX_SCALE"), (54, u "JLA"), (0, u "Ljdk/internal/access/JavaLangAccess;"), (11, u "LOG2_ARRAY_BOOLEAN_INDEX_SCALE"), (9, u "LOG2_ARRAY_BYTE_INDEX_SCALE"), (5, u "LOG2_ARRAY_CHAR_INDEX_SCALE"), (5, u "LOG2_ARRAY_SHORT_INDEX_SCALE"), (18, u "LOG2_ARRAY_FLOAT_INDEX_SCALE"), (24, u "LOG2_ARRAY_DOUBLE_INDEX_SCALE"), (89, u "T_BOOLEAN"), (2, u "T_CHAR"), (1, u "T_FLOAT"), (1, u "T_DOUBLE"), (1, u "T_BYTE"), (1, u "T_SHORT"), (1, u "T_INT"), (1, u "T_LONG"), (1, u "SOFT_MAX_ARRAY_LENGTH")] 83

def k22m0 : Method := { name := "<init>", desc := "()V", sig := { parameters := [], returnType := none }, accessFlags := 2, code := none }
/-- jdk/internal/util/ArraysSupport -/
def k22 : Class := { plain "jdk/internal/util/ArraysSupport" (some 0) with
  accessFlags := 33
  interfaces := #[]
  cf := some (fileOf pool22 21 #[] #[{ accessFlags := 2, nameIndex := 9, descriptorIndex := 19, attributes := #[] }] 33 16 #[] #[{ accessFlags := 24, nameIndex := 28, descriptorIndex := 29, attributes := #[] }, { accessFlags := 26, nameIndex := 38, descriptorIndex := 39, attributes := #[] }, { accessFlags := 25, nameIndex := 121, descriptorIndex := 25, attributes := #[] }, { accessFlags := 25, nameIndex := 131, descriptorIndex := 25, attributes := #[] }, { accessFlags := 25, nameIndex := 137, descriptorIndex := 25, attributes := #[] }, { accessFlags := 25, nameIndex := 143, descriptorIndex := 25, attributes := #[] }, { accessFlags := 25, nameIndex := 53, descriptorIndex := 25, attributes := #[] }, { accessFlags := 25, nameIndex := 24, descriptorIndex := 25, attributes := #[] }, { accessFlags := 25, nameIndex := 162, descriptorIndex := 25, attributes := #[] }, { accessFlags := 25, nameIndex := 187, descriptorIndex := 25, attributes := #[] }, { accessFlags := 26, nameIndex := 48, descriptorIndex := 25, attributes := #[] }, { accessFlags := 25, nameIndex := 277, descriptorIndex := 25, attributes := #[] }, { accessFlags := 25, nameIndex := 280, descriptorIndex := 25, attributes := #[] }, { accessFlags := 25, nameIndex := 282, descriptorIndex := 25, attributes := #[] }, { accessFlags := 25, nameIndex := 284, descriptorIndex := 25, attributes := #[] }, { accessFlags := 25, nameIndex := 286, descriptorIndex := 25, attributes := #[] }, { accessFlags := 25, nameIndex := 288, descriptorIndex := 25, attributes := #[] }, { accessFlags := 25, nameIndex := 290, descriptorIndex := 25, attributes := #[] }, { accessFlags := 25, nameIndex := 292, descriptorIndex := 25, attributes := #[] }, { accessFlags := 26, nameIndex := 108, descriptorIndex := 109, attributes := #[] }, { accessFlags := 25, nameIndex := 294, descriptorIndex := 25, attributes := #[] }])
  fields := #[{ name := "U", type := (.object "jdk/internal/misc/Unsafe"), accessFlags := 24, slot := 0, constantValue := 0 }, { name := "BIG_ENDIAN", type := .boolean, accessFlags := 26, slot := 1, constantValue := 0 }, { name := "LOG2_ARRAY_BOOLEAN_INDEX_SCALE", type := .int, accessFlags := 25, slot := 2, constantValue := 0 }, { name := "LOG2_ARRAY_BYTE_INDEX_SCALE", type := .int, accessFlags := 25, slot := 3, constantValue := 0 }, { name := "LOG2_ARRAY_CHAR_INDEX_SCALE", type := .int, accessFlags := 25, slot := 4, constantValue := 0 }, { name := "LOG2_ARRAY_SHORT_INDEX_SCALE", type := .int, accessFlags := 25, slot := 5, constantValue := 0 }, { name := "LOG2_ARRAY_INT_INDEX_SCALE", type := .int, accessFlags := 25, slot := 6, constantValue := 0 }, { name := "LOG2_ARRAY_LONG_INDEX_SCALE", type := .int, accessFlags := 25, slot := 7, constantValue := 0 }, { name := "LOG2_ARRAY_FLOAT_INDEX_SCALE", type := .int, accessFlags := 25, slot := 8, constantValue := 0 }, { name := "LOG2_ARRAY_DOUBLE_INDEX_SCALE", type := .int, accessFlags := 25, slot := 9, constantValue := 0 }, { name := "LOG2_BYTE_BIT_SIZE", type := .int, accessFlags := 26, slot := 10, constantValue := 0 }, { name := "T_BOOLEAN", type := .int, accessFlags := 25, slot := 11, constantValue := 0 }, { name := "T_CHAR", type := .int, accessFlags := 25, slot := 12, constantValue := 0 }, { name := "T_FLOAT", type := .int, accessFlags := 25, slot := 13, constantValue := 0 }, { name := "T_DOUBLE", type := .int, accessFlags := 25, slot := 14, constantValue := 0 }, { name := "T_BYTE", type := .int, accessFlags := 25, slot := 15, constantValue := 0 }, { name := "T_SHORT", type := .int, accessFlags := 25, slot := 16, constantValue := 0 }, { name := "T_INT", type := .int, accessFlags := 25, slot := 17, constantValue := 0 }, { name := "T_LONG", type := .int, accessFlags := 25, slot := 18, constantValue := 0 }, { name := "JLA", type := (.object "jdk/internal/access/JavaLangAccess"), accessFlags := 26, slot := 19, constantValue := 0 }, { name := "SOFT_MAX_ARRAY_LENGTH", type := .int, accessFlags := 25, slot := 20, constantValue := 0 }]
  methods := #[k22m0]
  instanceTypes := #[]
  staticTypes := #[(.object "jdk/internal/misc/Unsafe"), .boolean, .int, .int, .int, .int, .int, .int, .int, .int, .int, .int, .int, .int, .int, .int, .int, .int, .int, (.object "jdk/internal/access/JavaLangAccess"), .int]
  resolved := Array.replicate 378 none
  statics := none }

/-- the primitive byte -/
def k23 : Class := { plain "byte" none with kind := .primitive 'B', accessFlags := 0x411 }
/-- [B -/
def k24 : Class := { plain "[B" (some 0) with kind := .array 23 .byte, interfaces := #[16, 2], accessFlags := 1041 }

/-- the primitive char -/
def k25 : Class := { plain "char" none with kind := .primitive 'C', accessFlags := 0x411 }
/-- [C -/
def k26 : Class := { plain "[C" (some 0) with kind := .array 25 .char, interfaces := #[16, 2], accessFlags := 1041 }

/-- the primitive int -/
def k27 : Class := { plain "int" none with kind := .primitive 'I', accessFlags := 0x411 }
/-- [I -/
def k28 : Class := { plain "[I" (some 0) with kind := .array 27 .int, interfaces := #[16, 2], accessFlags := 1041 }

/-- [Ljava/lang/Object; -/
def k29 : Class := { plain "[Ljava/lang/Object;" (some 0) with kind := .array 0 (.object "java/lang/Object"), interfaces := #[16, 2], accessFlags := 1041 }

def heap : Heap := #[{ cls := 7, slots := #[.long 0, .int 1, .null, .int 0, .null, .int 0, .int 0], vm := .statics 7 },
  { cls := 17, slots := #[.long 0, .int 0, .ref 3, .ref 4], vm := .statics 17 },
  { cls := 21, slots := #[.null, .null, .null], vm := .statics 21 },
  { cls := 29, slots := #[], vm := .none },
  { cls := 29, slots := #[], vm := .none }]
def classes : Array Class := #[k0, k1, k2, k3, k4, k5, k6, k7, k8, k9, k10, k11, k12, k13, k14, k15, k16, k17, k18, k19, k20, k21, k22, k23, k24, k25, k26, k27, k28, k29]
def interned : List (Array UInt16 × Addr) := []
def slotsUsed : Nat := 14
def theMethod : MethodId := ⟨1, 1⟩
def args0 : Array Value := #[.int 5, .int 5, .int 5, .int 5]
def aboutOver (below : List Frame) : State where
  vm := { classes := classes, interned := interned.toArray }
  heap := heap
  slotsUsed := slotsUsed
  threads := #[{ frames := .invoking theMethod args0 :: below }]
def below0 : List Frame := [.native { method := ⟨0, 0⟩, args := #[] }]
def about1 : State := aboutOver below0
def p0 : Program := .bare "" "" ""
def e0 : Env := launch0.env 0 0 0
theorem w_frames : about1.frames = Frame.invoking theMethod args0 :: below0 := rfl
set_option maxRecDepth 65536 in
theorem w_args : argsFit about1.vm theMethod args0 = true := by decide +kernel
set_option maxRecDepth 65536 in
theorem w_heap : heapFits about1 = true := by decide +kernel
set_option maxRecDepth 65536 in
theorem w_runnable : about1.curStatus? = some .runnable := by decide +kernel
set_option maxRecDepth 65536 in
theorem w_alone : about1.alone = true := by decide +kernel
set_option maxRecDepth 65536 in
theorem w_named : about1.methodNamed? x = some theMethod := by decide +kernel
set_option maxRecDepth 65536 in
theorem w_hears : about1.hears theMethod below0 = true := by decide +kernel
set_option maxRecDepth 65536 in
theorem w_ripe : about1.ripe theMethod args0 below0 = true := by decide +kernel
theorem w_running : about1.status = .running := rfl
set_option maxRecDepth 65536 in
theorem w_room : about1.hasRoom e0.platform room_1 = true :=
  launch0.hasRoom_least _ room_1 (by decide +kernel) (by decide +kernel) (by decide +kernel) (by decide +kernel) (by decide +kernel) (by decide +kernel)
theorem allAtoms_all (ts : List Jvm.Cond) (a : Array Jvm.Value) (st : Jvm.State) : (allAtoms ts).before a st = ts.all (fun c => c.before a st) := by
  induction ts with
  | nil => rfl
  | cons c t ih =>
    show (Jvm.Cond.and c (allAtoms t)).before a st = _
    rw [Jvm.Cond.before_and, ih, List.all_cons]
def words1 : List Jvm.Cond := Jvm.Cond.code x code maxLocals ret :: tables_1
/-- a 'code' word, met by the world's own term for the bytes: nothing is compared byte by byte -/
theorem code_word {y : MethodName} {bytes : ByteArray} {mx : Nat} {rt : Option FieldType} {a : Array Value} {s : State} {m : MethodId} {meth : Method} {c : Code} (h1 : s.methodNamed? y = some m) (h2 : s.vm.method? m = some meth) (h3 : meth.code = some c) (h4 : c.code = bytes)
    (h5 : (c.maxLocals == mx && c.exceptionTable.isEmpty && decide (c.maxStack ≤ mostOperands) && decide (meth.sig.returnType = rt) && !meth.locks && decide (parseMethodDescriptor y.desc = some meth.sig)) = true) : (Jvm.Cond.code y bytes mx rt).before a s = true := by
  simp only [Bool.and_eq_true, beq_iff_eq, Bool.not_eq_true', decide_eq_true_eq] at h5
  obtain ⟨⟨⟨⟨⟨g1, g2⟩, g3⟩, g4⟩, g5⟩, g6⟩ := h5
  simp [Cond.before, Cond.holds, Cond.value, h1, h2, h3, h4, g1, g2, g3, g4, g5, g6]
def isCode : Jvm.Cond → Bool
  | .code _ _ _ _ => true
  | _ => false
theorem all_split {L : List Jvm.Cond} {P : Jvm.Cond → Bool} (h1 : L.all (fun c => isCode c || P c) = true) (h2 : ∀ c ∈ L.filter isCode, P c = true) : L.all P = true := by
  refine List.all_eq_true.mpr fun c hc => ?_
  have h := List.all_eq_true.mp h1 c hc
  rcases Bool.eq_false_or_eq_true (isCode c) with hi | hi
  · exact h2 c (List.mem_filter.mpr ⟨hc, hi⟩)
  · simpa [hi] using h
set_option maxRecDepth 65536 in
theorem w_c0 : (Jvm.Cond.code x code maxLocals ret).before args0 about1 = true := code_word (m := ⟨1, 1⟩) (meth := k1m1) (c := k1c1) (by decide +kernel) rfl rfl rfl (by decide +kernel)
set_option maxRecDepth 65536 in
theorem w_c1 : (Jvm.Cond.code ({ cls := "java/lang/String", name := "<init>", desc := "([C)V" } : Jvm.MethodName) jdk_42_method_3_code (2 : Nat) (Option.none : Option Jvm.ClassFile.FieldType)).before args0 about1 = true := code_word (m := ⟨7, 1⟩) (meth := k7m1) (c := k7c1) (by decide +kernel) rfl rfl rfl (by decide +kernel)
set_option maxRecDepth 65536 in
theorem w_c2 : (Jvm.Cond.code ({ cls := "java/lang/String", name := "<init>", desc := "([CIILjava/lang/Void;)V" } : Jvm.MethodName) jdk_42_method_149_code (6 : Nat) (Option.none : Option Jvm.ClassFile.FieldType)).before args0 about1 = true := code_word (m := ⟨7, 3⟩) (meth := k7m3) (c := k7c3) (by decide +kernel) rfl rfl rfl (by decide +kernel)
set_option maxRecDepth 65536 in
theorem w_c3 : (Jvm.Cond.code ({ cls := "java/lang/Object", name := "<init>", desc := "()V" } : Jvm.MethodName) object_method_1_code (1 : Nat) (Option.none : Option Jvm.ClassFile.FieldType)).before args0 about1 = true := code_word (m := ⟨0, 0⟩) (meth := k0m0) (c := k0c0) (by decide +kernel) rfl rfl rfl (by decide +kernel)
set_option maxRecDepth 65536 in
theorem w_c4 : (Jvm.Cond.code ({ cls := "java/lang/StringUTF16", name := "compress", desc := "([CII)[B" } : Jvm.MethodName) jdk_52_method_16_code (6 : Nat) (Option.some (Jvm.ClassFile.FieldType.array Jvm.ClassFile.FieldType.byte))).before args0 about1 = true := code_word (m := ⟨8, 2⟩) (meth := k8m2) (c := k8c2) (by decide +kernel) rfl rfl rfl (by decide +kernel)
set_option maxRecDepth 65536 in
theorem w_c5 : (Jvm.Cond.code ({ cls := "java/lang/StringUTF16", name := "compress", desc := "([CI[BII)I" } : Jvm.MethodName) jdk_52_method_21_code (7 : Nat) (Option.some Jvm.ClassFile.FieldType.int)).before args0 about1 = true := code_word (m := ⟨8, 3⟩) (meth := k8m3) (c := k8c3) (by decide +kernel) rfl rfl rfl (by decide +kernel)
set_option maxRecDepth 65536 in
theorem w_c6 : (Jvm.Cond.code ({ cls := "java/lang/StringUTF16", name := "coderFromArrayLen", desc := "([BI)B" } : Jvm.MethodName) jdk_52_method_15_code (2 : Nat) (Option.some Jvm.ClassFile.FieldType.byte)).before args0 about1 = true := code_word (m := ⟨8, 1⟩) (meth := k8m1) (c := k8c1) (by decide +kernel) rfl rfl rfl (by decide +kernel)
set_option maxRecDepth 65536 in
theorem w_c7 : (Jvm.Cond.code ({ cls := "java/util/ArrayList", name := "<init>", desc := "()V" } : Jvm.MethodName) jdk_38_method_2_code (1 : Nat) (Option.none : Option Jvm.ClassFile.FieldType)).before args0 about1 = true := code_word (m := ⟨17, 0⟩) (meth := k17m0) (c := k17c0) (by decide +kernel) rfl rfl rfl (by decide +kernel)
set_option maxRecDepth 65536 in
theorem w_c8 : (Jvm.Cond.code ({ cls := "java/util/AbstractList", name := "<init>", desc := "()V" } : Jvm.MethodName) jdk_39_method_1_code (1 : Nat) (Option.none : Option Jvm.ClassFile.FieldType)).before args0 about1 = true := code_word (m := ⟨14, 0⟩) (meth := k14m0) (c := k14c0) (by decide +kernel) rfl rfl rfl (by decide +kernel)
set_option maxRecDepth 65536 in
theorem w_c9 : (Jvm.Cond.code ({ cls := "java/util/AbstractCollection", name := "<init>", desc := "()V" } : Jvm.MethodName) jdk_22_method_1_code (1 : Nat) (Option.none : Option Jvm.ClassFile.FieldType)).before args0 about1 = true := code_word (m := ⟨11, 0⟩) (meth := k11m0) (c := k11c0) (by decide +kernel) rfl rfl rfl (by decide +kernel)
set_option maxRecDepth 65536 in
theorem w_c10 : (Jvm.Cond.code ({ cls := "com/example/hearthkey/hearthkey/gateway/cli/Option", name := "<init>", desc := "(Ljava/lang/String;Ljava/lang/String;Ljava/util/List;)V" } : Jvm.MethodName) prog_40_method_1_code (4 : Nat) (Option.none : Option Jvm.ClassFile.FieldType)).before args0 about1 = true := code_word (m := ⟨19, 0⟩) (meth := k19m0) (c := k19c0) (by decide +kernel) rfl rfl rfl (by decide +kernel)
set_option maxRecDepth 65536 in
theorem w_c11 : (Jvm.Cond.code ({ cls := "java/lang/Record", name := "<init>", desc := "()V" } : Jvm.MethodName) jdk_30_method_1_code (1 : Nat) (Option.none : Option Jvm.ClassFile.FieldType)).before args0 about1 = true := code_word (m := ⟨18, 0⟩) (meth := k18m0) (c := k18c0) (by decide +kernel) rfl rfl rfl (by decide +kernel)
set_option maxRecDepth 65536 in
theorem w_c12 : (Jvm.Cond.code ({ cls := "com/example/hearthkey/hearthkey/gateway/cli/Option", name := "isFlag", desc := "()Z" } : Jvm.MethodName) prog_40_method_4_code (1 : Nat) (Option.some Jvm.ClassFile.FieldType.boolean)).before args0 about1 = true := code_word (m := ⟨19, 1⟩) (meth := k19m1) (c := k19c1) (by decide +kernel) rfl rfl rfl (by decide +kernel)
set_option maxRecDepth 65536 in
theorem w_c13 : (Jvm.Cond.code ({ cls := "java/lang/String", name := "valueOf", desc := "(C)Ljava/lang/String;" } : Jvm.MethodName) jdk_42_method_139_code (1 : Nat) (Option.some (Jvm.ClassFile.FieldType.object "java/lang/String"))).before args0 about1 = true := code_word (m := ⟨7, 2⟩) (meth := k7m2) (c := k7c2) (by decide +kernel) rfl rfl rfl (by decide +kernel)
set_option maxRecDepth 65536 in
theorem w_c14 : (Jvm.Cond.code ({ cls := "java/lang/StringLatin1", name := "canEncode", desc := "(C)Z" } : Jvm.MethodName) jdk_43_method_3_code (1 : Nat) (Option.some Jvm.ClassFile.FieldType.boolean)).before args0 about1 = true := code_word (m := ⟨20, 1⟩) (meth := k20m1) (c := k20c1) (by decide +kernel) rfl rfl rfl (by decide +kernel)
set_option maxRecDepth 65536 in
theorem w_c15 : (Jvm.Cond.code ({ cls := "java/lang/StringLatin1", name := "toBytes", desc := "(C)[B" } : Jvm.MethodName) jdk_43_method_46_code (1 : Nat) (Option.some (Jvm.ClassFile.FieldType.array Jvm.ClassFile.FieldType.byte))).before args0 about1 = true := code_word (m := ⟨20, 2⟩) (meth := k20m2) (c := k20c2) (by decide +kernel) rfl rfl rfl (by decide +kernel)
set_option maxRecDepth 65536 in
theorem w_c16 : (Jvm.Cond.code ({ cls := "java/lang/String", name := "<init>", desc := "([BB)V" } : Jvm.MethodName) jdk_42_method_151_code (3 : Nat) (Option.none : Option Jvm.ClassFile.FieldType)).before args0 about1 = true := code_word (m := ⟨7, 4⟩) (meth := k7m4) (c := k7c4) (by decide +kernel) rfl rfl rfl (by decide +kernel)
def codes1 : List Jvm.Cond := [Jvm.Cond.code x code maxLocals ret, Jvm.Cond.code ({ cls := "java/lang/String", name := "<init>", desc := "([C)V" } : Jvm.MethodName) jdk_42_method_3_code (2 : Nat) (Option.none : Option Jvm.ClassFile.FieldType), Jvm.Cond.code ({ cls := "java/lang/String", name := "<init>", desc := "([CIILjava/lang/Void;)V" } : Jvm.MethodName) jdk_42_method_149_code (6 : Nat) (Option.none : Option Jvm.ClassFile.FieldType), Jvm.Cond.code ({ cls := "java/lang/Object", name := "<init>", desc := "()V" } : Jvm.MethodName) object_method_1_code (1 : Nat) (Option.none : Option Jvm.ClassFile.FieldType), Jvm.Cond.code ({ cls := "java/lang/StringUTF16", name := "compress", desc := "([CII)[B" } : Jvm.MethodName) jdk_52_method_16_code (6 : Nat) (Option.some (Jvm.ClassFile.FieldType.array Jvm.ClassFile.FieldType.byte)), Jvm.Cond.code ({ cls := "java/lang/StringUTF16", name := "compress", desc := "([CI[BII)I" } : Jvm.MethodName) jdk_52_method_21_code (7 : Nat) (Option.some Jvm.ClassFile.FieldType.int), Jvm.Cond.code ({ cls := "java/lang/StringUTF16", name := "coderFromArrayLen", desc := "([BI)B" } : Jvm.MethodName) jdk_52_method_15_code (2 : Nat) (Option.some Jvm.ClassFile.FieldType.byte), Jvm.Cond.code ({ cls := "java/util/ArrayList", name := "<init>", desc := "()V" } : Jvm.MethodName) jdk_38_method_2_code (1 : Nat) (Option.none : Option Jvm.ClassFile.FieldType), Jvm.Cond.code ({ cls := "java/util/AbstractList", name := "<init>", desc := "()V" } : Jvm.MethodName) jdk_39_method_1_code (1 : Nat) (Option.none : Option Jvm.ClassFile.FieldType), Jvm.Cond.code ({ cls := "java/util/AbstractCollection", name := "<init>", desc := "()V" } : Jvm.MethodName) jdk_22_method_1_code (1 : Nat) (Option.none : Option Jvm.ClassFile.FieldType), Jvm.Cond.code ({ cls := "com/example/hearthkey/hearthkey/gateway/cli/Option", name := "<init>", desc := "(Ljava/lang/String;Ljava/lang/String;Ljava/util/List;)V" } : Jvm.MethodName) prog_40_method_1_code (4 : Nat) (Option.none : Option Jvm.ClassFile.FieldType), Jvm.Cond.code ({ cls := "java/lang/Record", name := "<init>", desc := "()V" } : Jvm.MethodName) jdk_30_method_1_code (1 : Nat) (Option.none : Option Jvm.ClassFile.FieldType), Jvm.Cond.code ({ cls := "com/example/hearthkey/hearthkey/gateway/cli/Option", name := "isFlag", desc := "()Z" } : Jvm.MethodName) prog_40_method_4_code (1 : Nat) (Option.some Jvm.ClassFile.FieldType.boolean), Jvm.Cond.code ({ cls := "java/lang/String", name := "valueOf", desc := "(C)Ljava/lang/String;" } : Jvm.MethodName) jdk_42_method_139_code (1 : Nat) (Option.some (Jvm.ClassFile.FieldType.object "java/lang/String")), Jvm.Cond.code ({ cls := "java/lang/StringLatin1", name := "canEncode", desc := "(C)Z" } : Jvm.MethodName) jdk_43_method_3_code (1 : Nat) (Option.some Jvm.ClassFile.FieldType.boolean), Jvm.Cond.code ({ cls := "java/lang/StringLatin1", name := "toBytes", desc := "(C)[B" } : Jvm.MethodName) jdk_43_method_46_code (1 : Nat) (Option.some (Jvm.ClassFile.FieldType.array Jvm.ClassFile.FieldType.byte)), Jvm.Cond.code ({ cls := "java/lang/String", name := "<init>", desc := "([BB)V" } : Jvm.MethodName) jdk_42_method_151_code (3 : Nat) (Option.none : Option Jvm.ClassFile.FieldType)]
set_option maxRecDepth 65536 in
theorem codes_eq : words1.filter isCode = codes1 := rfl
theorem w_codes : ∀ c ∈ words1.filter isCode, c.before args0 about1 = true := by
  rw [codes_eq]
  intro c hc
  simp only [codes1, List.mem_cons, List.not_mem_nil, or_false] at hc
  rcases hc with rfl | rfl | rfl | rfl | rfl | rfl | rfl | rfl | rfl | rfl | rfl | rfl | rfl | rfl | rfl | rfl | rfl
  · exact w_c0
  · exact w_c1
  · exact w_c2
  · exact w_c3
  · exact w_c4
  · exact w_c5
  · exact w_c6
  · exact w_c7
  · exact w_c8
  · exact w_c9
  · exact w_c10
  · exact w_c11
  · exact w_c12
  · exact w_c13
  · exact w_c14
  · exact w_c15
  · exact w_c16
set_option maxRecDepth 65536 in
theorem w_t1 : (words1.take 24).all (fun c => isCode c || c.before args0 about1) = true := by decide +kernel
set_option maxRecDepth 65536 in
theorem w_t2 : ((words1.drop 24).take 24).all (fun c => isCode c || c.before args0 about1) = true := by decide +kernel
set_option maxRecDepth 65536 in
theorem w_t3 : (((words1.drop 24).drop 24).take 24).all (fun c => isCode c || c.before args0 about1) = true := by decide +kernel
set_option maxRecDepth 65536 in
theorem w_t4 : (((words1.drop 24).drop 24).drop 24).all (fun c => isCode c || c.before args0 about1) = true := by decide +kernel
theorem w_tables : (allAtoms (Jvm.Cond.code x code maxLocals ret :: tables_1)).before args0 about1 = true := by
  rw [allAtoms_all]
  show words1.all (fun c => c.before args0 about1) = true
  refine all_split ?_ w_codes
  rw [← List.take_append_drop 24 words1, List.all_append, w_t1, ← List.take_append_drop 24 (words1.drop 24), List.all_append, w_t2, ← List.take_append_drop 24 ((words1.drop 24).drop 24), List.all_append, w_t3, w_t4]
  rfl
set_option maxRecDepth 65536 in
theorem w_rest : rest_1_c.before args0 about1 = true := by decide +kernel
set_option maxRecDepth 65536 in
theorem w_case : (Jvm.Cond.and given_1 narrow_1).before args0 about1 = true := by decide +kernel
set_option maxRecDepth 65536 in
theorem w_consts : constsHeld consts_1 about1 := Jvm.Lit.constsHeldB_iff.mp (by decide +kernel)
theorem w_applies : (headSpec (Jvm.Cond.code x code maxLocals ret :: tables_1) room_1).applies x e0.platform about1 = true :=
  (Spec.applies_iff w_frames).mpr ⟨w_running, w_runnable, w_alone, w_named, w_hears, w_ripe, w_room, w_tables⟩
theorem atStart : AtStart classFile x code maxLocals ret World_1 tables_1 room_1 Calls_1 rest_1 Pre_1 launch0 p0 e0 about1 theMethod args0 below0 :=
  ⟨lists_1, trivial, launch0.admits_env _ _ _, launch0.least_env, fairChoices_fair.cas, fairChoices_fair.clock, w_frames, w_args, w_heap, w_applies, ⟨w_consts, trivial⟩, w_rest, w_case⟩
end start1
theorem witness_1 : WitnessClaimed_1 := ⟨start1.p0, start1.e0, start1.about1, start1.theMethod, start1.args0, start1.below0, start1.atStart⟩
end Jvm.Pilot.@@N@@
