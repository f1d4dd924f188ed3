import JvmDerived
import JvmDerived.Pilot.@@N@@Statement
import JvmDerived.Pilot.@@N@@Code
set_option linter.unusedVariables false
set_option linter.unusedSimpArgs false
@@BLOCK:NumsL.lean.txt@@
namespace Jvm.RoadKit
open Sem ClassFile Op Lib Jvm.Stand Jvm.Free Jvm.LawKit
section New
variable {p : Program} {l : Launch} {e : Env} {R : Room} {s : State} {m : MethodId} {args : Array Value} {below : List Frame} {meth : Method} {c : Code} {T : State} {locs : List Loc} {cells slots : Nat}
theorem retI (X : Stand p l e R s m args below meth c T locs cells slots) (hx : p.tables.exec = Jvm.exec) {pc : Nat} {Ls : Array Slot} {z : Int32} {rest : List Value} (hret : meth.sig.returnType = some .int) (hd : decode c.code pc = .ok (.ireturn, 1)) {fs : List Frame}
    (hl : ∀ (f : JFrame) (acts : List Action), f.method = m → f.locked = none → f.entered = [] → (doReturn e (T.setTop f) acts (some (.int z))).1 = T.setFrames fs) : Steps p.tables e below (T.setTop (mkF m pc Ls (.int z :: rest))) (T.setFrames fs) := by
  have hm' : T.vm.method? m = some meth := X.method'
  have hn : narrow .int (.int z) = .int z := rfl
  show Steps p.tables e below (T.setTop { method := m, pc := pc, locals := Ls, stack := _ :: rest, locked := none }) _
  jvm_step X.here [X.here.top, hx, hd, hm', hret, hn]
  first | (intro acts; rw [hl _ acts rfl rfl rfl]) | rw [hl _ _ rfl rfl rfl]
  exact Steps.refl _
end New
end Jvm.RoadKit
namespace Jvm.Pilot.@@N@@
open Jvm Jvm.ClassFile Sem Op Lib Jvm.Free Jvm.Stand Jvm.LawKit Jvm.RoadKit Bundle Jvm.Pilot.@@N@@.Jvm.D
/-! own_Goes: from S the run comes to some state of which G holds: such a goal may be split in the middle of a walk -/
def own_Goes (p : Program) (e : Env) (below : List Frame) (S : State) (G : State → Prop) : Prop := ∃ t, Steps p.tables e below S t ∧ G t
theorem own_via {p : Program} {e : Env} {below : List Frame} {S S' : State} {G : State → Prop} (f : ∀ t, Steps p.tables e below S' t → Steps p.tables e below S t) (h : own_Goes p e below S' G) : own_Goes p e below S G := by
  obtain ⟨t, h1, h2⟩ := h
  exact ⟨t, f t h1, h2⟩
theorem own_end {p : Program} {e : Env} {below : List Frame} {S t : State} {G : State → Prop} (h : Steps p.tables e below S t) (g : G t) : own_Goes p e below S G := ⟨t, h, g⟩
theorem own_out {p : Program} {e : Env} {below : List Frame} {S : State} {P : State → Outcome → Prop} (h : own_Goes p e below S (fun t => ∃ o, t.status = .running ∧ Ended t below o ∧ P t o)) : ∃ t o, Steps p.tables e below S t ∧ t.status = .running ∧ Ended t below o ∧ P t o := by
  obtain ⟨t, h1, o, h2, h3, h4⟩ := h
  exact ⟨t, o, h1, h2, h3, h4⟩
theorem wd {a0 : Array Value} {Z : State} (hw : ∀ d ∈ tables_1, d.before a0 Z = true) (i : Nat) {d : Jvm.Cond} (h : tables_1[i]? = some d) : d.before a0 Z = true := hw _ (List.mem_of_getElem? h)
theorem own_old {Z : State} {n0 : Nat} {h : Heap} (O : Old Z n0 h) : n0 ≤ h.size := by rw [← O.1]; exact O.2.1
def own_Q0 (n0 : Nat) (v : Option Value) (L : List Loc) : Prop := v = some (.int (1 : Int32)) ∧ Fr n0 L
def own_G (s : State) (below : List Frame) (n0 : Nat) (t : State) : Prop := ∃ o, t.status = .running ∧ Ended t below o ∧ ∃ v L, o = .returned v ∧ own_Q0 n0 v L ∧ ReturnedEndW s o t L room_1.cells room_1.slots
def own_Len (Z : State) (h : Heap) (a : Addr) (ty : FieldType) (n : Int32) : Prop := ∃ k vs d, Arv Z h a k ty n vs d
theorem own_len_ext {Z : State} {h h' : Heap} {a : Addr} {ty : FieldType} {n : Int32} (F : own_Len Z h a ty n) (E : Ext h h') : own_Len Z h' a ty n := by
  obtain ⟨k, vs, d, V⟩ := F
  exact ⟨k, vs, d, V.ext E⟩
theorem own_len_other {Z : State} {h h' : Heap} {a b : Addr} {sl : Nat} {v : Value} {ty : FieldType} {n : Int32} (F : own_Len Z h b ty n) (W : Wr h h' a sl v) (q : b ≠ a) : own_Len Z h' b ty n := by
  obtain ⟨k, vs, d, V⟩ := F
  exact ⟨k, vs, d, V.other W q⟩
theorem own_len_keep {Z : State} {h h' : Heap} {a : Addr} {ws : List Addr} {ty : FieldType} {n : Int32} (F : own_Len Z h a ty n) (K : Keep h h' ws) (q : a ∉ ws) : own_Len Z h' a ty n := by
  obtain ⟨k, vs, d, V⟩ := F
  exact ⟨k, vs, d, V.keep K q⟩
theorem own_len_lt {Z : State} {h : Heap} {a : Addr} {ty : FieldType} {n : Int32} (F : own_Len Z h a ty n) : a < h.size := by
  obtain ⟨k, vs, d, V⟩ := F
  exact V.lt
theorem own_c2 (x : Int32) : x.toUInt32.toUInt16.toUInt32.toInt32.toUInt32.toUInt16.toUInt32.toInt32 = x.toUInt32.toUInt16.toUInt32.toInt32 := by rw [UInt32.toUInt32_toInt32, UInt16.toUInt16_toUInt32]
theorem own_b2 (x : Int32) : x.toInt8.toInt32.toInt8.toInt32 = x.toInt8.toInt32 := by rw [Int8.toInt8_toInt32]
section Calls
variable {p : Program} {l : Launch} {e : Env} {R : Room} {s : State} {m : MethodId} {args : Array Value} {below : List Frame} {meth : Method} {c : Code} {T : State} {locs : List Loc} {cells slots : Nat} {Z : State} {a0 : Array Value} {h : Heap} {own C : String} {index : Nat} {y : MethodName} {bytes : ByteArray} {maxL : Nat} {rm : Room} {Q : Option Value → Heap → List Loc → Prop} {a : Addr} {argsL : List Value} {g : JFrame}
/-! a call by its contract, in one step: virtual (the class's own method), a constructor, static -/
theorem own_cv {ret : Option FieldType} (X : Stand p l e R s m args below meth c T locs cells slots) (hx : p.tables.exec = Jvm.exec) (hZ : Z.Warmed39 s.vm) (hown : s.vm.findClass own = some m.cls) (w1 : (Jvm.Cond.methodLink own index y).before a0 Z = true) (w2 : (Jvm.Cond.declares y).before a0 Z = true) (w3 : (Jvm.Cond.selects C y y).before a0 Z = true) (w4 : (Jvm.Cond.instanceMethod y).before a0 Z = true) (wc : (Jvm.Cond.code y bytes maxL ret).before a0 Z = true) (wz : (Jvm.Cond.initialized y.cls).before a0 Z = true) (hy : y.cls ≠ "java/lang/invoke/MethodHandle" ∧ y.cls ≠ "java/lang/invoke/VarHandle")
    (hM : MetFree l y (head1 [Jvm.Cond.code y bytes maxL ret] rm) (fun A U => A = (.ref a :: argsL).toArray ∧ Z.Warmed39 U.vm ∧ U.heap = h) (fun _ _ _ _ _ => True) (fun _ U o U' => ∃ v L, o = .returned v ∧ Q v U'.heap L ∧ FrameEnd U o U' L rm.cells rm.slots)) (eT : T.heap = h) (E : Exa Z h a C) (hg : g.method = m) (hsize : g.locals.size = c.maxLocals) {rest : List Value} {W : Nat}
    (hlen : ∀ sig, parseMethodDescriptor y.desc = some sig → argsL.length = sig.parameters.length) (hstack : g.stack = argsL.reverse ++ .ref a :: rest) (hW : 2 * g.monitorRoom + (rest.map fun v => v.category).sum ≤ W) (hdg : decode c.code g.pc = .ok (.invokevirtual index, 3)) (r1 : rm.frames + 1 ≤ R.frames) (r2 : W + (maxL + 11) + rm.locals ≤ R.locals) (r3 : cells + rm.cells ≤ R.cells) (r4 : slots + rm.slots ≤ R.slots) :
    ∃ (v : Option Value) (T' : State) (L : List Loc), Stand p l e R s m args below meth c T' (locs ++ L) (cells + rm.cells) (slots + rm.slots) ∧ Q v T'.heap L ∧ ∀ t, Steps p.tables e below (T'.setTop { g with pc := g.pc + 3, stack := v.toList ++ rest }) t → Steps p.tables e below (T.setTop g) t := by
  obtain ⟨cq, kq, qa, -, qc⟩ := isOf hZ eT E
  obtain ⟨v, _, ⟨T', L', c', n'⟩, -, X', ⟨Lc, hQ, l1, y1, z1⟩, st⟩ := X.virtualBack hx (y := y) (z := y) hown (mvT hZ w1) (mvT hZ w2) (notFace_of_selects (args := #[]) (mvT hZ w3)) (mvT hZ w3) (mvT hZ w4) hy (backOf (W := W) hM hZ wc wz r1 r2) qa qc (g := g) hg hsize (Steps.refl _) (argsL := argsL) (rest := rest) hlen hstack hW hdg (fun _ _ => ⟨rfl, eT, r3, r4⟩)
  dsimp only [Pt.U, Pt.locs, Pt.cells, Pt.slots] at X' l1 y1 z1 st hQ
  subst l1 y1 z1
  exact ⟨v, T', Lc, X', hQ, fun t k => st.trans k⟩
theorem own_ci (X : Stand p l e R s m args below meth c T locs cells slots) (hx : p.tables.exec = Jvm.exec) (hZ : Z.Warmed39 s.vm) (hown : s.vm.findClass own = some m.cls) (w1 : (Jvm.Cond.methodLink own index y).before a0 Z = true) (w4 : (Jvm.Cond.instanceMethod y).before a0 Z = true) (wc : (Jvm.Cond.code y bytes maxL none).before a0 Z = true) (wz : (Jvm.Cond.initialized y.cls).before a0 Z = true) (hi : y.name = "<init>") (hy : y.cls ≠ "java/lang/invoke/MethodHandle" ∧ y.cls ≠ "java/lang/invoke/VarHandle")
    (hM : MetFree l y (head1 [Jvm.Cond.code y bytes maxL none] rm) (fun A U => A = (.ref a :: argsL).toArray ∧ Z.Warmed39 U.vm ∧ U.heap = h) (fun _ _ _ _ _ => True) (fun _ U o U' => ∃ v L, o = .returned v ∧ Q v U'.heap L ∧ FrameEnd U o U' L rm.cells rm.slots)) (eT : T.heap = h) (hg : g.method = m) (hsize : g.locals.size = c.maxLocals) {rest : List Value} {W : Nat}
    (hlen : ∀ sig, parseMethodDescriptor y.desc = some sig → argsL.length = sig.parameters.length) (hstack : g.stack = argsL.reverse ++ .ref a :: rest) (hW : 2 * g.monitorRoom + (rest.map fun v => v.category).sum ≤ W) (hdg : decode c.code g.pc = .ok (.invokespecial index, 3)) (r1 : rm.frames + 1 ≤ R.frames) (r2 : W + (maxL + 11) + rm.locals ≤ R.locals) (r3 : cells + rm.cells ≤ R.cells) (r4 : slots + rm.slots ≤ R.slots) :
    ∃ (v : Option Value) (T' : State) (L : List Loc), Stand p l e R s m args below meth c T' (locs ++ L) (cells + rm.cells) (slots + rm.slots) ∧ Q v T'.heap L ∧ ∀ t, Steps p.tables e below (T'.setTop { g with pc := g.pc + 3, stack := v.toList ++ rest }) t → Steps p.tables e below (T.setTop g) t := by
  obtain ⟨v, _, ⟨T', L', c', n'⟩, -, X', ⟨Lc, hQ, l1, y1, z1⟩, st⟩ := X.specialBack hx (y := y) hi hown (mvT hZ w1) (mvT hZ w4) (mvT hZ wc) hy (backOf (W := W) hM hZ wc wz r1 r2) (g := g) hg hsize (Steps.refl _) (a := a) (argsL := argsL) (rest := rest) hlen hstack hW hdg (fun _ _ => ⟨rfl, eT, r3, r4⟩)
  dsimp only [Pt.U, Pt.locs, Pt.cells, Pt.slots] at X' l1 y1 z1 st hQ
  subst l1 y1 z1
  exact ⟨v, T', Lc, X', hQ, fun t k => st.trans k⟩
theorem own_cs {ret : Option FieldType} (X : Stand p l e R s m args below meth c T locs cells slots) (hx : p.tables.exec = Jvm.exec) (hZ : Z.Warmed39 s.vm) (hown : s.vm.findClass own = some m.cls) (w1 : (Jvm.Cond.methodLink own index y).before a0 Z = true) (w4 : (Jvm.Cond.static y).before a0 Z = true) (wc : (Jvm.Cond.code y bytes maxL ret).before a0 Z = true) (wz : (Jvm.Cond.initialized y.cls).before a0 Z = true) (hy : y.cls ≠ "java/lang/invoke/MethodHandle" ∧ y.cls ≠ "java/lang/invoke/VarHandle")
    (hM : MetFree l y (head1 [Jvm.Cond.code y bytes maxL ret] rm) (fun A U => A = argsL.toArray ∧ Z.Warmed39 U.vm ∧ U.heap = h) (fun _ _ _ _ _ => True) (fun _ U o U' => ∃ v L, o = .returned v ∧ Q v U'.heap L ∧ FrameEnd U o U' L rm.cells rm.slots)) (eT : T.heap = h) (hg : g.method = m) (hsize : g.locals.size = c.maxLocals) {rest : List Value} {W : Nat}
    (hlen : ∀ sig, parseMethodDescriptor y.desc = some sig → argsL.length = sig.parameters.length) (hstack : g.stack = argsL.reverse ++ rest) (hW : 2 * g.monitorRoom + (rest.map fun v => v.category).sum ≤ W) (hdg : decode c.code g.pc = .ok (.invokestatic index, 3)) (r1 : rm.frames + 1 ≤ R.frames) (r2 : W + (maxL + 11) + rm.locals ≤ R.locals) (r3 : cells + rm.cells ≤ R.cells) (r4 : slots + rm.slots ≤ R.slots) :
    ∃ (v : Option Value) (T' : State) (L : List Loc), Stand p l e R s m args below meth c T' (locs ++ L) (cells + rm.cells) (slots + rm.slots) ∧ Q v T'.heap L ∧ ∀ t, Steps p.tables e below (T'.setTop { g with pc := g.pc + 3, stack := v.toList ++ rest }) t → Steps p.tables e below (T.setTop g) t := by
  obtain ⟨v, _, ⟨T', L', c', n'⟩, -, X', ⟨Lc, hQ, l1, y1, z1⟩, st⟩ := Jvm.LawKit.callS X hx (y := y) hown (mvT hZ w1) (mvT hZ w4) (mvT hZ wz) (mvT hZ wc) hy (backOf (W := W) hM hZ wc wz r1 r2) (g := g) hg hsize (argsL := argsL) (rest := rest) hlen hstack hW hdg (fun _ _ => ⟨rfl, eT, r3, r4⟩)
  dsimp only [Pt.U, Pt.locs, Pt.cells, Pt.slots] at X' l1 y1 z1 st hQ
  subst l1 y1 z1
  exact ⟨v, T', Lc, X', hQ, st⟩
theorem own_rmono {s t : State} {o : Outcome} {L : List Loc} {k n k' n' : Nat} (h : ReturnedEndW s o t L k n) (hk : k ≤ k') (hn : n ≤ n') : ReturnedEndW s o t L k' n' := ⟨h.1, h.2.1, h.2.2.1, h.2.2.2.mono hk hn⟩
theorem own_cvH {vm0 : Vm} {k0 : Nat} {ret : Option FieldType} (X : Stand p l e R (s.setVm vm0) m args below meth c T locs cells slots) (hx : p.tables.exec = Jvm.exec) (hZ : Z.Warmed39 (s.setVm vm0).vm) (hS : s.Since vm0 k0) (hk : k0 ≤ h.size) (hown : (s.setVm vm0).vm.findClass own = some m.cls) (w1 : (Jvm.Cond.methodLink own index y).before a0 Z = true) (w2 : (Jvm.Cond.declares y).before a0 Z = true) (w3 : (Jvm.Cond.selects C y y).before a0 Z = true) (w4 : (Jvm.Cond.instanceMethod y).before a0 Z = true) (wc : (Jvm.Cond.code y bytes maxL ret).before a0 Z = true) (wz : (Jvm.Cond.initialized y.cls).before a0 Z = true) (hy : y.cls ≠ "java/lang/invoke/MethodHandle" ∧ y.cls ≠ "java/lang/invoke/VarHandle")
    {EL : List (String × Nat)} (hEL : EW Z a0 EL) (H : CHv Z EL vm0 h) (hM : MetFree l y (head1 [Jvm.Cond.code y bytes maxL ret] rm) (fun A U => A = (.ref a :: argsL).toArray ∧ Z.Warmed39 U.vm ∧ U.heap = h ∧ CHv Z EL U.vm h) (fun _ _ _ _ _ => True) (fun _ U o U' => ∃ v L, o = .returned v ∧ Q v U'.heap L ∧ CHr Z EL U.vm U.heap U'.vm U'.heap ∧ ReturnedEndW U o U' L rm.cells rm.slots)) (eT : T.heap = h) (E : Exa Z h a C) (hg : g.method = m) (hsize : g.locals.size = c.maxLocals) {rest : List Value} {W : Nat}
    (hlen : ∀ sig, parseMethodDescriptor y.desc = some sig → argsL.length = sig.parameters.length) (hstack : g.stack = argsL.reverse ++ .ref a :: rest) (hW : 2 * g.monitorRoom + (rest.map fun v => v.category).sum ≤ W) (hdg : decode c.code g.pc = .ok (.invokevirtual index, 3)) (r1 : rm.frames + 1 ≤ R.frames) (r2 : W + (maxL + 11) + rm.locals ≤ R.locals) (r3 : cells + rm.cells ≤ R.cells) (r4 : slots + rm.slots ≤ R.slots) :
    ∃ (v : Option Value) (T' : State) (L : List Loc), Stand p l e R (s.setVm T'.vm) m args below meth c T' (locs ++ L) (cells + rm.cells) (slots + rm.slots) ∧ Q v T'.heap L ∧ CHr Z EL vm0 h T'.vm T'.heap ∧ s.Since T'.vm T'.heap.size ∧ Z.Warmed39 (s.setVm T'.vm).vm ∧ (s.setVm T'.vm).vm.findClass own = some m.cls ∧ ∀ t, Steps p.tables e below (T'.setTop { g with pc := g.pc + 3, stack := v.toList ++ rest }) t → Steps p.tables e below (T.setTop g) t := by
  obtain ⟨cq, kq, qa, -, qc⟩ := isOf hZ eT E
  obtain ⟨v, _, ⟨T', L', c', n'⟩, -, X', h2, gg, ⟨Lc, hQ, l1, y1, z1, hC⟩, st⟩ := X.virtualBackS hx (y := y) (z := y) hown (mvT hZ w1) (mvT hZ w2) (notFace_of_selects (args := #[]) (mvT hZ w3)) (mvT hZ w3) (mvT hZ w4) hy (backOfSH (W := W) hM hZ wc wz r1 r2 hEL H) qa qc (g := g) hg hsize (Steps.refl _) (argsL := argsL) (rest := rest) hlen hstack hW hdg (fun _ _ => ⟨rfl, eT, r3, r4⟩)
  dsimp only [Pt.U, Pt.locs, Pt.cells, Pt.slots] at X' l1 y1 z1 st hQ h2 gg hC
  subst l1 y1 z1
  obtain ⟨X2, S2, Z2, o2⟩ := rebS hS (by rw [eT]; exact hk) X' h2 gg hZ hown
  exact ⟨v, T', Lc, X2, hQ, hC, S2, Z2, o2, fun t k => st.trans k⟩
theorem own_ciH {vm0 : Vm} {k0 : Nat} (X : Stand p l e R (s.setVm vm0) m args below meth c T locs cells slots) (hx : p.tables.exec = Jvm.exec) (hZ : Z.Warmed39 (s.setVm vm0).vm) (hS : s.Since vm0 k0) (hk : k0 ≤ h.size) (hown : (s.setVm vm0).vm.findClass own = some m.cls) (w1 : (Jvm.Cond.methodLink own index y).before a0 Z = true) (w4 : (Jvm.Cond.instanceMethod y).before a0 Z = true) (wc : (Jvm.Cond.code y bytes maxL none).before a0 Z = true) (wz : (Jvm.Cond.initialized y.cls).before a0 Z = true) (hi : y.name = "<init>") (hy : y.cls ≠ "java/lang/invoke/MethodHandle" ∧ y.cls ≠ "java/lang/invoke/VarHandle")
    {EL : List (String × Nat)} (hEL : EW Z a0 EL) (H : CHv Z EL vm0 h) (hM : MetFree l y (head1 [Jvm.Cond.code y bytes maxL none] rm) (fun A U => A = (.ref a :: argsL).toArray ∧ Z.Warmed39 U.vm ∧ U.heap = h ∧ CHv Z EL U.vm h) (fun _ _ _ _ _ => True) (fun _ U o U' => ∃ v L, o = .returned v ∧ Q v U'.heap L ∧ CHr Z EL U.vm U.heap U'.vm U'.heap ∧ ReturnedEndW U o U' L rm.cells rm.slots)) (eT : T.heap = h) (hg : g.method = m) (hsize : g.locals.size = c.maxLocals) {rest : List Value} {W : Nat}
    (hlen : ∀ sig, parseMethodDescriptor y.desc = some sig → argsL.length = sig.parameters.length) (hstack : g.stack = argsL.reverse ++ .ref a :: rest) (hW : 2 * g.monitorRoom + (rest.map fun v => v.category).sum ≤ W) (hdg : decode c.code g.pc = .ok (.invokespecial index, 3)) (r1 : rm.frames + 1 ≤ R.frames) (r2 : W + (maxL + 11) + rm.locals ≤ R.locals) (r3 : cells + rm.cells ≤ R.cells) (r4 : slots + rm.slots ≤ R.slots) :
    ∃ (v : Option Value) (T' : State) (L : List Loc), Stand p l e R (s.setVm T'.vm) m args below meth c T' (locs ++ L) (cells + rm.cells) (slots + rm.slots) ∧ Q v T'.heap L ∧ CHr Z EL vm0 h T'.vm T'.heap ∧ s.Since T'.vm T'.heap.size ∧ Z.Warmed39 (s.setVm T'.vm).vm ∧ (s.setVm T'.vm).vm.findClass own = some m.cls ∧ ∀ t, Steps p.tables e below (T'.setTop { g with pc := g.pc + 3, stack := v.toList ++ rest }) t → Steps p.tables e below (T.setTop g) t := by
  obtain ⟨v, _, ⟨T', L', c', n'⟩, -, X', h2, gg, ⟨Lc, hQ, l1, y1, z1, hC⟩, st⟩ := X.specialBackS hx (y := y) hi hown (mvT hZ w1) (mvT hZ w4) (mvT hZ wc) hy (backOfSH (W := W) hM hZ wc wz r1 r2 hEL H) (g := g) hg hsize (Steps.refl _) (a := a) (argsL := argsL) (rest := rest) hlen hstack hW hdg (fun _ _ => ⟨rfl, eT, r3, r4⟩)
  dsimp only [Pt.U, Pt.locs, Pt.cells, Pt.slots] at X' l1 y1 z1 st hQ h2 gg hC
  subst l1 y1 z1
  obtain ⟨X2, S2, Z2, o2⟩ := rebS hS (by rw [eT]; exact hk) X' h2 gg hZ hown
  exact ⟨v, T', Lc, X2, hQ, hC, S2, Z2, o2, fun t k => st.trans k⟩
theorem own_csH {vm0 : Vm} {k0 : Nat} {ret : Option FieldType} (X : Stand p l e R (s.setVm vm0) m args below meth c T locs cells slots) (hx : p.tables.exec = Jvm.exec) (hZ : Z.Warmed39 (s.setVm vm0).vm) (hS : s.Since vm0 k0) (hk : k0 ≤ h.size) (hown : (s.setVm vm0).vm.findClass own = some m.cls) (w1 : (Jvm.Cond.methodLink own index y).before a0 Z = true) (w4 : (Jvm.Cond.static y).before a0 Z = true) (wc : (Jvm.Cond.code y bytes maxL ret).before a0 Z = true) (wz : (Jvm.Cond.initialized y.cls).before a0 Z = true) (hy : y.cls ≠ "java/lang/invoke/MethodHandle" ∧ y.cls ≠ "java/lang/invoke/VarHandle")
    {EL : List (String × Nat)} (hEL : EW Z a0 EL) (H : CHv Z EL vm0 h) (hM : MetFree l y (head1 [Jvm.Cond.code y bytes maxL ret] rm) (fun A U => A = argsL.toArray ∧ Z.Warmed39 U.vm ∧ U.heap = h ∧ CHv Z EL U.vm h) (fun _ _ _ _ _ => True) (fun _ U o U' => ∃ v L, o = .returned v ∧ Q v U'.heap L ∧ CHr Z EL U.vm U.heap U'.vm U'.heap ∧ ReturnedEndW U o U' L rm.cells rm.slots)) (eT : T.heap = h) (hg : g.method = m) (hsize : g.locals.size = c.maxLocals) {rest : List Value} {W : Nat}
    (hlen : ∀ sig, parseMethodDescriptor y.desc = some sig → argsL.length = sig.parameters.length) (hstack : g.stack = argsL.reverse ++ rest) (hW : 2 * g.monitorRoom + (rest.map fun v => v.category).sum ≤ W) (hdg : decode c.code g.pc = .ok (.invokestatic index, 3)) (r1 : rm.frames + 1 ≤ R.frames) (r2 : W + (maxL + 11) + rm.locals ≤ R.locals) (r3 : cells + rm.cells ≤ R.cells) (r4 : slots + rm.slots ≤ R.slots) :
    ∃ (v : Option Value) (T' : State) (L : List Loc), Stand p l e R (s.setVm T'.vm) m args below meth c T' (locs ++ L) (cells + rm.cells) (slots + rm.slots) ∧ Q v T'.heap L ∧ CHr Z EL vm0 h T'.vm T'.heap ∧ s.Since T'.vm T'.heap.size ∧ Z.Warmed39 (s.setVm T'.vm).vm ∧ (s.setVm T'.vm).vm.findClass own = some m.cls ∧ ∀ t, Steps p.tables e below (T'.setTop { g with pc := g.pc + 3, stack := v.toList ++ rest }) t → Steps p.tables e below (T.setTop g) t := by
  obtain ⟨v, _, ⟨T', L', c', n'⟩, -, X', h2, gg, ⟨Lc, hQ, l1, y1, z1, hC⟩, st⟩ := callSS X hx (y := y) hown (mvT hZ w1) (mvT hZ w4) (mvT hZ wz) (mvT hZ wc) hy (backOfSH (W := W) hM hZ wc wz r1 r2 hEL H) (g := g) hg hsize (argsL := argsL) (rest := rest) hlen hstack hW hdg (fun _ _ => ⟨rfl, eT, r3, r4⟩)
  dsimp only [Pt.U, Pt.locs, Pt.cells, Pt.slots] at X' l1 y1 z1 st hQ h2 gg hC
  subst l1 y1 z1
  obtain ⟨X2, S2, Z2, o2⟩ := rebS hS (by rw [eT]; exact hk) X' h2 gg hZ hown
  exact ⟨v, T', Lc, X2, hQ, hC, S2, Z2, o2, fun t k => st.trans k⟩
end Calls
theorem own_eq_ref {args : Array Value} {s : State} {a b : Term} {w : Addr} (h : (Jvm.Cond.eq a b).value args s none s [] = some true) (hb : b.eval args s none [] s = some (.ref w)) : a.eval args s none [] s = some (.ref w) := by
  obtain ⟨x, y, e1, e2, k1, k2⟩ := cmp_v (Or.inl h)
  rw [hb] at e2
  cases e2
  have hx : x.isRef = true := by cases x <;> simp_all [Kin, Value.isRef]
  have q := gotT (eq_R e1 hb hx rfl) h
  rw [e1, q]
theorem own_ne_ref {args : Array Value} {s : State} {a b : Term} {u w : Addr} (h : (Jvm.Cond.not (Jvm.Cond.eq a b)).value args s none s [] = some true) (ha : a.eval args s none [] s = some (.ref u)) (hb : b.eval args s none [] s = some (.ref w)) : u ≠ w := fun q => gotF (eq_R ha hb rfl rfl) (not_v h) (by rw [q])
theorem own_nn_mask (x m : Int32) (k : Nat) (hk : k < 32) (hm : m.toBitVec.toNat = 2 ^ k - 1) : ¬ ((x &&& m) < (0 : Int32)) := by
  rw [Int32.lt_iff_toInt_lt, Jvm.Kit.i32_mask x m hk hm]
  have h := Int.emod_nonneg x.toInt (show ((2 : Int) ^ k) ≠ 0 from Int.ne_of_gt (Int.pow_pos (by decide)))
  rw [Int32.toInt_zero]
  omega
theorem own_lt_mask (x m : Int32) (k : Nat) (hk : k < 32) (hm : m.toBitVec.toNat = 2 ^ k - 1) {n : Int32} (hn : n.toInt = 2 ^ k) : (x &&& m) < n := by
  rw [Int32.lt_iff_toInt_lt, Jvm.Kit.i32_mask x m hk hm, hn]
  exact Int.emod_lt_of_pos _ (Int.pow_pos (by decide))
theorem own_nn_rem {x : Int32} (n : Int32) (h : ¬ (x < (0 : Int32))) : ¬ (x % n < (0 : Int32)) := by
  rw [Int32.lt_iff_toInt_lt, Int32.toInt_zero] at h ⊢
  rw [Int32.toInt_mod]
  have := Int.tmod_nonneg n.toInt (show 0 ≤ x.toInt by omega)
  omega
theorem own_pos {n : Int32} (h : (0 : Int32) < n) : 0 < n.toInt := by
  rw [Int32.lt_iff_toInt_lt, Int32.toInt_zero] at h
  exact h
theorem own_ne0 {n : Int32} (h : (0 : Int32) < n) : n ≠ 0 := fun q => by
  rw [q] at h
  exact absurd h (by decide)
theorem own_lt_rem {x : Int32} (n : Int32) (h : ¬ (x < (0 : Int32))) (hn : 0 < n.toInt) : x % n < n := by
  rw [Int32.lt_iff_toInt_lt] at h ⊢
  rw [Int32.toInt_zero] at h
  rw [Jvm.Kit.i32_rem_nonneg (by omega)]
  exact Int.emod_lt_of_pos _ hn
theorem own_modlo (x n : Int32) (hn : 0 < n.toInt) : 0 ≤ ((x &&& (2147483647 : Int32)) % n).toInt := by
  have a := Jvm.Kit.i32_mask x 2147483647 (k := 31) (by decide) (by decide)
  rw [Jvm.Kit.i32_rem_nonneg (by omega)]
  exact Int.emod_nonneg _ (by omega)
theorem own_modhi (x n : Int32) (hn : 0 < n.toInt) : ((x &&& (2147483647 : Int32)) % n).toInt < n.toInt := by
  have a := Jvm.Kit.i32_mask x 2147483647 (k := 31) (by decide) (by decide)
  rw [Jvm.Kit.i32_rem_nonneg (by omega)]
  exact Int.emod_lt_of_pos _ hn
theorem own_ch0 (x : Int32) : ((x &&& (255 : Int32)).toUInt32.toUInt16.toUInt32.toInt32) = (x &&& (255 : Int32)) := by
  apply Int32.toBitVec_inj.mp
  apply BitVec.eq_of_toNat_eq
  simp
  rw [show (255 : Nat) = 2 ^ 8 - 1 from rfl, Nat.and_two_pow_sub_one_eq_mod, Nat.and_two_pow_sub_one_eq_mod]
  omega
theorem own_ch1 (x : Int32) : ¬ ((255 : Int32) < ((x &&& (255 : Int32)).toUInt32.toUInt16.toUInt32.toInt32)) := by
  rw [own_ch0, Int32.lt_iff_toInt_lt, Jvm.Kit.i32_mask x (255 : Int32) (k := 8) (by decide) (by decide)]
  have h := Int.emod_lt_of_pos x.toInt (show (0 : Int) < 2 ^ 8 by decide)
  have e : (255 : Int32).toInt = 255 := by decide
  rw [e]
  omega
theorem own_ch2 (x : Int32) : ¬ (((x &&& (255 : Int32)).toUInt32.toUInt16.toUInt32.toInt32) < (0 : Int32)) := by
  rw [own_ch0]
  exact own_nn_mask x (255 : Int32) 8 (by decide) (by decide)
theorem own_cases_4 (y : Int32) (h0 : 0 ≤ y.toInt) (h1 : y.toInt < 4) : y = (0 : Int32) ∨ y = (1 : Int32) ∨ y = (2 : Int32) ∨ y = (3 : Int32) := by
  have e : ∀ k : Int32, y.toInt = k.toInt → y = k := fun k q => Int32.toInt_inj.mp q
  rcases (by omega : y.toInt = 0 ∨ y.toInt = 1 ∨ y.toInt = 2 ∨ y.toInt = 3) with q | q | q | q
  · exact Or.inl (e 0 (q.trans rfl))
  · exact Or.inr <| Or.inl (e 1 (q.trans rfl))
  · exact Or.inr <| Or.inr <| Or.inl (e 2 (q.trans rfl))
  · exact Or.inr <| Or.inr <| Or.inr <| (e 3 (q.trans rfl))
/-! H: literals' texts are kept (CHv); what is written is no booked String's -/
theorem own_safeS {Z : State} {EL : List (String × Nat)} {vm : Vm} {h : Heap} {x : Addr} (hal : Z.vm.Alike vm) (E : Exa Z h x "java/lang/String") (G : Fld Z h x "java/lang/String" "value" "[B" .null) : Safe Z EL vm h x := fun B => by
  obtain ⟨p, -, u, a, -, q, -, F, rfl | rfl⟩ := B
  · obtain ⟨cell, cf, k, i, f, g1, g2, -, -, -, -, g7⟩ := G
    cases (show h[q.sa]? = some q.sC from F.ha).symm.trans g1
    obtain ⟨cS, ⟨⟨-, -, -, ⟨c2, k2, i2, f2, -⟩, -, -, -, v2, -⟩, -⟩, -⟩ := F
    obtain ⟨k3, e3⟩ := ff_back (Z := Z) (U := Wst Z vm h) hal f2
    have e4 := (show Z.fieldFound? "java/lang/String" "value" "[B" = _ from e3).symm.trans g2
    simp only [Option.some.injEq, Prod.mk.injEq] at e4
    rw [e4.2.2.2, g7] at v2
    cases v2
  · obtain ⟨cell, k, e1, e2, e3, -, -⟩ := E
    cases (show h[q.sd]? = some q.SA from F.hd).symm.trans e1
    obtain ⟨cS, -, -, f, -⟩ := F
    have f : vm.findClass "[B" = some q.SA.cls := f
    rw [hal.findClass] at f
    obtain ⟨k1, q1, q2⟩ := Vm.findClass_spec f
    obtain ⟨k2, q3, q4⟩ := Vm.findClass_spec e2
    cases q1.symm.trans q3
    exact absurd (q2.symm.trans q4) (by decide)
/-- every entry of EL says "" -/
def own_EE (Z : State) (a0 : Array Value) (EL : List (String × Nat)) : Prop := ∀ p ∈ EL, (Jvm.Cond.stringLink p.1 p.2 "").before a0 Z = true
theorem own_EE.ew {Z : State} {a0 : Array Value} {EL : List (String × Nat)} (w : own_EE Z a0 EL) : EW Z a0 EL := fun p hp => ⟨"", w p hp, by simp⟩
theorem own_safeB {Z : State} {a0 : Array Value} {EL : List (String × Nat)} {vm : Vm} {h : Heap} {x : Addr} {k : ClassId} {z : Int32} {vs : List Value} {d : Value} (hZ : Z.Warmed39 vm) (w : own_EE Z a0 EL) (A : Arv Z h x k .byte z vs d) (hz : 0 < z.toNatClampNeg) : Safe Z EL vm h x := fun B => by
  obtain ⟨cl, ⟨A1, ⟨-, kA, hkA, compA, hkindA⟩, -⟩, -, hsz, -⟩ := A
  have hal : Z.vm.Alike vm := hZ.alike
  obtain ⟨kA', hkA', ekA⟩ := hal.2.2 _ _ hkA
  obtain ⟨p, hp, u, a, hb, q, -, F, rfl | rfl⟩ := B
  · cases (show h[q.sa]? = some q.sC from F.ha).symm.trans A1
    obtain ⟨cS, ⟨-, -, e⟩, ⟨kS, g1, g2, -⟩, -⟩ := F
    subst e
    cases (show vm.classes[q.sC.cls]? = some kS from g1).symm.trans hkA'
    rw [ekA] at g2
    have := hkindA.symm.trans g2
    cases this
  · cases (show h[q.sd]? = some q.SA from F.hd).symm.trans A1
    obtain ⟨cS, -, -, -, hsl⟩ := F
    obtain ⟨c, k', cf, i, hc, hk', hcf', hpool, hu, -⟩ := hb
    have wl' : (Jvm.Cond.stringLink p.1 p.2 "").before a0 (Wst Z vm h) = true := mvS (s := { Z with heap := h }) hZ (w p hp)
    obtain ⟨k, cf0, i0, units0, hk, hcf, hp0, hu0, hnm, htext, -⟩ := Cond.stringLink_spec (s := Wst Z vm h) hc wl'
    cases (show vm.classes[c]? = some k from hk).symm.trans hk'
    cases hcf'.symm.trans hcf
    cases hpool.symm.trans hp0
    cases hu.symm.trans hu0
    have := text_bytes_le htext
    rw [hsl] at hsz
    simp at this
    rw [this] at hsz
    simp at hsz
    omega
theorem own_safeA {Z : State} {EL : List (String × Nat)} {vm : Vm} {h : Heap} {x : Addr} {k : ClassId} {ty : FieldType} {z : Int32} {vs : List Value} {d : Value} (hal : Z.vm.Alike vm) (A : Arv Z h x k ty z vs d) (ht : ty ≠ .byte) : Safe Z EL vm h x := by
  obtain ⟨c, a, -⟩ := A
  exact Safe.arr hal a ht
theorem own_chr {Z : State} {EL : List (String × Nat)} {vm vm1 : Vm} {x h0 y h1 : Heap} (q : CHr Z EL vm h0 vm1 h1) (a : x = h0) (b : y = h1) : CHr Z EL vm x vm1 y := by
  rw [a, b]
  exact q
theorem own_ee {a0 : Array Value} {Z : State} (hw : ∀ d ∈ tables_1, d.before a0 Z = true) : own_EE Z a0 consts_1 := by
  intro q hq
  rcases List.mem_cons.mp hq with rfl | hq
  · exact (wd hw 53 rfl)
  rcases List.mem_cons.mp hq with rfl | hq
  · exact (wd hw 66 rfl)
  cases hq
abbrev zs1 : String := "com/example/ledgerd/ledgerd/core/DocumentType"
abbrev zs2 : String := "java/lang/String"
abbrev zs3 : String := "java/lang/StringUTF16"
abbrev zs4 : String := "(Ljava/lang/String;)Ljava/lang/String;"
abbrev zs5 : String := "com/example/ledgerd/ledgerd/core/DocumentTypeNumberSeriesPinLaw"
abbrev zs6 : String := "Lcom/example/ledgerd/ledgerd/core/DocumentType;"
abbrev zs7 : String := "([CIILjava/lang/Void;)V"
abbrev zs8 : String := "numberSeries"
abbrev zs9 : String := "COMPACT_STRINGS"
abbrev zs10 : String := "coderFromArrayLen"
abbrev zs11 : String := "java/lang/Enum"
theorem own_ne_int {args : Array Value} {s : State} {t : Term} {z : Int32} (h : (Jvm.Cond.not (Jvm.Cond.eq t (.int 0))).value args s none s [] = some true) (ha : t.eval args s none [] s = some (.int z)) : ¬ (z = (0 : Int32)) := fun q => by
  have h1 := eq_i ha (Term.int_eval (0 : Int32)) (congrArg Value.int q)
  have h2 := not_v h
  rw [h1] at h2
  cases h2
theorem own_and_3 (x : Int32) : x &&& (3 : Int32) = (0 : Int32) ∨ x &&& (3 : Int32) = (1 : Int32) ∨ x &&& (3 : Int32) = (2 : Int32) ∨ x &&& (3 : Int32) = (3 : Int32) := own_cases_4 _ (by rw [Jvm.Kit.i32_mask x 3 (k := 2) (by decide) (by decide)]; omega) (by rw [Jvm.Kit.i32_mask x 3 (k := 2) (by decide) (by decide)]; omega)
theorem d1_0 : decode method_3_code 0 = .ok (.iload_n 1, 1) := by decide +kernel
theorem d1_1 : decode method_3_code 1 = .ok (.sipush 255, 3) := by decide +kernel
theorem d1_4 : decode method_3_code 4 = .ok (.iand, 1) := by decide +kernel
theorem d1_5 : decode method_3_code 5 = .ok (.i2c, 1) := by decide +kernel
theorem d1_6 : decode method_3_code 6 = .ok (.istore 4, 2) := by decide +kernel
theorem d1_8 : decode method_3_code 8 = .ok (.iload_n 2, 1) := by decide +kernel
theorem d1_9 : decode method_3_code 9 = .ok (.sipush 255, 3) := by decide +kernel
theorem d1_12 : decode method_3_code 12 = .ok (.iand, 1) := by decide +kernel
theorem d1_13 : decode method_3_code 13 = .ok (.i2c, 1) := by decide +kernel
theorem d1_14 : decode method_3_code 14 = .ok (.istore 5, 2) := by decide +kernel
theorem d1_16 : decode method_3_code 16 = .ok (.iload_n 3, 1) := by decide +kernel
theorem d1_17 : decode method_3_code 17 = .ok (.sipush 255, 3) := by decide +kernel
theorem d1_20 : decode method_3_code 20 = .ok (.iand, 1) := by decide +kernel
theorem d1_21 : decode method_3_code 21 = .ok (.i2c, 1) := by decide +kernel
theorem d1_22 : decode method_3_code 22 = .ok (.istore 6, 2) := by decide +kernel
theorem d1_24 : decode method_3_code 24 = .ok (.iload_n 0, 1) := by decide +kernel
theorem d1_25 : decode method_3_code 25 = .ok (.ifCond .ne 14, 3) := by decide +kernel
theorem d1_28 : decode method_3_code 28 = .ok (.new 33, 3) := by decide +kernel
theorem d1_31 : decode method_3_code 31 = .ok (.dup, 1) := by decide +kernel
theorem d1_32 : decode method_3_code 32 = .ok (.iconst 0, 1) := by decide +kernel
theorem d1_33 : decode method_3_code 33 = .ok (.newarray .char, 2) := by decide +kernel
theorem d1_35 : decode method_3_code 35 = .ok (.invokespecial 42, 3) := by decide +kernel
theorem d2_0 : decode jdk_42_method_3_code 0 = .ok (.aload_n 0, 1) := by decide +kernel
theorem d2_1 : decode jdk_42_method_3_code 1 = .ok (.aload_n 1, 1) := by decide +kernel
theorem d2_2 : decode jdk_42_method_3_code 2 = .ok (.iconst 0, 1) := by decide +kernel
theorem d2_3 : decode jdk_42_method_3_code 3 = .ok (.aload_n 1, 1) := by decide +kernel
theorem d2_4 : decode jdk_42_method_3_code 4 = .ok (.arraylength, 1) := by decide +kernel
theorem d2_5 : decode jdk_42_method_3_code 5 = .ok (.aconst_null, 1) := by decide +kernel
theorem d2_6 : decode jdk_42_method_3_code 6 = .ok (.invokespecial 27, 3) := by decide +kernel
theorem d3_0 : decode jdk_42_method_149_code 0 = .ok (.aload_n 0, 1) := by decide +kernel
theorem d3_1 : decode jdk_42_method_149_code 1 = .ok (.invokespecial 1, 3) := by decide +kernel
theorem d3_4 : decode jdk_42_method_149_code 4 = .ok (.iload_n 3, 1) := by decide +kernel
theorem d3_5 : decode jdk_42_method_149_code 5 = .ok (.ifCond .ne 22, 3) := by decide +kernel
theorem d3_8 : decode jdk_42_method_149_code 8 = .ok (.aload_n 0, 1) := by decide +kernel
theorem d3_9 : decode jdk_42_method_149_code 9 = .ok (.ldc 7, 2) := by decide +kernel
theorem own_strAtoms {a0 : Array Value} {Z : State} (hw : ∀ d ∈ tables_1, d.before a0 Z = true) : ∀ a ∈ Bundle.stringAtoms, a.before a0 Z = true := by
  intro a ha
  simp only [Bundle.stringAtoms, List.mem_cons, List.not_mem_nil, or_false] at ha
  rcases ha with rfl | rfl | rfl | rfl | rfl | rfl | rfl
  · exact (wd hw 18 rfl)
  · exact (wd hw 17 rfl)
  · exact (wd hw 35 rfl)
  · exact (wd hw 45 rfl)
  · exact (wd hw 43 rfl)
  · exact (wd hw 54 rfl)
  · exact (wd hw 55 rfl)
theorem d3_11 : decode jdk_42_method_149_code 11 = .ok (.getfield 9, 3) := by decide +kernel
theorem d3_14 : decode jdk_42_method_149_code 14 = .ok (.putfield 9, 3) := by decide +kernel
theorem d3_17 : decode jdk_42_method_149_code 17 = .ok (.aload_n 0, 1) := by decide +kernel
theorem d3_18 : decode jdk_42_method_149_code 18 = .ok (.ldc 7, 2) := by decide +kernel
theorem d3_20 : decode jdk_42_method_149_code 20 = .ok (.getfield 15, 3) := by decide +kernel
theorem d3_23 : decode jdk_42_method_149_code 23 = .ok (.putfield 15, 3) := by decide +kernel
theorem d3_26 : decode jdk_42_method_149_code 26 = .ok (.return_, 1) := by decide +kernel
theorem ef_1 (m : MethodId) (x0 : Addr) (x1 : Addr) (x2 : Int32) (x3 : Int32) : entryFrame m #[(.ref x0), (.ref x1), (.int x2), (.int x3), .null] 6 = mkF m 0 #[rv x0, rv x1, iv x2, iv x3, .val .null, .unset] [] := by first | (simp [entryFrame, mkF, argsToLocals, Value.category]; done) | rfl
theorem pn_1 : plainName "java/lang/String" = true := by first | (simp [plainName, overriddenIn]; done) | decide +kernel
def Q1 (Z : State) (a148 : Addr) (a149 : Addr) (p152 : Int32) (h0 : Heap) (n0 : Nat) (v : Option Value) (h : Heap) (L : List Loc) : Prop := v = none ∧ Fr n0 L ∧ Keep h0 h [a148] ∧ Exa Z h a148 zs2
set_option maxRecDepth 65536 in
set_option maxHeartbeats 40000000 in
theorem rm1 (l : Launch) (Z : State) (a0 : Array Value) (hw : ∀ d ∈ tables_1, d.before a0 Z = true) (ws : List Jvm.Cond) (a148 : Addr) (a149 : Addr) (p152 : Int32) (h0 : Heap) (n0 : Nat) (O0 : Old Z n0 h0) (pF_a148_value : Fld Z h0 a148 zs2 "value" "[B" .null) (pE_a148 : Exa Z h0 a148 zs2) (pG_a148 : n0 ≤ a148) (pF_a148_coder : Fld Z h0 a148 zs2 "coder" "B" (.int p152)) :
    MetFree l (⟨zs2, "<init>", zs7⟩ : MethodName) (head1 (Jvm.Cond.code (⟨zs2, "<init>", zs7⟩ : MethodName) jdk_42_method_149_code 6 none :: ws) ({ frames := 1, cells := 4, slots := 8, locals := 12 } : Room)) (fun a U => a = #[(.ref a148), (.ref a149), (.int (0 : Int32)), (.int (0 : Int32)), .null] ∧ Z.Warmed39 U.vm ∧ U.heap = h0 ∧ CHv Z consts_1 U.vm h0) (fun _ _ _ _ _ => True) (fun _ U o U' => ∃ v L, o = .returned v ∧ Q1 Z a148 a149 p152 h0 n0 v U'.heap L ∧ CHr Z consts_1 U.vm U.heap U'.vm U'.heap ∧ ReturnedEndW U o U' L ({ frames := 1, cells := 4, slots := 8, locals := 12 } : Room).cells ({ frames := 1, cells := 4, slots := 8, locals := 12 } : Room).slots) := by
  refine MetFree.of_bodySF (plainFor_of_name pn_1) hisR ?_
  intro p e s m args below meth c s₁ Bd hml0 hP hK
  obtain ⟨rfl, hZ, hh, hC⟩ := hP
  have hx := Bd.exec
  have hby := Bd.bytes
  have hml : c.maxLocals = 6 := hml0
  have hown : s.vm.findClass zs2 = some m.cls := findClass_of_methodNamed Bd.named
  have hnm := (name_of_methodNamed Bd.named Bd.method).1
  have X0 : Stand p l e ({ frames := 1, cells := 4, slots := 8, locals := 12 } : Room) (s.setVm s.vm) m #[(.ref a148), (.ref a149), (.int (0 : Int32)), (.int (0 : Int32)), .null] below meth c s₁ [] 0 0 := Stand.of_body Bd
  have hS : s.Since s.vm 0 := (State.WarmedH.refl s).since 0
  obtain ⟨k0, hk0, hS⟩ : ∃ k0, k0 ≤ h0.size ∧ s.Since s.vm k0 := ⟨0, Nat.zero_le _, hS⟩
  have hZ : Z.Warmed39 (s.setVm s.vm).vm := hZ
  have hown : (s.setVm s.vm).vm.findClass zs2 = some m.cls := hown
  have C0 : CHr Z consts_1 s.vm h0 s.vm h0 := CHr.refl hC
  have hEE := own_ee hw
  have e0 : s₁.heap = h0 := by rw [← hh, Bd.state]; rfl
  have N0 := Fr.nil n0
  refine own_out ?_
  refine own_via (fun t k => castTop (ef_1 m a148 a149 (0 : Int32) (0 : Int32)) (XS.aloadN X0.here hx rfl (hb hby d3_0) rfl rfl k)) ?_
  obtain ⟨T180, X180, e180, st180⟩ := initO X0 hx hZ hown (wd hw 27 rfl) (wd hw 28 rfl) (wd hw 29 rfl) e0 (g := (mkF m 1 #[rv a148, rv a149, iv (0 : Int32), iv (0 : Int32), .val .null, .unset] [(.ref a148)])) rfl (by rw [hml]; rfl) rfl (hb hby d3_1) (by decide) (W := 0) (by show 2 * 0 + _ ≤ _; exact Nat.le_of_eq rfl) (by decide)
  refine own_via (fun t k => st180 t (XS.iloadN X180.here hx rfl (hb hby d3_4) rfl (XS.ifNo X180.here hx rfl (hb hby d3_5) rfl ((if0 _ _).trans (teq (by decide : (0 : Int32) = (0 : Int32))).2) (XS.aloadN X180.here hx rfl (hb hby d3_8) rfl rfl k)))) ?_
  show own_Goes p e below (T180.setTop (mkF m 9 #[rv a148, rv a149, iv (0 : Int32), iv (0 : Int32), .val .null, .unset] [(.ref a148)])) _
  obtain ⟨b182, T181, h181, kj181, b183, k181, X181, e181, E181, hS, hk181, hZ, hown, Lx181, Lc181, Lv181, La181, -, -, Cr181, -, -, st181⟩ := ldcCH X180 hx hZ hown (wd hw 66 rfl) (own_strAtoms hw) e180 hS hk0 hEE.ew (List.mem_of_getElem? (i := 1) rfl) C0.1 (vs := []) (z := 0) ⟨by simp, rfl⟩ (by decide) (by decide) (g := (mkF m 9 #[rv a148, rv a149, iv (0 : Int32), iv (0 : Int32), .val .null, .unset] [(.ref a148)])) rfl (hb hby d3_9) (n := 0) (by decide) (by decide) (by decide) (by decide)
  refine own_via (fun t k => st181 t k) ?_
  have C184 := C0.trans Cr181
  show own_Goes p e below (T181.setTop (mkF m 11 #[rv a148, rv a149, iv (0 : Int32), iv (0 : Int32), .val .null, .unset] [(.ref b182), (.ref a148)])) _
  obtain ⟨T185, X185, e185, st185⟩ := getF X181 hx hZ hown (host := "") (Or.inl (wd hw 44 rfl)) Via.refl e181 Lv181 (g := (mkF m 11 #[rv a148, rv a149, iv (0 : Int32), iv (0 : Int32), .val .null, .unset] [(.ref b182), (.ref a148)])) rfl rfl (hb hby d3_11)
  refine own_via (fun t k => st185 t k) ?_
  have F186 : Fld Z h181 a148 zs2 "value" "[B" .null := (pF_a148_value.ext E181)
  have E187 : Exa Z h181 a148 zs2 := (pE_a148.ext E181)
  obtain ⟨T188, h188, X188, e188, W188, st188⟩ := putF X185 hx hZ hown (host := "") (Or.inl (wd hw 44 rfl)) Via.refl e185 F186 E187 (Or.inr ⟨(wd hw 45 rfl), rfl, hnm⟩) (wd hw 17 rfl) (ty := (.array .byte)) (by decide) rfl rfl (g := (mkF m 14 #[rv a148, rv a149, iv (0 : Int32), iv (0 : Int32), .val .null, .unset] [(.ref b183), (.ref a148)])) rfl rfl (hb hby d3_14)
  refine own_via (fun t k => st188 t k) ?_
  have Fw188 : Fld Z h188 a148 zs2 "value" "[B" (.ref b183) := F186.same W188
  have Sf189 : Safe Z consts_1 _ h181 a148 := (own_safeS hZ.alike E187 F186)
  have C188 := C184.trans (CHr.wr W188 Sf189 C184.1)
  have Sa190 := Safe.wr W188 Sf189 C184.1 Sf189
  have N188 := Fr.snoc X188 N0 pG_a148
  show own_Goes p e below (T188.setTop (mkF m 17 #[rv a148, rv a149, iv (0 : Int32), iv (0 : Int32), .val .null, .unset] [])) _
  refine own_via (fun t k => XS.aloadN X188.here hx rfl (hb hby d3_17) rfl rfl k) ?_
  have K191 : kj181 ≤ h188.size := (Nat.le_trans hk181 (Nat.le_of_eq W188.size.symm))
  have E195 : Exa Z h188 a148 zs2 := (E187.wr W188)
  obtain ⟨b193, T192, h192, kj192, b194, k192, X192, e192, E192, hS, hk192, hZ, hown, Lx192, Lc192, Lv192, La192, -, -, Cr192, -, -, st192⟩ := ldcCH X188 hx hZ hown (wd hw 66 rfl) (own_strAtoms hw) e188 hS K191 hEE.ew (List.mem_of_getElem? (i := 1) rfl) C188.1 (vs := []) (z := 0) ⟨by simp, rfl⟩ (by decide) (by decide) (g := (mkF m 18 #[rv a148, rv a149, iv (0 : Int32), iv (0 : Int32), .val .null, .unset] [(.ref a148)])) rfl (hb hby d3_18) (n := 0) (by decide) (by decide) (by decide) (by decide)
  refine own_via (fun t k => st192 t k) ?_
  have C196 := C188.trans Cr192
  have Sa197 := CHr.safe Cr192 E195.lt Sa190
  show own_Goes p e below (T192.setTop (mkF m 20 #[rv a148, rv a149, iv (0 : Int32), iv (0 : Int32), .val .null, .unset] [(.ref b193), (.ref a148)])) _
  obtain ⟨T198, X198, e198, st198⟩ := getF X192 hx hZ hown (host := "") (Or.inl (wd hw 42 rfl)) Via.refl e192 Lc192 (g := (mkF m 20 #[rv a148, rv a149, iv (0 : Int32), iv (0 : Int32), .val .null, .unset] [(.ref b193), (.ref a148)])) rfl rfl (hb hby d3_20)
  refine own_via (fun t k => st198 t k) ?_
  have F199 : Fld Z h192 a148 zs2 "coder" "B" (.int p152) := (((pF_a148_coder.ext E181).other W188 (Or.inr (slot_ne (Or.inr (wd hw 43 rfl)) (Or.inr (wd hw 45 rfl)) (by decide) (t := .byte) (t' := (.array .byte)) (by decide) (by decide)))).ext E192)
  have E200 : Exa Z h192 a148 zs2 := (E195.ext E192)
  obtain ⟨T201, h201, X201, e201, W201, st201⟩ := putFN X198 hx hZ hown (wd hw 42 rfl) Via.refl e198 F199 E200 (Or.inr ⟨(wd hw 43 rfl), rfl, hnm⟩) (wd hw 17 rfl) (ty := .byte) (v' := (.int (0 : Int32))) (by decide) rfl (by decide) (g := (mkF m 23 #[rv a148, rv a149, iv (0 : Int32), iv (0 : Int32), .val .null, .unset] [(.int (0 : Int32)), (.ref a148)])) rfl rfl (hb hby d3_23)
  refine own_via (fun t k => st201 t k) ?_
  have Fw201 : Fld Z h201 a148 zs2 "coder" "B" (.int (0 : Int32)) := F199.same W201
  have Sf202 : Safe Z consts_1 _ h192 a148 := Sa197
  have C201 := C196.trans (CHr.wr W201 Sf202 C196.1)
  have Sa203 := Safe.wr W201 Sf202 C196.1 Sa197
  have N201 := Fr.snoc X201 N188 pG_a148
  show own_Goes p e below (T201.setTop (mkF m 26 #[rv a148, rv a149, iv (0 : Int32), iv (0 : Int32), .val .null, .unset] [])) _
  have K204 : kj192 ≤ h201.size := (Nat.le_trans hk192 (Nat.le_of_eq W201.size.symm))
  obtain ⟨fs, hr, hrun, hended, hRW⟩ := X201.leaveW hS (by rw [e201]; first | exact K204 | exact Nat.le_refl _) (v := none) (fun _ => rfl)
  have Cz : CHr Z consts_1 s.vm s.heap T201.vm T201.heap := own_chr (C201.trans (CHv.at X201 hZ hEE.ew C201.1)) hh e201
  refine own_end (t := T201.setFrames fs) ?_ ⟨_, hrun, hended, _, _, rfl, ?_, Cz, own_rmono hRW (by decide) (by decide)⟩
  · exact X201.returnOut hx Bd.returns (hb hby d3_26) hr
  have E205 : Exa Z h201 a148 zs2 := (E200.wr W201)
  · show Q1 Z a148 a149 p152 h0 n0 _ T201.heap _
    rw [e201]
    exact ⟨rfl, N201, (((((Keep.refl h0 [a148]).ext E181).wr W188 (Or.inl (List.mem_of_getElem? (i := 0) rfl))).ext E192).wr W201 (Or.inl (List.mem_of_getElem? (i := 0) rfl))), E205⟩
theorem pd_1 : parseMethodDescriptor "([CIILjava/lang/Void;)V" = some ⟨[(.array .char), .int, .int, (.object "java/lang/Void")], none⟩ := by decide +kernel
theorem d2_9 : decode jdk_42_method_3_code 9 = .ok (.return_, 1) := by decide +kernel
theorem ef_2 (m : MethodId) (x0 : Addr) (x1 : Addr) : entryFrame m #[(.ref x0), (.ref x1)] 2 = mkF m 0 #[rv x0, rv x1] [] := by first | (simp [entryFrame, mkF, argsToLocals, Value.category]; done) | rfl
def Q2 (Z : State) (a114 : Addr) (a115 : Addr) (p118 : Int32) (h0 : Heap) (n0 : Nat) (v : Option Value) (h : Heap) (L : List Loc) : Prop := v = none ∧ Fr n0 L ∧ Keep h0 h [a114] ∧ Exa Z h a114 zs2
set_option maxRecDepth 65536 in
set_option maxHeartbeats 40000000 in
theorem rm2 (l : Launch) (Z : State) (a0 : Array Value) (hw : ∀ d ∈ tables_1, d.before a0 Z = true) (ws : List Jvm.Cond) (a114 : Addr) (a115 : Addr) (p118 : Int32) (h0 : Heap) (n0 : Nat) (O0 : Old Z n0 h0) (pL_a115 : own_Len Z h0 a115 .char (0 : Int32)) (pF_a114_value : Fld Z h0 a114 zs2 "value" "[B" .null) (pE_a114 : Exa Z h0 a114 zs2) (pG_a114 : n0 ≤ a114) (pF_a114_coder : Fld Z h0 a114 zs2 "coder" "B" (.int p118)) :
    MetFree l (⟨zs2, "<init>", "([C)V"⟩ : MethodName) (head1 (Jvm.Cond.code (⟨zs2, "<init>", "([C)V"⟩ : MethodName) jdk_42_method_3_code 2 none :: ws) ({ frames := 2, cells := 4, slots := 8, locals := 29 } : Room)) (fun a U => a = #[(.ref a114), (.ref a115)] ∧ Z.Warmed39 U.vm ∧ U.heap = h0 ∧ CHv Z consts_1 U.vm h0) (fun _ _ _ _ _ => True) (fun _ U o U' => ∃ v L, o = .returned v ∧ Q2 Z a114 a115 p118 h0 n0 v U'.heap L ∧ CHr Z consts_1 U.vm U.heap U'.vm U'.heap ∧ ReturnedEndW U o U' L ({ frames := 2, cells := 4, slots := 8, locals := 29 } : Room).cells ({ frames := 2, cells := 4, slots := 8, locals := 29 } : Room).slots) := by
  refine MetFree.of_bodySF (plainFor_of_name pn_1) hisR ?_
  intro p e s m args below meth c s₁ Bd hml0 hP hK
  obtain ⟨rfl, hZ, hh, hC⟩ := hP
  have hx := Bd.exec
  have hby := Bd.bytes
  have hml : c.maxLocals = 2 := hml0
  have hown : s.vm.findClass zs2 = some m.cls := findClass_of_methodNamed Bd.named
  have hnm := (name_of_methodNamed Bd.named Bd.method).1
  have X0 : Stand p l e ({ frames := 2, cells := 4, slots := 8, locals := 29 } : Room) (s.setVm s.vm) m #[(.ref a114), (.ref a115)] below meth c s₁ [] 0 0 := Stand.of_body Bd
  have hS : s.Since s.vm 0 := (State.WarmedH.refl s).since 0
  obtain ⟨k0, hk0, hS⟩ : ∃ k0, k0 ≤ h0.size ∧ s.Since s.vm k0 := ⟨0, Nat.zero_le _, hS⟩
  have hZ : Z.Warmed39 (s.setVm s.vm).vm := hZ
  have hown : (s.setVm s.vm).vm.findClass zs2 = some m.cls := hown
  have C0 : CHr Z consts_1 s.vm h0 s.vm h0 := CHr.refl hC
  have hEE := own_ee hw
  have e0 : s₁.heap = h0 := by rw [← hh, Bd.state]; rfl
  have N0 := Fr.nil n0
  refine own_out ?_
  refine own_via (fun t k => castTop (ef_2 m a114 a115) (XS.aloadN X0.here hx rfl (hb hby d2_0) rfl rfl (XS.aloadN X0.here hx rfl (hb hby d2_1) rfl rfl (XS.iconst X0.here hx rfl (hb hby d2_2) (XS.aloadN X0.here hx rfl (hb hby d2_3) rfl rfl k))))) ?_
  show own_Goes p e below (s₁.setTop (mkF m 4 #[rv a114, rv a115] [(.ref a115), (.int (0 : Int32)), (.ref a115), (.ref a114)])) _
  obtain ⟨_, _, _, V146⟩ := id (pL_a115)
  obtain ⟨cl146, Ar146, -, S146, M146, -, -⟩ := id (V146)
  refine own_via (fun t k => X0.arraylength hx (by rw [e0]; exact Ar146.1) (State.isArrayOf_alike hZ.alike Ar146.2.1) (g := (mkF m 4 #[rv a114, rv a115] [(.ref a115), (.int (0 : Int32)), (.ref a115), (.ref a114)])) rfl rfl (hb hby d2_4) t k) ?_
  rw [len_of S146 M146]
  show own_Goes p e below (s₁.setTop (mkF m 5 #[rv a114, rv a115] [(.int (0 : Int32)), (.int (0 : Int32)), (.ref a115), (.ref a114)])) _
  refine own_via (fun t k => XS.aconstNull X0.here hx rfl (hb hby d2_5) k) ?_
  obtain ⟨_, T147, _, X147, hQ147, Cr147, hS, hZ, hown, st147⟩ := own_ciH X0 hx hZ hS hk0 hown (wd hw 23 rfl) (wd hw 24 rfl) (wd hw 26 rfl) (wd hw 18 rfl) rfl (by decide) hEE.ew C0.1 (rm1 l Z a0 hw [] a114 a115 p118 h0 n0 O0 pF_a114_value pE_a114 pG_a114 pF_a114_coder) e0 (g := (mkF m 6 #[rv a114, rv a115] [.null, (.int (0 : Int32)), (.int (0 : Int32)), (.ref a115), (.ref a114)])) rfl (by rw [hml]; rfl) (rest := []) (W := 0) (lenOf pd_1 rfl) rfl (by show 2 * 0 + _ ≤ _; exact Nat.le_of_eq rfl) (hb hby d2_6) (by decide) (by decide) (by decide) (by decide)
  obtain ⟨h147, e147⟩ : ∃ z, T147.heap = z := ⟨_, rfl⟩
  rw [e147] at hQ147 Cr147
  obtain ⟨rfl, Nq147, K147, ex206⟩ := hQ147
  have N147 := Fr.app N0 Nq147
  have C207 := C0.trans Cr147
  have hk208 : T147.heap.size ≤ h147.size := Nat.le_of_eq (congrArg Array.size e147)
  refine own_via (fun t k => st147 t k) ?_
  obtain ⟨fs, hr, hrun, hended, hRW⟩ := X147.leaveW hS (by rw [e147]; first | exact hk208 | exact Nat.le_refl _) (v := none) (fun _ => rfl)
  have Cz : CHr Z consts_1 s.vm s.heap T147.vm T147.heap := own_chr (C207.trans (CHv.at X147 hZ hEE.ew C207.1)) hh e147
  refine own_end (t := T147.setFrames fs) ?_ ⟨_, hrun, hended, _, _, rfl, ?_, Cz, own_rmono hRW (by decide) (by decide)⟩
  · exact X147.returnOut hx Bd.returns (hb hby d2_9) hr
  · show Q2 Z a114 a115 p118 h0 n0 _ T147.heap _
    rw [e147]
    exact ⟨rfl, N147, ((Keep.refl h0 [a114]).trans K147 (allS (Or.inl (List.mem_of_getElem? (i := 0) rfl)) all0)), ex206⟩
theorem pd_2 : parseMethodDescriptor "([C)V" = some ⟨[(.array .char)], none⟩ := by decide +kernel
theorem d1_38 : decode method_3_code 38 = .ok (.areturn, 1) := by decide +kernel
theorem d1_39 : decode method_3_code 39 = .ok (.iload_n 0, 1) := by decide +kernel
theorem d1_40 : decode method_3_code 40 = .ok (.iconst 1, 1) := by decide +kernel
theorem d1_41 : decode method_3_code 41 = .ok (.if_icmp .ne 19, 3) := by decide +kernel
theorem d1_44 : decode method_3_code 44 = .ok (.new 33, 3) := by decide +kernel
theorem d1_47 : decode method_3_code 47 = .ok (.dup, 1) := by decide +kernel
theorem d1_48 : decode method_3_code 48 = .ok (.iconst 1, 1) := by decide +kernel
theorem d1_49 : decode method_3_code 49 = .ok (.newarray .char, 2) := by decide +kernel
theorem d1_51 : decode method_3_code 51 = .ok (.dup, 1) := by decide +kernel
theorem d1_52 : decode method_3_code 52 = .ok (.iconst 0, 1) := by decide +kernel
theorem d1_53 : decode method_3_code 53 = .ok (.iload 4, 2) := by decide +kernel
theorem d1_55 : decode method_3_code 55 = .ok (.castore, 1) := by decide +kernel
theorem d1_56 : decode method_3_code 56 = .ok (.invokespecial 42, 3) := by decide +kernel
theorem d3_27 : decode jdk_42_method_149_code 27 = .ok (.getstatic 38, 3) := by decide +kernel
theorem d3_30 : decode jdk_42_method_149_code 30 = .ok (.ifCond .eq 28, 3) := by decide +kernel
theorem d3_33 : decode jdk_42_method_149_code 33 = .ok (.aload_n 1, 1) := by decide +kernel
theorem d3_34 : decode jdk_42_method_149_code 34 = .ok (.iload_n 2, 1) := by decide +kernel
theorem d3_35 : decode jdk_42_method_149_code 35 = .ok (.iload_n 3, 1) := by decide +kernel
theorem d3_36 : decode jdk_42_method_149_code 36 = .ok (.invokestatic 177, 3) := by decide +kernel
theorem d5_0 : decode jdk_52_method_16_code 0 = .ok (.iload_n 2, 1) := by decide +kernel
theorem d5_1 : decode jdk_52_method_16_code 1 = .ok (.newarray .byte, 2) := by decide +kernel
theorem d5_3 : decode jdk_52_method_16_code 3 = .ok (.astore_n 3, 1) := by decide +kernel
theorem d5_4 : decode jdk_52_method_16_code 4 = .ok (.aload_n 0, 1) := by decide +kernel
theorem d5_5 : decode jdk_52_method_16_code 5 = .ok (.iload_n 1, 1) := by decide +kernel
theorem d5_6 : decode jdk_52_method_16_code 6 = .ok (.aload_n 3, 1) := by decide +kernel
theorem d5_7 : decode jdk_52_method_16_code 7 = .ok (.iconst 0, 1) := by decide +kernel
theorem d5_8 : decode jdk_52_method_16_code 8 = .ok (.iload_n 2, 1) := by decide +kernel
theorem d5_9 : decode jdk_52_method_16_code 9 = .ok (.invokestatic 115, 3) := by decide +kernel
theorem d6_0 : decode jdk_52_method_21_code 0 = .ok (.iconst 0, 1) := by decide +kernel
theorem d6_1 : decode jdk_52_method_21_code 1 = .ok (.istore 5, 2) := by decide +kernel
theorem d6_3 : decode jdk_52_method_21_code 3 = .ok (.iload 5, 2) := by decide +kernel
theorem d6_5 : decode jdk_52_method_21_code 5 = .ok (.iload 4, 2) := by decide +kernel
theorem d6_7 : decode jdk_52_method_21_code 7 = .ok (.if_icmp .ge 37, 3) := by decide +kernel
theorem d6_10 : decode jdk_52_method_21_code 10 = .ok (.aload_n 0, 1) := by decide +kernel
theorem d6_11 : decode jdk_52_method_21_code 11 = .ok (.iload_n 1, 1) := by decide +kernel
theorem d6_12 : decode jdk_52_method_21_code 12 = .ok (.caload, 1) := by decide +kernel
theorem d6_13 : decode jdk_52_method_21_code 13 = .ok (.istore 6, 2) := by decide +kernel
theorem d6_15 : decode jdk_52_method_21_code 15 = .ok (.iload 6, 2) := by decide +kernel
theorem d6_17 : decode jdk_52_method_21_code 17 = .ok (.sipush 255, 3) := by decide +kernel
theorem d6_20 : decode jdk_52_method_21_code 20 = .ok (.if_icmp .le 6, 3) := by decide +kernel
theorem d6_26 : decode jdk_52_method_21_code 26 = .ok (.aload_n 2, 1) := by decide +kernel
theorem d6_27 : decode jdk_52_method_21_code 27 = .ok (.iload_n 3, 1) := by decide +kernel
theorem d6_28 : decode jdk_52_method_21_code 28 = .ok (.iload 6, 2) := by decide +kernel
theorem d6_30 : decode jdk_52_method_21_code 30 = .ok (.i2b, 1) := by decide +kernel
theorem d6_31 : decode jdk_52_method_21_code 31 = .ok (.bastore, 1) := by decide +kernel
theorem d6_32 : decode jdk_52_method_21_code 32 = .ok (.iinc 1 1, 3) := by decide +kernel
theorem d6_35 : decode jdk_52_method_21_code 35 = .ok (.iinc 3 1, 3) := by decide +kernel
theorem d6_38 : decode jdk_52_method_21_code 38 = .ok (.iinc 5 1, 3) := by decide +kernel
theorem d6_41 : decode jdk_52_method_21_code 41 = .ok (.goto (-38), 3) := by decide +kernel
theorem d6_44 : decode jdk_52_method_21_code 44 = .ok (.iload 4, 2) := by decide +kernel
theorem d6_46 : decode jdk_52_method_21_code 46 = .ok (.ireturn, 1) := by decide +kernel
theorem ef_3 (m : MethodId) (x0 : Addr) (x1 : Int32) (x2 : Addr) (x3 : Int32) (x4 : Int32) : entryFrame m #[(.ref x0), (.int x1), (.ref x2), (.int x3), (.int x4)] 7 = mkF m 0 #[rv x0, iv x1, rv x2, iv x3, iv x4, .unset, .unset] [] := by first | (simp [entryFrame, mkF, argsToLocals, Value.category]; done) | rfl
theorem pn_2 : plainName "java/lang/StringUTF16" = true := by first | (simp [plainName, overriddenIn]; done) | decide +kernel
def Q3 (Z : State) (a351 : Addr) (a352 : Addr) (k358 : ClassId) (p357 : Int32) (k359 : ClassId) (h0 : Heap) (n0 : Nat) (v : Option Value) (h : Heap) (L : List Loc) : Prop := v = some (.int (1 : Int32)) ∧ Fr n0 L ∧ Keep h0 h [a352] ∧ Arv Z h a352 k359 .byte (1 : Int32) [(.int (p357.toInt8.toInt32))] (.int (0 : Int32))
set_option maxRecDepth 65536 in
set_option maxHeartbeats 40000000 in
theorem rm3 (l : Launch) (Z : State) (a0 : Array Value) (hw : ∀ d ∈ tables_1, d.before a0 Z = true) (ws : List Jvm.Cond) (a351 : Addr) (a352 : Addr) (k358 : ClassId) (p357 : Int32) (k359 : ClassId) (h0 : Heap) (n0 : Nat) (O0 : Old Z n0 h0) (pV_a351 : Arv Z h0 a351 k358 .char (1 : Int32) [(.int p357)] (.int (0 : Int32))) (pC373 : ¬ ((255 : Int32) < p357)) (pV_a352 : Arv Z h0 a352 k359 .byte (1 : Int32) [] (.int (0 : Int32))) (pG_a352 : n0 ≤ a352) :
    MetFree l (⟨zs3, "compress", "([CI[BII)I"⟩ : MethodName) (head1 (Jvm.Cond.code (⟨zs3, "compress", "([CI[BII)I"⟩ : MethodName) jdk_52_method_21_code 7 (some .int) :: ws) ({ frames := 0, cells := 0, slots := 0, locals := 0 } : Room)) (fun a U => a = #[(.ref a351), (.int (0 : Int32)), (.ref a352), (.int (0 : Int32)), (.int (1 : Int32))] ∧ Z.Warmed39 U.vm ∧ U.heap = h0 ∧ CHv Z consts_1 U.vm h0) (fun _ _ _ _ _ => True) (fun _ U o U' => ∃ v L, o = .returned v ∧ Q3 Z a351 a352 k358 p357 k359 h0 n0 v U'.heap L ∧ CHr Z consts_1 U.vm U.heap U'.vm U'.heap ∧ ReturnedEndW U o U' L ({ frames := 0, cells := 0, slots := 0, locals := 0 } : Room).cells ({ frames := 0, cells := 0, slots := 0, locals := 0 } : Room).slots) := by
  refine MetFree.of_bodySF (plainFor_of_name pn_2) hisR ?_
  intro p e s m args below meth c s₁ Bd hml0 hP hK
  obtain ⟨rfl, hZ, hh, hC⟩ := hP
  have hx := Bd.exec
  have hby := Bd.bytes
  have hml : c.maxLocals = 7 := hml0
  have hown : s.vm.findClass zs3 = some m.cls := findClass_of_methodNamed Bd.named
  have hnm := (name_of_methodNamed Bd.named Bd.method).1
  have X0 : Stand p l e ({ frames := 0, cells := 0, slots := 0, locals := 0 } : Room) (s.setVm s.vm) m #[(.ref a351), (.int (0 : Int32)), (.ref a352), (.int (0 : Int32)), (.int (1 : Int32))] below meth c s₁ [] 0 0 := Stand.of_body Bd
  have hS : s.Since s.vm 0 := (State.WarmedH.refl s).since 0
  obtain ⟨k0, hk0, hS⟩ : ∃ k0, k0 ≤ h0.size ∧ s.Since s.vm k0 := ⟨0, Nat.zero_le _, hS⟩
  have hZ : Z.Warmed39 (s.setVm s.vm).vm := hZ
  have hown : (s.setVm s.vm).vm.findClass zs3 = some m.cls := hown
  have C0 : CHr Z consts_1 s.vm h0 s.vm h0 := CHr.refl hC
  have hEE := own_ee hw
  have e0 : s₁.heap = h0 := by rw [← hh, Bd.state]; rfl
  have N0 := Fr.nil n0
  refine own_out ?_
  refine own_via (fun t k => castTop (ef_3 m a351 (0 : Int32) a352 (0 : Int32) (1 : Int32)) (XS.iconst X0.here hx rfl (hb hby d6_0) (XS.istore X0.here hx rfl (hb hby d6_1) rfl (l' := #[rv a351, iv (0 : Int32), rv a352, iv (0 : Int32), iv (1 : Int32), iv (0 : Int32), .unset]) rfl (XS.iload X0.here hx rfl (hb hby d6_3) rfl (XS.iload X0.here hx rfl (hb hby d6_5) rfl (XS.icmpNo X0.here hx rfl (hb hby d6_7) rfl (tlt (by decide : (0 : Int32) < (1 : Int32))).2.1 (XS.aloadN X0.here hx rfl (hb hby d6_10) rfl rfl (XS.iloadN X0.here hx rfl (hb hby d6_11) rfl k)))))))) ?_
  show own_Goes p e below (s₁.setTop (mkF m 12 #[rv a351, iv (0 : Int32), rv a352, iv (0 : Int32), iv (1 : Int32), iv (0 : Int32), .unset] [(.int (0 : Int32)), (.ref a351)])) _
  obtain ⟨cl387, Ar387, qq387, S387, M387, H387, G387⟩ := id (pV_a351)
  have hin387 : ¬ ((0 : Int32) < 0 ∨ cl387.slots.size ≤ ((0 : Int32)).toNatClampNeg) := inb_of S387 ⟨by decide, by decide⟩
  refine own_via (fun t k => X0.caload hx (j := (0 : Int32)) (v := (.int p357)) (by rw [e0]; exact Ar387.1) (State.isArrayOf_alike hZ.alike Ar387.2.1) Ar387.2.2 hin387 (Has.at H387 hin387 rfl) (g := (mkF m 12 #[rv a351, iv (0 : Int32), rv a352, iv (0 : Int32), iv (1 : Int32), iv (0 : Int32), .unset] [(.int (0 : Int32)), (.ref a351)])) rfl rfl (hb hby d6_12) t (XS.istore X0.here hx rfl (hb hby d6_13) rfl (l' := #[rv a351, iv (0 : Int32), rv a352, iv (0 : Int32), iv (1 : Int32), iv (0 : Int32), iv p357]) rfl (XS.iload X0.here hx rfl (hb hby d6_15) rfl (XS.sipush X0.here hx rfl (hb hby d6_17) (XS.icmpYes X0.here hx rfl (pc0 := 20) (pc' := 26) rfl (hb hby d6_20) rfl (flt pC373).2.2.2 (by decide) (by decide) (XS.aloadN X0.here hx rfl (hb hby d6_26) rfl rfl (XS.iloadN X0.here hx rfl (hb hby d6_27) rfl (XS.iload X0.here hx rfl (hb hby d6_28) rfl (XS.i2b X0.here hx rfl (hb hby d6_30) rfl k))))))))) ?_
  show own_Goes p e below (s₁.setTop (mkF m 31 #[rv a351, iv (0 : Int32), rv a352, iv (0 : Int32), iv (1 : Int32), iv (0 : Int32), iv p357] [(.int (p357.toInt8.toInt32)), (.int (0 : Int32)), (.ref a352)])) _
  have V388 : Arv Z h0 a352 k359 .byte (1 : Int32) [(.int (0 : Int32))] (.int (0 : Int32)) := pV_a352.pad (pad_rep [] (.int (0 : Int32)) 1)
  obtain ⟨cl389, Ar389, qq389, S389, M389, H389, G389⟩ := id (V388)
  have hin389 : ¬ ((0 : Int32) < 0 ∨ cl389.slots.size ≤ ((0 : Int32)).toNatClampNeg) := inb_of S389 ⟨by decide, by decide⟩
  obtain ⟨T389, h389, X389, e389, W389, st389⟩ := stB X0 hx hZ e0 Ar389 (j := (0 : Int32)) hin389 (g := (mkF m 31 #[rv a351, iv (0 : Int32), rv a352, iv (0 : Int32), iv (1 : Int32), iv (0 : Int32), iv p357] [(.int (p357.toInt8.toInt32)), (.int (0 : Int32)), (.ref a352)])) rfl rfl (hb hby d6_31)
  refine own_via (fun t k => st389 t k) ?_
  have V390 : Arv Z h389 a352 k359 .byte (1 : Int32) [(.int (p357.toInt8.toInt32))] (.int (0 : Int32)) := by
    have qv := Arv.set Ar389 qq389 S389 M389 H389 G389 (fits_nar_byte _) W389 0 rfl (Nat.le_of_ble_eq_true rfl)
    first | rw [show nar .byte (p357.toInt8.toInt32) = (p357.toInt8.toInt32) from own_b2 _] at qv | rw [own_b2] at qv
    exact qv
  have Sf391 : Safe Z consts_1 _ h0 a352 := (own_safeB hZ hEE pV_a352 (by decide))
  have C389 := C0.trans (CHr.wr W389 Sf391 C0.1)
  have N389 := Fr.snoc X389 N0 pG_a352
  show own_Goes p e below (T389.setTop (mkF m 32 #[rv a351, iv (0 : Int32), rv a352, iv (0 : Int32), iv (1 : Int32), iv (0 : Int32), iv p357] [])) _
  refine own_via (fun t k => XS.iinc X389.here hx rfl (hb hby d6_32) rfl (l' := #[rv a351, iv (1 : Int32), rv a352, iv (0 : Int32), iv (1 : Int32), iv (0 : Int32), iv p357]) rfl (XS.iinc X389.here hx rfl (hb hby d6_35) rfl (l' := #[rv a351, iv (1 : Int32), rv a352, iv (1 : Int32), iv (1 : Int32), iv (0 : Int32), iv p357]) rfl (XS.iinc X389.here hx rfl (hb hby d6_38) rfl (l' := #[rv a351, iv (1 : Int32), rv a352, iv (1 : Int32), iv (1 : Int32), iv (1 : Int32), iv p357]) rfl (XS.goto X389.here hx rfl (pc0 := 41) (pc' := 3) rfl (hb hby d6_41) (by decide) (by decide) (XS.iload X389.here hx rfl (hb hby d6_3) rfl (XS.iload X389.here hx rfl (hb hby d6_5) rfl (XS.icmpYes X389.here hx rfl (pc0 := 7) (pc' := 44) rfl (hb hby d6_7) rfl (flt (by decide : ¬ ((1 : Int32) < (1 : Int32)))).2.1 (by decide) (by decide) (XS.iload X389.here hx rfl (hb hby d6_44) rfl k)))))))) ?_
  show own_Goes p e below (T389.setTop (mkF m 46 #[rv a351, iv (1 : Int32), rv a352, iv (1 : Int32), iv (1 : Int32), iv (1 : Int32), iv p357] [(.int (1 : Int32))])) _
  have K392 : k0 ≤ h389.size := (Nat.le_trans hk0 (Nat.le_of_eq W389.size.symm))
  obtain ⟨fs, hr, hrun, hended, hRW⟩ := X389.leaveW hS (by rw [e389]; first | exact K392 | exact Nat.le_refl _) (v := some (.int (1 : Int32))) (fun h => by rw [Bd.returns] at h; cases h)
  have Cz : CHr Z consts_1 s.vm s.heap T389.vm T389.heap := own_chr (C389.trans (CHv.at X389 hZ hEE.ew C389.1)) hh e389
  refine own_end (t := T389.setFrames fs) ?_ ⟨_, hrun, hended, _, _, rfl, ?_, Cz, own_rmono hRW (by decide) (by decide)⟩
  · exact retI X389 hx Bd.returns (hb hby d6_46) hr
  · show Q3 Z a351 a352 k358 p357 k359 h0 n0 _ T389.heap _
    rw [e389]
    exact ⟨rfl, N389, ((Keep.refl h0 [a352]).wr W389 (Or.inl (List.mem_of_getElem? (i := 0) rfl))), V390⟩
theorem pd_3 : parseMethodDescriptor "([CI[BII)I" = some ⟨[(.array .char), .int, (.array .byte), .int, .int], some .int⟩ := by decide +kernel
theorem d5_12 : decode jdk_52_method_16_code 12 = .ok (.istore 4, 2) := by decide +kernel
theorem d5_14 : decode jdk_52_method_16_code 14 = .ok (.iload 4, 2) := by decide +kernel
theorem d5_16 : decode jdk_52_method_16_code 16 = .ok (.iload_n 2, 1) := by decide +kernel
theorem d5_17 : decode jdk_52_method_16_code 17 = .ok (.if_icmp .eq 40, 3) := by decide +kernel
theorem d5_57 : decode jdk_52_method_16_code 57 = .ok (.aload_n 3, 1) := by decide +kernel
theorem d5_58 : decode jdk_52_method_16_code 58 = .ok (.areturn, 1) := by decide +kernel
theorem ef_4 (m : MethodId) (x0 : Addr) (x1 : Int32) (x2 : Int32) : entryFrame m #[(.ref x0), (.int x1), (.int x2)] 6 = mkF m 0 #[rv x0, iv x1, iv x2, .unset, .unset, .unset] [] := by first | (simp [entryFrame, mkF, argsToLocals, Value.category]; done) | rfl
def Q4 (Z : State) (a311 : Addr) (k317 : ClassId) (p316 : Int32) (h0 : Heap) (n0 : Nat) (v : Option Value) (h : Heap) (L : List Loc) : Prop := (∃ (b346 : Addr) (k345 : ClassId), v = some (.ref b346) ∧ Fr n0 L ∧ Keep h0 h [] ∧ h0.size ≤ b346 ∧ Arv Z h b346 k345 .byte (1 : Int32) [(.int (p316.toInt8.toInt32))] (.int (0 : Int32)))
set_option maxRecDepth 65536 in
set_option maxHeartbeats 40000000 in
theorem rm4 (l : Launch) (Z : State) (a0 : Array Value) (hw : ∀ d ∈ tables_1, d.before a0 Z = true) (ws : List Jvm.Cond) (a311 : Addr) (k317 : ClassId) (p316 : Int32) (h0 : Heap) (n0 : Nat) (O0 : Old Z n0 h0) (pV_a311 : Arv Z h0 a311 k317 .char (1 : Int32) [(.int p316)] (.int (0 : Int32))) (pC331 : ¬ ((255 : Int32) < p316)) :
    MetFree l (⟨zs3, "compress", "([CII)[B"⟩ : MethodName) (head1 (Jvm.Cond.code (⟨zs3, "compress", "([CII)[B"⟩ : MethodName) jdk_52_method_16_code 6 (some (.array .byte)) :: ws) ({ frames := 1, cells := 1, slots := 1, locals := 18 } : Room)) (fun a U => a = #[(.ref a311), (.int (0 : Int32)), (.int (1 : Int32))] ∧ Z.Warmed39 U.vm ∧ U.heap = h0 ∧ CHv Z consts_1 U.vm h0) (fun _ _ _ _ _ => True) (fun _ U o U' => ∃ v L, o = .returned v ∧ Q4 Z a311 k317 p316 h0 n0 v U'.heap L ∧ CHr Z consts_1 U.vm U.heap U'.vm U'.heap ∧ ReturnedEndW U o U' L ({ frames := 1, cells := 1, slots := 1, locals := 18 } : Room).cells ({ frames := 1, cells := 1, slots := 1, locals := 18 } : Room).slots) := by
  refine MetFree.of_bodySF (plainFor_of_name pn_2) hisR ?_
  intro p e s m args below meth c s₁ Bd hml0 hP hK
  obtain ⟨rfl, hZ, hh, hC⟩ := hP
  have hx := Bd.exec
  have hby := Bd.bytes
  have hml : c.maxLocals = 6 := hml0
  have hown : s.vm.findClass zs3 = some m.cls := findClass_of_methodNamed Bd.named
  have hnm := (name_of_methodNamed Bd.named Bd.method).1
  have X0 : Stand p l e ({ frames := 1, cells := 1, slots := 1, locals := 18 } : Room) (s.setVm s.vm) m #[(.ref a311), (.int (0 : Int32)), (.int (1 : Int32))] below meth c s₁ [] 0 0 := Stand.of_body Bd
  have hS : s.Since s.vm 0 := (State.WarmedH.refl s).since 0
  obtain ⟨k0, hk0, hS⟩ : ∃ k0, k0 ≤ h0.size ∧ s.Since s.vm k0 := ⟨0, Nat.zero_le _, hS⟩
  have hZ : Z.Warmed39 (s.setVm s.vm).vm := hZ
  have hown : (s.setVm s.vm).vm.findClass zs3 = some m.cls := hown
  have C0 : CHr Z consts_1 s.vm h0 s.vm h0 := CHr.refl hC
  have hEE := own_ee hw
  have e0 : s₁.heap = h0 := by rw [← hh, Bd.state]; rfl
  have N0 := Fr.nil n0
  refine own_out ?_
  refine own_via (fun t k => castTop (ef_4 m a311 (0 : Int32) (1 : Int32)) (XS.iloadN X0.here hx rfl (hb hby d5_0) rfl k)) ?_
  obtain ⟨T345, h345, k345, X345, e345, E345, A345, st345⟩ := newP X0 hx hZ (wd hw 35 rfl) e0 (g := (mkF m 1 #[rv a311, iv (0 : Int32), iv (1 : Int32), .unset, .unset, .unset] [(.int (1 : Int32))])) rfl (hb hby d5_1) rfl (by decide) (cap := 1) (by decide) (by decide) (by decide) (by decide)
  obtain ⟨b346, q345⟩ : ∃ z, z = h0.size := ⟨_, rfl⟩
  rw [← q345] at A345 st345
  refine own_via (fun t k => st345 t k) ?_
  have C345 := C0.trans (CHr.ext E345 C0.1)
  have g347 : n0 ≤ b346 := Nat.le_trans (own_old O0) (Nat.le_of_eq q345.symm)
  have B348 : h0.size ≤ b346 := Nat.le_trans (Nat.le_refl _) (Nat.le_of_eq q345.symm)
  have V349 : Arv Z h345 b346 k345 .byte (1 : Int32) [] (.int (0 : Int32)) := Arv.new A345 (by decide)
  show own_Goes p e below (T345.setTop (mkF m 3 #[rv a311, iv (0 : Int32), iv (1 : Int32), .unset, .unset, .unset] [(.ref b346)])) _
  refine own_via (fun t k => XS.astoreN X345.here hx rfl (hb hby d5_3) rfl rfl (l' := #[rv a311, iv (0 : Int32), iv (1 : Int32), rv b346, .unset, .unset]) rfl (XS.aloadN X345.here hx rfl (hb hby d5_4) rfl rfl (XS.iloadN X345.here hx rfl (hb hby d5_5) rfl (XS.aloadN X345.here hx rfl (hb hby d5_6) rfl rfl (XS.iconst X345.here hx rfl (hb hby d5_7) (XS.iloadN X345.here hx rfl (hb hby d5_8) rfl k)))))) ?_
  show own_Goes p e below (T345.setTop (mkF m 9 #[rv a311, iv (0 : Int32), iv (1 : Int32), rv b346, .unset, .unset] [(.int (1 : Int32)), (.int (0 : Int32)), (.ref b346), (.int (0 : Int32)), (.ref a311)])) _
  have V393 : Arv Z h345 a311 k317 .char (1 : Int32) [(.int p316)] (.int (0 : Int32)) := (pV_a311.ext E345)
  have O394 : Old Z n0 h345 := (O0.ext E345)
  have K395 : k0 ≤ h345.size := (Nat.le_trans hk0 E345.1)
  obtain ⟨_, T350, _, X350, hQ350, Cr350, hS, hZ, hown, st350⟩ := own_csH X345 hx hZ hS K395 hown (wd hw 36 rfl) (wd hw 37 rfl) (wd hw 38 rfl) (wd hw 33 rfl) (by decide) hEE.ew C345.1 (rm3 l Z a0 hw [] a311 b346 k317 p316 k345 h345 n0 O394 V393 pC331 V349 g347) e345 (g := (mkF m 9 #[rv a311, iv (0 : Int32), iv (1 : Int32), rv b346, .unset, .unset] [(.int (1 : Int32)), (.int (0 : Int32)), (.ref b346), (.int (0 : Int32)), (.ref a311)])) rfl (by rw [hml]; rfl) (rest := []) (W := 0) (lenOf pd_3 rfl) rfl (by show 2 * 0 + _ ≤ _; exact Nat.le_of_eq rfl) (hb hby d5_9) (by decide) (by decide) (by decide) (by decide)
  obtain ⟨h350, e350⟩ : ∃ z, T350.heap = z := ⟨_, rfl⟩
  rw [e350] at hQ350 Cr350
  obtain ⟨rfl, Nq350, K350, vx396⟩ := hQ350
  have N350 := Fr.app N0 Nq350
  have C397 := C345.trans Cr350
  have hk398 : T350.heap.size ≤ h350.size := Nat.le_of_eq (congrArg Array.size e350)
  refine own_via (fun t k => st350 t (XS.istore X350.here hx rfl (hb hby d5_12) rfl (l' := #[rv a311, iv (0 : Int32), iv (1 : Int32), rv b346, iv (1 : Int32), .unset]) rfl (XS.iload X350.here hx rfl (hb hby d5_14) rfl (XS.iloadN X350.here hx rfl (hb hby d5_16) rfl (XS.icmpYes X350.here hx rfl (pc0 := 17) (pc' := 57) rfl (hb hby d5_17) rfl (teq (by decide : (1 : Int32) = (1 : Int32))).1 (by decide) (by decide) (XS.aloadN X350.here hx rfl (hb hby d5_57) rfl rfl k)))))) ?_
  show own_Goes p e below (T350.setTop (mkF m 58 #[rv a311, iv (0 : Int32), iv (1 : Int32), rv b346, iv (1 : Int32), .unset] [(.ref b346)])) _
  obtain ⟨fs, hr, hrun, hended, hRW⟩ := X350.leaveW hS (by rw [e350]; first | exact hk398 | exact Nat.le_refl _) (v := some (.ref b346)) (fun h => by rw [Bd.returns] at h; cases h)
  have Cz : CHr Z consts_1 s.vm s.heap T350.vm T350.heap := own_chr (C397.trans (CHv.at X350 hZ hEE.ew C397.1)) hh e350
  refine own_end (t := T350.setFrames fs) ?_ ⟨_, hrun, hended, _, _, rfl, ?_, Cz, own_rmono hRW (by decide) (by decide)⟩
  · jvm_step X350.here [X350.here.top, hx, (hb hby d5_58), X350.method', Bd.returns, Value.isRef, FieldType.isReference]
    first | (intro acts; rw [hr _ acts rfl rfl rfl]) | rw [hr _ _ rfl rfl rfl]
    exact Steps.refl _
  · show Q4 Z a311 k317 p316 h0 n0 _ T350.heap _
    rw [e350]
    exact ⟨b346, k345, rfl, N350, (((Keep.refl h0 []).ext E345).trans K350 (allS (Or.inr B348) all0)), B348, vx396⟩
theorem pd_4 : parseMethodDescriptor "([CII)[B" = some ⟨[(.array .char), .int, .int], some (.array .byte)⟩ := by decide +kernel
theorem d3_39 : decode jdk_42_method_149_code 39 = .ok (.astore 5, 2) := by decide +kernel
theorem d3_41 : decode jdk_42_method_149_code 41 = .ok (.aload_n 0, 1) := by decide +kernel
theorem d3_42 : decode jdk_42_method_149_code 42 = .ok (.aload 5, 2) := by decide +kernel
theorem d3_44 : decode jdk_42_method_149_code 44 = .ok (.iload_n 3, 1) := by decide +kernel
theorem d3_45 : decode jdk_42_method_149_code 45 = .ok (.invokestatic 47, 3) := by decide +kernel
theorem d7_0 : decode jdk_52_method_15_code 0 = .ok (.iload_n 1, 1) := by decide +kernel
theorem d7_1 : decode jdk_52_method_15_code 1 = .ok (.aload_n 0, 1) := by decide +kernel
theorem d7_2 : decode jdk_52_method_15_code 2 = .ok (.arraylength, 1) := by decide +kernel
theorem d7_3 : decode jdk_52_method_15_code 3 = .ok (.isub, 1) := by decide +kernel
theorem d7_4 : decode jdk_52_method_15_code 4 = .ok (.bipush 31, 2) := by decide +kernel
theorem d7_6 : decode jdk_52_method_15_code 6 = .ok (.iushr, 1) := by decide +kernel
theorem d7_7 : decode jdk_52_method_15_code 7 = .ok (.i2b, 1) := by decide +kernel
theorem d7_8 : decode jdk_52_method_15_code 8 = .ok (.ireturn, 1) := by decide +kernel
theorem ef_5 (m : MethodId) (x0 : Addr) (x1 : Int32) : entryFrame m #[(.ref x0), (.int x1)] 2 = mkF m 0 #[rv x0, iv x1] [] := by first | (simp [entryFrame, mkF, argsToLocals, Value.category]; done) | rfl
def Q5 (Z : State) (a408 : Addr) (h0 : Heap) (n0 : Nat) (v : Option Value) (h : Heap) (L : List Loc) : Prop := v = some (.int (0 : Int32)) ∧ Fr n0 L ∧ h = h0
set_option maxRecDepth 65536 in
set_option maxHeartbeats 40000000 in
theorem rm5 (l : Launch) (Z : State) (a0 : Array Value) (hw : ∀ d ∈ tables_1, d.before a0 Z = true) (ws : List Jvm.Cond) (a408 : Addr) (h0 : Heap) (n0 : Nat) (O0 : Old Z n0 h0) (pL_a408 : own_Len Z h0 a408 .byte (1 : Int32)) :
    MetFree l (⟨zs3, zs10, "([BI)B"⟩ : MethodName) (head1 (Jvm.Cond.code (⟨zs3, zs10, "([BI)B"⟩ : MethodName) jdk_52_method_15_code 2 (some .byte) :: ws) ({ frames := 0, cells := 0, slots := 0, locals := 0 } : Room)) (fun a U => a = #[(.ref a408), (.int (1 : Int32))] ∧ Z.Warmed39 U.vm ∧ U.heap = h0 ∧ CHv Z consts_1 U.vm h0) (fun _ _ _ _ _ => True) (fun _ U o U' => ∃ v L, o = .returned v ∧ Q5 Z a408 h0 n0 v U'.heap L ∧ CHr Z consts_1 U.vm U.heap U'.vm U'.heap ∧ ReturnedEndW U o U' L ({ frames := 0, cells := 0, slots := 0, locals := 0 } : Room).cells ({ frames := 0, cells := 0, slots := 0, locals := 0 } : Room).slots) := by
  refine MetFree.of_bodySF (plainFor_of_name pn_2) hisR ?_
  intro p e s m args below meth c s₁ Bd hml0 hP hK
  obtain ⟨rfl, hZ, hh, hC⟩ := hP
  have hx := Bd.exec
  have hby := Bd.bytes
  have hml : c.maxLocals = 2 := hml0
  have hown : s.vm.findClass zs3 = some m.cls := findClass_of_methodNamed Bd.named
  have hnm := (name_of_methodNamed Bd.named Bd.method).1
  have X0 : Stand p l e ({ frames := 0, cells := 0, slots := 0, locals := 0 } : Room) (s.setVm s.vm) m #[(.ref a408), (.int (1 : Int32))] below meth c s₁ [] 0 0 := Stand.of_body Bd
  have hS : s.Since s.vm 0 := (State.WarmedH.refl s).since 0
  obtain ⟨k0, hk0, hS⟩ : ∃ k0, k0 ≤ h0.size ∧ s.Since s.vm k0 := ⟨0, Nat.zero_le _, hS⟩
  have hZ : Z.Warmed39 (s.setVm s.vm).vm := hZ
  have hown : (s.setVm s.vm).vm.findClass zs3 = some m.cls := hown
  have C0 : CHr Z consts_1 s.vm h0 s.vm h0 := CHr.refl hC
  have hEE := own_ee hw
  have e0 : s₁.heap = h0 := by rw [← hh, Bd.state]; rfl
  have N0 := Fr.nil n0
  refine own_out ?_
  refine own_via (fun t k => castTop (ef_5 m a408 (1 : Int32)) (XS.iloadN X0.here hx rfl (hb hby d7_0) rfl (XS.aloadN X0.here hx rfl (hb hby d7_1) rfl rfl k))) ?_
  show own_Goes p e below (s₁.setTop (mkF m 2 #[rv a408, iv (1 : Int32)] [(.ref a408), (.int (1 : Int32))])) _
  obtain ⟨_, _, _, V444⟩ := id (pL_a408)
  obtain ⟨cl444, Ar444, -, S444, M444, -, -⟩ := id (V444)
  refine own_via (fun t k => X0.arraylength hx (by rw [e0]; exact Ar444.1) (State.isArrayOf_alike hZ.alike Ar444.2.1) (g := (mkF m 2 #[rv a408, iv (1 : Int32)] [(.ref a408), (.int (1 : Int32))])) rfl rfl (hb hby d7_2) t k) ?_
  rw [len_of S444 M444]
  show own_Goes p e below (s₁.setTop (mkF m 3 #[rv a408, iv (1 : Int32)] [(.int (1 : Int32)), (.int (1 : Int32))])) _
  refine own_via (fun t k => XS.isub X0.here hx rfl (hb hby d7_3) rfl (XS.bipush X0.here hx rfl (hb hby d7_4) (XS.iushr X0.here hx rfl (hb hby d7_6) rfl (XS.i2b X0.here hx rfl (hb hby d7_7) rfl k)))) ?_
  show own_Goes p e below (s₁.setTop (mkF m 8 #[rv a408, iv (1 : Int32)] [(.int (0 : Int32))])) _
  obtain ⟨fs, hr, hrun, hended, hRW⟩ := X0.leaveW hS (by rw [e0]; first | exact hk0 | exact Nat.le_refl _) (v := some (.int (0 : Int32))) (fun h => by rw [Bd.returns] at h; cases h)
  have Cz : CHr Z consts_1 s.vm s.heap s₁.vm s₁.heap := own_chr (C0.trans (CHv.at X0 hZ hEE.ew C0.1)) hh e0
  refine own_end (t := s₁.setFrames fs) ?_ ⟨_, hrun, hended, _, _, rfl, ?_, Cz, own_rmono hRW (by decide) (by decide)⟩
  · exact retN X0 hx (t := .byte) Bd.returns (by simp) (hb hby d7_8) hr
  · show Q5 Z a408 h0 n0 _ s₁.heap _
    rw [e0]
    exact ⟨rfl, N0, rfl⟩
theorem pd_5 : parseMethodDescriptor "([BI)B" = some ⟨[(.array .byte), .int], some .byte⟩ := by decide +kernel
theorem d3_48 : decode jdk_42_method_149_code 48 = .ok (.putfield 15, 3) := by decide +kernel
theorem d3_51 : decode jdk_42_method_149_code 51 = .ok (.aload_n 0, 1) := by decide +kernel
theorem d3_52 : decode jdk_42_method_149_code 52 = .ok (.aload 5, 2) := by decide +kernel
theorem d3_54 : decode jdk_42_method_149_code 54 = .ok (.putfield 9, 3) := by decide +kernel
theorem d3_57 : decode jdk_42_method_149_code 57 = .ok (.return_, 1) := by decide +kernel
def Q6 (Z : State) (a274 : Addr) (a275 : Addr) (i48 : Int32) (k280 : ClassId) (p279 : Int32) (p278 : Int32) (h0 : Heap) (n0 : Nat) (v : Option Value) (h : Heap) (L : List Loc) : Prop := v = none ∧ Fr n0 L ∧ Keep h0 h [a274] ∧ Exa Z h a274 zs2
set_option maxRecDepth 65536 in
set_option maxHeartbeats 40000000 in
theorem rm6 (l : Launch) (Z : State) (a0 : Array Value) (hw : ∀ d ∈ tables_1, d.before a0 Z = true) (ws : List Jvm.Cond) (a274 : Addr) (a275 : Addr) (i48 : Int32) (k280 : ClassId) (p279 : Int32) (p278 : Int32) (h0 : Heap) (n0 : Nat) (O0 : Old Z n0 h0) (S_String_COMPACT_STRINGS : Sta Z Z.heap zs2 zs9 "Z" (.int i48)) (pC281 : ¬ (i48 = (0 : Int32))) (pV_a275 : Arv Z h0 a275 k280 .char (1 : Int32) [(.int p279)] (.int (0 : Int32))) (pC294 : ¬ ((255 : Int32) < p279)) (pF_a274_coder : Fld Z h0 a274 zs2 "coder" "B" (.int p278)) (pE_a274 : Exa Z h0 a274 zs2) (pG_a274 : n0 ≤ a274) (pF_a274_value : Fld Z h0 a274 zs2 "value" "[B" .null) :
    MetFree l (⟨zs2, "<init>", zs7⟩ : MethodName) (head1 (Jvm.Cond.code (⟨zs2, "<init>", zs7⟩ : MethodName) jdk_42_method_149_code 6 none :: ws) ({ frames := 2, cells := 1, slots := 1, locals := 35 } : Room)) (fun a U => a = #[(.ref a274), (.ref a275), (.int (0 : Int32)), (.int (1 : Int32)), .null] ∧ Z.Warmed39 U.vm ∧ U.heap = h0 ∧ CHv Z consts_1 U.vm h0) (fun _ _ _ _ _ => True) (fun _ U o U' => ∃ v L, o = .returned v ∧ Q6 Z a274 a275 i48 k280 p279 p278 h0 n0 v U'.heap L ∧ CHr Z consts_1 U.vm U.heap U'.vm U'.heap ∧ ReturnedEndW U o U' L ({ frames := 2, cells := 1, slots := 1, locals := 35 } : Room).cells ({ frames := 2, cells := 1, slots := 1, locals := 35 } : Room).slots) := by
  refine MetFree.of_bodySF (plainFor_of_name pn_1) hisR ?_
  intro p e s m args below meth c s₁ Bd hml0 hP hK
  obtain ⟨rfl, hZ, hh, hC⟩ := hP
  have hx := Bd.exec
  have hby := Bd.bytes
  have hml : c.maxLocals = 6 := hml0
  have hown : s.vm.findClass zs2 = some m.cls := findClass_of_methodNamed Bd.named
  have hnm := (name_of_methodNamed Bd.named Bd.method).1
  have X0 : Stand p l e ({ frames := 2, cells := 1, slots := 1, locals := 35 } : Room) (s.setVm s.vm) m #[(.ref a274), (.ref a275), (.int (0 : Int32)), (.int (1 : Int32)), .null] below meth c s₁ [] 0 0 := Stand.of_body Bd
  have hS : s.Since s.vm 0 := (State.WarmedH.refl s).since 0
  obtain ⟨k0, hk0, hS⟩ : ∃ k0, k0 ≤ h0.size ∧ s.Since s.vm k0 := ⟨0, Nat.zero_le _, hS⟩
  have hZ : Z.Warmed39 (s.setVm s.vm).vm := hZ
  have hown : (s.setVm s.vm).vm.findClass zs2 = some m.cls := hown
  have C0 : CHr Z consts_1 s.vm h0 s.vm h0 := CHr.refl hC
  have hEE := own_ee hw
  have e0 : s₁.heap = h0 := by rw [← hh, Bd.state]; rfl
  have N0 := Fr.nil n0
  refine own_out ?_
  refine own_via (fun t k => castTop (ef_1 m a274 a275 (0 : Int32) (1 : Int32)) (XS.aloadN X0.here hx rfl (hb hby d3_0) rfl rfl k)) ?_
  obtain ⟨T308, X308, e308, st308⟩ := initO X0 hx hZ hown (wd hw 27 rfl) (wd hw 28 rfl) (wd hw 29 rfl) e0 (g := (mkF m 1 #[rv a274, rv a275, iv (0 : Int32), iv (1 : Int32), .val .null, .unset] [(.ref a274)])) rfl (by rw [hml]; rfl) rfl (hb hby d3_1) (by decide) (W := 0) (by show 2 * 0 + _ ≤ _; exact Nat.le_of_eq rfl) (by decide)
  refine own_via (fun t k => st308 t (XS.iloadN X308.here hx rfl (hb hby d3_4) rfl (XS.ifYes X308.here hx rfl (pc0 := 5) (pc' := 27) rfl (hb hby d3_5) rfl ((if0 _ _).trans (feq (by decide : ¬ ((1 : Int32) = (0 : Int32)))).2) (by decide) (by decide) k))) ?_
  show own_Goes p e below (T308.setTop (mkF m 27 #[rv a274, rv a275, iv (0 : Int32), iv (1 : Int32), .val .null, .unset] [])) _
  obtain ⟨T309, X309, e309, st309⟩ := getS2 X308 hx hZ hown (host := "") (Or.inl (wd hw 30 rfl)) Via.refl e308 (S_String_COMPACT_STRINGS.ext O0.2) (g := (mkF m 27 #[rv a274, rv a275, iv (0 : Int32), iv (1 : Int32), .val .null, .unset] [])) rfl (hb hby d3_27)
  refine own_via (fun t k => st309 t (XS.ifNo X309.here hx rfl (hb hby d3_30) rfl ((if0 _ _).trans (feq pC281).1) (XS.aloadN X309.here hx rfl (hb hby d3_33) rfl rfl (XS.iloadN X309.here hx rfl (hb hby d3_34) rfl (XS.iloadN X309.here hx rfl (hb hby d3_35) rfl k))))) ?_
  show own_Goes p e below (T309.setTop (mkF m 36 #[rv a274, rv a275, iv (0 : Int32), iv (1 : Int32), .val .null, .unset] [(.int (1 : Int32)), (.int (0 : Int32)), (.ref a275)])) _
  obtain ⟨_, T310, _, X310, hQ310, Cr310, hS, hZ, hown, st310⟩ := own_csH X309 hx hZ hS hk0 hown (wd hw 31 rfl) (wd hw 32 rfl) (wd hw 34 rfl) (wd hw 33 rfl) (by decide) hEE.ew C0.1 (rm4 l Z a0 hw [] a275 k280 p279 h0 n0 O0 pV_a275 pC294) e309 (g := (mkF m 36 #[rv a274, rv a275, iv (0 : Int32), iv (1 : Int32), .val .null, .unset] [(.int (1 : Int32)), (.int (0 : Int32)), (.ref a275)])) rfl (by rw [hml]; rfl) (rest := []) (W := 0) (lenOf pd_4 rfl) rfl (by show 2 * 0 + _ ≤ _; exact Nat.le_of_eq rfl) (hb hby d3_36) (by decide) (by decide) (by decide) (by decide)
  obtain ⟨h310, e310⟩ : ∃ z, T310.heap = z := ⟨_, rfl⟩
  rw [e310] at hQ310 Cr310
  obtain ⟨b399, k400, rfl, Nq310, K310, bx401, vx402⟩ := hQ310
  have N310 := Fr.app N0 Nq310
  have C403 := C0.trans Cr310
  have g404 : n0 ≤ b399 := Nat.le_trans (own_old O0) bx401
  have B405 : h0.size ≤ b399 := Nat.le_trans (Nat.le_refl _) bx401
  have hk406 : T310.heap.size ≤ h310.size := Nat.le_of_eq (congrArg Array.size e310)
  refine own_via (fun t k => st310 t (XS.astore X310.here hx rfl (hb hby d3_39) rfl rfl (l' := #[rv a274, rv a275, iv (0 : Int32), iv (1 : Int32), .val .null, rv b399]) rfl (XS.aloadN X310.here hx rfl (hb hby d3_41) rfl rfl (XS.aload X310.here hx rfl (hb hby d3_42) rfl rfl (XS.iloadN X310.here hx rfl (hb hby d3_44) rfl k))))) ?_
  show own_Goes p e below (T310.setTop (mkF m 45 #[rv a274, rv a275, iv (0 : Int32), iv (1 : Int32), .val .null, rv b399] [(.int (1 : Int32)), (.ref b399), (.ref a274)])) _
  have l445 : own_Len Z h310 b399 .byte (1 : Int32) := ⟨_, _, _, vx402⟩
  have O446 : Old Z n0 h310 := (O0.keep K310 all0)
  obtain ⟨_, T407, _, X407, hQ407, Cr407, hS, hZ, hown, st407⟩ := own_csH X310 hx hZ hS hk406 hown (wd hw 39 rfl) (wd hw 40 rfl) (wd hw 41 rfl) (wd hw 33 rfl) (by decide) hEE.ew C403.1 (rm5 l Z a0 hw [] b399 h310 n0 O446 l445) e310 (g := (mkF m 45 #[rv a274, rv a275, iv (0 : Int32), iv (1 : Int32), .val .null, rv b399] [(.int (1 : Int32)), (.ref b399), (.ref a274)])) rfl (by rw [hml]; rfl) (rest := [(.ref a274)]) (W := 1) (lenOf pd_5 rfl) rfl (by show 2 * 0 + _ ≤ _; exact Nat.le_of_eq rfl) (hb hby d3_45) (by decide) (by decide) (by decide) (by decide)
  obtain ⟨rfl, Nq407, hh447⟩ := hQ407
  have N407 := Fr.app N310 Nq407
  rw [hh447] at Cr407
  have C448 := C403.trans Cr407
  have hk449 : T407.heap.size ≤ h310.size := Nat.le_of_eq (congrArg Array.size hh447)
  refine own_via (fun t k => st407 t k) ?_
  have F450 : Fld Z h310 a274 zs2 "coder" "B" (.int p278) := (pF_a274_coder.keep K310 nin0)
  have E451 : Exa Z h310 a274 zs2 := (pE_a274.keep K310)
  obtain ⟨T452, h452, X452, e452, W452, st452⟩ := putFN X407 hx hZ hown (wd hw 42 rfl) Via.refl hh447 F450 E451 (Or.inr ⟨(wd hw 43 rfl), rfl, hnm⟩) (wd hw 17 rfl) (ty := .byte) (v' := (.int (0 : Int32))) (by decide) rfl (by decide) (g := (mkF m 48 #[rv a274, rv a275, iv (0 : Int32), iv (1 : Int32), .val .null, rv b399] [(.int (0 : Int32)), (.ref a274)])) rfl rfl (hb hby d3_48)
  refine own_via (fun t k => st452 t k) ?_
  have Fw452 : Fld Z h452 a274 zs2 "coder" "B" (.int (0 : Int32)) := F450.same W452
  have F453 : Fld Z h310 a274 zs2 "value" "[B" .null := (pF_a274_value.keep K310 nin0)
  have Sf454 : Safe Z consts_1 _ h310 a274 := (own_safeS hZ.alike E451 F453)
  have C452 := C448.trans (CHr.wr W452 Sf454 C448.1)
  have Sa455 := Safe.wr W452 Sf454 C448.1 Sf454
  have N452 := Fr.snoc X452 N407 pG_a274
  show own_Goes p e below (T452.setTop (mkF m 51 #[rv a274, rv a275, iv (0 : Int32), iv (1 : Int32), .val .null, rv b399] [])) _
  refine own_via (fun t k => XS.aloadN X452.here hx rfl (hb hby d3_51) rfl rfl (XS.aload X452.here hx rfl (hb hby d3_52) rfl rfl k)) ?_
  have F456 : Fld Z h452 a274 zs2 "value" "[B" .null := (F453.other W452 (Or.inr (slot_ne (Or.inr (wd hw 45 rfl)) (Or.inr (wd hw 43 rfl)) (by decide) (t := (.array .byte)) (t' := .byte) (by decide) (by decide))))
  have E457 : Exa Z h452 a274 zs2 := (E451.wr W452)
  obtain ⟨T458, h458, X458, e458, W458, st458⟩ := putF X452 hx hZ hown (host := "") (Or.inl (wd hw 44 rfl)) Via.refl e452 F456 E457 (Or.inr ⟨(wd hw 45 rfl), rfl, hnm⟩) (wd hw 17 rfl) (ty := (.array .byte)) (by decide) rfl rfl (g := (mkF m 54 #[rv a274, rv a275, iv (0 : Int32), iv (1 : Int32), .val .null, rv b399] [(.ref b399), (.ref a274)])) rfl rfl (hb hby d3_54)
  refine own_via (fun t k => st458 t k) ?_
  have Fw458 : Fld Z h458 a274 zs2 "value" "[B" (.ref b399) := F456.same W458
  have Sf459 : Safe Z consts_1 _ h452 a274 := Sa455
  have C458 := C452.trans (CHr.wr W458 Sf459 C452.1)
  have Sa460 := Safe.wr W458 Sf459 C452.1 Sa455
  have N458 := Fr.snoc X458 N452 pG_a274
  show own_Goes p e below (T458.setTop (mkF m 57 #[rv a274, rv a275, iv (0 : Int32), iv (1 : Int32), .val .null, rv b399] [])) _
  have K461 : T407.heap.size ≤ h458.size := (Nat.le_trans (Nat.le_trans hk449 (Nat.le_of_eq W452.size.symm)) (Nat.le_of_eq W458.size.symm))
  obtain ⟨fs, hr, hrun, hended, hRW⟩ := X458.leaveW hS (by rw [e458]; first | exact K461 | exact Nat.le_refl _) (v := none) (fun _ => rfl)
  have Cz : CHr Z consts_1 s.vm s.heap T458.vm T458.heap := own_chr (C458.trans (CHv.at X458 hZ hEE.ew C458.1)) hh e458
  refine own_end (t := T458.setFrames fs) ?_ ⟨_, hrun, hended, _, _, rfl, ?_, Cz, own_rmono hRW (by decide) (by decide)⟩
  · exact X458.returnOut hx Bd.returns (hb hby d3_57) hr
  have E462 : Exa Z h458 a274 zs2 := (E457.wr W458)
  · show Q6 Z a274 a275 i48 k280 p279 p278 h0 n0 _ T458.heap _
    rw [e458]
    exact ⟨rfl, N458, ((((Keep.refl h0 [a274]).trans K310 all0).wr W452 (Or.inl (List.mem_of_getElem? (i := 0) rfl))).wr W458 (Or.inl (List.mem_of_getElem? (i := 0) rfl))), E462⟩
def Q7 (Z : State) (a238 : Addr) (a239 : Addr) (i48 : Int32) (k244 : ClassId) (p243 : Int32) (p242 : Int32) (h0 : Heap) (n0 : Nat) (v : Option Value) (h : Heap) (L : List Loc) : Prop := v = none ∧ Fr n0 L ∧ Keep h0 h [a238] ∧ Exa Z h a238 zs2
set_option maxRecDepth 65536 in
set_option maxHeartbeats 40000000 in
theorem rm7 (l : Launch) (Z : State) (a0 : Array Value) (hw : ∀ d ∈ tables_1, d.before a0 Z = true) (ws : List Jvm.Cond) (a238 : Addr) (a239 : Addr) (i48 : Int32) (k244 : ClassId) (p243 : Int32) (p242 : Int32) (h0 : Heap) (n0 : Nat) (O0 : Old Z n0 h0) (pL_a239 : own_Len Z h0 a239 .char (1 : Int32)) (S_String_COMPACT_STRINGS : Sta Z Z.heap zs2 zs9 "Z" (.int i48)) (pC245 : ¬ (i48 = (0 : Int32))) (pV_a239 : Arv Z h0 a239 k244 .char (1 : Int32) [(.int p243)] (.int (0 : Int32))) (pC258 : ¬ ((255 : Int32) < p243)) (pF_a238_coder : Fld Z h0 a238 zs2 "coder" "B" (.int p242)) (pE_a238 : Exa Z h0 a238 zs2) (pG_a238 : n0 ≤ a238) (pF_a238_value : Fld Z h0 a238 zs2 "value" "[B" .null) :
    MetFree l (⟨zs2, "<init>", "([C)V"⟩ : MethodName) (head1 (Jvm.Cond.code (⟨zs2, "<init>", "([C)V"⟩ : MethodName) jdk_42_method_3_code 2 none :: ws) ({ frames := 3, cells := 1, slots := 1, locals := 52 } : Room)) (fun a U => a = #[(.ref a238), (.ref a239)] ∧ Z.Warmed39 U.vm ∧ U.heap = h0 ∧ CHv Z consts_1 U.vm h0) (fun _ _ _ _ _ => True) (fun _ U o U' => ∃ v L, o = .returned v ∧ Q7 Z a238 a239 i48 k244 p243 p242 h0 n0 v U'.heap L ∧ CHr Z consts_1 U.vm U.heap U'.vm U'.heap ∧ ReturnedEndW U o U' L ({ frames := 3, cells := 1, slots := 1, locals := 52 } : Room).cells ({ frames := 3, cells := 1, slots := 1, locals := 52 } : Room).slots) := by
  refine MetFree.of_bodySF (plainFor_of_name pn_1) hisR ?_
  intro p e s m args below meth c s₁ Bd hml0 hP hK
  obtain ⟨rfl, hZ, hh, hC⟩ := hP
  have hx := Bd.exec
  have hby := Bd.bytes
  have hml : c.maxLocals = 2 := hml0
  have hown : s.vm.findClass zs2 = some m.cls := findClass_of_methodNamed Bd.named
  have hnm := (name_of_methodNamed Bd.named Bd.method).1
  have X0 : Stand p l e ({ frames := 3, cells := 1, slots := 1, locals := 52 } : Room) (s.setVm s.vm) m #[(.ref a238), (.ref a239)] below meth c s₁ [] 0 0 := Stand.of_body Bd
  have hS : s.Since s.vm 0 := (State.WarmedH.refl s).since 0
  obtain ⟨k0, hk0, hS⟩ : ∃ k0, k0 ≤ h0.size ∧ s.Since s.vm k0 := ⟨0, Nat.zero_le _, hS⟩
  have hZ : Z.Warmed39 (s.setVm s.vm).vm := hZ
  have hown : (s.setVm s.vm).vm.findClass zs2 = some m.cls := hown
  have C0 : CHr Z consts_1 s.vm h0 s.vm h0 := CHr.refl hC
  have hEE := own_ee hw
  have e0 : s₁.heap = h0 := by rw [← hh, Bd.state]; rfl
  have N0 := Fr.nil n0
  refine own_out ?_
  refine own_via (fun t k => castTop (ef_2 m a238 a239) (XS.aloadN X0.here hx rfl (hb hby d2_0) rfl rfl (XS.aloadN X0.here hx rfl (hb hby d2_1) rfl rfl (XS.iconst X0.here hx rfl (hb hby d2_2) (XS.aloadN X0.here hx rfl (hb hby d2_3) rfl rfl k))))) ?_
  show own_Goes p e below (s₁.setTop (mkF m 4 #[rv a238, rv a239] [(.ref a239), (.int (0 : Int32)), (.ref a239), (.ref a238)])) _
  obtain ⟨_, _, _, V272⟩ := id (pL_a239)
  obtain ⟨cl272, Ar272, -, S272, M272, -, -⟩ := id (V272)
  refine own_via (fun t k => X0.arraylength hx (by rw [e0]; exact Ar272.1) (State.isArrayOf_alike hZ.alike Ar272.2.1) (g := (mkF m 4 #[rv a238, rv a239] [(.ref a239), (.int (0 : Int32)), (.ref a239), (.ref a238)])) rfl rfl (hb hby d2_4) t k) ?_
  rw [len_of S272 M272]
  show own_Goes p e below (s₁.setTop (mkF m 5 #[rv a238, rv a239] [(.int (1 : Int32)), (.int (0 : Int32)), (.ref a239), (.ref a238)])) _
  refine own_via (fun t k => XS.aconstNull X0.here hx rfl (hb hby d2_5) k) ?_
  obtain ⟨_, T273, _, X273, hQ273, Cr273, hS, hZ, hown, st273⟩ := own_ciH X0 hx hZ hS hk0 hown (wd hw 23 rfl) (wd hw 24 rfl) (wd hw 26 rfl) (wd hw 18 rfl) rfl (by decide) hEE.ew C0.1 (rm6 l Z a0 hw [] a238 a239 i48 k244 p243 p242 h0 n0 O0 S_String_COMPACT_STRINGS pC245 pV_a239 pC258 pF_a238_coder pE_a238 pG_a238 pF_a238_value) e0 (g := (mkF m 6 #[rv a238, rv a239] [.null, (.int (1 : Int32)), (.int (0 : Int32)), (.ref a239), (.ref a238)])) rfl (by rw [hml]; rfl) (rest := []) (W := 0) (lenOf pd_1 rfl) rfl (by show 2 * 0 + _ ≤ _; exact Nat.le_of_eq rfl) (hb hby d2_6) (by decide) (by decide) (by decide) (by decide)
  obtain ⟨h273, e273⟩ : ∃ z, T273.heap = z := ⟨_, rfl⟩
  rw [e273] at hQ273 Cr273
  obtain ⟨rfl, Nq273, K273, ex463⟩ := hQ273
  have N273 := Fr.app N0 Nq273
  have C464 := C0.trans Cr273
  have hk465 : T273.heap.size ≤ h273.size := Nat.le_of_eq (congrArg Array.size e273)
  refine own_via (fun t k => st273 t k) ?_
  obtain ⟨fs, hr, hrun, hended, hRW⟩ := X273.leaveW hS (by rw [e273]; first | exact hk465 | exact Nat.le_refl _) (v := none) (fun _ => rfl)
  have Cz : CHr Z consts_1 s.vm s.heap T273.vm T273.heap := own_chr (C464.trans (CHv.at X273 hZ hEE.ew C464.1)) hh e273
  refine own_end (t := T273.setFrames fs) ?_ ⟨_, hrun, hended, _, _, rfl, ?_, Cz, own_rmono hRW (by decide) (by decide)⟩
  · exact X273.returnOut hx Bd.returns (hb hby d2_9) hr
  · show Q7 Z a238 a239 i48 k244 p243 p242 h0 n0 _ T273.heap _
    rw [e273]
    exact ⟨rfl, N273, ((Keep.refl h0 [a238]).trans K273 (allS (Or.inl (List.mem_of_getElem? (i := 0) rfl)) all0)), ex463⟩
theorem d1_59 : decode method_3_code 59 = .ok (.areturn, 1) := by decide +kernel
theorem d1_60 : decode method_3_code 60 = .ok (.iload_n 0, 1) := by decide +kernel
theorem d1_61 : decode method_3_code 61 = .ok (.iconst 2, 1) := by decide +kernel
theorem d1_62 : decode method_3_code 62 = .ok (.if_icmp .ne 24, 3) := by decide +kernel
theorem d1_65 : decode method_3_code 65 = .ok (.new 33, 3) := by decide +kernel
theorem d1_68 : decode method_3_code 68 = .ok (.dup, 1) := by decide +kernel
theorem d1_69 : decode method_3_code 69 = .ok (.iconst 2, 1) := by decide +kernel
theorem d1_70 : decode method_3_code 70 = .ok (.newarray .char, 2) := by decide +kernel
theorem d1_72 : decode method_3_code 72 = .ok (.dup, 1) := by decide +kernel
theorem d1_73 : decode method_3_code 73 = .ok (.iconst 0, 1) := by decide +kernel
theorem d1_74 : decode method_3_code 74 = .ok (.iload 4, 2) := by decide +kernel
theorem d1_76 : decode method_3_code 76 = .ok (.castore, 1) := by decide +kernel
theorem d1_77 : decode method_3_code 77 = .ok (.dup, 1) := by decide +kernel
theorem d1_78 : decode method_3_code 78 = .ok (.iconst 1, 1) := by decide +kernel
theorem d1_79 : decode method_3_code 79 = .ok (.iload 5, 2) := by decide +kernel
theorem d1_81 : decode method_3_code 81 = .ok (.castore, 1) := by decide +kernel
theorem d1_82 : decode method_3_code 82 = .ok (.invokespecial 42, 3) := by decide +kernel
theorem own_neV {Z : State} {h : Heap} {a b : Addr} {k k' : ClassId} {ty ty' : FieldType} {z z' : Int32} {vs vs' : List Value} {d d' : Value} (A : Arv Z h a k ty z vs d) (B : Arv Z h b k' ty' z' vs' d') (ht : ty ≠ ty') : a ≠ b := fun e => by
  subst e
  obtain ⟨c, ⟨a1, ⟨-, kA, hkA, compA, hkindA⟩, -⟩, -⟩ := A
  obtain ⟨c', ⟨b1, ⟨-, kB, hkB, compB, hkindB⟩, -⟩, -⟩ := B
  cases a1.symm.trans b1
  cases hkA.symm.trans hkB
  have := hkindA.symm.trans hkindB
  injection this with _ e
  exact ht e
def Q8 (Z : State) (a618 : Addr) (a619 : Addr) (k626 : ClassId) (p624 : Int32) (p625 : Int32) (k627 : ClassId) (h0 : Heap) (n0 : Nat) (v : Option Value) (h : Heap) (L : List Loc) : Prop := v = some (.int (2 : Int32)) ∧ Fr n0 L ∧ Keep h0 h [a619] ∧ Arv Z h a619 k627 .byte (2 : Int32) [(.int (p624.toInt8.toInt32)), (.int (p625.toInt8.toInt32))] (.int (0 : Int32))
set_option maxRecDepth 65536 in
set_option maxHeartbeats 40000000 in
theorem rm8 (l : Launch) (Z : State) (a0 : Array Value) (hw : ∀ d ∈ tables_1, d.before a0 Z = true) (ws : List Jvm.Cond) (a618 : Addr) (a619 : Addr) (k626 : ClassId) (p624 : Int32) (p625 : Int32) (k627 : ClassId) (h0 : Heap) (n0 : Nat) (O0 : Old Z n0 h0) (pV_a618 : Arv Z h0 a618 k626 .char (2 : Int32) [(.int p624), (.int p625)] (.int (0 : Int32))) (pC641 : ¬ ((255 : Int32) < p624)) (pV_a619 : Arv Z h0 a619 k627 .byte (2 : Int32) [] (.int (0 : Int32))) (pG_a619 : n0 ≤ a619) (pC646 : ¬ ((255 : Int32) < p625)) :
    MetFree l (⟨zs3, "compress", "([CI[BII)I"⟩ : MethodName) (head1 (Jvm.Cond.code (⟨zs3, "compress", "([CI[BII)I"⟩ : MethodName) jdk_52_method_21_code 7 (some .int) :: ws) ({ frames := 0, cells := 0, slots := 0, locals := 0 } : Room)) (fun a U => a = #[(.ref a618), (.int (0 : Int32)), (.ref a619), (.int (0 : Int32)), (.int (2 : Int32))] ∧ Z.Warmed39 U.vm ∧ U.heap = h0 ∧ CHv Z consts_1 U.vm h0) (fun _ _ _ _ _ => True) (fun _ U o U' => ∃ v L, o = .returned v ∧ Q8 Z a618 a619 k626 p624 p625 k627 h0 n0 v U'.heap L ∧ CHr Z consts_1 U.vm U.heap U'.vm U'.heap ∧ ReturnedEndW U o U' L ({ frames := 0, cells := 0, slots := 0, locals := 0 } : Room).cells ({ frames := 0, cells := 0, slots := 0, locals := 0 } : Room).slots) := by
  refine MetFree.of_bodySF (plainFor_of_name pn_2) hisR ?_
  intro p e s m args below meth c s₁ Bd hml0 hP hK
  obtain ⟨rfl, hZ, hh, hC⟩ := hP
  have hx := Bd.exec
  have hby := Bd.bytes
  have hml : c.maxLocals = 7 := hml0
  have hown : s.vm.findClass zs3 = some m.cls := findClass_of_methodNamed Bd.named
  have hnm := (name_of_methodNamed Bd.named Bd.method).1
  have X0 : Stand p l e ({ frames := 0, cells := 0, slots := 0, locals := 0 } : Room) (s.setVm s.vm) m #[(.ref a618), (.int (0 : Int32)), (.ref a619), (.int (0 : Int32)), (.int (2 : Int32))] below meth c s₁ [] 0 0 := Stand.of_body Bd
  have hS : s.Since s.vm 0 := (State.WarmedH.refl s).since 0
  obtain ⟨k0, hk0, hS⟩ : ∃ k0, k0 ≤ h0.size ∧ s.Since s.vm k0 := ⟨0, Nat.zero_le _, hS⟩
  have hZ : Z.Warmed39 (s.setVm s.vm).vm := hZ
  have hown : (s.setVm s.vm).vm.findClass zs3 = some m.cls := hown
  have C0 : CHr Z consts_1 s.vm h0 s.vm h0 := CHr.refl hC
  have hEE := own_ee hw
  have e0 : s₁.heap = h0 := by rw [← hh, Bd.state]; rfl
  have N0 := Fr.nil n0
  refine own_out ?_
  refine own_via (fun t k => castTop (ef_3 m a618 (0 : Int32) a619 (0 : Int32) (2 : Int32)) (XS.iconst X0.here hx rfl (hb hby d6_0) (XS.istore X0.here hx rfl (hb hby d6_1) rfl (l' := #[rv a618, iv (0 : Int32), rv a619, iv (0 : Int32), iv (2 : Int32), iv (0 : Int32), .unset]) rfl (XS.iload X0.here hx rfl (hb hby d6_3) rfl (XS.iload X0.here hx rfl (hb hby d6_5) rfl (XS.icmpNo X0.here hx rfl (hb hby d6_7) rfl (tlt (by decide : (0 : Int32) < (2 : Int32))).2.1 (XS.aloadN X0.here hx rfl (hb hby d6_10) rfl rfl (XS.iloadN X0.here hx rfl (hb hby d6_11) rfl k)))))))) ?_
  show own_Goes p e below (s₁.setTop (mkF m 12 #[rv a618, iv (0 : Int32), rv a619, iv (0 : Int32), iv (2 : Int32), iv (0 : Int32), .unset] [(.int (0 : Int32)), (.ref a618)])) _
  obtain ⟨cl656, Ar656, qq656, S656, M656, H656, G656⟩ := id (pV_a618)
  have hin656 : ¬ ((0 : Int32) < 0 ∨ cl656.slots.size ≤ ((0 : Int32)).toNatClampNeg) := inb_of S656 ⟨by decide, by decide⟩
  refine own_via (fun t k => X0.caload hx (j := (0 : Int32)) (v := (.int p624)) (by rw [e0]; exact Ar656.1) (State.isArrayOf_alike hZ.alike Ar656.2.1) Ar656.2.2 hin656 (Has.at H656 hin656 rfl) (g := (mkF m 12 #[rv a618, iv (0 : Int32), rv a619, iv (0 : Int32), iv (2 : Int32), iv (0 : Int32), .unset] [(.int (0 : Int32)), (.ref a618)])) rfl rfl (hb hby d6_12) t (XS.istore X0.here hx rfl (hb hby d6_13) rfl (l' := #[rv a618, iv (0 : Int32), rv a619, iv (0 : Int32), iv (2 : Int32), iv (0 : Int32), iv p624]) rfl (XS.iload X0.here hx rfl (hb hby d6_15) rfl (XS.sipush X0.here hx rfl (hb hby d6_17) (XS.icmpYes X0.here hx rfl (pc0 := 20) (pc' := 26) rfl (hb hby d6_20) rfl (flt pC641).2.2.2 (by decide) (by decide) (XS.aloadN X0.here hx rfl (hb hby d6_26) rfl rfl (XS.iloadN X0.here hx rfl (hb hby d6_27) rfl (XS.iload X0.here hx rfl (hb hby d6_28) rfl (XS.i2b X0.here hx rfl (hb hby d6_30) rfl k))))))))) ?_
  show own_Goes p e below (s₁.setTop (mkF m 31 #[rv a618, iv (0 : Int32), rv a619, iv (0 : Int32), iv (2 : Int32), iv (0 : Int32), iv p624] [(.int (p624.toInt8.toInt32)), (.int (0 : Int32)), (.ref a619)])) _
  have V657 : Arv Z h0 a619 k627 .byte (2 : Int32) [(.int (0 : Int32))] (.int (0 : Int32)) := pV_a619.pad (pad_rep [] (.int (0 : Int32)) 1)
  obtain ⟨cl658, Ar658, qq658, S658, M658, H658, G658⟩ := id (V657)
  have hin658 : ¬ ((0 : Int32) < 0 ∨ cl658.slots.size ≤ ((0 : Int32)).toNatClampNeg) := inb_of S658 ⟨by decide, by decide⟩
  obtain ⟨T658, h658, X658, e658, W658, st658⟩ := stB X0 hx hZ e0 Ar658 (j := (0 : Int32)) hin658 (g := (mkF m 31 #[rv a618, iv (0 : Int32), rv a619, iv (0 : Int32), iv (2 : Int32), iv (0 : Int32), iv p624] [(.int (p624.toInt8.toInt32)), (.int (0 : Int32)), (.ref a619)])) rfl rfl (hb hby d6_31)
  refine own_via (fun t k => st658 t k) ?_
  have V659 : Arv Z h658 a619 k627 .byte (2 : Int32) [(.int (p624.toInt8.toInt32))] (.int (0 : Int32)) := by
    have qv := Arv.set Ar658 qq658 S658 M658 H658 G658 (fits_nar_byte _) W658 0 rfl (Nat.le_of_ble_eq_true rfl)
    first | rw [show nar .byte (p624.toInt8.toInt32) = (p624.toInt8.toInt32) from own_b2 _] at qv | rw [own_b2] at qv
    exact qv
  have Sf660 : Safe Z consts_1 _ h0 a619 := (own_safeB hZ hEE pV_a619 (by decide))
  have C658 := C0.trans (CHr.wr W658 Sf660 C0.1)
  have N658 := Fr.snoc X658 N0 pG_a619
  show own_Goes p e below (T658.setTop (mkF m 32 #[rv a618, iv (0 : Int32), rv a619, iv (0 : Int32), iv (2 : Int32), iv (0 : Int32), iv p624] [])) _
  refine own_via (fun t k => XS.iinc X658.here hx rfl (hb hby d6_32) rfl (l' := #[rv a618, iv (1 : Int32), rv a619, iv (0 : Int32), iv (2 : Int32), iv (0 : Int32), iv p624]) rfl (XS.iinc X658.here hx rfl (hb hby d6_35) rfl (l' := #[rv a618, iv (1 : Int32), rv a619, iv (1 : Int32), iv (2 : Int32), iv (0 : Int32), iv p624]) rfl (XS.iinc X658.here hx rfl (hb hby d6_38) rfl (l' := #[rv a618, iv (1 : Int32), rv a619, iv (1 : Int32), iv (2 : Int32), iv (1 : Int32), iv p624]) rfl (XS.goto X658.here hx rfl (pc0 := 41) (pc' := 3) rfl (hb hby d6_41) (by decide) (by decide) (XS.iload X658.here hx rfl (hb hby d6_3) rfl (XS.iload X658.here hx rfl (hb hby d6_5) rfl (XS.icmpNo X658.here hx rfl (hb hby d6_7) rfl (tlt (by decide : (1 : Int32) < (2 : Int32))).2.1 (XS.aloadN X658.here hx rfl (hb hby d6_10) rfl rfl (XS.iloadN X658.here hx rfl (hb hby d6_11) rfl k))))))))) ?_
  show own_Goes p e below (T658.setTop (mkF m 12 #[rv a618, iv (1 : Int32), rv a619, iv (1 : Int32), iv (2 : Int32), iv (1 : Int32), iv p624] [(.int (1 : Int32)), (.ref a618)])) _
  have V661 : Arv Z h658 a618 k626 .char (2 : Int32) [(.int p624), (.int p625)] (.int (0 : Int32)) := (pV_a618.other W658 (own_neV pV_a618 pV_a619 (by simp)))
  obtain ⟨cl662, Ar662, qq662, S662, M662, H662, G662⟩ := id (V661)
  have hin662 : ¬ ((1 : Int32) < 0 ∨ cl662.slots.size ≤ ((1 : Int32)).toNatClampNeg) := inb_of S662 ⟨by decide, by decide⟩
  refine own_via (fun t k => X658.caload hx (j := (1 : Int32)) (v := (.int p625)) (by rw [e658]; exact Ar662.1) (State.isArrayOf_alike hZ.alike Ar662.2.1) Ar662.2.2 hin662 (Has.at H662 hin662 rfl) (g := (mkF m 12 #[rv a618, iv (1 : Int32), rv a619, iv (1 : Int32), iv (2 : Int32), iv (1 : Int32), iv p624] [(.int (1 : Int32)), (.ref a618)])) rfl rfl (hb hby d6_12) t (XS.istore X658.here hx rfl (hb hby d6_13) rfl (l' := #[rv a618, iv (1 : Int32), rv a619, iv (1 : Int32), iv (2 : Int32), iv (1 : Int32), iv p625]) rfl (XS.iload X658.here hx rfl (hb hby d6_15) rfl (XS.sipush X658.here hx rfl (hb hby d6_17) (XS.icmpYes X658.here hx rfl (pc0 := 20) (pc' := 26) rfl (hb hby d6_20) rfl (flt pC646).2.2.2 (by decide) (by decide) (XS.aloadN X658.here hx rfl (hb hby d6_26) rfl rfl (XS.iloadN X658.here hx rfl (hb hby d6_27) rfl (XS.iload X658.here hx rfl (hb hby d6_28) rfl (XS.i2b X658.here hx rfl (hb hby d6_30) rfl k))))))))) ?_
  show own_Goes p e below (T658.setTop (mkF m 31 #[rv a618, iv (1 : Int32), rv a619, iv (1 : Int32), iv (2 : Int32), iv (1 : Int32), iv p625] [(.int (p625.toInt8.toInt32)), (.int (1 : Int32)), (.ref a619)])) _
  have V663 : Arv Z h658 a619 k627 .byte (2 : Int32) [(.int (p624.toInt8.toInt32)), (.int (0 : Int32))] (.int (0 : Int32)) := V659.pad (pad_rep [(.int (p624.toInt8.toInt32))] (.int (0 : Int32)) 1)
  obtain ⟨cl664, Ar664, qq664, S664, M664, H664, G664⟩ := id (V663)
  have hin664 : ¬ ((1 : Int32) < 0 ∨ cl664.slots.size ≤ ((1 : Int32)).toNatClampNeg) := inb_of S664 ⟨by decide, by decide⟩
  obtain ⟨T664, h664, X664, e664, W664, st664⟩ := stB X658 hx hZ e658 Ar664 (j := (1 : Int32)) hin664 (g := (mkF m 31 #[rv a618, iv (1 : Int32), rv a619, iv (1 : Int32), iv (2 : Int32), iv (1 : Int32), iv p625] [(.int (p625.toInt8.toInt32)), (.int (1 : Int32)), (.ref a619)])) rfl rfl (hb hby d6_31)
  refine own_via (fun t k => st664 t k) ?_
  have V665 : Arv Z h664 a619 k627 .byte (2 : Int32) [(.int (p624.toInt8.toInt32)), (.int (p625.toInt8.toInt32))] (.int (0 : Int32)) := by
    have qv := Arv.set Ar664 qq664 S664 M664 H664 G664 (fits_nar_byte _) W664 1 rfl (Nat.le_of_ble_eq_true rfl)
    first | rw [show nar .byte (p625.toInt8.toInt32) = (p625.toInt8.toInt32) from own_b2 _] at qv | rw [own_b2] at qv
    exact qv
  have Sf666 : Safe Z consts_1 _ h658 a619 := (own_safeB hZ hEE V659 (by decide))
  have C664 := C658.trans (CHr.wr W664 Sf666 C658.1)
  have N664 := Fr.snoc X664 N658 pG_a619
  show own_Goes p e below (T664.setTop (mkF m 32 #[rv a618, iv (1 : Int32), rv a619, iv (1 : Int32), iv (2 : Int32), iv (1 : Int32), iv p625] [])) _
  refine own_via (fun t k => XS.iinc X664.here hx rfl (hb hby d6_32) rfl (l' := #[rv a618, iv (2 : Int32), rv a619, iv (1 : Int32), iv (2 : Int32), iv (1 : Int32), iv p625]) rfl (XS.iinc X664.here hx rfl (hb hby d6_35) rfl (l' := #[rv a618, iv (2 : Int32), rv a619, iv (2 : Int32), iv (2 : Int32), iv (1 : Int32), iv p625]) rfl (XS.iinc X664.here hx rfl (hb hby d6_38) rfl (l' := #[rv a618, iv (2 : Int32), rv a619, iv (2 : Int32), iv (2 : Int32), iv (2 : Int32), iv p625]) rfl (XS.goto X664.here hx rfl (pc0 := 41) (pc' := 3) rfl (hb hby d6_41) (by decide) (by decide) (XS.iload X664.here hx rfl (hb hby d6_3) rfl (XS.iload X664.here hx rfl (hb hby d6_5) rfl (XS.icmpYes X664.here hx rfl (pc0 := 7) (pc' := 44) rfl (hb hby d6_7) rfl (flt (by decide : ¬ ((2 : Int32) < (2 : Int32)))).2.1 (by decide) (by decide) (XS.iload X664.here hx rfl (hb hby d6_44) rfl k)))))))) ?_
  show own_Goes p e below (T664.setTop (mkF m 46 #[rv a618, iv (2 : Int32), rv a619, iv (2 : Int32), iv (2 : Int32), iv (2 : Int32), iv p625] [(.int (2 : Int32))])) _
  have K667 : k0 ≤ h664.size := (Nat.le_trans (Nat.le_trans hk0 (Nat.le_of_eq W658.size.symm)) (Nat.le_of_eq W664.size.symm))
  obtain ⟨fs, hr, hrun, hended, hRW⟩ := X664.leaveW hS (by rw [e664]; first | exact K667 | exact Nat.le_refl _) (v := some (.int (2 : Int32))) (fun h => by rw [Bd.returns] at h; cases h)
  have Cz : CHr Z consts_1 s.vm s.heap T664.vm T664.heap := own_chr (C664.trans (CHv.at X664 hZ hEE.ew C664.1)) hh e664
  refine own_end (t := T664.setFrames fs) ?_ ⟨_, hrun, hended, _, _, rfl, ?_, Cz, own_rmono hRW (by decide) (by decide)⟩
  · exact retI X664 hx Bd.returns (hb hby d6_46) hr
  · show Q8 Z a618 a619 k626 p624 p625 k627 h0 n0 _ T664.heap _
    rw [e664]
    exact ⟨rfl, N664, (((Keep.refl h0 [a619]).wr W658 (Or.inl (List.mem_of_getElem? (i := 0) rfl))).wr W664 (Or.inl (List.mem_of_getElem? (i := 0) rfl))), V665⟩
def Q9 (Z : State) (a576 : Addr) (k583 : ClassId) (p581 : Int32) (p582 : Int32) (h0 : Heap) (n0 : Nat) (v : Option Value) (h : Heap) (L : List Loc) : Prop := (∃ (b613 : Addr) (k612 : ClassId), v = some (.ref b613) ∧ Fr n0 L ∧ Keep h0 h [] ∧ h0.size ≤ b613 ∧ Arv Z h b613 k612 .byte (2 : Int32) [(.int (p581.toInt8.toInt32)), (.int (p582.toInt8.toInt32))] (.int (0 : Int32)))
set_option maxRecDepth 65536 in
set_option maxHeartbeats 40000000 in
theorem rm9 (l : Launch) (Z : State) (a0 : Array Value) (hw : ∀ d ∈ tables_1, d.before a0 Z = true) (ws : List Jvm.Cond) (a576 : Addr) (k583 : ClassId) (p581 : Int32) (p582 : Int32) (h0 : Heap) (n0 : Nat) (O0 : Old Z n0 h0) (pV_a576 : Arv Z h0 a576 k583 .char (2 : Int32) [(.int p581), (.int p582)] (.int (0 : Int32))) (pC597 : ¬ ((255 : Int32) < p581)) (pC602 : ¬ ((255 : Int32) < p582)) :
    MetFree l (⟨zs3, "compress", "([CII)[B"⟩ : MethodName) (head1 (Jvm.Cond.code (⟨zs3, "compress", "([CII)[B"⟩ : MethodName) jdk_52_method_16_code 6 (some (.array .byte)) :: ws) ({ frames := 1, cells := 1, slots := 2, locals := 18 } : Room)) (fun a U => a = #[(.ref a576), (.int (0 : Int32)), (.int (2 : Int32))] ∧ Z.Warmed39 U.vm ∧ U.heap = h0 ∧ CHv Z consts_1 U.vm h0) (fun _ _ _ _ _ => True) (fun _ U o U' => ∃ v L, o = .returned v ∧ Q9 Z a576 k583 p581 p582 h0 n0 v U'.heap L ∧ CHr Z consts_1 U.vm U.heap U'.vm U'.heap ∧ ReturnedEndW U o U' L ({ frames := 1, cells := 1, slots := 2, locals := 18 } : Room).cells ({ frames := 1, cells := 1, slots := 2, locals := 18 } : Room).slots) := by
  refine MetFree.of_bodySF (plainFor_of_name pn_2) hisR ?_
  intro p e s m args below meth c s₁ Bd hml0 hP hK
  obtain ⟨rfl, hZ, hh, hC⟩ := hP
  have hx := Bd.exec
  have hby := Bd.bytes
  have hml : c.maxLocals = 6 := hml0
  have hown : s.vm.findClass zs3 = some m.cls := findClass_of_methodNamed Bd.named
  have hnm := (name_of_methodNamed Bd.named Bd.method).1
  have X0 : Stand p l e ({ frames := 1, cells := 1, slots := 2, locals := 18 } : Room) (s.setVm s.vm) m #[(.ref a576), (.int (0 : Int32)), (.int (2 : Int32))] below meth c s₁ [] 0 0 := Stand.of_body Bd
  have hS : s.Since s.vm 0 := (State.WarmedH.refl s).since 0
  obtain ⟨k0, hk0, hS⟩ : ∃ k0, k0 ≤ h0.size ∧ s.Since s.vm k0 := ⟨0, Nat.zero_le _, hS⟩
  have hZ : Z.Warmed39 (s.setVm s.vm).vm := hZ
  have hown : (s.setVm s.vm).vm.findClass zs3 = some m.cls := hown
  have C0 : CHr Z consts_1 s.vm h0 s.vm h0 := CHr.refl hC
  have hEE := own_ee hw
  have e0 : s₁.heap = h0 := by rw [← hh, Bd.state]; rfl
  have N0 := Fr.nil n0
  refine own_out ?_
  refine own_via (fun t k => castTop (ef_4 m a576 (0 : Int32) (2 : Int32)) (XS.iloadN X0.here hx rfl (hb hby d5_0) rfl k)) ?_
  obtain ⟨T612, h612, k612, X612, e612, E612, A612, st612⟩ := newP X0 hx hZ (wd hw 35 rfl) e0 (g := (mkF m 1 #[rv a576, iv (0 : Int32), iv (2 : Int32), .unset, .unset, .unset] [(.int (2 : Int32))])) rfl (hb hby d5_1) rfl (by decide) (cap := 2) (by decide) (by decide) (by decide) (by decide)
  obtain ⟨b613, q612⟩ : ∃ z, z = h0.size := ⟨_, rfl⟩
  rw [← q612] at A612 st612
  refine own_via (fun t k => st612 t k) ?_
  have C612 := C0.trans (CHr.ext E612 C0.1)
  have g614 : n0 ≤ b613 := Nat.le_trans (own_old O0) (Nat.le_of_eq q612.symm)
  have B615 : h0.size ≤ b613 := Nat.le_trans (Nat.le_refl _) (Nat.le_of_eq q612.symm)
  have V616 : Arv Z h612 b613 k612 .byte (2 : Int32) [] (.int (0 : Int32)) := Arv.new A612 (by decide)
  show own_Goes p e below (T612.setTop (mkF m 3 #[rv a576, iv (0 : Int32), iv (2 : Int32), .unset, .unset, .unset] [(.ref b613)])) _
  refine own_via (fun t k => XS.astoreN X612.here hx rfl (hb hby d5_3) rfl rfl (l' := #[rv a576, iv (0 : Int32), iv (2 : Int32), rv b613, .unset, .unset]) rfl (XS.aloadN X612.here hx rfl (hb hby d5_4) rfl rfl (XS.iloadN X612.here hx rfl (hb hby d5_5) rfl (XS.aloadN X612.here hx rfl (hb hby d5_6) rfl rfl (XS.iconst X612.here hx rfl (hb hby d5_7) (XS.iloadN X612.here hx rfl (hb hby d5_8) rfl k)))))) ?_
  show own_Goes p e below (T612.setTop (mkF m 9 #[rv a576, iv (0 : Int32), iv (2 : Int32), rv b613, .unset, .unset] [(.int (2 : Int32)), (.int (0 : Int32)), (.ref b613), (.int (0 : Int32)), (.ref a576)])) _
  have V668 : Arv Z h612 a576 k583 .char (2 : Int32) [(.int p581), (.int p582)] (.int (0 : Int32)) := (pV_a576.ext E612)
  have O669 : Old Z n0 h612 := (O0.ext E612)
  have K670 : k0 ≤ h612.size := (Nat.le_trans hk0 E612.1)
  obtain ⟨_, T617, _, X617, hQ617, Cr617, hS, hZ, hown, st617⟩ := own_csH X612 hx hZ hS K670 hown (wd hw 36 rfl) (wd hw 37 rfl) (wd hw 38 rfl) (wd hw 33 rfl) (by decide) hEE.ew C612.1 (rm8 l Z a0 hw [] a576 b613 k583 p581 p582 k612 h612 n0 O669 V668 pC597 V616 g614 pC602) e612 (g := (mkF m 9 #[rv a576, iv (0 : Int32), iv (2 : Int32), rv b613, .unset, .unset] [(.int (2 : Int32)), (.int (0 : Int32)), (.ref b613), (.int (0 : Int32)), (.ref a576)])) rfl (by rw [hml]; rfl) (rest := []) (W := 0) (lenOf pd_3 rfl) rfl (by show 2 * 0 + _ ≤ _; exact Nat.le_of_eq rfl) (hb hby d5_9) (by decide) (by decide) (by decide) (by decide)
  obtain ⟨h617, e617⟩ : ∃ z, T617.heap = z := ⟨_, rfl⟩
  rw [e617] at hQ617 Cr617
  obtain ⟨rfl, Nq617, K617, vx671⟩ := hQ617
  have N617 := Fr.app N0 Nq617
  have C672 := C612.trans Cr617
  have hk673 : T617.heap.size ≤ h617.size := Nat.le_of_eq (congrArg Array.size e617)
  refine own_via (fun t k => st617 t (XS.istore X617.here hx rfl (hb hby d5_12) rfl (l' := #[rv a576, iv (0 : Int32), iv (2 : Int32), rv b613, iv (2 : Int32), .unset]) rfl (XS.iload X617.here hx rfl (hb hby d5_14) rfl (XS.iloadN X617.here hx rfl (hb hby d5_16) rfl (XS.icmpYes X617.here hx rfl (pc0 := 17) (pc' := 57) rfl (hb hby d5_17) rfl (teq (by decide : (2 : Int32) = (2 : Int32))).1 (by decide) (by decide) (XS.aloadN X617.here hx rfl (hb hby d5_57) rfl rfl k)))))) ?_
  show own_Goes p e below (T617.setTop (mkF m 58 #[rv a576, iv (0 : Int32), iv (2 : Int32), rv b613, iv (2 : Int32), .unset] [(.ref b613)])) _
  obtain ⟨fs, hr, hrun, hended, hRW⟩ := X617.leaveW hS (by rw [e617]; first | exact hk673 | exact Nat.le_refl _) (v := some (.ref b613)) (fun h => by rw [Bd.returns] at h; cases h)
  have Cz : CHr Z consts_1 s.vm s.heap T617.vm T617.heap := own_chr (C672.trans (CHv.at X617 hZ hEE.ew C672.1)) hh e617
  refine own_end (t := T617.setFrames fs) ?_ ⟨_, hrun, hended, _, _, rfl, ?_, Cz, own_rmono hRW (by decide) (by decide)⟩
  · jvm_step X617.here [X617.here.top, hx, (hb hby d5_58), X617.method', Bd.returns, Value.isRef, FieldType.isReference]
    first | (intro acts; rw [hr _ acts rfl rfl rfl]) | rw [hr _ _ rfl rfl rfl]
    exact Steps.refl _
  · show Q9 Z a576 k583 p581 p582 h0 n0 _ T617.heap _
    rw [e617]
    exact ⟨b613, k612, rfl, N617, (((Keep.refl h0 []).ext E612).trans K617 (allS (Or.inr B615) all0)), B615, vx671⟩
def Q10 (Z : State) (a683 : Addr) (h0 : Heap) (n0 : Nat) (v : Option Value) (h : Heap) (L : List Loc) : Prop := v = some (.int (0 : Int32)) ∧ Fr n0 L ∧ h = h0
set_option maxRecDepth 65536 in
set_option maxHeartbeats 40000000 in
theorem rm10 (l : Launch) (Z : State) (a0 : Array Value) (hw : ∀ d ∈ tables_1, d.before a0 Z = true) (ws : List Jvm.Cond) (a683 : Addr) (h0 : Heap) (n0 : Nat) (O0 : Old Z n0 h0) (pL_a683 : own_Len Z h0 a683 .byte (2 : Int32)) :
    MetFree l (⟨zs3, zs10, "([BI)B"⟩ : MethodName) (head1 (Jvm.Cond.code (⟨zs3, zs10, "([BI)B"⟩ : MethodName) jdk_52_method_15_code 2 (some .byte) :: ws) ({ frames := 0, cells := 0, slots := 0, locals := 0 } : Room)) (fun a U => a = #[(.ref a683), (.int (2 : Int32))] ∧ Z.Warmed39 U.vm ∧ U.heap = h0 ∧ CHv Z consts_1 U.vm h0) (fun _ _ _ _ _ => True) (fun _ U o U' => ∃ v L, o = .returned v ∧ Q10 Z a683 h0 n0 v U'.heap L ∧ CHr Z consts_1 U.vm U.heap U'.vm U'.heap ∧ ReturnedEndW U o U' L ({ frames := 0, cells := 0, slots := 0, locals := 0 } : Room).cells ({ frames := 0, cells := 0, slots := 0, locals := 0 } : Room).slots) := by
  refine MetFree.of_bodySF (plainFor_of_name pn_2) hisR ?_
  intro p e s m args below meth c s₁ Bd hml0 hP hK
  obtain ⟨rfl, hZ, hh, hC⟩ := hP
  have hx := Bd.exec
  have hby := Bd.bytes
  have hml : c.maxLocals = 2 := hml0
  have hown : s.vm.findClass zs3 = some m.cls := findClass_of_methodNamed Bd.named
  have hnm := (name_of_methodNamed Bd.named Bd.method).1
  have X0 : Stand p l e ({ frames := 0, cells := 0, slots := 0, locals := 0 } : Room) (s.setVm s.vm) m #[(.ref a683), (.int (2 : Int32))] below meth c s₁ [] 0 0 := Stand.of_body Bd
  have hS : s.Since s.vm 0 := (State.WarmedH.refl s).since 0
  obtain ⟨k0, hk0, hS⟩ : ∃ k0, k0 ≤ h0.size ∧ s.Since s.vm k0 := ⟨0, Nat.zero_le _, hS⟩
  have hZ : Z.Warmed39 (s.setVm s.vm).vm := hZ
  have hown : (s.setVm s.vm).vm.findClass zs3 = some m.cls := hown
  have C0 : CHr Z consts_1 s.vm h0 s.vm h0 := CHr.refl hC
  have hEE := own_ee hw
  have e0 : s₁.heap = h0 := by rw [← hh, Bd.state]; rfl
  have N0 := Fr.nil n0
  refine own_out ?_
  refine own_via (fun t k => castTop (ef_5 m a683 (2 : Int32)) (XS.iloadN X0.here hx rfl (hb hby d7_0) rfl (XS.aloadN X0.here hx rfl (hb hby d7_1) rfl rfl k))) ?_
  show own_Goes p e below (s₁.setTop (mkF m 2 #[rv a683, iv (2 : Int32)] [(.ref a683), (.int (2 : Int32))])) _
  obtain ⟨_, _, _, V721⟩ := id (pL_a683)
  obtain ⟨cl721, Ar721, -, S721, M721, -, -⟩ := id (V721)
  refine own_via (fun t k => X0.arraylength hx (by rw [e0]; exact Ar721.1) (State.isArrayOf_alike hZ.alike Ar721.2.1) (g := (mkF m 2 #[rv a683, iv (2 : Int32)] [(.ref a683), (.int (2 : Int32))])) rfl rfl (hb hby d7_2) t k) ?_
  rw [len_of S721 M721]
  show own_Goes p e below (s₁.setTop (mkF m 3 #[rv a683, iv (2 : Int32)] [(.int (2 : Int32)), (.int (2 : Int32))])) _
  refine own_via (fun t k => XS.isub X0.here hx rfl (hb hby d7_3) rfl (XS.bipush X0.here hx rfl (hb hby d7_4) (XS.iushr X0.here hx rfl (hb hby d7_6) rfl (XS.i2b X0.here hx rfl (hb hby d7_7) rfl k)))) ?_
  show own_Goes p e below (s₁.setTop (mkF m 8 #[rv a683, iv (2 : Int32)] [(.int (0 : Int32))])) _
  obtain ⟨fs, hr, hrun, hended, hRW⟩ := X0.leaveW hS (by rw [e0]; first | exact hk0 | exact Nat.le_refl _) (v := some (.int (0 : Int32))) (fun h => by rw [Bd.returns] at h; cases h)
  have Cz : CHr Z consts_1 s.vm s.heap s₁.vm s₁.heap := own_chr (C0.trans (CHv.at X0 hZ hEE.ew C0.1)) hh e0
  refine own_end (t := s₁.setFrames fs) ?_ ⟨_, hrun, hended, _, _, rfl, ?_, Cz, own_rmono hRW (by decide) (by decide)⟩
  · exact retN X0 hx (t := .byte) Bd.returns (by simp) (hb hby d7_8) hr
  · show Q10 Z a683 h0 n0 _ s₁.heap _
    rw [e0]
    exact ⟨rfl, N0, rfl⟩
def Q11 (Z : State) (a537 : Addr) (a538 : Addr) (i48 : Int32) (k544 : ClassId) (p542 : Int32) (p543 : Int32) (p541 : Int32) (h0 : Heap) (n0 : Nat) (v : Option Value) (h : Heap) (L : List Loc) : Prop := v = none ∧ Fr n0 L ∧ Keep h0 h [a537] ∧ Exa Z h a537 zs2
set_option maxRecDepth 65536 in
set_option maxHeartbeats 40000000 in
theorem rm11 (l : Launch) (Z : State) (a0 : Array Value) (hw : ∀ d ∈ tables_1, d.before a0 Z = true) (ws : List Jvm.Cond) (a537 : Addr) (a538 : Addr) (i48 : Int32) (k544 : ClassId) (p542 : Int32) (p543 : Int32) (p541 : Int32) (h0 : Heap) (n0 : Nat) (O0 : Old Z n0 h0) (S_String_COMPACT_STRINGS : Sta Z Z.heap zs2 zs9 "Z" (.int i48)) (pC545 : ¬ (i48 = (0 : Int32))) (pV_a538 : Arv Z h0 a538 k544 .char (2 : Int32) [(.int p542), (.int p543)] (.int (0 : Int32))) (pC558 : ¬ ((255 : Int32) < p542)) (pC563 : ¬ ((255 : Int32) < p543)) (pF_a537_coder : Fld Z h0 a537 zs2 "coder" "B" (.int p541)) (pE_a537 : Exa Z h0 a537 zs2) (pG_a537 : n0 ≤ a537) (pF_a537_value : Fld Z h0 a537 zs2 "value" "[B" .null) :
    MetFree l (⟨zs2, "<init>", zs7⟩ : MethodName) (head1 (Jvm.Cond.code (⟨zs2, "<init>", zs7⟩ : MethodName) jdk_42_method_149_code 6 none :: ws) ({ frames := 2, cells := 1, slots := 2, locals := 35 } : Room)) (fun a U => a = #[(.ref a537), (.ref a538), (.int (0 : Int32)), (.int (2 : Int32)), .null] ∧ Z.Warmed39 U.vm ∧ U.heap = h0 ∧ CHv Z consts_1 U.vm h0) (fun _ _ _ _ _ => True) (fun _ U o U' => ∃ v L, o = .returned v ∧ Q11 Z a537 a538 i48 k544 p542 p543 p541 h0 n0 v U'.heap L ∧ CHr Z consts_1 U.vm U.heap U'.vm U'.heap ∧ ReturnedEndW U o U' L ({ frames := 2, cells := 1, slots := 2, locals := 35 } : Room).cells ({ frames := 2, cells := 1, slots := 2, locals := 35 } : Room).slots) := by
  refine MetFree.of_bodySF (plainFor_of_name pn_1) hisR ?_
  intro p e s m args below meth c s₁ Bd hml0 hP hK
  obtain ⟨rfl, hZ, hh, hC⟩ := hP
  have hx := Bd.exec
  have hby := Bd.bytes
  have hml : c.maxLocals = 6 := hml0
  have hown : s.vm.findClass zs2 = some m.cls := findClass_of_methodNamed Bd.named
  have hnm := (name_of_methodNamed Bd.named Bd.method).1
  have X0 : Stand p l e ({ frames := 2, cells := 1, slots := 2, locals := 35 } : Room) (s.setVm s.vm) m #[(.ref a537), (.ref a538), (.int (0 : Int32)), (.int (2 : Int32)), .null] below meth c s₁ [] 0 0 := Stand.of_body Bd
  have hS : s.Since s.vm 0 := (State.WarmedH.refl s).since 0
  obtain ⟨k0, hk0, hS⟩ : ∃ k0, k0 ≤ h0.size ∧ s.Since s.vm k0 := ⟨0, Nat.zero_le _, hS⟩
  have hZ : Z.Warmed39 (s.setVm s.vm).vm := hZ
  have hown : (s.setVm s.vm).vm.findClass zs2 = some m.cls := hown
  have C0 : CHr Z consts_1 s.vm h0 s.vm h0 := CHr.refl hC
  have hEE := own_ee hw
  have e0 : s₁.heap = h0 := by rw [← hh, Bd.state]; rfl
  have N0 := Fr.nil n0
  refine own_out ?_
  refine own_via (fun t k => castTop (ef_1 m a537 a538 (0 : Int32) (2 : Int32)) (XS.aloadN X0.here hx rfl (hb hby d3_0) rfl rfl k)) ?_
  obtain ⟨T573, X573, e573, st573⟩ := initO X0 hx hZ hown (wd hw 27 rfl) (wd hw 28 rfl) (wd hw 29 rfl) e0 (g := (mkF m 1 #[rv a537, rv a538, iv (0 : Int32), iv (2 : Int32), .val .null, .unset] [(.ref a537)])) rfl (by rw [hml]; rfl) rfl (hb hby d3_1) (by decide) (W := 0) (by show 2 * 0 + _ ≤ _; exact Nat.le_of_eq rfl) (by decide)
  refine own_via (fun t k => st573 t (XS.iloadN X573.here hx rfl (hb hby d3_4) rfl (XS.ifYes X573.here hx rfl (pc0 := 5) (pc' := 27) rfl (hb hby d3_5) rfl ((if0 _ _).trans (feq (by decide : ¬ ((2 : Int32) = (0 : Int32)))).2) (by decide) (by decide) k))) ?_
  show own_Goes p e below (T573.setTop (mkF m 27 #[rv a537, rv a538, iv (0 : Int32), iv (2 : Int32), .val .null, .unset] [])) _
  obtain ⟨T574, X574, e574, st574⟩ := getS2 X573 hx hZ hown (host := "") (Or.inl (wd hw 30 rfl)) Via.refl e573 (S_String_COMPACT_STRINGS.ext O0.2) (g := (mkF m 27 #[rv a537, rv a538, iv (0 : Int32), iv (2 : Int32), .val .null, .unset] [])) rfl (hb hby d3_27)
  refine own_via (fun t k => st574 t (XS.ifNo X574.here hx rfl (hb hby d3_30) rfl ((if0 _ _).trans (feq pC545).1) (XS.aloadN X574.here hx rfl (hb hby d3_33) rfl rfl (XS.iloadN X574.here hx rfl (hb hby d3_34) rfl (XS.iloadN X574.here hx rfl (hb hby d3_35) rfl k))))) ?_
  show own_Goes p e below (T574.setTop (mkF m 36 #[rv a537, rv a538, iv (0 : Int32), iv (2 : Int32), .val .null, .unset] [(.int (2 : Int32)), (.int (0 : Int32)), (.ref a538)])) _
  obtain ⟨_, T575, _, X575, hQ575, Cr575, hS, hZ, hown, st575⟩ := own_csH X574 hx hZ hS hk0 hown (wd hw 31 rfl) (wd hw 32 rfl) (wd hw 34 rfl) (wd hw 33 rfl) (by decide) hEE.ew C0.1 (rm9 l Z a0 hw [] a538 k544 p542 p543 h0 n0 O0 pV_a538 pC558 pC563) e574 (g := (mkF m 36 #[rv a537, rv a538, iv (0 : Int32), iv (2 : Int32), .val .null, .unset] [(.int (2 : Int32)), (.int (0 : Int32)), (.ref a538)])) rfl (by rw [hml]; rfl) (rest := []) (W := 0) (lenOf pd_4 rfl) rfl (by show 2 * 0 + _ ≤ _; exact Nat.le_of_eq rfl) (hb hby d3_36) (by decide) (by decide) (by decide) (by decide)
  obtain ⟨h575, e575⟩ : ∃ z, T575.heap = z := ⟨_, rfl⟩
  rw [e575] at hQ575 Cr575
  obtain ⟨b674, k675, rfl, Nq575, K575, bx676, vx677⟩ := hQ575
  have N575 := Fr.app N0 Nq575
  have C678 := C0.trans Cr575
  have g679 : n0 ≤ b674 := Nat.le_trans (own_old O0) bx676
  have B680 : h0.size ≤ b674 := Nat.le_trans (Nat.le_refl _) bx676
  have hk681 : T575.heap.size ≤ h575.size := Nat.le_of_eq (congrArg Array.size e575)
  refine own_via (fun t k => st575 t (XS.astore X575.here hx rfl (hb hby d3_39) rfl rfl (l' := #[rv a537, rv a538, iv (0 : Int32), iv (2 : Int32), .val .null, rv b674]) rfl (XS.aloadN X575.here hx rfl (hb hby d3_41) rfl rfl (XS.aload X575.here hx rfl (hb hby d3_42) rfl rfl (XS.iloadN X575.here hx rfl (hb hby d3_44) rfl k))))) ?_
  show own_Goes p e below (T575.setTop (mkF m 45 #[rv a537, rv a538, iv (0 : Int32), iv (2 : Int32), .val .null, rv b674] [(.int (2 : Int32)), (.ref b674), (.ref a537)])) _
  have l722 : own_Len Z h575 b674 .byte (2 : Int32) := ⟨_, _, _, vx677⟩
  have O723 : Old Z n0 h575 := (O0.keep K575 all0)
  obtain ⟨_, T682, _, X682, hQ682, Cr682, hS, hZ, hown, st682⟩ := own_csH X575 hx hZ hS hk681 hown (wd hw 39 rfl) (wd hw 40 rfl) (wd hw 41 rfl) (wd hw 33 rfl) (by decide) hEE.ew C678.1 (rm10 l Z a0 hw [] b674 h575 n0 O723 l722) e575 (g := (mkF m 45 #[rv a537, rv a538, iv (0 : Int32), iv (2 : Int32), .val .null, rv b674] [(.int (2 : Int32)), (.ref b674), (.ref a537)])) rfl (by rw [hml]; rfl) (rest := [(.ref a537)]) (W := 1) (lenOf pd_5 rfl) rfl (by show 2 * 0 + _ ≤ _; exact Nat.le_of_eq rfl) (hb hby d3_45) (by decide) (by decide) (by decide) (by decide)
  obtain ⟨rfl, Nq682, hh724⟩ := hQ682
  have N682 := Fr.app N575 Nq682
  rw [hh724] at Cr682
  have C725 := C678.trans Cr682
  have hk726 : T682.heap.size ≤ h575.size := Nat.le_of_eq (congrArg Array.size hh724)
  refine own_via (fun t k => st682 t k) ?_
  have F727 : Fld Z h575 a537 zs2 "coder" "B" (.int p541) := (pF_a537_coder.keep K575 nin0)
  have E728 : Exa Z h575 a537 zs2 := (pE_a537.keep K575)
  obtain ⟨T729, h729, X729, e729, W729, st729⟩ := putFN X682 hx hZ hown (wd hw 42 rfl) Via.refl hh724 F727 E728 (Or.inr ⟨(wd hw 43 rfl), rfl, hnm⟩) (wd hw 17 rfl) (ty := .byte) (v' := (.int (0 : Int32))) (by decide) rfl (by decide) (g := (mkF m 48 #[rv a537, rv a538, iv (0 : Int32), iv (2 : Int32), .val .null, rv b674] [(.int (0 : Int32)), (.ref a537)])) rfl rfl (hb hby d3_48)
  refine own_via (fun t k => st729 t k) ?_
  have Fw729 : Fld Z h729 a537 zs2 "coder" "B" (.int (0 : Int32)) := F727.same W729
  have F730 : Fld Z h575 a537 zs2 "value" "[B" .null := (pF_a537_value.keep K575 nin0)
  have Sf731 : Safe Z consts_1 _ h575 a537 := (own_safeS hZ.alike E728 F730)
  have C729 := C725.trans (CHr.wr W729 Sf731 C725.1)
  have Sa732 := Safe.wr W729 Sf731 C725.1 Sf731
  have N729 := Fr.snoc X729 N682 pG_a537
  show own_Goes p e below (T729.setTop (mkF m 51 #[rv a537, rv a538, iv (0 : Int32), iv (2 : Int32), .val .null, rv b674] [])) _
  refine own_via (fun t k => XS.aloadN X729.here hx rfl (hb hby d3_51) rfl rfl (XS.aload X729.here hx rfl (hb hby d3_52) rfl rfl k)) ?_
  have F733 : Fld Z h729 a537 zs2 "value" "[B" .null := (F730.other W729 (Or.inr (slot_ne (Or.inr (wd hw 45 rfl)) (Or.inr (wd hw 43 rfl)) (by decide) (t := (.array .byte)) (t' := .byte) (by decide) (by decide))))
  have E734 : Exa Z h729 a537 zs2 := (E728.wr W729)
  obtain ⟨T735, h735, X735, e735, W735, st735⟩ := putF X729 hx hZ hown (host := "") (Or.inl (wd hw 44 rfl)) Via.refl e729 F733 E734 (Or.inr ⟨(wd hw 45 rfl), rfl, hnm⟩) (wd hw 17 rfl) (ty := (.array .byte)) (by decide) rfl rfl (g := (mkF m 54 #[rv a537, rv a538, iv (0 : Int32), iv (2 : Int32), .val .null, rv b674] [(.ref b674), (.ref a537)])) rfl rfl (hb hby d3_54)
  refine own_via (fun t k => st735 t k) ?_
  have Fw735 : Fld Z h735 a537 zs2 "value" "[B" (.ref b674) := F733.same W735
  have Sf736 : Safe Z consts_1 _ h729 a537 := Sa732
  have C735 := C729.trans (CHr.wr W735 Sf736 C729.1)
  have Sa737 := Safe.wr W735 Sf736 C729.1 Sa732
  have N735 := Fr.snoc X735 N729 pG_a537
  show own_Goes p e below (T735.setTop (mkF m 57 #[rv a537, rv a538, iv (0 : Int32), iv (2 : Int32), .val .null, rv b674] [])) _
  have K738 : T682.heap.size ≤ h735.size := (Nat.le_trans (Nat.le_trans hk726 (Nat.le_of_eq W729.size.symm)) (Nat.le_of_eq W735.size.symm))
  obtain ⟨fs, hr, hrun, hended, hRW⟩ := X735.leaveW hS (by rw [e735]; first | exact K738 | exact Nat.le_refl _) (v := none) (fun _ => rfl)
  have Cz : CHr Z consts_1 s.vm s.heap T735.vm T735.heap := own_chr (C735.trans (CHv.at X735 hZ hEE.ew C735.1)) hh e735
  refine own_end (t := T735.setFrames fs) ?_ ⟨_, hrun, hended, _, _, rfl, ?_, Cz, own_rmono hRW (by decide) (by decide)⟩
  · exact X735.returnOut hx Bd.returns (hb hby d3_57) hr
  have E739 : Exa Z h735 a537 zs2 := (E734.wr W735)
  · show Q11 Z a537 a538 i48 k544 p542 p543 p541 h0 n0 _ T735.heap _
    rw [e735]
    exact ⟨rfl, N735, ((((Keep.refl h0 [a537]).trans K575 all0).wr W729 (Or.inl (List.mem_of_getElem? (i := 0) rfl))).wr W735 (Or.inl (List.mem_of_getElem? (i := 0) rfl))), E739⟩
def Q12 (Z : State) (a499 : Addr) (a500 : Addr) (i48 : Int32) (k506 : ClassId) (p504 : Int32) (p505 : Int32) (p503 : Int32) (h0 : Heap) (n0 : Nat) (v : Option Value) (h : Heap) (L : List Loc) : Prop := v = none ∧ Fr n0 L ∧ Keep h0 h [a499] ∧ Exa Z h a499 zs2
set_option maxRecDepth 65536 in
set_option maxHeartbeats 40000000 in
theorem rm12 (l : Launch) (Z : State) (a0 : Array Value) (hw : ∀ d ∈ tables_1, d.before a0 Z = true) (ws : List Jvm.Cond) (a499 : Addr) (a500 : Addr) (i48 : Int32) (k506 : ClassId) (p504 : Int32) (p505 : Int32) (p503 : Int32) (h0 : Heap) (n0 : Nat) (O0 : Old Z n0 h0) (pL_a500 : own_Len Z h0 a500 .char (2 : Int32)) (S_String_COMPACT_STRINGS : Sta Z Z.heap zs2 zs9 "Z" (.int i48)) (pC507 : ¬ (i48 = (0 : Int32))) (pV_a500 : Arv Z h0 a500 k506 .char (2 : Int32) [(.int p504), (.int p505)] (.int (0 : Int32))) (pC520 : ¬ ((255 : Int32) < p504)) (pC525 : ¬ ((255 : Int32) < p505)) (pF_a499_coder : Fld Z h0 a499 zs2 "coder" "B" (.int p503)) (pE_a499 : Exa Z h0 a499 zs2) (pG_a499 : n0 ≤ a499) (pF_a499_value : Fld Z h0 a499 zs2 "value" "[B" .null) :
    MetFree l (⟨zs2, "<init>", "([C)V"⟩ : MethodName) (head1 (Jvm.Cond.code (⟨zs2, "<init>", "([C)V"⟩ : MethodName) jdk_42_method_3_code 2 none :: ws) ({ frames := 3, cells := 1, slots := 2, locals := 52 } : Room)) (fun a U => a = #[(.ref a499), (.ref a500)] ∧ Z.Warmed39 U.vm ∧ U.heap = h0 ∧ CHv Z consts_1 U.vm h0) (fun _ _ _ _ _ => True) (fun _ U o U' => ∃ v L, o = .returned v ∧ Q12 Z a499 a500 i48 k506 p504 p505 p503 h0 n0 v U'.heap L ∧ CHr Z consts_1 U.vm U.heap U'.vm U'.heap ∧ ReturnedEndW U o U' L ({ frames := 3, cells := 1, slots := 2, locals := 52 } : Room).cells ({ frames := 3, cells := 1, slots := 2, locals := 52 } : Room).slots) := by
  refine MetFree.of_bodySF (plainFor_of_name pn_1) hisR ?_
  intro p e s m args below meth c s₁ Bd hml0 hP hK
  obtain ⟨rfl, hZ, hh, hC⟩ := hP
  have hx := Bd.exec
  have hby := Bd.bytes
  have hml : c.maxLocals = 2 := hml0
  have hown : s.vm.findClass zs2 = some m.cls := findClass_of_methodNamed Bd.named
  have hnm := (name_of_methodNamed Bd.named Bd.method).1
  have X0 : Stand p l e ({ frames := 3, cells := 1, slots := 2, locals := 52 } : Room) (s.setVm s.vm) m #[(.ref a499), (.ref a500)] below meth c s₁ [] 0 0 := Stand.of_body Bd
  have hS : s.Since s.vm 0 := (State.WarmedH.refl s).since 0
  obtain ⟨k0, hk0, hS⟩ : ∃ k0, k0 ≤ h0.size ∧ s.Since s.vm k0 := ⟨0, Nat.zero_le _, hS⟩
  have hZ : Z.Warmed39 (s.setVm s.vm).vm := hZ
  have hown : (s.setVm s.vm).vm.findClass zs2 = some m.cls := hown
  have C0 : CHr Z consts_1 s.vm h0 s.vm h0 := CHr.refl hC
  have hEE := own_ee hw
  have e0 : s₁.heap = h0 := by rw [← hh, Bd.state]; rfl
  have N0 := Fr.nil n0
  refine own_out ?_
  refine own_via (fun t k => castTop (ef_2 m a499 a500) (XS.aloadN X0.here hx rfl (hb hby d2_0) rfl rfl (XS.aloadN X0.here hx rfl (hb hby d2_1) rfl rfl (XS.iconst X0.here hx rfl (hb hby d2_2) (XS.aloadN X0.here hx rfl (hb hby d2_3) rfl rfl k))))) ?_
  show own_Goes p e below (s₁.setTop (mkF m 4 #[rv a499, rv a500] [(.ref a500), (.int (0 : Int32)), (.ref a500), (.ref a499)])) _
  obtain ⟨_, _, _, V535⟩ := id (pL_a500)
  obtain ⟨cl535, Ar535, -, S535, M535, -, -⟩ := id (V535)
  refine own_via (fun t k => X0.arraylength hx (by rw [e0]; exact Ar535.1) (State.isArrayOf_alike hZ.alike Ar535.2.1) (g := (mkF m 4 #[rv a499, rv a500] [(.ref a500), (.int (0 : Int32)), (.ref a500), (.ref a499)])) rfl rfl (hb hby d2_4) t k) ?_
  rw [len_of S535 M535]
  show own_Goes p e below (s₁.setTop (mkF m 5 #[rv a499, rv a500] [(.int (2 : Int32)), (.int (0 : Int32)), (.ref a500), (.ref a499)])) _
  refine own_via (fun t k => XS.aconstNull X0.here hx rfl (hb hby d2_5) k) ?_
  obtain ⟨_, T536, _, X536, hQ536, Cr536, hS, hZ, hown, st536⟩ := own_ciH X0 hx hZ hS hk0 hown (wd hw 23 rfl) (wd hw 24 rfl) (wd hw 26 rfl) (wd hw 18 rfl) rfl (by decide) hEE.ew C0.1 (rm11 l Z a0 hw [] a499 a500 i48 k506 p504 p505 p503 h0 n0 O0 S_String_COMPACT_STRINGS pC507 pV_a500 pC520 pC525 pF_a499_coder pE_a499 pG_a499 pF_a499_value) e0 (g := (mkF m 6 #[rv a499, rv a500] [.null, (.int (2 : Int32)), (.int (0 : Int32)), (.ref a500), (.ref a499)])) rfl (by rw [hml]; rfl) (rest := []) (W := 0) (lenOf pd_1 rfl) rfl (by show 2 * 0 + _ ≤ _; exact Nat.le_of_eq rfl) (hb hby d2_6) (by decide) (by decide) (by decide) (by decide)
  obtain ⟨h536, e536⟩ : ∃ z, T536.heap = z := ⟨_, rfl⟩
  rw [e536] at hQ536 Cr536
  obtain ⟨rfl, Nq536, K536, ex740⟩ := hQ536
  have N536 := Fr.app N0 Nq536
  have C741 := C0.trans Cr536
  have hk742 : T536.heap.size ≤ h536.size := Nat.le_of_eq (congrArg Array.size e536)
  refine own_via (fun t k => st536 t k) ?_
  obtain ⟨fs, hr, hrun, hended, hRW⟩ := X536.leaveW hS (by rw [e536]; first | exact hk742 | exact Nat.le_refl _) (v := none) (fun _ => rfl)
  have Cz : CHr Z consts_1 s.vm s.heap T536.vm T536.heap := own_chr (C741.trans (CHv.at X536 hZ hEE.ew C741.1)) hh e536
  refine own_end (t := T536.setFrames fs) ?_ ⟨_, hrun, hended, _, _, rfl, ?_, Cz, own_rmono hRW (by decide) (by decide)⟩
  · exact X536.returnOut hx Bd.returns (hb hby d2_9) hr
  · show Q12 Z a499 a500 i48 k506 p504 p505 p503 h0 n0 _ T536.heap _
    rw [e536]
    exact ⟨rfl, N536, ((Keep.refl h0 [a499]).trans K536 (allS (Or.inl (List.mem_of_getElem? (i := 0) rfl)) all0)), ex740⟩
theorem d1_85 : decode method_3_code 85 = .ok (.areturn, 1) := by decide +kernel
theorem d1_86 : decode method_3_code 86 = .ok (.new 33, 3) := by decide +kernel
theorem d1_89 : decode method_3_code 89 = .ok (.dup, 1) := by decide +kernel
theorem d1_90 : decode method_3_code 90 = .ok (.iconst 3, 1) := by decide +kernel
theorem d1_91 : decode method_3_code 91 = .ok (.newarray .char, 2) := by decide +kernel
theorem d1_93 : decode method_3_code 93 = .ok (.dup, 1) := by decide +kernel
theorem d1_94 : decode method_3_code 94 = .ok (.iconst 0, 1) := by decide +kernel
theorem d1_95 : decode method_3_code 95 = .ok (.iload 4, 2) := by decide +kernel
theorem d1_97 : decode method_3_code 97 = .ok (.castore, 1) := by decide +kernel
theorem d1_98 : decode method_3_code 98 = .ok (.dup, 1) := by decide +kernel
theorem d1_99 : decode method_3_code 99 = .ok (.iconst 1, 1) := by decide +kernel
theorem d1_100 : decode method_3_code 100 = .ok (.iload 5, 2) := by decide +kernel
theorem d1_102 : decode method_3_code 102 = .ok (.castore, 1) := by decide +kernel
theorem d1_103 : decode method_3_code 103 = .ok (.dup, 1) := by decide +kernel
theorem d1_104 : decode method_3_code 104 = .ok (.iconst 2, 1) := by decide +kernel
theorem d1_105 : decode method_3_code 105 = .ok (.iload 6, 2) := by decide +kernel
theorem d1_107 : decode method_3_code 107 = .ok (.castore, 1) := by decide +kernel
theorem d1_108 : decode method_3_code 108 = .ok (.invokespecial 42, 3) := by decide +kernel
def Q13 (Z : State) (a901 : Addr) (a902 : Addr) (k910 : ClassId) (p907 : Int32) (p908 : Int32) (p909 : Int32) (k911 : ClassId) (h0 : Heap) (n0 : Nat) (v : Option Value) (h : Heap) (L : List Loc) : Prop := v = some (.int (3 : Int32)) ∧ Fr n0 L ∧ Keep h0 h [a902] ∧ Arv Z h a902 k911 .byte (3 : Int32) [(.int (p907.toInt8.toInt32)), (.int (p908.toInt8.toInt32)), (.int (p909.toInt8.toInt32))] (.int (0 : Int32))
set_option maxRecDepth 65536 in
set_option maxHeartbeats 40000000 in
theorem rm13 (l : Launch) (Z : State) (a0 : Array Value) (hw : ∀ d ∈ tables_1, d.before a0 Z = true) (ws : List Jvm.Cond) (a901 : Addr) (a902 : Addr) (k910 : ClassId) (p907 : Int32) (p908 : Int32) (p909 : Int32) (k911 : ClassId) (h0 : Heap) (n0 : Nat) (O0 : Old Z n0 h0) (pV_a901 : Arv Z h0 a901 k910 .char (3 : Int32) [(.int p907), (.int p908), (.int p909)] (.int (0 : Int32))) (pC925 : ¬ ((255 : Int32) < p907)) (pV_a902 : Arv Z h0 a902 k911 .byte (3 : Int32) [] (.int (0 : Int32))) (pG_a902 : n0 ≤ a902) (pC930 : ¬ ((255 : Int32) < p908)) (pC935 : ¬ ((255 : Int32) < p909)) :
    MetFree l (⟨zs3, "compress", "([CI[BII)I"⟩ : MethodName) (head1 (Jvm.Cond.code (⟨zs3, "compress", "([CI[BII)I"⟩ : MethodName) jdk_52_method_21_code 7 (some .int) :: ws) ({ frames := 0, cells := 0, slots := 0, locals := 0 } : Room)) (fun a U => a = #[(.ref a901), (.int (0 : Int32)), (.ref a902), (.int (0 : Int32)), (.int (3 : Int32))] ∧ Z.Warmed39 U.vm ∧ U.heap = h0 ∧ CHv Z consts_1 U.vm h0) (fun _ _ _ _ _ => True) (fun _ U o U' => ∃ v L, o = .returned v ∧ Q13 Z a901 a902 k910 p907 p908 p909 k911 h0 n0 v U'.heap L ∧ CHr Z consts_1 U.vm U.heap U'.vm U'.heap ∧ ReturnedEndW U o U' L ({ frames := 0, cells := 0, slots := 0, locals := 0 } : Room).cells ({ frames := 0, cells := 0, slots := 0, locals := 0 } : Room).slots) := by
  refine MetFree.of_bodySF (plainFor_of_name pn_2) hisR ?_
  intro p e s m args below meth c s₁ Bd hml0 hP hK
  obtain ⟨rfl, hZ, hh, hC⟩ := hP
  have hx := Bd.exec
  have hby := Bd.bytes
  have hml : c.maxLocals = 7 := hml0
  have hown : s.vm.findClass zs3 = some m.cls := findClass_of_methodNamed Bd.named
  have hnm := (name_of_methodNamed Bd.named Bd.method).1
  have X0 : Stand p l e ({ frames := 0, cells := 0, slots := 0, locals := 0 } : Room) (s.setVm s.vm) m #[(.ref a901), (.int (0 : Int32)), (.ref a902), (.int (0 : Int32)), (.int (3 : Int32))] below meth c s₁ [] 0 0 := Stand.of_body Bd
  have hS : s.Since s.vm 0 := (State.WarmedH.refl s).since 0
  obtain ⟨k0, hk0, hS⟩ : ∃ k0, k0 ≤ h0.size ∧ s.Since s.vm k0 := ⟨0, Nat.zero_le _, hS⟩
  have hZ : Z.Warmed39 (s.setVm s.vm).vm := hZ
  have hown : (s.setVm s.vm).vm.findClass zs3 = some m.cls := hown
  have C0 : CHr Z consts_1 s.vm h0 s.vm h0 := CHr.refl hC
  have hEE := own_ee hw
  have e0 : s₁.heap = h0 := by rw [← hh, Bd.state]; rfl
  have N0 := Fr.nil n0
  refine own_out ?_
  refine own_via (fun t k => castTop (ef_3 m a901 (0 : Int32) a902 (0 : Int32) (3 : Int32)) (XS.iconst X0.here hx rfl (hb hby d6_0) (XS.istore X0.here hx rfl (hb hby d6_1) rfl (l' := #[rv a901, iv (0 : Int32), rv a902, iv (0 : Int32), iv (3 : Int32), iv (0 : Int32), .unset]) rfl (XS.iload X0.here hx rfl (hb hby d6_3) rfl (XS.iload X0.here hx rfl (hb hby d6_5) rfl (XS.icmpNo X0.here hx rfl (hb hby d6_7) rfl (tlt (by decide : (0 : Int32) < (3 : Int32))).2.1 (XS.aloadN X0.here hx rfl (hb hby d6_10) rfl rfl (XS.iloadN X0.here hx rfl (hb hby d6_11) rfl k)))))))) ?_
  show own_Goes p e below (s₁.setTop (mkF m 12 #[rv a901, iv (0 : Int32), rv a902, iv (0 : Int32), iv (3 : Int32), iv (0 : Int32), .unset] [(.int (0 : Int32)), (.ref a901)])) _
  obtain ⟨cl940, Ar940, qq940, S940, M940, H940, G940⟩ := id (pV_a901)
  have hin940 : ¬ ((0 : Int32) < 0 ∨ cl940.slots.size ≤ ((0 : Int32)).toNatClampNeg) := inb_of S940 ⟨by decide, by decide⟩
  refine own_via (fun t k => X0.caload hx (j := (0 : Int32)) (v := (.int p907)) (by rw [e0]; exact Ar940.1) (State.isArrayOf_alike hZ.alike Ar940.2.1) Ar940.2.2 hin940 (Has.at H940 hin940 rfl) (g := (mkF m 12 #[rv a901, iv (0 : Int32), rv a902, iv (0 : Int32), iv (3 : Int32), iv (0 : Int32), .unset] [(.int (0 : Int32)), (.ref a901)])) rfl rfl (hb hby d6_12) t (XS.istore X0.here hx rfl (hb hby d6_13) rfl (l' := #[rv a901, iv (0 : Int32), rv a902, iv (0 : Int32), iv (3 : Int32), iv (0 : Int32), iv p907]) rfl (XS.iload X0.here hx rfl (hb hby d6_15) rfl (XS.sipush X0.here hx rfl (hb hby d6_17) (XS.icmpYes X0.here hx rfl (pc0 := 20) (pc' := 26) rfl (hb hby d6_20) rfl (flt pC925).2.2.2 (by decide) (by decide) (XS.aloadN X0.here hx rfl (hb hby d6_26) rfl rfl (XS.iloadN X0.here hx rfl (hb hby d6_27) rfl (XS.iload X0.here hx rfl (hb hby d6_28) rfl (XS.i2b X0.here hx rfl (hb hby d6_30) rfl k))))))))) ?_
  show own_Goes p e below (s₁.setTop (mkF m 31 #[rv a901, iv (0 : Int32), rv a902, iv (0 : Int32), iv (3 : Int32), iv (0 : Int32), iv p907] [(.int (p907.toInt8.toInt32)), (.int (0 : Int32)), (.ref a902)])) _
  have V941 : Arv Z h0 a902 k911 .byte (3 : Int32) [(.int (0 : Int32))] (.int (0 : Int32)) := pV_a902.pad (pad_rep [] (.int (0 : Int32)) 1)
  obtain ⟨cl942, Ar942, qq942, S942, M942, H942, G942⟩ := id (V941)
  have hin942 : ¬ ((0 : Int32) < 0 ∨ cl942.slots.size ≤ ((0 : Int32)).toNatClampNeg) := inb_of S942 ⟨by decide, by decide⟩
  obtain ⟨T942, h942, X942, e942, W942, st942⟩ := stB X0 hx hZ e0 Ar942 (j := (0 : Int32)) hin942 (g := (mkF m 31 #[rv a901, iv (0 : Int32), rv a902, iv (0 : Int32), iv (3 : Int32), iv (0 : Int32), iv p907] [(.int (p907.toInt8.toInt32)), (.int (0 : Int32)), (.ref a902)])) rfl rfl (hb hby d6_31)
  refine own_via (fun t k => st942 t k) ?_
  have V943 : Arv Z h942 a902 k911 .byte (3 : Int32) [(.int (p907.toInt8.toInt32))] (.int (0 : Int32)) := by
    have qv := Arv.set Ar942 qq942 S942 M942 H942 G942 (fits_nar_byte _) W942 0 rfl (Nat.le_of_ble_eq_true rfl)
    first | rw [show nar .byte (p907.toInt8.toInt32) = (p907.toInt8.toInt32) from own_b2 _] at qv | rw [own_b2] at qv
    exact qv
  have Sf944 : Safe Z consts_1 _ h0 a902 := (own_safeB hZ hEE pV_a902 (by decide))
  have C942 := C0.trans (CHr.wr W942 Sf944 C0.1)
  have N942 := Fr.snoc X942 N0 pG_a902
  show own_Goes p e below (T942.setTop (mkF m 32 #[rv a901, iv (0 : Int32), rv a902, iv (0 : Int32), iv (3 : Int32), iv (0 : Int32), iv p907] [])) _
  refine own_via (fun t k => XS.iinc X942.here hx rfl (hb hby d6_32) rfl (l' := #[rv a901, iv (1 : Int32), rv a902, iv (0 : Int32), iv (3 : Int32), iv (0 : Int32), iv p907]) rfl (XS.iinc X942.here hx rfl (hb hby d6_35) rfl (l' := #[rv a901, iv (1 : Int32), rv a902, iv (1 : Int32), iv (3 : Int32), iv (0 : Int32), iv p907]) rfl (XS.iinc X942.here hx rfl (hb hby d6_38) rfl (l' := #[rv a901, iv (1 : Int32), rv a902, iv (1 : Int32), iv (3 : Int32), iv (1 : Int32), iv p907]) rfl (XS.goto X942.here hx rfl (pc0 := 41) (pc' := 3) rfl (hb hby d6_41) (by decide) (by decide) (XS.iload X942.here hx rfl (hb hby d6_3) rfl (XS.iload X942.here hx rfl (hb hby d6_5) rfl (XS.icmpNo X942.here hx rfl (hb hby d6_7) rfl (tlt (by decide : (1 : Int32) < (3 : Int32))).2.1 (XS.aloadN X942.here hx rfl (hb hby d6_10) rfl rfl (XS.iloadN X942.here hx rfl (hb hby d6_11) rfl k))))))))) ?_
  show own_Goes p e below (T942.setTop (mkF m 12 #[rv a901, iv (1 : Int32), rv a902, iv (1 : Int32), iv (3 : Int32), iv (1 : Int32), iv p907] [(.int (1 : Int32)), (.ref a901)])) _
  have V945 : Arv Z h942 a901 k910 .char (3 : Int32) [(.int p907), (.int p908), (.int p909)] (.int (0 : Int32)) := (pV_a901.other W942 (own_neV pV_a901 pV_a902 (by simp)))
  obtain ⟨cl946, Ar946, qq946, S946, M946, H946, G946⟩ := id (V945)
  have hin946 : ¬ ((1 : Int32) < 0 ∨ cl946.slots.size ≤ ((1 : Int32)).toNatClampNeg) := inb_of S946 ⟨by decide, by decide⟩
  refine own_via (fun t k => X942.caload hx (j := (1 : Int32)) (v := (.int p908)) (by rw [e942]; exact Ar946.1) (State.isArrayOf_alike hZ.alike Ar946.2.1) Ar946.2.2 hin946 (Has.at H946 hin946 rfl) (g := (mkF m 12 #[rv a901, iv (1 : Int32), rv a902, iv (1 : Int32), iv (3 : Int32), iv (1 : Int32), iv p907] [(.int (1 : Int32)), (.ref a901)])) rfl rfl (hb hby d6_12) t (XS.istore X942.here hx rfl (hb hby d6_13) rfl (l' := #[rv a901, iv (1 : Int32), rv a902, iv (1 : Int32), iv (3 : Int32), iv (1 : Int32), iv p908]) rfl (XS.iload X942.here hx rfl (hb hby d6_15) rfl (XS.sipush X942.here hx rfl (hb hby d6_17) (XS.icmpYes X942.here hx rfl (pc0 := 20) (pc' := 26) rfl (hb hby d6_20) rfl (flt pC930).2.2.2 (by decide) (by decide) (XS.aloadN X942.here hx rfl (hb hby d6_26) rfl rfl (XS.iloadN X942.here hx rfl (hb hby d6_27) rfl (XS.iload X942.here hx rfl (hb hby d6_28) rfl (XS.i2b X942.here hx rfl (hb hby d6_30) rfl k))))))))) ?_
  show own_Goes p e below (T942.setTop (mkF m 31 #[rv a901, iv (1 : Int32), rv a902, iv (1 : Int32), iv (3 : Int32), iv (1 : Int32), iv p908] [(.int (p908.toInt8.toInt32)), (.int (1 : Int32)), (.ref a902)])) _
  have V947 : Arv Z h942 a902 k911 .byte (3 : Int32) [(.int (p907.toInt8.toInt32)), (.int (0 : Int32))] (.int (0 : Int32)) := V943.pad (pad_rep [(.int (p907.toInt8.toInt32))] (.int (0 : Int32)) 1)
  obtain ⟨cl948, Ar948, qq948, S948, M948, H948, G948⟩ := id (V947)
  have hin948 : ¬ ((1 : Int32) < 0 ∨ cl948.slots.size ≤ ((1 : Int32)).toNatClampNeg) := inb_of S948 ⟨by decide, by decide⟩
  obtain ⟨T948, h948, X948, e948, W948, st948⟩ := stB X942 hx hZ e942 Ar948 (j := (1 : Int32)) hin948 (g := (mkF m 31 #[rv a901, iv (1 : Int32), rv a902, iv (1 : Int32), iv (3 : Int32), iv (1 : Int32), iv p908] [(.int (p908.toInt8.toInt32)), (.int (1 : Int32)), (.ref a902)])) rfl rfl (hb hby d6_31)
  refine own_via (fun t k => st948 t k) ?_
  have V949 : Arv Z h948 a902 k911 .byte (3 : Int32) [(.int (p907.toInt8.toInt32)), (.int (p908.toInt8.toInt32))] (.int (0 : Int32)) := by
    have qv := Arv.set Ar948 qq948 S948 M948 H948 G948 (fits_nar_byte _) W948 1 rfl (Nat.le_of_ble_eq_true rfl)
    first | rw [show nar .byte (p908.toInt8.toInt32) = (p908.toInt8.toInt32) from own_b2 _] at qv | rw [own_b2] at qv
    exact qv
  have Sf950 : Safe Z consts_1 _ h942 a902 := (own_safeB hZ hEE V943 (by decide))
  have C948 := C942.trans (CHr.wr W948 Sf950 C942.1)
  have N948 := Fr.snoc X948 N942 pG_a902
  show own_Goes p e below (T948.setTop (mkF m 32 #[rv a901, iv (1 : Int32), rv a902, iv (1 : Int32), iv (3 : Int32), iv (1 : Int32), iv p908] [])) _
  refine own_via (fun t k => XS.iinc X948.here hx rfl (hb hby d6_32) rfl (l' := #[rv a901, iv (2 : Int32), rv a902, iv (1 : Int32), iv (3 : Int32), iv (1 : Int32), iv p908]) rfl (XS.iinc X948.here hx rfl (hb hby d6_35) rfl (l' := #[rv a901, iv (2 : Int32), rv a902, iv (2 : Int32), iv (3 : Int32), iv (1 : Int32), iv p908]) rfl (XS.iinc X948.here hx rfl (hb hby d6_38) rfl (l' := #[rv a901, iv (2 : Int32), rv a902, iv (2 : Int32), iv (3 : Int32), iv (2 : Int32), iv p908]) rfl (XS.goto X948.here hx rfl (pc0 := 41) (pc' := 3) rfl (hb hby d6_41) (by decide) (by decide) (XS.iload X948.here hx rfl (hb hby d6_3) rfl (XS.iload X948.here hx rfl (hb hby d6_5) rfl (XS.icmpNo X948.here hx rfl (hb hby d6_7) rfl (tlt (by decide : (2 : Int32) < (3 : Int32))).2.1 (XS.aloadN X948.here hx rfl (hb hby d6_10) rfl rfl (XS.iloadN X948.here hx rfl (hb hby d6_11) rfl k))))))))) ?_
  show own_Goes p e below (T948.setTop (mkF m 12 #[rv a901, iv (2 : Int32), rv a902, iv (2 : Int32), iv (3 : Int32), iv (2 : Int32), iv p908] [(.int (2 : Int32)), (.ref a901)])) _
  have V951 : Arv Z h948 a901 k910 .char (3 : Int32) [(.int p907), (.int p908), (.int p909)] (.int (0 : Int32)) := (V945.other W948 (own_neV pV_a901 pV_a902 (by simp)))
  obtain ⟨cl952, Ar952, qq952, S952, M952, H952, G952⟩ := id (V951)
  have hin952 : ¬ ((2 : Int32) < 0 ∨ cl952.slots.size ≤ ((2 : Int32)).toNatClampNeg) := inb_of S952 ⟨by decide, by decide⟩
  refine own_via (fun t k => X948.caload hx (j := (2 : Int32)) (v := (.int p909)) (by rw [e948]; exact Ar952.1) (State.isArrayOf_alike hZ.alike Ar952.2.1) Ar952.2.2 hin952 (Has.at H952 hin952 rfl) (g := (mkF m 12 #[rv a901, iv (2 : Int32), rv a902, iv (2 : Int32), iv (3 : Int32), iv (2 : Int32), iv p908] [(.int (2 : Int32)), (.ref a901)])) rfl rfl (hb hby d6_12) t (XS.istore X948.here hx rfl (hb hby d6_13) rfl (l' := #[rv a901, iv (2 : Int32), rv a902, iv (2 : Int32), iv (3 : Int32), iv (2 : Int32), iv p909]) rfl (XS.iload X948.here hx rfl (hb hby d6_15) rfl (XS.sipush X948.here hx rfl (hb hby d6_17) (XS.icmpYes X948.here hx rfl (pc0 := 20) (pc' := 26) rfl (hb hby d6_20) rfl (flt pC935).2.2.2 (by decide) (by decide) (XS.aloadN X948.here hx rfl (hb hby d6_26) rfl rfl (XS.iloadN X948.here hx rfl (hb hby d6_27) rfl (XS.iload X948.here hx rfl (hb hby d6_28) rfl (XS.i2b X948.here hx rfl (hb hby d6_30) rfl k))))))))) ?_
  show own_Goes p e below (T948.setTop (mkF m 31 #[rv a901, iv (2 : Int32), rv a902, iv (2 : Int32), iv (3 : Int32), iv (2 : Int32), iv p909] [(.int (p909.toInt8.toInt32)), (.int (2 : Int32)), (.ref a902)])) _
  have V953 : Arv Z h948 a902 k911 .byte (3 : Int32) [(.int (p907.toInt8.toInt32)), (.int (p908.toInt8.toInt32)), (.int (0 : Int32))] (.int (0 : Int32)) := V949.pad (pad_rep [(.int (p907.toInt8.toInt32)), (.int (p908.toInt8.toInt32))] (.int (0 : Int32)) 1)
  obtain ⟨cl954, Ar954, qq954, S954, M954, H954, G954⟩ := id (V953)
  have hin954 : ¬ ((2 : Int32) < 0 ∨ cl954.slots.size ≤ ((2 : Int32)).toNatClampNeg) := inb_of S954 ⟨by decide, by decide⟩
  obtain ⟨T954, h954, X954, e954, W954, st954⟩ := stB X948 hx hZ e948 Ar954 (j := (2 : Int32)) hin954 (g := (mkF m 31 #[rv a901, iv (2 : Int32), rv a902, iv (2 : Int32), iv (3 : Int32), iv (2 : Int32), iv p909] [(.int (p909.toInt8.toInt32)), (.int (2 : Int32)), (.ref a902)])) rfl rfl (hb hby d6_31)
  refine own_via (fun t k => st954 t k) ?_
  have V955 : Arv Z h954 a902 k911 .byte (3 : Int32) [(.int (p907.toInt8.toInt32)), (.int (p908.toInt8.toInt32)), (.int (p909.toInt8.toInt32))] (.int (0 : Int32)) := by
    have qv := Arv.set Ar954 qq954 S954 M954 H954 G954 (fits_nar_byte _) W954 2 rfl (Nat.le_of_ble_eq_true rfl)
    first | rw [show nar .byte (p909.toInt8.toInt32) = (p909.toInt8.toInt32) from own_b2 _] at qv | rw [own_b2] at qv
    exact qv
  have Sf956 : Safe Z consts_1 _ h948 a902 := (own_safeB hZ hEE V949 (by decide))
  have C954 := C948.trans (CHr.wr W954 Sf956 C948.1)
  have N954 := Fr.snoc X954 N948 pG_a902
  show own_Goes p e below (T954.setTop (mkF m 32 #[rv a901, iv (2 : Int32), rv a902, iv (2 : Int32), iv (3 : Int32), iv (2 : Int32), iv p909] [])) _
  refine own_via (fun t k => XS.iinc X954.here hx rfl (hb hby d6_32) rfl (l' := #[rv a901, iv (3 : Int32), rv a902, iv (2 : Int32), iv (3 : Int32), iv (2 : Int32), iv p909]) rfl (XS.iinc X954.here hx rfl (hb hby d6_35) rfl (l' := #[rv a901, iv (3 : Int32), rv a902, iv (3 : Int32), iv (3 : Int32), iv (2 : Int32), iv p909]) rfl (XS.iinc X954.here hx rfl (hb hby d6_38) rfl (l' := #[rv a901, iv (3 : Int32), rv a902, iv (3 : Int32), iv (3 : Int32), iv (3 : Int32), iv p909]) rfl (XS.goto X954.here hx rfl (pc0 := 41) (pc' := 3) rfl (hb hby d6_41) (by decide) (by decide) (XS.iload X954.here hx rfl (hb hby d6_3) rfl (XS.iload X954.here hx rfl (hb hby d6_5) rfl (XS.icmpYes X954.here hx rfl (pc0 := 7) (pc' := 44) rfl (hb hby d6_7) rfl (flt (by decide : ¬ ((3 : Int32) < (3 : Int32)))).2.1 (by decide) (by decide) (XS.iload X954.here hx rfl (hb hby d6_44) rfl k)))))))) ?_
  show own_Goes p e below (T954.setTop (mkF m 46 #[rv a901, iv (3 : Int32), rv a902, iv (3 : Int32), iv (3 : Int32), iv (3 : Int32), iv p909] [(.int (3 : Int32))])) _
  have K957 : k0 ≤ h954.size := (Nat.le_trans (Nat.le_trans (Nat.le_trans hk0 (Nat.le_of_eq W942.size.symm)) (Nat.le_of_eq W948.size.symm)) (Nat.le_of_eq W954.size.symm))
  obtain ⟨fs, hr, hrun, hended, hRW⟩ := X954.leaveW hS (by rw [e954]; first | exact K957 | exact Nat.le_refl _) (v := some (.int (3 : Int32))) (fun h => by rw [Bd.returns] at h; cases h)
  have Cz : CHr Z consts_1 s.vm s.heap T954.vm T954.heap := own_chr (C954.trans (CHv.at X954 hZ hEE.ew C954.1)) hh e954
  refine own_end (t := T954.setFrames fs) ?_ ⟨_, hrun, hended, _, _, rfl, ?_, Cz, own_rmono hRW (by decide) (by decide)⟩
  · exact retI X954 hx Bd.returns (hb hby d6_46) hr
  · show Q13 Z a901 a902 k910 p907 p908 p909 k911 h0 n0 _ T954.heap _
    rw [e954]
    exact ⟨rfl, N954, ((((Keep.refl h0 [a902]).wr W942 (Or.inl (List.mem_of_getElem? (i := 0) rfl))).wr W948 (Or.inl (List.mem_of_getElem? (i := 0) rfl))).wr W954 (Or.inl (List.mem_of_getElem? (i := 0) rfl))), V955⟩
def Q14 (Z : State) (a858 : Addr) (k866 : ClassId) (p863 : Int32) (p864 : Int32) (p865 : Int32) (h0 : Heap) (n0 : Nat) (v : Option Value) (h : Heap) (L : List Loc) : Prop := (∃ (b896 : Addr) (k895 : ClassId), v = some (.ref b896) ∧ Fr n0 L ∧ Keep h0 h [] ∧ h0.size ≤ b896 ∧ Arv Z h b896 k895 .byte (3 : Int32) [(.int (p863.toInt8.toInt32)), (.int (p864.toInt8.toInt32)), (.int (p865.toInt8.toInt32))] (.int (0 : Int32)))
set_option maxRecDepth 65536 in
set_option maxHeartbeats 40000000 in
theorem rm14 (l : Launch) (Z : State) (a0 : Array Value) (hw : ∀ d ∈ tables_1, d.before a0 Z = true) (ws : List Jvm.Cond) (a858 : Addr) (k866 : ClassId) (p863 : Int32) (p864 : Int32) (p865 : Int32) (h0 : Heap) (n0 : Nat) (O0 : Old Z n0 h0) (pV_a858 : Arv Z h0 a858 k866 .char (3 : Int32) [(.int p863), (.int p864), (.int p865)] (.int (0 : Int32))) (pC880 : ¬ ((255 : Int32) < p863)) (pC885 : ¬ ((255 : Int32) < p864)) (pC890 : ¬ ((255 : Int32) < p865)) :
    MetFree l (⟨zs3, "compress", "([CII)[B"⟩ : MethodName) (head1 (Jvm.Cond.code (⟨zs3, "compress", "([CII)[B"⟩ : MethodName) jdk_52_method_16_code 6 (some (.array .byte)) :: ws) ({ frames := 1, cells := 1, slots := 3, locals := 18 } : Room)) (fun a U => a = #[(.ref a858), (.int (0 : Int32)), (.int (3 : Int32))] ∧ Z.Warmed39 U.vm ∧ U.heap = h0 ∧ CHv Z consts_1 U.vm h0) (fun _ _ _ _ _ => True) (fun _ U o U' => ∃ v L, o = .returned v ∧ Q14 Z a858 k866 p863 p864 p865 h0 n0 v U'.heap L ∧ CHr Z consts_1 U.vm U.heap U'.vm U'.heap ∧ ReturnedEndW U o U' L ({ frames := 1, cells := 1, slots := 3, locals := 18 } : Room).cells ({ frames := 1, cells := 1, slots := 3, locals := 18 } : Room).slots) := by
  refine MetFree.of_bodySF (plainFor_of_name pn_2) hisR ?_
  intro p e s m args below meth c s₁ Bd hml0 hP hK
  obtain ⟨rfl, hZ, hh, hC⟩ := hP
  have hx := Bd.exec
  have hby := Bd.bytes
  have hml : c.maxLocals = 6 := hml0
  have hown : s.vm.findClass zs3 = some m.cls := findClass_of_methodNamed Bd.named
  have hnm := (name_of_methodNamed Bd.named Bd.method).1
  have X0 : Stand p l e ({ frames := 1, cells := 1, slots := 3, locals := 18 } : Room) (s.setVm s.vm) m #[(.ref a858), (.int (0 : Int32)), (.int (3 : Int32))] below meth c s₁ [] 0 0 := Stand.of_body Bd
  have hS : s.Since s.vm 0 := (State.WarmedH.refl s).since 0
  obtain ⟨k0, hk0, hS⟩ : ∃ k0, k0 ≤ h0.size ∧ s.Since s.vm k0 := ⟨0, Nat.zero_le _, hS⟩
  have hZ : Z.Warmed39 (s.setVm s.vm).vm := hZ
  have hown : (s.setVm s.vm).vm.findClass zs3 = some m.cls := hown
  have C0 : CHr Z consts_1 s.vm h0 s.vm h0 := CHr.refl hC
  have hEE := own_ee hw
  have e0 : s₁.heap = h0 := by rw [← hh, Bd.state]; rfl
  have N0 := Fr.nil n0
  refine own_out ?_
  refine own_via (fun t k => castTop (ef_4 m a858 (0 : Int32) (3 : Int32)) (XS.iloadN X0.here hx rfl (hb hby d5_0) rfl k)) ?_
  obtain ⟨T895, h895, k895, X895, e895, E895, A895, st895⟩ := newP X0 hx hZ (wd hw 35 rfl) e0 (g := (mkF m 1 #[rv a858, iv (0 : Int32), iv (3 : Int32), .unset, .unset, .unset] [(.int (3 : Int32))])) rfl (hb hby d5_1) rfl (by decide) (cap := 3) (by decide) (by decide) (by decide) (by decide)
  obtain ⟨b896, q895⟩ : ∃ z, z = h0.size := ⟨_, rfl⟩
  rw [← q895] at A895 st895
  refine own_via (fun t k => st895 t k) ?_
  have C895 := C0.trans (CHr.ext E895 C0.1)
  have g897 : n0 ≤ b896 := Nat.le_trans (own_old O0) (Nat.le_of_eq q895.symm)
  have B898 : h0.size ≤ b896 := Nat.le_trans (Nat.le_refl _) (Nat.le_of_eq q895.symm)
  have V899 : Arv Z h895 b896 k895 .byte (3 : Int32) [] (.int (0 : Int32)) := Arv.new A895 (by decide)
  show own_Goes p e below (T895.setTop (mkF m 3 #[rv a858, iv (0 : Int32), iv (3 : Int32), .unset, .unset, .unset] [(.ref b896)])) _
  refine own_via (fun t k => XS.astoreN X895.here hx rfl (hb hby d5_3) rfl rfl (l' := #[rv a858, iv (0 : Int32), iv (3 : Int32), rv b896, .unset, .unset]) rfl (XS.aloadN X895.here hx rfl (hb hby d5_4) rfl rfl (XS.iloadN X895.here hx rfl (hb hby d5_5) rfl (XS.aloadN X895.here hx rfl (hb hby d5_6) rfl rfl (XS.iconst X895.here hx rfl (hb hby d5_7) (XS.iloadN X895.here hx rfl (hb hby d5_8) rfl k)))))) ?_
  show own_Goes p e below (T895.setTop (mkF m 9 #[rv a858, iv (0 : Int32), iv (3 : Int32), rv b896, .unset, .unset] [(.int (3 : Int32)), (.int (0 : Int32)), (.ref b896), (.int (0 : Int32)), (.ref a858)])) _
  have V958 : Arv Z h895 a858 k866 .char (3 : Int32) [(.int p863), (.int p864), (.int p865)] (.int (0 : Int32)) := (pV_a858.ext E895)
  have O959 : Old Z n0 h895 := (O0.ext E895)
  have K960 : k0 ≤ h895.size := (Nat.le_trans hk0 E895.1)
  obtain ⟨_, T900, _, X900, hQ900, Cr900, hS, hZ, hown, st900⟩ := own_csH X895 hx hZ hS K960 hown (wd hw 36 rfl) (wd hw 37 rfl) (wd hw 38 rfl) (wd hw 33 rfl) (by decide) hEE.ew C895.1 (rm13 l Z a0 hw [] a858 b896 k866 p863 p864 p865 k895 h895 n0 O959 V958 pC880 V899 g897 pC885 pC890) e895 (g := (mkF m 9 #[rv a858, iv (0 : Int32), iv (3 : Int32), rv b896, .unset, .unset] [(.int (3 : Int32)), (.int (0 : Int32)), (.ref b896), (.int (0 : Int32)), (.ref a858)])) rfl (by rw [hml]; rfl) (rest := []) (W := 0) (lenOf pd_3 rfl) rfl (by show 2 * 0 + _ ≤ _; exact Nat.le_of_eq rfl) (hb hby d5_9) (by decide) (by decide) (by decide) (by decide)
  obtain ⟨h900, e900⟩ : ∃ z, T900.heap = z := ⟨_, rfl⟩
  rw [e900] at hQ900 Cr900
  obtain ⟨rfl, Nq900, K900, vx961⟩ := hQ900
  have N900 := Fr.app N0 Nq900
  have C962 := C895.trans Cr900
  have hk963 : T900.heap.size ≤ h900.size := Nat.le_of_eq (congrArg Array.size e900)
  refine own_via (fun t k => st900 t (XS.istore X900.here hx rfl (hb hby d5_12) rfl (l' := #[rv a858, iv (0 : Int32), iv (3 : Int32), rv b896, iv (3 : Int32), .unset]) rfl (XS.iload X900.here hx rfl (hb hby d5_14) rfl (XS.iloadN X900.here hx rfl (hb hby d5_16) rfl (XS.icmpYes X900.here hx rfl (pc0 := 17) (pc' := 57) rfl (hb hby d5_17) rfl (teq (by decide : (3 : Int32) = (3 : Int32))).1 (by decide) (by decide) (XS.aloadN X900.here hx rfl (hb hby d5_57) rfl rfl k)))))) ?_
  show own_Goes p e below (T900.setTop (mkF m 58 #[rv a858, iv (0 : Int32), iv (3 : Int32), rv b896, iv (3 : Int32), .unset] [(.ref b896)])) _
  obtain ⟨fs, hr, hrun, hended, hRW⟩ := X900.leaveW hS (by rw [e900]; first | exact hk963 | exact Nat.le_refl _) (v := some (.ref b896)) (fun h => by rw [Bd.returns] at h; cases h)
  have Cz : CHr Z consts_1 s.vm s.heap T900.vm T900.heap := own_chr (C962.trans (CHv.at X900 hZ hEE.ew C962.1)) hh e900
  refine own_end (t := T900.setFrames fs) ?_ ⟨_, hrun, hended, _, _, rfl, ?_, Cz, own_rmono hRW (by decide) (by decide)⟩
  · jvm_step X900.here [X900.here.top, hx, (hb hby d5_58), X900.method', Bd.returns, Value.isRef, FieldType.isReference]
    first | (intro acts; rw [hr _ acts rfl rfl rfl]) | rw [hr _ _ rfl rfl rfl]
    exact Steps.refl _
  · show Q14 Z a858 k866 p863 p864 p865 h0 n0 _ T900.heap _
    rw [e900]
    exact ⟨b896, k895, rfl, N900, (((Keep.refl h0 []).ext E895).trans K900 (allS (Or.inr B898) all0)), B898, vx961⟩
def Q15 (Z : State) (a973 : Addr) (h0 : Heap) (n0 : Nat) (v : Option Value) (h : Heap) (L : List Loc) : Prop := v = some (.int (0 : Int32)) ∧ Fr n0 L ∧ h = h0
set_option maxRecDepth 65536 in
set_option maxHeartbeats 40000000 in
theorem rm15 (l : Launch) (Z : State) (a0 : Array Value) (hw : ∀ d ∈ tables_1, d.before a0 Z = true) (ws : List Jvm.Cond) (a973 : Addr) (h0 : Heap) (n0 : Nat) (O0 : Old Z n0 h0) (pL_a973 : own_Len Z h0 a973 .byte (3 : Int32)) :
    MetFree l (⟨zs3, zs10, "([BI)B"⟩ : MethodName) (head1 (Jvm.Cond.code (⟨zs3, zs10, "([BI)B"⟩ : MethodName) jdk_52_method_15_code 2 (some .byte) :: ws) ({ frames := 0, cells := 0, slots := 0, locals := 0 } : Room)) (fun a U => a = #[(.ref a973), (.int (3 : Int32))] ∧ Z.Warmed39 U.vm ∧ U.heap = h0 ∧ CHv Z consts_1 U.vm h0) (fun _ _ _ _ _ => True) (fun _ U o U' => ∃ v L, o = .returned v ∧ Q15 Z a973 h0 n0 v U'.heap L ∧ CHr Z consts_1 U.vm U.heap U'.vm U'.heap ∧ ReturnedEndW U o U' L ({ frames := 0, cells := 0, slots := 0, locals := 0 } : Room).cells ({ frames := 0, cells := 0, slots := 0, locals := 0 } : Room).slots) := by
  refine MetFree.of_bodySF (plainFor_of_name pn_2) hisR ?_
  intro p e s m args below meth c s₁ Bd hml0 hP hK
  obtain ⟨rfl, hZ, hh, hC⟩ := hP
  have hx := Bd.exec
  have hby := Bd.bytes
  have hml : c.maxLocals = 2 := hml0
  have hown : s.vm.findClass zs3 = some m.cls := findClass_of_methodNamed Bd.named
  have hnm := (name_of_methodNamed Bd.named Bd.method).1
  have X0 : Stand p l e ({ frames := 0, cells := 0, slots := 0, locals := 0 } : Room) (s.setVm s.vm) m #[(.ref a973), (.int (3 : Int32))] below meth c s₁ [] 0 0 := Stand.of_body Bd
  have hS : s.Since s.vm 0 := (State.WarmedH.refl s).since 0
  obtain ⟨k0, hk0, hS⟩ : ∃ k0, k0 ≤ h0.size ∧ s.Since s.vm k0 := ⟨0, Nat.zero_le _, hS⟩
  have hZ : Z.Warmed39 (s.setVm s.vm).vm := hZ
  have hown : (s.setVm s.vm).vm.findClass zs3 = some m.cls := hown
  have C0 : CHr Z consts_1 s.vm h0 s.vm h0 := CHr.refl hC
  have hEE := own_ee hw
  have e0 : s₁.heap = h0 := by rw [← hh, Bd.state]; rfl
  have N0 := Fr.nil n0
  refine own_out ?_
  refine own_via (fun t k => castTop (ef_5 m a973 (3 : Int32)) (XS.iloadN X0.here hx rfl (hb hby d7_0) rfl (XS.aloadN X0.here hx rfl (hb hby d7_1) rfl rfl k))) ?_
  show own_Goes p e below (s₁.setTop (mkF m 2 #[rv a973, iv (3 : Int32)] [(.ref a973), (.int (3 : Int32))])) _
  obtain ⟨_, _, _, V1012⟩ := id (pL_a973)
  obtain ⟨cl1012, Ar1012, -, S1012, M1012, -, -⟩ := id (V1012)
  refine own_via (fun t k => X0.arraylength hx (by rw [e0]; exact Ar1012.1) (State.isArrayOf_alike hZ.alike Ar1012.2.1) (g := (mkF m 2 #[rv a973, iv (3 : Int32)] [(.ref a973), (.int (3 : Int32))])) rfl rfl (hb hby d7_2) t k) ?_
  rw [len_of S1012 M1012]
  show own_Goes p e below (s₁.setTop (mkF m 3 #[rv a973, iv (3 : Int32)] [(.int (3 : Int32)), (.int (3 : Int32))])) _
  refine own_via (fun t k => XS.isub X0.here hx rfl (hb hby d7_3) rfl (XS.bipush X0.here hx rfl (hb hby d7_4) (XS.iushr X0.here hx rfl (hb hby d7_6) rfl (XS.i2b X0.here hx rfl (hb hby d7_7) rfl k)))) ?_
  show own_Goes p e below (s₁.setTop (mkF m 8 #[rv a973, iv (3 : Int32)] [(.int (0 : Int32))])) _
  obtain ⟨fs, hr, hrun, hended, hRW⟩ := X0.leaveW hS (by rw [e0]; first | exact hk0 | exact Nat.le_refl _) (v := some (.int (0 : Int32))) (fun h => by rw [Bd.returns] at h; cases h)
  have Cz : CHr Z consts_1 s.vm s.heap s₁.vm s₁.heap := own_chr (C0.trans (CHv.at X0 hZ hEE.ew C0.1)) hh e0
  refine own_end (t := s₁.setFrames fs) ?_ ⟨_, hrun, hended, _, _, rfl, ?_, Cz, own_rmono hRW (by decide) (by decide)⟩
  · exact retN X0 hx (t := .byte) Bd.returns (by simp) (hb hby d7_8) hr
  · show Q15 Z a973 h0 n0 _ s₁.heap _
    rw [e0]
    exact ⟨rfl, N0, rfl⟩
def Q16 (Z : State) (a818 : Addr) (a819 : Addr) (i48 : Int32) (k826 : ClassId) (p823 : Int32) (p824 : Int32) (p825 : Int32) (p822 : Int32) (h0 : Heap) (n0 : Nat) (v : Option Value) (h : Heap) (L : List Loc) : Prop := v = none ∧ Fr n0 L ∧ Keep h0 h [a818] ∧ Exa Z h a818 zs2
set_option maxRecDepth 65536 in
set_option maxHeartbeats 40000000 in
theorem rm16 (l : Launch) (Z : State) (a0 : Array Value) (hw : ∀ d ∈ tables_1, d.before a0 Z = true) (ws : List Jvm.Cond) (a818 : Addr) (a819 : Addr) (i48 : Int32) (k826 : ClassId) (p823 : Int32) (p824 : Int32) (p825 : Int32) (p822 : Int32) (h0 : Heap) (n0 : Nat) (O0 : Old Z n0 h0) (S_String_COMPACT_STRINGS : Sta Z Z.heap zs2 zs9 "Z" (.int i48)) (pC827 : ¬ (i48 = (0 : Int32))) (pV_a819 : Arv Z h0 a819 k826 .char (3 : Int32) [(.int p823), (.int p824), (.int p825)] (.int (0 : Int32))) (pC840 : ¬ ((255 : Int32) < p823)) (pC845 : ¬ ((255 : Int32) < p824)) (pC850 : ¬ ((255 : Int32) < p825)) (pF_a818_coder : Fld Z h0 a818 zs2 "coder" "B" (.int p822)) (pE_a818 : Exa Z h0 a818 zs2) (pG_a818 : n0 ≤ a818) (pF_a818_value : Fld Z h0 a818 zs2 "value" "[B" .null) :
    MetFree l (⟨zs2, "<init>", zs7⟩ : MethodName) (head1 (Jvm.Cond.code (⟨zs2, "<init>", zs7⟩ : MethodName) jdk_42_method_149_code 6 none :: ws) ({ frames := 2, cells := 1, slots := 3, locals := 35 } : Room)) (fun a U => a = #[(.ref a818), (.ref a819), (.int (0 : Int32)), (.int (3 : Int32)), .null] ∧ Z.Warmed39 U.vm ∧ U.heap = h0 ∧ CHv Z consts_1 U.vm h0) (fun _ _ _ _ _ => True) (fun _ U o U' => ∃ v L, o = .returned v ∧ Q16 Z a818 a819 i48 k826 p823 p824 p825 p822 h0 n0 v U'.heap L ∧ CHr Z consts_1 U.vm U.heap U'.vm U'.heap ∧ ReturnedEndW U o U' L ({ frames := 2, cells := 1, slots := 3, locals := 35 } : Room).cells ({ frames := 2, cells := 1, slots := 3, locals := 35 } : Room).slots) := by
  refine MetFree.of_bodySF (plainFor_of_name pn_1) hisR ?_
  intro p e s m args below meth c s₁ Bd hml0 hP hK
  obtain ⟨rfl, hZ, hh, hC⟩ := hP
  have hx := Bd.exec
  have hby := Bd.bytes
  have hml : c.maxLocals = 6 := hml0
  have hown : s.vm.findClass zs2 = some m.cls := findClass_of_methodNamed Bd.named
  have hnm := (name_of_methodNamed Bd.named Bd.method).1
  have X0 : Stand p l e ({ frames := 2, cells := 1, slots := 3, locals := 35 } : Room) (s.setVm s.vm) m #[(.ref a818), (.ref a819), (.int (0 : Int32)), (.int (3 : Int32)), .null] below meth c s₁ [] 0 0 := Stand.of_body Bd
  have hS : s.Since s.vm 0 := (State.WarmedH.refl s).since 0
  obtain ⟨k0, hk0, hS⟩ : ∃ k0, k0 ≤ h0.size ∧ s.Since s.vm k0 := ⟨0, Nat.zero_le _, hS⟩
  have hZ : Z.Warmed39 (s.setVm s.vm).vm := hZ
  have hown : (s.setVm s.vm).vm.findClass zs2 = some m.cls := hown
  have C0 : CHr Z consts_1 s.vm h0 s.vm h0 := CHr.refl hC
  have hEE := own_ee hw
  have e0 : s₁.heap = h0 := by rw [← hh, Bd.state]; rfl
  have N0 := Fr.nil n0
  refine own_out ?_
  refine own_via (fun t k => castTop (ef_1 m a818 a819 (0 : Int32) (3 : Int32)) (XS.aloadN X0.here hx rfl (hb hby d3_0) rfl rfl k)) ?_
  obtain ⟨T855, X855, e855, st855⟩ := initO X0 hx hZ hown (wd hw 27 rfl) (wd hw 28 rfl) (wd hw 29 rfl) e0 (g := (mkF m 1 #[rv a818, rv a819, iv (0 : Int32), iv (3 : Int32), .val .null, .unset] [(.ref a818)])) rfl (by rw [hml]; rfl) rfl (hb hby d3_1) (by decide) (W := 0) (by show 2 * 0 + _ ≤ _; exact Nat.le_of_eq rfl) (by decide)
  refine own_via (fun t k => st855 t (XS.iloadN X855.here hx rfl (hb hby d3_4) rfl (XS.ifYes X855.here hx rfl (pc0 := 5) (pc' := 27) rfl (hb hby d3_5) rfl ((if0 _ _).trans (feq (by decide : ¬ ((3 : Int32) = (0 : Int32)))).2) (by decide) (by decide) k))) ?_
  show own_Goes p e below (T855.setTop (mkF m 27 #[rv a818, rv a819, iv (0 : Int32), iv (3 : Int32), .val .null, .unset] [])) _
  obtain ⟨T856, X856, e856, st856⟩ := getS2 X855 hx hZ hown (host := "") (Or.inl (wd hw 30 rfl)) Via.refl e855 (S_String_COMPACT_STRINGS.ext O0.2) (g := (mkF m 27 #[rv a818, rv a819, iv (0 : Int32), iv (3 : Int32), .val .null, .unset] [])) rfl (hb hby d3_27)
  refine own_via (fun t k => st856 t (XS.ifNo X856.here hx rfl (hb hby d3_30) rfl ((if0 _ _).trans (feq pC827).1) (XS.aloadN X856.here hx rfl (hb hby d3_33) rfl rfl (XS.iloadN X856.here hx rfl (hb hby d3_34) rfl (XS.iloadN X856.here hx rfl (hb hby d3_35) rfl k))))) ?_
  show own_Goes p e below (T856.setTop (mkF m 36 #[rv a818, rv a819, iv (0 : Int32), iv (3 : Int32), .val .null, .unset] [(.int (3 : Int32)), (.int (0 : Int32)), (.ref a819)])) _
  obtain ⟨_, T857, _, X857, hQ857, Cr857, hS, hZ, hown, st857⟩ := own_csH X856 hx hZ hS hk0 hown (wd hw 31 rfl) (wd hw 32 rfl) (wd hw 34 rfl) (wd hw 33 rfl) (by decide) hEE.ew C0.1 (rm14 l Z a0 hw [] a819 k826 p823 p824 p825 h0 n0 O0 pV_a819 pC840 pC845 pC850) e856 (g := (mkF m 36 #[rv a818, rv a819, iv (0 : Int32), iv (3 : Int32), .val .null, .unset] [(.int (3 : Int32)), (.int (0 : Int32)), (.ref a819)])) rfl (by rw [hml]; rfl) (rest := []) (W := 0) (lenOf pd_4 rfl) rfl (by show 2 * 0 + _ ≤ _; exact Nat.le_of_eq rfl) (hb hby d3_36) (by decide) (by decide) (by decide) (by decide)
  obtain ⟨h857, e857⟩ : ∃ z, T857.heap = z := ⟨_, rfl⟩
  rw [e857] at hQ857 Cr857
  obtain ⟨b964, k965, rfl, Nq857, K857, bx966, vx967⟩ := hQ857
  have N857 := Fr.app N0 Nq857
  have C968 := C0.trans Cr857
  have g969 : n0 ≤ b964 := Nat.le_trans (own_old O0) bx966
  have B970 : h0.size ≤ b964 := Nat.le_trans (Nat.le_refl _) bx966
  have hk971 : T857.heap.size ≤ h857.size := Nat.le_of_eq (congrArg Array.size e857)
  refine own_via (fun t k => st857 t (XS.astore X857.here hx rfl (hb hby d3_39) rfl rfl (l' := #[rv a818, rv a819, iv (0 : Int32), iv (3 : Int32), .val .null, rv b964]) rfl (XS.aloadN X857.here hx rfl (hb hby d3_41) rfl rfl (XS.aload X857.here hx rfl (hb hby d3_42) rfl rfl (XS.iloadN X857.here hx rfl (hb hby d3_44) rfl k))))) ?_
  show own_Goes p e below (T857.setTop (mkF m 45 #[rv a818, rv a819, iv (0 : Int32), iv (3 : Int32), .val .null, rv b964] [(.int (3 : Int32)), (.ref b964), (.ref a818)])) _
  have l1013 : own_Len Z h857 b964 .byte (3 : Int32) := ⟨_, _, _, vx967⟩
  have O1014 : Old Z n0 h857 := (O0.keep K857 all0)
  obtain ⟨_, T972, _, X972, hQ972, Cr972, hS, hZ, hown, st972⟩ := own_csH X857 hx hZ hS hk971 hown (wd hw 39 rfl) (wd hw 40 rfl) (wd hw 41 rfl) (wd hw 33 rfl) (by decide) hEE.ew C968.1 (rm15 l Z a0 hw [] b964 h857 n0 O1014 l1013) e857 (g := (mkF m 45 #[rv a818, rv a819, iv (0 : Int32), iv (3 : Int32), .val .null, rv b964] [(.int (3 : Int32)), (.ref b964), (.ref a818)])) rfl (by rw [hml]; rfl) (rest := [(.ref a818)]) (W := 1) (lenOf pd_5 rfl) rfl (by show 2 * 0 + _ ≤ _; exact Nat.le_of_eq rfl) (hb hby d3_45) (by decide) (by decide) (by decide) (by decide)
  obtain ⟨rfl, Nq972, hh1015⟩ := hQ972
  have N972 := Fr.app N857 Nq972
  rw [hh1015] at Cr972
  have C1016 := C968.trans Cr972
  have hk1017 : T972.heap.size ≤ h857.size := Nat.le_of_eq (congrArg Array.size hh1015)
  refine own_via (fun t k => st972 t k) ?_
  have F1018 : Fld Z h857 a818 zs2 "coder" "B" (.int p822) := (pF_a818_coder.keep K857 nin0)
  have E1019 : Exa Z h857 a818 zs2 := (pE_a818.keep K857)
  obtain ⟨T1020, h1020, X1020, e1020, W1020, st1020⟩ := putFN X972 hx hZ hown (wd hw 42 rfl) Via.refl hh1015 F1018 E1019 (Or.inr ⟨(wd hw 43 rfl), rfl, hnm⟩) (wd hw 17 rfl) (ty := .byte) (v' := (.int (0 : Int32))) (by decide) rfl (by decide) (g := (mkF m 48 #[rv a818, rv a819, iv (0 : Int32), iv (3 : Int32), .val .null, rv b964] [(.int (0 : Int32)), (.ref a818)])) rfl rfl (hb hby d3_48)
  refine own_via (fun t k => st1020 t k) ?_
  have Fw1020 : Fld Z h1020 a818 zs2 "coder" "B" (.int (0 : Int32)) := F1018.same W1020
  have F1021 : Fld Z h857 a818 zs2 "value" "[B" .null := (pF_a818_value.keep K857 nin0)
  have Sf1022 : Safe Z consts_1 _ h857 a818 := (own_safeS hZ.alike E1019 F1021)
  have C1020 := C1016.trans (CHr.wr W1020 Sf1022 C1016.1)
  have Sa1023 := Safe.wr W1020 Sf1022 C1016.1 Sf1022
  have N1020 := Fr.snoc X1020 N972 pG_a818
  show own_Goes p e below (T1020.setTop (mkF m 51 #[rv a818, rv a819, iv (0 : Int32), iv (3 : Int32), .val .null, rv b964] [])) _
  refine own_via (fun t k => XS.aloadN X1020.here hx rfl (hb hby d3_51) rfl rfl (XS.aload X1020.here hx rfl (hb hby d3_52) rfl rfl k)) ?_
  have F1024 : Fld Z h1020 a818 zs2 "value" "[B" .null := (F1021.other W1020 (Or.inr (slot_ne (Or.inr (wd hw 45 rfl)) (Or.inr (wd hw 43 rfl)) (by decide) (t := (.array .byte)) (t' := .byte) (by decide) (by decide))))
  have E1025 : Exa Z h1020 a818 zs2 := (E1019.wr W1020)
  obtain ⟨T1026, h1026, X1026, e1026, W1026, st1026⟩ := putF X1020 hx hZ hown (host := "") (Or.inl (wd hw 44 rfl)) Via.refl e1020 F1024 E1025 (Or.inr ⟨(wd hw 45 rfl), rfl, hnm⟩) (wd hw 17 rfl) (ty := (.array .byte)) (by decide) rfl rfl (g := (mkF m 54 #[rv a818, rv a819, iv (0 : Int32), iv (3 : Int32), .val .null, rv b964] [(.ref b964), (.ref a818)])) rfl rfl (hb hby d3_54)
  refine own_via (fun t k => st1026 t k) ?_
  have Fw1026 : Fld Z h1026 a818 zs2 "value" "[B" (.ref b964) := F1024.same W1026
  have Sf1027 : Safe Z consts_1 _ h1020 a818 := Sa1023
  have C1026 := C1020.trans (CHr.wr W1026 Sf1027 C1020.1)
  have Sa1028 := Safe.wr W1026 Sf1027 C1020.1 Sa1023
  have N1026 := Fr.snoc X1026 N1020 pG_a818
  show own_Goes p e below (T1026.setTop (mkF m 57 #[rv a818, rv a819, iv (0 : Int32), iv (3 : Int32), .val .null, rv b964] [])) _
  have K1029 : T972.heap.size ≤ h1026.size := (Nat.le_trans (Nat.le_trans hk1017 (Nat.le_of_eq W1020.size.symm)) (Nat.le_of_eq W1026.size.symm))
  obtain ⟨fs, hr, hrun, hended, hRW⟩ := X1026.leaveW hS (by rw [e1026]; first | exact K1029 | exact Nat.le_refl _) (v := none) (fun _ => rfl)
  have Cz : CHr Z consts_1 s.vm s.heap T1026.vm T1026.heap := own_chr (C1026.trans (CHv.at X1026 hZ hEE.ew C1026.1)) hh e1026
  refine own_end (t := T1026.setFrames fs) ?_ ⟨_, hrun, hended, _, _, rfl, ?_, Cz, own_rmono hRW (by decide) (by decide)⟩
  · exact X1026.returnOut hx Bd.returns (hb hby d3_57) hr
  have E1030 : Exa Z h1026 a818 zs2 := (E1025.wr W1026)
  · show Q16 Z a818 a819 i48 k826 p823 p824 p825 p822 h0 n0 _ T1026.heap _
    rw [e1026]
    exact ⟨rfl, N1026, ((((Keep.refl h0 [a818]).trans K857 all0).wr W1020 (Or.inl (List.mem_of_getElem? (i := 0) rfl))).wr W1026 (Or.inl (List.mem_of_getElem? (i := 0) rfl))), E1030⟩
def Q17 (Z : State) (a779 : Addr) (a780 : Addr) (i48 : Int32) (k787 : ClassId) (p784 : Int32) (p785 : Int32) (p786 : Int32) (p783 : Int32) (h0 : Heap) (n0 : Nat) (v : Option Value) (h : Heap) (L : List Loc) : Prop := v = none ∧ Fr n0 L ∧ Keep h0 h [a779] ∧ Exa Z h a779 zs2
set_option maxRecDepth 65536 in
set_option maxHeartbeats 40000000 in
theorem rm17 (l : Launch) (Z : State) (a0 : Array Value) (hw : ∀ d ∈ tables_1, d.before a0 Z = true) (ws : List Jvm.Cond) (a779 : Addr) (a780 : Addr) (i48 : Int32) (k787 : ClassId) (p784 : Int32) (p785 : Int32) (p786 : Int32) (p783 : Int32) (h0 : Heap) (n0 : Nat) (O0 : Old Z n0 h0) (pL_a780 : own_Len Z h0 a780 .char (3 : Int32)) (S_String_COMPACT_STRINGS : Sta Z Z.heap zs2 zs9 "Z" (.int i48)) (pC788 : ¬ (i48 = (0 : Int32))) (pV_a780 : Arv Z h0 a780 k787 .char (3 : Int32) [(.int p784), (.int p785), (.int p786)] (.int (0 : Int32))) (pC801 : ¬ ((255 : Int32) < p784)) (pC806 : ¬ ((255 : Int32) < p785)) (pC811 : ¬ ((255 : Int32) < p786)) (pF_a779_coder : Fld Z h0 a779 zs2 "coder" "B" (.int p783)) (pE_a779 : Exa Z h0 a779 zs2) (pG_a779 : n0 ≤ a779) (pF_a779_value : Fld Z h0 a779 zs2 "value" "[B" .null) :
    MetFree l (⟨zs2, "<init>", "([C)V"⟩ : MethodName) (head1 (Jvm.Cond.code (⟨zs2, "<init>", "([C)V"⟩ : MethodName) jdk_42_method_3_code 2 none :: ws) ({ frames := 3, cells := 1, slots := 3, locals := 52 } : Room)) (fun a U => a = #[(.ref a779), (.ref a780)] ∧ Z.Warmed39 U.vm ∧ U.heap = h0 ∧ CHv Z consts_1 U.vm h0) (fun _ _ _ _ _ => True) (fun _ U o U' => ∃ v L, o = .returned v ∧ Q17 Z a779 a780 i48 k787 p784 p785 p786 p783 h0 n0 v U'.heap L ∧ CHr Z consts_1 U.vm U.heap U'.vm U'.heap ∧ ReturnedEndW U o U' L ({ frames := 3, cells := 1, slots := 3, locals := 52 } : Room).cells ({ frames := 3, cells := 1, slots := 3, locals := 52 } : Room).slots) := by
  refine MetFree.of_bodySF (plainFor_of_name pn_1) hisR ?_
  intro p e s m args below meth c s₁ Bd hml0 hP hK
  obtain ⟨rfl, hZ, hh, hC⟩ := hP
  have hx := Bd.exec
  have hby := Bd.bytes
  have hml : c.maxLocals = 2 := hml0
  have hown : s.vm.findClass zs2 = some m.cls := findClass_of_methodNamed Bd.named
  have hnm := (name_of_methodNamed Bd.named Bd.method).1
  have X0 : Stand p l e ({ frames := 3, cells := 1, slots := 3, locals := 52 } : Room) (s.setVm s.vm) m #[(.ref a779), (.ref a780)] below meth c s₁ [] 0 0 := Stand.of_body Bd
  have hS : s.Since s.vm 0 := (State.WarmedH.refl s).since 0
  obtain ⟨k0, hk0, hS⟩ : ∃ k0, k0 ≤ h0.size ∧ s.Since s.vm k0 := ⟨0, Nat.zero_le _, hS⟩
  have hZ : Z.Warmed39 (s.setVm s.vm).vm := hZ
  have hown : (s.setVm s.vm).vm.findClass zs2 = some m.cls := hown
  have C0 : CHr Z consts_1 s.vm h0 s.vm h0 := CHr.refl hC
  have hEE := own_ee hw
  have e0 : s₁.heap = h0 := by rw [← hh, Bd.state]; rfl
  have N0 := Fr.nil n0
  refine own_out ?_
  refine own_via (fun t k => castTop (ef_2 m a779 a780) (XS.aloadN X0.here hx rfl (hb hby d2_0) rfl rfl (XS.aloadN X0.here hx rfl (hb hby d2_1) rfl rfl (XS.iconst X0.here hx rfl (hb hby d2_2) (XS.aloadN X0.here hx rfl (hb hby d2_3) rfl rfl k))))) ?_
  show own_Goes p e below (s₁.setTop (mkF m 4 #[rv a779, rv a780] [(.ref a780), (.int (0 : Int32)), (.ref a780), (.ref a779)])) _
  obtain ⟨_, _, _, V816⟩ := id (pL_a780)
  obtain ⟨cl816, Ar816, -, S816, M816, -, -⟩ := id (V816)
  refine own_via (fun t k => X0.arraylength hx (by rw [e0]; exact Ar816.1) (State.isArrayOf_alike hZ.alike Ar816.2.1) (g := (mkF m 4 #[rv a779, rv a780] [(.ref a780), (.int (0 : Int32)), (.ref a780), (.ref a779)])) rfl rfl (hb hby d2_4) t k) ?_
  rw [len_of S816 M816]
  show own_Goes p e below (s₁.setTop (mkF m 5 #[rv a779, rv a780] [(.int (3 : Int32)), (.int (0 : Int32)), (.ref a780), (.ref a779)])) _
  refine own_via (fun t k => XS.aconstNull X0.here hx rfl (hb hby d2_5) k) ?_
  obtain ⟨_, T817, _, X817, hQ817, Cr817, hS, hZ, hown, st817⟩ := own_ciH X0 hx hZ hS hk0 hown (wd hw 23 rfl) (wd hw 24 rfl) (wd hw 26 rfl) (wd hw 18 rfl) rfl (by decide) hEE.ew C0.1 (rm16 l Z a0 hw [] a779 a780 i48 k787 p784 p785 p786 p783 h0 n0 O0 S_String_COMPACT_STRINGS pC788 pV_a780 pC801 pC806 pC811 pF_a779_coder pE_a779 pG_a779 pF_a779_value) e0 (g := (mkF m 6 #[rv a779, rv a780] [.null, (.int (3 : Int32)), (.int (0 : Int32)), (.ref a780), (.ref a779)])) rfl (by rw [hml]; rfl) (rest := []) (W := 0) (lenOf pd_1 rfl) rfl (by show 2 * 0 + _ ≤ _; exact Nat.le_of_eq rfl) (hb hby d2_6) (by decide) (by decide) (by decide) (by decide)
  obtain ⟨h817, e817⟩ : ∃ z, T817.heap = z := ⟨_, rfl⟩
  rw [e817] at hQ817 Cr817
  obtain ⟨rfl, Nq817, K817, ex1031⟩ := hQ817
  have N817 := Fr.app N0 Nq817
  have C1032 := C0.trans Cr817
  have hk1033 : T817.heap.size ≤ h817.size := Nat.le_of_eq (congrArg Array.size e817)
  refine own_via (fun t k => st817 t k) ?_
  obtain ⟨fs, hr, hrun, hended, hRW⟩ := X817.leaveW hS (by rw [e817]; first | exact hk1033 | exact Nat.le_refl _) (v := none) (fun _ => rfl)
  have Cz : CHr Z consts_1 s.vm s.heap T817.vm T817.heap := own_chr (C1032.trans (CHv.at X817 hZ hEE.ew C1032.1)) hh e817
  refine own_end (t := T817.setFrames fs) ?_ ⟨_, hrun, hended, _, _, rfl, ?_, Cz, own_rmono hRW (by decide) (by decide)⟩
  · exact X817.returnOut hx Bd.returns (hb hby d2_9) hr
  · show Q17 Z a779 a780 i48 k787 p784 p785 p786 p783 h0 n0 _ T817.heap _
    rw [e817]
    exact ⟨rfl, N817, ((Keep.refl h0 [a779]).trans K817 (allS (Or.inl (List.mem_of_getElem? (i := 0) rfl)) all0)), ex1031⟩
theorem d1_111 : decode method_3_code 111 = .ok (.areturn, 1) := by decide +kernel
theorem ef_6 (m : MethodId) (x0 : Int32) (x1 : Int32) (x2 : Int32) (x3 : Int32) : entryFrame m #[(.int x0), (.int x1), (.int x2), (.int x3)] 7 = mkF m 0 #[iv x0, iv x1, iv x2, iv x3, .unset, .unset, .unset] [] := by first | (simp [entryFrame, mkF, argsToLocals, Value.category]; done) | rfl
theorem pn_3 : plainName "com/example/ledgerd/ledgerd/core/DocumentTypeNumberSeriesPinLaw" = true := by first | (simp [plainName, overriddenIn]; done) | decide +kernel
def Q18 (Z : State) (p83 : Int32) (p84 : Int32) (p85 : Int32) (p86 : Int32) (i48 : Int32) (h0 : Heap) (n0 : Nat) (v : Option Value) (h : Heap) (L : List Loc) : Prop := ((∃ (b100 : Addr), p83 = (0 : Int32) ∧ v = some (.ref b100) ∧ Fr n0 L ∧ Keep h0 h [] ∧ h0.size ≤ b100 ∧ Exa Z h b100 zs2)) ∨ ((∃ (b220 : Addr), ¬ (p83 = (0 : Int32)) ∧ p83 = (1 : Int32) ∧ v = some (.ref b220) ∧ Fr n0 L ∧ Keep h0 h [] ∧ h0.size ≤ b220 ∧ Exa Z h b220 zs2)) ∨ ((∃ (b477 : Addr), ¬ (p83 = (0 : Int32)) ∧ ¬ (p83 = (1 : Int32)) ∧ p83 = (2 : Int32) ∧ v = some (.ref b477) ∧ Fr n0 L ∧ Keep h0 h [] ∧ h0.size ≤ b477 ∧ Exa Z h b477 zs2)) ∨ ((∃ (b753 : Addr), ¬ (p83 = (0 : Int32)) ∧ ¬ (p83 = (1 : Int32)) ∧ ¬ (p83 = (2 : Int32)) ∧ v = some (.ref b753) ∧ Fr n0 L ∧ Keep h0 h [] ∧ h0.size ≤ b753 ∧ Exa Z h b753 zs2))
set_option maxRecDepth 65536 in
set_option maxHeartbeats 40000000 in
theorem rm18 (l : Launch) (Z : State) (a0 : Array Value) (hw : ∀ d ∈ tables_1, d.before a0 Z = true) (ws : List Jvm.Cond) (p83 : Int32) (p84 : Int32) (p85 : Int32) (p86 : Int32) (i48 : Int32) (h0 : Heap) (n0 : Nat) (O0 : Old Z n0 h0) (S_String_COMPACT_STRINGS : Sta Z Z.heap zs2 zs9 "Z" (.int i48)) (pC89 : ¬ (i48 = (0 : Int32))) :
    MetFree l (⟨zs5, "drawn", "(IIII)Ljava/lang/String;"⟩ : MethodName) (head1 (Jvm.Cond.code (⟨zs5, "drawn", "(IIII)Ljava/lang/String;"⟩ : MethodName) method_3_code 7 (some (.object zs2)) :: ws) ({ frames := 4, cells := 6, slots := 12, locals := 66 } : Room)) (fun a U => a = #[(.int p83), (.int p84), (.int p85), (.int p86)] ∧ Z.Warmed39 U.vm ∧ U.heap = h0 ∧ CHv Z consts_1 U.vm h0) (fun _ _ _ _ _ => True) (fun _ U o U' => ∃ v L, o = .returned v ∧ Q18 Z p83 p84 p85 p86 i48 h0 n0 v U'.heap L ∧ CHr Z consts_1 U.vm U.heap U'.vm U'.heap ∧ ReturnedEndW U o U' L ({ frames := 4, cells := 6, slots := 12, locals := 66 } : Room).cells ({ frames := 4, cells := 6, slots := 12, locals := 66 } : Room).slots) := by
  refine MetFree.of_bodySF (plainFor_of_name pn_3) hisR ?_
  intro p e s m args below meth c s₁ Bd hml0 hP hK
  obtain ⟨rfl, hZ, hh, hC⟩ := hP
  have hx := Bd.exec
  have hby := Bd.bytes
  have hml : c.maxLocals = 7 := hml0
  have hown : s.vm.findClass zs5 = some m.cls := findClass_of_methodNamed Bd.named
  have hnm := (name_of_methodNamed Bd.named Bd.method).1
  have X0 : Stand p l e ({ frames := 4, cells := 6, slots := 12, locals := 66 } : Room) (s.setVm s.vm) m #[(.int p83), (.int p84), (.int p85), (.int p86)] below meth c s₁ [] 0 0 := Stand.of_body Bd
  have hS : s.Since s.vm 0 := (State.WarmedH.refl s).since 0
  obtain ⟨k0, hk0, hS⟩ : ∃ k0, k0 ≤ h0.size ∧ s.Since s.vm k0 := ⟨0, Nat.zero_le _, hS⟩
  have hZ : Z.Warmed39 (s.setVm s.vm).vm := hZ
  have hown : (s.setVm s.vm).vm.findClass zs5 = some m.cls := hown
  have C0 : CHr Z consts_1 s.vm h0 s.vm h0 := CHr.refl hC
  have hEE := own_ee hw
  have e0 : s₁.heap = h0 := by rw [← hh, Bd.state]; rfl
  have N0 := Fr.nil n0
  refine own_out ?_
  refine own_via (fun t k => castTop (ef_6 m p83 p84 p85 p86) (XS.iloadN X0.here hx rfl (hb hby d1_0) rfl (XS.sipush X0.here hx rfl (hb hby d1_1) (XS.iand X0.here hx rfl (hb hby d1_4) rfl (XS.i2c X0.here hx rfl (hb hby d1_5) rfl (XS.istore X0.here hx rfl (hb hby d1_6) rfl (l' := #[iv p83, iv p84, iv p85, iv p86, iv ((p84 &&& (255 : Int32)).toUInt32.toUInt16.toUInt32.toInt32), .unset, .unset]) rfl (XS.iloadN X0.here hx rfl (hb hby d1_8) rfl (XS.sipush X0.here hx rfl (hb hby d1_9) (XS.iand X0.here hx rfl (hb hby d1_12) rfl (XS.i2c X0.here hx rfl (hb hby d1_13) rfl (XS.istore X0.here hx rfl (hb hby d1_14) rfl (l' := #[iv p83, iv p84, iv p85, iv p86, iv ((p84 &&& (255 : Int32)).toUInt32.toUInt16.toUInt32.toInt32), iv ((p85 &&& (255 : Int32)).toUInt32.toUInt16.toUInt32.toInt32), .unset]) rfl (XS.iloadN X0.here hx rfl (hb hby d1_16) rfl k)))))))))))) ?_
  show own_Goes p e below (s₁.setTop (mkF m 17 #[iv p83, iv p84, iv p85, iv p86, iv ((p84 &&& (255 : Int32)).toUInt32.toUInt16.toUInt32.toInt32), iv ((p85 &&& (255 : Int32)).toUInt32.toUInt16.toUInt32.toInt32), .unset] [(.int p86)])) _
  refine own_via (fun t k => XS.sipush X0.here hx rfl (hb hby d1_17) (XS.iand X0.here hx rfl (hb hby d1_20) rfl (XS.i2c X0.here hx rfl (hb hby d1_21) rfl (XS.istore X0.here hx rfl (hb hby d1_22) rfl (l' := #[iv p83, iv p84, iv p85, iv p86, iv ((p84 &&& (255 : Int32)).toUInt32.toUInt16.toUInt32.toInt32), iv ((p85 &&& (255 : Int32)).toUInt32.toUInt16.toUInt32.toInt32), iv ((p86 &&& (255 : Int32)).toUInt32.toUInt16.toUInt32.toInt32)]) rfl (XS.iloadN X0.here hx rfl (hb hby d1_24) rfl k))))) ?_
  show own_Goes p e below (s₁.setTop (mkF m 25 #[iv p83, iv p84, iv p85, iv p86, iv ((p84 &&& (255 : Int32)).toUInt32.toUInt16.toUInt32.toInt32), iv ((p85 &&& (255 : Int32)).toUInt32.toUInt16.toUInt32.toInt32), iv ((p86 &&& (255 : Int32)).toUInt32.toUInt16.toUInt32.toInt32)] [(.int p83)])) _
  by_cases hc98 : p83 = (0 : Int32)
  · refine own_via (fun t k => XS.ifNo X0.here hx rfl (hb hby d1_25) rfl ((if0 _ _).trans (teq hc98).2) k) ?_
    obtain ⟨T99, h99, X99, e99, E99, A99, D99, -, st99⟩ := newO X0 hx hZ hown (wd hw 16 rfl) (wd hw 17 rfl) (wd hw 18 rfl) e0 (g := (mkF m 28 #[iv p83, iv p84, iv p85, iv p86, iv ((p84 &&& (255 : Int32)).toUInt32.toUInt16.toUInt32.toInt32), iv ((p85 &&& (255 : Int32)).toUInt32.toUInt16.toUInt32.toInt32), iv ((p86 &&& (255 : Int32)).toUInt32.toUInt16.toUInt32.toInt32)] [])) rfl (hb hby d1_28) (by decide) (by decide)
    obtain ⟨b100, q99⟩ : ∃ z, z = h0.size := ⟨_, rfl⟩
    rw [← q99] at A99 D99 st99
    refine own_via (fun t k => st99 t k) ?_
    have C99 := C0.trans (CHr.ext E99 C0.1)
    have g101 : n0 ≤ b100 := Nat.le_trans (own_old O0) (Nat.le_of_eq q99.symm)
    have B102 : h0.size ≤ b100 := Nat.le_trans (Nat.le_refl _) (Nat.le_of_eq q99.symm)
    have F103 : Fld Z h99 b100 zs2 "coder" "B" (.int (0 : Int32)) := D99 (Or.inr (wd hw 43 rfl)) (ty := .byte) (by decide)
    have F104 : Fld Z h99 b100 zs2 "value" "[B" .null := D99 (Or.inr (wd hw 45 rfl)) (ty := (.array .byte)) (by decide)
    show own_Goes p e below (T99.setTop (mkF m 31 #[iv p83, iv p84, iv p85, iv p86, iv ((p84 &&& (255 : Int32)).toUInt32.toUInt16.toUInt32.toInt32), iv ((p85 &&& (255 : Int32)).toUInt32.toUInt16.toUInt32.toInt32), iv ((p86 &&& (255 : Int32)).toUInt32.toUInt16.toUInt32.toInt32)] [(.ref b100)])) _
    refine own_via (fun t k => XS.dup X99.here hx rfl (hb hby d1_31) rfl rfl (XS.iconst X99.here hx rfl (hb hby d1_32) k)) ?_
    obtain ⟨T105, h105, k105, X105, e105, E105, A105, st105⟩ := newP X99 hx hZ (wd hw 19 rfl) e99 (g := (mkF m 33 #[iv p83, iv p84, iv p85, iv p86, iv ((p84 &&& (255 : Int32)).toUInt32.toUInt16.toUInt32.toInt32), iv ((p85 &&& (255 : Int32)).toUInt32.toUInt16.toUInt32.toInt32), iv ((p86 &&& (255 : Int32)).toUInt32.toUInt16.toUInt32.toInt32)] [(.int (0 : Int32)), (.ref b100), (.ref b100)])) rfl (hb hby d1_33) rfl (by decide) (cap := 0) (by decide) (by decide) (by decide) (by decide)
    obtain ⟨b106, q105⟩ : ∃ z, z = h99.size := ⟨_, rfl⟩
    rw [← q105] at A105 st105
    refine own_via (fun t k => st105 t k) ?_
    have C105 := C99.trans (CHr.ext E105 C99.1)
    have N107 : b100 ≠ b106 := Nat.ne_of_lt (Nat.lt_of_lt_of_le A99.lt (Nat.le_of_eq q105.symm))
    have O109 : Old Z n0 h99 := (O0.ext E99)
    have g108 : n0 ≤ b106 := Nat.le_trans (own_old O109) (Nat.le_of_eq q105.symm)
    have Z111 : h0.size ≤ h99.size := (Nat.le_trans (Nat.le_refl _) E99.1)
    have B110 : h0.size ≤ b106 := Nat.le_trans Z111 (Nat.le_of_eq q105.symm)
    have V112 : Arv Z h105 b106 k105 .char (0 : Int32) [] (.int (0 : Int32)) := Arv.new A105 (by decide)
    show own_Goes p e below (T105.setTop (mkF m 35 #[iv p83, iv p84, iv p85, iv p86, iv ((p84 &&& (255 : Int32)).toUInt32.toUInt16.toUInt32.toInt32), iv ((p85 &&& (255 : Int32)).toUInt32.toUInt16.toUInt32.toInt32), iv ((p86 &&& (255 : Int32)).toUInt32.toUInt16.toUInt32.toInt32)] [(.ref b106), (.ref b100), (.ref b100)])) _
    have l209 : own_Len Z h105 b106 .char (0 : Int32) := ⟨_, _, _, V112⟩
    have F210 : Fld Z h105 b100 zs2 "value" "[B" .null := (F104.ext E105)
    have E211 : Exa Z h105 b100 zs2 := (A99.ext E105)
    have F212 : Fld Z h105 b100 zs2 "coder" "B" (.int (0 : Int32)) := (F103.ext E105)
    have O213 : Old Z n0 h105 := (O109.ext E105)
    have K214 : k0 ≤ h105.size := (Nat.le_trans (Nat.le_trans hk0 E99.1) E105.1)
    obtain ⟨_, T113, _, X113, hQ113, Cr113, hS, hZ, hown, st113⟩ := own_ciH X105 hx hZ hS K214 hown (wd hw 20 rfl) (wd hw 21 rfl) (wd hw 22 rfl) (wd hw 18 rfl) rfl (by decide) hEE.ew C105.1 (rm2 l Z a0 hw [] b100 b106 (0 : Int32) h105 n0 O213 l209 F210 E211 g101 F212) e105 (g := (mkF m 35 #[iv p83, iv p84, iv p85, iv p86, iv ((p84 &&& (255 : Int32)).toUInt32.toUInt16.toUInt32.toInt32), iv ((p85 &&& (255 : Int32)).toUInt32.toUInt16.toUInt32.toInt32), iv ((p86 &&& (255 : Int32)).toUInt32.toUInt16.toUInt32.toInt32)] [(.ref b106), (.ref b100), (.ref b100)])) rfl (by rw [hml]; rfl) (rest := [(.ref b100)]) (W := 1) (lenOf pd_2 rfl) rfl (by show 2 * 0 + _ ≤ _; exact Nat.le_of_eq rfl) (hb hby d1_35) (by decide) (by decide) (by decide) (by decide)
    obtain ⟨h113, e113⟩ : ∃ z, T113.heap = z := ⟨_, rfl⟩
    rw [e113] at hQ113 Cr113
    obtain ⟨rfl, Nq113, K113, ex215⟩ := hQ113
    have N113 := Fr.app N0 Nq113
    have C216 := C105.trans Cr113
    have hk217 : T113.heap.size ≤ h113.size := Nat.le_of_eq (congrArg Array.size e113)
    refine own_via (fun t k => st113 t k) ?_
    obtain ⟨fs, hr, hrun, hended, hRW⟩ := X113.leaveW hS (by rw [e113]; first | exact hk217 | exact Nat.le_refl _) (v := some (.ref b100)) (fun h => by rw [Bd.returns] at h; cases h)
    have Cz : CHr Z consts_1 s.vm s.heap T113.vm T113.heap := own_chr (C216.trans (CHv.at X113 hZ hEE.ew C216.1)) hh e113
    refine own_end (t := T113.setFrames fs) ?_ ⟨_, hrun, hended, _, _, rfl, ?_, Cz, own_rmono hRW (by decide) (by decide)⟩
    · jvm_step X113.here [X113.here.top, hx, (hb hby d1_38), X113.method', Bd.returns, Value.isRef, FieldType.isReference]
      first | (intro acts; rw [hr _ acts rfl rfl rfl]) | rw [hr _ _ rfl rfl rfl]
      exact Steps.refl _
    · show Q18 Z p83 p84 p85 p86 i48 h0 n0 _ T113.heap _
      rw [e113]
      exact Or.inl <| ⟨b100, hc98, rfl, N113, ((((Keep.refl h0 []).ext E99).ext E105).trans K113 (allS (Or.inr B102) all0)), B102, ex215⟩
  · refine own_via (fun t k => XS.ifYes X0.here hx rfl (pc0 := 25) (pc' := 39) rfl (hb hby d1_25) rfl ((if0 _ _).trans (feq hc98).2) (by decide) (by decide) (XS.iloadN X0.here hx rfl (hb hby d1_39) rfl (XS.iconst X0.here hx rfl (hb hby d1_40) k))) ?_
    show own_Goes p e below (s₁.setTop (mkF m 41 #[iv p83, iv p84, iv p85, iv p86, iv ((p84 &&& (255 : Int32)).toUInt32.toUInt16.toUInt32.toInt32), iv ((p85 &&& (255 : Int32)).toUInt32.toUInt16.toUInt32.toInt32), iv ((p86 &&& (255 : Int32)).toUInt32.toUInt16.toUInt32.toInt32)] [(.int (1 : Int32)), (.int p83)])) _
    by_cases hc218 : p83 = (1 : Int32)
    · refine own_via (fun t k => XS.icmpNo X0.here hx rfl (hb hby d1_41) rfl (teq hc218).2 k) ?_
      obtain ⟨T219, h219, X219, e219, E219, A219, D219, -, st219⟩ := newO X0 hx hZ hown (wd hw 16 rfl) (wd hw 17 rfl) (wd hw 18 rfl) e0 (g := (mkF m 44 #[iv p83, iv p84, iv p85, iv p86, iv ((p84 &&& (255 : Int32)).toUInt32.toUInt16.toUInt32.toInt32), iv ((p85 &&& (255 : Int32)).toUInt32.toUInt16.toUInt32.toInt32), iv ((p86 &&& (255 : Int32)).toUInt32.toUInt16.toUInt32.toInt32)] [])) rfl (hb hby d1_44) (by decide) (by decide)
      obtain ⟨b220, q219⟩ : ∃ z, z = h0.size := ⟨_, rfl⟩
      rw [← q219] at A219 D219 st219
      refine own_via (fun t k => st219 t k) ?_
      have C219 := C0.trans (CHr.ext E219 C0.1)
      have g221 : n0 ≤ b220 := Nat.le_trans (own_old O0) (Nat.le_of_eq q219.symm)
      have B222 : h0.size ≤ b220 := Nat.le_trans (Nat.le_refl _) (Nat.le_of_eq q219.symm)
      have F223 : Fld Z h219 b220 zs2 "coder" "B" (.int (0 : Int32)) := D219 (Or.inr (wd hw 43 rfl)) (ty := .byte) (by decide)
      have F224 : Fld Z h219 b220 zs2 "value" "[B" .null := D219 (Or.inr (wd hw 45 rfl)) (ty := (.array .byte)) (by decide)
      show own_Goes p e below (T219.setTop (mkF m 47 #[iv p83, iv p84, iv p85, iv p86, iv ((p84 &&& (255 : Int32)).toUInt32.toUInt16.toUInt32.toInt32), iv ((p85 &&& (255 : Int32)).toUInt32.toUInt16.toUInt32.toInt32), iv ((p86 &&& (255 : Int32)).toUInt32.toUInt16.toUInt32.toInt32)] [(.ref b220)])) _
      refine own_via (fun t k => XS.dup X219.here hx rfl (hb hby d1_47) rfl rfl (XS.iconst X219.here hx rfl (hb hby d1_48) k)) ?_
      obtain ⟨T225, h225, k225, X225, e225, E225, A225, st225⟩ := newP X219 hx hZ (wd hw 19 rfl) e219 (g := (mkF m 49 #[iv p83, iv p84, iv p85, iv p86, iv ((p84 &&& (255 : Int32)).toUInt32.toUInt16.toUInt32.toInt32), iv ((p85 &&& (255 : Int32)).toUInt32.toUInt16.toUInt32.toInt32), iv ((p86 &&& (255 : Int32)).toUInt32.toUInt16.toUInt32.toInt32)] [(.int (1 : Int32)), (.ref b220), (.ref b220)])) rfl (hb hby d1_49) rfl (by decide) (cap := 1) (by decide) (by decide) (by decide) (by decide)
      obtain ⟨b226, q225⟩ : ∃ z, z = h219.size := ⟨_, rfl⟩
      rw [← q225] at A225 st225
      refine own_via (fun t k => st225 t k) ?_
      have C225 := C219.trans (CHr.ext E225 C219.1)
      have N227 : b220 ≠ b226 := Nat.ne_of_lt (Nat.lt_of_lt_of_le A219.lt (Nat.le_of_eq q225.symm))
      have O229 : Old Z n0 h219 := (O0.ext E219)
      have g228 : n0 ≤ b226 := Nat.le_trans (own_old O229) (Nat.le_of_eq q225.symm)
      have Z231 : h0.size ≤ h219.size := (Nat.le_trans (Nat.le_refl _) E219.1)
      have B230 : h0.size ≤ b226 := Nat.le_trans Z231 (Nat.le_of_eq q225.symm)
      have V232 : Arv Z h225 b226 k225 .char (1 : Int32) [] (.int (0 : Int32)) := Arv.new A225 (by decide)
      show own_Goes p e below (T225.setTop (mkF m 51 #[iv p83, iv p84, iv p85, iv p86, iv ((p84 &&& (255 : Int32)).toUInt32.toUInt16.toUInt32.toInt32), iv ((p85 &&& (255 : Int32)).toUInt32.toUInt16.toUInt32.toInt32), iv ((p86 &&& (255 : Int32)).toUInt32.toUInt16.toUInt32.toInt32)] [(.ref b226), (.ref b220), (.ref b220)])) _
      refine own_via (fun t k => XS.dup X225.here hx rfl (hb hby d1_51) rfl rfl (XS.iconst X225.here hx rfl (hb hby d1_52) (XS.iload X225.here hx rfl (hb hby d1_53) rfl k))) ?_
      show own_Goes p e below (T225.setTop (mkF m 55 #[iv p83, iv p84, iv p85, iv p86, iv ((p84 &&& (255 : Int32)).toUInt32.toUInt16.toUInt32.toInt32), iv ((p85 &&& (255 : Int32)).toUInt32.toUInt16.toUInt32.toInt32), iv ((p86 &&& (255 : Int32)).toUInt32.toUInt16.toUInt32.toInt32)] [(.int ((p84 &&& (255 : Int32)).toUInt32.toUInt16.toUInt32.toInt32)), (.int (0 : Int32)), (.ref b226), (.ref b226), (.ref b220), (.ref b220)])) _
      have V233 : Arv Z h225 b226 k225 .char (1 : Int32) [(.int (0 : Int32))] (.int (0 : Int32)) := V232.pad (pad_rep [] (.int (0 : Int32)) 1)
      obtain ⟨cl234, Ar234, qq234, S234, M234, H234, G234⟩ := id (V233)
      have hin234 : ¬ ((0 : Int32) < 0 ∨ cl234.slots.size ≤ ((0 : Int32)).toNatClampNeg) := inb_of S234 ⟨by decide, by decide⟩
      obtain ⟨T234, h234, X234, e234, W234, st234⟩ := stC X225 hx hZ e225 Ar234 (j := (0 : Int32)) hin234 (g := (mkF m 55 #[iv p83, iv p84, iv p85, iv p86, iv ((p84 &&& (255 : Int32)).toUInt32.toUInt16.toUInt32.toInt32), iv ((p85 &&& (255 : Int32)).toUInt32.toUInt16.toUInt32.toInt32), iv ((p86 &&& (255 : Int32)).toUInt32.toUInt16.toUInt32.toInt32)] [(.int ((p84 &&& (255 : Int32)).toUInt32.toUInt16.toUInt32.toInt32)), (.int (0 : Int32)), (.ref b226), (.ref b226), (.ref b220), (.ref b220)])) rfl rfl (hb hby d1_55)
      refine own_via (fun t k => st234 t k) ?_
      have V235 : Arv Z h234 b226 k225 .char (1 : Int32) [(.int ((p84 &&& (255 : Int32)).toUInt32.toUInt16.toUInt32.toInt32))] (.int (0 : Int32)) := by
        have qv := Arv.set Ar234 qq234 S234 M234 H234 G234 (fits_nar_char _) W234 0 rfl (Nat.le_of_ble_eq_true rfl)
        first | rw [show nar .char ((p84 &&& (255 : Int32)).toUInt32.toUInt16.toUInt32.toInt32) = ((p84 &&& (255 : Int32)).toUInt32.toUInt16.toUInt32.toInt32) from own_c2 _] at qv | rw [own_c2] at qv
        exact qv
      have Sf236 : Safe Z consts_1 _ h225 b226 := (own_safeA hZ.alike V232 (by simp))
      have C234 := C225.trans (CHr.wr W234 Sf236 C225.1)
      have N234 := Fr.snoc X234 N0 g228
      show own_Goes p e below (T234.setTop (mkF m 56 #[iv p83, iv p84, iv p85, iv p86, iv ((p84 &&& (255 : Int32)).toUInt32.toUInt16.toUInt32.toInt32), iv ((p85 &&& (255 : Int32)).toUInt32.toUInt16.toUInt32.toInt32), iv ((p86 &&& (255 : Int32)).toUInt32.toUInt16.toUInt32.toInt32)] [(.ref b226), (.ref b220), (.ref b220)])) _
      have l466 : own_Len Z h234 b226 .char (1 : Int32) := ⟨_, _, _, V235⟩
      have F467 : Fld Z h234 b220 zs2 "coder" "B" (.int (0 : Int32)) := ((F223.ext E225).other W234 (Or.inl N227))
      have E468 : Exa Z h234 b220 zs2 := ((A219.ext E225).wr W234)
      have F469 : Fld Z h234 b220 zs2 "value" "[B" .null := ((F224.ext E225).other W234 (Or.inl N227))
      have O470 : Old Z n0 h234 := ((O229.ext E225).wr W234 g228)
      have K471 : k0 ≤ h234.size := (Nat.le_trans (Nat.le_trans (Nat.le_trans hk0 E219.1) E225.1) (Nat.le_of_eq W234.size.symm))
      obtain ⟨_, T237, _, X237, hQ237, Cr237, hS, hZ, hown, st237⟩ := own_ciH X234 hx hZ hS K471 hown (wd hw 20 rfl) (wd hw 21 rfl) (wd hw 22 rfl) (wd hw 18 rfl) rfl (by decide) hEE.ew C234.1 (rm7 l Z a0 hw [] b220 b226 i48 k225 ((p84 &&& (255 : Int32)).toUInt32.toUInt16.toUInt32.toInt32) (0 : Int32) h234 n0 O470 l466 S_String_COMPACT_STRINGS pC89 V235 (own_ch1 p84) F467 E468 g221 F469) e234 (g := (mkF m 56 #[iv p83, iv p84, iv p85, iv p86, iv ((p84 &&& (255 : Int32)).toUInt32.toUInt16.toUInt32.toInt32), iv ((p85 &&& (255 : Int32)).toUInt32.toUInt16.toUInt32.toInt32), iv ((p86 &&& (255 : Int32)).toUInt32.toUInt16.toUInt32.toInt32)] [(.ref b226), (.ref b220), (.ref b220)])) rfl (by rw [hml]; rfl) (rest := [(.ref b220)]) (W := 1) (lenOf pd_2 rfl) rfl (by show 2 * 0 + _ ≤ _; exact Nat.le_of_eq rfl) (hb hby d1_56) (by decide) (by decide) (by decide) (by decide)
      obtain ⟨h237, e237⟩ : ∃ z, T237.heap = z := ⟨_, rfl⟩
      rw [e237] at hQ237 Cr237
      obtain ⟨rfl, Nq237, K237, ex472⟩ := hQ237
      have N237 := Fr.app N234 Nq237
      have C473 := C234.trans Cr237
      have hk474 : T237.heap.size ≤ h237.size := Nat.le_of_eq (congrArg Array.size e237)
      refine own_via (fun t k => st237 t k) ?_
      obtain ⟨fs, hr, hrun, hended, hRW⟩ := X237.leaveW hS (by rw [e237]; first | exact hk474 | exact Nat.le_refl _) (v := some (.ref b220)) (fun h => by rw [Bd.returns] at h; cases h)
      have Cz : CHr Z consts_1 s.vm s.heap T237.vm T237.heap := own_chr (C473.trans (CHv.at X237 hZ hEE.ew C473.1)) hh e237
      refine own_end (t := T237.setFrames fs) ?_ ⟨_, hrun, hended, _, _, rfl, ?_, Cz, own_rmono hRW (by decide) (by decide)⟩
      · jvm_step X237.here [X237.here.top, hx, (hb hby d1_59), X237.method', Bd.returns, Value.isRef, FieldType.isReference]
        first | (intro acts; rw [hr _ acts rfl rfl rfl]) | rw [hr _ _ rfl rfl rfl]
        exact Steps.refl _
      · show Q18 Z p83 p84 p85 p86 i48 h0 n0 _ T237.heap _
        rw [e237]
        exact Or.inr <| Or.inl <| ⟨b220, hc98, hc218, rfl, N237, (((((Keep.refl h0 []).ext E219).ext E225).wr W234 (Or.inr B230)).trans K237 (allS (Or.inr B222) all0)), B222, ex472⟩
    · refine own_via (fun t k => XS.icmpYes X0.here hx rfl (pc0 := 41) (pc' := 60) rfl (hb hby d1_41) rfl (feq hc218).2 (by decide) (by decide) (XS.iloadN X0.here hx rfl (hb hby d1_60) rfl (XS.iconst X0.here hx rfl (hb hby d1_61) k))) ?_
      show own_Goes p e below (s₁.setTop (mkF m 62 #[iv p83, iv p84, iv p85, iv p86, iv ((p84 &&& (255 : Int32)).toUInt32.toUInt16.toUInt32.toInt32), iv ((p85 &&& (255 : Int32)).toUInt32.toUInt16.toUInt32.toInt32), iv ((p86 &&& (255 : Int32)).toUInt32.toUInt16.toUInt32.toInt32)] [(.int (2 : Int32)), (.int p83)])) _
      by_cases hc475 : p83 = (2 : Int32)
      · refine own_via (fun t k => XS.icmpNo X0.here hx rfl (hb hby d1_62) rfl (teq hc475).2 k) ?_
        obtain ⟨T476, h476, X476, e476, E476, A476, D476, -, st476⟩ := newO X0 hx hZ hown (wd hw 16 rfl) (wd hw 17 rfl) (wd hw 18 rfl) e0 (g := (mkF m 65 #[iv p83, iv p84, iv p85, iv p86, iv ((p84 &&& (255 : Int32)).toUInt32.toUInt16.toUInt32.toInt32), iv ((p85 &&& (255 : Int32)).toUInt32.toUInt16.toUInt32.toInt32), iv ((p86 &&& (255 : Int32)).toUInt32.toUInt16.toUInt32.toInt32)] [])) rfl (hb hby d1_65) (by decide) (by decide)
        obtain ⟨b477, q476⟩ : ∃ z, z = h0.size := ⟨_, rfl⟩
        rw [← q476] at A476 D476 st476
        refine own_via (fun t k => st476 t k) ?_
        have C476 := C0.trans (CHr.ext E476 C0.1)
        have g478 : n0 ≤ b477 := Nat.le_trans (own_old O0) (Nat.le_of_eq q476.symm)
        have B479 : h0.size ≤ b477 := Nat.le_trans (Nat.le_refl _) (Nat.le_of_eq q476.symm)
        have F480 : Fld Z h476 b477 zs2 "coder" "B" (.int (0 : Int32)) := D476 (Or.inr (wd hw 43 rfl)) (ty := .byte) (by decide)
        have F481 : Fld Z h476 b477 zs2 "value" "[B" .null := D476 (Or.inr (wd hw 45 rfl)) (ty := (.array .byte)) (by decide)
        show own_Goes p e below (T476.setTop (mkF m 68 #[iv p83, iv p84, iv p85, iv p86, iv ((p84 &&& (255 : Int32)).toUInt32.toUInt16.toUInt32.toInt32), iv ((p85 &&& (255 : Int32)).toUInt32.toUInt16.toUInt32.toInt32), iv ((p86 &&& (255 : Int32)).toUInt32.toUInt16.toUInt32.toInt32)] [(.ref b477)])) _
        refine own_via (fun t k => XS.dup X476.here hx rfl (hb hby d1_68) rfl rfl (XS.iconst X476.here hx rfl (hb hby d1_69) k)) ?_
        obtain ⟨T482, h482, k482, X482, e482, E482, A482, st482⟩ := newP X476 hx hZ (wd hw 19 rfl) e476 (g := (mkF m 70 #[iv p83, iv p84, iv p85, iv p86, iv ((p84 &&& (255 : Int32)).toUInt32.toUInt16.toUInt32.toInt32), iv ((p85 &&& (255 : Int32)).toUInt32.toUInt16.toUInt32.toInt32), iv ((p86 &&& (255 : Int32)).toUInt32.toUInt16.toUInt32.toInt32)] [(.int (2 : Int32)), (.ref b477), (.ref b477)])) rfl (hb hby d1_70) rfl (by decide) (cap := 2) (by decide) (by decide) (by decide) (by decide)
        obtain ⟨b483, q482⟩ : ∃ z, z = h476.size := ⟨_, rfl⟩
        rw [← q482] at A482 st482
        refine own_via (fun t k => st482 t k) ?_
        have C482 := C476.trans (CHr.ext E482 C476.1)
        have N484 : b477 ≠ b483 := Nat.ne_of_lt (Nat.lt_of_lt_of_le A476.lt (Nat.le_of_eq q482.symm))
        have O486 : Old Z n0 h476 := (O0.ext E476)
        have g485 : n0 ≤ b483 := Nat.le_trans (own_old O486) (Nat.le_of_eq q482.symm)
        have Z488 : h0.size ≤ h476.size := (Nat.le_trans (Nat.le_refl _) E476.1)
        have B487 : h0.size ≤ b483 := Nat.le_trans Z488 (Nat.le_of_eq q482.symm)
        have V489 : Arv Z h482 b483 k482 .char (2 : Int32) [] (.int (0 : Int32)) := Arv.new A482 (by decide)
        show own_Goes p e below (T482.setTop (mkF m 72 #[iv p83, iv p84, iv p85, iv p86, iv ((p84 &&& (255 : Int32)).toUInt32.toUInt16.toUInt32.toInt32), iv ((p85 &&& (255 : Int32)).toUInt32.toUInt16.toUInt32.toInt32), iv ((p86 &&& (255 : Int32)).toUInt32.toUInt16.toUInt32.toInt32)] [(.ref b483), (.ref b477), (.ref b477)])) _
        refine own_via (fun t k => XS.dup X482.here hx rfl (hb hby d1_72) rfl rfl (XS.iconst X482.here hx rfl (hb hby d1_73) (XS.iload X482.here hx rfl (hb hby d1_74) rfl k))) ?_
        show own_Goes p e below (T482.setTop (mkF m 76 #[iv p83, iv p84, iv p85, iv p86, iv ((p84 &&& (255 : Int32)).toUInt32.toUInt16.toUInt32.toInt32), iv ((p85 &&& (255 : Int32)).toUInt32.toUInt16.toUInt32.toInt32), iv ((p86 &&& (255 : Int32)).toUInt32.toUInt16.toUInt32.toInt32)] [(.int ((p84 &&& (255 : Int32)).toUInt32.toUInt16.toUInt32.toInt32)), (.int (0 : Int32)), (.ref b483), (.ref b483), (.ref b477), (.ref b477)])) _
        have V490 : Arv Z h482 b483 k482 .char (2 : Int32) [(.int (0 : Int32))] (.int (0 : Int32)) := V489.pad (pad_rep [] (.int (0 : Int32)) 1)
        obtain ⟨cl491, Ar491, qq491, S491, M491, H491, G491⟩ := id (V490)
        have hin491 : ¬ ((0 : Int32) < 0 ∨ cl491.slots.size ≤ ((0 : Int32)).toNatClampNeg) := inb_of S491 ⟨by decide, by decide⟩
        obtain ⟨T491, h491, X491, e491, W491, st491⟩ := stC X482 hx hZ e482 Ar491 (j := (0 : Int32)) hin491 (g := (mkF m 76 #[iv p83, iv p84, iv p85, iv p86, iv ((p84 &&& (255 : Int32)).toUInt32.toUInt16.toUInt32.toInt32), iv ((p85 &&& (255 : Int32)).toUInt32.toUInt16.toUInt32.toInt32), iv ((p86 &&& (255 : Int32)).toUInt32.toUInt16.toUInt32.toInt32)] [(.int ((p84 &&& (255 : Int32)).toUInt32.toUInt16.toUInt32.toInt32)), (.int (0 : Int32)), (.ref b483), (.ref b483), (.ref b477), (.ref b477)])) rfl rfl (hb hby d1_76)
        refine own_via (fun t k => st491 t k) ?_
        have V492 : Arv Z h491 b483 k482 .char (2 : Int32) [(.int ((p84 &&& (255 : Int32)).toUInt32.toUInt16.toUInt32.toInt32))] (.int (0 : Int32)) := by
          have qv := Arv.set Ar491 qq491 S491 M491 H491 G491 (fits_nar_char _) W491 0 rfl (Nat.le_of_ble_eq_true rfl)
          first | rw [show nar .char ((p84 &&& (255 : Int32)).toUInt32.toUInt16.toUInt32.toInt32) = ((p84 &&& (255 : Int32)).toUInt32.toUInt16.toUInt32.toInt32) from own_c2 _] at qv | rw [own_c2] at qv
          exact qv
        have Sf493 : Safe Z consts_1 _ h482 b483 := (own_safeA hZ.alike V489 (by simp))
        have C491 := C482.trans (CHr.wr W491 Sf493 C482.1)
        have N491 := Fr.snoc X491 N0 g485
        show own_Goes p e below (T491.setTop (mkF m 77 #[iv p83, iv p84, iv p85, iv p86, iv ((p84 &&& (255 : Int32)).toUInt32.toUInt16.toUInt32.toInt32), iv ((p85 &&& (255 : Int32)).toUInt32.toUInt16.toUInt32.toInt32), iv ((p86 &&& (255 : Int32)).toUInt32.toUInt16.toUInt32.toInt32)] [(.ref b483), (.ref b477), (.ref b477)])) _
        refine own_via (fun t k => XS.dup X491.here hx rfl (hb hby d1_77) rfl rfl (XS.iconst X491.here hx rfl (hb hby d1_78) (XS.iload X491.here hx rfl (hb hby d1_79) rfl k))) ?_
        show own_Goes p e below (T491.setTop (mkF m 81 #[iv p83, iv p84, iv p85, iv p86, iv ((p84 &&& (255 : Int32)).toUInt32.toUInt16.toUInt32.toInt32), iv ((p85 &&& (255 : Int32)).toUInt32.toUInt16.toUInt32.toInt32), iv ((p86 &&& (255 : Int32)).toUInt32.toUInt16.toUInt32.toInt32)] [(.int ((p85 &&& (255 : Int32)).toUInt32.toUInt16.toUInt32.toInt32)), (.int (1 : Int32)), (.ref b483), (.ref b483), (.ref b477), (.ref b477)])) _
        have V494 : Arv Z h491 b483 k482 .char (2 : Int32) [(.int ((p84 &&& (255 : Int32)).toUInt32.toUInt16.toUInt32.toInt32)), (.int (0 : Int32))] (.int (0 : Int32)) := V492.pad (pad_rep [(.int ((p84 &&& (255 : Int32)).toUInt32.toUInt16.toUInt32.toInt32))] (.int (0 : Int32)) 1)
        obtain ⟨cl495, Ar495, qq495, S495, M495, H495, G495⟩ := id (V494)
        have hin495 : ¬ ((1 : Int32) < 0 ∨ cl495.slots.size ≤ ((1 : Int32)).toNatClampNeg) := inb_of S495 ⟨by decide, by decide⟩
        obtain ⟨T495, h495, X495, e495, W495, st495⟩ := stC X491 hx hZ e491 Ar495 (j := (1 : Int32)) hin495 (g := (mkF m 81 #[iv p83, iv p84, iv p85, iv p86, iv ((p84 &&& (255 : Int32)).toUInt32.toUInt16.toUInt32.toInt32), iv ((p85 &&& (255 : Int32)).toUInt32.toUInt16.toUInt32.toInt32), iv ((p86 &&& (255 : Int32)).toUInt32.toUInt16.toUInt32.toInt32)] [(.int ((p85 &&& (255 : Int32)).toUInt32.toUInt16.toUInt32.toInt32)), (.int (1 : Int32)), (.ref b483), (.ref b483), (.ref b477), (.ref b477)])) rfl rfl (hb hby d1_81)
        refine own_via (fun t k => st495 t k) ?_
        have V496 : Arv Z h495 b483 k482 .char (2 : Int32) [(.int ((p84 &&& (255 : Int32)).toUInt32.toUInt16.toUInt32.toInt32)), (.int ((p85 &&& (255 : Int32)).toUInt32.toUInt16.toUInt32.toInt32))] (.int (0 : Int32)) := by
          have qv := Arv.set Ar495 qq495 S495 M495 H495 G495 (fits_nar_char _) W495 1 rfl (Nat.le_of_ble_eq_true rfl)
          first | rw [show nar .char ((p85 &&& (255 : Int32)).toUInt32.toUInt16.toUInt32.toInt32) = ((p85 &&& (255 : Int32)).toUInt32.toUInt16.toUInt32.toInt32) from own_c2 _] at qv | rw [own_c2] at qv
          exact qv
        have Sf497 : Safe Z consts_1 _ h491 b483 := (own_safeA hZ.alike V492 (by simp))
        have C495 := C491.trans (CHr.wr W495 Sf497 C491.1)
        have N495 := Fr.snoc X495 N491 g485
        show own_Goes p e below (T495.setTop (mkF m 82 #[iv p83, iv p84, iv p85, iv p86, iv ((p84 &&& (255 : Int32)).toUInt32.toUInt16.toUInt32.toInt32), iv ((p85 &&& (255 : Int32)).toUInt32.toUInt16.toUInt32.toInt32), iv ((p86 &&& (255 : Int32)).toUInt32.toUInt16.toUInt32.toInt32)] [(.ref b483), (.ref b477), (.ref b477)])) _
        have l743 : own_Len Z h495 b483 .char (2 : Int32) := ⟨_, _, _, V496⟩
        have F744 : Fld Z h495 b477 zs2 "coder" "B" (.int (0 : Int32)) := (((F480.ext E482).other W491 (Or.inl N484)).other W495 (Or.inl N484))
        have E745 : Exa Z h495 b477 zs2 := (((A476.ext E482).wr W491).wr W495)
        have F746 : Fld Z h495 b477 zs2 "value" "[B" .null := (((F481.ext E482).other W491 (Or.inl N484)).other W495 (Or.inl N484))
        have O747 : Old Z n0 h495 := (((O486.ext E482).wr W491 g485).wr W495 g485)
        have K748 : k0 ≤ h495.size := (Nat.le_trans (Nat.le_trans (Nat.le_trans (Nat.le_trans hk0 E476.1) E482.1) (Nat.le_of_eq W491.size.symm)) (Nat.le_of_eq W495.size.symm))
        obtain ⟨_, T498, _, X498, hQ498, Cr498, hS, hZ, hown, st498⟩ := own_ciH X495 hx hZ hS K748 hown (wd hw 20 rfl) (wd hw 21 rfl) (wd hw 22 rfl) (wd hw 18 rfl) rfl (by decide) hEE.ew C495.1 (rm12 l Z a0 hw [] b477 b483 i48 k482 ((p84 &&& (255 : Int32)).toUInt32.toUInt16.toUInt32.toInt32) ((p85 &&& (255 : Int32)).toUInt32.toUInt16.toUInt32.toInt32) (0 : Int32) h495 n0 O747 l743 S_String_COMPACT_STRINGS pC89 V496 (own_ch1 p84) (own_ch1 p85) F744 E745 g478 F746) e495 (g := (mkF m 82 #[iv p83, iv p84, iv p85, iv p86, iv ((p84 &&& (255 : Int32)).toUInt32.toUInt16.toUInt32.toInt32), iv ((p85 &&& (255 : Int32)).toUInt32.toUInt16.toUInt32.toInt32), iv ((p86 &&& (255 : Int32)).toUInt32.toUInt16.toUInt32.toInt32)] [(.ref b483), (.ref b477), (.ref b477)])) rfl (by rw [hml]; rfl) (rest := [(.ref b477)]) (W := 1) (lenOf pd_2 rfl) rfl (by show 2 * 0 + _ ≤ _; exact Nat.le_of_eq rfl) (hb hby d1_82) (by decide) (by decide) (by decide) (by decide)
        obtain ⟨h498, e498⟩ : ∃ z, T498.heap = z := ⟨_, rfl⟩
        rw [e498] at hQ498 Cr498
        obtain ⟨rfl, Nq498, K498, ex749⟩ := hQ498
        have N498 := Fr.app N495 Nq498
        have C750 := C495.trans Cr498
        have hk751 : T498.heap.size ≤ h498.size := Nat.le_of_eq (congrArg Array.size e498)
        refine own_via (fun t k => st498 t k) ?_
        obtain ⟨fs, hr, hrun, hended, hRW⟩ := X498.leaveW hS (by rw [e498]; first | exact hk751 | exact Nat.le_refl _) (v := some (.ref b477)) (fun h => by rw [Bd.returns] at h; cases h)
        have Cz : CHr Z consts_1 s.vm s.heap T498.vm T498.heap := own_chr (C750.trans (CHv.at X498 hZ hEE.ew C750.1)) hh e498
        refine own_end (t := T498.setFrames fs) ?_ ⟨_, hrun, hended, _, _, rfl, ?_, Cz, own_rmono hRW (by decide) (by decide)⟩
        · jvm_step X498.here [X498.here.top, hx, (hb hby d1_85), X498.method', Bd.returns, Value.isRef, FieldType.isReference]
          first | (intro acts; rw [hr _ acts rfl rfl rfl]) | rw [hr _ _ rfl rfl rfl]
          exact Steps.refl _
        · show Q18 Z p83 p84 p85 p86 i48 h0 n0 _ T498.heap _
          rw [e498]
          exact Or.inr <| Or.inr <| Or.inl <| ⟨b477, hc98, hc218, hc475, rfl, N498, ((((((Keep.refl h0 []).ext E476).ext E482).wr W491 (Or.inr B487)).wr W495 (Or.inr B487)).trans K498 (allS (Or.inr B479) all0)), B479, ex749⟩
      · refine own_via (fun t k => XS.icmpYes X0.here hx rfl (pc0 := 62) (pc' := 86) rfl (hb hby d1_62) rfl (feq hc475).2 (by decide) (by decide) k) ?_
        obtain ⟨T752, h752, X752, e752, E752, A752, D752, -, st752⟩ := newO X0 hx hZ hown (wd hw 16 rfl) (wd hw 17 rfl) (wd hw 18 rfl) e0 (g := (mkF m 86 #[iv p83, iv p84, iv p85, iv p86, iv ((p84 &&& (255 : Int32)).toUInt32.toUInt16.toUInt32.toInt32), iv ((p85 &&& (255 : Int32)).toUInt32.toUInt16.toUInt32.toInt32), iv ((p86 &&& (255 : Int32)).toUInt32.toUInt16.toUInt32.toInt32)] [])) rfl (hb hby d1_86) (by decide) (by decide)
        obtain ⟨b753, q752⟩ : ∃ z, z = h0.size := ⟨_, rfl⟩
        rw [← q752] at A752 D752 st752
        refine own_via (fun t k => st752 t k) ?_
        have C752 := C0.trans (CHr.ext E752 C0.1)
        have g754 : n0 ≤ b753 := Nat.le_trans (own_old O0) (Nat.le_of_eq q752.symm)
        have B755 : h0.size ≤ b753 := Nat.le_trans (Nat.le_refl _) (Nat.le_of_eq q752.symm)
        have F756 : Fld Z h752 b753 zs2 "coder" "B" (.int (0 : Int32)) := D752 (Or.inr (wd hw 43 rfl)) (ty := .byte) (by decide)
        have F757 : Fld Z h752 b753 zs2 "value" "[B" .null := D752 (Or.inr (wd hw 45 rfl)) (ty := (.array .byte)) (by decide)
        show own_Goes p e below (T752.setTop (mkF m 89 #[iv p83, iv p84, iv p85, iv p86, iv ((p84 &&& (255 : Int32)).toUInt32.toUInt16.toUInt32.toInt32), iv ((p85 &&& (255 : Int32)).toUInt32.toUInt16.toUInt32.toInt32), iv ((p86 &&& (255 : Int32)).toUInt32.toUInt16.toUInt32.toInt32)] [(.ref b753)])) _
        refine own_via (fun t k => XS.dup X752.here hx rfl (hb hby d1_89) rfl rfl (XS.iconst X752.here hx rfl (hb hby d1_90) k)) ?_
        obtain ⟨T758, h758, k758, X758, e758, E758, A758, st758⟩ := newP X752 hx hZ (wd hw 19 rfl) e752 (g := (mkF m 91 #[iv p83, iv p84, iv p85, iv p86, iv ((p84 &&& (255 : Int32)).toUInt32.toUInt16.toUInt32.toInt32), iv ((p85 &&& (255 : Int32)).toUInt32.toUInt16.toUInt32.toInt32), iv ((p86 &&& (255 : Int32)).toUInt32.toUInt16.toUInt32.toInt32)] [(.int (3 : Int32)), (.ref b753), (.ref b753)])) rfl (hb hby d1_91) rfl (by decide) (cap := 3) (by decide) (by decide) (by decide) (by decide)
        obtain ⟨b759, q758⟩ : ∃ z, z = h752.size := ⟨_, rfl⟩
        rw [← q758] at A758 st758
        refine own_via (fun t k => st758 t k) ?_
        have C758 := C752.trans (CHr.ext E758 C752.1)
        have N760 : b753 ≠ b759 := Nat.ne_of_lt (Nat.lt_of_lt_of_le A752.lt (Nat.le_of_eq q758.symm))
        have O762 : Old Z n0 h752 := (O0.ext E752)
        have g761 : n0 ≤ b759 := Nat.le_trans (own_old O762) (Nat.le_of_eq q758.symm)
        have Z764 : h0.size ≤ h752.size := (Nat.le_trans (Nat.le_refl _) E752.1)
        have B763 : h0.size ≤ b759 := Nat.le_trans Z764 (Nat.le_of_eq q758.symm)
        have V765 : Arv Z h758 b759 k758 .char (3 : Int32) [] (.int (0 : Int32)) := Arv.new A758 (by decide)
        show own_Goes p e below (T758.setTop (mkF m 93 #[iv p83, iv p84, iv p85, iv p86, iv ((p84 &&& (255 : Int32)).toUInt32.toUInt16.toUInt32.toInt32), iv ((p85 &&& (255 : Int32)).toUInt32.toUInt16.toUInt32.toInt32), iv ((p86 &&& (255 : Int32)).toUInt32.toUInt16.toUInt32.toInt32)] [(.ref b759), (.ref b753), (.ref b753)])) _
        refine own_via (fun t k => XS.dup X758.here hx rfl (hb hby d1_93) rfl rfl (XS.iconst X758.here hx rfl (hb hby d1_94) (XS.iload X758.here hx rfl (hb hby d1_95) rfl k))) ?_
        show own_Goes p e below (T758.setTop (mkF m 97 #[iv p83, iv p84, iv p85, iv p86, iv ((p84 &&& (255 : Int32)).toUInt32.toUInt16.toUInt32.toInt32), iv ((p85 &&& (255 : Int32)).toUInt32.toUInt16.toUInt32.toInt32), iv ((p86 &&& (255 : Int32)).toUInt32.toUInt16.toUInt32.toInt32)] [(.int ((p84 &&& (255 : Int32)).toUInt32.toUInt16.toUInt32.toInt32)), (.int (0 : Int32)), (.ref b759), (.ref b759), (.ref b753), (.ref b753)])) _
        have V766 : Arv Z h758 b759 k758 .char (3 : Int32) [(.int (0 : Int32))] (.int (0 : Int32)) := V765.pad (pad_rep [] (.int (0 : Int32)) 1)
        obtain ⟨cl767, Ar767, qq767, S767, M767, H767, G767⟩ := id (V766)
        have hin767 : ¬ ((0 : Int32) < 0 ∨ cl767.slots.size ≤ ((0 : Int32)).toNatClampNeg) := inb_of S767 ⟨by decide, by decide⟩
        obtain ⟨T767, h767, X767, e767, W767, st767⟩ := stC X758 hx hZ e758 Ar767 (j := (0 : Int32)) hin767 (g := (mkF m 97 #[iv p83, iv p84, iv p85, iv p86, iv ((p84 &&& (255 : Int32)).toUInt32.toUInt16.toUInt32.toInt32), iv ((p85 &&& (255 : Int32)).toUInt32.toUInt16.toUInt32.toInt32), iv ((p86 &&& (255 : Int32)).toUInt32.toUInt16.toUInt32.toInt32)] [(.int ((p84 &&& (255 : Int32)).toUInt32.toUInt16.toUInt32.toInt32)), (.int (0 : Int32)), (.ref b759), (.ref b759), (.ref b753), (.ref b753)])) rfl rfl (hb hby d1_97)
        refine own_via (fun t k => st767 t k) ?_
        have V768 : Arv Z h767 b759 k758 .char (3 : Int32) [(.int ((p84 &&& (255 : Int32)).toUInt32.toUInt16.toUInt32.toInt32))] (.int (0 : Int32)) := by
          have qv := Arv.set Ar767 qq767 S767 M767 H767 G767 (fits_nar_char _) W767 0 rfl (Nat.le_of_ble_eq_true rfl)
          first | rw [show nar .char ((p84 &&& (255 : Int32)).toUInt32.toUInt16.toUInt32.toInt32) = ((p84 &&& (255 : Int32)).toUInt32.toUInt16.toUInt32.toInt32) from own_c2 _] at qv | rw [own_c2] at qv
          exact qv
        have Sf769 : Safe Z consts_1 _ h758 b759 := (own_safeA hZ.alike V765 (by simp))
        have C767 := C758.trans (CHr.wr W767 Sf769 C758.1)
        have N767 := Fr.snoc X767 N0 g761
        show own_Goes p e below (T767.setTop (mkF m 98 #[iv p83, iv p84, iv p85, iv p86, iv ((p84 &&& (255 : Int32)).toUInt32.toUInt16.toUInt32.toInt32), iv ((p85 &&& (255 : Int32)).toUInt32.toUInt16.toUInt32.toInt32), iv ((p86 &&& (255 : Int32)).toUInt32.toUInt16.toUInt32.toInt32)] [(.ref b759), (.ref b753), (.ref b753)])) _
        refine own_via (fun t k => XS.dup X767.here hx rfl (hb hby d1_98) rfl rfl (XS.iconst X767.here hx rfl (hb hby d1_99) (XS.iload X767.here hx rfl (hb hby d1_100) rfl k))) ?_
        show own_Goes p e below (T767.setTop (mkF m 102 #[iv p83, iv p84, iv p85, iv p86, iv ((p84 &&& (255 : Int32)).toUInt32.toUInt16.toUInt32.toInt32), iv ((p85 &&& (255 : Int32)).toUInt32.toUInt16.toUInt32.toInt32), iv ((p86 &&& (255 : Int32)).toUInt32.toUInt16.toUInt32.toInt32)] [(.int ((p85 &&& (255 : Int32)).toUInt32.toUInt16.toUInt32.toInt32)), (.int (1 : Int32)), (.ref b759), (.ref b759), (.ref b753), (.ref b753)])) _
        have V770 : Arv Z h767 b759 k758 .char (3 : Int32) [(.int ((p84 &&& (255 : Int32)).toUInt32.toUInt16.toUInt32.toInt32)), (.int (0 : Int32))] (.int (0 : Int32)) := V768.pad (pad_rep [(.int ((p84 &&& (255 : Int32)).toUInt32.toUInt16.toUInt32.toInt32))] (.int (0 : Int32)) 1)
        obtain ⟨cl771, Ar771, qq771, S771, M771, H771, G771⟩ := id (V770)
        have hin771 : ¬ ((1 : Int32) < 0 ∨ cl771.slots.size ≤ ((1 : Int32)).toNatClampNeg) := inb_of S771 ⟨by decide, by decide⟩
        obtain ⟨T771, h771, X771, e771, W771, st771⟩ := stC X767 hx hZ e767 Ar771 (j := (1 : Int32)) hin771 (g := (mkF m 102 #[iv p83, iv p84, iv p85, iv p86, iv ((p84 &&& (255 : Int32)).toUInt32.toUInt16.toUInt32.toInt32), iv ((p85 &&& (255 : Int32)).toUInt32.toUInt16.toUInt32.toInt32), iv ((p86 &&& (255 : Int32)).toUInt32.toUInt16.toUInt32.toInt32)] [(.int ((p85 &&& (255 : Int32)).toUInt32.toUInt16.toUInt32.toInt32)), (.int (1 : Int32)), (.ref b759), (.ref b759), (.ref b753), (.ref b753)])) rfl rfl (hb hby d1_102)
        refine own_via (fun t k => st771 t k) ?_
        have V772 : Arv Z h771 b759 k758 .char (3 : Int32) [(.int ((p84 &&& (255 : Int32)).toUInt32.toUInt16.toUInt32.toInt32)), (.int ((p85 &&& (255 : Int32)).toUInt32.toUInt16.toUInt32.toInt32))] (.int (0 : Int32)) := by
          have qv := Arv.set Ar771 qq771 S771 M771 H771 G771 (fits_nar_char _) W771 1 rfl (Nat.le_of_ble_eq_true rfl)
          first | rw [show nar .char ((p85 &&& (255 : Int32)).toUInt32.toUInt16.toUInt32.toInt32) = ((p85 &&& (255 : Int32)).toUInt32.toUInt16.toUInt32.toInt32) from own_c2 _] at qv | rw [own_c2] at qv
          exact qv
        have Sf773 : Safe Z consts_1 _ h767 b759 := (own_safeA hZ.alike V768 (by simp))
        have C771 := C767.trans (CHr.wr W771 Sf773 C767.1)
        have N771 := Fr.snoc X771 N767 g761
        show own_Goes p e below (T771.setTop (mkF m 103 #[iv p83, iv p84, iv p85, iv p86, iv ((p84 &&& (255 : Int32)).toUInt32.toUInt16.toUInt32.toInt32), iv ((p85 &&& (255 : Int32)).toUInt32.toUInt16.toUInt32.toInt32), iv ((p86 &&& (255 : Int32)).toUInt32.toUInt16.toUInt32.toInt32)] [(.ref b759), (.ref b753), (.ref b753)])) _
        refine own_via (fun t k => XS.dup X771.here hx rfl (hb hby d1_103) rfl rfl (XS.iconst X771.here hx rfl (hb hby d1_104) (XS.iload X771.here hx rfl (hb hby d1_105) rfl k))) ?_
        show own_Goes p e below (T771.setTop (mkF m 107 #[iv p83, iv p84, iv p85, iv p86, iv ((p84 &&& (255 : Int32)).toUInt32.toUInt16.toUInt32.toInt32), iv ((p85 &&& (255 : Int32)).toUInt32.toUInt16.toUInt32.toInt32), iv ((p86 &&& (255 : Int32)).toUInt32.toUInt16.toUInt32.toInt32)] [(.int ((p86 &&& (255 : Int32)).toUInt32.toUInt16.toUInt32.toInt32)), (.int (2 : Int32)), (.ref b759), (.ref b759), (.ref b753), (.ref b753)])) _
        have V774 : Arv Z h771 b759 k758 .char (3 : Int32) [(.int ((p84 &&& (255 : Int32)).toUInt32.toUInt16.toUInt32.toInt32)), (.int ((p85 &&& (255 : Int32)).toUInt32.toUInt16.toUInt32.toInt32)), (.int (0 : Int32))] (.int (0 : Int32)) := V772.pad (pad_rep [(.int ((p84 &&& (255 : Int32)).toUInt32.toUInt16.toUInt32.toInt32)), (.int ((p85 &&& (255 : Int32)).toUInt32.toUInt16.toUInt32.toInt32))] (.int (0 : Int32)) 1)
        obtain ⟨cl775, Ar775, qq775, S775, M775, H775, G775⟩ := id (V774)
        have hin775 : ¬ ((2 : Int32) < 0 ∨ cl775.slots.size ≤ ((2 : Int32)).toNatClampNeg) := inb_of S775 ⟨by decide, by decide⟩
        obtain ⟨T775, h775, X775, e775, W775, st775⟩ := stC X771 hx hZ e771 Ar775 (j := (2 : Int32)) hin775 (g := (mkF m 107 #[iv p83, iv p84, iv p85, iv p86, iv ((p84 &&& (255 : Int32)).toUInt32.toUInt16.toUInt32.toInt32), iv ((p85 &&& (255 : Int32)).toUInt32.toUInt16.toUInt32.toInt32), iv ((p86 &&& (255 : Int32)).toUInt32.toUInt16.toUInt32.toInt32)] [(.int ((p86 &&& (255 : Int32)).toUInt32.toUInt16.toUInt32.toInt32)), (.int (2 : Int32)), (.ref b759), (.ref b759), (.ref b753), (.ref b753)])) rfl rfl (hb hby d1_107)
        refine own_via (fun t k => st775 t k) ?_
        have V776 : Arv Z h775 b759 k758 .char (3 : Int32) [(.int ((p84 &&& (255 : Int32)).toUInt32.toUInt16.toUInt32.toInt32)), (.int ((p85 &&& (255 : Int32)).toUInt32.toUInt16.toUInt32.toInt32)), (.int ((p86 &&& (255 : Int32)).toUInt32.toUInt16.toUInt32.toInt32))] (.int (0 : Int32)) := by
          have qv := Arv.set Ar775 qq775 S775 M775 H775 G775 (fits_nar_char _) W775 2 rfl (Nat.le_of_ble_eq_true rfl)
          first | rw [show nar .char ((p86 &&& (255 : Int32)).toUInt32.toUInt16.toUInt32.toInt32) = ((p86 &&& (255 : Int32)).toUInt32.toUInt16.toUInt32.toInt32) from own_c2 _] at qv | rw [own_c2] at qv
          exact qv
        have Sf777 : Safe Z consts_1 _ h771 b759 := (own_safeA hZ.alike V772 (by simp))
        have C775 := C771.trans (CHr.wr W775 Sf777 C771.1)
        have N775 := Fr.snoc X775 N771 g761
        show own_Goes p e below (T775.setTop (mkF m 108 #[iv p83, iv p84, iv p85, iv p86, iv ((p84 &&& (255 : Int32)).toUInt32.toUInt16.toUInt32.toInt32), iv ((p85 &&& (255 : Int32)).toUInt32.toUInt16.toUInt32.toInt32), iv ((p86 &&& (255 : Int32)).toUInt32.toUInt16.toUInt32.toInt32)] [(.ref b759), (.ref b753), (.ref b753)])) _
        have l1034 : own_Len Z h775 b759 .char (3 : Int32) := ⟨_, _, _, V776⟩
        have F1035 : Fld Z h775 b753 zs2 "coder" "B" (.int (0 : Int32)) := ((((F756.ext E758).other W767 (Or.inl N760)).other W771 (Or.inl N760)).other W775 (Or.inl N760))
        have E1036 : Exa Z h775 b753 zs2 := ((((A752.ext E758).wr W767).wr W771).wr W775)
        have F1037 : Fld Z h775 b753 zs2 "value" "[B" .null := ((((F757.ext E758).other W767 (Or.inl N760)).other W771 (Or.inl N760)).other W775 (Or.inl N760))
        have O1038 : Old Z n0 h775 := ((((O762.ext E758).wr W767 g761).wr W771 g761).wr W775 g761)
        have K1039 : k0 ≤ h775.size := (Nat.le_trans (Nat.le_trans (Nat.le_trans (Nat.le_trans (Nat.le_trans hk0 E752.1) E758.1) (Nat.le_of_eq W767.size.symm)) (Nat.le_of_eq W771.size.symm)) (Nat.le_of_eq W775.size.symm))
        obtain ⟨_, T778, _, X778, hQ778, Cr778, hS, hZ, hown, st778⟩ := own_ciH X775 hx hZ hS K1039 hown (wd hw 20 rfl) (wd hw 21 rfl) (wd hw 22 rfl) (wd hw 18 rfl) rfl (by decide) hEE.ew C775.1 (rm17 l Z a0 hw [] b753 b759 i48 k758 ((p84 &&& (255 : Int32)).toUInt32.toUInt16.toUInt32.toInt32) ((p85 &&& (255 : Int32)).toUInt32.toUInt16.toUInt32.toInt32) ((p86 &&& (255 : Int32)).toUInt32.toUInt16.toUInt32.toInt32) (0 : Int32) h775 n0 O1038 l1034 S_String_COMPACT_STRINGS pC89 V776 (own_ch1 p84) (own_ch1 p85) (own_ch1 p86) F1035 E1036 g754 F1037) e775 (g := (mkF m 108 #[iv p83, iv p84, iv p85, iv p86, iv ((p84 &&& (255 : Int32)).toUInt32.toUInt16.toUInt32.toInt32), iv ((p85 &&& (255 : Int32)).toUInt32.toUInt16.toUInt32.toInt32), iv ((p86 &&& (255 : Int32)).toUInt32.toUInt16.toUInt32.toInt32)] [(.ref b759), (.ref b753), (.ref b753)])) rfl (by rw [hml]; rfl) (rest := [(.ref b753)]) (W := 1) (lenOf pd_2 rfl) rfl (by show 2 * 0 + _ ≤ _; exact Nat.le_of_eq rfl) (hb hby d1_108) (by decide) (by decide) (by decide) (by decide)
        obtain ⟨h778, e778⟩ : ∃ z, T778.heap = z := ⟨_, rfl⟩
        rw [e778] at hQ778 Cr778
        obtain ⟨rfl, Nq778, K778, ex1040⟩ := hQ778
        have N778 := Fr.app N775 Nq778
        have C1041 := C775.trans Cr778
        have hk1042 : T778.heap.size ≤ h778.size := Nat.le_of_eq (congrArg Array.size e778)
        refine own_via (fun t k => st778 t k) ?_
        obtain ⟨fs, hr, hrun, hended, hRW⟩ := X778.leaveW hS (by rw [e778]; first | exact hk1042 | exact Nat.le_refl _) (v := some (.ref b753)) (fun h => by rw [Bd.returns] at h; cases h)
        have Cz : CHr Z consts_1 s.vm s.heap T778.vm T778.heap := own_chr (C1041.trans (CHv.at X778 hZ hEE.ew C1041.1)) hh e778
        refine own_end (t := T778.setFrames fs) ?_ ⟨_, hrun, hended, _, _, rfl, ?_, Cz, own_rmono hRW (by decide) (by decide)⟩
        · jvm_step X778.here [X778.here.top, hx, (hb hby d1_111), X778.method', Bd.returns, Value.isRef, FieldType.isReference]
          first | (intro acts; rw [hr _ acts rfl rfl rfl]) | rw [hr _ _ rfl rfl rfl]
          exact Steps.refl _
        · show Q18 Z p83 p84 p85 p86 i48 h0 n0 _ T778.heap _
          rw [e778]
          exact Or.inr <| Or.inr <| Or.inr <| ⟨b753, hc98, hc218, hc475, rfl, N778, (((((((Keep.refl h0 []).ext E752).ext E758).wr W767 (Or.inr B763)).wr W771 (Or.inr B763)).wr W775 (Or.inr B763)).trans K778 (allS (Or.inr B755) all0)), B755, ex1040⟩
theorem pd_6 : parseMethodDescriptor "(IIII)Ljava/lang/String;" = some ⟨[.int, .int, .int, .int], some (.object "java/lang/String")⟩ := by decide +kernel
theorem d8_0 : decode prog_20_method_7_code 0 = .ok (.aload_n 0, 1) := by decide +kernel
theorem d8_1 : decode prog_20_method_7_code 1 = .ok (.getfield 35, 3) := by decide +kernel
theorem d8_4 : decode prog_20_method_7_code 4 = .ok (.ifCond .eq 11, 3) := by decide +kernel
theorem d8_15 : decode prog_20_method_7_code 15 = .ok (.ldc 48, 2) := by decide +kernel
theorem d8_17 : decode prog_20_method_7_code 17 = .ok (.areturn, 1) := by decide +kernel
theorem ef_7 (m : MethodId) (x0 : Addr) (x1 : Addr) : entryFrame m #[(.ref x0), (.ref x1)] 2 = mkF m 0 #[rv x0, rv x1] [] := by first | (simp [entryFrame, mkF, argsToLocals, Value.category]; done) | rfl
theorem pn_4 : plainName "com/example/ledgerd/ledgerd/core/DocumentType" = true := by first | (simp [plainName, overriddenIn]; done) | decide +kernel
def Q19 (Z : State) (w32 : Addr) (a1073 : Addr) (h0 : Heap) (n0 : Nat) (v : Option Value) (h : Heap) (L : List Loc) : Prop := (∃ (b1088 : Addr) (b1089 : Addr) (k1087 : ClassId), v = some (.ref b1088) ∧ Fr n0 L ∧ Keep h0 h [] ∧ Exa Z h b1088 zs2 ∧ Fld Z h b1088 zs2 "value" "[B" (.ref b1089) ∧ Arv Z h b1089 k1087 .byte (0 : Int32) [] (.int (0 : Int32)))
set_option maxRecDepth 65536 in
set_option maxHeartbeats 40000000 in
theorem rm19 (l : Launch) (Z : State) (a0 : Array Value) (hw : ∀ d ∈ tables_1, d.before a0 Z = true) (ws : List Jvm.Cond) (w32 : Addr) (a1073 : Addr) (h0 : Heap) (n0 : Nat) (O0 : Old Z n0 h0) (SF_w32_purchase : Fld Z Z.heap w32 zs1 "purchase" "Z" (.int (0 : Int32))) :
    MetFree l (⟨zs1, zs8, zs4⟩ : MethodName) (head1 (Jvm.Cond.code (⟨zs1, zs8, zs4⟩ : MethodName) prog_20_method_7_code 2 (some (.object zs2)) :: ws) ({ frames := 0, cells := 2, slots := 4, locals := 0 } : Room)) (fun a U => a = #[(.ref w32), (.ref a1073)] ∧ Z.Warmed39 U.vm ∧ U.heap = h0 ∧ CHv Z consts_1 U.vm h0) (fun _ _ _ _ _ => True) (fun _ U o U' => ∃ v L, o = .returned v ∧ Q19 Z w32 a1073 h0 n0 v U'.heap L ∧ CHr Z consts_1 U.vm U.heap U'.vm U'.heap ∧ ReturnedEndW U o U' L ({ frames := 0, cells := 2, slots := 4, locals := 0 } : Room).cells ({ frames := 0, cells := 2, slots := 4, locals := 0 } : Room).slots) := by
  refine MetFree.of_bodySF (plainFor_of_name pn_4) hisR ?_
  intro p e s m args below meth c s₁ Bd hml0 hP hK
  obtain ⟨rfl, hZ, hh, hC⟩ := hP
  have hx := Bd.exec
  have hby := Bd.bytes
  have hml : c.maxLocals = 2 := hml0
  have hown : s.vm.findClass zs1 = some m.cls := findClass_of_methodNamed Bd.named
  have hnm := (name_of_methodNamed Bd.named Bd.method).1
  have X0 : Stand p l e ({ frames := 0, cells := 2, slots := 4, locals := 0 } : Room) (s.setVm s.vm) m #[(.ref w32), (.ref a1073)] below meth c s₁ [] 0 0 := Stand.of_body Bd
  have hS : s.Since s.vm 0 := (State.WarmedH.refl s).since 0
  obtain ⟨k0, hk0, hS⟩ : ∃ k0, k0 ≤ h0.size ∧ s.Since s.vm k0 := ⟨0, Nat.zero_le _, hS⟩
  have hZ : Z.Warmed39 (s.setVm s.vm).vm := hZ
  have hown : (s.setVm s.vm).vm.findClass zs1 = some m.cls := hown
  have C0 : CHr Z consts_1 s.vm h0 s.vm h0 := CHr.refl hC
  have hEE := own_ee hw
  have e0 : s₁.heap = h0 := by rw [← hh, Bd.state]; rfl
  have N0 := Fr.nil n0
  refine own_out ?_
  refine own_via (fun t k => castTop (ef_7 m w32 a1073) (XS.aloadN X0.here hx rfl (hb hby d8_0) rfl rfl k)) ?_
  obtain ⟨T1086, X1086, e1086, st1086⟩ := getF X0 hx hZ hown (host := "") (Or.inl (wd hw 51 rfl)) Via.refl e0 (SF_w32_purchase.ext O0.2) (g := (mkF m 1 #[rv w32, rv a1073] [(.ref w32)])) rfl rfl (hb hby d8_1)
  refine own_via (fun t k => st1086 t (XS.ifYes X1086.here hx rfl (pc0 := 4) (pc' := 15) rfl (hb hby d8_4) rfl ((if0 _ _).trans (teq (by decide : (0 : Int32) = (0 : Int32))).1) (by decide) (by decide) k)) ?_
  obtain ⟨b1088, T1087, h1087, kj1087, b1089, k1087, X1087, e1087, E1087, hS, hk1087, hZ, hown, Lx1087, Lc1087, Lv1087, La1087, -, -, Cr1087, -, -, st1087⟩ := ldcCH X1086 hx hZ hown (wd hw 53 rfl) (own_strAtoms hw) e1086 hS hk0 hEE.ew (List.mem_of_getElem? (i := 0) rfl) C0.1 (vs := []) (z := 0) ⟨by simp, rfl⟩ (by decide) (by decide) (g := (mkF m 15 #[rv w32, rv a1073] [])) rfl (hb hby d8_15) (n := 0) (by decide) (by decide) (by decide) (by decide)
  refine own_via (fun t k => st1087 t k) ?_
  have C1090 := C0.trans Cr1087
  show own_Goes p e below (T1087.setTop (mkF m 17 #[rv w32, rv a1073] [(.ref b1088)])) _
  obtain ⟨fs, hr, hrun, hended, hRW⟩ := X1087.leaveW hS (by rw [e1087]; first | exact hk1087 | exact Nat.le_refl _) (v := some (.ref b1088)) (fun h => by rw [Bd.returns] at h; cases h)
  have Cz : CHr Z consts_1 s.vm s.heap T1087.vm T1087.heap := own_chr (C1090.trans (CHv.at X1087 hZ hEE.ew C1090.1)) hh e1087
  refine own_end (t := T1087.setFrames fs) ?_ ⟨_, hrun, hended, _, _, rfl, ?_, Cz, own_rmono hRW (by decide) (by decide)⟩
  · jvm_step X1087.here [X1087.here.top, hx, (hb hby d8_17), X1087.method', Bd.returns, Value.isRef, FieldType.isReference]
    first | (intro acts; rw [hr _ acts rfl rfl rfl]) | rw [hr _ _ rfl rfl rfl]
    exact Steps.refl _
  · show Q19 Z w32 a1073 h0 n0 _ T1087.heap _
    rw [e1087]
    exact ⟨b1088, b1089, k1087, rfl, N0, ((Keep.refl h0 []).ext E1087), Lx1087, Lv1087, La1087⟩
theorem pd_7 : parseMethodDescriptor "(Ljava/lang/String;)Ljava/lang/String;" = some ⟨[(.object "java/lang/String")], some (.object "java/lang/String")⟩ := by decide +kernel
theorem d9_0 : decode jdk_42_method_55_code 0 = .ok (.aload_n 0, 1) := by decide +kernel
theorem d9_1 : decode jdk_42_method_55_code 1 = .ok (.getfield 9, 3) := by decide +kernel
theorem d9_4 : decode jdk_42_method_55_code 4 = .ok (.arraylength, 1) := by decide +kernel
theorem d9_5 : decode jdk_42_method_55_code 5 = .ok (.ifCond .ne 7, 3) := by decide +kernel
theorem d9_8 : decode jdk_42_method_55_code 8 = .ok (.iconst 1, 1) := by decide +kernel
theorem d9_9 : decode jdk_42_method_55_code 9 = .ok (.goto 4, 3) := by decide +kernel
theorem d9_13 : decode jdk_42_method_55_code 13 = .ok (.ireturn, 1) := by decide +kernel
theorem ef_8 (m : MethodId) (x0 : Addr) : entryFrame m #[(.ref x0)] 1 = mkF m 0 #[rv x0] [] := by first | (simp [entryFrame, mkF, argsToLocals, Value.category]; done) | rfl
def Q20 (Z : State) (a1104 : Addr) (a1108 : Addr) (h0 : Heap) (n0 : Nat) (v : Option Value) (h : Heap) (L : List Loc) : Prop := v = some (.int (1 : Int32)) ∧ Fr n0 L ∧ h = h0
set_option maxRecDepth 65536 in
set_option maxHeartbeats 40000000 in
theorem rm20 (l : Launch) (Z : State) (a0 : Array Value) (hw : ∀ d ∈ tables_1, d.before a0 Z = true) (ws : List Jvm.Cond) (a1104 : Addr) (a1108 : Addr) (h0 : Heap) (n0 : Nat) (O0 : Old Z n0 h0) (pF_a1104_value : Fld Z h0 a1104 zs2 "value" "[B" (.ref a1108)) (pL_a1108 : own_Len Z h0 a1108 .byte (0 : Int32)) :
    MetFree l (⟨zs2, "isEmpty", "()Z"⟩ : MethodName) (head1 (Jvm.Cond.code (⟨zs2, "isEmpty", "()Z"⟩ : MethodName) jdk_42_method_55_code 1 (some .boolean) :: ws) ({ frames := 0, cells := 0, slots := 0, locals := 0 } : Room)) (fun a U => a = #[(.ref a1104)] ∧ Z.Warmed39 U.vm ∧ U.heap = h0 ∧ CHv Z consts_1 U.vm h0) (fun _ _ _ _ _ => True) (fun _ U o U' => ∃ v L, o = .returned v ∧ Q20 Z a1104 a1108 h0 n0 v U'.heap L ∧ CHr Z consts_1 U.vm U.heap U'.vm U'.heap ∧ ReturnedEndW U o U' L ({ frames := 0, cells := 0, slots := 0, locals := 0 } : Room).cells ({ frames := 0, cells := 0, slots := 0, locals := 0 } : Room).slots) := by
  refine MetFree.of_bodySF (plainFor_of_name pn_1) hisR ?_
  intro p e s m args below meth c s₁ Bd hml0 hP hK
  obtain ⟨rfl, hZ, hh, hC⟩ := hP
  have hx := Bd.exec
  have hby := Bd.bytes
  have hml : c.maxLocals = 1 := hml0
  have hown : s.vm.findClass zs2 = some m.cls := findClass_of_methodNamed Bd.named
  have hnm := (name_of_methodNamed Bd.named Bd.method).1
  have X0 : Stand p l e ({ frames := 0, cells := 0, slots := 0, locals := 0 } : Room) (s.setVm s.vm) m #[(.ref a1104)] below meth c s₁ [] 0 0 := Stand.of_body Bd
  have hS : s.Since s.vm 0 := (State.WarmedH.refl s).since 0
  obtain ⟨k0, hk0, hS⟩ : ∃ k0, k0 ≤ h0.size ∧ s.Since s.vm k0 := ⟨0, Nat.zero_le _, hS⟩
  have hZ : Z.Warmed39 (s.setVm s.vm).vm := hZ
  have hown : (s.setVm s.vm).vm.findClass zs2 = some m.cls := hown
  have C0 : CHr Z consts_1 s.vm h0 s.vm h0 := CHr.refl hC
  have hEE := own_ee hw
  have e0 : s₁.heap = h0 := by rw [← hh, Bd.state]; rfl
  have N0 := Fr.nil n0
  refine own_out ?_
  refine own_via (fun t k => castTop (ef_8 m a1104) (XS.aloadN X0.here hx rfl (hb hby d9_0) rfl rfl k)) ?_
  obtain ⟨T1120, X1120, e1120, st1120⟩ := getF X0 hx hZ hown (host := "") (Or.inl (wd hw 44 rfl)) Via.refl e0 pF_a1104_value (g := (mkF m 1 #[rv a1104] [(.ref a1104)])) rfl rfl (hb hby d9_1)
  refine own_via (fun t k => st1120 t k) ?_
  obtain ⟨_, _, _, V1121⟩ := id (pL_a1108)
  obtain ⟨cl1121, Ar1121, -, S1121, M1121, -, -⟩ := id (V1121)
  refine own_via (fun t k => X1120.arraylength hx (by rw [e1120]; exact Ar1121.1) (State.isArrayOf_alike hZ.alike Ar1121.2.1) (g := (mkF m 4 #[rv a1104] [(.ref a1108)])) rfl rfl (hb hby d9_4) t k) ?_
  rw [len_of S1121 M1121]
  show own_Goes p e below (T1120.setTop (mkF m 5 #[rv a1104] [(.int (0 : Int32))])) _
  refine own_via (fun t k => XS.ifNo X1120.here hx rfl (hb hby d9_5) rfl ((if0 _ _).trans (teq (by decide : (0 : Int32) = (0 : Int32))).2) (XS.iconst X1120.here hx rfl (hb hby d9_8) (XS.goto X1120.here hx rfl (pc0 := 9) (pc' := 13) rfl (hb hby d9_9) (by decide) (by decide) k))) ?_
  show own_Goes p e below (T1120.setTop (mkF m 13 #[rv a1104] [(.int (1 : Int32))])) _
  obtain ⟨fs, hr, hrun, hended, hRW⟩ := X1120.leaveW hS (by rw [e1120]; first | exact hk0 | exact Nat.le_refl _) (v := some (.int (1 : Int32))) (fun h => by rw [Bd.returns] at h; cases h)
  have Cz : CHr Z consts_1 s.vm s.heap T1120.vm T1120.heap := own_chr (C0.trans (CHv.at X1120 hZ hEE.ew C0.1)) hh e1120
  refine own_end (t := T1120.setFrames fs) ?_ ⟨_, hrun, hended, _, _, rfl, ?_, Cz, own_rmono hRW (by decide) (by decide)⟩
  · exact retN X1120 hx (t := .boolean) Bd.returns (by simp) (hb hby d9_13) hr
  · show Q20 Z a1104 a1108 h0 n0 _ T1120.heap _
    rw [e1120]
    exact ⟨rfl, N0, rfl⟩
theorem pd_8 : parseMethodDescriptor "()Z" = some ⟨[], some .boolean⟩ := by decide +kernel
theorem ef_9 (m : MethodId) (x0 : Addr) : entryFrame m #[(.ref x0), .null] 2 = mkF m 0 #[rv x0, .val .null] [] := by first | (simp [entryFrame, mkF, argsToLocals, Value.category]; done) | rfl
def Q21 (Z : State) (w32 : Addr) (h0 : Heap) (n0 : Nat) (v : Option Value) (h : Heap) (L : List Loc) : Prop := (∃ (b1210 : Addr) (b1211 : Addr) (k1209 : ClassId), v = some (.ref b1210) ∧ Fr n0 L ∧ Keep h0 h [] ∧ Exa Z h b1210 zs2 ∧ Fld Z h b1210 zs2 "value" "[B" (.ref b1211) ∧ Arv Z h b1211 k1209 .byte (0 : Int32) [] (.int (0 : Int32)))
set_option maxRecDepth 65536 in
set_option maxHeartbeats 40000000 in
theorem rm21 (l : Launch) (Z : State) (a0 : Array Value) (hw : ∀ d ∈ tables_1, d.before a0 Z = true) (ws : List Jvm.Cond) (w32 : Addr) (h0 : Heap) (n0 : Nat) (O0 : Old Z n0 h0) (SF_w32_purchase : Fld Z Z.heap w32 zs1 "purchase" "Z" (.int (0 : Int32))) :
    MetFree l (⟨zs1, zs8, zs4⟩ : MethodName) (head1 (Jvm.Cond.code (⟨zs1, zs8, zs4⟩ : MethodName) prog_20_method_7_code 2 (some (.object zs2)) :: ws) ({ frames := 0, cells := 2, slots := 4, locals := 0 } : Room)) (fun a U => a = #[(.ref w32), .null] ∧ Z.Warmed39 U.vm ∧ U.heap = h0 ∧ CHv Z consts_1 U.vm h0) (fun _ _ _ _ _ => True) (fun _ U o U' => ∃ v L, o = .returned v ∧ Q21 Z w32 h0 n0 v U'.heap L ∧ CHr Z consts_1 U.vm U.heap U'.vm U'.heap ∧ ReturnedEndW U o U' L ({ frames := 0, cells := 2, slots := 4, locals := 0 } : Room).cells ({ frames := 0, cells := 2, slots := 4, locals := 0 } : Room).slots) := by
  refine MetFree.of_bodySF (plainFor_of_name pn_4) hisR ?_
  intro p e s m args below meth c s₁ Bd hml0 hP hK
  obtain ⟨rfl, hZ, hh, hC⟩ := hP
  have hx := Bd.exec
  have hby := Bd.bytes
  have hml : c.maxLocals = 2 := hml0
  have hown : s.vm.findClass zs1 = some m.cls := findClass_of_methodNamed Bd.named
  have hnm := (name_of_methodNamed Bd.named Bd.method).1
  have X0 : Stand p l e ({ frames := 0, cells := 2, slots := 4, locals := 0 } : Room) (s.setVm s.vm) m #[(.ref w32), .null] below meth c s₁ [] 0 0 := Stand.of_body Bd
  have hS : s.Since s.vm 0 := (State.WarmedH.refl s).since 0
  obtain ⟨k0, hk0, hS⟩ : ∃ k0, k0 ≤ h0.size ∧ s.Since s.vm k0 := ⟨0, Nat.zero_le _, hS⟩
  have hZ : Z.Warmed39 (s.setVm s.vm).vm := hZ
  have hown : (s.setVm s.vm).vm.findClass zs1 = some m.cls := hown
  have C0 : CHr Z consts_1 s.vm h0 s.vm h0 := CHr.refl hC
  have hEE := own_ee hw
  have e0 : s₁.heap = h0 := by rw [← hh, Bd.state]; rfl
  have N0 := Fr.nil n0
  refine own_out ?_
  refine own_via (fun t k => castTop (ef_9 m w32) (XS.aloadN X0.here hx rfl (hb hby d8_0) rfl rfl k)) ?_
  obtain ⟨T1208, X1208, e1208, st1208⟩ := getF X0 hx hZ hown (host := "") (Or.inl (wd hw 51 rfl)) Via.refl e0 (SF_w32_purchase.ext O0.2) (g := (mkF m 1 #[rv w32, .val .null] [(.ref w32)])) rfl rfl (hb hby d8_1)
  refine own_via (fun t k => st1208 t (XS.ifYes X1208.here hx rfl (pc0 := 4) (pc' := 15) rfl (hb hby d8_4) rfl ((if0 _ _).trans (teq (by decide : (0 : Int32) = (0 : Int32))).1) (by decide) (by decide) k)) ?_
  obtain ⟨b1210, T1209, h1209, kj1209, b1211, k1209, X1209, e1209, E1209, hS, hk1209, hZ, hown, Lx1209, Lc1209, Lv1209, La1209, -, -, Cr1209, -, -, st1209⟩ := ldcCH X1208 hx hZ hown (wd hw 53 rfl) (own_strAtoms hw) e1208 hS hk0 hEE.ew (List.mem_of_getElem? (i := 0) rfl) C0.1 (vs := []) (z := 0) ⟨by simp, rfl⟩ (by decide) (by decide) (g := (mkF m 15 #[rv w32, .val .null] [])) rfl (hb hby d8_15) (n := 0) (by decide) (by decide) (by decide) (by decide)
  refine own_via (fun t k => st1209 t k) ?_
  have C1212 := C0.trans Cr1209
  show own_Goes p e below (T1209.setTop (mkF m 17 #[rv w32, .val .null] [(.ref b1210)])) _
  obtain ⟨fs, hr, hrun, hended, hRW⟩ := X1209.leaveW hS (by rw [e1209]; first | exact hk1209 | exact Nat.le_refl _) (v := some (.ref b1210)) (fun h => by rw [Bd.returns] at h; cases h)
  have Cz : CHr Z consts_1 s.vm s.heap T1209.vm T1209.heap := own_chr (C1212.trans (CHv.at X1209 hZ hEE.ew C1212.1)) hh e1209
  refine own_end (t := T1209.setFrames fs) ?_ ⟨_, hrun, hended, _, _, rfl, ?_, Cz, own_rmono hRW (by decide) (by decide)⟩
  · jvm_step X1209.here [X1209.here.top, hx, (hb hby d8_17), X1209.method', Bd.returns, Value.isRef, FieldType.isReference]
    first | (intro acts; rw [hr _ acts rfl rfl rfl]) | rw [hr _ _ rfl rfl rfl]
    exact Steps.refl _
  · show Q21 Z w32 h0 n0 _ T1209.heap _
    rw [e1209]
    exact ⟨b1210, b1211, k1209, rfl, N0, ((Keep.refl h0 []).ext E1209), Lx1209, Lv1209, La1209⟩
theorem d8_7 : decode prog_20_method_7_code 7 = .ok (.aload_n 1, 1) := by decide +kernel
theorem d8_8 : decode prog_20_method_7_code 8 = .ok (.ifnull 7, 3) := by decide +kernel
theorem d8_11 : decode prog_20_method_7_code 11 = .ok (.aload_n 1, 1) := by decide +kernel
theorem d8_12 : decode prog_20_method_7_code 12 = .ok (.goto 5, 3) := by decide +kernel
def Q22 (Z : State) (w34 : Addr) (a1265 : Addr) (h0 : Heap) (n0 : Nat) (v : Option Value) (h : Heap) (L : List Loc) : Prop := v = some (.ref a1265) ∧ Fr n0 L ∧ h = h0
set_option maxRecDepth 65536 in
set_option maxHeartbeats 40000000 in
theorem rm22 (l : Launch) (Z : State) (a0 : Array Value) (hw : ∀ d ∈ tables_1, d.before a0 Z = true) (ws : List Jvm.Cond) (w34 : Addr) (a1265 : Addr) (h0 : Heap) (n0 : Nat) (O0 : Old Z n0 h0) (SF_w34_purchase : Fld Z Z.heap w34 zs1 "purchase" "Z" (.int (1 : Int32))) :
    MetFree l (⟨zs1, zs8, zs4⟩ : MethodName) (head1 (Jvm.Cond.code (⟨zs1, zs8, zs4⟩ : MethodName) prog_20_method_7_code 2 (some (.object zs2)) :: ws) ({ frames := 0, cells := 0, slots := 0, locals := 0 } : Room)) (fun a U => a = #[(.ref w34), (.ref a1265)] ∧ Z.Warmed39 U.vm ∧ U.heap = h0 ∧ CHv Z consts_1 U.vm h0) (fun _ _ _ _ _ => True) (fun _ U o U' => ∃ v L, o = .returned v ∧ Q22 Z w34 a1265 h0 n0 v U'.heap L ∧ CHr Z consts_1 U.vm U.heap U'.vm U'.heap ∧ ReturnedEndW U o U' L ({ frames := 0, cells := 0, slots := 0, locals := 0 } : Room).cells ({ frames := 0, cells := 0, slots := 0, locals := 0 } : Room).slots) := by
  refine MetFree.of_bodySF (plainFor_of_name pn_4) hisR ?_
  intro p e s m args below meth c s₁ Bd hml0 hP hK
  obtain ⟨rfl, hZ, hh, hC⟩ := hP
  have hx := Bd.exec
  have hby := Bd.bytes
  have hml : c.maxLocals = 2 := hml0
  have hown : s.vm.findClass zs1 = some m.cls := findClass_of_methodNamed Bd.named
  have hnm := (name_of_methodNamed Bd.named Bd.method).1
  have X0 : Stand p l e ({ frames := 0, cells := 0, slots := 0, locals := 0 } : Room) (s.setVm s.vm) m #[(.ref w34), (.ref a1265)] below meth c s₁ [] 0 0 := Stand.of_body Bd
  have hS : s.Since s.vm 0 := (State.WarmedH.refl s).since 0
  obtain ⟨k0, hk0, hS⟩ : ∃ k0, k0 ≤ h0.size ∧ s.Since s.vm k0 := ⟨0, Nat.zero_le _, hS⟩
  have hZ : Z.Warmed39 (s.setVm s.vm).vm := hZ
  have hown : (s.setVm s.vm).vm.findClass zs1 = some m.cls := hown
  have C0 : CHr Z consts_1 s.vm h0 s.vm h0 := CHr.refl hC
  have hEE := own_ee hw
  have e0 : s₁.heap = h0 := by rw [← hh, Bd.state]; rfl
  have N0 := Fr.nil n0
  refine own_out ?_
  refine own_via (fun t k => castTop (ef_7 m w34 a1265) (XS.aloadN X0.here hx rfl (hb hby d8_0) rfl rfl k)) ?_
  obtain ⟨T1278, X1278, e1278, st1278⟩ := getF X0 hx hZ hown (host := "") (Or.inl (wd hw 51 rfl)) Via.refl e0 (SF_w34_purchase.ext O0.2) (g := (mkF m 1 #[rv w34, rv a1265] [(.ref w34)])) rfl rfl (hb hby d8_1)
  refine own_via (fun t k => st1278 t (XS.ifNo X1278.here hx rfl (hb hby d8_4) rfl ((if0 _ _).trans (feq (by decide : ¬ ((1 : Int32) = (0 : Int32)))).1) (XS.aloadN X1278.here hx rfl (hb hby d8_7) rfl rfl (XS.ifnullNo X1278.here hx rfl (hb hby d8_8) rfl (XS.aloadN X1278.here hx rfl (hb hby d8_11) rfl rfl (XS.goto X1278.here hx rfl (pc0 := 12) (pc' := 17) rfl (hb hby d8_12) (by decide) (by decide) k)))))) ?_
  show own_Goes p e below (T1278.setTop (mkF m 17 #[rv w34, rv a1265] [(.ref a1265)])) _
  obtain ⟨fs, hr, hrun, hended, hRW⟩ := X1278.leaveW hS (by rw [e1278]; first | exact hk0 | exact Nat.le_refl _) (v := some (.ref a1265)) (fun h => by rw [Bd.returns] at h; cases h)
  have Cz : CHr Z consts_1 s.vm s.heap T1278.vm T1278.heap := own_chr (C0.trans (CHv.at X1278 hZ hEE.ew C0.1)) hh e1278
  refine own_end (t := T1278.setFrames fs) ?_ ⟨_, hrun, hended, _, _, rfl, ?_, Cz, own_rmono hRW (by decide) (by decide)⟩
  · jvm_step X1278.here [X1278.here.top, hx, (hb hby d8_17), X1278.method', Bd.returns, Value.isRef, FieldType.isReference]
    first | (intro acts; rw [hr _ acts rfl rfl rfl]) | rw [hr _ _ rfl rfl rfl]
    exact Steps.refl _
  · show Q22 Z w34 a1265 h0 n0 _ T1278.heap _
    rw [e1278]
    exact ⟨rfl, N0, rfl⟩
theorem d10_0 : decode jdk_42_method_66_code 0 = .ok (.aload_n 0, 1) := by decide +kernel
theorem d10_1 : decode jdk_42_method_66_code 1 = .ok (.aload_n 1, 1) := by decide +kernel
theorem d10_2 : decode jdk_42_method_66_code 2 = .ok (.if_acmp .ne 5, 3) := by decide +kernel
theorem d10_5 : decode jdk_42_method_66_code 5 = .ok (.iconst 1, 1) := by decide +kernel
theorem d10_6 : decode jdk_42_method_66_code 6 = .ok (.ireturn, 1) := by decide +kernel
theorem ef_10 (m : MethodId) (x0 : Addr) (x1 : Addr) : entryFrame m #[(.ref x0), (.ref x1)] 3 = mkF m 0 #[rv x0, rv x1, .unset] [] := by first | (simp [entryFrame, mkF, argsToLocals, Value.category]; done) | rfl
def Q23 (Z : State) (a1285 : Addr) (h0 : Heap) (n0 : Nat) (v : Option Value) (h : Heap) (L : List Loc) : Prop := v = some (.int (1 : Int32)) ∧ Fr n0 L ∧ h = h0
set_option maxRecDepth 65536 in
set_option maxHeartbeats 40000000 in
theorem rm23 (l : Launch) (Z : State) (a0 : Array Value) (hw : ∀ d ∈ tables_1, d.before a0 Z = true) (ws : List Jvm.Cond) (a1285 : Addr) (h0 : Heap) (n0 : Nat) (O0 : Old Z n0 h0) :
    MetFree l (⟨zs2, "equals", "(Ljava/lang/Object;)Z"⟩ : MethodName) (head1 (Jvm.Cond.code (⟨zs2, "equals", "(Ljava/lang/Object;)Z"⟩ : MethodName) jdk_42_method_66_code 3 (some .boolean) :: ws) ({ frames := 0, cells := 0, slots := 0, locals := 0 } : Room)) (fun a U => a = #[(.ref a1285), (.ref a1285)] ∧ Z.Warmed39 U.vm ∧ U.heap = h0 ∧ CHv Z consts_1 U.vm h0) (fun _ _ _ _ _ => True) (fun _ U o U' => ∃ v L, o = .returned v ∧ Q23 Z a1285 h0 n0 v U'.heap L ∧ CHr Z consts_1 U.vm U.heap U'.vm U'.heap ∧ ReturnedEndW U o U' L ({ frames := 0, cells := 0, slots := 0, locals := 0 } : Room).cells ({ frames := 0, cells := 0, slots := 0, locals := 0 } : Room).slots) := by
  refine MetFree.of_bodySF (plainFor_of_name pn_1) hisR ?_
  intro p e s m args below meth c s₁ Bd hml0 hP hK
  obtain ⟨rfl, hZ, hh, hC⟩ := hP
  have hx := Bd.exec
  have hby := Bd.bytes
  have hml : c.maxLocals = 3 := hml0
  have hown : s.vm.findClass zs2 = some m.cls := findClass_of_methodNamed Bd.named
  have hnm := (name_of_methodNamed Bd.named Bd.method).1
  have X0 : Stand p l e ({ frames := 0, cells := 0, slots := 0, locals := 0 } : Room) (s.setVm s.vm) m #[(.ref a1285), (.ref a1285)] below meth c s₁ [] 0 0 := Stand.of_body Bd
  have hS : s.Since s.vm 0 := (State.WarmedH.refl s).since 0
  obtain ⟨k0, hk0, hS⟩ : ∃ k0, k0 ≤ h0.size ∧ s.Since s.vm k0 := ⟨0, Nat.zero_le _, hS⟩
  have hZ : Z.Warmed39 (s.setVm s.vm).vm := hZ
  have hown : (s.setVm s.vm).vm.findClass zs2 = some m.cls := hown
  have C0 : CHr Z consts_1 s.vm h0 s.vm h0 := CHr.refl hC
  have hEE := own_ee hw
  have e0 : s₁.heap = h0 := by rw [← hh, Bd.state]; rfl
  have N0 := Fr.nil n0
  refine own_out ?_
  refine own_via (fun t k => castTop (ef_10 m a1285 a1285) (XS.aloadN X0.here hx rfl (hb hby d10_0) rfl rfl (XS.aloadN X0.here hx rfl (hb hby d10_1) rfl rfl (Jvm.RoadKit.acmp (g := (mkF m 2 #[rv a1285, rv a1285, .unset] [(.ref a1285), (.ref a1285)])) X0 hx rfl rfl rfl (pc0 := 2) (pc' := 5) (same := true) rfl (hb hby d10_2) rfl (decide_eq_true rfl) (by decide) (by decide) (XS.iconst X0.here hx rfl (hb hby d10_5) k))))) ?_
  show own_Goes p e below (s₁.setTop (mkF m 6 #[rv a1285, rv a1285, .unset] [(.int (1 : Int32))])) _
  obtain ⟨fs, hr, hrun, hended, hRW⟩ := X0.leaveW hS (by rw [e0]; first | exact hk0 | exact Nat.le_refl _) (v := some (.int (1 : Int32))) (fun h => by rw [Bd.returns] at h; cases h)
  have Cz : CHr Z consts_1 s.vm s.heap s₁.vm s₁.heap := own_chr (C0.trans (CHv.at X0 hZ hEE.ew C0.1)) hh e0
  refine own_end (t := s₁.setFrames fs) ?_ ⟨_, hrun, hended, _, _, rfl, ?_, Cz, own_rmono hRW (by decide) (by decide)⟩
  · exact retN X0 hx (t := .boolean) Bd.returns (by simp) (hb hby d10_6) hr
  · show Q23 Z a1285 h0 n0 _ s₁.heap _
    rw [e0]
    exact ⟨rfl, N0, rfl⟩
theorem pd_9 : parseMethodDescriptor "(Ljava/lang/Object;)Z" = some ⟨[(.object "java/lang/Object")], some .boolean⟩ := by decide +kernel
def Q24 (Z : State) (w34 : Addr) (h0 : Heap) (n0 : Nat) (v : Option Value) (h : Heap) (L : List Loc) : Prop := (∃ (b1361 : Addr) (b1362 : Addr) (k1360 : ClassId), v = some (.ref b1361) ∧ Fr n0 L ∧ Keep h0 h [] ∧ Exa Z h b1361 zs2 ∧ Fld Z h b1361 zs2 "value" "[B" (.ref b1362) ∧ Arv Z h b1362 k1360 .byte (0 : Int32) [] (.int (0 : Int32)))
set_option maxRecDepth 65536 in
set_option maxHeartbeats 40000000 in
theorem rm24 (l : Launch) (Z : State) (a0 : Array Value) (hw : ∀ d ∈ tables_1, d.before a0 Z = true) (ws : List Jvm.Cond) (w34 : Addr) (h0 : Heap) (n0 : Nat) (O0 : Old Z n0 h0) (SF_w34_purchase : Fld Z Z.heap w34 zs1 "purchase" "Z" (.int (1 : Int32))) :
    MetFree l (⟨zs1, zs8, zs4⟩ : MethodName) (head1 (Jvm.Cond.code (⟨zs1, zs8, zs4⟩ : MethodName) prog_20_method_7_code 2 (some (.object zs2)) :: ws) ({ frames := 0, cells := 2, slots := 4, locals := 0 } : Room)) (fun a U => a = #[(.ref w34), .null] ∧ Z.Warmed39 U.vm ∧ U.heap = h0 ∧ CHv Z consts_1 U.vm h0) (fun _ _ _ _ _ => True) (fun _ U o U' => ∃ v L, o = .returned v ∧ Q24 Z w34 h0 n0 v U'.heap L ∧ CHr Z consts_1 U.vm U.heap U'.vm U'.heap ∧ ReturnedEndW U o U' L ({ frames := 0, cells := 2, slots := 4, locals := 0 } : Room).cells ({ frames := 0, cells := 2, slots := 4, locals := 0 } : Room).slots) := by
  refine MetFree.of_bodySF (plainFor_of_name pn_4) hisR ?_
  intro p e s m args below meth c s₁ Bd hml0 hP hK
  obtain ⟨rfl, hZ, hh, hC⟩ := hP
  have hx := Bd.exec
  have hby := Bd.bytes
  have hml : c.maxLocals = 2 := hml0
  have hown : s.vm.findClass zs1 = some m.cls := findClass_of_methodNamed Bd.named
  have hnm := (name_of_methodNamed Bd.named Bd.method).1
  have X0 : Stand p l e ({ frames := 0, cells := 2, slots := 4, locals := 0 } : Room) (s.setVm s.vm) m #[(.ref w34), .null] below meth c s₁ [] 0 0 := Stand.of_body Bd
  have hS : s.Since s.vm 0 := (State.WarmedH.refl s).since 0
  obtain ⟨k0, hk0, hS⟩ : ∃ k0, k0 ≤ h0.size ∧ s.Since s.vm k0 := ⟨0, Nat.zero_le _, hS⟩
  have hZ : Z.Warmed39 (s.setVm s.vm).vm := hZ
  have hown : (s.setVm s.vm).vm.findClass zs1 = some m.cls := hown
  have C0 : CHr Z consts_1 s.vm h0 s.vm h0 := CHr.refl hC
  have hEE := own_ee hw
  have e0 : s₁.heap = h0 := by rw [← hh, Bd.state]; rfl
  have N0 := Fr.nil n0
  refine own_out ?_
  refine own_via (fun t k => castTop (ef_9 m w34) (XS.aloadN X0.here hx rfl (hb hby d8_0) rfl rfl k)) ?_
  obtain ⟨T1359, X1359, e1359, st1359⟩ := getF X0 hx hZ hown (host := "") (Or.inl (wd hw 51 rfl)) Via.refl e0 (SF_w34_purchase.ext O0.2) (g := (mkF m 1 #[rv w34, .val .null] [(.ref w34)])) rfl rfl (hb hby d8_1)
  refine own_via (fun t k => st1359 t (XS.ifNo X1359.here hx rfl (hb hby d8_4) rfl ((if0 _ _).trans (feq (by decide : ¬ ((1 : Int32) = (0 : Int32)))).1) (XS.aloadN X1359.here hx rfl (hb hby d8_7) rfl rfl (XS.ifnullYes X1359.here hx rfl (pc0 := 8) (pc' := 15) rfl (hb hby d8_8) rfl (by decide) (by decide) k)))) ?_
  show own_Goes p e below (T1359.setTop (mkF m 15 #[rv w34, .val .null] [])) _
  obtain ⟨b1361, T1360, h1360, kj1360, b1362, k1360, X1360, e1360, E1360, hS, hk1360, hZ, hown, Lx1360, Lc1360, Lv1360, La1360, -, -, Cr1360, -, -, st1360⟩ := ldcCH X1359 hx hZ hown (wd hw 53 rfl) (own_strAtoms hw) e1359 hS hk0 hEE.ew (List.mem_of_getElem? (i := 0) rfl) C0.1 (vs := []) (z := 0) ⟨by simp, rfl⟩ (by decide) (by decide) (g := (mkF m 15 #[rv w34, .val .null] [])) rfl (hb hby d8_15) (n := 0) (by decide) (by decide) (by decide) (by decide)
  refine own_via (fun t k => st1360 t k) ?_
  have C1363 := C0.trans Cr1360
  show own_Goes p e below (T1360.setTop (mkF m 17 #[rv w34, .val .null] [(.ref b1361)])) _
  obtain ⟨fs, hr, hrun, hended, hRW⟩ := X1360.leaveW hS (by rw [e1360]; first | exact hk1360 | exact Nat.le_refl _) (v := some (.ref b1361)) (fun h => by rw [Bd.returns] at h; cases h)
  have Cz : CHr Z consts_1 s.vm s.heap T1360.vm T1360.heap := own_chr (C1363.trans (CHv.at X1360 hZ hEE.ew C1363.1)) hh e1360
  refine own_end (t := T1360.setFrames fs) ?_ ⟨_, hrun, hended, _, _, rfl, ?_, Cz, own_rmono hRW (by decide) (by decide)⟩
  · jvm_step X1360.here [X1360.here.top, hx, (hb hby d8_17), X1360.method', Bd.returns, Value.isRef, FieldType.isReference]
    first | (intro acts; rw [hr _ acts rfl rfl rfl]) | rw [hr _ _ rfl rfl rfl]
    exact Steps.refl _
  · show Q24 Z w34 h0 n0 _ T1360.heap _
    rw [e1360]
    exact ⟨b1361, b1362, k1360, rfl, N0, ((Keep.refl h0 []).ext E1360), Lx1360, Lv1360, La1360⟩
def Q25 (Z : State) (w36 : Addr) (a1415 : Addr) (h0 : Heap) (n0 : Nat) (v : Option Value) (h : Heap) (L : List Loc) : Prop := (∃ (b1430 : Addr) (b1431 : Addr) (k1429 : ClassId), v = some (.ref b1430) ∧ Fr n0 L ∧ Keep h0 h [] ∧ Exa Z h b1430 zs2 ∧ Fld Z h b1430 zs2 "value" "[B" (.ref b1431) ∧ Arv Z h b1431 k1429 .byte (0 : Int32) [] (.int (0 : Int32)))
set_option maxRecDepth 65536 in
set_option maxHeartbeats 40000000 in
theorem rm25 (l : Launch) (Z : State) (a0 : Array Value) (hw : ∀ d ∈ tables_1, d.before a0 Z = true) (ws : List Jvm.Cond) (w36 : Addr) (a1415 : Addr) (h0 : Heap) (n0 : Nat) (O0 : Old Z n0 h0) (SF_w36_purchase : Fld Z Z.heap w36 zs1 "purchase" "Z" (.int (0 : Int32))) :
    MetFree l (⟨zs1, zs8, zs4⟩ : MethodName) (head1 (Jvm.Cond.code (⟨zs1, zs8, zs4⟩ : MethodName) prog_20_method_7_code 2 (some (.object zs2)) :: ws) ({ frames := 0, cells := 2, slots := 4, locals := 0 } : Room)) (fun a U => a = #[(.ref w36), (.ref a1415)] ∧ Z.Warmed39 U.vm ∧ U.heap = h0 ∧ CHv Z consts_1 U.vm h0) (fun _ _ _ _ _ => True) (fun _ U o U' => ∃ v L, o = .returned v ∧ Q25 Z w36 a1415 h0 n0 v U'.heap L ∧ CHr Z consts_1 U.vm U.heap U'.vm U'.heap ∧ ReturnedEndW U o U' L ({ frames := 0, cells := 2, slots := 4, locals := 0 } : Room).cells ({ frames := 0, cells := 2, slots := 4, locals := 0 } : Room).slots) := by
  refine MetFree.of_bodySF (plainFor_of_name pn_4) hisR ?_
  intro p e s m args below meth c s₁ Bd hml0 hP hK
  obtain ⟨rfl, hZ, hh, hC⟩ := hP
  have hx := Bd.exec
  have hby := Bd.bytes
  have hml : c.maxLocals = 2 := hml0
  have hown : s.vm.findClass zs1 = some m.cls := findClass_of_methodNamed Bd.named
  have hnm := (name_of_methodNamed Bd.named Bd.method).1
  have X0 : Stand p l e ({ frames := 0, cells := 2, slots := 4, locals := 0 } : Room) (s.setVm s.vm) m #[(.ref w36), (.ref a1415)] below meth c s₁ [] 0 0 := Stand.of_body Bd
  have hS : s.Since s.vm 0 := (State.WarmedH.refl s).since 0
  obtain ⟨k0, hk0, hS⟩ : ∃ k0, k0 ≤ h0.size ∧ s.Since s.vm k0 := ⟨0, Nat.zero_le _, hS⟩
  have hZ : Z.Warmed39 (s.setVm s.vm).vm := hZ
  have hown : (s.setVm s.vm).vm.findClass zs1 = some m.cls := hown
  have C0 : CHr Z consts_1 s.vm h0 s.vm h0 := CHr.refl hC
  have hEE := own_ee hw
  have e0 : s₁.heap = h0 := by rw [← hh, Bd.state]; rfl
  have N0 := Fr.nil n0
  refine own_out ?_
  refine own_via (fun t k => castTop (ef_7 m w36 a1415) (XS.aloadN X0.here hx rfl (hb hby d8_0) rfl rfl k)) ?_
  obtain ⟨T1428, X1428, e1428, st1428⟩ := getF X0 hx hZ hown (host := "") (Or.inl (wd hw 51 rfl)) Via.refl e0 (SF_w36_purchase.ext O0.2) (g := (mkF m 1 #[rv w36, rv a1415] [(.ref w36)])) rfl rfl (hb hby d8_1)
  refine own_via (fun t k => st1428 t (XS.ifYes X1428.here hx rfl (pc0 := 4) (pc' := 15) rfl (hb hby d8_4) rfl ((if0 _ _).trans (teq (by decide : (0 : Int32) = (0 : Int32))).1) (by decide) (by decide) k)) ?_
  obtain ⟨b1430, T1429, h1429, kj1429, b1431, k1429, X1429, e1429, E1429, hS, hk1429, hZ, hown, Lx1429, Lc1429, Lv1429, La1429, -, -, Cr1429, -, -, st1429⟩ := ldcCH X1428 hx hZ hown (wd hw 53 rfl) (own_strAtoms hw) e1428 hS hk0 hEE.ew (List.mem_of_getElem? (i := 0) rfl) C0.1 (vs := []) (z := 0) ⟨by simp, rfl⟩ (by decide) (by decide) (g := (mkF m 15 #[rv w36, rv a1415] [])) rfl (hb hby d8_15) (n := 0) (by decide) (by decide) (by decide) (by decide)
  refine own_via (fun t k => st1429 t k) ?_
  have C1432 := C0.trans Cr1429
  show own_Goes p e below (T1429.setTop (mkF m 17 #[rv w36, rv a1415] [(.ref b1430)])) _
  obtain ⟨fs, hr, hrun, hended, hRW⟩ := X1429.leaveW hS (by rw [e1429]; first | exact hk1429 | exact Nat.le_refl _) (v := some (.ref b1430)) (fun h => by rw [Bd.returns] at h; cases h)
  have Cz : CHr Z consts_1 s.vm s.heap T1429.vm T1429.heap := own_chr (C1432.trans (CHv.at X1429 hZ hEE.ew C1432.1)) hh e1429
  refine own_end (t := T1429.setFrames fs) ?_ ⟨_, hrun, hended, _, _, rfl, ?_, Cz, own_rmono hRW (by decide) (by decide)⟩
  · jvm_step X1429.here [X1429.here.top, hx, (hb hby d8_17), X1429.method', Bd.returns, Value.isRef, FieldType.isReference]
    first | (intro acts; rw [hr _ acts rfl rfl rfl]) | rw [hr _ _ rfl rfl rfl]
    exact Steps.refl _
  · show Q25 Z w36 a1415 h0 n0 _ T1429.heap _
    rw [e1429]
    exact ⟨b1430, b1431, k1429, rfl, N0, ((Keep.refl h0 []).ext E1429), Lx1429, Lv1429, La1429⟩
def Q26 (Z : State) (w36 : Addr) (h0 : Heap) (n0 : Nat) (v : Option Value) (h : Heap) (L : List Loc) : Prop := (∃ (b1534 : Addr) (b1535 : Addr) (k1533 : ClassId), v = some (.ref b1534) ∧ Fr n0 L ∧ Keep h0 h [] ∧ Exa Z h b1534 zs2 ∧ Fld Z h b1534 zs2 "value" "[B" (.ref b1535) ∧ Arv Z h b1535 k1533 .byte (0 : Int32) [] (.int (0 : Int32)))
set_option maxRecDepth 65536 in
set_option maxHeartbeats 40000000 in
theorem rm26 (l : Launch) (Z : State) (a0 : Array Value) (hw : ∀ d ∈ tables_1, d.before a0 Z = true) (ws : List Jvm.Cond) (w36 : Addr) (h0 : Heap) (n0 : Nat) (O0 : Old Z n0 h0) (SF_w36_purchase : Fld Z Z.heap w36 zs1 "purchase" "Z" (.int (0 : Int32))) :
    MetFree l (⟨zs1, zs8, zs4⟩ : MethodName) (head1 (Jvm.Cond.code (⟨zs1, zs8, zs4⟩ : MethodName) prog_20_method_7_code 2 (some (.object zs2)) :: ws) ({ frames := 0, cells := 2, slots := 4, locals := 0 } : Room)) (fun a U => a = #[(.ref w36), .null] ∧ Z.Warmed39 U.vm ∧ U.heap = h0 ∧ CHv Z consts_1 U.vm h0) (fun _ _ _ _ _ => True) (fun _ U o U' => ∃ v L, o = .returned v ∧ Q26 Z w36 h0 n0 v U'.heap L ∧ CHr Z consts_1 U.vm U.heap U'.vm U'.heap ∧ ReturnedEndW U o U' L ({ frames := 0, cells := 2, slots := 4, locals := 0 } : Room).cells ({ frames := 0, cells := 2, slots := 4, locals := 0 } : Room).slots) := by
  refine MetFree.of_bodySF (plainFor_of_name pn_4) hisR ?_
  intro p e s m args below meth c s₁ Bd hml0 hP hK
  obtain ⟨rfl, hZ, hh, hC⟩ := hP
  have hx := Bd.exec
  have hby := Bd.bytes
  have hml : c.maxLocals = 2 := hml0
  have hown : s.vm.findClass zs1 = some m.cls := findClass_of_methodNamed Bd.named
  have hnm := (name_of_methodNamed Bd.named Bd.method).1
  have X0 : Stand p l e ({ frames := 0, cells := 2, slots := 4, locals := 0 } : Room) (s.setVm s.vm) m #[(.ref w36), .null] below meth c s₁ [] 0 0 := Stand.of_body Bd
  have hS : s.Since s.vm 0 := (State.WarmedH.refl s).since 0
  obtain ⟨k0, hk0, hS⟩ : ∃ k0, k0 ≤ h0.size ∧ s.Since s.vm k0 := ⟨0, Nat.zero_le _, hS⟩
  have hZ : Z.Warmed39 (s.setVm s.vm).vm := hZ
  have hown : (s.setVm s.vm).vm.findClass zs1 = some m.cls := hown
  have C0 : CHr Z consts_1 s.vm h0 s.vm h0 := CHr.refl hC
  have hEE := own_ee hw
  have e0 : s₁.heap = h0 := by rw [← hh, Bd.state]; rfl
  have N0 := Fr.nil n0
  refine own_out ?_
  refine own_via (fun t k => castTop (ef_9 m w36) (XS.aloadN X0.here hx rfl (hb hby d8_0) rfl rfl k)) ?_
  obtain ⟨T1532, X1532, e1532, st1532⟩ := getF X0 hx hZ hown (host := "") (Or.inl (wd hw 51 rfl)) Via.refl e0 (SF_w36_purchase.ext O0.2) (g := (mkF m 1 #[rv w36, .val .null] [(.ref w36)])) rfl rfl (hb hby d8_1)
  refine own_via (fun t k => st1532 t (XS.ifYes X1532.here hx rfl (pc0 := 4) (pc' := 15) rfl (hb hby d8_4) rfl ((if0 _ _).trans (teq (by decide : (0 : Int32) = (0 : Int32))).1) (by decide) (by decide) k)) ?_
  obtain ⟨b1534, T1533, h1533, kj1533, b1535, k1533, X1533, e1533, E1533, hS, hk1533, hZ, hown, Lx1533, Lc1533, Lv1533, La1533, -, -, Cr1533, -, -, st1533⟩ := ldcCH X1532 hx hZ hown (wd hw 53 rfl) (own_strAtoms hw) e1532 hS hk0 hEE.ew (List.mem_of_getElem? (i := 0) rfl) C0.1 (vs := []) (z := 0) ⟨by simp, rfl⟩ (by decide) (by decide) (g := (mkF m 15 #[rv w36, .val .null] [])) rfl (hb hby d8_15) (n := 0) (by decide) (by decide) (by decide) (by decide)
  refine own_via (fun t k => st1533 t k) ?_
  have C1536 := C0.trans Cr1533
  show own_Goes p e below (T1533.setTop (mkF m 17 #[rv w36, .val .null] [(.ref b1534)])) _
  obtain ⟨fs, hr, hrun, hended, hRW⟩ := X1533.leaveW hS (by rw [e1533]; first | exact hk1533 | exact Nat.le_refl _) (v := some (.ref b1534)) (fun h => by rw [Bd.returns] at h; cases h)
  have Cz : CHr Z consts_1 s.vm s.heap T1533.vm T1533.heap := own_chr (C1536.trans (CHv.at X1533 hZ hEE.ew C1536.1)) hh e1533
  refine own_end (t := T1533.setFrames fs) ?_ ⟨_, hrun, hended, _, _, rfl, ?_, Cz, own_rmono hRW (by decide) (by decide)⟩
  · jvm_step X1533.here [X1533.here.top, hx, (hb hby d8_17), X1533.method', Bd.returns, Value.isRef, FieldType.isReference]
    first | (intro acts; rw [hr _ acts rfl rfl rfl]) | rw [hr _ _ rfl rfl rfl]
    exact Steps.refl _
  · show Q26 Z w36 h0 n0 _ T1533.heap _
    rw [e1533]
    exact ⟨b1534, b1535, k1533, rfl, N0, ((Keep.refl h0 []).ext E1533), Lx1533, Lv1533, La1533⟩
def Q27 (Z : State) (w38 : Addr) (a1589 : Addr) (h0 : Heap) (n0 : Nat) (v : Option Value) (h : Heap) (L : List Loc) : Prop := v = some (.ref a1589) ∧ Fr n0 L ∧ h = h0
set_option maxRecDepth 65536 in
set_option maxHeartbeats 40000000 in
theorem rm27 (l : Launch) (Z : State) (a0 : Array Value) (hw : ∀ d ∈ tables_1, d.before a0 Z = true) (ws : List Jvm.Cond) (w38 : Addr) (a1589 : Addr) (h0 : Heap) (n0 : Nat) (O0 : Old Z n0 h0) (SF_w38_purchase : Fld Z Z.heap w38 zs1 "purchase" "Z" (.int (1 : Int32))) :
    MetFree l (⟨zs1, zs8, zs4⟩ : MethodName) (head1 (Jvm.Cond.code (⟨zs1, zs8, zs4⟩ : MethodName) prog_20_method_7_code 2 (some (.object zs2)) :: ws) ({ frames := 0, cells := 0, slots := 0, locals := 0 } : Room)) (fun a U => a = #[(.ref w38), (.ref a1589)] ∧ Z.Warmed39 U.vm ∧ U.heap = h0 ∧ CHv Z consts_1 U.vm h0) (fun _ _ _ _ _ => True) (fun _ U o U' => ∃ v L, o = .returned v ∧ Q27 Z w38 a1589 h0 n0 v U'.heap L ∧ CHr Z consts_1 U.vm U.heap U'.vm U'.heap ∧ ReturnedEndW U o U' L ({ frames := 0, cells := 0, slots := 0, locals := 0 } : Room).cells ({ frames := 0, cells := 0, slots := 0, locals := 0 } : Room).slots) := by
  refine MetFree.of_bodySF (plainFor_of_name pn_4) hisR ?_
  intro p e s m args below meth c s₁ Bd hml0 hP hK
  obtain ⟨rfl, hZ, hh, hC⟩ := hP
  have hx := Bd.exec
  have hby := Bd.bytes
  have hml : c.maxLocals = 2 := hml0
  have hown : s.vm.findClass zs1 = some m.cls := findClass_of_methodNamed Bd.named
  have hnm := (name_of_methodNamed Bd.named Bd.method).1
  have X0 : Stand p l e ({ frames := 0, cells := 0, slots := 0, locals := 0 } : Room) (s.setVm s.vm) m #[(.ref w38), (.ref a1589)] below meth c s₁ [] 0 0 := Stand.of_body Bd
  have hS : s.Since s.vm 0 := (State.WarmedH.refl s).since 0
  obtain ⟨k0, hk0, hS⟩ : ∃ k0, k0 ≤ h0.size ∧ s.Since s.vm k0 := ⟨0, Nat.zero_le _, hS⟩
  have hZ : Z.Warmed39 (s.setVm s.vm).vm := hZ
  have hown : (s.setVm s.vm).vm.findClass zs1 = some m.cls := hown
  have C0 : CHr Z consts_1 s.vm h0 s.vm h0 := CHr.refl hC
  have hEE := own_ee hw
  have e0 : s₁.heap = h0 := by rw [← hh, Bd.state]; rfl
  have N0 := Fr.nil n0
  refine own_out ?_
  refine own_via (fun t k => castTop (ef_7 m w38 a1589) (XS.aloadN X0.here hx rfl (hb hby d8_0) rfl rfl k)) ?_
  obtain ⟨T1602, X1602, e1602, st1602⟩ := getF X0 hx hZ hown (host := "") (Or.inl (wd hw 51 rfl)) Via.refl e0 (SF_w38_purchase.ext O0.2) (g := (mkF m 1 #[rv w38, rv a1589] [(.ref w38)])) rfl rfl (hb hby d8_1)
  refine own_via (fun t k => st1602 t (XS.ifNo X1602.here hx rfl (hb hby d8_4) rfl ((if0 _ _).trans (feq (by decide : ¬ ((1 : Int32) = (0 : Int32)))).1) (XS.aloadN X1602.here hx rfl (hb hby d8_7) rfl rfl (XS.ifnullNo X1602.here hx rfl (hb hby d8_8) rfl (XS.aloadN X1602.here hx rfl (hb hby d8_11) rfl rfl (XS.goto X1602.here hx rfl (pc0 := 12) (pc' := 17) rfl (hb hby d8_12) (by decide) (by decide) k)))))) ?_
  show own_Goes p e below (T1602.setTop (mkF m 17 #[rv w38, rv a1589] [(.ref a1589)])) _
  obtain ⟨fs, hr, hrun, hended, hRW⟩ := X1602.leaveW hS (by rw [e1602]; first | exact hk0 | exact Nat.le_refl _) (v := some (.ref a1589)) (fun h => by rw [Bd.returns] at h; cases h)
  have Cz : CHr Z consts_1 s.vm s.heap T1602.vm T1602.heap := own_chr (C0.trans (CHv.at X1602 hZ hEE.ew C0.1)) hh e1602
  refine own_end (t := T1602.setFrames fs) ?_ ⟨_, hrun, hended, _, _, rfl, ?_, Cz, own_rmono hRW (by decide) (by decide)⟩
  · jvm_step X1602.here [X1602.here.top, hx, (hb hby d8_17), X1602.method', Bd.returns, Value.isRef, FieldType.isReference]
    first | (intro acts; rw [hr _ acts rfl rfl rfl]) | rw [hr _ _ rfl rfl rfl]
    exact Steps.refl _
  · show Q27 Z w38 a1589 h0 n0 _ T1602.heap _
    rw [e1602]
    exact ⟨rfl, N0, rfl⟩
def Q28 (Z : State) (w38 : Addr) (h0 : Heap) (n0 : Nat) (v : Option Value) (h : Heap) (L : List Loc) : Prop := (∃ (b1676 : Addr) (b1677 : Addr) (k1675 : ClassId), v = some (.ref b1676) ∧ Fr n0 L ∧ Keep h0 h [] ∧ Exa Z h b1676 zs2 ∧ Fld Z h b1676 zs2 "value" "[B" (.ref b1677) ∧ Arv Z h b1677 k1675 .byte (0 : Int32) [] (.int (0 : Int32)))
set_option maxRecDepth 65536 in
set_option maxHeartbeats 40000000 in
theorem rm28 (l : Launch) (Z : State) (a0 : Array Value) (hw : ∀ d ∈ tables_1, d.before a0 Z = true) (ws : List Jvm.Cond) (w38 : Addr) (h0 : Heap) (n0 : Nat) (O0 : Old Z n0 h0) (SF_w38_purchase : Fld Z Z.heap w38 zs1 "purchase" "Z" (.int (1 : Int32))) :
    MetFree l (⟨zs1, zs8, zs4⟩ : MethodName) (head1 (Jvm.Cond.code (⟨zs1, zs8, zs4⟩ : MethodName) prog_20_method_7_code 2 (some (.object zs2)) :: ws) ({ frames := 0, cells := 2, slots := 4, locals := 0 } : Room)) (fun a U => a = #[(.ref w38), .null] ∧ Z.Warmed39 U.vm ∧ U.heap = h0 ∧ CHv Z consts_1 U.vm h0) (fun _ _ _ _ _ => True) (fun _ U o U' => ∃ v L, o = .returned v ∧ Q28 Z w38 h0 n0 v U'.heap L ∧ CHr Z consts_1 U.vm U.heap U'.vm U'.heap ∧ ReturnedEndW U o U' L ({ frames := 0, cells := 2, slots := 4, locals := 0 } : Room).cells ({ frames := 0, cells := 2, slots := 4, locals := 0 } : Room).slots) := by
  refine MetFree.of_bodySF (plainFor_of_name pn_4) hisR ?_
  intro p e s m args below meth c s₁ Bd hml0 hP hK
  obtain ⟨rfl, hZ, hh, hC⟩ := hP
  have hx := Bd.exec
  have hby := Bd.bytes
  have hml : c.maxLocals = 2 := hml0
  have hown : s.vm.findClass zs1 = some m.cls := findClass_of_methodNamed Bd.named
  have hnm := (name_of_methodNamed Bd.named Bd.method).1
  have X0 : Stand p l e ({ frames := 0, cells := 2, slots := 4, locals := 0 } : Room) (s.setVm s.vm) m #[(.ref w38), .null] below meth c s₁ [] 0 0 := Stand.of_body Bd
  have hS : s.Since s.vm 0 := (State.WarmedH.refl s).since 0
  obtain ⟨k0, hk0, hS⟩ : ∃ k0, k0 ≤ h0.size ∧ s.Since s.vm k0 := ⟨0, Nat.zero_le _, hS⟩
  have hZ : Z.Warmed39 (s.setVm s.vm).vm := hZ
  have hown : (s.setVm s.vm).vm.findClass zs1 = some m.cls := hown
  have C0 : CHr Z consts_1 s.vm h0 s.vm h0 := CHr.refl hC
  have hEE := own_ee hw
  have e0 : s₁.heap = h0 := by rw [← hh, Bd.state]; rfl
  have N0 := Fr.nil n0
  refine own_out ?_
  refine own_via (fun t k => castTop (ef_9 m w38) (XS.aloadN X0.here hx rfl (hb hby d8_0) rfl rfl k)) ?_
  obtain ⟨T1674, X1674, e1674, st1674⟩ := getF X0 hx hZ hown (host := "") (Or.inl (wd hw 51 rfl)) Via.refl e0 (SF_w38_purchase.ext O0.2) (g := (mkF m 1 #[rv w38, .val .null] [(.ref w38)])) rfl rfl (hb hby d8_1)
  refine own_via (fun t k => st1674 t (XS.ifNo X1674.here hx rfl (hb hby d8_4) rfl ((if0 _ _).trans (feq (by decide : ¬ ((1 : Int32) = (0 : Int32)))).1) (XS.aloadN X1674.here hx rfl (hb hby d8_7) rfl rfl (XS.ifnullYes X1674.here hx rfl (pc0 := 8) (pc' := 15) rfl (hb hby d8_8) rfl (by decide) (by decide) k)))) ?_
  show own_Goes p e below (T1674.setTop (mkF m 15 #[rv w38, .val .null] [])) _
  obtain ⟨b1676, T1675, h1675, kj1675, b1677, k1675, X1675, e1675, E1675, hS, hk1675, hZ, hown, Lx1675, Lc1675, Lv1675, La1675, -, -, Cr1675, -, -, st1675⟩ := ldcCH X1674 hx hZ hown (wd hw 53 rfl) (own_strAtoms hw) e1674 hS hk0 hEE.ew (List.mem_of_getElem? (i := 0) rfl) C0.1 (vs := []) (z := 0) ⟨by simp, rfl⟩ (by decide) (by decide) (g := (mkF m 15 #[rv w38, .val .null] [])) rfl (hb hby d8_15) (n := 0) (by decide) (by decide) (by decide) (by decide)
  refine own_via (fun t k => st1675 t k) ?_
  have C1678 := C0.trans Cr1675
  show own_Goes p e below (T1675.setTop (mkF m 17 #[rv w38, .val .null] [(.ref b1676)])) _
  obtain ⟨fs, hr, hrun, hended, hRW⟩ := X1675.leaveW hS (by rw [e1675]; first | exact hk1675 | exact Nat.le_refl _) (v := some (.ref b1676)) (fun h => by rw [Bd.returns] at h; cases h)
  have Cz : CHr Z consts_1 s.vm s.heap T1675.vm T1675.heap := own_chr (C1678.trans (CHv.at X1675 hZ hEE.ew C1678.1)) hh e1675
  refine own_end (t := T1675.setFrames fs) ?_ ⟨_, hrun, hended, _, _, rfl, ?_, Cz, own_rmono hRW (by decide) (by decide)⟩
  · jvm_step X1675.here [X1675.here.top, hx, (hb hby d8_17), X1675.method', Bd.returns, Value.isRef, FieldType.isReference]
    first | (intro acts; rw [hr _ acts rfl rfl rfl]) | rw [hr _ _ rfl rfl rfl]
    exact Steps.refl _
  · show Q28 Z w38 h0 n0 _ T1675.heap _
    rw [e1675]
    exact ⟨b1676, b1677, k1675, rfl, N0, ((Keep.refl h0 []).ext E1675), Lx1675, Lv1675, La1675⟩
theorem ef_11 (m : MethodId) (x0 : Int32) (x1 : Int32) (x2 : Int32) (x3 : Int32) (x4 : Int32) : entryFrame m #[(.int x0), (.int x1), (.int x2), (.int x3), (.int x4)] maxLocals = mkF m 0 #[iv x0, iv x1, iv x2, iv x3, iv x4, .unset, .unset, .unset, .unset, .unset, .unset] [] := by first | (simp [entryFrame, mkF, argsToLocals, Value.category, maxLocals]; done) | rfl
set_option maxRecDepth 65536 in
set_option maxHeartbeats 40000000 in
theorem rm0 (l : Launch) (Z : State) (a0 : Array Value) (hw : ∀ d ∈ tables_1, d.before a0 Z = true) (ws : List Jvm.Cond) (i0 : Int32) (i1 : Int32) (i2 : Int32) (i3 : Int32) (i4 : Int32) (w32 : Addr) (w34 : Addr) (w36 : Addr) (w38 : Addr) (i48 : Int32) (h0 : Heap) (n0 : Nat) (O0 : Old Z n0 h0) (S_DocumentType_SALES_INVOICE : Sta Z Z.heap zs1 "SALES_INVOICE" zs6 (.ref w32)) (SE_w32 : Exa Z Z.heap w32 zs1) (S_DocumentType_PURCHASE_INVOICE : Sta Z Z.heap zs1 "PURCHASE_INVOICE" zs6 (.ref w34)) (SE_w34 : Exa Z Z.heap w34 zs1) (S_DocumentType_SALES_CREDIT_NOTE : Sta Z Z.heap zs1 "SALES_CREDIT_NOTE" zs6 (.ref w36)) (SE_w36 : Exa Z Z.heap w36 zs1) (S_DocumentType_PURCHASE_CREDIT_NOTE : Sta Z Z.heap zs1 "PURCHASE_CREDIT_NOTE" zs6 (.ref w38)) (SE_w38 : Exa Z Z.heap w38 zs1) (S_String_COMPACT_STRINGS : Sta Z Z.heap zs2 zs9 "Z" (.int i48)) (SNZ_i48 : ¬ (i48 = (0 : Int32))) (SF_w32_purchase : Fld Z Z.heap w32 zs1 "purchase" "Z" (.int (0 : Int32))) (SF_w34_purchase : Fld Z Z.heap w34 zs1 "purchase" "Z" (.int (1 : Int32))) (SF_w38_purchase : Fld Z Z.heap w38 zs1 "purchase" "Z" (.int (1 : Int32))) (SF_w36_purchase : Fld Z Z.heap w36 zs1 "purchase" "Z" (.int (0 : Int32))) (SF_w38_ordinal : Fld Z Z.heap w38 zs11 "ordinal" "I" (.int (3 : Int32))) (SF_w34_ordinal : Fld Z Z.heap w34 zs11 "ordinal" "I" (.int (1 : Int32))) :
    MetFree l x (head1 (Jvm.Cond.code x code maxLocals ret :: ws) room_1) (fun a U => a = #[(.int i0), (.int i1), (.int i2), (.int i3), (.int i4)] ∧ Z.Warmed39 U.vm ∧ U.heap = h0 ∧ CHv Z consts_1 U.vm h0) (fun _ _ _ _ _ => True) (fun _ U o U' => ∃ v L, o = .returned v ∧ own_Q0 n0 v L ∧ ReturnedEndW U o U' L room_1.cells room_1.slots) := by
  refine MetFree.of_bodySF (plainFor_of_name pn_3) hisR ?_
  intro p e s m args below meth c s₁ Bd hml0 hP hK
  obtain ⟨rfl, hZ, hh, hC⟩ := hP
  have hx := Bd.exec
  have hby := Bd.bytes
  have hml : c.maxLocals = 11 := hml0
  have hown : s.vm.findClass zs5 = some m.cls := findClass_of_methodNamed Bd.named
  have hnm := (name_of_methodNamed Bd.named Bd.method).1
  have X0 : Stand p l e room_1 (s.setVm s.vm) m #[(.int i0), (.int i1), (.int i2), (.int i3), (.int i4)] below meth c s₁ [] 0 0 := Stand.of_body Bd
  have hS : s.Since s.vm 0 := (State.WarmedH.refl s).since 0
  obtain ⟨k0, hk0, hS⟩ : ∃ k0, k0 ≤ h0.size ∧ s.Since s.vm k0 := ⟨0, Nat.zero_le _, hS⟩
  have hZ : Z.Warmed39 (s.setVm s.vm).vm := hZ
  have hown : (s.setVm s.vm).vm.findClass zs5 = some m.cls := hown
  have C0 : CHr Z consts_1 s.vm h0 s.vm h0 := CHr.refl hC
  have hEE := own_ee hw
  have e0 : s₁.heap = h0 := by rw [← hh, Bd.state]; rfl
  have N0 := Fr.nil n0
  refine own_out ?_
  show own_Goes p e below _ (own_G s below n0)
  refine own_via (fun t k => castTop (ef_11 m i0 i1 i2 i3 i4) (XS.iconst X0.here hx rfl (hb hby at_0) k)) ?_
  obtain ⟨T50, h50, k50, X50, e50, E50, A50, O50, st50⟩ := newR X0 hx hZ hown (wd hw 0 rfl) (wd hw 1 rfl) e0 (g := (mkF m 1 #[iv i0, iv i1, iv i2, iv i3, iv i4, .unset, .unset, .unset, .unset, .unset, .unset] [(.int (4 : Int32))])) rfl (hb hby at_1) rfl (by decide) (cap := 4) (by decide) (by decide) (by decide) (by decide)
  obtain ⟨b51, q50⟩ : ∃ z, z = h0.size := ⟨_, rfl⟩
  rw [← q50] at A50 st50
  refine own_via (fun t k => st50 t k) ?_
  have C50 := C0.trans (CHr.ext E50 C0.1)
  have g52 : n0 ≤ b51 := Nat.le_trans (own_old O0) (Nat.le_of_eq q50.symm)
  have B53 : h0.size ≤ b51 := Nat.le_trans (Nat.le_refl _) (Nat.le_of_eq q50.symm)
  have V54 : Arv Z h50 b51 k50 (.object zs1) (4 : Int32) [] .null := Arv.new A50 (by decide)
  show own_Goes p e below (T50.setTop (mkF m 4 #[iv i0, iv i1, iv i2, iv i3, iv i4, .unset, .unset, .unset, .unset, .unset, .unset] [(.ref b51)])) _
  refine own_via (fun t k => XS.dup X50.here hx rfl (hb hby at_4) rfl rfl (XS.iconst X50.here hx rfl (hb hby at_5) k)) ?_
  have O56 : Old Z n0 h50 := (O0.ext E50)
  obtain ⟨T55, X55, e55, st55⟩ := getS2 X50 hx hZ hown (host := "") (Or.inl (wd hw 2 rfl)) Via.refl e50 (S_DocumentType_SALES_INVOICE.ext O56.2) (g := (mkF m 6 #[iv i0, iv i1, iv i2, iv i3, iv i4, .unset, .unset, .unset, .unset, .unset, .unset] [(.int (0 : Int32)), (.ref b51), (.ref b51)])) rfl (hb hby at_6)
  refine own_via (fun t k => st55 t k) ?_
  have V57 : Arv Z h50 b51 k50 (.object zs1) (4 : Int32) [.null] .null := V54.pad (pad_rep [] .null 1)
  obtain ⟨cl58, Ar58, qq58, S58, M58, H58, G58⟩ := id (V57)
  have hin58 : ¬ ((0 : Int32) < 0 ∨ cl58.slots.size ≤ ((0 : Int32)).toNatClampNeg) := inb_of S58 ⟨by decide, by decide⟩
  obtain ⟨T58, h58, X58, e58, W58, st58⟩ := stR X55 hx hZ e55 Ar58 (j := (0 : Int32)) hin58 rfl (Sto.ofV Ar58 qq58 O50 (Ins.self (SE_w32.ext O56.2))) (g := (mkF m 9 #[iv i0, iv i1, iv i2, iv i3, iv i4, .unset, .unset, .unset, .unset, .unset, .unset] [(.ref w32), (.int (0 : Int32)), (.ref b51), (.ref b51)])) rfl rfl (hb hby at_9)
  refine own_via (fun t k => st58 t k) ?_
  have V59 : Arv Z h58 b51 k50 (.object zs1) (4 : Int32) [(.ref w32)] .null := Arv.set Ar58 qq58 S58 M58 H58 G58 rfl W58 0 rfl (Nat.le_of_ble_eq_true rfl)
  have Sf60 : Safe Z consts_1 _ h50 b51 := (own_safeA hZ.alike V54 (by simp))
  have C58 := C50.trans (CHr.wr W58 Sf60 C50.1)
  have N58 := Fr.snoc X58 N0 g52
  show own_Goes p e below (T58.setTop (mkF m 10 #[iv i0, iv i1, iv i2, iv i3, iv i4, .unset, .unset, .unset, .unset, .unset, .unset] [(.ref b51)])) _
  refine own_via (fun t k => XS.dup X58.here hx rfl (hb hby at_10) rfl rfl (XS.iconst X58.here hx rfl (hb hby at_11) k)) ?_
  have O62 : Old Z n0 h58 := (O56.wr W58 g52)
  obtain ⟨T61, X61, e61, st61⟩ := getS2 X58 hx hZ hown (host := "") (Or.inl (wd hw 6 rfl)) Via.refl e58 (S_DocumentType_PURCHASE_INVOICE.ext O62.2) (g := (mkF m 12 #[iv i0, iv i1, iv i2, iv i3, iv i4, .unset, .unset, .unset, .unset, .unset, .unset] [(.int (1 : Int32)), (.ref b51), (.ref b51)])) rfl (hb hby at_12)
  refine own_via (fun t k => st61 t k) ?_
  have V63 : Arv Z h58 b51 k50 (.object zs1) (4 : Int32) [(.ref w32), .null] .null := V59.pad (pad_rep [(.ref w32)] .null 1)
  obtain ⟨cl64, Ar64, qq64, S64, M64, H64, G64⟩ := id (V63)
  have hin64 : ¬ ((1 : Int32) < 0 ∨ cl64.slots.size ≤ ((1 : Int32)).toNatClampNeg) := inb_of S64 ⟨by decide, by decide⟩
  obtain ⟨T64, h64, X64, e64, W64, st64⟩ := stR X61 hx hZ e61 Ar64 (j := (1 : Int32)) hin64 rfl (Sto.ofV Ar64 qq64 O50 (Ins.self (SE_w34.ext O62.2))) (g := (mkF m 15 #[iv i0, iv i1, iv i2, iv i3, iv i4, .unset, .unset, .unset, .unset, .unset, .unset] [(.ref w34), (.int (1 : Int32)), (.ref b51), (.ref b51)])) rfl rfl (hb hby at_15)
  refine own_via (fun t k => st64 t k) ?_
  have V65 : Arv Z h64 b51 k50 (.object zs1) (4 : Int32) [(.ref w32), (.ref w34)] .null := Arv.set Ar64 qq64 S64 M64 H64 G64 rfl W64 1 rfl (Nat.le_of_ble_eq_true rfl)
  have Sf66 : Safe Z consts_1 _ h58 b51 := (own_safeA hZ.alike V59 (by simp))
  have C64 := C58.trans (CHr.wr W64 Sf66 C58.1)
  have N64 := Fr.snoc X64 N58 g52
  show own_Goes p e below (T64.setTop (mkF m 16 #[iv i0, iv i1, iv i2, iv i3, iv i4, .unset, .unset, .unset, .unset, .unset, .unset] [(.ref b51)])) _
  refine own_via (fun t k => XS.dup X64.here hx rfl (hb hby at_16) rfl rfl (XS.iconst X64.here hx rfl (hb hby at_17) k)) ?_
  have O68 : Old Z n0 h64 := (O62.wr W64 g52)
  obtain ⟨T67, X67, e67, st67⟩ := getS2 X64 hx hZ hown (host := "") (Or.inl (wd hw 8 rfl)) Via.refl e64 (S_DocumentType_SALES_CREDIT_NOTE.ext O68.2) (g := (mkF m 18 #[iv i0, iv i1, iv i2, iv i3, iv i4, .unset, .unset, .unset, .unset, .unset, .unset] [(.int (2 : Int32)), (.ref b51), (.ref b51)])) rfl (hb hby at_18)
  refine own_via (fun t k => st67 t k) ?_
  have V69 : Arv Z h64 b51 k50 (.object zs1) (4 : Int32) [(.ref w32), (.ref w34), .null] .null := V65.pad (pad_rep [(.ref w32), (.ref w34)] .null 1)
  obtain ⟨cl70, Ar70, qq70, S70, M70, H70, G70⟩ := id (V69)
  have hin70 : ¬ ((2 : Int32) < 0 ∨ cl70.slots.size ≤ ((2 : Int32)).toNatClampNeg) := inb_of S70 ⟨by decide, by decide⟩
  obtain ⟨T70, h70, X70, e70, W70, st70⟩ := stR X67 hx hZ e67 Ar70 (j := (2 : Int32)) hin70 rfl (Sto.ofV Ar70 qq70 O50 (Ins.self (SE_w36.ext O68.2))) (g := (mkF m 21 #[iv i0, iv i1, iv i2, iv i3, iv i4, .unset, .unset, .unset, .unset, .unset, .unset] [(.ref w36), (.int (2 : Int32)), (.ref b51), (.ref b51)])) rfl rfl (hb hby at_21)
  refine own_via (fun t k => st70 t k) ?_
  have V71 : Arv Z h70 b51 k50 (.object zs1) (4 : Int32) [(.ref w32), (.ref w34), (.ref w36)] .null := Arv.set Ar70 qq70 S70 M70 H70 G70 rfl W70 2 rfl (Nat.le_of_ble_eq_true rfl)
  have Sf72 : Safe Z consts_1 _ h64 b51 := (own_safeA hZ.alike V65 (by simp))
  have C70 := C64.trans (CHr.wr W70 Sf72 C64.1)
  have N70 := Fr.snoc X70 N64 g52
  show own_Goes p e below (T70.setTop (mkF m 22 #[iv i0, iv i1, iv i2, iv i3, iv i4, .unset, .unset, .unset, .unset, .unset, .unset] [(.ref b51)])) _
  refine own_via (fun t k => XS.dup X70.here hx rfl (hb hby at_22) rfl rfl (XS.iconst X70.here hx rfl (hb hby at_23) k)) ?_
  have O74 : Old Z n0 h70 := (O68.wr W70 g52)
  obtain ⟨T73, X73, e73, st73⟩ := getS2 X70 hx hZ hown (host := "") (Or.inl (wd hw 10 rfl)) Via.refl e70 (S_DocumentType_PURCHASE_CREDIT_NOTE.ext O74.2) (g := (mkF m 24 #[iv i0, iv i1, iv i2, iv i3, iv i4, .unset, .unset, .unset, .unset, .unset, .unset] [(.int (3 : Int32)), (.ref b51), (.ref b51)])) rfl (hb hby at_24)
  refine own_via (fun t k => st73 t k) ?_
  have V75 : Arv Z h70 b51 k50 (.object zs1) (4 : Int32) [(.ref w32), (.ref w34), (.ref w36), .null] .null := V71.pad (pad_rep [(.ref w32), (.ref w34), (.ref w36)] .null 1)
  obtain ⟨cl76, Ar76, qq76, S76, M76, H76, G76⟩ := id (V75)
  have hin76 : ¬ ((3 : Int32) < 0 ∨ cl76.slots.size ≤ ((3 : Int32)).toNatClampNeg) := inb_of S76 ⟨by decide, by decide⟩
  obtain ⟨T76, h76, X76, e76, W76, st76⟩ := stR X73 hx hZ e73 Ar76 (j := (3 : Int32)) hin76 rfl (Sto.ofV Ar76 qq76 O50 (Ins.self (SE_w38.ext O74.2))) (g := (mkF m 27 #[iv i0, iv i1, iv i2, iv i3, iv i4, .unset, .unset, .unset, .unset, .unset, .unset] [(.ref w38), (.int (3 : Int32)), (.ref b51), (.ref b51)])) rfl rfl (hb hby at_27)
  refine own_via (fun t k => st76 t k) ?_
  have V77 : Arv Z h76 b51 k50 (.object zs1) (4 : Int32) [(.ref w32), (.ref w34), (.ref w36), (.ref w38)] .null := Arv.set Ar76 qq76 S76 M76 H76 G76 rfl W76 3 rfl (Nat.le_of_ble_eq_true rfl)
  have Sf78 : Safe Z consts_1 _ h70 b51 := (own_safeA hZ.alike V71 (by simp))
  have C76 := C70.trans (CHr.wr W76 Sf78 C70.1)
  have N76 := Fr.snoc X76 N70 g52
  show own_Goes p e below (T76.setTop (mkF m 28 #[iv i0, iv i1, iv i2, iv i3, iv i4, .unset, .unset, .unset, .unset, .unset, .unset] [(.ref b51)])) _
  refine own_via (fun t k => XS.astore X76.here hx rfl (hb hby at_28) rfl rfl (l' := #[iv i0, iv i1, iv i2, iv i3, iv i4, rv b51, .unset, .unset, .unset, .unset, .unset]) rfl (XS.aload X76.here hx rfl (hb hby at_30) rfl rfl (XS.iloadN X76.here hx rfl (hb hby at_32) rfl (XS.iconst X76.here hx rfl (hb hby at_33) (XS.iand X76.here hx rfl (hb hby at_34) rfl k))))) ?_
  show own_Goes p e below (T76.setTop (mkF m 35 #[iv i0, iv i1, iv i2, iv i3, iv i4, rv b51, .unset, .unset, .unset, .unset, .unset] [(.int (i0 &&& (3 : Int32))), (.ref b51)])) _
  rcases own_and_3 i0 with qs | qs | qs | qs
  · have qs79 := qs
    rw [qs]
    show own_Goes p e below (T76.setTop (mkF m 35 #[iv i0, iv i1, iv i2, iv i3, iv i4, rv b51, .unset, .unset, .unset, .unset, .unset] [(.int (0 : Int32)), (.ref b51)])) _
    obtain ⟨cl80, Ar80, qq80, S80, M80, H80, G80⟩ := id (V77)
    have hin80 : ¬ ((0 : Int32) < 0 ∨ cl80.slots.size ≤ ((0 : Int32)).toNatClampNeg) := inb_of S80 ⟨by decide, by decide⟩
    refine own_via (fun t k => X76.aaload hx (j := (0 : Int32)) (v := (.ref w32)) (by rw [e76]; exact Ar80.1) (State.isArrayOf_alike hZ.alike Ar80.2.1) rfl Ar80.2.2 hin80 (Has.at H80 hin80 rfl) (g := (mkF m 35 #[iv i0, iv i1, iv i2, iv i3, iv i4, rv b51, .unset, .unset, .unset, .unset, .unset] [(.int (0 : Int32)), (.ref b51)])) rfl rfl (hb hby at_35) t (XS.astore X76.here hx rfl (hb hby at_36) rfl rfl (l' := #[iv i0, iv i1, iv i2, iv i3, iv i4, rv b51, rv w32, .unset, .unset, .unset, .unset]) rfl (XS.iloadN X76.here hx rfl (hb hby at_38) rfl (XS.iconst X76.here hx rfl (hb hby at_39) (XS.iand X76.here hx rfl (hb hby at_40) rfl k))))) ?_
    show own_Goes p e below (T76.setTop (mkF m 41 #[iv i0, iv i1, iv i2, iv i3, iv i4, rv b51, rv w32, .unset, .unset, .unset, .unset] [(.int (i1 &&& (4 : Int32)))])) _
    by_cases hc81 : (i1 &&& (4 : Int32)) = (0 : Int32)
    · refine own_via (fun t k => XS.ifYes X76.here hx rfl (pc0 := 41) (pc' := 48) rfl (hb hby at_41) rfl ((if0 _ _).trans (teq hc81).1) (by decide) (by decide) (XS.iconst X76.here hx rfl (hb hby at_48) (XS.istore X76.here hx rfl (hb hby at_49) rfl (l' := #[iv i0, iv i1, iv i2, iv i3, iv i4, rv b51, rv w32, iv (0 : Int32), .unset, .unset, .unset]) rfl (XS.iload X76.here hx rfl (hb hby at_51) rfl (XS.ifYes X76.here hx rfl (pc0 := 53) (pc' := 60) rfl (hb hby at_53) rfl ((if0 _ _).trans (teq (by decide : (0 : Int32) = (0 : Int32))).1) (by decide) (by decide) (XS.iloadN X76.here hx rfl (hb hby at_60) rfl (XS.iconst X76.here hx rfl (hb hby at_61) (XS.iand X76.here hx rfl (hb hby at_62) rfl (XS.iloadN X76.here hx rfl (hb hby at_63) rfl (XS.iloadN X76.here hx rfl (hb hby at_64) rfl (XS.iload X76.here hx rfl (hb hby at_65) rfl k))))))))))) ?_
      show own_Goes p e below (T76.setTop (mkF m 67 #[iv i0, iv i1, iv i2, iv i3, iv i4, rv b51, rv w32, iv (0 : Int32), .unset, .unset, .unset] [(.int i4), (.int i3), (.int i2), (.int (i1 &&& (3 : Int32)))])) _
      have O1043 : Old Z n0 h76 := (O74.wr W76 g52)
      have K1044 : k0 ≤ h76.size := (Nat.le_trans (Nat.le_trans (Nat.le_trans (Nat.le_trans (Nat.le_trans hk0 E50.1) (Nat.le_of_eq W58.size.symm)) (Nat.le_of_eq W64.size.symm)) (Nat.le_of_eq W70.size.symm)) (Nat.le_of_eq W76.size.symm))
      obtain ⟨_, T82, _, X82, hQ82, Cr82, hS, hZ, hown, st82⟩ := own_csH X76 hx hZ hS K1044 hown (wd hw 12 rfl) (wd hw 13 rfl) (wd hw 15 rfl) (wd hw 14 rfl) (by decide) hEE.ew C76.1 (rm18 l Z a0 hw [] (i1 &&& (3 : Int32)) i2 i3 i4 i48 h76 n0 O1043 S_String_COMPACT_STRINGS SNZ_i48) e76 (g := (mkF m 67 #[iv i0, iv i1, iv i2, iv i3, iv i4, rv b51, rv w32, iv (0 : Int32), .unset, .unset, .unset] [(.int i4), (.int i3), (.int i2), (.int (i1 &&& (3 : Int32)))])) rfl (by rw [hml]; rfl) (rest := []) (W := 0) (lenOf pd_6 rfl) rfl (by show 2 * 0 + _ ≤ _; exact Nat.le_of_eq rfl) (hb hby at_67) (by decide) (by decide) (by decide) (by decide)
      obtain ⟨h82, e82⟩ : ∃ z, T82.heap = z := ⟨_, rfl⟩
      rw [e82] at hQ82 Cr82
      rcases hQ82 with ⟨b1045, hq1046, rfl, Nq82, K82, bx1047, ex1048⟩ | ⟨b1049, hq1050, hq1051, rfl, Nq82, K82, bx1052, ex1053⟩ | ⟨b1054, hq1055, hq1056, hq1057, rfl, Nq82, K82, bx1058, ex1059⟩ | ⟨b1060, hq1061, hq1062, hq1063, rfl, Nq82, K82, bx1064, ex1065⟩
      · have N82 := Fr.app N76 Nq82
        have C1066 := C76.trans Cr82
        have N1067 : b51 ≠ b1045 := Nat.ne_of_lt (Nat.lt_of_lt_of_le V77.lt bx1047)
        have g1068 : n0 ≤ b1045 := Nat.le_trans (own_old O1043) bx1047
        have Z1070 : h0.size ≤ h76.size := (Nat.le_trans (Nat.le_trans (Nat.le_trans (Nat.le_trans (Nat.le_trans (Nat.le_refl _) E50.1) (Nat.le_of_eq W58.size.symm)) (Nat.le_of_eq W64.size.symm)) (Nat.le_of_eq W70.size.symm)) (Nat.le_of_eq W76.size.symm))
        have B1069 : h0.size ≤ b1045 := Nat.le_trans Z1070 bx1047
        have hk1071 : T82.heap.size ≤ h82.size := Nat.le_of_eq (congrArg Array.size e82)
        refine own_via (fun t k => st82 t (XS.astore X82.here hx rfl (hb hby at_70) rfl rfl (l' := #[iv i0, iv i1, iv i2, iv i3, iv i4, rv b51, rv w32, iv (0 : Int32), rv b1045, .unset, .unset]) rfl (XS.aload X82.here hx rfl (hb hby at_72) rfl rfl (XS.aload X82.here hx rfl (hb hby at_74) rfl rfl k)))) ?_
        show own_Goes p e below (T82.setTop (mkF m 76 #[iv i0, iv i1, iv i2, iv i3, iv i4, rv b51, rv w32, iv (0 : Int32), rv b1045, .unset, .unset] [(.ref b1045), (.ref w32)])) _
        have O1091 : Old Z n0 h82 := (O1043.keep K82 all0)
        obtain ⟨_, T1072, _, X1072, hQ1072, Cr1072, hS, hZ, hown, st1072⟩ := own_cvH X82 hx hZ hS hk1071 hown (wd hw 46 rfl) (wd hw 47 rfl) (wd hw 49 rfl) (wd hw 48 rfl) (wd hw 50 rfl) (wd hw 3 rfl) (by decide) hEE.ew C1066.1 (rm19 l Z a0 hw [] w32 b1045 h82 n0 O1091 SF_w32_purchase) e82 (SE_w32.ext O1091.2) (g := (mkF m 76 #[iv i0, iv i1, iv i2, iv i3, iv i4, rv b51, rv w32, iv (0 : Int32), rv b1045, .unset, .unset] [(.ref b1045), (.ref w32)])) rfl (by rw [hml]; rfl) (rest := []) (W := 0) (lenOf pd_7 rfl) rfl (by show 2 * 0 + _ ≤ _; exact Nat.le_of_eq rfl) (hb hby at_76) (by decide) (by decide) (by decide) (by decide)
        obtain ⟨h1072, e1072⟩ : ∃ z, T1072.heap = z := ⟨_, rfl⟩
        rw [e1072] at hQ1072 Cr1072
        obtain ⟨b1092, b1093, k1094, rfl, Nq1072, K1072, ex1095, fx1096, vx1097⟩ := hQ1072
        have N1072 := Fr.app N82 Nq1072
        have C1098 := C1066.trans Cr1072
        have hk1099 : T1072.heap.size ≤ h1072.size := Nat.le_of_eq (congrArg Array.size e1072)
        refine own_via (fun t k => st1072 t (XS.astore X1072.here hx rfl (hb hby at_79) rfl rfl (l' := #[iv i0, iv i1, iv i2, iv i3, iv i4, rv b51, rv w32, iv (0 : Int32), rv b1045, rv b1092, .unset]) rfl (XS.aload X1072.here hx rfl (hb hby at_81) rfl rfl (XS.ifnonnullYes X1072.here hx rfl (pc0 := 83) (pc' := 88) rfl (hb hby at_83) rfl (by decide) (by decide) (XS.aload X1072.here hx rfl (hb hby at_88) rfl rfl k))))) ?_
        show own_Goes p e below (T1072.setTop (mkF m 90 #[iv i0, iv i1, iv i2, iv i3, iv i4, rv b51, rv w32, iv (0 : Int32), rv b1045, rv b1092, .unset] [(.ref w32)])) _
        have O1101 : Old Z n0 h1072 := (O1091.keep K1072 all0)
        obtain ⟨T1100, X1100, e1100, st1100⟩ := getS2 X1072 hx hZ hown (host := "") (Or.inl (wd hw 6 rfl)) Via.refl e1072 (S_DocumentType_PURCHASE_INVOICE.ext O1101.2) (g := (mkF m 90 #[iv i0, iv i1, iv i2, iv i3, iv i4, rv b51, rv w32, iv (0 : Int32), rv b1045, rv b1092, .unset] [(.ref w32)])) rfl (hb hby at_90)
        refine own_via (fun t k => st1100 t (Jvm.RoadKit.acmp (g := (mkF m 93 #[iv i0, iv i1, iv i2, iv i3, iv i4, rv b51, rv w32, iv (0 : Int32), rv b1045, rv b1092, .unset] [(.ref w34), (.ref w32)])) X1100 hx rfl rfl rfl (pc0 := 93) (pc' := 96) (same := false) rfl (hb hby at_93) rfl (decide_eq_false fun q => (Fld.ne SF_w32_purchase SF_w34_purchase (by decide)) (Value.ref.inj q)) (by decide) (by decide) (XS.aload X1100.here hx rfl (hb hby at_96) rfl rfl k))) ?_
        show own_Goes p e below (T1100.setTop (mkF m 98 #[iv i0, iv i1, iv i2, iv i3, iv i4, rv b51, rv w32, iv (0 : Int32), rv b1045, rv b1092, .unset] [(.ref w32)])) _
        obtain ⟨T1102, X1102, e1102, st1102⟩ := getS2 X1100 hx hZ hown (host := "") (Or.inl (wd hw 10 rfl)) Via.refl e1100 (S_DocumentType_PURCHASE_CREDIT_NOTE.ext O1101.2) (g := (mkF m 98 #[iv i0, iv i1, iv i2, iv i3, iv i4, rv b51, rv w32, iv (0 : Int32), rv b1045, rv b1092, .unset] [(.ref w32)])) rfl (hb hby at_98)
        refine own_via (fun t k => st1102 t (Jvm.RoadKit.acmp (g := (mkF m 101 #[iv i0, iv i1, iv i2, iv i3, iv i4, rv b51, rv w32, iv (0 : Int32), rv b1045, rv b1092, .unset] [(.ref w38), (.ref w32)])) X1102 hx rfl rfl rfl (pc0 := 101) (pc' := 108) (same := false) rfl (hb hby at_101) rfl (decide_eq_false fun q => (Fld.ne SF_w32_purchase SF_w38_purchase (by decide)) (Value.ref.inj q)) (by decide) (by decide) (XS.iconst X1102.here hx rfl (hb hby at_108) (XS.istore X1102.here hx rfl (hb hby at_109) rfl (l' := #[iv i0, iv i1, iv i2, iv i3, iv i4, rv b51, rv w32, iv (0 : Int32), rv b1045, rv b1092, iv (0 : Int32)]) rfl (XS.iload X1102.here hx rfl (hb hby at_111) rfl (XS.ifYes X1102.here hx rfl (pc0 := 113) (pc' := 129) rfl (hb hby at_113) rfl ((if0 _ _).trans (teq (by decide : (0 : Int32) = (0 : Int32))).1) (by decide) (by decide) (XS.aload X1102.here hx rfl (hb hby at_129) rfl rfl k))))))) ?_
        show own_Goes p e below (T1102.setTop (mkF m 131 #[iv i0, iv i1, iv i2, iv i3, iv i4, rv b51, rv w32, iv (0 : Int32), rv b1045, rv b1092, iv (0 : Int32)] [(.ref b1092)])) _
        have l1122 : own_Len Z h1072 b1093 .byte (0 : Int32) := ⟨_, _, _, vx1097⟩
        obtain ⟨_, T1103, _, X1103, hQ1103, Cr1103, hS, hZ, hown, st1103⟩ := own_cvH X1102 hx hZ hS hk1099 hown (wd hw 56 rfl) (wd hw 57 rfl) (wd hw 59 rfl) (wd hw 58 rfl) (wd hw 60 rfl) (wd hw 18 rfl) (by decide) hEE.ew C1098.1 (rm20 l Z a0 hw [] b1092 b1093 h1072 n0 O1101 fx1096 l1122) e1102 ex1095 (g := (mkF m 131 #[iv i0, iv i1, iv i2, iv i3, iv i4, rv b51, rv w32, iv (0 : Int32), rv b1045, rv b1092, iv (0 : Int32)] [(.ref b1092)])) rfl (by rw [hml]; rfl) (rest := []) (W := 0) (lenOf pd_8 rfl) rfl (by show 2 * 0 + _ ≤ _; exact Nat.le_of_eq rfl) (hb hby at_131) (by decide) (by decide) (by decide) (by decide)
        obtain ⟨rfl, Nq1103, hh1123⟩ := hQ1103
        have N1103 := Fr.app N1072 Nq1103
        rw [hh1123] at Cr1103
        have C1124 := C1098.trans Cr1103
        have hk1125 : T1103.heap.size ≤ h1072.size := Nat.le_of_eq (congrArg Array.size hh1123)
        refine own_via (fun t k => st1103 t k) ?_
        obtain ⟨fs, hr, hrun, hended, hRW⟩ := X1103.leaveW hS (by rw [hh1123]; first | exact hk1125 | exact Nat.le_refl _) (v := some (.int (1 : Int32))) (fun h => by rw [Bd.returns] at h; cases h)
        refine own_end (t := T1103.setFrames fs) ?_ ⟨_, hrun, hended, _, _, rfl, ?_, own_rmono hRW (by decide) (by decide)⟩
        · exact retN X1103 hx (t := .boolean) Bd.returns (by simp) (hb hby at_134) hr
        · exact ⟨rfl, N1103⟩
      · have N82 := Fr.app N76 Nq82
        have C1126 := C76.trans Cr82
        have N1127 : b51 ≠ b1049 := Nat.ne_of_lt (Nat.lt_of_lt_of_le V77.lt bx1052)
        have g1128 : n0 ≤ b1049 := Nat.le_trans (own_old O1043) bx1052
        have Z1130 : h0.size ≤ h76.size := (Nat.le_trans (Nat.le_trans (Nat.le_trans (Nat.le_trans (Nat.le_trans (Nat.le_refl _) E50.1) (Nat.le_of_eq W58.size.symm)) (Nat.le_of_eq W64.size.symm)) (Nat.le_of_eq W70.size.symm)) (Nat.le_of_eq W76.size.symm))
        have B1129 : h0.size ≤ b1049 := Nat.le_trans Z1130 bx1052
        have hk1131 : T82.heap.size ≤ h82.size := Nat.le_of_eq (congrArg Array.size e82)
        refine own_via (fun t k => st82 t (XS.astore X82.here hx rfl (hb hby at_70) rfl rfl (l' := #[iv i0, iv i1, iv i2, iv i3, iv i4, rv b51, rv w32, iv (0 : Int32), rv b1049, .unset, .unset]) rfl (XS.aload X82.here hx rfl (hb hby at_72) rfl rfl (XS.aload X82.here hx rfl (hb hby at_74) rfl rfl k)))) ?_
        show own_Goes p e below (T82.setTop (mkF m 76 #[iv i0, iv i1, iv i2, iv i3, iv i4, rv b51, rv w32, iv (0 : Int32), rv b1049, .unset, .unset] [(.ref b1049), (.ref w32)])) _
        have O1133 : Old Z n0 h82 := (O1043.keep K82 all0)
        obtain ⟨_, T1132, _, X1132, hQ1132, Cr1132, hS, hZ, hown, st1132⟩ := own_cvH X82 hx hZ hS hk1131 hown (wd hw 46 rfl) (wd hw 47 rfl) (wd hw 49 rfl) (wd hw 48 rfl) (wd hw 50 rfl) (wd hw 3 rfl) (by decide) hEE.ew C1126.1 (rm19 l Z a0 hw [] w32 b1049 h82 n0 O1133 SF_w32_purchase) e82 (SE_w32.ext O1133.2) (g := (mkF m 76 #[iv i0, iv i1, iv i2, iv i3, iv i4, rv b51, rv w32, iv (0 : Int32), rv b1049, .unset, .unset] [(.ref b1049), (.ref w32)])) rfl (by rw [hml]; rfl) (rest := []) (W := 0) (lenOf pd_7 rfl) rfl (by show 2 * 0 + _ ≤ _; exact Nat.le_of_eq rfl) (hb hby at_76) (by decide) (by decide) (by decide) (by decide)
        obtain ⟨h1132, e1132⟩ : ∃ z, T1132.heap = z := ⟨_, rfl⟩
        rw [e1132] at hQ1132 Cr1132
        obtain ⟨b1134, b1135, k1136, rfl, Nq1132, K1132, ex1137, fx1138, vx1139⟩ := hQ1132
        have N1132 := Fr.app N82 Nq1132
        have C1140 := C1126.trans Cr1132
        have hk1141 : T1132.heap.size ≤ h1132.size := Nat.le_of_eq (congrArg Array.size e1132)
        refine own_via (fun t k => st1132 t (XS.astore X1132.here hx rfl (hb hby at_79) rfl rfl (l' := #[iv i0, iv i1, iv i2, iv i3, iv i4, rv b51, rv w32, iv (0 : Int32), rv b1049, rv b1134, .unset]) rfl (XS.aload X1132.here hx rfl (hb hby at_81) rfl rfl (XS.ifnonnullYes X1132.here hx rfl (pc0 := 83) (pc' := 88) rfl (hb hby at_83) rfl (by decide) (by decide) (XS.aload X1132.here hx rfl (hb hby at_88) rfl rfl k))))) ?_
        show own_Goes p e below (T1132.setTop (mkF m 90 #[iv i0, iv i1, iv i2, iv i3, iv i4, rv b51, rv w32, iv (0 : Int32), rv b1049, rv b1134, .unset] [(.ref w32)])) _
        have O1143 : Old Z n0 h1132 := (O1133.keep K1132 all0)
        obtain ⟨T1142, X1142, e1142, st1142⟩ := getS2 X1132 hx hZ hown (host := "") (Or.inl (wd hw 6 rfl)) Via.refl e1132 (S_DocumentType_PURCHASE_INVOICE.ext O1143.2) (g := (mkF m 90 #[iv i0, iv i1, iv i2, iv i3, iv i4, rv b51, rv w32, iv (0 : Int32), rv b1049, rv b1134, .unset] [(.ref w32)])) rfl (hb hby at_90)
        refine own_via (fun t k => st1142 t (Jvm.RoadKit.acmp (g := (mkF m 93 #[iv i0, iv i1, iv i2, iv i3, iv i4, rv b51, rv w32, iv (0 : Int32), rv b1049, rv b1134, .unset] [(.ref w34), (.ref w32)])) X1142 hx rfl rfl rfl (pc0 := 93) (pc' := 96) (same := false) rfl (hb hby at_93) rfl (decide_eq_false fun q => (Fld.ne SF_w32_purchase SF_w34_purchase (by decide)) (Value.ref.inj q)) (by decide) (by decide) (XS.aload X1142.here hx rfl (hb hby at_96) rfl rfl k))) ?_
        show own_Goes p e below (T1142.setTop (mkF m 98 #[iv i0, iv i1, iv i2, iv i3, iv i4, rv b51, rv w32, iv (0 : Int32), rv b1049, rv b1134, .unset] [(.ref w32)])) _
        obtain ⟨T1144, X1144, e1144, st1144⟩ := getS2 X1142 hx hZ hown (host := "") (Or.inl (wd hw 10 rfl)) Via.refl e1142 (S_DocumentType_PURCHASE_CREDIT_NOTE.ext O1143.2) (g := (mkF m 98 #[iv i0, iv i1, iv i2, iv i3, iv i4, rv b51, rv w32, iv (0 : Int32), rv b1049, rv b1134, .unset] [(.ref w32)])) rfl (hb hby at_98)
        refine own_via (fun t k => st1144 t (Jvm.RoadKit.acmp (g := (mkF m 101 #[iv i0, iv i1, iv i2, iv i3, iv i4, rv b51, rv w32, iv (0 : Int32), rv b1049, rv b1134, .unset] [(.ref w38), (.ref w32)])) X1144 hx rfl rfl rfl (pc0 := 101) (pc' := 108) (same := false) rfl (hb hby at_101) rfl (decide_eq_false fun q => (Fld.ne SF_w32_purchase SF_w38_purchase (by decide)) (Value.ref.inj q)) (by decide) (by decide) (XS.iconst X1144.here hx rfl (hb hby at_108) (XS.istore X1144.here hx rfl (hb hby at_109) rfl (l' := #[iv i0, iv i1, iv i2, iv i3, iv i4, rv b51, rv w32, iv (0 : Int32), rv b1049, rv b1134, iv (0 : Int32)]) rfl (XS.iload X1144.here hx rfl (hb hby at_111) rfl (XS.ifYes X1144.here hx rfl (pc0 := 113) (pc' := 129) rfl (hb hby at_113) rfl ((if0 _ _).trans (teq (by decide : (0 : Int32) = (0 : Int32))).1) (by decide) (by decide) (XS.aload X1144.here hx rfl (hb hby at_129) rfl rfl k))))))) ?_
        show own_Goes p e below (T1144.setTop (mkF m 131 #[iv i0, iv i1, iv i2, iv i3, iv i4, rv b51, rv w32, iv (0 : Int32), rv b1049, rv b1134, iv (0 : Int32)] [(.ref b1134)])) _
        have l1146 : own_Len Z h1132 b1135 .byte (0 : Int32) := ⟨_, _, _, vx1139⟩
        obtain ⟨_, T1145, _, X1145, hQ1145, Cr1145, hS, hZ, hown, st1145⟩ := own_cvH X1144 hx hZ hS hk1141 hown (wd hw 56 rfl) (wd hw 57 rfl) (wd hw 59 rfl) (wd hw 58 rfl) (wd hw 60 rfl) (wd hw 18 rfl) (by decide) hEE.ew C1140.1 (rm20 l Z a0 hw [] b1134 b1135 h1132 n0 O1143 fx1138 l1146) e1144 ex1137 (g := (mkF m 131 #[iv i0, iv i1, iv i2, iv i3, iv i4, rv b51, rv w32, iv (0 : Int32), rv b1049, rv b1134, iv (0 : Int32)] [(.ref b1134)])) rfl (by rw [hml]; rfl) (rest := []) (W := 0) (lenOf pd_8 rfl) rfl (by show 2 * 0 + _ ≤ _; exact Nat.le_of_eq rfl) (hb hby at_131) (by decide) (by decide) (by decide) (by decide)
        obtain ⟨rfl, Nq1145, hh1147⟩ := hQ1145
        have N1145 := Fr.app N1132 Nq1145
        rw [hh1147] at Cr1145
        have C1148 := C1140.trans Cr1145
        have hk1149 : T1145.heap.size ≤ h1132.size := Nat.le_of_eq (congrArg Array.size hh1147)
        refine own_via (fun t k => st1145 t k) ?_
        obtain ⟨fs, hr, hrun, hended, hRW⟩ := X1145.leaveW hS (by rw [hh1147]; first | exact hk1149 | exact Nat.le_refl _) (v := some (.int (1 : Int32))) (fun h => by rw [Bd.returns] at h; cases h)
        refine own_end (t := T1145.setFrames fs) ?_ ⟨_, hrun, hended, _, _, rfl, ?_, own_rmono hRW (by decide) (by decide)⟩
        · exact retN X1145 hx (t := .boolean) Bd.returns (by simp) (hb hby at_134) hr
        · exact ⟨rfl, N1145⟩
      · have N82 := Fr.app N76 Nq82
        have C1150 := C76.trans Cr82
        have N1151 : b51 ≠ b1054 := Nat.ne_of_lt (Nat.lt_of_lt_of_le V77.lt bx1058)
        have g1152 : n0 ≤ b1054 := Nat.le_trans (own_old O1043) bx1058
        have Z1154 : h0.size ≤ h76.size := (Nat.le_trans (Nat.le_trans (Nat.le_trans (Nat.le_trans (Nat.le_trans (Nat.le_refl _) E50.1) (Nat.le_of_eq W58.size.symm)) (Nat.le_of_eq W64.size.symm)) (Nat.le_of_eq W70.size.symm)) (Nat.le_of_eq W76.size.symm))
        have B1153 : h0.size ≤ b1054 := Nat.le_trans Z1154 bx1058
        have hk1155 : T82.heap.size ≤ h82.size := Nat.le_of_eq (congrArg Array.size e82)
        refine own_via (fun t k => st82 t (XS.astore X82.here hx rfl (hb hby at_70) rfl rfl (l' := #[iv i0, iv i1, iv i2, iv i3, iv i4, rv b51, rv w32, iv (0 : Int32), rv b1054, .unset, .unset]) rfl (XS.aload X82.here hx rfl (hb hby at_72) rfl rfl (XS.aload X82.here hx rfl (hb hby at_74) rfl rfl k)))) ?_
        show own_Goes p e below (T82.setTop (mkF m 76 #[iv i0, iv i1, iv i2, iv i3, iv i4, rv b51, rv w32, iv (0 : Int32), rv b1054, .unset, .unset] [(.ref b1054), (.ref w32)])) _
        have O1157 : Old Z n0 h82 := (O1043.keep K82 all0)
        obtain ⟨_, T1156, _, X1156, hQ1156, Cr1156, hS, hZ, hown, st1156⟩ := own_cvH X82 hx hZ hS hk1155 hown (wd hw 46 rfl) (wd hw 47 rfl) (wd hw 49 rfl) (wd hw 48 rfl) (wd hw 50 rfl) (wd hw 3 rfl) (by decide) hEE.ew C1150.1 (rm19 l Z a0 hw [] w32 b1054 h82 n0 O1157 SF_w32_purchase) e82 (SE_w32.ext O1157.2) (g := (mkF m 76 #[iv i0, iv i1, iv i2, iv i3, iv i4, rv b51, rv w32, iv (0 : Int32), rv b1054, .unset, .unset] [(.ref b1054), (.ref w32)])) rfl (by rw [hml]; rfl) (rest := []) (W := 0) (lenOf pd_7 rfl) rfl (by show 2 * 0 + _ ≤ _; exact Nat.le_of_eq rfl) (hb hby at_76) (by decide) (by decide) (by decide) (by decide)
        obtain ⟨h1156, e1156⟩ : ∃ z, T1156.heap = z := ⟨_, rfl⟩
        rw [e1156] at hQ1156 Cr1156
        obtain ⟨b1158, b1159, k1160, rfl, Nq1156, K1156, ex1161, fx1162, vx1163⟩ := hQ1156
        have N1156 := Fr.app N82 Nq1156
        have C1164 := C1150.trans Cr1156
        have hk1165 : T1156.heap.size ≤ h1156.size := Nat.le_of_eq (congrArg Array.size e1156)
        refine own_via (fun t k => st1156 t (XS.astore X1156.here hx rfl (hb hby at_79) rfl rfl (l' := #[iv i0, iv i1, iv i2, iv i3, iv i4, rv b51, rv w32, iv (0 : Int32), rv b1054, rv b1158, .unset]) rfl (XS.aload X1156.here hx rfl (hb hby at_81) rfl rfl (XS.ifnonnullYes X1156.here hx rfl (pc0 := 83) (pc' := 88) rfl (hb hby at_83) rfl (by decide) (by decide) (XS.aload X1156.here hx rfl (hb hby at_88) rfl rfl k))))) ?_
        show own_Goes p e below (T1156.setTop (mkF m 90 #[iv i0, iv i1, iv i2, iv i3, iv i4, rv b51, rv w32, iv (0 : Int32), rv b1054, rv b1158, .unset] [(.ref w32)])) _
        have O1167 : Old Z n0 h1156 := (O1157.keep K1156 all0)
        obtain ⟨T1166, X1166, e1166, st1166⟩ := getS2 X1156 hx hZ hown (host := "") (Or.inl (wd hw 6 rfl)) Via.refl e1156 (S_DocumentType_PURCHASE_INVOICE.ext O1167.2) (g := (mkF m 90 #[iv i0, iv i1, iv i2, iv i3, iv i4, rv b51, rv w32, iv (0 : Int32), rv b1054, rv b1158, .unset] [(.ref w32)])) rfl (hb hby at_90)
        refine own_via (fun t k => st1166 t (Jvm.RoadKit.acmp (g := (mkF m 93 #[iv i0, iv i1, iv i2, iv i3, iv i4, rv b51, rv w32, iv (0 : Int32), rv b1054, rv b1158, .unset] [(.ref w34), (.ref w32)])) X1166 hx rfl rfl rfl (pc0 := 93) (pc' := 96) (same := false) rfl (hb hby at_93) rfl (decide_eq_false fun q => (Fld.ne SF_w32_purchase SF_w34_purchase (by decide)) (Value.ref.inj q)) (by decide) (by decide) (XS.aload X1166.here hx rfl (hb hby at_96) rfl rfl k))) ?_
        show own_Goes p e below (T1166.setTop (mkF m 98 #[iv i0, iv i1, iv i2, iv i3, iv i4, rv b51, rv w32, iv (0 : Int32), rv b1054, rv b1158, .unset] [(.ref w32)])) _
        obtain ⟨T1168, X1168, e1168, st1168⟩ := getS2 X1166 hx hZ hown (host := "") (Or.inl (wd hw 10 rfl)) Via.refl e1166 (S_DocumentType_PURCHASE_CREDIT_NOTE.ext O1167.2) (g := (mkF m 98 #[iv i0, iv i1, iv i2, iv i3, iv i4, rv b51, rv w32, iv (0 : Int32), rv b1054, rv b1158, .unset] [(.ref w32)])) rfl (hb hby at_98)
        refine own_via (fun t k => st1168 t (Jvm.RoadKit.acmp (g := (mkF m 101 #[iv i0, iv i1, iv i2, iv i3, iv i4, rv b51, rv w32, iv (0 : Int32), rv b1054, rv b1158, .unset] [(.ref w38), (.ref w32)])) X1168 hx rfl rfl rfl (pc0 := 101) (pc' := 108) (same := false) rfl (hb hby at_101) rfl (decide_eq_false fun q => (Fld.ne SF_w32_purchase SF_w38_purchase (by decide)) (Value.ref.inj q)) (by decide) (by decide) (XS.iconst X1168.here hx rfl (hb hby at_108) (XS.istore X1168.here hx rfl (hb hby at_109) rfl (l' := #[iv i0, iv i1, iv i2, iv i3, iv i4, rv b51, rv w32, iv (0 : Int32), rv b1054, rv b1158, iv (0 : Int32)]) rfl (XS.iload X1168.here hx rfl (hb hby at_111) rfl (XS.ifYes X1168.here hx rfl (pc0 := 113) (pc' := 129) rfl (hb hby at_113) rfl ((if0 _ _).trans (teq (by decide : (0 : Int32) = (0 : Int32))).1) (by decide) (by decide) (XS.aload X1168.here hx rfl (hb hby at_129) rfl rfl k))))))) ?_
        show own_Goes p e below (T1168.setTop (mkF m 131 #[iv i0, iv i1, iv i2, iv i3, iv i4, rv b51, rv w32, iv (0 : Int32), rv b1054, rv b1158, iv (0 : Int32)] [(.ref b1158)])) _
        have l1170 : own_Len Z h1156 b1159 .byte (0 : Int32) := ⟨_, _, _, vx1163⟩
        obtain ⟨_, T1169, _, X1169, hQ1169, Cr1169, hS, hZ, hown, st1169⟩ := own_cvH X1168 hx hZ hS hk1165 hown (wd hw 56 rfl) (wd hw 57 rfl) (wd hw 59 rfl) (wd hw 58 rfl) (wd hw 60 rfl) (wd hw 18 rfl) (by decide) hEE.ew C1164.1 (rm20 l Z a0 hw [] b1158 b1159 h1156 n0 O1167 fx1162 l1170) e1168 ex1161 (g := (mkF m 131 #[iv i0, iv i1, iv i2, iv i3, iv i4, rv b51, rv w32, iv (0 : Int32), rv b1054, rv b1158, iv (0 : Int32)] [(.ref b1158)])) rfl (by rw [hml]; rfl) (rest := []) (W := 0) (lenOf pd_8 rfl) rfl (by show 2 * 0 + _ ≤ _; exact Nat.le_of_eq rfl) (hb hby at_131) (by decide) (by decide) (by decide) (by decide)
        obtain ⟨rfl, Nq1169, hh1171⟩ := hQ1169
        have N1169 := Fr.app N1156 Nq1169
        rw [hh1171] at Cr1169
        have C1172 := C1164.trans Cr1169
        have hk1173 : T1169.heap.size ≤ h1156.size := Nat.le_of_eq (congrArg Array.size hh1171)
        refine own_via (fun t k => st1169 t k) ?_
        obtain ⟨fs, hr, hrun, hended, hRW⟩ := X1169.leaveW hS (by rw [hh1171]; first | exact hk1173 | exact Nat.le_refl _) (v := some (.int (1 : Int32))) (fun h => by rw [Bd.returns] at h; cases h)
        refine own_end (t := T1169.setFrames fs) ?_ ⟨_, hrun, hended, _, _, rfl, ?_, own_rmono hRW (by decide) (by decide)⟩
        · exact retN X1169 hx (t := .boolean) Bd.returns (by simp) (hb hby at_134) hr
        · exact ⟨rfl, N1169⟩
      · have N82 := Fr.app N76 Nq82
        have C1174 := C76.trans Cr82
        have N1175 : b51 ≠ b1060 := Nat.ne_of_lt (Nat.lt_of_lt_of_le V77.lt bx1064)
        have g1176 : n0 ≤ b1060 := Nat.le_trans (own_old O1043) bx1064
        have Z1178 : h0.size ≤ h76.size := (Nat.le_trans (Nat.le_trans (Nat.le_trans (Nat.le_trans (Nat.le_trans (Nat.le_refl _) E50.1) (Nat.le_of_eq W58.size.symm)) (Nat.le_of_eq W64.size.symm)) (Nat.le_of_eq W70.size.symm)) (Nat.le_of_eq W76.size.symm))
        have B1177 : h0.size ≤ b1060 := Nat.le_trans Z1178 bx1064
        have hk1179 : T82.heap.size ≤ h82.size := Nat.le_of_eq (congrArg Array.size e82)
        refine own_via (fun t k => st82 t (XS.astore X82.here hx rfl (hb hby at_70) rfl rfl (l' := #[iv i0, iv i1, iv i2, iv i3, iv i4, rv b51, rv w32, iv (0 : Int32), rv b1060, .unset, .unset]) rfl (XS.aload X82.here hx rfl (hb hby at_72) rfl rfl (XS.aload X82.here hx rfl (hb hby at_74) rfl rfl k)))) ?_
        show own_Goes p e below (T82.setTop (mkF m 76 #[iv i0, iv i1, iv i2, iv i3, iv i4, rv b51, rv w32, iv (0 : Int32), rv b1060, .unset, .unset] [(.ref b1060), (.ref w32)])) _
        have O1181 : Old Z n0 h82 := (O1043.keep K82 all0)
        obtain ⟨_, T1180, _, X1180, hQ1180, Cr1180, hS, hZ, hown, st1180⟩ := own_cvH X82 hx hZ hS hk1179 hown (wd hw 46 rfl) (wd hw 47 rfl) (wd hw 49 rfl) (wd hw 48 rfl) (wd hw 50 rfl) (wd hw 3 rfl) (by decide) hEE.ew C1174.1 (rm19 l Z a0 hw [] w32 b1060 h82 n0 O1181 SF_w32_purchase) e82 (SE_w32.ext O1181.2) (g := (mkF m 76 #[iv i0, iv i1, iv i2, iv i3, iv i4, rv b51, rv w32, iv (0 : Int32), rv b1060, .unset, .unset] [(.ref b1060), (.ref w32)])) rfl (by rw [hml]; rfl) (rest := []) (W := 0) (lenOf pd_7 rfl) rfl (by show 2 * 0 + _ ≤ _; exact Nat.le_of_eq rfl) (hb hby at_76) (by decide) (by decide) (by decide) (by decide)
        obtain ⟨h1180, e1180⟩ : ∃ z, T1180.heap = z := ⟨_, rfl⟩
        rw [e1180] at hQ1180 Cr1180
        obtain ⟨b1182, b1183, k1184, rfl, Nq1180, K1180, ex1185, fx1186, vx1187⟩ := hQ1180
        have N1180 := Fr.app N82 Nq1180
        have C1188 := C1174.trans Cr1180
        have hk1189 : T1180.heap.size ≤ h1180.size := Nat.le_of_eq (congrArg Array.size e1180)
        refine own_via (fun t k => st1180 t (XS.astore X1180.here hx rfl (hb hby at_79) rfl rfl (l' := #[iv i0, iv i1, iv i2, iv i3, iv i4, rv b51, rv w32, iv (0 : Int32), rv b1060, rv b1182, .unset]) rfl (XS.aload X1180.here hx rfl (hb hby at_81) rfl rfl (XS.ifnonnullYes X1180.here hx rfl (pc0 := 83) (pc' := 88) rfl (hb hby at_83) rfl (by decide) (by decide) (XS.aload X1180.here hx rfl (hb hby at_88) rfl rfl k))))) ?_
        show own_Goes p e below (T1180.setTop (mkF m 90 #[iv i0, iv i1, iv i2, iv i3, iv i4, rv b51, rv w32, iv (0 : Int32), rv b1060, rv b1182, .unset] [(.ref w32)])) _
        have O1191 : Old Z n0 h1180 := (O1181.keep K1180 all0)
        obtain ⟨T1190, X1190, e1190, st1190⟩ := getS2 X1180 hx hZ hown (host := "") (Or.inl (wd hw 6 rfl)) Via.refl e1180 (S_DocumentType_PURCHASE_INVOICE.ext O1191.2) (g := (mkF m 90 #[iv i0, iv i1, iv i2, iv i3, iv i4, rv b51, rv w32, iv (0 : Int32), rv b1060, rv b1182, .unset] [(.ref w32)])) rfl (hb hby at_90)
        refine own_via (fun t k => st1190 t (Jvm.RoadKit.acmp (g := (mkF m 93 #[iv i0, iv i1, iv i2, iv i3, iv i4, rv b51, rv w32, iv (0 : Int32), rv b1060, rv b1182, .unset] [(.ref w34), (.ref w32)])) X1190 hx rfl rfl rfl (pc0 := 93) (pc' := 96) (same := false) rfl (hb hby at_93) rfl (decide_eq_false fun q => (Fld.ne SF_w32_purchase SF_w34_purchase (by decide)) (Value.ref.inj q)) (by decide) (by decide) (XS.aload X1190.here hx rfl (hb hby at_96) rfl rfl k))) ?_
        show own_Goes p e below (T1190.setTop (mkF m 98 #[iv i0, iv i1, iv i2, iv i3, iv i4, rv b51, rv w32, iv (0 : Int32), rv b1060, rv b1182, .unset] [(.ref w32)])) _
        obtain ⟨T1192, X1192, e1192, st1192⟩ := getS2 X1190 hx hZ hown (host := "") (Or.inl (wd hw 10 rfl)) Via.refl e1190 (S_DocumentType_PURCHASE_CREDIT_NOTE.ext O1191.2) (g := (mkF m 98 #[iv i0, iv i1, iv i2, iv i3, iv i4, rv b51, rv w32, iv (0 : Int32), rv b1060, rv b1182, .unset] [(.ref w32)])) rfl (hb hby at_98)
        refine own_via (fun t k => st1192 t (Jvm.RoadKit.acmp (g := (mkF m 101 #[iv i0, iv i1, iv i2, iv i3, iv i4, rv b51, rv w32, iv (0 : Int32), rv b1060, rv b1182, .unset] [(.ref w38), (.ref w32)])) X1192 hx rfl rfl rfl (pc0 := 101) (pc' := 108) (same := false) rfl (hb hby at_101) rfl (decide_eq_false fun q => (Fld.ne SF_w32_purchase SF_w38_purchase (by decide)) (Value.ref.inj q)) (by decide) (by decide) (XS.iconst X1192.here hx rfl (hb hby at_108) (XS.istore X1192.here hx rfl (hb hby at_109) rfl (l' := #[iv i0, iv i1, iv i2, iv i3, iv i4, rv b51, rv w32, iv (0 : Int32), rv b1060, rv b1182, iv (0 : Int32)]) rfl (XS.iload X1192.here hx rfl (hb hby at_111) rfl (XS.ifYes X1192.here hx rfl (pc0 := 113) (pc' := 129) rfl (hb hby at_113) rfl ((if0 _ _).trans (teq (by decide : (0 : Int32) = (0 : Int32))).1) (by decide) (by decide) (XS.aload X1192.here hx rfl (hb hby at_129) rfl rfl k))))))) ?_
        show own_Goes p e below (T1192.setTop (mkF m 131 #[iv i0, iv i1, iv i2, iv i3, iv i4, rv b51, rv w32, iv (0 : Int32), rv b1060, rv b1182, iv (0 : Int32)] [(.ref b1182)])) _
        have l1194 : own_Len Z h1180 b1183 .byte (0 : Int32) := ⟨_, _, _, vx1187⟩
        obtain ⟨_, T1193, _, X1193, hQ1193, Cr1193, hS, hZ, hown, st1193⟩ := own_cvH X1192 hx hZ hS hk1189 hown (wd hw 56 rfl) (wd hw 57 rfl) (wd hw 59 rfl) (wd hw 58 rfl) (wd hw 60 rfl) (wd hw 18 rfl) (by decide) hEE.ew C1188.1 (rm20 l Z a0 hw [] b1182 b1183 h1180 n0 O1191 fx1186 l1194) e1192 ex1185 (g := (mkF m 131 #[iv i0, iv i1, iv i2, iv i3, iv i4, rv b51, rv w32, iv (0 : Int32), rv b1060, rv b1182, iv (0 : Int32)] [(.ref b1182)])) rfl (by rw [hml]; rfl) (rest := []) (W := 0) (lenOf pd_8 rfl) rfl (by show 2 * 0 + _ ≤ _; exact Nat.le_of_eq rfl) (hb hby at_131) (by decide) (by decide) (by decide) (by decide)
        obtain ⟨rfl, Nq1193, hh1195⟩ := hQ1193
        have N1193 := Fr.app N1180 Nq1193
        rw [hh1195] at Cr1193
        have C1196 := C1188.trans Cr1193
        have hk1197 : T1193.heap.size ≤ h1180.size := Nat.le_of_eq (congrArg Array.size hh1195)
        refine own_via (fun t k => st1193 t k) ?_
        obtain ⟨fs, hr, hrun, hended, hRW⟩ := X1193.leaveW hS (by rw [hh1195]; first | exact hk1197 | exact Nat.le_refl _) (v := some (.int (1 : Int32))) (fun h => by rw [Bd.returns] at h; cases h)
        refine own_end (t := T1193.setFrames fs) ?_ ⟨_, hrun, hended, _, _, rfl, ?_, own_rmono hRW (by decide) (by decide)⟩
        · exact retN X1193 hx (t := .boolean) Bd.returns (by simp) (hb hby at_134) hr
        · exact ⟨rfl, N1193⟩
    · refine own_via (fun t k => XS.ifNo X76.here hx rfl (hb hby at_41) rfl ((if0 _ _).trans (feq hc81).1) (XS.iconst X76.here hx rfl (hb hby at_44) (XS.goto X76.here hx rfl (pc0 := 45) (pc' := 49) rfl (hb hby at_45) (by decide) (by decide) (XS.istore X76.here hx rfl (hb hby at_49) rfl (l' := #[iv i0, iv i1, iv i2, iv i3, iv i4, rv b51, rv w32, iv (1 : Int32), .unset, .unset, .unset]) rfl (XS.iload X76.here hx rfl (hb hby at_51) rfl (XS.ifNo X76.here hx rfl (hb hby at_53) rfl ((if0 _ _).trans (feq (by decide : ¬ ((1 : Int32) = (0 : Int32)))).1) (XS.aconstNull X76.here hx rfl (hb hby at_56) (XS.goto X76.here hx rfl (pc0 := 57) (pc' := 70) rfl (hb hby at_57) (by decide) (by decide) (XS.astore X76.here hx rfl (hb hby at_70) rfl rfl (l' := #[iv i0, iv i1, iv i2, iv i3, iv i4, rv b51, rv w32, iv (1 : Int32), .val .null, .unset, .unset]) rfl (XS.aload X76.here hx rfl (hb hby at_72) rfl rfl (XS.aload X76.here hx rfl (hb hby at_74) rfl rfl k))))))))))) ?_
      show own_Goes p e below (T76.setTop (mkF m 76 #[iv i0, iv i1, iv i2, iv i3, iv i4, rv b51, rv w32, iv (1 : Int32), .val .null, .unset, .unset] [.null, (.ref w32)])) _
      have O1213 : Old Z n0 h76 := (O74.wr W76 g52)
      have K1214 : k0 ≤ h76.size := (Nat.le_trans (Nat.le_trans (Nat.le_trans (Nat.le_trans (Nat.le_trans hk0 E50.1) (Nat.le_of_eq W58.size.symm)) (Nat.le_of_eq W64.size.symm)) (Nat.le_of_eq W70.size.symm)) (Nat.le_of_eq W76.size.symm))
      obtain ⟨_, T1198, _, X1198, hQ1198, Cr1198, hS, hZ, hown, st1198⟩ := own_cvH X76 hx hZ hS K1214 hown (wd hw 46 rfl) (wd hw 47 rfl) (wd hw 49 rfl) (wd hw 48 rfl) (wd hw 50 rfl) (wd hw 3 rfl) (by decide) hEE.ew C76.1 (rm21 l Z a0 hw [] w32 h76 n0 O1213 SF_w32_purchase) e76 (SE_w32.ext O1213.2) (g := (mkF m 76 #[iv i0, iv i1, iv i2, iv i3, iv i4, rv b51, rv w32, iv (1 : Int32), .val .null, .unset, .unset] [.null, (.ref w32)])) rfl (by rw [hml]; rfl) (rest := []) (W := 0) (lenOf pd_7 rfl) rfl (by show 2 * 0 + _ ≤ _; exact Nat.le_of_eq rfl) (hb hby at_76) (by decide) (by decide) (by decide) (by decide)
      obtain ⟨h1198, e1198⟩ : ∃ z, T1198.heap = z := ⟨_, rfl⟩
      rw [e1198] at hQ1198 Cr1198
      obtain ⟨b1215, b1216, k1217, rfl, Nq1198, K1198, ex1218, fx1219, vx1220⟩ := hQ1198
      have N1198 := Fr.app N76 Nq1198
      have C1221 := C76.trans Cr1198
      have hk1222 : T1198.heap.size ≤ h1198.size := Nat.le_of_eq (congrArg Array.size e1198)
      refine own_via (fun t k => st1198 t (XS.astore X1198.here hx rfl (hb hby at_79) rfl rfl (l' := #[iv i0, iv i1, iv i2, iv i3, iv i4, rv b51, rv w32, iv (1 : Int32), .val .null, rv b1215, .unset]) rfl (XS.aload X1198.here hx rfl (hb hby at_81) rfl rfl (XS.ifnonnullYes X1198.here hx rfl (pc0 := 83) (pc' := 88) rfl (hb hby at_83) rfl (by decide) (by decide) (XS.aload X1198.here hx rfl (hb hby at_88) rfl rfl k))))) ?_
      show own_Goes p e below (T1198.setTop (mkF m 90 #[iv i0, iv i1, iv i2, iv i3, iv i4, rv b51, rv w32, iv (1 : Int32), .val .null, rv b1215, .unset] [(.ref w32)])) _
      have O1224 : Old Z n0 h1198 := (O1213.keep K1198 all0)
      obtain ⟨T1223, X1223, e1223, st1223⟩ := getS2 X1198 hx hZ hown (host := "") (Or.inl (wd hw 6 rfl)) Via.refl e1198 (S_DocumentType_PURCHASE_INVOICE.ext O1224.2) (g := (mkF m 90 #[iv i0, iv i1, iv i2, iv i3, iv i4, rv b51, rv w32, iv (1 : Int32), .val .null, rv b1215, .unset] [(.ref w32)])) rfl (hb hby at_90)
      refine own_via (fun t k => st1223 t (Jvm.RoadKit.acmp (g := (mkF m 93 #[iv i0, iv i1, iv i2, iv i3, iv i4, rv b51, rv w32, iv (1 : Int32), .val .null, rv b1215, .unset] [(.ref w34), (.ref w32)])) X1223 hx rfl rfl rfl (pc0 := 93) (pc' := 96) (same := false) rfl (hb hby at_93) rfl (decide_eq_false fun q => (Fld.ne SF_w32_purchase SF_w34_purchase (by decide)) (Value.ref.inj q)) (by decide) (by decide) (XS.aload X1223.here hx rfl (hb hby at_96) rfl rfl k))) ?_
      show own_Goes p e below (T1223.setTop (mkF m 98 #[iv i0, iv i1, iv i2, iv i3, iv i4, rv b51, rv w32, iv (1 : Int32), .val .null, rv b1215, .unset] [(.ref w32)])) _
      obtain ⟨T1225, X1225, e1225, st1225⟩ := getS2 X1223 hx hZ hown (host := "") (Or.inl (wd hw 10 rfl)) Via.refl e1223 (S_DocumentType_PURCHASE_CREDIT_NOTE.ext O1224.2) (g := (mkF m 98 #[iv i0, iv i1, iv i2, iv i3, iv i4, rv b51, rv w32, iv (1 : Int32), .val .null, rv b1215, .unset] [(.ref w32)])) rfl (hb hby at_98)
      refine own_via (fun t k => st1225 t (Jvm.RoadKit.acmp (g := (mkF m 101 #[iv i0, iv i1, iv i2, iv i3, iv i4, rv b51, rv w32, iv (1 : Int32), .val .null, rv b1215, .unset] [(.ref w38), (.ref w32)])) X1225 hx rfl rfl rfl (pc0 := 101) (pc' := 108) (same := false) rfl (hb hby at_101) rfl (decide_eq_false fun q => (Fld.ne SF_w32_purchase SF_w38_purchase (by decide)) (Value.ref.inj q)) (by decide) (by decide) (XS.iconst X1225.here hx rfl (hb hby at_108) (XS.istore X1225.here hx rfl (hb hby at_109) rfl (l' := #[iv i0, iv i1, iv i2, iv i3, iv i4, rv b51, rv w32, iv (1 : Int32), .val .null, rv b1215, iv (0 : Int32)]) rfl (XS.iload X1225.here hx rfl (hb hby at_111) rfl (XS.ifYes X1225.here hx rfl (pc0 := 113) (pc' := 129) rfl (hb hby at_113) rfl ((if0 _ _).trans (teq (by decide : (0 : Int32) = (0 : Int32))).1) (by decide) (by decide) (XS.aload X1225.here hx rfl (hb hby at_129) rfl rfl k))))))) ?_
      show own_Goes p e below (T1225.setTop (mkF m 131 #[iv i0, iv i1, iv i2, iv i3, iv i4, rv b51, rv w32, iv (1 : Int32), .val .null, rv b1215, iv (0 : Int32)] [(.ref b1215)])) _
      have l1227 : own_Len Z h1198 b1216 .byte (0 : Int32) := ⟨_, _, _, vx1220⟩
      obtain ⟨_, T1226, _, X1226, hQ1226, Cr1226, hS, hZ, hown, st1226⟩ := own_cvH X1225 hx hZ hS hk1222 hown (wd hw 56 rfl) (wd hw 57 rfl) (wd hw 59 rfl) (wd hw 58 rfl) (wd hw 60 rfl) (wd hw 18 rfl) (by decide) hEE.ew C1221.1 (rm20 l Z a0 hw [] b1215 b1216 h1198 n0 O1224 fx1219 l1227) e1225 ex1218 (g := (mkF m 131 #[iv i0, iv i1, iv i2, iv i3, iv i4, rv b51, rv w32, iv (1 : Int32), .val .null, rv b1215, iv (0 : Int32)] [(.ref b1215)])) rfl (by rw [hml]; rfl) (rest := []) (W := 0) (lenOf pd_8 rfl) rfl (by show 2 * 0 + _ ≤ _; exact Nat.le_of_eq rfl) (hb hby at_131) (by decide) (by decide) (by decide) (by decide)
      obtain ⟨rfl, Nq1226, hh1228⟩ := hQ1226
      have N1226 := Fr.app N1198 Nq1226
      rw [hh1228] at Cr1226
      have C1229 := C1221.trans Cr1226
      have hk1230 : T1226.heap.size ≤ h1198.size := Nat.le_of_eq (congrArg Array.size hh1228)
      refine own_via (fun t k => st1226 t k) ?_
      obtain ⟨fs, hr, hrun, hended, hRW⟩ := X1226.leaveW hS (by rw [hh1228]; first | exact hk1230 | exact Nat.le_refl _) (v := some (.int (1 : Int32))) (fun h => by rw [Bd.returns] at h; cases h)
      refine own_end (t := T1226.setFrames fs) ?_ ⟨_, hrun, hended, _, _, rfl, ?_, own_rmono hRW (by decide) (by decide)⟩
      · exact retN X1226 hx (t := .boolean) Bd.returns (by simp) (hb hby at_134) hr
      · exact ⟨rfl, N1226⟩
  · have qs1231 := qs
    rw [qs]
    show own_Goes p e below (T76.setTop (mkF m 35 #[iv i0, iv i1, iv i2, iv i3, iv i4, rv b51, .unset, .unset, .unset, .unset, .unset] [(.int (1 : Int32)), (.ref b51)])) _
    obtain ⟨cl1232, Ar1232, qq1232, S1232, M1232, H1232, G1232⟩ := id (V77)
    have hin1232 : ¬ ((1 : Int32) < 0 ∨ cl1232.slots.size ≤ ((1 : Int32)).toNatClampNeg) := inb_of S1232 ⟨by decide, by decide⟩
    refine own_via (fun t k => X76.aaload hx (j := (1 : Int32)) (v := (.ref w34)) (by rw [e76]; exact Ar1232.1) (State.isArrayOf_alike hZ.alike Ar1232.2.1) rfl Ar1232.2.2 hin1232 (Has.at H1232 hin1232 rfl) (g := (mkF m 35 #[iv i0, iv i1, iv i2, iv i3, iv i4, rv b51, .unset, .unset, .unset, .unset, .unset] [(.int (1 : Int32)), (.ref b51)])) rfl rfl (hb hby at_35) t (XS.astore X76.here hx rfl (hb hby at_36) rfl rfl (l' := #[iv i0, iv i1, iv i2, iv i3, iv i4, rv b51, rv w34, .unset, .unset, .unset, .unset]) rfl (XS.iloadN X76.here hx rfl (hb hby at_38) rfl (XS.iconst X76.here hx rfl (hb hby at_39) (XS.iand X76.here hx rfl (hb hby at_40) rfl k))))) ?_
    show own_Goes p e below (T76.setTop (mkF m 41 #[iv i0, iv i1, iv i2, iv i3, iv i4, rv b51, rv w34, .unset, .unset, .unset, .unset] [(.int (i1 &&& (4 : Int32)))])) _
    by_cases hc1233 : (i1 &&& (4 : Int32)) = (0 : Int32)
    · refine own_via (fun t k => XS.ifYes X76.here hx rfl (pc0 := 41) (pc' := 48) rfl (hb hby at_41) rfl ((if0 _ _).trans (teq hc1233).1) (by decide) (by decide) (XS.iconst X76.here hx rfl (hb hby at_48) (XS.istore X76.here hx rfl (hb hby at_49) rfl (l' := #[iv i0, iv i1, iv i2, iv i3, iv i4, rv b51, rv w34, iv (0 : Int32), .unset, .unset, .unset]) rfl (XS.iload X76.here hx rfl (hb hby at_51) rfl (XS.ifYes X76.here hx rfl (pc0 := 53) (pc' := 60) rfl (hb hby at_53) rfl ((if0 _ _).trans (teq (by decide : (0 : Int32) = (0 : Int32))).1) (by decide) (by decide) (XS.iloadN X76.here hx rfl (hb hby at_60) rfl (XS.iconst X76.here hx rfl (hb hby at_61) (XS.iand X76.here hx rfl (hb hby at_62) rfl (XS.iloadN X76.here hx rfl (hb hby at_63) rfl (XS.iloadN X76.here hx rfl (hb hby at_64) rfl (XS.iload X76.here hx rfl (hb hby at_65) rfl k))))))))))) ?_
      show own_Goes p e below (T76.setTop (mkF m 67 #[iv i0, iv i1, iv i2, iv i3, iv i4, rv b51, rv w34, iv (0 : Int32), .unset, .unset, .unset] [(.int i4), (.int i3), (.int i2), (.int (i1 &&& (3 : Int32)))])) _
      have O1235 : Old Z n0 h76 := (O74.wr W76 g52)
      have K1236 : k0 ≤ h76.size := (Nat.le_trans (Nat.le_trans (Nat.le_trans (Nat.le_trans (Nat.le_trans hk0 E50.1) (Nat.le_of_eq W58.size.symm)) (Nat.le_of_eq W64.size.symm)) (Nat.le_of_eq W70.size.symm)) (Nat.le_of_eq W76.size.symm))
      obtain ⟨_, T1234, _, X1234, hQ1234, Cr1234, hS, hZ, hown, st1234⟩ := own_csH X76 hx hZ hS K1236 hown (wd hw 12 rfl) (wd hw 13 rfl) (wd hw 15 rfl) (wd hw 14 rfl) (by decide) hEE.ew C76.1 (rm18 l Z a0 hw [] (i1 &&& (3 : Int32)) i2 i3 i4 i48 h76 n0 O1235 S_String_COMPACT_STRINGS SNZ_i48) e76 (g := (mkF m 67 #[iv i0, iv i1, iv i2, iv i3, iv i4, rv b51, rv w34, iv (0 : Int32), .unset, .unset, .unset] [(.int i4), (.int i3), (.int i2), (.int (i1 &&& (3 : Int32)))])) rfl (by rw [hml]; rfl) (rest := []) (W := 0) (lenOf pd_6 rfl) rfl (by show 2 * 0 + _ ≤ _; exact Nat.le_of_eq rfl) (hb hby at_67) (by decide) (by decide) (by decide) (by decide)
      obtain ⟨h1234, e1234⟩ : ∃ z, T1234.heap = z := ⟨_, rfl⟩
      rw [e1234] at hQ1234 Cr1234
      rcases hQ1234 with ⟨b1237, hq1238, rfl, Nq1234, K1234, bx1239, ex1240⟩ | ⟨b1241, hq1242, hq1243, rfl, Nq1234, K1234, bx1244, ex1245⟩ | ⟨b1246, hq1247, hq1248, hq1249, rfl, Nq1234, K1234, bx1250, ex1251⟩ | ⟨b1252, hq1253, hq1254, hq1255, rfl, Nq1234, K1234, bx1256, ex1257⟩
      · have N1234 := Fr.app N76 Nq1234
        have C1258 := C76.trans Cr1234
        have N1259 : b51 ≠ b1237 := Nat.ne_of_lt (Nat.lt_of_lt_of_le V77.lt bx1239)
        have g1260 : n0 ≤ b1237 := Nat.le_trans (own_old O1235) bx1239
        have Z1262 : h0.size ≤ h76.size := (Nat.le_trans (Nat.le_trans (Nat.le_trans (Nat.le_trans (Nat.le_trans (Nat.le_refl _) E50.1) (Nat.le_of_eq W58.size.symm)) (Nat.le_of_eq W64.size.symm)) (Nat.le_of_eq W70.size.symm)) (Nat.le_of_eq W76.size.symm))
        have B1261 : h0.size ≤ b1237 := Nat.le_trans Z1262 bx1239
        have hk1263 : T1234.heap.size ≤ h1234.size := Nat.le_of_eq (congrArg Array.size e1234)
        refine own_via (fun t k => st1234 t (XS.astore X1234.here hx rfl (hb hby at_70) rfl rfl (l' := #[iv i0, iv i1, iv i2, iv i3, iv i4, rv b51, rv w34, iv (0 : Int32), rv b1237, .unset, .unset]) rfl (XS.aload X1234.here hx rfl (hb hby at_72) rfl rfl (XS.aload X1234.here hx rfl (hb hby at_74) rfl rfl k)))) ?_
        show own_Goes p e below (T1234.setTop (mkF m 76 #[iv i0, iv i1, iv i2, iv i3, iv i4, rv b51, rv w34, iv (0 : Int32), rv b1237, .unset, .unset] [(.ref b1237), (.ref w34)])) _
        have O1279 : Old Z n0 h1234 := (O1235.keep K1234 all0)
        obtain ⟨_, T1264, _, X1264, hQ1264, Cr1264, hS, hZ, hown, st1264⟩ := own_cvH X1234 hx hZ hS hk1263 hown (wd hw 46 rfl) (wd hw 47 rfl) (wd hw 49 rfl) (wd hw 48 rfl) (wd hw 50 rfl) (wd hw 3 rfl) (by decide) hEE.ew C1258.1 (rm22 l Z a0 hw [] w34 b1237 h1234 n0 O1279 SF_w34_purchase) e1234 (SE_w34.ext O1279.2) (g := (mkF m 76 #[iv i0, iv i1, iv i2, iv i3, iv i4, rv b51, rv w34, iv (0 : Int32), rv b1237, .unset, .unset] [(.ref b1237), (.ref w34)])) rfl (by rw [hml]; rfl) (rest := []) (W := 0) (lenOf pd_7 rfl) rfl (by show 2 * 0 + _ ≤ _; exact Nat.le_of_eq rfl) (hb hby at_76) (by decide) (by decide) (by decide) (by decide)
        obtain ⟨rfl, Nq1264, hh1280⟩ := hQ1264
        have N1264 := Fr.app N1234 Nq1264
        rw [hh1280] at Cr1264
        have C1281 := C1258.trans Cr1264
        have hk1282 : T1264.heap.size ≤ h1234.size := Nat.le_of_eq (congrArg Array.size hh1280)
        refine own_via (fun t k => st1264 t (XS.astore X1264.here hx rfl (hb hby at_79) rfl rfl (l' := #[iv i0, iv i1, iv i2, iv i3, iv i4, rv b51, rv w34, iv (0 : Int32), rv b1237, rv b1237, .unset]) rfl (XS.aload X1264.here hx rfl (hb hby at_81) rfl rfl (XS.ifnonnullYes X1264.here hx rfl (pc0 := 83) (pc' := 88) rfl (hb hby at_83) rfl (by decide) (by decide) (XS.aload X1264.here hx rfl (hb hby at_88) rfl rfl k))))) ?_
        show own_Goes p e below (T1264.setTop (mkF m 90 #[iv i0, iv i1, iv i2, iv i3, iv i4, rv b51, rv w34, iv (0 : Int32), rv b1237, rv b1237, .unset] [(.ref w34)])) _
        obtain ⟨T1283, X1283, e1283, st1283⟩ := getS2 X1264 hx hZ hown (host := "") (Or.inl (wd hw 6 rfl)) Via.refl hh1280 (S_DocumentType_PURCHASE_INVOICE.ext O1279.2) (g := (mkF m 90 #[iv i0, iv i1, iv i2, iv i3, iv i4, rv b51, rv w34, iv (0 : Int32), rv b1237, rv b1237, .unset] [(.ref w34)])) rfl (hb hby at_90)
        refine own_via (fun t k => st1283 t (Jvm.RoadKit.acmp (g := (mkF m 93 #[iv i0, iv i1, iv i2, iv i3, iv i4, rv b51, rv w34, iv (0 : Int32), rv b1237, rv b1237, .unset] [(.ref w34), (.ref w34)])) X1283 hx rfl rfl rfl (pc0 := 93) (pc' := 104) (same := true) rfl (hb hby at_93) rfl (decide_eq_true rfl) (by decide) (by decide) (XS.iconst X1283.here hx rfl (hb hby at_104) (XS.goto X1283.here hx rfl (pc0 := 105) (pc' := 109) rfl (hb hby at_105) (by decide) (by decide) (XS.istore X1283.here hx rfl (hb hby at_109) rfl (l' := #[iv i0, iv i1, iv i2, iv i3, iv i4, rv b51, rv w34, iv (0 : Int32), rv b1237, rv b1237, iv (1 : Int32)]) rfl (XS.iload X1283.here hx rfl (hb hby at_111) rfl (XS.ifNo X1283.here hx rfl (hb hby at_113) rfl ((if0 _ _).trans (feq (by decide : ¬ ((1 : Int32) = (0 : Int32)))).1) (XS.aload X1283.here hx rfl (hb hby at_116) rfl rfl (XS.ifnullNo X1283.here hx rfl (hb hby at_118) rfl (XS.aload X1283.here hx rfl (hb hby at_121) rfl rfl (XS.aload X1283.here hx rfl (hb hby at_123) rfl rfl k))))))))))) ?_
        show own_Goes p e below (T1283.setTop (mkF m 125 #[iv i0, iv i1, iv i2, iv i3, iv i4, rv b51, rv w34, iv (0 : Int32), rv b1237, rv b1237, iv (1 : Int32)] [(.ref b1237), (.ref b1237)])) _
        obtain ⟨_, T1284, _, X1284, hQ1284, Cr1284, hS, hZ, hown, st1284⟩ := own_cvH X1283 hx hZ hS hk1282 hown (wd hw 61 rfl) (wd hw 62 rfl) (wd hw 64 rfl) (wd hw 63 rfl) (wd hw 65 rfl) (wd hw 18 rfl) (by decide) hEE.ew C1281.1 (rm23 l Z a0 hw [] b1237 h1234 n0 O1279 ) e1283 ex1240 (g := (mkF m 125 #[iv i0, iv i1, iv i2, iv i3, iv i4, rv b51, rv w34, iv (0 : Int32), rv b1237, rv b1237, iv (1 : Int32)] [(.ref b1237), (.ref b1237)])) rfl (by rw [hml]; rfl) (rest := []) (W := 0) (lenOf pd_9 rfl) rfl (by show 2 * 0 + _ ≤ _; exact Nat.le_of_eq rfl) (hb hby at_125) (by decide) (by decide) (by decide) (by decide)
        obtain ⟨rfl, Nq1284, hh1298⟩ := hQ1284
        have N1284 := Fr.app N1264 Nq1284
        rw [hh1298] at Cr1284
        have C1299 := C1281.trans Cr1284
        have hk1300 : T1284.heap.size ≤ h1234.size := Nat.le_of_eq (congrArg Array.size hh1298)
        refine own_via (fun t k => st1284 t k) ?_
        obtain ⟨fs, hr, hrun, hended, hRW⟩ := X1284.leaveW hS (by rw [hh1298]; first | exact hk1300 | exact Nat.le_refl _) (v := some (.int (1 : Int32))) (fun h => by rw [Bd.returns] at h; cases h)
        refine own_end (t := T1284.setFrames fs) ?_ ⟨_, hrun, hended, _, _, rfl, ?_, own_rmono hRW (by decide) (by decide)⟩
        · exact retN X1284 hx (t := .boolean) Bd.returns (by simp) (hb hby at_128) hr
        · exact ⟨rfl, N1284⟩
      · have N1234 := Fr.app N76 Nq1234
        have C1301 := C76.trans Cr1234
        have N1302 : b51 ≠ b1241 := Nat.ne_of_lt (Nat.lt_of_lt_of_le V77.lt bx1244)
        have g1303 : n0 ≤ b1241 := Nat.le_trans (own_old O1235) bx1244
        have Z1305 : h0.size ≤ h76.size := (Nat.le_trans (Nat.le_trans (Nat.le_trans (Nat.le_trans (Nat.le_trans (Nat.le_refl _) E50.1) (Nat.le_of_eq W58.size.symm)) (Nat.le_of_eq W64.size.symm)) (Nat.le_of_eq W70.size.symm)) (Nat.le_of_eq W76.size.symm))
        have B1304 : h0.size ≤ b1241 := Nat.le_trans Z1305 bx1244
        have hk1306 : T1234.heap.size ≤ h1234.size := Nat.le_of_eq (congrArg Array.size e1234)
        refine own_via (fun t k => st1234 t (XS.astore X1234.here hx rfl (hb hby at_70) rfl rfl (l' := #[iv i0, iv i1, iv i2, iv i3, iv i4, rv b51, rv w34, iv (0 : Int32), rv b1241, .unset, .unset]) rfl (XS.aload X1234.here hx rfl (hb hby at_72) rfl rfl (XS.aload X1234.here hx rfl (hb hby at_74) rfl rfl k)))) ?_
        show own_Goes p e below (T1234.setTop (mkF m 76 #[iv i0, iv i1, iv i2, iv i3, iv i4, rv b51, rv w34, iv (0 : Int32), rv b1241, .unset, .unset] [(.ref b1241), (.ref w34)])) _
        have O1308 : Old Z n0 h1234 := (O1235.keep K1234 all0)
        obtain ⟨_, T1307, _, X1307, hQ1307, Cr1307, hS, hZ, hown, st1307⟩ := own_cvH X1234 hx hZ hS hk1306 hown (wd hw 46 rfl) (wd hw 47 rfl) (wd hw 49 rfl) (wd hw 48 rfl) (wd hw 50 rfl) (wd hw 3 rfl) (by decide) hEE.ew C1301.1 (rm22 l Z a0 hw [] w34 b1241 h1234 n0 O1308 SF_w34_purchase) e1234 (SE_w34.ext O1308.2) (g := (mkF m 76 #[iv i0, iv i1, iv i2, iv i3, iv i4, rv b51, rv w34, iv (0 : Int32), rv b1241, .unset, .unset] [(.ref b1241), (.ref w34)])) rfl (by rw [hml]; rfl) (rest := []) (W := 0) (lenOf pd_7 rfl) rfl (by show 2 * 0 + _ ≤ _; exact Nat.le_of_eq rfl) (hb hby at_76) (by decide) (by decide) (by decide) (by decide)
        obtain ⟨rfl, Nq1307, hh1309⟩ := hQ1307
        have N1307 := Fr.app N1234 Nq1307
        rw [hh1309] at Cr1307
        have C1310 := C1301.trans Cr1307
        have hk1311 : T1307.heap.size ≤ h1234.size := Nat.le_of_eq (congrArg Array.size hh1309)
        refine own_via (fun t k => st1307 t (XS.astore X1307.here hx rfl (hb hby at_79) rfl rfl (l' := #[iv i0, iv i1, iv i2, iv i3, iv i4, rv b51, rv w34, iv (0 : Int32), rv b1241, rv b1241, .unset]) rfl (XS.aload X1307.here hx rfl (hb hby at_81) rfl rfl (XS.ifnonnullYes X1307.here hx rfl (pc0 := 83) (pc' := 88) rfl (hb hby at_83) rfl (by decide) (by decide) (XS.aload X1307.here hx rfl (hb hby at_88) rfl rfl k))))) ?_
        show own_Goes p e below (T1307.setTop (mkF m 90 #[iv i0, iv i1, iv i2, iv i3, iv i4, rv b51, rv w34, iv (0 : Int32), rv b1241, rv b1241, .unset] [(.ref w34)])) _
        obtain ⟨T1312, X1312, e1312, st1312⟩ := getS2 X1307 hx hZ hown (host := "") (Or.inl (wd hw 6 rfl)) Via.refl hh1309 (S_DocumentType_PURCHASE_INVOICE.ext O1308.2) (g := (mkF m 90 #[iv i0, iv i1, iv i2, iv i3, iv i4, rv b51, rv w34, iv (0 : Int32), rv b1241, rv b1241, .unset] [(.ref w34)])) rfl (hb hby at_90)
        refine own_via (fun t k => st1312 t (Jvm.RoadKit.acmp (g := (mkF m 93 #[iv i0, iv i1, iv i2, iv i3, iv i4, rv b51, rv w34, iv (0 : Int32), rv b1241, rv b1241, .unset] [(.ref w34), (.ref w34)])) X1312 hx rfl rfl rfl (pc0 := 93) (pc' := 104) (same := true) rfl (hb hby at_93) rfl (decide_eq_true rfl) (by decide) (by decide) (XS.iconst X1312.here hx rfl (hb hby at_104) (XS.goto X1312.here hx rfl (pc0 := 105) (pc' := 109) rfl (hb hby at_105) (by decide) (by decide) (XS.istore X1312.here hx rfl (hb hby at_109) rfl (l' := #[iv i0, iv i1, iv i2, iv i3, iv i4, rv b51, rv w34, iv (0 : Int32), rv b1241, rv b1241, iv (1 : Int32)]) rfl (XS.iload X1312.here hx rfl (hb hby at_111) rfl (XS.ifNo X1312.here hx rfl (hb hby at_113) rfl ((if0 _ _).trans (feq (by decide : ¬ ((1 : Int32) = (0 : Int32)))).1) (XS.aload X1312.here hx rfl (hb hby at_116) rfl rfl (XS.ifnullNo X1312.here hx rfl (hb hby at_118) rfl (XS.aload X1312.here hx rfl (hb hby at_121) rfl rfl (XS.aload X1312.here hx rfl (hb hby at_123) rfl rfl k))))))))))) ?_
        show own_Goes p e below (T1312.setTop (mkF m 125 #[iv i0, iv i1, iv i2, iv i3, iv i4, rv b51, rv w34, iv (0 : Int32), rv b1241, rv b1241, iv (1 : Int32)] [(.ref b1241), (.ref b1241)])) _
        obtain ⟨_, T1313, _, X1313, hQ1313, Cr1313, hS, hZ, hown, st1313⟩ := own_cvH X1312 hx hZ hS hk1311 hown (wd hw 61 rfl) (wd hw 62 rfl) (wd hw 64 rfl) (wd hw 63 rfl) (wd hw 65 rfl) (wd hw 18 rfl) (by decide) hEE.ew C1310.1 (rm23 l Z a0 hw [] b1241 h1234 n0 O1308 ) e1312 ex1245 (g := (mkF m 125 #[iv i0, iv i1, iv i2, iv i3, iv i4, rv b51, rv w34, iv (0 : Int32), rv b1241, rv b1241, iv (1 : Int32)] [(.ref b1241), (.ref b1241)])) rfl (by rw [hml]; rfl) (rest := []) (W := 0) (lenOf pd_9 rfl) rfl (by show 2 * 0 + _ ≤ _; exact Nat.le_of_eq rfl) (hb hby at_125) (by decide) (by decide) (by decide) (by decide)
        obtain ⟨rfl, Nq1313, hh1314⟩ := hQ1313
        have N1313 := Fr.app N1307 Nq1313
        rw [hh1314] at Cr1313
        have C1315 := C1310.trans Cr1313
        have hk1316 : T1313.heap.size ≤ h1234.size := Nat.le_of_eq (congrArg Array.size hh1314)
        refine own_via (fun t k => st1313 t k) ?_
        obtain ⟨fs, hr, hrun, hended, hRW⟩ := X1313.leaveW hS (by rw [hh1314]; first | exact hk1316 | exact Nat.le_refl _) (v := some (.int (1 : Int32))) (fun h => by rw [Bd.returns] at h; cases h)
        refine own_end (t := T1313.setFrames fs) ?_ ⟨_, hrun, hended, _, _, rfl, ?_, own_rmono hRW (by decide) (by decide)⟩
        · exact retN X1313 hx (t := .boolean) Bd.returns (by simp) (hb hby at_128) hr
        · exact ⟨rfl, N1313⟩
      · have N1234 := Fr.app N76 Nq1234
        have C1317 := C76.trans Cr1234
        have N1318 : b51 ≠ b1246 := Nat.ne_of_lt (Nat.lt_of_lt_of_le V77.lt bx1250)
        have g1319 : n0 ≤ b1246 := Nat.le_trans (own_old O1235) bx1250
        have Z1321 : h0.size ≤ h76.size := (Nat.le_trans (Nat.le_trans (Nat.le_trans (Nat.le_trans (Nat.le_trans (Nat.le_refl _) E50.1) (Nat.le_of_eq W58.size.symm)) (Nat.le_of_eq W64.size.symm)) (Nat.le_of_eq W70.size.symm)) (Nat.le_of_eq W76.size.symm))
        have B1320 : h0.size ≤ b1246 := Nat.le_trans Z1321 bx1250
        have hk1322 : T1234.heap.size ≤ h1234.size := Nat.le_of_eq (congrArg Array.size e1234)
        refine own_via (fun t k => st1234 t (XS.astore X1234.here hx rfl (hb hby at_70) rfl rfl (l' := #[iv i0, iv i1, iv i2, iv i3, iv i4, rv b51, rv w34, iv (0 : Int32), rv b1246, .unset, .unset]) rfl (XS.aload X1234.here hx rfl (hb hby at_72) rfl rfl (XS.aload X1234.here hx rfl (hb hby at_74) rfl rfl k)))) ?_
        show own_Goes p e below (T1234.setTop (mkF m 76 #[iv i0, iv i1, iv i2, iv i3, iv i4, rv b51, rv w34, iv (0 : Int32), rv b1246, .unset, .unset] [(.ref b1246), (.ref w34)])) _
        have O1324 : Old Z n0 h1234 := (O1235.keep K1234 all0)
        obtain ⟨_, T1323, _, X1323, hQ1323, Cr1323, hS, hZ, hown, st1323⟩ := own_cvH X1234 hx hZ hS hk1322 hown (wd hw 46 rfl) (wd hw 47 rfl) (wd hw 49 rfl) (wd hw 48 rfl) (wd hw 50 rfl) (wd hw 3 rfl) (by decide) hEE.ew C1317.1 (rm22 l Z a0 hw [] w34 b1246 h1234 n0 O1324 SF_w34_purchase) e1234 (SE_w34.ext O1324.2) (g := (mkF m 76 #[iv i0, iv i1, iv i2, iv i3, iv i4, rv b51, rv w34, iv (0 : Int32), rv b1246, .unset, .unset] [(.ref b1246), (.ref w34)])) rfl (by rw [hml]; rfl) (rest := []) (W := 0) (lenOf pd_7 rfl) rfl (by show 2 * 0 + _ ≤ _; exact Nat.le_of_eq rfl) (hb hby at_76) (by decide) (by decide) (by decide) (by decide)
        obtain ⟨rfl, Nq1323, hh1325⟩ := hQ1323
        have N1323 := Fr.app N1234 Nq1323
        rw [hh1325] at Cr1323
        have C1326 := C1317.trans Cr1323
        have hk1327 : T1323.heap.size ≤ h1234.size := Nat.le_of_eq (congrArg Array.size hh1325)
        refine own_via (fun t k => st1323 t (XS.astore X1323.here hx rfl (hb hby at_79) rfl rfl (l' := #[iv i0, iv i1, iv i2, iv i3, iv i4, rv b51, rv w34, iv (0 : Int32), rv b1246, rv b1246, .unset]) rfl (XS.aload X1323.here hx rfl (hb hby at_81) rfl rfl (XS.ifnonnullYes X1323.here hx rfl (pc0 := 83) (pc' := 88) rfl (hb hby at_83) rfl (by decide) (by decide) (XS.aload X1323.here hx rfl (hb hby at_88) rfl rfl k))))) ?_
        show own_Goes p e below (T1323.setTop (mkF m 90 #[iv i0, iv i1, iv i2, iv i3, iv i4, rv b51, rv w34, iv (0 : Int32), rv b1246, rv b1246, .unset] [(.ref w34)])) _
        obtain ⟨T1328, X1328, e1328, st1328⟩ := getS2 X1323 hx hZ hown (host := "") (Or.inl (wd hw 6 rfl)) Via.refl hh1325 (S_DocumentType_PURCHASE_INVOICE.ext O1324.2) (g := (mkF m 90 #[iv i0, iv i1, iv i2, iv i3, iv i4, rv b51, rv w34, iv (0 : Int32), rv b1246, rv b1246, .unset] [(.ref w34)])) rfl (hb hby at_90)
        refine own_via (fun t k => st1328 t (Jvm.RoadKit.acmp (g := (mkF m 93 #[iv i0, iv i1, iv i2, iv i3, iv i4, rv b51, rv w34, iv (0 : Int32), rv b1246, rv b1246, .unset] [(.ref w34), (.ref w34)])) X1328 hx rfl rfl rfl (pc0 := 93) (pc' := 104) (same := true) rfl (hb hby at_93) rfl (decide_eq_true rfl) (by decide) (by decide) (XS.iconst X1328.here hx rfl (hb hby at_104) (XS.goto X1328.here hx rfl (pc0 := 105) (pc' := 109) rfl (hb hby at_105) (by decide) (by decide) (XS.istore X1328.here hx rfl (hb hby at_109) rfl (l' := #[iv i0, iv i1, iv i2, iv i3, iv i4, rv b51, rv w34, iv (0 : Int32), rv b1246, rv b1246, iv (1 : Int32)]) rfl (XS.iload X1328.here hx rfl (hb hby at_111) rfl (XS.ifNo X1328.here hx rfl (hb hby at_113) rfl ((if0 _ _).trans (feq (by decide : ¬ ((1 : Int32) = (0 : Int32)))).1) (XS.aload X1328.here hx rfl (hb hby at_116) rfl rfl (XS.ifnullNo X1328.here hx rfl (hb hby at_118) rfl (XS.aload X1328.here hx rfl (hb hby at_121) rfl rfl (XS.aload X1328.here hx rfl (hb hby at_123) rfl rfl k))))))))))) ?_
        show own_Goes p e below (T1328.setTop (mkF m 125 #[iv i0, iv i1, iv i2, iv i3, iv i4, rv b51, rv w34, iv (0 : Int32), rv b1246, rv b1246, iv (1 : Int32)] [(.ref b1246), (.ref b1246)])) _
        obtain ⟨_, T1329, _, X1329, hQ1329, Cr1329, hS, hZ, hown, st1329⟩ := own_cvH X1328 hx hZ hS hk1327 hown (wd hw 61 rfl) (wd hw 62 rfl) (wd hw 64 rfl) (wd hw 63 rfl) (wd hw 65 rfl) (wd hw 18 rfl) (by decide) hEE.ew C1326.1 (rm23 l Z a0 hw [] b1246 h1234 n0 O1324 ) e1328 ex1251 (g := (mkF m 125 #[iv i0, iv i1, iv i2, iv i3, iv i4, rv b51, rv w34, iv (0 : Int32), rv b1246, rv b1246, iv (1 : Int32)] [(.ref b1246), (.ref b1246)])) rfl (by rw [hml]; rfl) (rest := []) (W := 0) (lenOf pd_9 rfl) rfl (by show 2 * 0 + _ ≤ _; exact Nat.le_of_eq rfl) (hb hby at_125) (by decide) (by decide) (by decide) (by decide)
        obtain ⟨rfl, Nq1329, hh1330⟩ := hQ1329
        have N1329 := Fr.app N1323 Nq1329
        rw [hh1330] at Cr1329
        have C1331 := C1326.trans Cr1329
        have hk1332 : T1329.heap.size ≤ h1234.size := Nat.le_of_eq (congrArg Array.size hh1330)
        refine own_via (fun t k => st1329 t k) ?_
        obtain ⟨fs, hr, hrun, hended, hRW⟩ := X1329.leaveW hS (by rw [hh1330]; first | exact hk1332 | exact Nat.le_refl _) (v := some (.int (1 : Int32))) (fun h => by rw [Bd.returns] at h; cases h)
        refine own_end (t := T1329.setFrames fs) ?_ ⟨_, hrun, hended, _, _, rfl, ?_, own_rmono hRW (by decide) (by decide)⟩
        · exact retN X1329 hx (t := .boolean) Bd.returns (by simp) (hb hby at_128) hr
        · exact ⟨rfl, N1329⟩
      · have N1234 := Fr.app N76 Nq1234
        have C1333 := C76.trans Cr1234
        have N1334 : b51 ≠ b1252 := Nat.ne_of_lt (Nat.lt_of_lt_of_le V77.lt bx1256)
        have g1335 : n0 ≤ b1252 := Nat.le_trans (own_old O1235) bx1256
        have Z1337 : h0.size ≤ h76.size := (Nat.le_trans (Nat.le_trans (Nat.le_trans (Nat.le_trans (Nat.le_trans (Nat.le_refl _) E50.1) (Nat.le_of_eq W58.size.symm)) (Nat.le_of_eq W64.size.symm)) (Nat.le_of_eq W70.size.symm)) (Nat.le_of_eq W76.size.symm))
        have B1336 : h0.size ≤ b1252 := Nat.le_trans Z1337 bx1256
        have hk1338 : T1234.heap.size ≤ h1234.size := Nat.le_of_eq (congrArg Array.size e1234)
        refine own_via (fun t k => st1234 t (XS.astore X1234.here hx rfl (hb hby at_70) rfl rfl (l' := #[iv i0, iv i1, iv i2, iv i3, iv i4, rv b51, rv w34, iv (0 : Int32), rv b1252, .unset, .unset]) rfl (XS.aload X1234.here hx rfl (hb hby at_72) rfl rfl (XS.aload X1234.here hx rfl (hb hby at_74) rfl rfl k)))) ?_
        show own_Goes p e below (T1234.setTop (mkF m 76 #[iv i0, iv i1, iv i2, iv i3, iv i4, rv b51, rv w34, iv (0 : Int32), rv b1252, .unset, .unset] [(.ref b1252), (.ref w34)])) _
        have O1340 : Old Z n0 h1234 := (O1235.keep K1234 all0)
        obtain ⟨_, T1339, _, X1339, hQ1339, Cr1339, hS, hZ, hown, st1339⟩ := own_cvH X1234 hx hZ hS hk1338 hown (wd hw 46 rfl) (wd hw 47 rfl) (wd hw 49 rfl) (wd hw 48 rfl) (wd hw 50 rfl) (wd hw 3 rfl) (by decide) hEE.ew C1333.1 (rm22 l Z a0 hw [] w34 b1252 h1234 n0 O1340 SF_w34_purchase) e1234 (SE_w34.ext O1340.2) (g := (mkF m 76 #[iv i0, iv i1, iv i2, iv i3, iv i4, rv b51, rv w34, iv (0 : Int32), rv b1252, .unset, .unset] [(.ref b1252), (.ref w34)])) rfl (by rw [hml]; rfl) (rest := []) (W := 0) (lenOf pd_7 rfl) rfl (by show 2 * 0 + _ ≤ _; exact Nat.le_of_eq rfl) (hb hby at_76) (by decide) (by decide) (by decide) (by decide)
        obtain ⟨rfl, Nq1339, hh1341⟩ := hQ1339
        have N1339 := Fr.app N1234 Nq1339
        rw [hh1341] at Cr1339
        have C1342 := C1333.trans Cr1339
        have hk1343 : T1339.heap.size ≤ h1234.size := Nat.le_of_eq (congrArg Array.size hh1341)
        refine own_via (fun t k => st1339 t (XS.astore X1339.here hx rfl (hb hby at_79) rfl rfl (l' := #[iv i0, iv i1, iv i2, iv i3, iv i4, rv b51, rv w34, iv (0 : Int32), rv b1252, rv b1252, .unset]) rfl (XS.aload X1339.here hx rfl (hb hby at_81) rfl rfl (XS.ifnonnullYes X1339.here hx rfl (pc0 := 83) (pc' := 88) rfl (hb hby at_83) rfl (by decide) (by decide) (XS.aload X1339.here hx rfl (hb hby at_88) rfl rfl k))))) ?_
        show own_Goes p e below (T1339.setTop (mkF m 90 #[iv i0, iv i1, iv i2, iv i3, iv i4, rv b51, rv w34, iv (0 : Int32), rv b1252, rv b1252, .unset] [(.ref w34)])) _
        obtain ⟨T1344, X1344, e1344, st1344⟩ := getS2 X1339 hx hZ hown (host := "") (Or.inl (wd hw 6 rfl)) Via.refl hh1341 (S_DocumentType_PURCHASE_INVOICE.ext O1340.2) (g := (mkF m 90 #[iv i0, iv i1, iv i2, iv i3, iv i4, rv b51, rv w34, iv (0 : Int32), rv b1252, rv b1252, .unset] [(.ref w34)])) rfl (hb hby at_90)
        refine own_via (fun t k => st1344 t (Jvm.RoadKit.acmp (g := (mkF m 93 #[iv i0, iv i1, iv i2, iv i3, iv i4, rv b51, rv w34, iv (0 : Int32), rv b1252, rv b1252, .unset] [(.ref w34), (.ref w34)])) X1344 hx rfl rfl rfl (pc0 := 93) (pc' := 104) (same := true) rfl (hb hby at_93) rfl (decide_eq_true rfl) (by decide) (by decide) (XS.iconst X1344.here hx rfl (hb hby at_104) (XS.goto X1344.here hx rfl (pc0 := 105) (pc' := 109) rfl (hb hby at_105) (by decide) (by decide) (XS.istore X1344.here hx rfl (hb hby at_109) rfl (l' := #[iv i0, iv i1, iv i2, iv i3, iv i4, rv b51, rv w34, iv (0 : Int32), rv b1252, rv b1252, iv (1 : Int32)]) rfl (XS.iload X1344.here hx rfl (hb hby at_111) rfl (XS.ifNo X1344.here hx rfl (hb hby at_113) rfl ((if0 _ _).trans (feq (by decide : ¬ ((1 : Int32) = (0 : Int32)))).1) (XS.aload X1344.here hx rfl (hb hby at_116) rfl rfl (XS.ifnullNo X1344.here hx rfl (hb hby at_118) rfl (XS.aload X1344.here hx rfl (hb hby at_121) rfl rfl (XS.aload X1344.here hx rfl (hb hby at_123) rfl rfl k))))))))))) ?_
        show own_Goes p e below (T1344.setTop (mkF m 125 #[iv i0, iv i1, iv i2, iv i3, iv i4, rv b51, rv w34, iv (0 : Int32), rv b1252, rv b1252, iv (1 : Int32)] [(.ref b1252), (.ref b1252)])) _
        obtain ⟨_, T1345, _, X1345, hQ1345, Cr1345, hS, hZ, hown, st1345⟩ := own_cvH X1344 hx hZ hS hk1343 hown (wd hw 61 rfl) (wd hw 62 rfl) (wd hw 64 rfl) (wd hw 63 rfl) (wd hw 65 rfl) (wd hw 18 rfl) (by decide) hEE.ew C1342.1 (rm23 l Z a0 hw [] b1252 h1234 n0 O1340 ) e1344 ex1257 (g := (mkF m 125 #[iv i0, iv i1, iv i2, iv i3, iv i4, rv b51, rv w34, iv (0 : Int32), rv b1252, rv b1252, iv (1 : Int32)] [(.ref b1252), (.ref b1252)])) rfl (by rw [hml]; rfl) (rest := []) (W := 0) (lenOf pd_9 rfl) rfl (by show 2 * 0 + _ ≤ _; exact Nat.le_of_eq rfl) (hb hby at_125) (by decide) (by decide) (by decide) (by decide)
        obtain ⟨rfl, Nq1345, hh1346⟩ := hQ1345
        have N1345 := Fr.app N1339 Nq1345
        rw [hh1346] at Cr1345
        have C1347 := C1342.trans Cr1345
        have hk1348 : T1345.heap.size ≤ h1234.size := Nat.le_of_eq (congrArg Array.size hh1346)
        refine own_via (fun t k => st1345 t k) ?_
        obtain ⟨fs, hr, hrun, hended, hRW⟩ := X1345.leaveW hS (by rw [hh1346]; first | exact hk1348 | exact Nat.le_refl _) (v := some (.int (1 : Int32))) (fun h => by rw [Bd.returns] at h; cases h)
        refine own_end (t := T1345.setFrames fs) ?_ ⟨_, hrun, hended, _, _, rfl, ?_, own_rmono hRW (by decide) (by decide)⟩
        · exact retN X1345 hx (t := .boolean) Bd.returns (by simp) (hb hby at_128) hr
        · exact ⟨rfl, N1345⟩
    · refine own_via (fun t k => XS.ifNo X76.here hx rfl (hb hby at_41) rfl ((if0 _ _).trans (feq hc1233).1) (XS.iconst X76.here hx rfl (hb hby at_44) (XS.goto X76.here hx rfl (pc0 := 45) (pc' := 49) rfl (hb hby at_45) (by decide) (by decide) (XS.istore X76.here hx rfl (hb hby at_49) rfl (l' := #[iv i0, iv i1, iv i2, iv i3, iv i4, rv b51, rv w34, iv (1 : Int32), .unset, .unset, .unset]) rfl (XS.iload X76.here hx rfl (hb hby at_51) rfl (XS.ifNo X76.here hx rfl (hb hby at_53) rfl ((if0 _ _).trans (feq (by decide : ¬ ((1 : Int32) = (0 : Int32)))).1) (XS.aconstNull X76.here hx rfl (hb hby at_56) (XS.goto X76.here hx rfl (pc0 := 57) (pc' := 70) rfl (hb hby at_57) (by decide) (by decide) (XS.astore X76.here hx rfl (hb hby at_70) rfl rfl (l' := #[iv i0, iv i1, iv i2, iv i3, iv i4, rv b51, rv w34, iv (1 : Int32), .val .null, .unset, .unset]) rfl (XS.aload X76.here hx rfl (hb hby at_72) rfl rfl (XS.aload X76.here hx rfl (hb hby at_74) rfl rfl k))))))))))) ?_
      show own_Goes p e below (T76.setTop (mkF m 76 #[iv i0, iv i1, iv i2, iv i3, iv i4, rv b51, rv w34, iv (1 : Int32), .val .null, .unset, .unset] [.null, (.ref w34)])) _
      have O1364 : Old Z n0 h76 := (O74.wr W76 g52)
      have K1365 : k0 ≤ h76.size := (Nat.le_trans (Nat.le_trans (Nat.le_trans (Nat.le_trans (Nat.le_trans hk0 E50.1) (Nat.le_of_eq W58.size.symm)) (Nat.le_of_eq W64.size.symm)) (Nat.le_of_eq W70.size.symm)) (Nat.le_of_eq W76.size.symm))
      obtain ⟨_, T1349, _, X1349, hQ1349, Cr1349, hS, hZ, hown, st1349⟩ := own_cvH X76 hx hZ hS K1365 hown (wd hw 46 rfl) (wd hw 47 rfl) (wd hw 49 rfl) (wd hw 48 rfl) (wd hw 50 rfl) (wd hw 3 rfl) (by decide) hEE.ew C76.1 (rm24 l Z a0 hw [] w34 h76 n0 O1364 SF_w34_purchase) e76 (SE_w34.ext O1364.2) (g := (mkF m 76 #[iv i0, iv i1, iv i2, iv i3, iv i4, rv b51, rv w34, iv (1 : Int32), .val .null, .unset, .unset] [.null, (.ref w34)])) rfl (by rw [hml]; rfl) (rest := []) (W := 0) (lenOf pd_7 rfl) rfl (by show 2 * 0 + _ ≤ _; exact Nat.le_of_eq rfl) (hb hby at_76) (by decide) (by decide) (by decide) (by decide)
      obtain ⟨h1349, e1349⟩ : ∃ z, T1349.heap = z := ⟨_, rfl⟩
      rw [e1349] at hQ1349 Cr1349
      obtain ⟨b1366, b1367, k1368, rfl, Nq1349, K1349, ex1369, fx1370, vx1371⟩ := hQ1349
      have N1349 := Fr.app N76 Nq1349
      have C1372 := C76.trans Cr1349
      have hk1373 : T1349.heap.size ≤ h1349.size := Nat.le_of_eq (congrArg Array.size e1349)
      refine own_via (fun t k => st1349 t (XS.astore X1349.here hx rfl (hb hby at_79) rfl rfl (l' := #[iv i0, iv i1, iv i2, iv i3, iv i4, rv b51, rv w34, iv (1 : Int32), .val .null, rv b1366, .unset]) rfl (XS.aload X1349.here hx rfl (hb hby at_81) rfl rfl (XS.ifnonnullYes X1349.here hx rfl (pc0 := 83) (pc' := 88) rfl (hb hby at_83) rfl (by decide) (by decide) (XS.aload X1349.here hx rfl (hb hby at_88) rfl rfl k))))) ?_
      show own_Goes p e below (T1349.setTop (mkF m 90 #[iv i0, iv i1, iv i2, iv i3, iv i4, rv b51, rv w34, iv (1 : Int32), .val .null, rv b1366, .unset] [(.ref w34)])) _
      have O1375 : Old Z n0 h1349 := (O1364.keep K1349 all0)
      obtain ⟨T1374, X1374, e1374, st1374⟩ := getS2 X1349 hx hZ hown (host := "") (Or.inl (wd hw 6 rfl)) Via.refl e1349 (S_DocumentType_PURCHASE_INVOICE.ext O1375.2) (g := (mkF m 90 #[iv i0, iv i1, iv i2, iv i3, iv i4, rv b51, rv w34, iv (1 : Int32), .val .null, rv b1366, .unset] [(.ref w34)])) rfl (hb hby at_90)
      refine own_via (fun t k => st1374 t (Jvm.RoadKit.acmp (g := (mkF m 93 #[iv i0, iv i1, iv i2, iv i3, iv i4, rv b51, rv w34, iv (1 : Int32), .val .null, rv b1366, .unset] [(.ref w34), (.ref w34)])) X1374 hx rfl rfl rfl (pc0 := 93) (pc' := 104) (same := true) rfl (hb hby at_93) rfl (decide_eq_true rfl) (by decide) (by decide) (XS.iconst X1374.here hx rfl (hb hby at_104) (XS.goto X1374.here hx rfl (pc0 := 105) (pc' := 109) rfl (hb hby at_105) (by decide) (by decide) (XS.istore X1374.here hx rfl (hb hby at_109) rfl (l' := #[iv i0, iv i1, iv i2, iv i3, iv i4, rv b51, rv w34, iv (1 : Int32), .val .null, rv b1366, iv (1 : Int32)]) rfl (XS.iload X1374.here hx rfl (hb hby at_111) rfl (XS.ifNo X1374.here hx rfl (hb hby at_113) rfl ((if0 _ _).trans (feq (by decide : ¬ ((1 : Int32) = (0 : Int32)))).1) (XS.aload X1374.here hx rfl (hb hby at_116) rfl rfl (XS.ifnullYes X1374.here hx rfl (pc0 := 118) (pc' := 129) rfl (hb hby at_118) rfl (by decide) (by decide) (XS.aload X1374.here hx rfl (hb hby at_129) rfl rfl k)))))))))) ?_
      show own_Goes p e below (T1374.setTop (mkF m 131 #[iv i0, iv i1, iv i2, iv i3, iv i4, rv b51, rv w34, iv (1 : Int32), .val .null, rv b1366, iv (1 : Int32)] [(.ref b1366)])) _
      have l1377 : own_Len Z h1349 b1367 .byte (0 : Int32) := ⟨_, _, _, vx1371⟩
      obtain ⟨_, T1376, _, X1376, hQ1376, Cr1376, hS, hZ, hown, st1376⟩ := own_cvH X1374 hx hZ hS hk1373 hown (wd hw 56 rfl) (wd hw 57 rfl) (wd hw 59 rfl) (wd hw 58 rfl) (wd hw 60 rfl) (wd hw 18 rfl) (by decide) hEE.ew C1372.1 (rm20 l Z a0 hw [] b1366 b1367 h1349 n0 O1375 fx1370 l1377) e1374 ex1369 (g := (mkF m 131 #[iv i0, iv i1, iv i2, iv i3, iv i4, rv b51, rv w34, iv (1 : Int32), .val .null, rv b1366, iv (1 : Int32)] [(.ref b1366)])) rfl (by rw [hml]; rfl) (rest := []) (W := 0) (lenOf pd_8 rfl) rfl (by show 2 * 0 + _ ≤ _; exact Nat.le_of_eq rfl) (hb hby at_131) (by decide) (by decide) (by decide) (by decide)
      obtain ⟨rfl, Nq1376, hh1378⟩ := hQ1376
      have N1376 := Fr.app N1349 Nq1376
      rw [hh1378] at Cr1376
      have C1379 := C1372.trans Cr1376
      have hk1380 : T1376.heap.size ≤ h1349.size := Nat.le_of_eq (congrArg Array.size hh1378)
      refine own_via (fun t k => st1376 t k) ?_
      obtain ⟨fs, hr, hrun, hended, hRW⟩ := X1376.leaveW hS (by rw [hh1378]; first | exact hk1380 | exact Nat.le_refl _) (v := some (.int (1 : Int32))) (fun h => by rw [Bd.returns] at h; cases h)
      refine own_end (t := T1376.setFrames fs) ?_ ⟨_, hrun, hended, _, _, rfl, ?_, own_rmono hRW (by decide) (by decide)⟩
      · exact retN X1376 hx (t := .boolean) Bd.returns (by simp) (hb hby at_134) hr
      · exact ⟨rfl, N1376⟩
  · have qs1381 := qs
    rw [qs]
    show own_Goes p e below (T76.setTop (mkF m 35 #[iv i0, iv i1, iv i2, iv i3, iv i4, rv b51, .unset, .unset, .unset, .unset, .unset] [(.int (2 : Int32)), (.ref b51)])) _
    obtain ⟨cl1382, Ar1382, qq1382, S1382, M1382, H1382, G1382⟩ := id (V77)
    have hin1382 : ¬ ((2 : Int32) < 0 ∨ cl1382.slots.size ≤ ((2 : Int32)).toNatClampNeg) := inb_of S1382 ⟨by decide, by decide⟩
    refine own_via (fun t k => X76.aaload hx (j := (2 : Int32)) (v := (.ref w36)) (by rw [e76]; exact Ar1382.1) (State.isArrayOf_alike hZ.alike Ar1382.2.1) rfl Ar1382.2.2 hin1382 (Has.at H1382 hin1382 rfl) (g := (mkF m 35 #[iv i0, iv i1, iv i2, iv i3, iv i4, rv b51, .unset, .unset, .unset, .unset, .unset] [(.int (2 : Int32)), (.ref b51)])) rfl rfl (hb hby at_35) t (XS.astore X76.here hx rfl (hb hby at_36) rfl rfl (l' := #[iv i0, iv i1, iv i2, iv i3, iv i4, rv b51, rv w36, .unset, .unset, .unset, .unset]) rfl (XS.iloadN X76.here hx rfl (hb hby at_38) rfl (XS.iconst X76.here hx rfl (hb hby at_39) (XS.iand X76.here hx rfl (hb hby at_40) rfl k))))) ?_
    show own_Goes p e below (T76.setTop (mkF m 41 #[iv i0, iv i1, iv i2, iv i3, iv i4, rv b51, rv w36, .unset, .unset, .unset, .unset] [(.int (i1 &&& (4 : Int32)))])) _
    by_cases hc1383 : (i1 &&& (4 : Int32)) = (0 : Int32)
    · refine own_via (fun t k => XS.ifYes X76.here hx rfl (pc0 := 41) (pc' := 48) rfl (hb hby at_41) rfl ((if0 _ _).trans (teq hc1383).1) (by decide) (by decide) (XS.iconst X76.here hx rfl (hb hby at_48) (XS.istore X76.here hx rfl (hb hby at_49) rfl (l' := #[iv i0, iv i1, iv i2, iv i3, iv i4, rv b51, rv w36, iv (0 : Int32), .unset, .unset, .unset]) rfl (XS.iload X76.here hx rfl (hb hby at_51) rfl (XS.ifYes X76.here hx rfl (pc0 := 53) (pc' := 60) rfl (hb hby at_53) rfl ((if0 _ _).trans (teq (by decide : (0 : Int32) = (0 : Int32))).1) (by decide) (by decide) (XS.iloadN X76.here hx rfl (hb hby at_60) rfl (XS.iconst X76.here hx rfl (hb hby at_61) (XS.iand X76.here hx rfl (hb hby at_62) rfl (XS.iloadN X76.here hx rfl (hb hby at_63) rfl (XS.iloadN X76.here hx rfl (hb hby at_64) rfl (XS.iload X76.here hx rfl (hb hby at_65) rfl k))))))))))) ?_
      show own_Goes p e below (T76.setTop (mkF m 67 #[iv i0, iv i1, iv i2, iv i3, iv i4, rv b51, rv w36, iv (0 : Int32), .unset, .unset, .unset] [(.int i4), (.int i3), (.int i2), (.int (i1 &&& (3 : Int32)))])) _
      have O1385 : Old Z n0 h76 := (O74.wr W76 g52)
      have K1386 : k0 ≤ h76.size := (Nat.le_trans (Nat.le_trans (Nat.le_trans (Nat.le_trans (Nat.le_trans hk0 E50.1) (Nat.le_of_eq W58.size.symm)) (Nat.le_of_eq W64.size.symm)) (Nat.le_of_eq W70.size.symm)) (Nat.le_of_eq W76.size.symm))
      obtain ⟨_, T1384, _, X1384, hQ1384, Cr1384, hS, hZ, hown, st1384⟩ := own_csH X76 hx hZ hS K1386 hown (wd hw 12 rfl) (wd hw 13 rfl) (wd hw 15 rfl) (wd hw 14 rfl) (by decide) hEE.ew C76.1 (rm18 l Z a0 hw [] (i1 &&& (3 : Int32)) i2 i3 i4 i48 h76 n0 O1385 S_String_COMPACT_STRINGS SNZ_i48) e76 (g := (mkF m 67 #[iv i0, iv i1, iv i2, iv i3, iv i4, rv b51, rv w36, iv (0 : Int32), .unset, .unset, .unset] [(.int i4), (.int i3), (.int i2), (.int (i1 &&& (3 : Int32)))])) rfl (by rw [hml]; rfl) (rest := []) (W := 0) (lenOf pd_6 rfl) rfl (by show 2 * 0 + _ ≤ _; exact Nat.le_of_eq rfl) (hb hby at_67) (by decide) (by decide) (by decide) (by decide)
      obtain ⟨h1384, e1384⟩ : ∃ z, T1384.heap = z := ⟨_, rfl⟩
      rw [e1384] at hQ1384 Cr1384
      rcases hQ1384 with ⟨b1387, hq1388, rfl, Nq1384, K1384, bx1389, ex1390⟩ | ⟨b1391, hq1392, hq1393, rfl, Nq1384, K1384, bx1394, ex1395⟩ | ⟨b1396, hq1397, hq1398, hq1399, rfl, Nq1384, K1384, bx1400, ex1401⟩ | ⟨b1402, hq1403, hq1404, hq1405, rfl, Nq1384, K1384, bx1406, ex1407⟩
      · have N1384 := Fr.app N76 Nq1384
        have C1408 := C76.trans Cr1384
        have N1409 : b51 ≠ b1387 := Nat.ne_of_lt (Nat.lt_of_lt_of_le V77.lt bx1389)
        have g1410 : n0 ≤ b1387 := Nat.le_trans (own_old O1385) bx1389
        have Z1412 : h0.size ≤ h76.size := (Nat.le_trans (Nat.le_trans (Nat.le_trans (Nat.le_trans (Nat.le_trans (Nat.le_refl _) E50.1) (Nat.le_of_eq W58.size.symm)) (Nat.le_of_eq W64.size.symm)) (Nat.le_of_eq W70.size.symm)) (Nat.le_of_eq W76.size.symm))
        have B1411 : h0.size ≤ b1387 := Nat.le_trans Z1412 bx1389
        have hk1413 : T1384.heap.size ≤ h1384.size := Nat.le_of_eq (congrArg Array.size e1384)
        refine own_via (fun t k => st1384 t (XS.astore X1384.here hx rfl (hb hby at_70) rfl rfl (l' := #[iv i0, iv i1, iv i2, iv i3, iv i4, rv b51, rv w36, iv (0 : Int32), rv b1387, .unset, .unset]) rfl (XS.aload X1384.here hx rfl (hb hby at_72) rfl rfl (XS.aload X1384.here hx rfl (hb hby at_74) rfl rfl k)))) ?_
        show own_Goes p e below (T1384.setTop (mkF m 76 #[iv i0, iv i1, iv i2, iv i3, iv i4, rv b51, rv w36, iv (0 : Int32), rv b1387, .unset, .unset] [(.ref b1387), (.ref w36)])) _
        have O1433 : Old Z n0 h1384 := (O1385.keep K1384 all0)
        obtain ⟨_, T1414, _, X1414, hQ1414, Cr1414, hS, hZ, hown, st1414⟩ := own_cvH X1384 hx hZ hS hk1413 hown (wd hw 46 rfl) (wd hw 47 rfl) (wd hw 49 rfl) (wd hw 48 rfl) (wd hw 50 rfl) (wd hw 3 rfl) (by decide) hEE.ew C1408.1 (rm25 l Z a0 hw [] w36 b1387 h1384 n0 O1433 SF_w36_purchase) e1384 (SE_w36.ext O1433.2) (g := (mkF m 76 #[iv i0, iv i1, iv i2, iv i3, iv i4, rv b51, rv w36, iv (0 : Int32), rv b1387, .unset, .unset] [(.ref b1387), (.ref w36)])) rfl (by rw [hml]; rfl) (rest := []) (W := 0) (lenOf pd_7 rfl) rfl (by show 2 * 0 + _ ≤ _; exact Nat.le_of_eq rfl) (hb hby at_76) (by decide) (by decide) (by decide) (by decide)
        obtain ⟨h1414, e1414⟩ : ∃ z, T1414.heap = z := ⟨_, rfl⟩
        rw [e1414] at hQ1414 Cr1414
        obtain ⟨b1434, b1435, k1436, rfl, Nq1414, K1414, ex1437, fx1438, vx1439⟩ := hQ1414
        have N1414 := Fr.app N1384 Nq1414
        have C1440 := C1408.trans Cr1414
        have hk1441 : T1414.heap.size ≤ h1414.size := Nat.le_of_eq (congrArg Array.size e1414)
        refine own_via (fun t k => st1414 t (XS.astore X1414.here hx rfl (hb hby at_79) rfl rfl (l' := #[iv i0, iv i1, iv i2, iv i3, iv i4, rv b51, rv w36, iv (0 : Int32), rv b1387, rv b1434, .unset]) rfl (XS.aload X1414.here hx rfl (hb hby at_81) rfl rfl (XS.ifnonnullYes X1414.here hx rfl (pc0 := 83) (pc' := 88) rfl (hb hby at_83) rfl (by decide) (by decide) (XS.aload X1414.here hx rfl (hb hby at_88) rfl rfl k))))) ?_
        show own_Goes p e below (T1414.setTop (mkF m 90 #[iv i0, iv i1, iv i2, iv i3, iv i4, rv b51, rv w36, iv (0 : Int32), rv b1387, rv b1434, .unset] [(.ref w36)])) _
        have O1443 : Old Z n0 h1414 := (O1433.keep K1414 all0)
        obtain ⟨T1442, X1442, e1442, st1442⟩ := getS2 X1414 hx hZ hown (host := "") (Or.inl (wd hw 6 rfl)) Via.refl e1414 (S_DocumentType_PURCHASE_INVOICE.ext O1443.2) (g := (mkF m 90 #[iv i0, iv i1, iv i2, iv i3, iv i4, rv b51, rv w36, iv (0 : Int32), rv b1387, rv b1434, .unset] [(.ref w36)])) rfl (hb hby at_90)
        refine own_via (fun t k => st1442 t (Jvm.RoadKit.acmp (g := (mkF m 93 #[iv i0, iv i1, iv i2, iv i3, iv i4, rv b51, rv w36, iv (0 : Int32), rv b1387, rv b1434, .unset] [(.ref w34), (.ref w36)])) X1442 hx rfl rfl rfl (pc0 := 93) (pc' := 96) (same := false) rfl (hb hby at_93) rfl (decide_eq_false fun q => (Fld.ne SF_w36_purchase SF_w34_purchase (by decide)) (Value.ref.inj q)) (by decide) (by decide) (XS.aload X1442.here hx rfl (hb hby at_96) rfl rfl k))) ?_
        show own_Goes p e below (T1442.setTop (mkF m 98 #[iv i0, iv i1, iv i2, iv i3, iv i4, rv b51, rv w36, iv (0 : Int32), rv b1387, rv b1434, .unset] [(.ref w36)])) _
        obtain ⟨T1444, X1444, e1444, st1444⟩ := getS2 X1442 hx hZ hown (host := "") (Or.inl (wd hw 10 rfl)) Via.refl e1442 (S_DocumentType_PURCHASE_CREDIT_NOTE.ext O1443.2) (g := (mkF m 98 #[iv i0, iv i1, iv i2, iv i3, iv i4, rv b51, rv w36, iv (0 : Int32), rv b1387, rv b1434, .unset] [(.ref w36)])) rfl (hb hby at_98)
        refine own_via (fun t k => st1444 t (Jvm.RoadKit.acmp (g := (mkF m 101 #[iv i0, iv i1, iv i2, iv i3, iv i4, rv b51, rv w36, iv (0 : Int32), rv b1387, rv b1434, .unset] [(.ref w38), (.ref w36)])) X1444 hx rfl rfl rfl (pc0 := 101) (pc' := 108) (same := false) rfl (hb hby at_101) rfl (decide_eq_false fun q => (Fld.ne SF_w36_purchase SF_w38_purchase (by decide)) (Value.ref.inj q)) (by decide) (by decide) (XS.iconst X1444.here hx rfl (hb hby at_108) (XS.istore X1444.here hx rfl (hb hby at_109) rfl (l' := #[iv i0, iv i1, iv i2, iv i3, iv i4, rv b51, rv w36, iv (0 : Int32), rv b1387, rv b1434, iv (0 : Int32)]) rfl (XS.iload X1444.here hx rfl (hb hby at_111) rfl (XS.ifYes X1444.here hx rfl (pc0 := 113) (pc' := 129) rfl (hb hby at_113) rfl ((if0 _ _).trans (teq (by decide : (0 : Int32) = (0 : Int32))).1) (by decide) (by decide) (XS.aload X1444.here hx rfl (hb hby at_129) rfl rfl k))))))) ?_
        show own_Goes p e below (T1444.setTop (mkF m 131 #[iv i0, iv i1, iv i2, iv i3, iv i4, rv b51, rv w36, iv (0 : Int32), rv b1387, rv b1434, iv (0 : Int32)] [(.ref b1434)])) _
        have l1446 : own_Len Z h1414 b1435 .byte (0 : Int32) := ⟨_, _, _, vx1439⟩
        obtain ⟨_, T1445, _, X1445, hQ1445, Cr1445, hS, hZ, hown, st1445⟩ := own_cvH X1444 hx hZ hS hk1441 hown (wd hw 56 rfl) (wd hw 57 rfl) (wd hw 59 rfl) (wd hw 58 rfl) (wd hw 60 rfl) (wd hw 18 rfl) (by decide) hEE.ew C1440.1 (rm20 l Z a0 hw [] b1434 b1435 h1414 n0 O1443 fx1438 l1446) e1444 ex1437 (g := (mkF m 131 #[iv i0, iv i1, iv i2, iv i3, iv i4, rv b51, rv w36, iv (0 : Int32), rv b1387, rv b1434, iv (0 : Int32)] [(.ref b1434)])) rfl (by rw [hml]; rfl) (rest := []) (W := 0) (lenOf pd_8 rfl) rfl (by show 2 * 0 + _ ≤ _; exact Nat.le_of_eq rfl) (hb hby at_131) (by decide) (by decide) (by decide) (by decide)
        obtain ⟨rfl, Nq1445, hh1447⟩ := hQ1445
        have N1445 := Fr.app N1414 Nq1445
        rw [hh1447] at Cr1445
        have C1448 := C1440.trans Cr1445
        have hk1449 : T1445.heap.size ≤ h1414.size := Nat.le_of_eq (congrArg Array.size hh1447)
        refine own_via (fun t k => st1445 t k) ?_
        obtain ⟨fs, hr, hrun, hended, hRW⟩ := X1445.leaveW hS (by rw [hh1447]; first | exact hk1449 | exact Nat.le_refl _) (v := some (.int (1 : Int32))) (fun h => by rw [Bd.returns] at h; cases h)
        refine own_end (t := T1445.setFrames fs) ?_ ⟨_, hrun, hended, _, _, rfl, ?_, own_rmono hRW (by decide) (by decide)⟩
        · exact retN X1445 hx (t := .boolean) Bd.returns (by simp) (hb hby at_134) hr
        · exact ⟨rfl, N1445⟩
      · have N1384 := Fr.app N76 Nq1384
        have C1450 := C76.trans Cr1384
        have N1451 : b51 ≠ b1391 := Nat.ne_of_lt (Nat.lt_of_lt_of_le V77.lt bx1394)
        have g1452 : n0 ≤ b1391 := Nat.le_trans (own_old O1385) bx1394
        have Z1454 : h0.size ≤ h76.size := (Nat.le_trans (Nat.le_trans (Nat.le_trans (Nat.le_trans (Nat.le_trans (Nat.le_refl _) E50.1) (Nat.le_of_eq W58.size.symm)) (Nat.le_of_eq W64.size.symm)) (Nat.le_of_eq W70.size.symm)) (Nat.le_of_eq W76.size.symm))
        have B1453 : h0.size ≤ b1391 := Nat.le_trans Z1454 bx1394
        have hk1455 : T1384.heap.size ≤ h1384.size := Nat.le_of_eq (congrArg Array.size e1384)
        refine own_via (fun t k => st1384 t (XS.astore X1384.here hx rfl (hb hby at_70) rfl rfl (l' := #[iv i0, iv i1, iv i2, iv i3, iv i4, rv b51, rv w36, iv (0 : Int32), rv b1391, .unset, .unset]) rfl (XS.aload X1384.here hx rfl (hb hby at_72) rfl rfl (XS.aload X1384.here hx rfl (hb hby at_74) rfl rfl k)))) ?_
        show own_Goes p e below (T1384.setTop (mkF m 76 #[iv i0, iv i1, iv i2, iv i3, iv i4, rv b51, rv w36, iv (0 : Int32), rv b1391, .unset, .unset] [(.ref b1391), (.ref w36)])) _
        have O1457 : Old Z n0 h1384 := (O1385.keep K1384 all0)
        obtain ⟨_, T1456, _, X1456, hQ1456, Cr1456, hS, hZ, hown, st1456⟩ := own_cvH X1384 hx hZ hS hk1455 hown (wd hw 46 rfl) (wd hw 47 rfl) (wd hw 49 rfl) (wd hw 48 rfl) (wd hw 50 rfl) (wd hw 3 rfl) (by decide) hEE.ew C1450.1 (rm25 l Z a0 hw [] w36 b1391 h1384 n0 O1457 SF_w36_purchase) e1384 (SE_w36.ext O1457.2) (g := (mkF m 76 #[iv i0, iv i1, iv i2, iv i3, iv i4, rv b51, rv w36, iv (0 : Int32), rv b1391, .unset, .unset] [(.ref b1391), (.ref w36)])) rfl (by rw [hml]; rfl) (rest := []) (W := 0) (lenOf pd_7 rfl) rfl (by show 2 * 0 + _ ≤ _; exact Nat.le_of_eq rfl) (hb hby at_76) (by decide) (by decide) (by decide) (by decide)
        obtain ⟨h1456, e1456⟩ : ∃ z, T1456.heap = z := ⟨_, rfl⟩
        rw [e1456] at hQ1456 Cr1456
        obtain ⟨b1458, b1459, k1460, rfl, Nq1456, K1456, ex1461, fx1462, vx1463⟩ := hQ1456
        have N1456 := Fr.app N1384 Nq1456
        have C1464 := C1450.trans Cr1456
        have hk1465 : T1456.heap.size ≤ h1456.size := Nat.le_of_eq (congrArg Array.size e1456)
        refine own_via (fun t k => st1456 t (XS.astore X1456.here hx rfl (hb hby at_79) rfl rfl (l' := #[iv i0, iv i1, iv i2, iv i3, iv i4, rv b51, rv w36, iv (0 : Int32), rv b1391, rv b1458, .unset]) rfl (XS.aload X1456.here hx rfl (hb hby at_81) rfl rfl (XS.ifnonnullYes X1456.here hx rfl (pc0 := 83) (pc' := 88) rfl (hb hby at_83) rfl (by decide) (by decide) (XS.aload X1456.here hx rfl (hb hby at_88) rfl rfl k))))) ?_
        show own_Goes p e below (T1456.setTop (mkF m 90 #[iv i0, iv i1, iv i2, iv i3, iv i4, rv b51, rv w36, iv (0 : Int32), rv b1391, rv b1458, .unset] [(.ref w36)])) _
        have O1467 : Old Z n0 h1456 := (O1457.keep K1456 all0)
        obtain ⟨T1466, X1466, e1466, st1466⟩ := getS2 X1456 hx hZ hown (host := "") (Or.inl (wd hw 6 rfl)) Via.refl e1456 (S_DocumentType_PURCHASE_INVOICE.ext O1467.2) (g := (mkF m 90 #[iv i0, iv i1, iv i2, iv i3, iv i4, rv b51, rv w36, iv (0 : Int32), rv b1391, rv b1458, .unset] [(.ref w36)])) rfl (hb hby at_90)
        refine own_via (fun t k => st1466 t (Jvm.RoadKit.acmp (g := (mkF m 93 #[iv i0, iv i1, iv i2, iv i3, iv i4, rv b51, rv w36, iv (0 : Int32), rv b1391, rv b1458, .unset] [(.ref w34), (.ref w36)])) X1466 hx rfl rfl rfl (pc0 := 93) (pc' := 96) (same := false) rfl (hb hby at_93) rfl (decide_eq_false fun q => (Fld.ne SF_w36_purchase SF_w34_purchase (by decide)) (Value.ref.inj q)) (by decide) (by decide) (XS.aload X1466.here hx rfl (hb hby at_96) rfl rfl k))) ?_
        show own_Goes p e below (T1466.setTop (mkF m 98 #[iv i0, iv i1, iv i2, iv i3, iv i4, rv b51, rv w36, iv (0 : Int32), rv b1391, rv b1458, .unset] [(.ref w36)])) _
        obtain ⟨T1468, X1468, e1468, st1468⟩ := getS2 X1466 hx hZ hown (host := "") (Or.inl (wd hw 10 rfl)) Via.refl e1466 (S_DocumentType_PURCHASE_CREDIT_NOTE.ext O1467.2) (g := (mkF m 98 #[iv i0, iv i1, iv i2, iv i3, iv i4, rv b51, rv w36, iv (0 : Int32), rv b1391, rv b1458, .unset] [(.ref w36)])) rfl (hb hby at_98)
        refine own_via (fun t k => st1468 t (Jvm.RoadKit.acmp (g := (mkF m 101 #[iv i0, iv i1, iv i2, iv i3, iv i4, rv b51, rv w36, iv (0 : Int32), rv b1391, rv b1458, .unset] [(.ref w38), (.ref w36)])) X1468 hx rfl rfl rfl (pc0 := 101) (pc' := 108) (same := false) rfl (hb hby at_101) rfl (decide_eq_false fun q => (Fld.ne SF_w36_purchase SF_w38_purchase (by decide)) (Value.ref.inj q)) (by decide) (by decide) (XS.iconst X1468.here hx rfl (hb hby at_108) (XS.istore X1468.here hx rfl (hb hby at_109) rfl (l' := #[iv i0, iv i1, iv i2, iv i3, iv i4, rv b51, rv w36, iv (0 : Int32), rv b1391, rv b1458, iv (0 : Int32)]) rfl (XS.iload X1468.here hx rfl (hb hby at_111) rfl (XS.ifYes X1468.here hx rfl (pc0 := 113) (pc' := 129) rfl (hb hby at_113) rfl ((if0 _ _).trans (teq (by decide : (0 : Int32) = (0 : Int32))).1) (by decide) (by decide) (XS.aload X1468.here hx rfl (hb hby at_129) rfl rfl k))))))) ?_
        show own_Goes p e below (T1468.setTop (mkF m 131 #[iv i0, iv i1, iv i2, iv i3, iv i4, rv b51, rv w36, iv (0 : Int32), rv b1391, rv b1458, iv (0 : Int32)] [(.ref b1458)])) _
        have l1470 : own_Len Z h1456 b1459 .byte (0 : Int32) := ⟨_, _, _, vx1463⟩
        obtain ⟨_, T1469, _, X1469, hQ1469, Cr1469, hS, hZ, hown, st1469⟩ := own_cvH X1468 hx hZ hS hk1465 hown (wd hw 56 rfl) (wd hw 57 rfl) (wd hw 59 rfl) (wd hw 58 rfl) (wd hw 60 rfl) (wd hw 18 rfl) (by decide) hEE.ew C1464.1 (rm20 l Z a0 hw [] b1458 b1459 h1456 n0 O1467 fx1462 l1470) e1468 ex1461 (g := (mkF m 131 #[iv i0, iv i1, iv i2, iv i3, iv i4, rv b51, rv w36, iv (0 : Int32), rv b1391, rv b1458, iv (0 : Int32)] [(.ref b1458)])) rfl (by rw [hml]; rfl) (rest := []) (W := 0) (lenOf pd_8 rfl) rfl (by show 2 * 0 + _ ≤ _; exact Nat.le_of_eq rfl) (hb hby at_131) (by decide) (by decide) (by decide) (by decide)
        obtain ⟨rfl, Nq1469, hh1471⟩ := hQ1469
        have N1469 := Fr.app N1456 Nq1469
        rw [hh1471] at Cr1469
        have C1472 := C1464.trans Cr1469
        have hk1473 : T1469.heap.size ≤ h1456.size := Nat.le_of_eq (congrArg Array.size hh1471)
        refine own_via (fun t k => st1469 t k) ?_
        obtain ⟨fs, hr, hrun, hended, hRW⟩ := X1469.leaveW hS (by rw [hh1471]; first | exact hk1473 | exact Nat.le_refl _) (v := some (.int (1 : Int32))) (fun h => by rw [Bd.returns] at h; cases h)
        refine own_end (t := T1469.setFrames fs) ?_ ⟨_, hrun, hended, _, _, rfl, ?_, own_rmono hRW (by decide) (by decide)⟩
        · exact retN X1469 hx (t := .boolean) Bd.returns (by simp) (hb hby at_134) hr
        · exact ⟨rfl, N1469⟩
      · have N1384 := Fr.app N76 Nq1384
        have C1474 := C76.trans Cr1384
        have N1475 : b51 ≠ b1396 := Nat.ne_of_lt (Nat.lt_of_lt_of_le V77.lt bx1400)
        have g1476 : n0 ≤ b1396 := Nat.le_trans (own_old O1385) bx1400
        have Z1478 : h0.size ≤ h76.size := (Nat.le_trans (Nat.le_trans (Nat.le_trans (Nat.le_trans (Nat.le_trans (Nat.le_refl _) E50.1) (Nat.le_of_eq W58.size.symm)) (Nat.le_of_eq W64.size.symm)) (Nat.le_of_eq W70.size.symm)) (Nat.le_of_eq W76.size.symm))
        have B1477 : h0.size ≤ b1396 := Nat.le_trans Z1478 bx1400
        have hk1479 : T1384.heap.size ≤ h1384.size := Nat.le_of_eq (congrArg Array.size e1384)
        refine own_via (fun t k => st1384 t (XS.astore X1384.here hx rfl (hb hby at_70) rfl rfl (l' := #[iv i0, iv i1, iv i2, iv i3, iv i4, rv b51, rv w36, iv (0 : Int32), rv b1396, .unset, .unset]) rfl (XS.aload X1384.here hx rfl (hb hby at_72) rfl rfl (XS.aload X1384.here hx rfl (hb hby at_74) rfl rfl k)))) ?_
        show own_Goes p e below (T1384.setTop (mkF m 76 #[iv i0, iv i1, iv i2, iv i3, iv i4, rv b51, rv w36, iv (0 : Int32), rv b1396, .unset, .unset] [(.ref b1396), (.ref w36)])) _
        have O1481 : Old Z n0 h1384 := (O1385.keep K1384 all0)
        obtain ⟨_, T1480, _, X1480, hQ1480, Cr1480, hS, hZ, hown, st1480⟩ := own_cvH X1384 hx hZ hS hk1479 hown (wd hw 46 rfl) (wd hw 47 rfl) (wd hw 49 rfl) (wd hw 48 rfl) (wd hw 50 rfl) (wd hw 3 rfl) (by decide) hEE.ew C1474.1 (rm25 l Z a0 hw [] w36 b1396 h1384 n0 O1481 SF_w36_purchase) e1384 (SE_w36.ext O1481.2) (g := (mkF m 76 #[iv i0, iv i1, iv i2, iv i3, iv i4, rv b51, rv w36, iv (0 : Int32), rv b1396, .unset, .unset] [(.ref b1396), (.ref w36)])) rfl (by rw [hml]; rfl) (rest := []) (W := 0) (lenOf pd_7 rfl) rfl (by show 2 * 0 + _ ≤ _; exact Nat.le_of_eq rfl) (hb hby at_76) (by decide) (by decide) (by decide) (by decide)
        obtain ⟨h1480, e1480⟩ : ∃ z, T1480.heap = z := ⟨_, rfl⟩
        rw [e1480] at hQ1480 Cr1480
        obtain ⟨b1482, b1483, k1484, rfl, Nq1480, K1480, ex1485, fx1486, vx1487⟩ := hQ1480
        have N1480 := Fr.app N1384 Nq1480
        have C1488 := C1474.trans Cr1480
        have hk1489 : T1480.heap.size ≤ h1480.size := Nat.le_of_eq (congrArg Array.size e1480)
        refine own_via (fun t k => st1480 t (XS.astore X1480.here hx rfl (hb hby at_79) rfl rfl (l' := #[iv i0, iv i1, iv i2, iv i3, iv i4, rv b51, rv w36, iv (0 : Int32), rv b1396, rv b1482, .unset]) rfl (XS.aload X1480.here hx rfl (hb hby at_81) rfl rfl (XS.ifnonnullYes X1480.here hx rfl (pc0 := 83) (pc' := 88) rfl (hb hby at_83) rfl (by decide) (by decide) (XS.aload X1480.here hx rfl (hb hby at_88) rfl rfl k))))) ?_
        show own_Goes p e below (T1480.setTop (mkF m 90 #[iv i0, iv i1, iv i2, iv i3, iv i4, rv b51, rv w36, iv (0 : Int32), rv b1396, rv b1482, .unset] [(.ref w36)])) _
        have O1491 : Old Z n0 h1480 := (O1481.keep K1480 all0)
        obtain ⟨T1490, X1490, e1490, st1490⟩ := getS2 X1480 hx hZ hown (host := "") (Or.inl (wd hw 6 rfl)) Via.refl e1480 (S_DocumentType_PURCHASE_INVOICE.ext O1491.2) (g := (mkF m 90 #[iv i0, iv i1, iv i2, iv i3, iv i4, rv b51, rv w36, iv (0 : Int32), rv b1396, rv b1482, .unset] [(.ref w36)])) rfl (hb hby at_90)
        refine own_via (fun t k => st1490 t (Jvm.RoadKit.acmp (g := (mkF m 93 #[iv i0, iv i1, iv i2, iv i3, iv i4, rv b51, rv w36, iv (0 : Int32), rv b1396, rv b1482, .unset] [(.ref w34), (.ref w36)])) X1490 hx rfl rfl rfl (pc0 := 93) (pc' := 96) (same := false) rfl (hb hby at_93) rfl (decide_eq_false fun q => (Fld.ne SF_w36_purchase SF_w34_purchase (by decide)) (Value.ref.inj q)) (by decide) (by decide) (XS.aload X1490.here hx rfl (hb hby at_96) rfl rfl k))) ?_
        show own_Goes p e below (T1490.setTop (mkF m 98 #[iv i0, iv i1, iv i2, iv i3, iv i4, rv b51, rv w36, iv (0 : Int32), rv b1396, rv b1482, .unset] [(.ref w36)])) _
        obtain ⟨T1492, X1492, e1492, st1492⟩ := getS2 X1490 hx hZ hown (host := "") (Or.inl (wd hw 10 rfl)) Via.refl e1490 (S_DocumentType_PURCHASE_CREDIT_NOTE.ext O1491.2) (g := (mkF m 98 #[iv i0, iv i1, iv i2, iv i3, iv i4, rv b51, rv w36, iv (0 : Int32), rv b1396, rv b1482, .unset] [(.ref w36)])) rfl (hb hby at_98)
        refine own_via (fun t k => st1492 t (Jvm.RoadKit.acmp (g := (mkF m 101 #[iv i0, iv i1, iv i2, iv i3, iv i4, rv b51, rv w36, iv (0 : Int32), rv b1396, rv b1482, .unset] [(.ref w38), (.ref w36)])) X1492 hx rfl rfl rfl (pc0 := 101) (pc' := 108) (same := false) rfl (hb hby at_101) rfl (decide_eq_false fun q => (Fld.ne SF_w36_purchase SF_w38_purchase (by decide)) (Value.ref.inj q)) (by decide) (by decide) (XS.iconst X1492.here hx rfl (hb hby at_108) (XS.istore X1492.here hx rfl (hb hby at_109) rfl (l' := #[iv i0, iv i1, iv i2, iv i3, iv i4, rv b51, rv w36, iv (0 : Int32), rv b1396, rv b1482, iv (0 : Int32)]) rfl (XS.iload X1492.here hx rfl (hb hby at_111) rfl (XS.ifYes X1492.here hx rfl (pc0 := 113) (pc' := 129) rfl (hb hby at_113) rfl ((if0 _ _).trans (teq (by decide : (0 : Int32) = (0 : Int32))).1) (by decide) (by decide) (XS.aload X1492.here hx rfl (hb hby at_129) rfl rfl k))))))) ?_
        show own_Goes p e below (T1492.setTop (mkF m 131 #[iv i0, iv i1, iv i2, iv i3, iv i4, rv b51, rv w36, iv (0 : Int32), rv b1396, rv b1482, iv (0 : Int32)] [(.ref b1482)])) _
        have l1494 : own_Len Z h1480 b1483 .byte (0 : Int32) := ⟨_, _, _, vx1487⟩
        obtain ⟨_, T1493, _, X1493, hQ1493, Cr1493, hS, hZ, hown, st1493⟩ := own_cvH X1492 hx hZ hS hk1489 hown (wd hw 56 rfl) (wd hw 57 rfl) (wd hw 59 rfl) (wd hw 58 rfl) (wd hw 60 rfl) (wd hw 18 rfl) (by decide) hEE.ew C1488.1 (rm20 l Z a0 hw [] b1482 b1483 h1480 n0 O1491 fx1486 l1494) e1492 ex1485 (g := (mkF m 131 #[iv i0, iv i1, iv i2, iv i3, iv i4, rv b51, rv w36, iv (0 : Int32), rv b1396, rv b1482, iv (0 : Int32)] [(.ref b1482)])) rfl (by rw [hml]; rfl) (rest := []) (W := 0) (lenOf pd_8 rfl) rfl (by show 2 * 0 + _ ≤ _; exact Nat.le_of_eq rfl) (hb hby at_131) (by decide) (by decide) (by decide) (by decide)
        obtain ⟨rfl, Nq1493, hh1495⟩ := hQ1493
        have N1493 := Fr.app N1480 Nq1493
        rw [hh1495] at Cr1493
        have C1496 := C1488.trans Cr1493
        have hk1497 : T1493.heap.size ≤ h1480.size := Nat.le_of_eq (congrArg Array.size hh1495)
        refine own_via (fun t k => st1493 t k) ?_
        obtain ⟨fs, hr, hrun, hended, hRW⟩ := X1493.leaveW hS (by rw [hh1495]; first | exact hk1497 | exact Nat.le_refl _) (v := some (.int (1 : Int32))) (fun h => by rw [Bd.returns] at h; cases h)
        refine own_end (t := T1493.setFrames fs) ?_ ⟨_, hrun, hended, _, _, rfl, ?_, own_rmono hRW (by decide) (by decide)⟩
        · exact retN X1493 hx (t := .boolean) Bd.returns (by simp) (hb hby at_134) hr
        · exact ⟨rfl, N1493⟩
      · have N1384 := Fr.app N76 Nq1384
        have C1498 := C76.trans Cr1384
        have N1499 : b51 ≠ b1402 := Nat.ne_of_lt (Nat.lt_of_lt_of_le V77.lt bx1406)
        have g1500 : n0 ≤ b1402 := Nat.le_trans (own_old O1385) bx1406
        have Z1502 : h0.size ≤ h76.size := (Nat.le_trans (Nat.le_trans (Nat.le_trans (Nat.le_trans (Nat.le_trans (Nat.le_refl _) E50.1) (Nat.le_of_eq W58.size.symm)) (Nat.le_of_eq W64.size.symm)) (Nat.le_of_eq W70.size.symm)) (Nat.le_of_eq W76.size.symm))
        have B1501 : h0.size ≤ b1402 := Nat.le_trans Z1502 bx1406
        have hk1503 : T1384.heap.size ≤ h1384.size := Nat.le_of_eq (congrArg Array.size e1384)
        refine own_via (fun t k => st1384 t (XS.astore X1384.here hx rfl (hb hby at_70) rfl rfl (l' := #[iv i0, iv i1, iv i2, iv i3, iv i4, rv b51, rv w36, iv (0 : Int32), rv b1402, .unset, .unset]) rfl (XS.aload X1384.here hx rfl (hb hby at_72) rfl rfl (XS.aload X1384.here hx rfl (hb hby at_74) rfl rfl k)))) ?_
        show own_Goes p e below (T1384.setTop (mkF m 76 #[iv i0, iv i1, iv i2, iv i3, iv i4, rv b51, rv w36, iv (0 : Int32), rv b1402, .unset, .unset] [(.ref b1402), (.ref w36)])) _
        have O1505 : Old Z n0 h1384 := (O1385.keep K1384 all0)
        obtain ⟨_, T1504, _, X1504, hQ1504, Cr1504, hS, hZ, hown, st1504⟩ := own_cvH X1384 hx hZ hS hk1503 hown (wd hw 46 rfl) (wd hw 47 rfl) (wd hw 49 rfl) (wd hw 48 rfl) (wd hw 50 rfl) (wd hw 3 rfl) (by decide) hEE.ew C1498.1 (rm25 l Z a0 hw [] w36 b1402 h1384 n0 O1505 SF_w36_purchase) e1384 (SE_w36.ext O1505.2) (g := (mkF m 76 #[iv i0, iv i1, iv i2, iv i3, iv i4, rv b51, rv w36, iv (0 : Int32), rv b1402, .unset, .unset] [(.ref b1402), (.ref w36)])) rfl (by rw [hml]; rfl) (rest := []) (W := 0) (lenOf pd_7 rfl) rfl (by show 2 * 0 + _ ≤ _; exact Nat.le_of_eq rfl) (hb hby at_76) (by decide) (by decide) (by decide) (by decide)
        obtain ⟨h1504, e1504⟩ : ∃ z, T1504.heap = z := ⟨_, rfl⟩
        rw [e1504] at hQ1504 Cr1504
        obtain ⟨b1506, b1507, k1508, rfl, Nq1504, K1504, ex1509, fx1510, vx1511⟩ := hQ1504
        have N1504 := Fr.app N1384 Nq1504
        have C1512 := C1498.trans Cr1504
        have hk1513 : T1504.heap.size ≤ h1504.size := Nat.le_of_eq (congrArg Array.size e1504)
        refine own_via (fun t k => st1504 t (XS.astore X1504.here hx rfl (hb hby at_79) rfl rfl (l' := #[iv i0, iv i1, iv i2, iv i3, iv i4, rv b51, rv w36, iv (0 : Int32), rv b1402, rv b1506, .unset]) rfl (XS.aload X1504.here hx rfl (hb hby at_81) rfl rfl (XS.ifnonnullYes X1504.here hx rfl (pc0 := 83) (pc' := 88) rfl (hb hby at_83) rfl (by decide) (by decide) (XS.aload X1504.here hx rfl (hb hby at_88) rfl rfl k))))) ?_
        show own_Goes p e below (T1504.setTop (mkF m 90 #[iv i0, iv i1, iv i2, iv i3, iv i4, rv b51, rv w36, iv (0 : Int32), rv b1402, rv b1506, .unset] [(.ref w36)])) _
        have O1515 : Old Z n0 h1504 := (O1505.keep K1504 all0)
        obtain ⟨T1514, X1514, e1514, st1514⟩ := getS2 X1504 hx hZ hown (host := "") (Or.inl (wd hw 6 rfl)) Via.refl e1504 (S_DocumentType_PURCHASE_INVOICE.ext O1515.2) (g := (mkF m 90 #[iv i0, iv i1, iv i2, iv i3, iv i4, rv b51, rv w36, iv (0 : Int32), rv b1402, rv b1506, .unset] [(.ref w36)])) rfl (hb hby at_90)
        refine own_via (fun t k => st1514 t (Jvm.RoadKit.acmp (g := (mkF m 93 #[iv i0, iv i1, iv i2, iv i3, iv i4, rv b51, rv w36, iv (0 : Int32), rv b1402, rv b1506, .unset] [(.ref w34), (.ref w36)])) X1514 hx rfl rfl rfl (pc0 := 93) (pc' := 96) (same := false) rfl (hb hby at_93) rfl (decide_eq_false fun q => (Fld.ne SF_w36_purchase SF_w34_purchase (by decide)) (Value.ref.inj q)) (by decide) (by decide) (XS.aload X1514.here hx rfl (hb hby at_96) rfl rfl k))) ?_
        show own_Goes p e below (T1514.setTop (mkF m 98 #[iv i0, iv i1, iv i2, iv i3, iv i4, rv b51, rv w36, iv (0 : Int32), rv b1402, rv b1506, .unset] [(.ref w36)])) _
        obtain ⟨T1516, X1516, e1516, st1516⟩ := getS2 X1514 hx hZ hown (host := "") (Or.inl (wd hw 10 rfl)) Via.refl e1514 (S_DocumentType_PURCHASE_CREDIT_NOTE.ext O1515.2) (g := (mkF m 98 #[iv i0, iv i1, iv i2, iv i3, iv i4, rv b51, rv w36, iv (0 : Int32), rv b1402, rv b1506, .unset] [(.ref w36)])) rfl (hb hby at_98)
        refine own_via (fun t k => st1516 t (Jvm.RoadKit.acmp (g := (mkF m 101 #[iv i0, iv i1, iv i2, iv i3, iv i4, rv b51, rv w36, iv (0 : Int32), rv b1402, rv b1506, .unset] [(.ref w38), (.ref w36)])) X1516 hx rfl rfl rfl (pc0 := 101) (pc' := 108) (same := false) rfl (hb hby at_101) rfl (decide_eq_false fun q => (Fld.ne SF_w36_purchase SF_w38_purchase (by decide)) (Value.ref.inj q)) (by decide) (by decide) (XS.iconst X1516.here hx rfl (hb hby at_108) (XS.istore X1516.here hx rfl (hb hby at_109) rfl (l' := #[iv i0, iv i1, iv i2, iv i3, iv i4, rv b51, rv w36, iv (0 : Int32), rv b1402, rv b1506, iv (0 : Int32)]) rfl (XS.iload X1516.here hx rfl (hb hby at_111) rfl (XS.ifYes X1516.here hx rfl (pc0 := 113) (pc' := 129) rfl (hb hby at_113) rfl ((if0 _ _).trans (teq (by decide : (0 : Int32) = (0 : Int32))).1) (by decide) (by decide) (XS.aload X1516.here hx rfl (hb hby at_129) rfl rfl k))))))) ?_
        show own_Goes p e below (T1516.setTop (mkF m 131 #[iv i0, iv i1, iv i2, iv i3, iv i4, rv b51, rv w36, iv (0 : Int32), rv b1402, rv b1506, iv (0 : Int32)] [(.ref b1506)])) _
        have l1518 : own_Len Z h1504 b1507 .byte (0 : Int32) := ⟨_, _, _, vx1511⟩
        obtain ⟨_, T1517, _, X1517, hQ1517, Cr1517, hS, hZ, hown, st1517⟩ := own_cvH X1516 hx hZ hS hk1513 hown (wd hw 56 rfl) (wd hw 57 rfl) (wd hw 59 rfl) (wd hw 58 rfl) (wd hw 60 rfl) (wd hw 18 rfl) (by decide) hEE.ew C1512.1 (rm20 l Z a0 hw [] b1506 b1507 h1504 n0 O1515 fx1510 l1518) e1516 ex1509 (g := (mkF m 131 #[iv i0, iv i1, iv i2, iv i3, iv i4, rv b51, rv w36, iv (0 : Int32), rv b1402, rv b1506, iv (0 : Int32)] [(.ref b1506)])) rfl (by rw [hml]; rfl) (rest := []) (W := 0) (lenOf pd_8 rfl) rfl (by show 2 * 0 + _ ≤ _; exact Nat.le_of_eq rfl) (hb hby at_131) (by decide) (by decide) (by decide) (by decide)
        obtain ⟨rfl, Nq1517, hh1519⟩ := hQ1517
        have N1517 := Fr.app N1504 Nq1517
        rw [hh1519] at Cr1517
        have C1520 := C1512.trans Cr1517
        have hk1521 : T1517.heap.size ≤ h1504.size := Nat.le_of_eq (congrArg Array.size hh1519)
        refine own_via (fun t k => st1517 t k) ?_
        obtain ⟨fs, hr, hrun, hended, hRW⟩ := X1517.leaveW hS (by rw [hh1519]; first | exact hk1521 | exact Nat.le_refl _) (v := some (.int (1 : Int32))) (fun h => by rw [Bd.returns] at h; cases h)
        refine own_end (t := T1517.setFrames fs) ?_ ⟨_, hrun, hended, _, _, rfl, ?_, own_rmono hRW (by decide) (by decide)⟩
        · exact retN X1517 hx (t := .boolean) Bd.returns (by simp) (hb hby at_134) hr
        · exact ⟨rfl, N1517⟩
    · refine own_via (fun t k => XS.ifNo X76.here hx rfl (hb hby at_41) rfl ((if0 _ _).trans (feq hc1383).1) (XS.iconst X76.here hx rfl (hb hby at_44) (XS.goto X76.here hx rfl (pc0 := 45) (pc' := 49) rfl (hb hby at_45) (by decide) (by decide) (XS.istore X76.here hx rfl (hb hby at_49) rfl (l' := #[iv i0, iv i1, iv i2, iv i3, iv i4, rv b51, rv w36, iv (1 : Int32), .unset, .unset, .unset]) rfl (XS.iload X76.here hx rfl (hb hby at_51) rfl (XS.ifNo X76.here hx rfl (hb hby at_53) rfl ((if0 _ _).trans (feq (by decide : ¬ ((1 : Int32) = (0 : Int32)))).1) (XS.aconstNull X76.here hx rfl (hb hby at_56) (XS.goto X76.here hx rfl (pc0 := 57) (pc' := 70) rfl (hb hby at_57) (by decide) (by decide) (XS.astore X76.here hx rfl (hb hby at_70) rfl rfl (l' := #[iv i0, iv i1, iv i2, iv i3, iv i4, rv b51, rv w36, iv (1 : Int32), .val .null, .unset, .unset]) rfl (XS.aload X76.here hx rfl (hb hby at_72) rfl rfl (XS.aload X76.here hx rfl (hb hby at_74) rfl rfl k))))))))))) ?_
      show own_Goes p e below (T76.setTop (mkF m 76 #[iv i0, iv i1, iv i2, iv i3, iv i4, rv b51, rv w36, iv (1 : Int32), .val .null, .unset, .unset] [.null, (.ref w36)])) _
      have O1537 : Old Z n0 h76 := (O74.wr W76 g52)
      have K1538 : k0 ≤ h76.size := (Nat.le_trans (Nat.le_trans (Nat.le_trans (Nat.le_trans (Nat.le_trans hk0 E50.1) (Nat.le_of_eq W58.size.symm)) (Nat.le_of_eq W64.size.symm)) (Nat.le_of_eq W70.size.symm)) (Nat.le_of_eq W76.size.symm))
      obtain ⟨_, T1522, _, X1522, hQ1522, Cr1522, hS, hZ, hown, st1522⟩ := own_cvH X76 hx hZ hS K1538 hown (wd hw 46 rfl) (wd hw 47 rfl) (wd hw 49 rfl) (wd hw 48 rfl) (wd hw 50 rfl) (wd hw 3 rfl) (by decide) hEE.ew C76.1 (rm26 l Z a0 hw [] w36 h76 n0 O1537 SF_w36_purchase) e76 (SE_w36.ext O1537.2) (g := (mkF m 76 #[iv i0, iv i1, iv i2, iv i3, iv i4, rv b51, rv w36, iv (1 : Int32), .val .null, .unset, .unset] [.null, (.ref w36)])) rfl (by rw [hml]; rfl) (rest := []) (W := 0) (lenOf pd_7 rfl) rfl (by show 2 * 0 + _ ≤ _; exact Nat.le_of_eq rfl) (hb hby at_76) (by decide) (by decide) (by decide) (by decide)
      obtain ⟨h1522, e1522⟩ : ∃ z, T1522.heap = z := ⟨_, rfl⟩
      rw [e1522] at hQ1522 Cr1522
      obtain ⟨b1539, b1540, k1541, rfl, Nq1522, K1522, ex1542, fx1543, vx1544⟩ := hQ1522
      have N1522 := Fr.app N76 Nq1522
      have C1545 := C76.trans Cr1522
      have hk1546 : T1522.heap.size ≤ h1522.size := Nat.le_of_eq (congrArg Array.size e1522)
      refine own_via (fun t k => st1522 t (XS.astore X1522.here hx rfl (hb hby at_79) rfl rfl (l' := #[iv i0, iv i1, iv i2, iv i3, iv i4, rv b51, rv w36, iv (1 : Int32), .val .null, rv b1539, .unset]) rfl (XS.aload X1522.here hx rfl (hb hby at_81) rfl rfl (XS.ifnonnullYes X1522.here hx rfl (pc0 := 83) (pc' := 88) rfl (hb hby at_83) rfl (by decide) (by decide) (XS.aload X1522.here hx rfl (hb hby at_88) rfl rfl k))))) ?_
      show own_Goes p e below (T1522.setTop (mkF m 90 #[iv i0, iv i1, iv i2, iv i3, iv i4, rv b51, rv w36, iv (1 : Int32), .val .null, rv b1539, .unset] [(.ref w36)])) _
      have O1548 : Old Z n0 h1522 := (O1537.keep K1522 all0)
      obtain ⟨T1547, X1547, e1547, st1547⟩ := getS2 X1522 hx hZ hown (host := "") (Or.inl (wd hw 6 rfl)) Via.refl e1522 (S_DocumentType_PURCHASE_INVOICE.ext O1548.2) (g := (mkF m 90 #[iv i0, iv i1, iv i2, iv i3, iv i4, rv b51, rv w36, iv (1 : Int32), .val .null, rv b1539, .unset] [(.ref w36)])) rfl (hb hby at_90)
      refine own_via (fun t k => st1547 t (Jvm.RoadKit.acmp (g := (mkF m 93 #[iv i0, iv i1, iv i2, iv i3, iv i4, rv b51, rv w36, iv (1 : Int32), .val .null, rv b1539, .unset] [(.ref w34), (.ref w36)])) X1547 hx rfl rfl rfl (pc0 := 93) (pc' := 96) (same := false) rfl (hb hby at_93) rfl (decide_eq_false fun q => (Fld.ne SF_w36_purchase SF_w34_purchase (by decide)) (Value.ref.inj q)) (by decide) (by decide) (XS.aload X1547.here hx rfl (hb hby at_96) rfl rfl k))) ?_
      show own_Goes p e below (T1547.setTop (mkF m 98 #[iv i0, iv i1, iv i2, iv i3, iv i4, rv b51, rv w36, iv (1 : Int32), .val .null, rv b1539, .unset] [(.ref w36)])) _
      obtain ⟨T1549, X1549, e1549, st1549⟩ := getS2 X1547 hx hZ hown (host := "") (Or.inl (wd hw 10 rfl)) Via.refl e1547 (S_DocumentType_PURCHASE_CREDIT_NOTE.ext O1548.2) (g := (mkF m 98 #[iv i0, iv i1, iv i2, iv i3, iv i4, rv b51, rv w36, iv (1 : Int32), .val .null, rv b1539, .unset] [(.ref w36)])) rfl (hb hby at_98)
      refine own_via (fun t k => st1549 t (Jvm.RoadKit.acmp (g := (mkF m 101 #[iv i0, iv i1, iv i2, iv i3, iv i4, rv b51, rv w36, iv (1 : Int32), .val .null, rv b1539, .unset] [(.ref w38), (.ref w36)])) X1549 hx rfl rfl rfl (pc0 := 101) (pc' := 108) (same := false) rfl (hb hby at_101) rfl (decide_eq_false fun q => (Fld.ne SF_w36_purchase SF_w38_purchase (by decide)) (Value.ref.inj q)) (by decide) (by decide) (XS.iconst X1549.here hx rfl (hb hby at_108) (XS.istore X1549.here hx rfl (hb hby at_109) rfl (l' := #[iv i0, iv i1, iv i2, iv i3, iv i4, rv b51, rv w36, iv (1 : Int32), .val .null, rv b1539, iv (0 : Int32)]) rfl (XS.iload X1549.here hx rfl (hb hby at_111) rfl (XS.ifYes X1549.here hx rfl (pc0 := 113) (pc' := 129) rfl (hb hby at_113) rfl ((if0 _ _).trans (teq (by decide : (0 : Int32) = (0 : Int32))).1) (by decide) (by decide) (XS.aload X1549.here hx rfl (hb hby at_129) rfl rfl k))))))) ?_
      show own_Goes p e below (T1549.setTop (mkF m 131 #[iv i0, iv i1, iv i2, iv i3, iv i4, rv b51, rv w36, iv (1 : Int32), .val .null, rv b1539, iv (0 : Int32)] [(.ref b1539)])) _
      have l1551 : own_Len Z h1522 b1540 .byte (0 : Int32) := ⟨_, _, _, vx1544⟩
      obtain ⟨_, T1550, _, X1550, hQ1550, Cr1550, hS, hZ, hown, st1550⟩ := own_cvH X1549 hx hZ hS hk1546 hown (wd hw 56 rfl) (wd hw 57 rfl) (wd hw 59 rfl) (wd hw 58 rfl) (wd hw 60 rfl) (wd hw 18 rfl) (by decide) hEE.ew C1545.1 (rm20 l Z a0 hw [] b1539 b1540 h1522 n0 O1548 fx1543 l1551) e1549 ex1542 (g := (mkF m 131 #[iv i0, iv i1, iv i2, iv i3, iv i4, rv b51, rv w36, iv (1 : Int32), .val .null, rv b1539, iv (0 : Int32)] [(.ref b1539)])) rfl (by rw [hml]; rfl) (rest := []) (W := 0) (lenOf pd_8 rfl) rfl (by show 2 * 0 + _ ≤ _; exact Nat.le_of_eq rfl) (hb hby at_131) (by decide) (by decide) (by decide) (by decide)
      obtain ⟨rfl, Nq1550, hh1552⟩ := hQ1550
      have N1550 := Fr.app N1522 Nq1550
      rw [hh1552] at Cr1550
      have C1553 := C1545.trans Cr1550
      have hk1554 : T1550.heap.size ≤ h1522.size := Nat.le_of_eq (congrArg Array.size hh1552)
      refine own_via (fun t k => st1550 t k) ?_
      obtain ⟨fs, hr, hrun, hended, hRW⟩ := X1550.leaveW hS (by rw [hh1552]; first | exact hk1554 | exact Nat.le_refl _) (v := some (.int (1 : Int32))) (fun h => by rw [Bd.returns] at h; cases h)
      refine own_end (t := T1550.setFrames fs) ?_ ⟨_, hrun, hended, _, _, rfl, ?_, own_rmono hRW (by decide) (by decide)⟩
      · exact retN X1550 hx (t := .boolean) Bd.returns (by simp) (hb hby at_134) hr
      · exact ⟨rfl, N1550⟩
  · have qs1555 := qs
    rw [qs]
    show own_Goes p e below (T76.setTop (mkF m 35 #[iv i0, iv i1, iv i2, iv i3, iv i4, rv b51, .unset, .unset, .unset, .unset, .unset] [(.int (3 : Int32)), (.ref b51)])) _
    obtain ⟨cl1556, Ar1556, qq1556, S1556, M1556, H1556, G1556⟩ := id (V77)
    have hin1556 : ¬ ((3 : Int32) < 0 ∨ cl1556.slots.size ≤ ((3 : Int32)).toNatClampNeg) := inb_of S1556 ⟨by decide, by decide⟩
    refine own_via (fun t k => X76.aaload hx (j := (3 : Int32)) (v := (.ref w38)) (by rw [e76]; exact Ar1556.1) (State.isArrayOf_alike hZ.alike Ar1556.2.1) rfl Ar1556.2.2 hin1556 (Has.at H1556 hin1556 rfl) (g := (mkF m 35 #[iv i0, iv i1, iv i2, iv i3, iv i4, rv b51, .unset, .unset, .unset, .unset, .unset] [(.int (3 : Int32)), (.ref b51)])) rfl rfl (hb hby at_35) t (XS.astore X76.here hx rfl (hb hby at_36) rfl rfl (l' := #[iv i0, iv i1, iv i2, iv i3, iv i4, rv b51, rv w38, .unset, .unset, .unset, .unset]) rfl (XS.iloadN X76.here hx rfl (hb hby at_38) rfl (XS.iconst X76.here hx rfl (hb hby at_39) (XS.iand X76.here hx rfl (hb hby at_40) rfl k))))) ?_
    show own_Goes p e below (T76.setTop (mkF m 41 #[iv i0, iv i1, iv i2, iv i3, iv i4, rv b51, rv w38, .unset, .unset, .unset, .unset] [(.int (i1 &&& (4 : Int32)))])) _
    by_cases hc1557 : (i1 &&& (4 : Int32)) = (0 : Int32)
    · refine own_via (fun t k => XS.ifYes X76.here hx rfl (pc0 := 41) (pc' := 48) rfl (hb hby at_41) rfl ((if0 _ _).trans (teq hc1557).1) (by decide) (by decide) (XS.iconst X76.here hx rfl (hb hby at_48) (XS.istore X76.here hx rfl (hb hby at_49) rfl (l' := #[iv i0, iv i1, iv i2, iv i3, iv i4, rv b51, rv w38, iv (0 : Int32), .unset, .unset, .unset]) rfl (XS.iload X76.here hx rfl (hb hby at_51) rfl (XS.ifYes X76.here hx rfl (pc0 := 53) (pc' := 60) rfl (hb hby at_53) rfl ((if0 _ _).trans (teq (by decide : (0 : Int32) = (0 : Int32))).1) (by decide) (by decide) (XS.iloadN X76.here hx rfl (hb hby at_60) rfl (XS.iconst X76.here hx rfl (hb hby at_61) (XS.iand X76.here hx rfl (hb hby at_62) rfl (XS.iloadN X76.here hx rfl (hb hby at_63) rfl (XS.iloadN X76.here hx rfl (hb hby at_64) rfl (XS.iload X76.here hx rfl (hb hby at_65) rfl k))))))))))) ?_
      show own_Goes p e below (T76.setTop (mkF m 67 #[iv i0, iv i1, iv i2, iv i3, iv i4, rv b51, rv w38, iv (0 : Int32), .unset, .unset, .unset] [(.int i4), (.int i3), (.int i2), (.int (i1 &&& (3 : Int32)))])) _
      have O1559 : Old Z n0 h76 := (O74.wr W76 g52)
      have K1560 : k0 ≤ h76.size := (Nat.le_trans (Nat.le_trans (Nat.le_trans (Nat.le_trans (Nat.le_trans hk0 E50.1) (Nat.le_of_eq W58.size.symm)) (Nat.le_of_eq W64.size.symm)) (Nat.le_of_eq W70.size.symm)) (Nat.le_of_eq W76.size.symm))
      obtain ⟨_, T1558, _, X1558, hQ1558, Cr1558, hS, hZ, hown, st1558⟩ := own_csH X76 hx hZ hS K1560 hown (wd hw 12 rfl) (wd hw 13 rfl) (wd hw 15 rfl) (wd hw 14 rfl) (by decide) hEE.ew C76.1 (rm18 l Z a0 hw [] (i1 &&& (3 : Int32)) i2 i3 i4 i48 h76 n0 O1559 S_String_COMPACT_STRINGS SNZ_i48) e76 (g := (mkF m 67 #[iv i0, iv i1, iv i2, iv i3, iv i4, rv b51, rv w38, iv (0 : Int32), .unset, .unset, .unset] [(.int i4), (.int i3), (.int i2), (.int (i1 &&& (3 : Int32)))])) rfl (by rw [hml]; rfl) (rest := []) (W := 0) (lenOf pd_6 rfl) rfl (by show 2 * 0 + _ ≤ _; exact Nat.le_of_eq rfl) (hb hby at_67) (by decide) (by decide) (by decide) (by decide)
      obtain ⟨h1558, e1558⟩ : ∃ z, T1558.heap = z := ⟨_, rfl⟩
      rw [e1558] at hQ1558 Cr1558
      rcases hQ1558 with ⟨b1561, hq1562, rfl, Nq1558, K1558, bx1563, ex1564⟩ | ⟨b1565, hq1566, hq1567, rfl, Nq1558, K1558, bx1568, ex1569⟩ | ⟨b1570, hq1571, hq1572, hq1573, rfl, Nq1558, K1558, bx1574, ex1575⟩ | ⟨b1576, hq1577, hq1578, hq1579, rfl, Nq1558, K1558, bx1580, ex1581⟩
      · have N1558 := Fr.app N76 Nq1558
        have C1582 := C76.trans Cr1558
        have N1583 : b51 ≠ b1561 := Nat.ne_of_lt (Nat.lt_of_lt_of_le V77.lt bx1563)
        have g1584 : n0 ≤ b1561 := Nat.le_trans (own_old O1559) bx1563
        have Z1586 : h0.size ≤ h76.size := (Nat.le_trans (Nat.le_trans (Nat.le_trans (Nat.le_trans (Nat.le_trans (Nat.le_refl _) E50.1) (Nat.le_of_eq W58.size.symm)) (Nat.le_of_eq W64.size.symm)) (Nat.le_of_eq W70.size.symm)) (Nat.le_of_eq W76.size.symm))
        have B1585 : h0.size ≤ b1561 := Nat.le_trans Z1586 bx1563
        have hk1587 : T1558.heap.size ≤ h1558.size := Nat.le_of_eq (congrArg Array.size e1558)
        refine own_via (fun t k => st1558 t (XS.astore X1558.here hx rfl (hb hby at_70) rfl rfl (l' := #[iv i0, iv i1, iv i2, iv i3, iv i4, rv b51, rv w38, iv (0 : Int32), rv b1561, .unset, .unset]) rfl (XS.aload X1558.here hx rfl (hb hby at_72) rfl rfl (XS.aload X1558.here hx rfl (hb hby at_74) rfl rfl k)))) ?_
        show own_Goes p e below (T1558.setTop (mkF m 76 #[iv i0, iv i1, iv i2, iv i3, iv i4, rv b51, rv w38, iv (0 : Int32), rv b1561, .unset, .unset] [(.ref b1561), (.ref w38)])) _
        have O1603 : Old Z n0 h1558 := (O1559.keep K1558 all0)
        obtain ⟨_, T1588, _, X1588, hQ1588, Cr1588, hS, hZ, hown, st1588⟩ := own_cvH X1558 hx hZ hS hk1587 hown (wd hw 46 rfl) (wd hw 47 rfl) (wd hw 49 rfl) (wd hw 48 rfl) (wd hw 50 rfl) (wd hw 3 rfl) (by decide) hEE.ew C1582.1 (rm27 l Z a0 hw [] w38 b1561 h1558 n0 O1603 SF_w38_purchase) e1558 (SE_w38.ext O1603.2) (g := (mkF m 76 #[iv i0, iv i1, iv i2, iv i3, iv i4, rv b51, rv w38, iv (0 : Int32), rv b1561, .unset, .unset] [(.ref b1561), (.ref w38)])) rfl (by rw [hml]; rfl) (rest := []) (W := 0) (lenOf pd_7 rfl) rfl (by show 2 * 0 + _ ≤ _; exact Nat.le_of_eq rfl) (hb hby at_76) (by decide) (by decide) (by decide) (by decide)
        obtain ⟨rfl, Nq1588, hh1604⟩ := hQ1588
        have N1588 := Fr.app N1558 Nq1588
        rw [hh1604] at Cr1588
        have C1605 := C1582.trans Cr1588
        have hk1606 : T1588.heap.size ≤ h1558.size := Nat.le_of_eq (congrArg Array.size hh1604)
        refine own_via (fun t k => st1588 t (XS.astore X1588.here hx rfl (hb hby at_79) rfl rfl (l' := #[iv i0, iv i1, iv i2, iv i3, iv i4, rv b51, rv w38, iv (0 : Int32), rv b1561, rv b1561, .unset]) rfl (XS.aload X1588.here hx rfl (hb hby at_81) rfl rfl (XS.ifnonnullYes X1588.here hx rfl (pc0 := 83) (pc' := 88) rfl (hb hby at_83) rfl (by decide) (by decide) (XS.aload X1588.here hx rfl (hb hby at_88) rfl rfl k))))) ?_
        show own_Goes p e below (T1588.setTop (mkF m 90 #[iv i0, iv i1, iv i2, iv i3, iv i4, rv b51, rv w38, iv (0 : Int32), rv b1561, rv b1561, .unset] [(.ref w38)])) _
        obtain ⟨T1607, X1607, e1607, st1607⟩ := getS2 X1588 hx hZ hown (host := "") (Or.inl (wd hw 6 rfl)) Via.refl hh1604 (S_DocumentType_PURCHASE_INVOICE.ext O1603.2) (g := (mkF m 90 #[iv i0, iv i1, iv i2, iv i3, iv i4, rv b51, rv w38, iv (0 : Int32), rv b1561, rv b1561, .unset] [(.ref w38)])) rfl (hb hby at_90)
        refine own_via (fun t k => st1607 t (Jvm.RoadKit.acmp (g := (mkF m 93 #[iv i0, iv i1, iv i2, iv i3, iv i4, rv b51, rv w38, iv (0 : Int32), rv b1561, rv b1561, .unset] [(.ref w34), (.ref w38)])) X1607 hx rfl rfl rfl (pc0 := 93) (pc' := 96) (same := false) rfl (hb hby at_93) rfl (decide_eq_false fun q => (Fld.ne SF_w38_ordinal SF_w34_ordinal (by decide)) (Value.ref.inj q)) (by decide) (by decide) (XS.aload X1607.here hx rfl (hb hby at_96) rfl rfl k))) ?_
        show own_Goes p e below (T1607.setTop (mkF m 98 #[iv i0, iv i1, iv i2, iv i3, iv i4, rv b51, rv w38, iv (0 : Int32), rv b1561, rv b1561, .unset] [(.ref w38)])) _
        obtain ⟨T1608, X1608, e1608, st1608⟩ := getS2 X1607 hx hZ hown (host := "") (Or.inl (wd hw 10 rfl)) Via.refl e1607 (S_DocumentType_PURCHASE_CREDIT_NOTE.ext O1603.2) (g := (mkF m 98 #[iv i0, iv i1, iv i2, iv i3, iv i4, rv b51, rv w38, iv (0 : Int32), rv b1561, rv b1561, .unset] [(.ref w38)])) rfl (hb hby at_98)
        refine own_via (fun t k => st1608 t (Jvm.RoadKit.acmp (g := (mkF m 101 #[iv i0, iv i1, iv i2, iv i3, iv i4, rv b51, rv w38, iv (0 : Int32), rv b1561, rv b1561, .unset] [(.ref w38), (.ref w38)])) X1608 hx rfl rfl rfl (pc0 := 101) (pc' := 104) (same := true) rfl (hb hby at_101) rfl (decide_eq_true rfl) (by decide) (by decide) (XS.iconst X1608.here hx rfl (hb hby at_104) (XS.goto X1608.here hx rfl (pc0 := 105) (pc' := 109) rfl (hb hby at_105) (by decide) (by decide) (XS.istore X1608.here hx rfl (hb hby at_109) rfl (l' := #[iv i0, iv i1, iv i2, iv i3, iv i4, rv b51, rv w38, iv (0 : Int32), rv b1561, rv b1561, iv (1 : Int32)]) rfl (XS.iload X1608.here hx rfl (hb hby at_111) rfl (XS.ifNo X1608.here hx rfl (hb hby at_113) rfl ((if0 _ _).trans (feq (by decide : ¬ ((1 : Int32) = (0 : Int32)))).1) (XS.aload X1608.here hx rfl (hb hby at_116) rfl rfl (XS.ifnullNo X1608.here hx rfl (hb hby at_118) rfl (XS.aload X1608.here hx rfl (hb hby at_121) rfl rfl (XS.aload X1608.here hx rfl (hb hby at_123) rfl rfl k))))))))))) ?_
        show own_Goes p e below (T1608.setTop (mkF m 125 #[iv i0, iv i1, iv i2, iv i3, iv i4, rv b51, rv w38, iv (0 : Int32), rv b1561, rv b1561, iv (1 : Int32)] [(.ref b1561), (.ref b1561)])) _
        obtain ⟨_, T1609, _, X1609, hQ1609, Cr1609, hS, hZ, hown, st1609⟩ := own_cvH X1608 hx hZ hS hk1606 hown (wd hw 61 rfl) (wd hw 62 rfl) (wd hw 64 rfl) (wd hw 63 rfl) (wd hw 65 rfl) (wd hw 18 rfl) (by decide) hEE.ew C1605.1 (rm23 l Z a0 hw [] b1561 h1558 n0 O1603 ) e1608 ex1564 (g := (mkF m 125 #[iv i0, iv i1, iv i2, iv i3, iv i4, rv b51, rv w38, iv (0 : Int32), rv b1561, rv b1561, iv (1 : Int32)] [(.ref b1561), (.ref b1561)])) rfl (by rw [hml]; rfl) (rest := []) (W := 0) (lenOf pd_9 rfl) rfl (by show 2 * 0 + _ ≤ _; exact Nat.le_of_eq rfl) (hb hby at_125) (by decide) (by decide) (by decide) (by decide)
        obtain ⟨rfl, Nq1609, hh1610⟩ := hQ1609
        have N1609 := Fr.app N1588 Nq1609
        rw [hh1610] at Cr1609
        have C1611 := C1605.trans Cr1609
        have hk1612 : T1609.heap.size ≤ h1558.size := Nat.le_of_eq (congrArg Array.size hh1610)
        refine own_via (fun t k => st1609 t k) ?_
        obtain ⟨fs, hr, hrun, hended, hRW⟩ := X1609.leaveW hS (by rw [hh1610]; first | exact hk1612 | exact Nat.le_refl _) (v := some (.int (1 : Int32))) (fun h => by rw [Bd.returns] at h; cases h)
        refine own_end (t := T1609.setFrames fs) ?_ ⟨_, hrun, hended, _, _, rfl, ?_, own_rmono hRW (by decide) (by decide)⟩
        · exact retN X1609 hx (t := .boolean) Bd.returns (by simp) (hb hby at_128) hr
        · exact ⟨rfl, N1609⟩
      · have N1558 := Fr.app N76 Nq1558
        have C1613 := C76.trans Cr1558
        have N1614 : b51 ≠ b1565 := Nat.ne_of_lt (Nat.lt_of_lt_of_le V77.lt bx1568)
        have g1615 : n0 ≤ b1565 := Nat.le_trans (own_old O1559) bx1568
        have Z1617 : h0.size ≤ h76.size := (Nat.le_trans (Nat.le_trans (Nat.le_trans (Nat.le_trans (Nat.le_trans (Nat.le_refl _) E50.1) (Nat.le_of_eq W58.size.symm)) (Nat.le_of_eq W64.size.symm)) (Nat.le_of_eq W70.size.symm)) (Nat.le_of_eq W76.size.symm))
        have B1616 : h0.size ≤ b1565 := Nat.le_trans Z1617 bx1568
        have hk1618 : T1558.heap.size ≤ h1558.size := Nat.le_of_eq (congrArg Array.size e1558)
        refine own_via (fun t k => st1558 t (XS.astore X1558.here hx rfl (hb hby at_70) rfl rfl (l' := #[iv i0, iv i1, iv i2, iv i3, iv i4, rv b51, rv w38, iv (0 : Int32), rv b1565, .unset, .unset]) rfl (XS.aload X1558.here hx rfl (hb hby at_72) rfl rfl (XS.aload X1558.here hx rfl (hb hby at_74) rfl rfl k)))) ?_
        show own_Goes p e below (T1558.setTop (mkF m 76 #[iv i0, iv i1, iv i2, iv i3, iv i4, rv b51, rv w38, iv (0 : Int32), rv b1565, .unset, .unset] [(.ref b1565), (.ref w38)])) _
        have O1620 : Old Z n0 h1558 := (O1559.keep K1558 all0)
        obtain ⟨_, T1619, _, X1619, hQ1619, Cr1619, hS, hZ, hown, st1619⟩ := own_cvH X1558 hx hZ hS hk1618 hown (wd hw 46 rfl) (wd hw 47 rfl) (wd hw 49 rfl) (wd hw 48 rfl) (wd hw 50 rfl) (wd hw 3 rfl) (by decide) hEE.ew C1613.1 (rm27 l Z a0 hw [] w38 b1565 h1558 n0 O1620 SF_w38_purchase) e1558 (SE_w38.ext O1620.2) (g := (mkF m 76 #[iv i0, iv i1, iv i2, iv i3, iv i4, rv b51, rv w38, iv (0 : Int32), rv b1565, .unset, .unset] [(.ref b1565), (.ref w38)])) rfl (by rw [hml]; rfl) (rest := []) (W := 0) (lenOf pd_7 rfl) rfl (by show 2 * 0 + _ ≤ _; exact Nat.le_of_eq rfl) (hb hby at_76) (by decide) (by decide) (by decide) (by decide)
        obtain ⟨rfl, Nq1619, hh1621⟩ := hQ1619
        have N1619 := Fr.app N1558 Nq1619
        rw [hh1621] at Cr1619
        have C1622 := C1613.trans Cr1619
        have hk1623 : T1619.heap.size ≤ h1558.size := Nat.le_of_eq (congrArg Array.size hh1621)
        refine own_via (fun t k => st1619 t (XS.astore X1619.here hx rfl (hb hby at_79) rfl rfl (l' := #[iv i0, iv i1, iv i2, iv i3, iv i4, rv b51, rv w38, iv (0 : Int32), rv b1565, rv b1565, .unset]) rfl (XS.aload X1619.here hx rfl (hb hby at_81) rfl rfl (XS.ifnonnullYes X1619.here hx rfl (pc0 := 83) (pc' := 88) rfl (hb hby at_83) rfl (by decide) (by decide) (XS.aload X1619.here hx rfl (hb hby at_88) rfl rfl k))))) ?_
        show own_Goes p e below (T1619.setTop (mkF m 90 #[iv i0, iv i1, iv i2, iv i3, iv i4, rv b51, rv w38, iv (0 : Int32), rv b1565, rv b1565, .unset] [(.ref w38)])) _
        obtain ⟨T1624, X1624, e1624, st1624⟩ := getS2 X1619 hx hZ hown (host := "") (Or.inl (wd hw 6 rfl)) Via.refl hh1621 (S_DocumentType_PURCHASE_INVOICE.ext O1620.2) (g := (mkF m 90 #[iv i0, iv i1, iv i2, iv i3, iv i4, rv b51, rv w38, iv (0 : Int32), rv b1565, rv b1565, .unset] [(.ref w38)])) rfl (hb hby at_90)
        refine own_via (fun t k => st1624 t (Jvm.RoadKit.acmp (g := (mkF m 93 #[iv i0, iv i1, iv i2, iv i3, iv i4, rv b51, rv w38, iv (0 : Int32), rv b1565, rv b1565, .unset] [(.ref w34), (.ref w38)])) X1624 hx rfl rfl rfl (pc0 := 93) (pc' := 96) (same := false) rfl (hb hby at_93) rfl (decide_eq_false fun q => (Fld.ne SF_w38_ordinal SF_w34_ordinal (by decide)) (Value.ref.inj q)) (by decide) (by decide) (XS.aload X1624.here hx rfl (hb hby at_96) rfl rfl k))) ?_
        show own_Goes p e below (T1624.setTop (mkF m 98 #[iv i0, iv i1, iv i2, iv i3, iv i4, rv b51, rv w38, iv (0 : Int32), rv b1565, rv b1565, .unset] [(.ref w38)])) _
        obtain ⟨T1625, X1625, e1625, st1625⟩ := getS2 X1624 hx hZ hown (host := "") (Or.inl (wd hw 10 rfl)) Via.refl e1624 (S_DocumentType_PURCHASE_CREDIT_NOTE.ext O1620.2) (g := (mkF m 98 #[iv i0, iv i1, iv i2, iv i3, iv i4, rv b51, rv w38, iv (0 : Int32), rv b1565, rv b1565, .unset] [(.ref w38)])) rfl (hb hby at_98)
        refine own_via (fun t k => st1625 t (Jvm.RoadKit.acmp (g := (mkF m 101 #[iv i0, iv i1, iv i2, iv i3, iv i4, rv b51, rv w38, iv (0 : Int32), rv b1565, rv b1565, .unset] [(.ref w38), (.ref w38)])) X1625 hx rfl rfl rfl (pc0 := 101) (pc' := 104) (same := true) rfl (hb hby at_101) rfl (decide_eq_true rfl) (by decide) (by decide) (XS.iconst X1625.here hx rfl (hb hby at_104) (XS.goto X1625.here hx rfl (pc0 := 105) (pc' := 109) rfl (hb hby at_105) (by decide) (by decide) (XS.istore X1625.here hx rfl (hb hby at_109) rfl (l' := #[iv i0, iv i1, iv i2, iv i3, iv i4, rv b51, rv w38, iv (0 : Int32), rv b1565, rv b1565, iv (1 : Int32)]) rfl (XS.iload X1625.here hx rfl (hb hby at_111) rfl (XS.ifNo X1625.here hx rfl (hb hby at_113) rfl ((if0 _ _).trans (feq (by decide : ¬ ((1 : Int32) = (0 : Int32)))).1) (XS.aload X1625.here hx rfl (hb hby at_116) rfl rfl (XS.ifnullNo X1625.here hx rfl (hb hby at_118) rfl (XS.aload X1625.here hx rfl (hb hby at_121) rfl rfl (XS.aload X1625.here hx rfl (hb hby at_123) rfl rfl k))))))))))) ?_
        show own_Goes p e below (T1625.setTop (mkF m 125 #[iv i0, iv i1, iv i2, iv i3, iv i4, rv b51, rv w38, iv (0 : Int32), rv b1565, rv b1565, iv (1 : Int32)] [(.ref b1565), (.ref b1565)])) _
        obtain ⟨_, T1626, _, X1626, hQ1626, Cr1626, hS, hZ, hown, st1626⟩ := own_cvH X1625 hx hZ hS hk1623 hown (wd hw 61 rfl) (wd hw 62 rfl) (wd hw 64 rfl) (wd hw 63 rfl) (wd hw 65 rfl) (wd hw 18 rfl) (by decide) hEE.ew C1622.1 (rm23 l Z a0 hw [] b1565 h1558 n0 O1620 ) e1625 ex1569 (g := (mkF m 125 #[iv i0, iv i1, iv i2, iv i3, iv i4, rv b51, rv w38, iv (0 : Int32), rv b1565, rv b1565, iv (1 : Int32)] [(.ref b1565), (.ref b1565)])) rfl (by rw [hml]; rfl) (rest := []) (W := 0) (lenOf pd_9 rfl) rfl (by show 2 * 0 + _ ≤ _; exact Nat.le_of_eq rfl) (hb hby at_125) (by decide) (by decide) (by decide) (by decide)
        obtain ⟨rfl, Nq1626, hh1627⟩ := hQ1626
        have N1626 := Fr.app N1619 Nq1626
        rw [hh1627] at Cr1626
        have C1628 := C1622.trans Cr1626
        have hk1629 : T1626.heap.size ≤ h1558.size := Nat.le_of_eq (congrArg Array.size hh1627)
        refine own_via (fun t k => st1626 t k) ?_
        obtain ⟨fs, hr, hrun, hended, hRW⟩ := X1626.leaveW hS (by rw [hh1627]; first | exact hk1629 | exact Nat.le_refl _) (v := some (.int (1 : Int32))) (fun h => by rw [Bd.returns] at h; cases h)
        refine own_end (t := T1626.setFrames fs) ?_ ⟨_, hrun, hended, _, _, rfl, ?_, own_rmono hRW (by decide) (by decide)⟩
        · exact retN X1626 hx (t := .boolean) Bd.returns (by simp) (hb hby at_128) hr
        · exact ⟨rfl, N1626⟩
      · have N1558 := Fr.app N76 Nq1558
        have C1630 := C76.trans Cr1558
        have N1631 : b51 ≠ b1570 := Nat.ne_of_lt (Nat.lt_of_lt_of_le V77.lt bx1574)
        have g1632 : n0 ≤ b1570 := Nat.le_trans (own_old O1559) bx1574
        have Z1634 : h0.size ≤ h76.size := (Nat.le_trans (Nat.le_trans (Nat.le_trans (Nat.le_trans (Nat.le_trans (Nat.le_refl _) E50.1) (Nat.le_of_eq W58.size.symm)) (Nat.le_of_eq W64.size.symm)) (Nat.le_of_eq W70.size.symm)) (Nat.le_of_eq W76.size.symm))
        have B1633 : h0.size ≤ b1570 := Nat.le_trans Z1634 bx1574
        have hk1635 : T1558.heap.size ≤ h1558.size := Nat.le_of_eq (congrArg Array.size e1558)
        refine own_via (fun t k => st1558 t (XS.astore X1558.here hx rfl (hb hby at_70) rfl rfl (l' := #[iv i0, iv i1, iv i2, iv i3, iv i4, rv b51, rv w38, iv (0 : Int32), rv b1570, .unset, .unset]) rfl (XS.aload X1558.here hx rfl (hb hby at_72) rfl rfl (XS.aload X1558.here hx rfl (hb hby at_74) rfl rfl k)))) ?_
        show own_Goes p e below (T1558.setTop (mkF m 76 #[iv i0, iv i1, iv i2, iv i3, iv i4, rv b51, rv w38, iv (0 : Int32), rv b1570, .unset, .unset] [(.ref b1570), (.ref w38)])) _
        have O1637 : Old Z n0 h1558 := (O1559.keep K1558 all0)
        obtain ⟨_, T1636, _, X1636, hQ1636, Cr1636, hS, hZ, hown, st1636⟩ := own_cvH X1558 hx hZ hS hk1635 hown (wd hw 46 rfl) (wd hw 47 rfl) (wd hw 49 rfl) (wd hw 48 rfl) (wd hw 50 rfl) (wd hw 3 rfl) (by decide) hEE.ew C1630.1 (rm27 l Z a0 hw [] w38 b1570 h1558 n0 O1637 SF_w38_purchase) e1558 (SE_w38.ext O1637.2) (g := (mkF m 76 #[iv i0, iv i1, iv i2, iv i3, iv i4, rv b51, rv w38, iv (0 : Int32), rv b1570, .unset, .unset] [(.ref b1570), (.ref w38)])) rfl (by rw [hml]; rfl) (rest := []) (W := 0) (lenOf pd_7 rfl) rfl (by show 2 * 0 + _ ≤ _; exact Nat.le_of_eq rfl) (hb hby at_76) (by decide) (by decide) (by decide) (by decide)
        obtain ⟨rfl, Nq1636, hh1638⟩ := hQ1636
        have N1636 := Fr.app N1558 Nq1636
        rw [hh1638] at Cr1636
        have C1639 := C1630.trans Cr1636
        have hk1640 : T1636.heap.size ≤ h1558.size := Nat.le_of_eq (congrArg Array.size hh1638)
        refine own_via (fun t k => st1636 t (XS.astore X1636.here hx rfl (hb hby at_79) rfl rfl (l' := #[iv i0, iv i1, iv i2, iv i3, iv i4, rv b51, rv w38, iv (0 : Int32), rv b1570, rv b1570, .unset]) rfl (XS.aload X1636.here hx rfl (hb hby at_81) rfl rfl (XS.ifnonnullYes X1636.here hx rfl (pc0 := 83) (pc' := 88) rfl (hb hby at_83) rfl (by decide) (by decide) (XS.aload X1636.here hx rfl (hb hby at_88) rfl rfl k))))) ?_
        show own_Goes p e below (T1636.setTop (mkF m 90 #[iv i0, iv i1, iv i2, iv i3, iv i4, rv b51, rv w38, iv (0 : Int32), rv b1570, rv b1570, .unset] [(.ref w38)])) _
        obtain ⟨T1641, X1641, e1641, st1641⟩ := getS2 X1636 hx hZ hown (host := "") (Or.inl (wd hw 6 rfl)) Via.refl hh1638 (S_DocumentType_PURCHASE_INVOICE.ext O1637.2) (g := (mkF m 90 #[iv i0, iv i1, iv i2, iv i3, iv i4, rv b51, rv w38, iv (0 : Int32), rv b1570, rv b1570, .unset] [(.ref w38)])) rfl (hb hby at_90)
        refine own_via (fun t k => st1641 t (Jvm.RoadKit.acmp (g := (mkF m 93 #[iv i0, iv i1, iv i2, iv i3, iv i4, rv b51, rv w38, iv (0 : Int32), rv b1570, rv b1570, .unset] [(.ref w34), (.ref w38)])) X1641 hx rfl rfl rfl (pc0 := 93) (pc' := 96) (same := false) rfl (hb hby at_93) rfl (decide_eq_false fun q => (Fld.ne SF_w38_ordinal SF_w34_ordinal (by decide)) (Value.ref.inj q)) (by decide) (by decide) (XS.aload X1641.here hx rfl (hb hby at_96) rfl rfl k))) ?_
        show own_Goes p e below (T1641.setTop (mkF m 98 #[iv i0, iv i1, iv i2, iv i3, iv i4, rv b51, rv w38, iv (0 : Int32), rv b1570, rv b1570, .unset] [(.ref w38)])) _
        obtain ⟨T1642, X1642, e1642, st1642⟩ := getS2 X1641 hx hZ hown (host := "") (Or.inl (wd hw 10 rfl)) Via.refl e1641 (S_DocumentType_PURCHASE_CREDIT_NOTE.ext O1637.2) (g := (mkF m 98 #[iv i0, iv i1, iv i2, iv i3, iv i4, rv b51, rv w38, iv (0 : Int32), rv b1570, rv b1570, .unset] [(.ref w38)])) rfl (hb hby at_98)
        refine own_via (fun t k => st1642 t (Jvm.RoadKit.acmp (g := (mkF m 101 #[iv i0, iv i1, iv i2, iv i3, iv i4, rv b51, rv w38, iv (0 : Int32), rv b1570, rv b1570, .unset] [(.ref w38), (.ref w38)])) X1642 hx rfl rfl rfl (pc0 := 101) (pc' := 104) (same := true) rfl (hb hby at_101) rfl (decide_eq_true rfl) (by decide) (by decide) (XS.iconst X1642.here hx rfl (hb hby at_104) (XS.goto X1642.here hx rfl (pc0 := 105) (pc' := 109) rfl (hb hby at_105) (by decide) (by decide) (XS.istore X1642.here hx rfl (hb hby at_109) rfl (l' := #[iv i0, iv i1, iv i2, iv i3, iv i4, rv b51, rv w38, iv (0 : Int32), rv b1570, rv b1570, iv (1 : Int32)]) rfl (XS.iload X1642.here hx rfl (hb hby at_111) rfl (XS.ifNo X1642.here hx rfl (hb hby at_113) rfl ((if0 _ _).trans (feq (by decide : ¬ ((1 : Int32) = (0 : Int32)))).1) (XS.aload X1642.here hx rfl (hb hby at_116) rfl rfl (XS.ifnullNo X1642.here hx rfl (hb hby at_118) rfl (XS.aload X1642.here hx rfl (hb hby at_121) rfl rfl (XS.aload X1642.here hx rfl (hb hby at_123) rfl rfl k))))))))))) ?_
        show own_Goes p e below (T1642.setTop (mkF m 125 #[iv i0, iv i1, iv i2, iv i3, iv i4, rv b51, rv w38, iv (0 : Int32), rv b1570, rv b1570, iv (1 : Int32)] [(.ref b1570), (.ref b1570)])) _
        obtain ⟨_, T1643, _, X1643, hQ1643, Cr1643, hS, hZ, hown, st1643⟩ := own_cvH X1642 hx hZ hS hk1640 hown (wd hw 61 rfl) (wd hw 62 rfl) (wd hw 64 rfl) (wd hw 63 rfl) (wd hw 65 rfl) (wd hw 18 rfl) (by decide) hEE.ew C1639.1 (rm23 l Z a0 hw [] b1570 h1558 n0 O1637 ) e1642 ex1575 (g := (mkF m 125 #[iv i0, iv i1, iv i2, iv i3, iv i4, rv b51, rv w38, iv (0 : Int32), rv b1570, rv b1570, iv (1 : Int32)] [(.ref b1570), (.ref b1570)])) rfl (by rw [hml]; rfl) (rest := []) (W := 0) (lenOf pd_9 rfl) rfl (by show 2 * 0 + _ ≤ _; exact Nat.le_of_eq rfl) (hb hby at_125) (by decide) (by decide) (by decide) (by decide)
        obtain ⟨rfl, Nq1643, hh1644⟩ := hQ1643
        have N1643 := Fr.app N1636 Nq1643
        rw [hh1644] at Cr1643
        have C1645 := C1639.trans Cr1643
        have hk1646 : T1643.heap.size ≤ h1558.size := Nat.le_of_eq (congrArg Array.size hh1644)
        refine own_via (fun t k => st1643 t k) ?_
        obtain ⟨fs, hr, hrun, hended, hRW⟩ := X1643.leaveW hS (by rw [hh1644]; first | exact hk1646 | exact Nat.le_refl _) (v := some (.int (1 : Int32))) (fun h => by rw [Bd.returns] at h; cases h)
        refine own_end (t := T1643.setFrames fs) ?_ ⟨_, hrun, hended, _, _, rfl, ?_, own_rmono hRW (by decide) (by decide)⟩
        · exact retN X1643 hx (t := .boolean) Bd.returns (by simp) (hb hby at_128) hr
        · exact ⟨rfl, N1643⟩
      · have N1558 := Fr.app N76 Nq1558
        have C1647 := C76.trans Cr1558
        have N1648 : b51 ≠ b1576 := Nat.ne_of_lt (Nat.lt_of_lt_of_le V77.lt bx1580)
        have g1649 : n0 ≤ b1576 := Nat.le_trans (own_old O1559) bx1580
        have Z1651 : h0.size ≤ h76.size := (Nat.le_trans (Nat.le_trans (Nat.le_trans (Nat.le_trans (Nat.le_trans (Nat.le_refl _) E50.1) (Nat.le_of_eq W58.size.symm)) (Nat.le_of_eq W64.size.symm)) (Nat.le_of_eq W70.size.symm)) (Nat.le_of_eq W76.size.symm))
        have B1650 : h0.size ≤ b1576 := Nat.le_trans Z1651 bx1580
        have hk1652 : T1558.heap.size ≤ h1558.size := Nat.le_of_eq (congrArg Array.size e1558)
        refine own_via (fun t k => st1558 t (XS.astore X1558.here hx rfl (hb hby at_70) rfl rfl (l' := #[iv i0, iv i1, iv i2, iv i3, iv i4, rv b51, rv w38, iv (0 : Int32), rv b1576, .unset, .unset]) rfl (XS.aload X1558.here hx rfl (hb hby at_72) rfl rfl (XS.aload X1558.here hx rfl (hb hby at_74) rfl rfl k)))) ?_
        show own_Goes p e below (T1558.setTop (mkF m 76 #[iv i0, iv i1, iv i2, iv i3, iv i4, rv b51, rv w38, iv (0 : Int32), rv b1576, .unset, .unset] [(.ref b1576), (.ref w38)])) _
        have O1654 : Old Z n0 h1558 := (O1559.keep K1558 all0)
        obtain ⟨_, T1653, _, X1653, hQ1653, Cr1653, hS, hZ, hown, st1653⟩ := own_cvH X1558 hx hZ hS hk1652 hown (wd hw 46 rfl) (wd hw 47 rfl) (wd hw 49 rfl) (wd hw 48 rfl) (wd hw 50 rfl) (wd hw 3 rfl) (by decide) hEE.ew C1647.1 (rm27 l Z a0 hw [] w38 b1576 h1558 n0 O1654 SF_w38_purchase) e1558 (SE_w38.ext O1654.2) (g := (mkF m 76 #[iv i0, iv i1, iv i2, iv i3, iv i4, rv b51, rv w38, iv (0 : Int32), rv b1576, .unset, .unset] [(.ref b1576), (.ref w38)])) rfl (by rw [hml]; rfl) (rest := []) (W := 0) (lenOf pd_7 rfl) rfl (by show 2 * 0 + _ ≤ _; exact Nat.le_of_eq rfl) (hb hby at_76) (by decide) (by decide) (by decide) (by decide)
        obtain ⟨rfl, Nq1653, hh1655⟩ := hQ1653
        have N1653 := Fr.app N1558 Nq1653
        rw [hh1655] at Cr1653
        have C1656 := C1647.trans Cr1653
        have hk1657 : T1653.heap.size ≤ h1558.size := Nat.le_of_eq (congrArg Array.size hh1655)
        refine own_via (fun t k => st1653 t (XS.astore X1653.here hx rfl (hb hby at_79) rfl rfl (l' := #[iv i0, iv i1, iv i2, iv i3, iv i4, rv b51, rv w38, iv (0 : Int32), rv b1576, rv b1576, .unset]) rfl (XS.aload X1653.here hx rfl (hb hby at_81) rfl rfl (XS.ifnonnullYes X1653.here hx rfl (pc0 := 83) (pc' := 88) rfl (hb hby at_83) rfl (by decide) (by decide) (XS.aload X1653.here hx rfl (hb hby at_88) rfl rfl k))))) ?_
        show own_Goes p e below (T1653.setTop (mkF m 90 #[iv i0, iv i1, iv i2, iv i3, iv i4, rv b51, rv w38, iv (0 : Int32), rv b1576, rv b1576, .unset] [(.ref w38)])) _
        obtain ⟨T1658, X1658, e1658, st1658⟩ := getS2 X1653 hx hZ hown (host := "") (Or.inl (wd hw 6 rfl)) Via.refl hh1655 (S_DocumentType_PURCHASE_INVOICE.ext O1654.2) (g := (mkF m 90 #[iv i0, iv i1, iv i2, iv i3, iv i4, rv b51, rv w38, iv (0 : Int32), rv b1576, rv b1576, .unset] [(.ref w38)])) rfl (hb hby at_90)
        refine own_via (fun t k => st1658 t (Jvm.RoadKit.acmp (g := (mkF m 93 #[iv i0, iv i1, iv i2, iv i3, iv i4, rv b51, rv w38, iv (0 : Int32), rv b1576, rv b1576, .unset] [(.ref w34), (.ref w38)])) X1658 hx rfl rfl rfl (pc0 := 93) (pc' := 96) (same := false) rfl (hb hby at_93) rfl (decide_eq_false fun q => (Fld.ne SF_w38_ordinal SF_w34_ordinal (by decide)) (Value.ref.inj q)) (by decide) (by decide) (XS.aload X1658.here hx rfl (hb hby at_96) rfl rfl k))) ?_
        show own_Goes p e below (T1658.setTop (mkF m 98 #[iv i0, iv i1, iv i2, iv i3, iv i4, rv b51, rv w38, iv (0 : Int32), rv b1576, rv b1576, .unset] [(.ref w38)])) _
        obtain ⟨T1659, X1659, e1659, st1659⟩ := getS2 X1658 hx hZ hown (host := "") (Or.inl (wd hw 10 rfl)) Via.refl e1658 (S_DocumentType_PURCHASE_CREDIT_NOTE.ext O1654.2) (g := (mkF m 98 #[iv i0, iv i1, iv i2, iv i3, iv i4, rv b51, rv w38, iv (0 : Int32), rv b1576, rv b1576, .unset] [(.ref w38)])) rfl (hb hby at_98)
        refine own_via (fun t k => st1659 t (Jvm.RoadKit.acmp (g := (mkF m 101 #[iv i0, iv i1, iv i2, iv i3, iv i4, rv b51, rv w38, iv (0 : Int32), rv b1576, rv b1576, .unset] [(.ref w38), (.ref w38)])) X1659 hx rfl rfl rfl (pc0 := 101) (pc' := 104) (same := true) rfl (hb hby at_101) rfl (decide_eq_true rfl) (by decide) (by decide) (XS.iconst X1659.here hx rfl (hb hby at_104) (XS.goto X1659.here hx rfl (pc0 := 105) (pc' := 109) rfl (hb hby at_105) (by decide) (by decide) (XS.istore X1659.here hx rfl (hb hby at_109) rfl (l' := #[iv i0, iv i1, iv i2, iv i3, iv i4, rv b51, rv w38, iv (0 : Int32), rv b1576, rv b1576, iv (1 : Int32)]) rfl (XS.iload X1659.here hx rfl (hb hby at_111) rfl (XS.ifNo X1659.here hx rfl (hb hby at_113) rfl ((if0 _ _).trans (feq (by decide : ¬ ((1 : Int32) = (0 : Int32)))).1) (XS.aload X1659.here hx rfl (hb hby at_116) rfl rfl (XS.ifnullNo X1659.here hx rfl (hb hby at_118) rfl (XS.aload X1659.here hx rfl (hb hby at_121) rfl rfl (XS.aload X1659.here hx rfl (hb hby at_123) rfl rfl k))))))))))) ?_
        show own_Goes p e below (T1659.setTop (mkF m 125 #[iv i0, iv i1, iv i2, iv i3, iv i4, rv b51, rv w38, iv (0 : Int32), rv b1576, rv b1576, iv (1 : Int32)] [(.ref b1576), (.ref b1576)])) _
        obtain ⟨_, T1660, _, X1660, hQ1660, Cr1660, hS, hZ, hown, st1660⟩ := own_cvH X1659 hx hZ hS hk1657 hown (wd hw 61 rfl) (wd hw 62 rfl) (wd hw 64 rfl) (wd hw 63 rfl) (wd hw 65 rfl) (wd hw 18 rfl) (by decide) hEE.ew C1656.1 (rm23 l Z a0 hw [] b1576 h1558 n0 O1654 ) e1659 ex1581 (g := (mkF m 125 #[iv i0, iv i1, iv i2, iv i3, iv i4, rv b51, rv w38, iv (0 : Int32), rv b1576, rv b1576, iv (1 : Int32)] [(.ref b1576), (.ref b1576)])) rfl (by rw [hml]; rfl) (rest := []) (W := 0) (lenOf pd_9 rfl) rfl (by show 2 * 0 + _ ≤ _; exact Nat.le_of_eq rfl) (hb hby at_125) (by decide) (by decide) (by decide) (by decide)
        obtain ⟨rfl, Nq1660, hh1661⟩ := hQ1660
        have N1660 := Fr.app N1653 Nq1660
        rw [hh1661] at Cr1660
        have C1662 := C1656.trans Cr1660
        have hk1663 : T1660.heap.size ≤ h1558.size := Nat.le_of_eq (congrArg Array.size hh1661)
        refine own_via (fun t k => st1660 t k) ?_
        obtain ⟨fs, hr, hrun, hended, hRW⟩ := X1660.leaveW hS (by rw [hh1661]; first | exact hk1663 | exact Nat.le_refl _) (v := some (.int (1 : Int32))) (fun h => by rw [Bd.returns] at h; cases h)
        refine own_end (t := T1660.setFrames fs) ?_ ⟨_, hrun, hended, _, _, rfl, ?_, own_rmono hRW (by decide) (by decide)⟩
        · exact retN X1660 hx (t := .boolean) Bd.returns (by simp) (hb hby at_128) hr
        · exact ⟨rfl, N1660⟩
    · refine own_via (fun t k => XS.ifNo X76.here hx rfl (hb hby at_41) rfl ((if0 _ _).trans (feq hc1557).1) (XS.iconst X76.here hx rfl (hb hby at_44) (XS.goto X76.here hx rfl (pc0 := 45) (pc' := 49) rfl (hb hby at_45) (by decide) (by decide) (XS.istore X76.here hx rfl (hb hby at_49) rfl (l' := #[iv i0, iv i1, iv i2, iv i3, iv i4, rv b51, rv w38, iv (1 : Int32), .unset, .unset, .unset]) rfl (XS.iload X76.here hx rfl (hb hby at_51) rfl (XS.ifNo X76.here hx rfl (hb hby at_53) rfl ((if0 _ _).trans (feq (by decide : ¬ ((1 : Int32) = (0 : Int32)))).1) (XS.aconstNull X76.here hx rfl (hb hby at_56) (XS.goto X76.here hx rfl (pc0 := 57) (pc' := 70) rfl (hb hby at_57) (by decide) (by decide) (XS.astore X76.here hx rfl (hb hby at_70) rfl rfl (l' := #[iv i0, iv i1, iv i2, iv i3, iv i4, rv b51, rv w38, iv (1 : Int32), .val .null, .unset, .unset]) rfl (XS.aload X76.here hx rfl (hb hby at_72) rfl rfl (XS.aload X76.here hx rfl (hb hby at_74) rfl rfl k))))))))))) ?_
      show own_Goes p e below (T76.setTop (mkF m 76 #[iv i0, iv i1, iv i2, iv i3, iv i4, rv b51, rv w38, iv (1 : Int32), .val .null, .unset, .unset] [.null, (.ref w38)])) _
      have O1679 : Old Z n0 h76 := (O74.wr W76 g52)
      have K1680 : k0 ≤ h76.size := (Nat.le_trans (Nat.le_trans (Nat.le_trans (Nat.le_trans (Nat.le_trans hk0 E50.1) (Nat.le_of_eq W58.size.symm)) (Nat.le_of_eq W64.size.symm)) (Nat.le_of_eq W70.size.symm)) (Nat.le_of_eq W76.size.symm))
      obtain ⟨_, T1664, _, X1664, hQ1664, Cr1664, hS, hZ, hown, st1664⟩ := own_cvH X76 hx hZ hS K1680 hown (wd hw 46 rfl) (wd hw 47 rfl) (wd hw 49 rfl) (wd hw 48 rfl) (wd hw 50 rfl) (wd hw 3 rfl) (by decide) hEE.ew C76.1 (rm28 l Z a0 hw [] w38 h76 n0 O1679 SF_w38_purchase) e76 (SE_w38.ext O1679.2) (g := (mkF m 76 #[iv i0, iv i1, iv i2, iv i3, iv i4, rv b51, rv w38, iv (1 : Int32), .val .null, .unset, .unset] [.null, (.ref w38)])) rfl (by rw [hml]; rfl) (rest := []) (W := 0) (lenOf pd_7 rfl) rfl (by show 2 * 0 + _ ≤ _; exact Nat.le_of_eq rfl) (hb hby at_76) (by decide) (by decide) (by decide) (by decide)
      obtain ⟨h1664, e1664⟩ : ∃ z, T1664.heap = z := ⟨_, rfl⟩
      rw [e1664] at hQ1664 Cr1664
      obtain ⟨b1681, b1682, k1683, rfl, Nq1664, K1664, ex1684, fx1685, vx1686⟩ := hQ1664
      have N1664 := Fr.app N76 Nq1664
      have C1687 := C76.trans Cr1664
      have hk1688 : T1664.heap.size ≤ h1664.size := Nat.le_of_eq (congrArg Array.size e1664)
      refine own_via (fun t k => st1664 t (XS.astore X1664.here hx rfl (hb hby at_79) rfl rfl (l' := #[iv i0, iv i1, iv i2, iv i3, iv i4, rv b51, rv w38, iv (1 : Int32), .val .null, rv b1681, .unset]) rfl (XS.aload X1664.here hx rfl (hb hby at_81) rfl rfl (XS.ifnonnullYes X1664.here hx rfl (pc0 := 83) (pc' := 88) rfl (hb hby at_83) rfl (by decide) (by decide) (XS.aload X1664.here hx rfl (hb hby at_88) rfl rfl k))))) ?_
      show own_Goes p e below (T1664.setTop (mkF m 90 #[iv i0, iv i1, iv i2, iv i3, iv i4, rv b51, rv w38, iv (1 : Int32), .val .null, rv b1681, .unset] [(.ref w38)])) _
      have O1690 : Old Z n0 h1664 := (O1679.keep K1664 all0)
      obtain ⟨T1689, X1689, e1689, st1689⟩ := getS2 X1664 hx hZ hown (host := "") (Or.inl (wd hw 6 rfl)) Via.refl e1664 (S_DocumentType_PURCHASE_INVOICE.ext O1690.2) (g := (mkF m 90 #[iv i0, iv i1, iv i2, iv i3, iv i4, rv b51, rv w38, iv (1 : Int32), .val .null, rv b1681, .unset] [(.ref w38)])) rfl (hb hby at_90)
      refine own_via (fun t k => st1689 t (Jvm.RoadKit.acmp (g := (mkF m 93 #[iv i0, iv i1, iv i2, iv i3, iv i4, rv b51, rv w38, iv (1 : Int32), .val .null, rv b1681, .unset] [(.ref w34), (.ref w38)])) X1689 hx rfl rfl rfl (pc0 := 93) (pc' := 96) (same := false) rfl (hb hby at_93) rfl (decide_eq_false fun q => (Fld.ne SF_w38_ordinal SF_w34_ordinal (by decide)) (Value.ref.inj q)) (by decide) (by decide) (XS.aload X1689.here hx rfl (hb hby at_96) rfl rfl k))) ?_
      show own_Goes p e below (T1689.setTop (mkF m 98 #[iv i0, iv i1, iv i2, iv i3, iv i4, rv b51, rv w38, iv (1 : Int32), .val .null, rv b1681, .unset] [(.ref w38)])) _
      obtain ⟨T1691, X1691, e1691, st1691⟩ := getS2 X1689 hx hZ hown (host := "") (Or.inl (wd hw 10 rfl)) Via.refl e1689 (S_DocumentType_PURCHASE_CREDIT_NOTE.ext O1690.2) (g := (mkF m 98 #[iv i0, iv i1, iv i2, iv i3, iv i4, rv b51, rv w38, iv (1 : Int32), .val .null, rv b1681, .unset] [(.ref w38)])) rfl (hb hby at_98)
      refine own_via (fun t k => st1691 t (Jvm.RoadKit.acmp (g := (mkF m 101 #[iv i0, iv i1, iv i2, iv i3, iv i4, rv b51, rv w38, iv (1 : Int32), .val .null, rv b1681, .unset] [(.ref w38), (.ref w38)])) X1691 hx rfl rfl rfl (pc0 := 101) (pc' := 104) (same := true) rfl (hb hby at_101) rfl (decide_eq_true rfl) (by decide) (by decide) (XS.iconst X1691.here hx rfl (hb hby at_104) (XS.goto X1691.here hx rfl (pc0 := 105) (pc' := 109) rfl (hb hby at_105) (by decide) (by decide) (XS.istore X1691.here hx rfl (hb hby at_109) rfl (l' := #[iv i0, iv i1, iv i2, iv i3, iv i4, rv b51, rv w38, iv (1 : Int32), .val .null, rv b1681, iv (1 : Int32)]) rfl (XS.iload X1691.here hx rfl (hb hby at_111) rfl (XS.ifNo X1691.here hx rfl (hb hby at_113) rfl ((if0 _ _).trans (feq (by decide : ¬ ((1 : Int32) = (0 : Int32)))).1) (XS.aload X1691.here hx rfl (hb hby at_116) rfl rfl (XS.ifnullYes X1691.here hx rfl (pc0 := 118) (pc' := 129) rfl (hb hby at_118) rfl (by decide) (by decide) (XS.aload X1691.here hx rfl (hb hby at_129) rfl rfl k)))))))))) ?_
      show own_Goes p e below (T1691.setTop (mkF m 131 #[iv i0, iv i1, iv i2, iv i3, iv i4, rv b51, rv w38, iv (1 : Int32), .val .null, rv b1681, iv (1 : Int32)] [(.ref b1681)])) _
      have l1693 : own_Len Z h1664 b1682 .byte (0 : Int32) := ⟨_, _, _, vx1686⟩
      obtain ⟨_, T1692, _, X1692, hQ1692, Cr1692, hS, hZ, hown, st1692⟩ := own_cvH X1691 hx hZ hS hk1688 hown (wd hw 56 rfl) (wd hw 57 rfl) (wd hw 59 rfl) (wd hw 58 rfl) (wd hw 60 rfl) (wd hw 18 rfl) (by decide) hEE.ew C1687.1 (rm20 l Z a0 hw [] b1681 b1682 h1664 n0 O1690 fx1685 l1693) e1691 ex1684 (g := (mkF m 131 #[iv i0, iv i1, iv i2, iv i3, iv i4, rv b51, rv w38, iv (1 : Int32), .val .null, rv b1681, iv (1 : Int32)] [(.ref b1681)])) rfl (by rw [hml]; rfl) (rest := []) (W := 0) (lenOf pd_8 rfl) rfl (by show 2 * 0 + _ ≤ _; exact Nat.le_of_eq rfl) (hb hby at_131) (by decide) (by decide) (by decide) (by decide)
      obtain ⟨rfl, Nq1692, hh1694⟩ := hQ1692
      have N1692 := Fr.app N1664 Nq1692
      rw [hh1694] at Cr1692
      have C1695 := C1687.trans Cr1692
      have hk1696 : T1692.heap.size ≤ h1664.size := Nat.le_of_eq (congrArg Array.size hh1694)
      refine own_via (fun t k => st1692 t k) ?_
      obtain ⟨fs, hr, hrun, hended, hRW⟩ := X1692.leaveW hS (by rw [hh1694]; first | exact hk1696 | exact Nat.le_refl _) (v := some (.int (1 : Int32))) (fun h => by rw [Bd.returns] at h; cases h)
      refine own_end (t := T1692.setFrames fs) ?_ ⟨_, hrun, hended, _, _, rfl, ?_, own_rmono hRW (by decide) (by decide)⟩
      · exact retN X1692 hx (t := .boolean) Bd.returns (by simp) (hb hby at_134) hr
      · exact ⟨rfl, N1692⟩
set_option maxRecDepth 65536 in
set_option maxHeartbeats 40000000 in
theorem comes_1 {Post : Tables → Env → Array Value → State → Outcome → State → Prop} (hpost : ∀ tb e args s v u, (limb_1_1.after args s (.returned v) u = true ∧ limb_1_2.after args s (.returned v) u = true ∧ True) → ReturnedEndW s (.returned v) u (Jvm.fieldLocs frame_1_writes args s ++ Jvm.arrayLocs frame_1_arrays args s ++ Jvm.staticLocs frame_1_statics s) 24 2176 → Post tb e args s (.returned v) u) :
    ArmFor flags0 classFile x code maxLocals ret World_1 tables_1 room_1 Calls_1 rest_1 Pre_1 Post := by
  intro l hfl _ _ p e ha hc hk s m args below hf hA hF happ hP
  obtain ⟨hcalls, hrest, hpre⟩ := hP
  have hcalls0 : ∀ q ∈ consts_1, Jvm.Lit.constHeld s q.1 q.2 := hcalls.1
  obtain ⟨-, -, -, hnamed, -, -, -, hat⟩ := (Spec.applies_iff hf).mp happ
  obtain ⟨hg, hn⟩ := and_e (Cond.before_iff.mp (show (Jvm.Cond.and given_1 narrow_1).before args s = true from hpre))
  obtain ⟨g1697, g1698⟩ := and_e hg
  obtain ⟨g1699, g1700⟩ := and_e g1698
  obtain ⟨g1701, g1702⟩ := and_e g1700
  obtain ⟨g1703, g1704⟩ := and_e g1702
  obtain ⟨g1705, g1706⟩ := and_e g1704
  obtain ⟨w0, w1, w2, w3, w4, rfl⟩ : ∃ w0 w1 w2 w3 w4 : Value, args = #[w0, w1, w2, w3, w4] := by
    have hs : args.size = 5 := by simpa [Cond.value, given_1] using g1697
    obtain ⟨L⟩ := args
    match L, hs with
    | [w0, w1, w2, w3, w4], _ => exact ⟨w0, w1, w2, w3, w4, rfl⟩
  have hw := fun d (hd : d ∈ tables_1) => atoms_spec (ws := Jvm.Cond.code x code maxLocals ret :: tables_1) hat d (List.mem_cons_of_mem _ hd)
  have hfit : Fit s := fun {y c} hc i hi => by
    obtain ⟨ha, rfl⟩ := Array.getElem?_eq_some_iff.mp hc
    have q := List.all_eq_true.mp ((Array.all_eq_true_iff_forall_mem.mp hF) _ (Array.getElem_mem ha)) i (List.mem_range.mpr hi)
    simpa [Array.getElem?_eq_getElem hi] using q
  obtain ⟨hsets, hown0⟩ := atoms_of _ (rest_1_c_eq ▸ (show rest_1_c.before _ s = true from hrest))
  obtain ⟨n1, n2⟩ := and_e hn
  obtain ⟨n3, n4⟩ := and_e n2
  obtain ⟨n5, n6⟩ := and_e n4
  obtain ⟨n7, n8⟩ := and_e n6
  obtain ⟨n9, n10⟩ := and_e n8
  obtain ⟨n11, n12⟩ := and_e n10
  obtain ⟨n13, n14⟩ := and_e n12
  obtain ⟨n15, n16⟩ := and_e n14
  obtain ⟨n17, n18⟩ := and_e n16
  obtain ⟨n19, n20⟩ := and_e n18
  obtain ⟨n21, n22⟩ := and_e n20
  have u23 := Cond.before_iff.mp (hsets _ (List.mem_of_getElem? (i := 0) rfl))
  have u24 := Cond.before_iff.mp (hsets _ (List.mem_of_getElem? (i := 1) rfl))
  have u25 := Cond.before_iff.mp (hsets _ (List.mem_of_getElem? (i := 2) rfl))
  have u26 := Cond.before_iff.mp (hsets _ (List.mem_of_getElem? (i := 3) rfl))
  have u27 := Cond.before_iff.mp (hsets _ (List.mem_of_getElem? (i := 4) rfl))
  have u28 := Cond.before_iff.mp (hsets _ (List.mem_of_getElem? (i := 5) rfl))
  have u29 := Cond.before_iff.mp (hsets _ (List.mem_of_getElem? (i := 6) rfl))
  have u30 := Cond.before_iff.mp (hsets _ (List.mem_of_getElem? (i := 7) rfl))
  have u31 := Cond.before_iff.mp (hsets _ (List.mem_of_getElem? (i := 8) rfl))
  obtain ⟨w32, ev33⟩ := exa_v n1
  have S_DocumentType_SALES_INVOICE : Sta s s.heap zs1 "SALES_INVOICE" zs6 (.ref w32) := Sta.start ev33 (Or.inr ⟨(wd hw 3 rfl), (wd hw 4 rfl)⟩)
  have SE_w32 : Exa s s.heap w32 zs1 := Exa.start ev33 n1
  obtain ⟨w34, ev35⟩ := exa_v n3
  have S_DocumentType_PURCHASE_INVOICE : Sta s s.heap zs1 "PURCHASE_INVOICE" zs6 (.ref w34) := Sta.start ev35 (Or.inr ⟨(wd hw 3 rfl), (wd hw 7 rfl)⟩)
  have SE_w34 : Exa s s.heap w34 zs1 := Exa.start ev35 n3
  obtain ⟨w36, ev37⟩ := exa_v n5
  have S_DocumentType_SALES_CREDIT_NOTE : Sta s s.heap zs1 "SALES_CREDIT_NOTE" zs6 (.ref w36) := Sta.start ev37 (Or.inr ⟨(wd hw 3 rfl), (wd hw 9 rfl)⟩)
  have SE_w36 : Exa s s.heap w36 zs1 := Exa.start ev37 n5
  obtain ⟨w38, ev39⟩ := exa_v n7
  have S_DocumentType_PURCHASE_CREDIT_NOTE : Sta s s.heap zs1 "PURCHASE_CREDIT_NOTE" zs6 (.ref w38) := Sta.start ev39 (Or.inr ⟨(wd hw 3 rfl), (wd hw 11 rfl)⟩)
  have SE_w38 : Exa s s.heap w38 zs1 := Exa.start ev39 n7
  have ev40 := Cond.eq_int (show (Jvm.Cond.eq _ _).holds _ _ _ _ _ = true from Cond.before_iff.mpr n9) rfl
  have SF_w32_purchase : Fld s s.heap w32 zs1 "purchase" "Z" (.int (0 : Int32)) := Fld.start ((fld_at ev33).symm.trans ev40)
  have ev41 := Cond.eq_int (show (Jvm.Cond.eq _ _).holds _ _ _ _ _ = true from Cond.before_iff.mpr n11) rfl
  have SF_w32_ordinal : Fld s s.heap w32 zs11 "ordinal" "I" (.int (0 : Int32)) := Fld.start ((fld_at ev33).symm.trans ev41)
  have ev42 := Cond.eq_int (show (Jvm.Cond.eq _ _).holds _ _ _ _ _ = true from Cond.before_iff.mpr n13) rfl
  have SF_w34_ordinal : Fld s s.heap w34 zs11 "ordinal" "I" (.int (1 : Int32)) := Fld.start ((fld_at ev35).symm.trans ev42)
  have ev43 := Cond.eq_int (show (Jvm.Cond.eq _ _).holds _ _ _ _ _ = true from Cond.before_iff.mpr n15) rfl
  have SF_w38_ordinal : Fld s s.heap w38 zs11 "ordinal" "I" (.int (3 : Int32)) := Fld.start ((fld_at ev39).symm.trans ev43)
  have ev44 := Cond.eq_int (show (Jvm.Cond.eq _ _).holds _ _ _ _ _ = true from Cond.before_iff.mpr n17) rfl
  have SF_w38_purchase : Fld s s.heap w38 zs1 "purchase" "Z" (.int (1 : Int32)) := Fld.start ((fld_at ev39).symm.trans ev44)
  have ev45 := Cond.eq_int (show (Jvm.Cond.eq _ _).holds _ _ _ _ _ = true from Cond.before_iff.mpr n19) rfl
  have SF_w36_purchase : Fld s s.heap w36 zs1 "purchase" "Z" (.int (0 : Int32)) := Fld.start ((fld_at ev37).symm.trans ev45)
  have ev46 := Cond.eq_int (show (Jvm.Cond.eq _ _).holds _ _ _ _ _ = true from Cond.before_iff.mpr n21) rfl
  have SF_w36_ordinal : Fld s s.heap w36 zs11 "ordinal" "I" (.int (2 : Int32)) := Fld.start ((fld_at ev37).symm.trans ev46)
  have ev47 := Cond.eq_int (show (Jvm.Cond.eq _ _).holds _ _ _ _ _ = true from Cond.before_iff.mpr n22) rfl
  have SF_w34_purchase : Fld s s.heap w34 zs1 "purchase" "Z" (.int (1 : Int32)) := Fld.start ((fld_at ev35).symm.trans ev47)
  obtain ⟨i48, ev49⟩ := is_v u24
  have S_String_COMPACT_STRINGS : Sta s s.heap zs2 zs9 "Z" (.int i48) := Sta.start ev49 (Or.inl (hsets _ (List.mem_of_getElem? (i := 0) rfl)))
  have SNZ_i48 : ¬ (i48 = (0 : Int32)) := own_ne_int u25 ev49
  obtain ⟨i0, ei0⟩ := is_v g1699
  obtain rfl : w0 = (.int i0) := Option.some.inj ei0
  obtain ⟨i1, ei1⟩ := is_v g1701
  obtain rfl : w1 = (.int i1) := Option.some.inj ei1
  obtain ⟨i2, ei2⟩ := is_v g1703
  obtain rfl : w2 = (.int i2) := Option.some.inj ei2
  obtain ⟨i3, ei3⟩ := is_v g1705
  obtain rfl : w3 = (.int i3) := Option.some.inj ei3
  obtain ⟨i4, ei4⟩ := is_v g1706
  obtain rfl : w4 = (.int i4) := Option.some.inj ei4
  obtain ⟨n, o, h1, h2, h3, _, L, rfl, ⟨rfl, N⟩, hq⟩ := rm0 l s _ hw tables_1 i0 i1 i2 i3 i4 w32 w34 w36 w38 i48 s.heap s.heap.size (Old.start s) S_DocumentType_SALES_INVOICE SE_w32 S_DocumentType_PURCHASE_INVOICE SE_w34 S_DocumentType_SALES_CREDIT_NOTE SE_w36 S_DocumentType_PURCHASE_CREDIT_NOTE SE_w38 S_String_COMPACT_STRINGS SNZ_i48 SF_w32_purchase SF_w34_purchase SF_w38_purchase SF_w36_purchase SF_w38_ordinal SF_w34_ordinal p e ha hc hk s m _ below hf ((Spec.applies_iff_loose hf).mp happ).1 ⟨rfl, State.Warmed39.refl s, rfl, CHv.start (own_ee hw).ew hcalls0 (hsets _ (List.mem_of_getElem? (i := 2) rfl)) (wd hw 35 rfl) (wd hw 17 rfl)⟩ trivial
  refine ⟨n, _, h1, h2, h3, hpost _ _ _ _ _ _ ⟨Cond.after_iff.mpr rfl, Cond.after_iff.mpr (eq_i res_at (Term.int_eval (1)) rfl), trivial⟩ ⟨hq.1, hq.2.1, hq.2.2.1, (hq.2.2.2.sift fun y hy => Or.inr (N y hy)).mono (by decide) (by decide)⟩⟩
theorem main_1_1 : Claimed_1_1 := comes_1 fun _ _ _ _ _ _ h hF => ⟨h.1, hF⟩
theorem main_1_2 : Claimed_1_2 := comes_1 fun _ _ _ _ _ _ h hF => ⟨h.2.1, hF⟩
end Jvm.Pilot.@@N@@
namespace Jvm.Pilot.@@N@@
open Jvm Jvm.ClassFile Sem Op Lib Jvm.Free Jvm.Stand Jvm.Pilot.@@N@@.Jvm.D
/-! MADE BY PROGRAM (witnessworld.py) out of the Statement's table words and the real class files: 23 classes; the members and pool entries that the words name. The judged class is class 1, her method 1. -/
namespace start1
open Jvm.ClassFile
def u (s : String) : CpInfo := .utf8 (stringToUtf16 s)
/-- a pool by its gaps: so many unusable entries, then the entry; so many at the end -/
def gap : Nat → List CpInfo → List CpInfo
  | 0, r => r
  | n + 1, r => .unusable :: gap n r
def poolList (es : List (Nat × CpInfo)) (last : Nat) : List CpInfo := es.foldr (fun e r => gap e.1 (e.2 :: r)) (gap last [])
def pool (es : List (Nat × CpInfo)) (last : Nat) : Array CpInfo := ⟨poolList es last⟩
def fileOf (pool : Array CpInfo) (this : Nat) (attrs : Array Attribute := #[]) (ms : Array MethodInfo := #[]) (fl : Nat := 33) (sup : Nat := 0) (ifs : Array Nat := #[]) (fds : Array FieldInfo := #[]) : ClassFile where
  minorVersion := 0
  majorVersion := 65
  constantPool := pool
  accessFlags := fl
  thisClass := this
  superClass := sup
  interfaces := ifs
  fields := fds
  methods := ms
  attributes := attrs
def plain (name : String) (sup : Option ClassId) : Class where
  name := name
  kind := .ordinary
  loader := none
  accessFlags := 33
  super := sup
  interfaces := #[]
  cf := none
  fields := #[]
  methods := #[]
  instanceTypes := #[]
  staticTypes := #[]
  resolved := #[]
  callSites := []
  init := .initialized
  statics := none
  mirror := none

def pool0 : Array CpInfo := pool [(5, u "<init>"), (0, u "()V"), (1, .class_ 10), (1, u "java/lang/Object")] 113

def k0c0 : Code := { maxStack := 0, maxLocals := 1, code := object_method_1_code, exceptionTable := #[], attributes := #[] }
def k0m0 : Method := { name := "<init>", desc := "()V", sig := { parameters := [], returnType := none }, accessFlags := 1, code := some k0c0 }
/-- java/lang/Object -/
def k0 : Class := { plain "java/lang/Object" none with
  accessFlags := 33
  interfaces := #[]
  cf := some (fileOf pool0 8 #[] #[{ accessFlags := 1, nameIndex := 5, descriptorIndex := 6, attributes := #[] }] 33 0 #[] #[])
  fields := #[]
  methods := #[k0m0]
  instanceTypes := #[]
  staticTypes := #[]
  resolved := Array.replicate 124 none
  statics := none }

def pool1 : Array CpInfo := pool [(2, .class_ 4), (1, u "java/lang/Object"), (0, u "<init>"), (0, u "()V"), (0, .class_ 8), (0, u "com/example/ledgerd/ledgerd/core/DocumentType"), (0, .fieldref 7 10), (0, .nameAndType 11 12), (0, u "SALES_INVOICE"), (0, u "Lcom/example/ledgerd/ledgerd/core/DocumentType;"), (0, .fieldref 7 14), (0, .nameAndType 15 12), (0, u "PURCHASE_INVOICE"), (0, .fieldref 7 17), (0, .nameAndType 18 12), (0, u "SALES_CREDIT_NOTE"), (0, .fieldref 7 20), (0, .nameAndType 21 12), (0, u "PURCHASE_CREDIT_NOTE"), (0, .methodref 23 24), (0, .class_ 25), (0, .nameAndType 26 27), (0, u "com/example/ledgerd/ledgerd/core/DocumentTypeNumberSeriesPinLaw"), (0, u "drawn"), (0, u "(IIII)Ljava/lang/String;"), (0, .methodref 7 29), (0, .nameAndType 30 31), (0, u "numberSeries"), (0, u "(Ljava/lang/String;)Ljava/lang/String;"), (0, .methodref 33 34), (0, .class_ 35), (0, .nameAndType 36 37), (0, u "java/lang/String"), (0, u "equals"), (0, u "(Ljava/lang/Object;)Z"), (0, .methodref 33 39), (0, .nameAndType 40 41), (0, u "isEmpty"), (0, u "()Z"), (0, .methodref 33 43), (0, .nameAndType 5 44), (0, u "([C)V"), (2, u "law"), (0, u "(IIIII)Z")] 5

def k1m0 : Method := { name := "<init>", desc := "()V", sig := { parameters := [], returnType := none }, accessFlags := 1, code := none }
def k1c1 : Code := { maxStack := 4, maxLocals := 11, code := code, exceptionTable := #[], attributes := #[] }
def k1m1 : Method := { name := "law", desc := "(IIIII)Z", sig := { parameters := [.int, .int, .int, .int, .int], returnType := some .boolean }, accessFlags := 9, code := some k1c1 }
def k1c2 : Code := { maxStack := 6, maxLocals := 7, code := method_3_code, exceptionTable := #[], attributes := #[] }
def k1m2 : Method := { name := "drawn", desc := "(IIII)Ljava/lang/String;", sig := { parameters := [.int, .int, .int, .int], returnType := some (.object "java/lang/String") }, accessFlags := 10, code := some k1c2 }
/-- com/example/ledgerd/ledgerd/core/DocumentTypeNumberSeriesPinLaw -/
def k1 : Class := { plain "com/example/ledgerd/ledgerd/core/DocumentTypeNumberSeriesPinLaw" (some 0) with
  accessFlags := 49
  interfaces := #[]
  cf := some (fileOf pool1 23 #[] #[{ accessFlags := 1, nameIndex := 5, descriptorIndex := 6, attributes := #[] }, { accessFlags := 9, nameIndex := 47, descriptorIndex := 48, attributes := #[] }, { accessFlags := 10, nameIndex := 26, descriptorIndex := 27, attributes := #[] }] 49 2 #[] #[])
  fields := #[]
  methods := #[k1m0, k1m1, k1m2]
  instanceTypes := #[]
  staticTypes := #[]
  resolved := Array.replicate 54 none
  statics := none }

def pool2 : Array CpInfo := pool [(1, .class_ 2), (0, u "java/lang/constant/Constable"), (0, .class_ 4), (0, u "java/lang/Object")] 6

/-- java/lang/constant/Constable -/
def k2 : Class := { plain "java/lang/constant/Constable" (some 0) with
  accessFlags := 1537
  interfaces := #[]
  cf := some (fileOf pool2 1 #[] #[] 1537 3 #[] #[])
  fields := #[]
  methods := #[]
  instanceTypes := #[]
  staticTypes := #[]
  resolved := Array.replicate 11 none
  statics := none }

def pool3 : Array CpInfo := pool [(1, .class_ 2), (0, u "java/lang/Comparable"), (0, .class_ 4), (0, u "java/lang/Object")] 7

/-- java/lang/Comparable -/
def k3 : Class := { plain "java/lang/Comparable" (some 0) with
  accessFlags := 1537
  interfaces := #[]
  cf := some (fileOf pool3 1 #[] #[] 1537 3 #[] #[])
  fields := #[]
  methods := #[]
  instanceTypes := #[]
  staticTypes := #[]
  resolved := Array.replicate 12 none
  statics := none }

def pool4 : Array CpInfo := pool [(1, .class_ 2), (0, u "java/io/Serializable"), (0, .class_ 4), (0, u "java/lang/Object")] 2

/-- java/io/Serializable -/
def k4 : Class := { plain "java/io/Serializable" (some 0) with
  accessFlags := 1537
  interfaces := #[]
  cf := some (fileOf pool4 1 #[] #[] 1537 3 #[] #[])
  fields := #[]
  methods := #[]
  instanceTypes := #[]
  staticTypes := #[]
  resolved := Array.replicate 7 none
  statics := none }

def pool5 : Array CpInfo := pool [(2, .class_ 4), (1, u "java/lang/Enum"), (0, u "name"), (0, u "Ljava/lang/String;"), (2, u "ordinal"), (0, u "I"), (1, .class_ 14), (1, u "java/lang/Object"), (4, u "hash"), (86, .class_ 108), (1, u "java/lang/Enum$EnumDesc"), (2, .class_ 112), (0, u "java/lang/constant/Constable"), (0, .class_ 114), (0, u "java/lang/Comparable"), (0, .class_ 116), (0, u "java/io/Serializable")] 87

/-- java/lang/Enum -/
def k5 : Class := { plain "java/lang/Enum" (some 0) with
  accessFlags := 1057
  interfaces := #[2, 3, 4]
  cf := some (fileOf pool5 2 #[.nestMembers #[106]] #[] 1057 12 #[111, 113, 115] #[{ accessFlags := 18, nameIndex := 5, descriptorIndex := 6, attributes := #[] }, { accessFlags := 18, nameIndex := 9, descriptorIndex := 10, attributes := #[] }, { accessFlags := 2, nameIndex := 19, descriptorIndex := 10, attributes := #[] }])
  fields := #[{ name := "name", type := (.object "java/lang/String"), accessFlags := 18, slot := 0, constantValue := 0 }, { name := "ordinal", type := .int, accessFlags := 18, slot := 1, constantValue := 0 }, { name := "hash", type := .int, accessFlags := 2, slot := 2, constantValue := 0 }]
  methods := #[]
  instanceTypes := #[(.object "java/lang/String"), .int, .int]
  staticTypes := #[]
  resolved := Array.replicate 204 none
  statics := none }

def pool6 : Array CpInfo := pool [(2, .class_ 4), (1, u "com/example/ledgerd/ledgerd/core/Labelled"), (43, .class_ 49), (0, u "java/lang/Object")] 9

/-- com/example/ledgerd/ledgerd/core/Labelled -/
def k6 : Class := { plain "com/example/ledgerd/ledgerd/core/Labelled" (some 0) with
  accessFlags := 1537
  interfaces := #[]
  cf := some (fileOf pool6 2 #[] #[] 1537 48 #[] #[])
  fields := #[]
  methods := #[]
  instanceTypes := #[]
  staticTypes := #[]
  resolved := Array.replicate 59 none
  statics := none }

def pool7 : Array CpInfo := pool [(1, .class_ 2), (0, u "com/example/ledgerd/ledgerd/core/DocumentType"), (2, u "SALES_INVOICE"), (0, u "Lcom/example/ledgerd/ledgerd/core/DocumentType;"), (2, u "PURCHASE_INVOICE"), (2, u "SALES_CREDIT_NOTE"), (2, u "PURCHASE_CREDIT_NOTE"), (2, u "$VALUES"), (0, u "[Lcom/example/ledgerd/ledgerd/core/DocumentType;"), (6, .class_ 28), (1, u "java/lang/Enum"), (6, .fieldref 1 36), (0, .nameAndType 37 38), (0, u "purchase"), (0, u "Z"), (2, u "credits"), (6, .string 49), (0, u ""), (1, .class_ 53), (1, u "com/example/ledgerd/ledgerd/core/Labelled"), (25, u "numberSeries"), (0, u "(Ljava/lang/String;)Ljava/lang/String;")] 9

def k7c0 : Code := { maxStack := 1, maxLocals := 2, code := prog_20_method_7_code, exceptionTable := #[], attributes := #[] }
def k7m0 : Method := { name := "numberSeries", desc := "(Ljava/lang/String;)Ljava/lang/String;", sig := { parameters := [(.object "java/lang/String")], returnType := some (.object "java/lang/String") }, accessFlags := 1, code := some k7c0 }
/-- com/example/ledgerd/ledgerd/core/DocumentType -/
def k7 : Class := { plain "com/example/ledgerd/ledgerd/core/DocumentType" (some 5) with
  accessFlags := 16433
  interfaces := #[6]
  cf := some (fileOf pool7 1 #[] #[{ accessFlags := 1, nameIndex := 79, descriptorIndex := 80, attributes := #[] }] 16433 26 #[51] #[{ accessFlags := 16409, nameIndex := 5, descriptorIndex := 6, attributes := #[] }, { accessFlags := 16409, nameIndex := 9, descriptorIndex := 6, attributes := #[] }, { accessFlags := 16409, nameIndex := 12, descriptorIndex := 6, attributes := #[] }, { accessFlags := 16409, nameIndex := 15, descriptorIndex := 6, attributes := #[] }, { accessFlags := 18, nameIndex := 37, descriptorIndex := 38, attributes := #[] }, { accessFlags := 18, nameIndex := 41, descriptorIndex := 6, attributes := #[] }, { accessFlags := 4122, nameIndex := 18, descriptorIndex := 19, attributes := #[] }])
  fields := #[{ name := "SALES_INVOICE", type := (.object "com/example/ledgerd/ledgerd/core/DocumentType"), accessFlags := 16409, slot := 0, constantValue := 0 }, { name := "PURCHASE_INVOICE", type := (.object "com/example/ledgerd/ledgerd/core/DocumentType"), accessFlags := 16409, slot := 1, constantValue := 0 }, { name := "SALES_CREDIT_NOTE", type := (.object "com/example/ledgerd/ledgerd/core/DocumentType"), accessFlags := 16409, slot := 2, constantValue := 0 }, { name := "PURCHASE_CREDIT_NOTE", type := (.object "com/example/ledgerd/ledgerd/core/DocumentType"), accessFlags := 16409, slot := 3, constantValue := 0 }, { name := "purchase", type := .boolean, accessFlags := 18, slot := 3, constantValue := 0 }, { name := "credits", type := (.object "com/example/ledgerd/ledgerd/core/DocumentType"), accessFlags := 18, slot := 4, constantValue := 0 }, { name := "$VALUES", type := (.array (.object "com/example/ledgerd/ledgerd/core/DocumentType")), accessFlags := 4122, slot := 4, constantValue := 0 }]
  methods := #[k7m0]
  instanceTypes := #[(.object "java/lang/String"), .int, .int, .boolean, (.object "com/example/ledgerd/ledgerd/core/DocumentType")]
  staticTypes := #[(.object "com/example/ledgerd/ledgerd/core/DocumentType"), (.object "com/example/ledgerd/ledgerd/core/DocumentType"), (.object "com/example/ledgerd/ledgerd/core/DocumentType"), (.object "com/example/ledgerd/ledgerd/core/DocumentType"), (.array (.object "com/example/ledgerd/ledgerd/core/DocumentType"))]
  resolved := Array.replicate 90 none
  statics := some 0 }

def pool8 : Array CpInfo := pool [(2, .class_ 4), (1, u "java/lang/CharSequence"), (42, .class_ 48), (0, u "java/lang/CharSequence$1CodePointIterator"), (10, .class_ 60), (0, u "java/lang/CharSequence$1CharIterator"), (5, .class_ 67), (0, u "java/lang/Object")] 63

/-- java/lang/CharSequence -/
def k8 : Class := { plain "java/lang/CharSequence" (some 0) with
  accessFlags := 1537
  interfaces := #[]
  cf := some (fileOf pool8 2 #[.nestMembers #[47, 59]] #[] 1537 66 #[] #[])
  fields := #[]
  methods := #[]
  instanceTypes := #[]
  staticTypes := #[]
  resolved := Array.replicate 131 none
  statics := none }

def pool9 : Array CpInfo := pool [(1, .class_ 2), (0, u "java/lang/constant/ConstantDesc"), (0, .class_ 4), (0, u "java/lang/Object")] 32

/-- java/lang/constant/ConstantDesc -/
def k9 : Class := { plain "java/lang/constant/ConstantDesc" (some 0) with
  accessFlags := 1537
  interfaces := #[]
  cf := some (fileOf pool9 1 #[] #[] 1537 3 #[] #[])
  fields := #[]
  methods := #[]
  instanceTypes := #[]
  staticTypes := #[]
  resolved := Array.replicate 37 none
  statics := none }

def pool10 : Array CpInfo := pool [(1, .methodref 2 3), (0, .class_ 4), (0, .nameAndType 5 6), (0, u "java/lang/Object"), (0, u "<init>"), (0, u "()V"), (0, .string 8), (0, u ""), (0, .fieldref 10 11), (0, .class_ 12), (0, .nameAndType 13 14), (0, u "java/lang/String"), (0, u "value"), (0, u "[B"), (0, .fieldref 10 16), (0, .nameAndType 17 18), (0, u "coder"), (0, u "B"), (2, u "hash"), (0, u "I"), (2, u "hashIsZero"), (0, u "Z"), (0, .methodref 10 28), (0, .nameAndType 5 29), (0, u "([CIILjava/lang/Void;)V"), (8, .fieldref 10 39), (0, .nameAndType 40 26), (0, u "COMPACT_STRINGS"), (1, .class_ 44), (1, u "java/lang/StringUTF16"), (0, u "compress"), (1, .methodref 42 48), (0, .nameAndType 49 50), (0, u "coderFromArrayLen"), (0, u "([BI)B"), (91, u "()Z"), (34, .methodref 42 178), (0, .nameAndType 45 179), (0, u "([CII)[B"), (363, u "equals"), (29, u "(Ljava/lang/Object;)Z"), (1, .class_ 576), (0, u "java/lang/CharSequence"), (22, u "CASE_INSENSITIVE_ORDER"), (0, u "Ljava/util/Comparator;"), (91, u "isEmpty"), (317, u "([C)V"), (90, u "serialPersistentFields"), (0, u "[Ljava/io/ObjectStreamField;"), (0, .class_ 1104), (0, u "java/lang/String$CaseInsensitiveComparator"), (1, .class_ 1107), (0, u "java/io/Serializable"), (0, .class_ 1109), (0, u "java/lang/Comparable"), (0, .class_ 1111), (0, u "java/lang/constant/Constable"), (0, .class_ 1113), (0, u "java/lang/constant/ConstantDesc"), (2, u "serialVersionUID"), (0, u "J"), (3, u "REPL"), (0, u "C"), (2, u "LATIN1"), (1, u "UTF16")] 323

def k10m0 : Method := { name := "<init>", desc := "()V", sig := { parameters := [], returnType := none }, accessFlags := 1, code := none }
def k10c1 : Code := { maxStack := 5, maxLocals := 2, code := jdk_42_method_3_code, exceptionTable := #[], attributes := #[] }
def k10m1 : Method := { name := "<init>", desc := "([C)V", sig := { parameters := [(.array .char)], returnType := none }, accessFlags := 1, code := some k10c1 }
def k10c2 : Code := { maxStack := 1, maxLocals := 1, code := jdk_42_method_55_code, exceptionTable := #[], attributes := #[] }
def k10m2 : Method := { name := "isEmpty", desc := "()Z", sig := { parameters := [], returnType := some .boolean }, accessFlags := 1, code := some k10c2 }
def k10c3 : Code := { maxStack := 2, maxLocals := 3, code := jdk_42_method_66_code, exceptionTable := #[], attributes := #[] }
def k10m3 : Method := { name := "equals", desc := "(Ljava/lang/Object;)Z", sig := { parameters := [(.object "java/lang/Object")], returnType := some .boolean }, accessFlags := 1, code := some k10c3 }
def k10c4 : Code := { maxStack := 4, maxLocals := 6, code := jdk_42_method_149_code, exceptionTable := #[], attributes := #[] }
def k10m4 : Method := { name := "<init>", desc := "([CIILjava/lang/Void;)V", sig := { parameters := [(.array .char), .int, .int, (.object "java/lang/Void")], returnType := none }, accessFlags := 2, code := some k10c4 }
/-- java/lang/String -/
def k10 : Class := { plain "java/lang/String" (some 0) with
  accessFlags := 49
  interfaces := #[4, 3, 8, 2, 9]
  cf := some (fileOf pool10 10 #[.nestMembers #[1103]] #[{ accessFlags := 1, nameIndex := 5, descriptorIndex := 6, attributes := #[] }, { accessFlags := 1, nameIndex := 5, descriptorIndex := 1010, attributes := #[] }, { accessFlags := 1, nameIndex := 692, descriptorIndex := 142, attributes := #[] }, { accessFlags := 1, nameIndex := 543, descriptorIndex := 573, attributes := #[] }, { accessFlags := 2, nameIndex := 5, descriptorIndex := 29, attributes := #[] }] 49 2 #[1106, 1108, 575, 1110, 1112] #[{ accessFlags := 18, nameIndex := 13, descriptorIndex := 14, attributes := #[] }, { accessFlags := 18, nameIndex := 17, descriptorIndex := 18, attributes := #[] }, { accessFlags := 2, nameIndex := 21, descriptorIndex := 22, attributes := #[] }, { accessFlags := 2, nameIndex := 25, descriptorIndex := 26, attributes := #[] }, { accessFlags := 26, nameIndex := 1116, descriptorIndex := 1117, attributes := #[] }, { accessFlags := 24, nameIndex := 40, descriptorIndex := 26, attributes := #[] }, { accessFlags := 26, nameIndex := 1101, descriptorIndex := 1102, attributes := #[] }, { accessFlags := 26, nameIndex := 1121, descriptorIndex := 1122, attributes := #[] }, { accessFlags := 25, nameIndex := 599, descriptorIndex := 600, attributes := #[] }, { accessFlags := 24, nameIndex := 1125, descriptorIndex := 18, attributes := #[] }, { accessFlags := 24, nameIndex := 1127, descriptorIndex := 18, attributes := #[] }])
  fields := #[{ name := "value", type := (.array .byte), accessFlags := 18, slot := 0, constantValue := 0 }, { name := "coder", type := .byte, accessFlags := 18, slot := 1, constantValue := 0 }, { name := "hash", type := .int, accessFlags := 2, slot := 2, constantValue := 0 }, { name := "hashIsZero", type := .boolean, accessFlags := 2, slot := 3, constantValue := 0 }, { name := "serialVersionUID", type := .long, accessFlags := 26, slot := 0, constantValue := 0 }, { name := "COMPACT_STRINGS", type := .boolean, accessFlags := 24, slot := 1, constantValue := 0 }, { name := "serialPersistentFields", type := (.array (.object "java/io/ObjectStreamField")), accessFlags := 26, slot := 2, constantValue := 0 }, { name := "REPL", type := .char, accessFlags := 26, slot := 3, constantValue := 0 }, { name := "CASE_INSENSITIVE_ORDER", type := (.object "java/util/Comparator"), accessFlags := 25, slot := 4, constantValue := 0 }, { name := "LATIN1", type := .byte, accessFlags := 24, slot := 5, constantValue := 0 }, { name := "UTF16", type := .byte, accessFlags := 24, slot := 6, constantValue := 0 }]
  methods := #[k10m0, k10m1, k10m2, k10m3, k10m4]
  instanceTypes := #[(.array .byte), .byte, .int, .boolean]
  staticTypes := #[.long, .boolean, (.array (.object "java/io/ObjectStreamField")), .char, (.object "java/util/Comparator"), .byte, .byte]
  resolved := Array.replicate 1451 none
  statics := some 1 }

def pool11 : Array CpInfo := pool [(6, .class_ 8), (1, u "java/lang/Object"), (0, u "<init>"), (0, u "()V"), (1, .class_ 14), (1, u "java/lang/StringUTF16"), (31, u "$assertionsDisabled"), (0, u "Z"), (13, u "HI_BYTE_SHIFT"), (0, u "I"), (2, u "LO_BYTE_SHIFT"), (49, .methodref 12 116), (0, .nameAndType 117 118), (0, u "compress"), (0, u "([CI[BII)I"), (3, u "([CII)[B"), (138, u "coderFromArrayLen"), (0, u "([BI)B"), (106, .class_ 371), (1, u "java/lang/StringUTF16$LinesSpliterator"), (58, u "MAX_LENGTH"), (196, .class_ 628), (0, u "java/lang/StringUTF16$CodePointsSpliterator"), (0, .class_ 630), (0, u "java/lang/StringUTF16$CharsSpliterator")] 4

def k11m0 : Method := { name := "<init>", desc := "()V", sig := { parameters := [], returnType := none }, accessFlags := 0, code := none }
def k11c1 : Code := { maxStack := 2, maxLocals := 2, code := jdk_52_method_15_code, exceptionTable := #[], attributes := #[] }
def k11m1 : Method := { name := "coderFromArrayLen", desc := "([BI)B", sig := { parameters := [(.array .byte), .int], returnType := some .byte }, accessFlags := 8, code := some k11c1 }
def k11c2 : Code := { maxStack := 5, maxLocals := 6, code := jdk_52_method_16_code, exceptionTable := #[], attributes := #[] }
def k11m2 : Method := { name := "compress", desc := "([CII)[B", sig := { parameters := [(.array .char), .int, .int], returnType := some (.array .byte) }, accessFlags := 9, code := some k11c2 }
def k11c3 : Code := { maxStack := 3, maxLocals := 7, code := jdk_52_method_21_code, exceptionTable := #[], attributes := #[] }
def k11m3 : Method := { name := "compress", desc := "([CI[BII)I", sig := { parameters := [(.array .char), .int, (.array .byte), .int, .int], returnType := some .int }, accessFlags := 9, code := some k11c3 }
/-- java/lang/StringUTF16 -/
def k11 : Class := { plain "java/lang/StringUTF16" (some 0) with
  accessFlags := 48
  interfaces := #[]
  cf := some (fileOf pool11 12 #[.nestMembers #[627, 629, 369]] #[{ accessFlags := 0, nameIndex := 9, descriptorIndex := 10, attributes := #[] }, { accessFlags := 8, nameIndex := 261, descriptorIndex := 262, attributes := #[] }, { accessFlags := 9, nameIndex := 117, descriptorIndex := 122, attributes := #[] }, { accessFlags := 9, nameIndex := 117, descriptorIndex := 118, attributes := #[] }] 48 6 #[] #[{ accessFlags := 26, nameIndex := 61, descriptorIndex := 62, attributes := #[] }, { accessFlags := 26, nameIndex := 65, descriptorIndex := 62, attributes := #[] }, { accessFlags := 24, nameIndex := 430, descriptorIndex := 62, attributes := #[] }, { accessFlags := 4120, nameIndex := 46, descriptorIndex := 47, attributes := #[] }])
  fields := #[{ name := "HI_BYTE_SHIFT", type := .int, accessFlags := 26, slot := 0, constantValue := 0 }, { name := "LO_BYTE_SHIFT", type := .int, accessFlags := 26, slot := 1, constantValue := 0 }, { name := "MAX_LENGTH", type := .int, accessFlags := 24, slot := 2, constantValue := 0 }, { name := "$assertionsDisabled", type := .boolean, accessFlags := 4120, slot := 3, constantValue := 0 }]
  methods := #[k11m0, k11m1, k11m2, k11m3]
  instanceTypes := #[]
  staticTypes := #[.int, .int, .int, .boolean]
  resolved := Array.replicate 635 none
  statics := none }

def pool12 : Array CpInfo := pool [(4, .class_ 6), (1, u "java/lang/Object"), (0, u "<init>"), (0, u "()V"), (5, .class_ 16), (1, u "java/lang/StringLatin1"), (104, u "$assertionsDisabled"), (0, u "Z"), (98, .class_ 223), (1, u "java/lang/StringLatin1$LinesSpliterator"), (166, .class_ 391), (0, u "java/lang/StringLatin1$CharsSpliterator")] 3

def k12m0 : Method := { name := "<init>", desc := "()V", sig := { parameters := [], returnType := none }, accessFlags := 0, code := none }
/-- java/lang/StringLatin1 -/
def k12 : Class := { plain "java/lang/StringLatin1" (some 0) with
  accessFlags := 48
  interfaces := #[]
  cf := some (fileOf pool12 14 #[.nestMembers #[390, 221]] #[{ accessFlags := 0, nameIndex := 7, descriptorIndex := 8, attributes := #[] }] 48 4 #[] #[{ accessFlags := 4120, nameIndex := 121, descriptorIndex := 122, attributes := #[] }])
  fields := #[{ name := "$assertionsDisabled", type := .boolean, accessFlags := 4120, slot := 0, constantValue := 0 }]
  methods := #[k12m0]
  instanceTypes := #[]
  staticTypes := #[.boolean]
  resolved := Array.replicate 395 none
  statics := none }

def pool13 : Array CpInfo := pool [(2, .class_ 4), (1, u "java/lang/Object"), (0, u "<init>"), (0, u "()V"), (17, .class_ 26), (1, u "jdk/internal/util/Preconditions"), (28, .class_ 56), (0, u "jdk/internal/util/Preconditions$4"), (57, .class_ 115), (0, u "jdk/internal/util/Preconditions$1"), (7, u "SIOOBE_FORMATTER"), (0, u "Ljava/util/function/BiFunction;"), (0, .class_ 126), (0, u "jdk/internal/util/Preconditions$2"), (3, u "AIOOBE_FORMATTER"), (0, .class_ 132), (0, u "jdk/internal/util/Preconditions$3"), (3, u "IOOBE_FORMATTER")] 57

def k13m0 : Method := { name := "<init>", desc := "()V", sig := { parameters := [], returnType := none }, accessFlags := 1, code := none }
/-- jdk/internal/util/Preconditions -/
def k13 : Class := { plain "jdk/internal/util/Preconditions" (some 0) with
  accessFlags := 33
  interfaces := #[]
  cf := some (fileOf pool13 24 #[.nestMembers #[55, 131, 125, 114]] #[{ accessFlags := 1, nameIndex := 5, descriptorIndex := 6, attributes := #[] }] 33 2 #[] #[{ accessFlags := 25, nameIndex := 123, descriptorIndex := 124, attributes := #[] }, { accessFlags := 25, nameIndex := 130, descriptorIndex := 124, attributes := #[] }, { accessFlags := 25, nameIndex := 136, descriptorIndex := 124, attributes := #[] }])
  fields := #[{ name := "SIOOBE_FORMATTER", type := (.object "java/util/function/BiFunction"), accessFlags := 25, slot := 0, constantValue := 0 }, { name := "AIOOBE_FORMATTER", type := (.object "java/util/function/BiFunction"), accessFlags := 25, slot := 1, constantValue := 0 }, { name := "IOOBE_FORMATTER", type := (.object "java/util/function/BiFunction"), accessFlags := 25, slot := 2, constantValue := 0 }]
  methods := #[k13m0]
  instanceTypes := #[]
  staticTypes := #[(.object "java/util/function/BiFunction"), (.object "java/util/function/BiFunction"), (.object "java/util/function/BiFunction")]
  resolved := Array.replicate 194 none
  statics := some 2 }

def pool14 : Array CpInfo := pool [(9, u "<init>"), (6, .class_ 18), (1, u "java/lang/Object"), (0, u "()V"), (1, .class_ 23), (1, u "jdk/internal/util/ArraysSupport"), (0, u "LOG2_ARRAY_LONG_INDEX_SCALE"), (0, u "I"), (2, u "U"), (0, u "Ljdk/internal/misc/Unsafe;"), (8, u "BIG_ENDIAN"), (0, u "Z"), (8, u "LOG2_BYTE_BIT_SIZE"), (4, u "LOG2_ARRAY_INT_INDEX_SCALE"), (54, u "JLA"), (0, u "Ljdk/internal/access/JavaLangAccess;"), (11, u "LOG2_ARRAY_BOOLEAN_INDEX_SCALE"), (9, u "LOG2_ARRAY_BYTE_INDEX_SCALE"), (5, u "LOG2_ARRAY_CHAR_INDEX_SCALE"), (5, u "LOG2_ARRAY_SHORT_INDEX_SCALE"), (18, u "LOG2_ARRAY_FLOAT_INDEX_SCALE"), (24, u "LOG2_ARRAY_DOUBLE_INDEX_SCALE"), (89, u "T_BOOLEAN"), (2, u "T_CHAR"), (1, u "T_FLOAT"), (1, u "T_DOUBLE"), (1, u "T_BYTE"), (1, u "T_SHORT"), (1, u "T_INT"), (1, u "T_LONG"), (1, u "SOFT_MAX_ARRAY_LENGTH")] 83

def k14m0 : Method := { name := "<init>", desc := "()V", sig := { parameters := [], returnType := none }, accessFlags := 2, code := none }
/-- jdk/internal/util/ArraysSupport -/
def k14 : Class := { plain "jdk/internal/util/ArraysSupport" (some 0) with
  accessFlags := 33
  interfaces := #[]
  cf := some (fileOf pool14 21 #[] #[{ accessFlags := 2, nameIndex := 9, descriptorIndex := 19, attributes := #[] }] 33 16 #[] #[{ accessFlags := 24, nameIndex := 28, descriptorIndex := 29, attributes := #[] }, { accessFlags := 26, nameIndex := 38, descriptorIndex := 39, attributes := #[] }, { accessFlags := 25, nameIndex := 121, descriptorIndex := 25, attributes := #[] }, { accessFlags := 25, nameIndex := 131, descriptorIndex := 25, attributes := #[] }, { accessFlags := 25, nameIndex := 137, descriptorIndex := 25, attributes := #[] }, { accessFlags := 25, nameIndex := 143, descriptorIndex := 25, attributes := #[] }, { accessFlags := 25, nameIndex := 53, descriptorIndex := 25, attributes := #[] }, { accessFlags := 25, nameIndex := 24, descriptorIndex := 25, attributes := #[] }, { accessFlags := 25, nameIndex := 162, descriptorIndex := 25, attributes := #[] }, { accessFlags := 25, nameIndex := 187, descriptorIndex := 25, attributes := #[] }, { accessFlags := 26, nameIndex := 48, descriptorIndex := 25, attributes := #[] }, { accessFlags := 25, nameIndex := 277, descriptorIndex := 25, attributes := #[] }, { accessFlags := 25, nameIndex := 280, descriptorIndex := 25, attributes := #[] }, { accessFlags := 25, nameIndex := 282, descriptorIndex := 25, attributes := #[] }, { accessFlags := 25, nameIndex := 284, descriptorIndex := 25, attributes := #[] }, { accessFlags := 25, nameIndex := 286, descriptorIndex := 25, attributes := #[] }, { accessFlags := 25, nameIndex := 288, descriptorIndex := 25, attributes := #[] }, { accessFlags := 25, nameIndex := 290, descriptorIndex := 25, attributes := #[] }, { accessFlags := 25, nameIndex := 292, descriptorIndex := 25, attributes := #[] }, { accessFlags := 26, nameIndex := 108, descriptorIndex := 109, attributes := #[] }, { accessFlags := 25, nameIndex := 294, descriptorIndex := 25, attributes := #[] }])
  fields := #[{ name := "U", type := (.object "jdk/internal/misc/Unsafe"), accessFlags := 24, slot := 0, constantValue := 0 }, { name := "BIG_ENDIAN", type := .boolean, accessFlags := 26, slot := 1, constantValue := 0 }, { name := "LOG2_ARRAY_BOOLEAN_INDEX_SCALE", type := .int, accessFlags := 25, slot := 2, constantValue := 0 }, { name := "LOG2_ARRAY_BYTE_INDEX_SCALE", type := .int, accessFlags := 25, slot := 3, constantValue := 0 }, { name := "LOG2_ARRAY_CHAR_INDEX_SCALE", type := .int, accessFlags := 25, slot := 4, constantValue := 0 }, { name := "LOG2_ARRAY_SHORT_INDEX_SCALE", type := .int, accessFlags := 25, slot := 5, constantValue := 0 }, { name := "LOG2_ARRAY_INT_INDEX_SCALE", type := .int, accessFlags := 25, slot := 6, constantValue := 0 }, { name := "LOG2_ARRAY_LONG_INDEX_SCALE", type := .int, accessFlags := 25, slot := 7, constantValue := 0 }, { name := "LOG2_ARRAY_FLOAT_INDEX_SCALE", type := .int, accessFlags := 25, slot := 8, constantValue := 0 }, { name := "LOG2_ARRAY_DOUBLE_INDEX_SCALE", type := .int, accessFlags := 25, slot := 9, constantValue := 0 }, { name := "LOG2_BYTE_BIT_SIZE", type := .int, accessFlags := 26, slot := 10, constantValue := 0 }, { name := "T_BOOLEAN", type := .int, accessFlags := 25, slot := 11, constantValue := 0 }, { name := "T_CHAR", type := .int, accessFlags := 25, slot := 12, constantValue := 0 }, { name := "T_FLOAT", type := .int, accessFlags := 25, slot := 13, constantValue := 0 }, { name := "T_DOUBLE", type := .int, accessFlags := 25, slot := 14, constantValue := 0 }, { name := "T_BYTE", type := .int, accessFlags := 25, slot := 15, constantValue := 0 }, { name := "T_SHORT", type := .int, accessFlags := 25, slot := 16, constantValue := 0 }, { name := "T_INT", type := .int, accessFlags := 25, slot := 17, constantValue := 0 }, { name := "T_LONG", type := .int, accessFlags := 25, slot := 18, constantValue := 0 }, { name := "JLA", type := (.object "jdk/internal/access/JavaLangAccess"), accessFlags := 26, slot := 19, constantValue := 0 }, { name := "SOFT_MAX_ARRAY_LENGTH", type := .int, accessFlags := 25, slot := 20, constantValue := 0 }]
  methods := #[k14m0]
  instanceTypes := #[]
  staticTypes := #[(.object "jdk/internal/misc/Unsafe"), .boolean, .int, .int, .int, .int, .int, .int, .int, .int, .int, .int, .int, .int, .int, .int, .int, .int, .int, (.object "jdk/internal/access/JavaLangAccess"), .int]
  resolved := Array.replicate 378 none
  statics := none }

def pool15 : Array CpInfo := pool [(1, u "java/lang/Cloneable"), (0, .class_ 1), (0, u "java/lang/Object"), (0, .class_ 3)] 3

/-- java/lang/Cloneable -/
def k15 : Class := { plain "java/lang/Cloneable" (some 0) with
  accessFlags := 1537
  interfaces := #[]
  cf := some (fileOf pool15 2 #[] #[] 1537 4 #[] #[])
  fields := #[]
  methods := #[]
  instanceTypes := #[]
  staticTypes := #[]
  resolved := Array.replicate 8 none
  statics := none }

/-- the primitive byte -/
def k16 : Class := { plain "byte" none with kind := .primitive 'B', accessFlags := 0x411 }
/-- [B -/
def k17 : Class := { plain "[B" (some 0) with kind := .array 16 .byte, interfaces := #[15, 4], accessFlags := 1041 }

/-- the primitive char -/
def k18 : Class := { plain "char" none with kind := .primitive 'C', accessFlags := 0x411 }
/-- [C -/
def k19 : Class := { plain "[C" (some 0) with kind := .array 18 .char, interfaces := #[15, 4], accessFlags := 1041 }

/-- the primitive int -/
def k20 : Class := { plain "int" none with kind := .primitive 'I', accessFlags := 0x411 }
/-- [I -/
def k21 : Class := { plain "[I" (some 0) with kind := .array 20 .int, interfaces := #[15, 4], accessFlags := 1041 }

/-- [Lcom/example/ledgerd/ledgerd/core/DocumentType; -/
def k22 : Class := { plain "[Lcom/example/ledgerd/ledgerd/core/DocumentType;" (some 0) with kind := .array 7 (.object "com/example/ledgerd/ledgerd/core/DocumentType"), interfaces := #[15, 4], accessFlags := 1041 }

def heap : Heap := #[{ cls := 7, slots := #[.ref 3, .ref 4, .ref 5, .ref 6, .null], vm := .statics 7 },
  { cls := 10, slots := #[.long 0, .int 1, .null, .int 0, .null, .int 0, .int 0], vm := .statics 10 },
  { cls := 13, slots := #[.null, .null, .null], vm := .statics 13 },
  { cls := 7, slots := #[.null, .int 0, .int 0, .int 0, .null], vm := .none },
  { cls := 7, slots := #[.null, .int 1, .int 0, .int 1, .null], vm := .none },
  { cls := 7, slots := #[.null, .int 2, .int 0, .int 0, .null], vm := .none },
  { cls := 7, slots := #[.null, .int 3, .int 0, .int 1, .null], vm := .none }]
def classes : Array Class := #[k0, k1, k2, k3, k4, k5, k6, k7, k8, k9, k10, k11, k12, k13, k14, k15, k16, k17, k18, k19, k20, k21, k22]
def interned : List (Array UInt16 × Addr) := []
def slotsUsed : Nat := 35
def theMethod : MethodId := ⟨1, 1⟩
def args0 : Array Value := #[.int 5, .int 5, .int 5, .int 5, .int 5]
def aboutOver (below : List Frame) : State where
  vm := { classes := classes, interned := interned.toArray }
  heap := heap
  slotsUsed := slotsUsed
  threads := #[{ frames := .invoking theMethod args0 :: below }]
def below0 : List Frame := [.native { method := ⟨0, 0⟩, args := #[] }]
def about1 : State := aboutOver below0
def p0 : Program := .bare "" "" ""
def e0 : Env := launch0.env 0 0 0
theorem w_frames : about1.frames = Frame.invoking theMethod args0 :: below0 := rfl
set_option maxRecDepth 65536 in
theorem w_args : argsFit about1.vm theMethod args0 = true := by decide +kernel
set_option maxRecDepth 65536 in
theorem w_heap : heapFits about1 = true := by decide +kernel
set_option maxRecDepth 65536 in
theorem w_runnable : about1.curStatus? = some .runnable := by decide +kernel
set_option maxRecDepth 65536 in
theorem w_alone : about1.alone = true := by decide +kernel
set_option maxRecDepth 65536 in
theorem w_named : about1.methodNamed? x = some theMethod := by decide +kernel
set_option maxRecDepth 65536 in
theorem w_hears : about1.hears theMethod below0 = true := by decide +kernel
set_option maxRecDepth 65536 in
theorem w_ripe : about1.ripe theMethod args0 below0 = true := by decide +kernel
theorem w_running : about1.status = .running := rfl
set_option maxRecDepth 65536 in
theorem w_room : about1.hasRoom e0.platform room_1 = true :=
  launch0.hasRoom_least _ room_1 (by decide +kernel) (by decide +kernel) (by decide +kernel) (by decide +kernel) (by decide +kernel) (by decide +kernel)
theorem allAtoms_all (ts : List Jvm.Cond) (a : Array Jvm.Value) (st : Jvm.State) : (allAtoms ts).before a st = ts.all (fun c => c.before a st) := by
  induction ts with
  | nil => rfl
  | cons c t ih =>
    show (Jvm.Cond.and c (allAtoms t)).before a st = _
    rw [Jvm.Cond.before_and, ih, List.all_cons]
def words1 : List Jvm.Cond := Jvm.Cond.code x code maxLocals ret :: tables_1
/-- a 'code' word, met by the world's own term for the bytes: nothing is compared byte by byte -/
theorem code_word {y : MethodName} {bytes : ByteArray} {mx : Nat} {rt : Option FieldType} {a : Array Value} {s : State} {m : MethodId} {meth : Method} {c : Code} (h1 : s.methodNamed? y = some m) (h2 : s.vm.method? m = some meth) (h3 : meth.code = some c) (h4 : c.code = bytes)
    (h5 : (c.maxLocals == mx && c.exceptionTable.isEmpty && decide (c.maxStack ≤ mostOperands) && decide (meth.sig.returnType = rt) && !meth.locks && decide (parseMethodDescriptor y.desc = some meth.sig)) = true) : (Jvm.Cond.code y bytes mx rt).before a s = true := by
  simp only [Bool.and_eq_true, beq_iff_eq, Bool.not_eq_true', decide_eq_true_eq] at h5
  obtain ⟨⟨⟨⟨⟨g1, g2⟩, g3⟩, g4⟩, g5⟩, g6⟩ := h5
  simp [Cond.before, Cond.holds, Cond.value, h1, h2, h3, h4, g1, g2, g3, g4, g5, g6]
def isCode : Jvm.Cond → Bool
  | .code _ _ _ _ => true
  | _ => false
theorem all_split {L : List Jvm.Cond} {P : Jvm.Cond → Bool} (h1 : L.all (fun c => isCode c || P c) = true) (h2 : ∀ c ∈ L.filter isCode, P c = true) : L.all P = true := by
  refine List.all_eq_true.mpr fun c hc => ?_
  have h := List.all_eq_true.mp h1 c hc
  rcases Bool.eq_false_or_eq_true (isCode c) with hi | hi
  · exact h2 c (List.mem_filter.mpr ⟨hc, hi⟩)
  · simpa [hi] using h
set_option maxRecDepth 65536 in
theorem w_c0 : (Jvm.Cond.code x code maxLocals ret).before args0 about1 = true := code_word (m := ⟨1, 1⟩) (meth := k1m1) (c := k1c1) (by decide +kernel) rfl rfl rfl (by decide +kernel)
set_option maxRecDepth 65536 in
theorem w_c1 : (Jvm.Cond.code ({ cls := "com/example/ledgerd/ledgerd/core/DocumentTypeNumberSeriesPinLaw", name := "drawn", desc := "(IIII)Ljava/lang/String;" } : Jvm.MethodName) method_3_code (7 : Nat) (Option.some (Jvm.ClassFile.FieldType.object "java/lang/String"))).before args0 about1 = true := code_word (m := ⟨1, 2⟩) (meth := k1m2) (c := k1c2) (by decide +kernel) rfl rfl rfl (by decide +kernel)
set_option maxRecDepth 65536 in
theorem w_c2 : (Jvm.Cond.code ({ cls := "java/lang/String", name := "<init>", desc := "([C)V" } : Jvm.MethodName) jdk_42_method_3_code (2 : Nat) (Option.none : Option Jvm.ClassFile.FieldType)).before args0 about1 = true := code_word (m := ⟨10, 1⟩) (meth := k10m1) (c := k10c1) (by decide +kernel) rfl rfl rfl (by decide +kernel)
set_option maxRecDepth 65536 in
theorem w_c3 : (Jvm.Cond.code ({ cls := "java/lang/String", name := "<init>", desc := "([CIILjava/lang/Void;)V" } : Jvm.MethodName) jdk_42_method_149_code (6 : Nat) (Option.none : Option Jvm.ClassFile.FieldType)).before args0 about1 = true := code_word (m := ⟨10, 4⟩) (meth := k10m4) (c := k10c4) (by decide +kernel) rfl rfl rfl (by decide +kernel)
set_option maxRecDepth 65536 in
theorem w_c4 : (Jvm.Cond.code ({ cls := "java/lang/Object", name := "<init>", desc := "()V" } : Jvm.MethodName) object_method_1_code (1 : Nat) (Option.none : Option Jvm.ClassFile.FieldType)).before args0 about1 = true := code_word (m := ⟨0, 0⟩) (meth := k0m0) (c := k0c0) (by decide +kernel) rfl rfl rfl (by decide +kernel)
set_option maxRecDepth 65536 in
theorem w_c5 : (Jvm.Cond.code ({ cls := "java/lang/StringUTF16", name := "compress", desc := "([CII)[B" } : Jvm.MethodName) jdk_52_method_16_code (6 : Nat) (Option.some (Jvm.ClassFile.FieldType.array Jvm.ClassFile.FieldType.byte))).before args0 about1 = true := code_word (m := ⟨11, 2⟩) (meth := k11m2) (c := k11c2) (by decide +kernel) rfl rfl rfl (by decide +kernel)
set_option maxRecDepth 65536 in
theorem w_c6 : (Jvm.Cond.code ({ cls := "java/lang/StringUTF16", name := "compress", desc := "([CI[BII)I" } : Jvm.MethodName) jdk_52_method_21_code (7 : Nat) (Option.some Jvm.ClassFile.FieldType.int)).before args0 about1 = true := code_word (m := ⟨11, 3⟩) (meth := k11m3) (c := k11c3) (by decide +kernel) rfl rfl rfl (by decide +kernel)
set_option maxRecDepth 65536 in
theorem w_c7 : (Jvm.Cond.code ({ cls := "java/lang/StringUTF16", name := "coderFromArrayLen", desc := "([BI)B" } : Jvm.MethodName) jdk_52_method_15_code (2 : Nat) (Option.some Jvm.ClassFile.FieldType.byte)).before args0 about1 = true := code_word (m := ⟨11, 1⟩) (meth := k11m1) (c := k11c1) (by decide +kernel) rfl rfl rfl (by decide +kernel)
set_option maxRecDepth 65536 in
theorem w_c8 : (Jvm.Cond.code ({ cls := "com/example/ledgerd/ledgerd/core/DocumentType", name := "numberSeries", desc := "(Ljava/lang/String;)Ljava/lang/String;" } : Jvm.MethodName) prog_20_method_7_code (2 : Nat) (Option.some (Jvm.ClassFile.FieldType.object "java/lang/String"))).before args0 about1 = true := code_word (m := ⟨7, 0⟩) (meth := k7m0) (c := k7c0) (by decide +kernel) rfl rfl rfl (by decide +kernel)
set_option maxRecDepth 65536 in
theorem w_c9 : (Jvm.Cond.code ({ cls := "java/lang/String", name := "isEmpty", desc := "()Z" } : Jvm.MethodName) jdk_42_method_55_code (1 : Nat) (Option.some Jvm.ClassFile.FieldType.boolean)).before args0 about1 = true := code_word (m := ⟨10, 2⟩) (meth := k10m2) (c := k10c2) (by decide +kernel) rfl rfl rfl (by decide +kernel)
set_option maxRecDepth 65536 in
theorem w_c10 : (Jvm.Cond.code ({ cls := "java/lang/String", name := "equals", desc := "(Ljava/lang/Object;)Z" } : Jvm.MethodName) jdk_42_method_66_code (3 : Nat) (Option.some Jvm.ClassFile.FieldType.boolean)).before args0 about1 = true := code_word (m := ⟨10, 3⟩) (meth := k10m3) (c := k10c3) (by decide +kernel) rfl rfl rfl (by decide +kernel)
def codes1 : List Jvm.Cond := [Jvm.Cond.code x code maxLocals ret, Jvm.Cond.code ({ cls := "com/example/ledgerd/ledgerd/core/DocumentTypeNumberSeriesPinLaw", name := "drawn", desc := "(IIII)Ljava/lang/String;" } : Jvm.MethodName) method_3_code (7 : Nat) (Option.some (Jvm.ClassFile.FieldType.object "java/lang/String")), Jvm.Cond.code ({ cls := "java/lang/String", name := "<init>", desc := "([C)V" } : Jvm.MethodName) jdk_42_method_3_code (2 : Nat) (Option.none : Option Jvm.ClassFile.FieldType), Jvm.Cond.code ({ cls := "java/lang/String", name := "<init>", desc := "([CIILjava/lang/Void;)V" } : Jvm.MethodName) jdk_42_method_149_code (6 : Nat) (Option.none : Option Jvm.ClassFile.FieldType), Jvm.Cond.code ({ cls := "java/lang/Object", name := "<init>", desc := "()V" } : Jvm.MethodName) object_method_1_code (1 : Nat) (Option.none : Option Jvm.ClassFile.FieldType), Jvm.Cond.code ({ cls := "java/lang/StringUTF16", name := "compress", desc := "([CII)[B" } : Jvm.MethodName) jdk_52_method_16_code (6 : Nat) (Option.some (Jvm.ClassFile.FieldType.array Jvm.ClassFile.FieldType.byte)), Jvm.Cond.code ({ cls := "java/lang/StringUTF16", name := "compress", desc := "([CI[BII)I" } : Jvm.MethodName) jdk_52_method_21_code (7 : Nat) (Option.some Jvm.ClassFile.FieldType.int), Jvm.Cond.code ({ cls := "java/lang/StringUTF16", name := "coderFromArrayLen", desc := "([BI)B" } : Jvm.MethodName) jdk_52_method_15_code (2 : Nat) (Option.some Jvm.ClassFile.FieldType.byte), Jvm.Cond.code ({ cls := "com/example/ledgerd/ledgerd/core/DocumentType", name := "numberSeries", desc := "(Ljava/lang/String;)Ljava/lang/String;" } : Jvm.MethodName) prog_20_method_7_code (2 : Nat) (Option.some (Jvm.ClassFile.FieldType.object "java/lang/String")), Jvm.Cond.code ({ cls := "java/lang/String", name := "isEmpty", desc := "()Z" } : Jvm.MethodName) jdk_42_method_55_code (1 : Nat) (Option.some Jvm.ClassFile.FieldType.boolean), Jvm.Cond.code ({ cls := "java/lang/String", name := "equals", desc := "(Ljava/lang/Object;)Z" } : Jvm.MethodName) jdk_42_method_66_code (3 : Nat) (Option.some Jvm.ClassFile.FieldType.boolean)]
set_option maxRecDepth 65536 in
theorem codes_eq : words1.filter isCode = codes1 := rfl
theorem w_codes : ∀ c ∈ words1.filter isCode, c.before args0 about1 = true := by
  rw [codes_eq]
  intro c hc
  simp only [codes1, List.mem_cons, List.not_mem_nil, or_false] at hc
  rcases hc with rfl | rfl | rfl | rfl | rfl | rfl | rfl | rfl | rfl | rfl | rfl
  · exact w_c0
  · exact w_c1
  · exact w_c2
  · exact w_c3
  · exact w_c4
  · exact w_c5
  · exact w_c6
  · exact w_c7
  · exact w_c8
  · exact w_c9
  · exact w_c10
set_option maxRecDepth 65536 in
theorem w_t1 : (words1.take 24).all (fun c => isCode c || c.before args0 about1) = true := by decide +kernel
set_option maxRecDepth 65536 in
theorem w_t2 : ((words1.drop 24).take 24).all (fun c => isCode c || c.before args0 about1) = true := by decide +kernel
set_option maxRecDepth 65536 in
theorem w_t3 : ((words1.drop 24).drop 24).all (fun c => isCode c || c.before args0 about1) = true := by decide +kernel
theorem w_tables : (allAtoms (Jvm.Cond.code x code maxLocals ret :: tables_1)).before args0 about1 = true := by
  rw [allAtoms_all]
  show words1.all (fun c => c.before args0 about1) = true
  refine all_split ?_ w_codes
  rw [← List.take_append_drop 24 words1, List.all_append, w_t1, ← List.take_append_drop 24 (words1.drop 24), List.all_append, w_t2, w_t3]
  rfl
set_option maxRecDepth 65536 in
theorem w_rest : rest_1_c.before args0 about1 = true := by decide +kernel
set_option maxRecDepth 65536 in
theorem w_case : (Jvm.Cond.and given_1 narrow_1).before args0 about1 = true := by decide +kernel
set_option maxRecDepth 65536 in
theorem w_consts : constsHeld consts_1 about1 := Jvm.Lit.constsHeldB_iff.mp (by decide +kernel)
theorem w_applies : (headSpec (Jvm.Cond.code x code maxLocals ret :: tables_1) room_1).applies x e0.platform about1 = true :=
  (Spec.applies_iff w_frames).mpr ⟨w_running, w_runnable, w_alone, w_named, w_hears, w_ripe, w_room, w_tables⟩
theorem atStart : AtStart classFile x code maxLocals ret World_1 tables_1 room_1 Calls_1 rest_1 Pre_1 launch0 p0 e0 about1 theMethod args0 below0 :=
  ⟨lists_1, trivial, launch0.admits_env _ _ _, launch0.least_env, fairChoices_fair.cas, fairChoices_fair.clock, w_frames, w_args, w_heap, w_applies, ⟨w_consts, trivial⟩, w_rest, w_case⟩
end start1
theorem witness_1 : WitnessClaimed_1 := ⟨start1.p0, start1.e0, start1.about1, start1.theMethod, start1.args0, start1.below0, start1.atStart⟩
end Jvm.Pilot.@@N@@
