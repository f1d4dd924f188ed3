import JvmDerived
import JvmDerived.Pilot.@@N@@Statement
import JvmDerived.Pilot.@@N@@Code
set_option linter.unusedVariables false
set_option linter.unusedSimpArgs false
@@BLOCK:NumsL.lean.txt@@
namespace Jvm.RoadKit
open Sem ClassFile Op Lib Jvm.Stand Jvm.Free Jvm.LawKit
section New
variable {p : Program} {l : Launch} {e : Env} {R : Room} {s : State} {m : MethodId} {args : Array Value} {below : List Frame} {meth : Method} {c : Code} {T : State} {locs : List Loc} {cells slots : Nat}
theorem retI (X : Stand p l e R s m args below meth c T locs cells slots) (hx : p.tables.exec = Jvm.exec) {pc : Nat} {Ls : Array Slot} {z : Int32} {rest : List Value} (hret : meth.sig.returnType = some .int) (hd : decode c.code pc = .ok (.ireturn, 1)) {fs : List Frame}
    (hl : ∀ (f : JFrame) (acts : List Action), f.method = m → f.locked = none → f.entered = [] → (doReturn e (T.setTop f) acts (some (.int z))).1 = T.setFrames fs) : Steps p.tables e below (T.setTop (mkF m pc Ls (.int z :: rest))) (T.setFrames fs) := by
  have hm' : T.vm.method? m = some meth := X.method'
  have hn : narrow .int (.int z) = .int z := rfl
  show Steps p.tables e below (T.setTop { method := m, pc := pc, locals := Ls, stack := _ :: rest, locked := none }) _
  jvm_step X.here [X.here.top, hx, hd, hm', hret, hn]
  first | (intro acts; rw [hl _ acts rfl rfl rfl]) | rw [hl _ _ rfl rfl rfl]
  exact Steps.refl _
end New
end Jvm.RoadKit
namespace Jvm.Pilot.@@N@@
open Jvm Jvm.ClassFile Sem Op Lib Jvm.Free Jvm.Stand Jvm.LawKit Jvm.RoadKit Bundle Jvm.Pilot.@@N@@.Jvm.D
/-! own_Goes: from S the run comes to some state of which G holds: such a goal may be split in the middle of a walk -/
def own_Goes (p : Program) (e : Env) (below : List Frame) (S : State) (G : State → Prop) : Prop := ∃ t, Steps p.tables e below S t ∧ G t
theorem own_via {p : Program} {e : Env} {below : List Frame} {S S' : State} {G : State → Prop} (f : ∀ t, Steps p.tables e below S' t → Steps p.tables e below S t) (h : own_Goes p e below S' G) : own_Goes p e below S G := by
  obtain ⟨t, h1, h2⟩ := h
  exact ⟨t, f t h1, h2⟩
theorem own_end {p : Program} {e : Env} {below : List Frame} {S t : State} {G : State → Prop} (h : Steps p.tables e below S t) (g : G t) : own_Goes p e below S G := ⟨t, h, g⟩
theorem own_out {p : Program} {e : Env} {below : List Frame} {S : State} {P : State → Outcome → Prop} (h : own_Goes p e below S (fun t => ∃ o, t.status = .running ∧ Ended t below o ∧ P t o)) : ∃ t o, Steps p.tables e below S t ∧ t.status = .running ∧ Ended t below o ∧ P t o := by
  obtain ⟨t, h1, o, h2, h3, h4⟩ := h
  exact ⟨t, o, h1, h2, h3, h4⟩
theorem wd {a0 : Array Value} {Z : State} (hw : ∀ d ∈ tables_1, d.before a0 Z = true) (i : Nat) {d : Jvm.Cond} (h : tables_1[i]? = some d) : d.before a0 Z = true := hw _ (List.mem_of_getElem? h)
theorem own_old {Z : State} {n0 : Nat} {h : Heap} (O : Old Z n0 h) : n0 ≤ h.size := by rw [← O.1]; exact O.2.1
def own_Q0 (n0 : Nat) (v : Option Value) (L : List Loc) : Prop := v = some (.int (1 : Int32)) ∧ Fr n0 L
def own_G (s : State) (below : List Frame) (n0 : Nat) (t : State) : Prop := ∃ o, t.status = .running ∧ Ended t below o ∧ ∃ v L, o = .returned v ∧ own_Q0 n0 v L ∧ FrameEnd s o t L room_1.cells room_1.slots
def own_Len (Z : State) (h : Heap) (a : Addr) (ty : FieldType) (n : Int32) : Prop := ∃ k vs d, Arv Z h a k ty n vs d
theorem own_len_ext {Z : State} {h h' : Heap} {a : Addr} {ty : FieldType} {n : Int32} (F : own_Len Z h a ty n) (E : Ext h h') : own_Len Z h' a ty n := by
  obtain ⟨k, vs, d, V⟩ := F
  exact ⟨k, vs, d, V.ext E⟩
theorem own_len_other {Z : State} {h h' : Heap} {a b : Addr} {sl : Nat} {v : Value} {ty : FieldType} {n : Int32} (F : own_Len Z h b ty n) (W : Wr h h' a sl v) (q : b ≠ a) : own_Len Z h' b ty n := by
  obtain ⟨k, vs, d, V⟩ := F
  exact ⟨k, vs, d, V.other W q⟩
theorem own_len_keep {Z : State} {h h' : Heap} {a : Addr} {ws : List Addr} {ty : FieldType} {n : Int32} (F : own_Len Z h a ty n) (K : Keep h h' ws) (q : a ∉ ws) : own_Len Z h' a ty n := by
  obtain ⟨k, vs, d, V⟩ := F
  exact ⟨k, vs, d, V.keep K q⟩
theorem own_len_lt {Z : State} {h : Heap} {a : Addr} {ty : FieldType} {n : Int32} (F : own_Len Z h a ty n) : a < h.size := by
  obtain ⟨k, vs, d, V⟩ := F
  exact V.lt
theorem own_c2 (x : Int32) : x.toUInt32.toUInt16.toUInt32.toInt32.toUInt32.toUInt16.toUInt32.toInt32 = x.toUInt32.toUInt16.toUInt32.toInt32 := by rw [UInt32.toUInt32_toInt32, UInt16.toUInt16_toUInt32]
theorem own_b2 (x : Int32) : x.toInt8.toInt32.toInt8.toInt32 = x.toInt8.toInt32 := by rw [Int8.toInt8_toInt32]
section Calls
variable {p : Program} {l : Launch} {e : Env} {R : Room} {s : State} {m : MethodId} {args : Array Value} {below : List Frame} {meth : Method} {c : Code} {T : State} {locs : List Loc} {cells slots : Nat} {Z : State} {a0 : Array Value} {h : Heap} {own C : String} {index : Nat} {y : MethodName} {bytes : ByteArray} {maxL : Nat} {rm : Room} {Q : Option Value → Heap → List Loc → Prop} {a : Addr} {argsL : List Value} {g : JFrame}
/-! a call by its contract, in one step: virtual (the class's own method), a constructor, static -/
theorem own_cv {ret : Option FieldType} (X : Stand p l e R s m args below meth c T locs cells slots) (hx : p.tables.exec = Jvm.exec) (hZ : Z.Warmed39 s.vm) (hown : s.vm.findClass own = some m.cls) (w1 : (Jvm.Cond.methodLink own index y).before a0 Z = true) (w2 : (Jvm.Cond.declares y).before a0 Z = true) (w3 : (Jvm.Cond.selects C y y).before a0 Z = true) (w4 : (Jvm.Cond.instanceMethod y).before a0 Z = true) (wc : (Jvm.Cond.code y bytes maxL ret).before a0 Z = true) (wz : (Jvm.Cond.initialized y.cls).before a0 Z = true) (hy : y.cls ≠ "java/lang/invoke/MethodHandle" ∧ y.cls ≠ "java/lang/invoke/VarHandle")
    (hM : MetFree l y (head1 [Jvm.Cond.code y bytes maxL ret] rm) (fun A U => A = (.ref a :: argsL).toArray ∧ Z.Warmed39 U.vm ∧ U.heap = h) (fun _ _ _ _ _ => True) (fun _ U o U' => ∃ v L, o = .returned v ∧ Q v U'.heap L ∧ FrameEnd U o U' L rm.cells rm.slots)) (eT : T.heap = h) (E : Exa Z h a C) (hg : g.method = m) (hsize : g.locals.size = c.maxLocals) {rest : List Value} {W : Nat}
    (hlen : ∀ sig, parseMethodDescriptor y.desc = some sig → argsL.length = sig.parameters.length) (hstack : g.stack = argsL.reverse ++ .ref a :: rest) (hW : 2 * g.monitorRoom + (rest.map fun v => v.category).sum ≤ W) (hdg : decode c.code g.pc = .ok (.invokevirtual index, 3)) (r1 : rm.frames + 1 ≤ R.frames) (r2 : W + (maxL + 11) + rm.locals ≤ R.locals) (r3 : cells + rm.cells ≤ R.cells) (r4 : slots + rm.slots ≤ R.slots) :
    ∃ (v : Option Value) (T' : State) (L : List Loc), Stand p l e R s m args below meth c T' (locs ++ L) (cells + rm.cells) (slots + rm.slots) ∧ Q v T'.heap L ∧ ∀ t, Steps p.tables e below (T'.setTop { g with pc := g.pc + 3, stack := v.toList ++ rest }) t → Steps p.tables e below (T.setTop g) t := by
  obtain ⟨cq, kq, qa, -, qc⟩ := isOf hZ eT E
  obtain ⟨v, _, ⟨T', L', c', n'⟩, -, X', ⟨Lc, hQ, l1, y1, z1⟩, st⟩ := X.virtualBack hx (y := y) (z := y) hown (mvT hZ w1) (mvT hZ w2) (notFace_of_selects (args := #[]) (mvT hZ w3)) (mvT hZ w3) (mvT hZ w4) hy (backOf (W := W) hM hZ wc wz r1 r2) qa qc (g := g) hg hsize (Steps.refl _) (argsL := argsL) (rest := rest) hlen hstack hW hdg (fun _ _ => ⟨rfl, eT, r3, r4⟩)
  dsimp only [Pt.U, Pt.locs, Pt.cells, Pt.slots] at X' l1 y1 z1 st hQ
  subst l1 y1 z1
  exact ⟨v, T', Lc, X', hQ, fun t k => st.trans k⟩
theorem own_ci (X : Stand p l e R s m args below meth c T locs cells slots) (hx : p.tables.exec = Jvm.exec) (hZ : Z.Warmed39 s.vm) (hown : s.vm.findClass own = some m.cls) (w1 : (Jvm.Cond.methodLink own index y).before a0 Z = true) (w4 : (Jvm.Cond.instanceMethod y).before a0 Z = true) (wc : (Jvm.Cond.code y bytes maxL none).before a0 Z = true) (wz : (Jvm.Cond.initialized y.cls).before a0 Z = true) (hi : y.name = "<init>") (hy : y.cls ≠ "java/lang/invoke/MethodHandle" ∧ y.cls ≠ "java/lang/invoke/VarHandle")
    (hM : MetFree l y (head1 [Jvm.Cond.code y bytes maxL none] rm) (fun A U => A = (.ref a :: argsL).toArray ∧ Z.Warmed39 U.vm ∧ U.heap = h) (fun _ _ _ _ _ => True) (fun _ U o U' => ∃ v L, o = .returned v ∧ Q v U'.heap L ∧ FrameEnd U o U' L rm.cells rm.slots)) (eT : T.heap = h) (hg : g.method = m) (hsize : g.locals.size = c.maxLocals) {rest : List Value} {W : Nat}
    (hlen : ∀ sig, parseMethodDescriptor y.desc = some sig → argsL.length = sig.parameters.length) (hstack : g.stack = argsL.reverse ++ .ref a :: rest) (hW : 2 * g.monitorRoom + (rest.map fun v => v.category).sum ≤ W) (hdg : decode c.code g.pc = .ok (.invokespecial index, 3)) (r1 : rm.frames + 1 ≤ R.frames) (r2 : W + (maxL + 11) + rm.locals ≤ R.locals) (r3 : cells + rm.cells ≤ R.cells) (r4 : slots + rm.slots ≤ R.slots) :
    ∃ (v : Option Value) (T' : State) (L : List Loc), Stand p l e R s m args below meth c T' (locs ++ L) (cells + rm.cells) (slots + rm.slots) ∧ Q v T'.heap L ∧ ∀ t, Steps p.tables e below (T'.setTop { g with pc := g.pc + 3, stack := v.toList ++ rest }) t → Steps p.tables e below (T.setTop g) t := by
  obtain ⟨v, _, ⟨T', L', c', n'⟩, -, X', ⟨Lc, hQ, l1, y1, z1⟩, st⟩ := X.specialBack hx (y := y) hi hown (mvT hZ w1) (mvT hZ w4) (mvT hZ wc) hy (backOf (W := W) hM hZ wc wz r1 r2) (g := g) hg hsize (Steps.refl _) (a := a) (argsL := argsL) (rest := rest) hlen hstack hW hdg (fun _ _ => ⟨rfl, eT, r3, r4⟩)
  dsimp only [Pt.U, Pt.locs, Pt.cells, Pt.slots] at X' l1 y1 z1 st hQ
  subst l1 y1 z1
  exact ⟨v, T', Lc, X', hQ, fun t k => st.trans k⟩
theorem own_cs {ret : Option FieldType} (X : Stand p l e R s m args below meth c T locs cells slots) (hx : p.tables.exec = Jvm.exec) (hZ : Z.Warmed39 s.vm) (hown : s.vm.findClass own = some m.cls) (w1 : (Jvm.Cond.methodLink own index y).before a0 Z = true) (w4 : (Jvm.Cond.static y).before a0 Z = true) (wc : (Jvm.Cond.code y bytes maxL ret).before a0 Z = true) (wz : (Jvm.Cond.initialized y.cls).before a0 Z = true) (hy : y.cls ≠ "java/lang/invoke/MethodHandle" ∧ y.cls ≠ "java/lang/invoke/VarHandle")
    (hM : MetFree l y (head1 [Jvm.Cond.code y bytes maxL ret] rm) (fun A U => A = argsL.toArray ∧ Z.Warmed39 U.vm ∧ U.heap = h) (fun _ _ _ _ _ => True) (fun _ U o U' => ∃ v L, o = .returned v ∧ Q v U'.heap L ∧ FrameEnd U o U' L rm.cells rm.slots)) (eT : T.heap = h) (hg : g.method = m) (hsize : g.locals.size = c.maxLocals) {rest : List Value} {W : Nat}
    (hlen : ∀ sig, parseMethodDescriptor y.desc = some sig → argsL.length = sig.parameters.length) (hstack : g.stack = argsL.reverse ++ rest) (hW : 2 * g.monitorRoom + (rest.map fun v => v.category).sum ≤ W) (hdg : decode c.code g.pc = .ok (.invokestatic index, 3)) (r1 : rm.frames + 1 ≤ R.frames) (r2 : W + (maxL + 11) + rm.locals ≤ R.locals) (r3 : cells + rm.cells ≤ R.cells) (r4 : slots + rm.slots ≤ R.slots) :
    ∃ (v : Option Value) (T' : State) (L : List Loc), Stand p l e R s m args below meth c T' (locs ++ L) (cells + rm.cells) (slots + rm.slots) ∧ Q v T'.heap L ∧ ∀ t, Steps p.tables e below (T'.setTop { g with pc := g.pc + 3, stack := v.toList ++ rest }) t → Steps p.tables e below (T.setTop g) t := by
  obtain ⟨v, _, ⟨T', L', c', n'⟩, -, X', ⟨Lc, hQ, l1, y1, z1⟩, st⟩ := Jvm.LawKit.callS X hx (y := y) hown (mvT hZ w1) (mvT hZ w4) (mvT hZ wz) (mvT hZ wc) hy (backOf (W := W) hM hZ wc wz r1 r2) (g := g) hg hsize (argsL := argsL) (rest := rest) hlen hstack hW hdg (fun _ _ => ⟨rfl, eT, r3, r4⟩)
  dsimp only [Pt.U, Pt.locs, Pt.cells, Pt.slots] at X' l1 y1 z1 st hQ
  subst l1 y1 z1
  exact ⟨v, T', Lc, X', hQ, st⟩
end Calls
theorem own_eq_ref {args : Array Value} {s : State} {a b : Term} {w : Addr} (h : (Jvm.Cond.eq a b).value args s none s [] = some true) (hb : b.eval args s none [] s = some (.ref w)) : a.eval args s none [] s = some (.ref w) := by
  obtain ⟨x, y, e1, e2, k1, k2⟩ := cmp_v (Or.inl h)
  rw [hb] at e2
  cases e2
  have hx : x.isRef = true := by cases x <;> simp_all [Kin, Value.isRef]
  have q := gotT (eq_R e1 hb hx rfl) h
  rw [e1, q]
theorem own_ne_ref {args : Array Value} {s : State} {a b : Term} {u w : Addr} (h : (Jvm.Cond.not (Jvm.Cond.eq a b)).value args s none s [] = some true) (ha : a.eval args s none [] s = some (.ref u)) (hb : b.eval args s none [] s = some (.ref w)) : u ≠ w := fun q => gotF (eq_R ha hb rfl rfl) (not_v h) (by rw [q])
theorem own_nn_mask (x m : Int32) (k : Nat) (hk : k < 32) (hm : m.toBitVec.toNat = 2 ^ k - 1) : ¬ ((x &&& m) < (0 : Int32)) := by
  rw [Int32.lt_iff_toInt_lt, Jvm.Kit.i32_mask x m hk hm]
  have h := Int.emod_nonneg x.toInt (show ((2 : Int) ^ k) ≠ 0 from Int.ne_of_gt (Int.pow_pos (by decide)))
  rw [Int32.toInt_zero]
  omega
theorem own_lt_mask (x m : Int32) (k : Nat) (hk : k < 32) (hm : m.toBitVec.toNat = 2 ^ k - 1) {n : Int32} (hn : n.toInt = 2 ^ k) : (x &&& m) < n := by
  rw [Int32.lt_iff_toInt_lt, Jvm.Kit.i32_mask x m hk hm, hn]
  exact Int.emod_lt_of_pos _ (Int.pow_pos (by decide))
theorem own_nn_rem {x : Int32} (n : Int32) (h : ¬ (x < (0 : Int32))) : ¬ (x % n < (0 : Int32)) := by
  rw [Int32.lt_iff_toInt_lt, Int32.toInt_zero] at h ⊢
  rw [Int32.toInt_mod]
  have := Int.tmod_nonneg n.toInt (show 0 ≤ x.toInt by omega)
  omega
theorem own_pos {n : Int32} (h : (0 : Int32) < n) : 0 < n.toInt := by
  rw [Int32.lt_iff_toInt_lt, Int32.toInt_zero] at h
  exact h
theorem own_ne0 {n : Int32} (h : (0 : Int32) < n) : n ≠ 0 := fun q => by
  rw [q] at h
  exact absurd h (by decide)
theorem own_lt_rem {x : Int32} (n : Int32) (h : ¬ (x < (0 : Int32))) (hn : 0 < n.toInt) : x % n < n := by
  rw [Int32.lt_iff_toInt_lt] at h ⊢
  rw [Int32.toInt_zero] at h
  rw [Jvm.Kit.i32_rem_nonneg (by omega)]
  exact Int.emod_lt_of_pos _ hn
theorem own_modlo (x n : Int32) (hn : 0 < n.toInt) : 0 ≤ ((x &&& (2147483647 : Int32)) % n).toInt := by
  have a := Jvm.Kit.i32_mask x 2147483647 (k := 31) (by decide) (by decide)
  rw [Jvm.Kit.i32_rem_nonneg (by omega)]
  exact Int.emod_nonneg _ (by omega)
theorem own_modhi (x n : Int32) (hn : 0 < n.toInt) : ((x &&& (2147483647 : Int32)) % n).toInt < n.toInt := by
  have a := Jvm.Kit.i32_mask x 2147483647 (k := 31) (by decide) (by decide)
  rw [Jvm.Kit.i32_rem_nonneg (by omega)]
  exact Int.emod_lt_of_pos _ hn
abbrev zs1 : String := "com/example/pencilmark/pencilmark/cli/ExitStatus"
abbrev zs2 : String := "(Lcom/example/pencilmark/pencilmark/cli/ExitStatus;Lcom/example/pencilmark/pencilmark/cli/ExitStatus;)Lcom/example/pencilmark/pencilmark/cli/ExitStatus;"
abbrev zs3 : String := "(Lcom/example/pencilmark/pencilmark/cli/ExitStatus;)Lcom/example/pencilmark/pencilmark/cli/ExitStatus;"
abbrev zs4 : String := "com/example/pencilmark/pencilmark/cli/ExitStatusWorsePinLaw"
abbrev zs5 : String := "Lcom/example/pencilmark/pencilmark/cli/ExitStatus;"
abbrev zs6 : String := "java/lang/Enum"
theorem d1_0 : decode method_2_code 0 = .ok (.iload_n 0, 1) := by decide +kernel
theorem d1_1 : decode method_2_code 1 = .ok (.ldc 7, 2) := by decide +kernel
theorem d1_3 : decode method_2_code 3 = .ok (.iand, 1) := by decide +kernel
theorem d1_4 : decode method_2_code 4 = .ok (.iconst 3, 1) := by decide +kernel
theorem d1_5 : decode method_2_code 5 = .ok (.irem, 1) := by decide +kernel
theorem d1_6 : decode method_2_code 6 = .ok (.istore_n 1, 1) := by decide +kernel
theorem d1_7 : decode method_2_code 7 = .ok (.iload_n 1, 1) := by decide +kernel
theorem d1_8 : decode method_2_code 8 = .ok (.ifCond .ne 7, 3) := by decide +kernel
theorem d1_11 : decode method_2_code 11 = .ok (.getstatic 8, 3) := by decide +kernel
theorem d1_14 : decode method_2_code 14 = .ok (.areturn, 1) := by decide +kernel
theorem d1_15 : decode method_2_code 15 = .ok (.iload_n 1, 1) := by decide +kernel
theorem d1_16 : decode method_2_code 16 = .ok (.iconst 1, 1) := by decide +kernel
theorem d1_17 : decode method_2_code 17 = .ok (.if_icmp .ne 7, 3) := by decide +kernel
theorem d1_20 : decode method_2_code 20 = .ok (.getstatic 14, 3) := by decide +kernel
theorem d1_23 : decode method_2_code 23 = .ok (.areturn, 1) := by decide +kernel
theorem d1_24 : decode method_2_code 24 = .ok (.getstatic 17, 3) := by decide +kernel
theorem d1_27 : decode method_2_code 27 = .ok (.areturn, 1) := by decide +kernel
theorem ef_1 (m : MethodId) (x0 : Int32) : entryFrame m #[(.int x0)] 2 = mkF m 0 #[iv x0, .unset] [] := by first | (simp [entryFrame, mkF, argsToLocals, Value.category]; done) | rfl
theorem pn_1 : plainName "com/example/pencilmark/pencilmark/cli/ExitStatusWorsePinLaw" = true := by first | (simp [plainName, overriddenIn]; done) | decide +kernel
def Q1 (Z : State) (p30 : Int32) (w17 : Addr) (w24 : Addr) (w20 : Addr) (h0 : Heap) (n0 : Nat) (v : Option Value) (h : Heap) (L : List Loc) : Prop := (((p30 &&& (2147483647 : Int32)) % (3 : Int32)) = (0 : Int32) ∧ v = some (.ref w17) ∧ Fr n0 L ∧ h = h0) ∨ (¬ (((p30 &&& (2147483647 : Int32)) % (3 : Int32)) = (0 : Int32)) ∧ ((p30 &&& (2147483647 : Int32)) % (3 : Int32)) = (1 : Int32) ∧ v = some (.ref w24) ∧ Fr n0 L ∧ h = h0) ∨ (¬ (((p30 &&& (2147483647 : Int32)) % (3 : Int32)) = (0 : Int32)) ∧ ¬ (((p30 &&& (2147483647 : Int32)) % (3 : Int32)) = (1 : Int32)) ∧ v = some (.ref w20) ∧ Fr n0 L ∧ h = h0)
set_option maxRecDepth 65536 in
set_option maxHeartbeats 40000000 in
theorem rm1 (l : Launch) (Z : State) (a0 : Array Value) (hw : ∀ d ∈ tables_1, d.before a0 Z = true) (ws : List Jvm.Cond) (p30 : Int32) (w17 : Addr) (w24 : Addr) (w20 : Addr) (h0 : Heap) (n0 : Nat) (O0 : Old Z n0 h0) (S_ExitStatus_OK : Sta Z Z.heap zs1 "OK" zs5 (.ref w17)) (S_ExitStatus_NOT_UNIQUE : Sta Z Z.heap zs1 "NOT_UNIQUE" zs5 (.ref w24)) (S_ExitStatus_INVALID : Sta Z Z.heap zs1 "INVALID" zs5 (.ref w20)) :
    MetFree l (⟨zs4, "pick", "(I)Lcom/example/pencilmark/pencilmark/cli/ExitStatus;"⟩ : MethodName) (head1 (Jvm.Cond.code (⟨zs4, "pick", "(I)Lcom/example/pencilmark/pencilmark/cli/ExitStatus;"⟩ : MethodName) method_2_code 2 (some (.object zs1)) :: ws) ({ frames := 0, cells := 0, slots := 0, locals := 0 } : Room)) (fun a U => a = #[(.int p30)] ∧ Z.Warmed39 U.vm ∧ U.heap = h0) (fun _ _ _ _ _ => True) (fun _ U o U' => ∃ v L, o = .returned v ∧ Q1 Z p30 w17 w24 w20 h0 n0 v U'.heap L ∧ FrameEnd U o U' L ({ frames := 0, cells := 0, slots := 0, locals := 0 } : Room).cells ({ frames := 0, cells := 0, slots := 0, locals := 0 } : Room).slots) := by
  refine MetFree.of_bodySF (plainFor_of_name pn_1) hisR ?_
  intro p e s m args below meth c s₁ Bd hml0 hP hK
  obtain ⟨rfl, hZ, hh⟩ := hP
  have hx := Bd.exec
  have hby := Bd.bytes
  have hml : c.maxLocals = 2 := hml0
  have hown : s.vm.findClass zs4 = some m.cls := findClass_of_methodNamed Bd.named
  have hnm := (name_of_methodNamed Bd.named Bd.method).1
  have X0 : Stand p l e ({ frames := 0, cells := 0, slots := 0, locals := 0 } : Room) s m #[(.int p30)] below meth c s₁ [] 0 0 := Stand.of_body Bd
  have e0 : s₁.heap = h0 := by rw [← hh, Bd.state]; rfl
  have N0 := Fr.nil n0
  refine own_out ?_
  refine own_via (fun t k => castTop (ef_1 m p30) (XS.iloadN X0.here hx rfl (hb hby d1_0) rfl (X0.ldcInt hx hown (mvT hZ (wd hw 4 rfl)) (g := (mkF m 1 #[iv p30, .unset] [(.int p30)])) rfl (hb hby d1_1) t (XS.iand X0.here hx rfl (hb hby d1_3) rfl (XS.iconst X0.here hx rfl (hb hby d1_4) (iremM (g := (mkF m 5 #[iv p30, .unset] [(.int (3 : Int32)), (.int (p30 &&& (2147483647 : Int32)))])) X0 hx rfl (hb hby d1_5) rfl (by decide) (XS.istoreN X0.here hx rfl (hb hby d1_6) rfl (l' := #[iv p30, iv ((p30 &&& (2147483647 : Int32)) % (3 : Int32))]) rfl (XS.iloadN X0.here hx rfl (hb hby d1_7) rfl k)))))))) ?_
  show own_Goes p e below (s₁.setTop (mkF m 8 #[iv p30, iv ((p30 &&& (2147483647 : Int32)) % (3 : Int32))] [(.int ((p30 &&& (2147483647 : Int32)) % (3 : Int32)))])) _
  by_cases hc31 : ((p30 &&& (2147483647 : Int32)) % (3 : Int32)) = (0 : Int32)
  · refine own_via (fun t k => XS.ifNo X0.here hx rfl (hb hby d1_8) rfl ((if0 _ _).trans (teq hc31).2) k) ?_
    obtain ⟨T32, X32, e32, st32⟩ := getS2 X0 hx hZ hown (host := "") (Or.inl (wd hw 5 rfl)) Via.refl e0 (S_ExitStatus_OK.ext O0.2) (g := (mkF m 11 #[iv p30, iv ((p30 &&& (2147483647 : Int32)) % (3 : Int32))] [])) rfl (hb hby d1_11)
    refine own_via (fun t k => st32 t k) ?_
    obtain ⟨fs, hr, hrun, hended, hW, hsame⟩ := X32.leave (v := some (.ref w17)) (fun h => by rw [Bd.returns] at h; cases h)
    refine own_end (t := T32.setFrames fs) ?_ ⟨_, hrun, hended, _, _, rfl, ?_, ⟨_, rfl⟩, hW, hsame.mono (by decide) (by decide)⟩
    · jvm_step X32.here [X32.here.top, hx, (hb hby d1_14), X32.method', Bd.returns, Value.isRef, FieldType.isReference]
      first | (intro acts; rw [hr _ acts rfl rfl rfl]) | rw [hr _ _ rfl rfl rfl]
      exact Steps.refl _
    · show Q1 Z p30 w17 w24 w20 h0 n0 _ T32.heap _
      rw [e32]
      exact Or.inl <| ⟨hc31, rfl, N0, rfl⟩
  · refine own_via (fun t k => XS.ifYes X0.here hx rfl (pc0 := 8) (pc' := 15) rfl (hb hby d1_8) rfl ((if0 _ _).trans (feq hc31).2) (by decide) (by decide) (XS.iloadN X0.here hx rfl (hb hby d1_15) rfl (XS.iconst X0.here hx rfl (hb hby d1_16) k))) ?_
    show own_Goes p e below (s₁.setTop (mkF m 17 #[iv p30, iv ((p30 &&& (2147483647 : Int32)) % (3 : Int32))] [(.int (1 : Int32)), (.int ((p30 &&& (2147483647 : Int32)) % (3 : Int32)))])) _
    by_cases hc33 : ((p30 &&& (2147483647 : Int32)) % (3 : Int32)) = (1 : Int32)
    · refine own_via (fun t k => XS.icmpNo X0.here hx rfl (hb hby d1_17) rfl (teq hc33).2 k) ?_
      obtain ⟨T34, X34, e34, st34⟩ := getS2 X0 hx hZ hown (host := "") (Or.inl (wd hw 20 rfl)) Via.refl e0 (S_ExitStatus_NOT_UNIQUE.ext O0.2) (g := (mkF m 20 #[iv p30, iv ((p30 &&& (2147483647 : Int32)) % (3 : Int32))] [])) rfl (hb hby d1_20)
      refine own_via (fun t k => st34 t k) ?_
      obtain ⟨fs, hr, hrun, hended, hW, hsame⟩ := X34.leave (v := some (.ref w24)) (fun h => by rw [Bd.returns] at h; cases h)
      refine own_end (t := T34.setFrames fs) ?_ ⟨_, hrun, hended, _, _, rfl, ?_, ⟨_, rfl⟩, hW, hsame.mono (by decide) (by decide)⟩
      · jvm_step X34.here [X34.here.top, hx, (hb hby d1_23), X34.method', Bd.returns, Value.isRef, FieldType.isReference]
        first | (intro acts; rw [hr _ acts rfl rfl rfl]) | rw [hr _ _ rfl rfl rfl]
        exact Steps.refl _
      · show Q1 Z p30 w17 w24 w20 h0 n0 _ T34.heap _
        rw [e34]
        exact Or.inr <| Or.inl <| ⟨hc31, hc33, rfl, N0, rfl⟩
    · refine own_via (fun t k => XS.icmpYes X0.here hx rfl (pc0 := 17) (pc' := 24) rfl (hb hby d1_17) rfl (feq hc33).2 (by decide) (by decide) k) ?_
      obtain ⟨T35, X35, e35, st35⟩ := getS2 X0 hx hZ hown (host := "") (Or.inl (wd hw 18 rfl)) Via.refl e0 (S_ExitStatus_INVALID.ext O0.2) (g := (mkF m 24 #[iv p30, iv ((p30 &&& (2147483647 : Int32)) % (3 : Int32))] [])) rfl (hb hby d1_24)
      refine own_via (fun t k => st35 t k) ?_
      obtain ⟨fs, hr, hrun, hended, hW, hsame⟩ := X35.leave (v := some (.ref w20)) (fun h => by rw [Bd.returns] at h; cases h)
      refine own_end (t := T35.setFrames fs) ?_ ⟨_, hrun, hended, _, _, rfl, ?_, ⟨_, rfl⟩, hW, hsame.mono (by decide) (by decide)⟩
      · jvm_step X35.here [X35.here.top, hx, (hb hby d1_27), X35.method', Bd.returns, Value.isRef, FieldType.isReference]
        first | (intro acts; rw [hr _ acts rfl rfl rfl]) | rw [hr _ _ rfl rfl rfl]
        exact Steps.refl _
      · show Q1 Z p30 w17 w24 w20 h0 n0 _ T35.heap _
        rw [e35]
        exact Or.inr <| Or.inr <| ⟨hc31, hc33, rfl, N0, rfl⟩
theorem pd_1 : parseMethodDescriptor "(I)Lcom/example/pencilmark/pencilmark/cli/ExitStatus;" = some ⟨[.int], some (.object "com/example/pencilmark/pencilmark/cli/ExitStatus")⟩ := by decide +kernel
theorem d2_0 : decode prog_4_method_6_code 0 = .ok (.aload_n 1, 1) := by decide +kernel
theorem d2_1 : decode prog_4_method_6_code 1 = .ok (.getfield 32, 3) := by decide +kernel
theorem d2_4 : decode prog_4_method_6_code 4 = .ok (.aload_n 0, 1) := by decide +kernel
theorem d2_5 : decode prog_4_method_6_code 5 = .ok (.getfield 32, 3) := by decide +kernel
theorem d2_8 : decode prog_4_method_6_code 8 = .ok (.if_icmp .le 7, 3) := by decide +kernel
theorem d2_15 : decode prog_4_method_6_code 15 = .ok (.aload_n 0, 1) := by decide +kernel
theorem d2_16 : decode prog_4_method_6_code 16 = .ok (.areturn, 1) := by decide +kernel
theorem ef_2 (m : MethodId) (x0 : Addr) (x1 : Addr) : entryFrame m #[(.ref x0), (.ref x1)] 2 = mkF m 0 #[rv x0, rv x1] [] := by first | (simp [entryFrame, mkF, argsToLocals, Value.category]; done) | rfl
theorem pn_2 : plainName "com/example/pencilmark/pencilmark/cli/ExitStatus" = true := by first | (simp [plainName, overriddenIn]; done) | decide +kernel
def Q2 (Z : State) (w17 : Addr) (h0 : Heap) (n0 : Nat) (v : Option Value) (h : Heap) (L : List Loc) : Prop := v = some (.ref w17) ∧ Fr n0 L ∧ h = h0
set_option maxRecDepth 65536 in
set_option maxHeartbeats 40000000 in
theorem rm2 (l : Launch) (Z : State) (a0 : Array Value) (hw : ∀ d ∈ tables_1, d.before a0 Z = true) (ws : List Jvm.Cond) (w17 : Addr) (h0 : Heap) (n0 : Nat) (O0 : Old Z n0 h0) (SF_w17_code : Fld Z Z.heap w17 zs1 "code" "I" (.int (0 : Int32))) :
    MetFree l (⟨zs1, "worse", zs3⟩ : MethodName) (head1 (Jvm.Cond.code (⟨zs1, "worse", zs3⟩ : MethodName) prog_4_method_6_code 2 (some (.object zs1)) :: ws) ({ frames := 0, cells := 0, slots := 0, locals := 0 } : Room)) (fun a U => a = #[(.ref w17), (.ref w17)] ∧ Z.Warmed39 U.vm ∧ U.heap = h0) (fun _ _ _ _ _ => True) (fun _ U o U' => ∃ v L, o = .returned v ∧ Q2 Z w17 h0 n0 v U'.heap L ∧ FrameEnd U o U' L ({ frames := 0, cells := 0, slots := 0, locals := 0 } : Room).cells ({ frames := 0, cells := 0, slots := 0, locals := 0 } : Room).slots) := by
  refine MetFree.of_bodySF (plainFor_of_name pn_2) hisR ?_
  intro p e s m args below meth c s₁ Bd hml0 hP hK
  obtain ⟨rfl, hZ, hh⟩ := hP
  have hx := Bd.exec
  have hby := Bd.bytes
  have hml : c.maxLocals = 2 := hml0
  have hown : s.vm.findClass zs1 = some m.cls := findClass_of_methodNamed Bd.named
  have hnm := (name_of_methodNamed Bd.named Bd.method).1
  have X0 : Stand p l e ({ frames := 0, cells := 0, slots := 0, locals := 0 } : Room) s m #[(.ref w17), (.ref w17)] below meth c s₁ [] 0 0 := Stand.of_body Bd
  have e0 : s₁.heap = h0 := by rw [← hh, Bd.state]; rfl
  have N0 := Fr.nil n0
  refine own_out ?_
  refine own_via (fun t k => castTop (ef_2 m w17 w17) (XS.aloadN X0.here hx rfl (hb hby d2_0) rfl rfl k)) ?_
  obtain ⟨T58, X58, e58, st58⟩ := getF X0 hx hZ hown (host := "") (Or.inl (wd hw 13 rfl)) Via.refl e0 (SF_w17_code.ext O0.2) (g := (mkF m 1 #[rv w17, rv w17] [(.ref w17)])) rfl rfl (hb hby d2_1)
  refine own_via (fun t k => st58 t (XS.aloadN X58.here hx rfl (hb hby d2_4) rfl rfl k)) ?_
  obtain ⟨T59, X59, e59, st59⟩ := getF X58 hx hZ hown (host := "") (Or.inl (wd hw 13 rfl)) Via.refl e58 (SF_w17_code.ext O0.2) (g := (mkF m 5 #[rv w17, rv w17] [(.ref w17), (.int (0 : Int32))])) rfl rfl (hb hby d2_5)
  refine own_via (fun t k => st59 t (XS.icmpYes X59.here hx rfl (pc0 := 8) (pc' := 15) rfl (hb hby d2_8) rfl (flt (by decide : ¬ ((0 : Int32) < (0 : Int32)))).2.2.2 (by decide) (by decide) (XS.aloadN X59.here hx rfl (hb hby d2_15) rfl rfl k))) ?_
  obtain ⟨fs, hr, hrun, hended, hW, hsame⟩ := X59.leave (v := some (.ref w17)) (fun h => by rw [Bd.returns] at h; cases h)
  refine own_end (t := T59.setFrames fs) ?_ ⟨_, hrun, hended, _, _, rfl, ?_, ⟨_, rfl⟩, hW, hsame.mono (by decide) (by decide)⟩
  · jvm_step X59.here [X59.here.top, hx, (hb hby d2_16), X59.method', Bd.returns, Value.isRef, FieldType.isReference]
    first | (intro acts; rw [hr _ acts rfl rfl rfl]) | rw [hr _ _ rfl rfl rfl]
    exact Steps.refl _
  · show Q2 Z w17 h0 n0 _ T59.heap _
    rw [e59]
    exact ⟨rfl, N0, rfl⟩
theorem pd_2 : parseMethodDescriptor "(Lcom/example/pencilmark/pencilmark/cli/ExitStatus;)Lcom/example/pencilmark/pencilmark/cli/ExitStatus;" = some ⟨[(.object "com/example/pencilmark/pencilmark/cli/ExitStatus")], some (.object "com/example/pencilmark/pencilmark/cli/ExitStatus")⟩ := by decide +kernel
theorem d3_0 : decode method_3_code 0 = .ok (.aload_n 0, 1) := by decide +kernel
theorem d3_1 : decode method_3_code 1 = .ok (.getstatic 17, 3) := by decide +kernel
theorem d3_4 : decode method_3_code 4 = .ok (.if_acmp .eq 10, 3) := by decide +kernel
theorem d3_7 : decode method_3_code 7 = .ok (.aload_n 1, 1) := by decide +kernel
theorem d3_8 : decode method_3_code 8 = .ok (.getstatic 17, 3) := by decide +kernel
theorem d3_11 : decode method_3_code 11 = .ok (.if_acmp .ne 7, 3) := by decide +kernel
theorem d3_18 : decode method_3_code 18 = .ok (.aload_n 0, 1) := by decide +kernel
theorem d3_19 : decode method_3_code 19 = .ok (.getstatic 14, 3) := by decide +kernel
theorem d3_22 : decode method_3_code 22 = .ok (.if_acmp .eq 10, 3) := by decide +kernel
theorem d3_25 : decode method_3_code 25 = .ok (.aload_n 1, 1) := by decide +kernel
theorem d3_26 : decode method_3_code 26 = .ok (.getstatic 14, 3) := by decide +kernel
theorem d3_29 : decode method_3_code 29 = .ok (.if_acmp .ne 7, 3) := by decide +kernel
theorem d3_36 : decode method_3_code 36 = .ok (.getstatic 8, 3) := by decide +kernel
theorem d3_39 : decode method_3_code 39 = .ok (.areturn, 1) := by decide +kernel
theorem ef_3 (m : MethodId) (x0 : Addr) (x1 : Addr) : entryFrame m #[(.ref x0), (.ref x1)] 2 = mkF m 0 #[rv x0, rv x1] [] := by first | (simp [entryFrame, mkF, argsToLocals, Value.category]; done) | rfl
def Q3 (Z : State) (w17 : Addr) (w20 : Addr) (w24 : Addr) (h0 : Heap) (n0 : Nat) (v : Option Value) (h : Heap) (L : List Loc) : Prop := v = some (.ref w17) ∧ Fr n0 L ∧ h = h0
set_option maxRecDepth 65536 in
set_option maxHeartbeats 40000000 in
theorem rm3 (l : Launch) (Z : State) (a0 : Array Value) (hw : ∀ d ∈ tables_1, d.before a0 Z = true) (ws : List Jvm.Cond) (w17 : Addr) (w20 : Addr) (w24 : Addr) (h0 : Heap) (n0 : Nat) (O0 : Old Z n0 h0) (S_ExitStatus_INVALID : Sta Z Z.heap zs1 "INVALID" zs5 (.ref w20)) (SF_w17_code : Fld Z Z.heap w17 zs1 "code" "I" (.int (0 : Int32))) (SF_w20_code : Fld Z Z.heap w20 zs1 "code" "I" (.int (2 : Int32))) (S_ExitStatus_NOT_UNIQUE : Sta Z Z.heap zs1 "NOT_UNIQUE" zs5 (.ref w24)) (SF_w24_code : Fld Z Z.heap w24 zs1 "code" "I" (.int (1 : Int32))) (S_ExitStatus_OK : Sta Z Z.heap zs1 "OK" zs5 (.ref w17)) :
    MetFree l (⟨zs4, "expected", zs2⟩ : MethodName) (head1 (Jvm.Cond.code (⟨zs4, "expected", zs2⟩ : MethodName) method_3_code 2 (some (.object zs1)) :: ws) ({ frames := 0, cells := 0, slots := 0, locals := 0 } : Room)) (fun a U => a = #[(.ref w17), (.ref w17)] ∧ Z.Warmed39 U.vm ∧ U.heap = h0) (fun _ _ _ _ _ => True) (fun _ U o U' => ∃ v L, o = .returned v ∧ Q3 Z w17 w20 w24 h0 n0 v U'.heap L ∧ FrameEnd U o U' L ({ frames := 0, cells := 0, slots := 0, locals := 0 } : Room).cells ({ frames := 0, cells := 0, slots := 0, locals := 0 } : Room).slots) := by
  refine MetFree.of_bodySF (plainFor_of_name pn_1) hisR ?_
  intro p e s m args below meth c s₁ Bd hml0 hP hK
  obtain ⟨rfl, hZ, hh⟩ := hP
  have hx := Bd.exec
  have hby := Bd.bytes
  have hml : c.maxLocals = 2 := hml0
  have hown : s.vm.findClass zs4 = some m.cls := findClass_of_methodNamed Bd.named
  have hnm := (name_of_methodNamed Bd.named Bd.method).1
  have X0 : Stand p l e ({ frames := 0, cells := 0, slots := 0, locals := 0 } : Room) s m #[(.ref w17), (.ref w17)] below meth c s₁ [] 0 0 := Stand.of_body Bd
  have e0 : s₁.heap = h0 := by rw [← hh, Bd.state]; rfl
  have N0 := Fr.nil n0
  refine own_out ?_
  refine own_via (fun t k => castTop (ef_3 m w17 w17) (XS.aloadN X0.here hx rfl (hb hby d3_0) rfl rfl k)) ?_
  obtain ⟨T66, X66, e66, st66⟩ := getS2 X0 hx hZ hown (host := "") (Or.inl (wd hw 18 rfl)) Via.refl e0 (S_ExitStatus_INVALID.ext O0.2) (g := (mkF m 1 #[rv w17, rv w17] [(.ref w17)])) rfl (hb hby d3_1)
  refine own_via (fun t k => st66 t (Jvm.RoadKit.acmp (g := (mkF m 4 #[rv w17, rv w17] [(.ref w20), (.ref w17)])) X66 hx rfl rfl rfl (pc0 := 4) (pc' := 7) (same := false) rfl (hb hby d3_4) rfl (decide_eq_false fun q => (Fld.ne SF_w17_code SF_w20_code (by decide)) (Value.ref.inj q)) (by decide) (by decide) (XS.aloadN X66.here hx rfl (hb hby d3_7) rfl rfl k))) ?_
  obtain ⟨T67, X67, e67, st67⟩ := getS2 X66 hx hZ hown (host := "") (Or.inl (wd hw 18 rfl)) Via.refl e66 (S_ExitStatus_INVALID.ext O0.2) (g := (mkF m 8 #[rv w17, rv w17] [(.ref w17)])) rfl (hb hby d3_8)
  refine own_via (fun t k => st67 t (Jvm.RoadKit.acmp (g := (mkF m 11 #[rv w17, rv w17] [(.ref w20), (.ref w17)])) X67 hx rfl rfl rfl (pc0 := 11) (pc' := 18) (same := false) rfl (hb hby d3_11) rfl (decide_eq_false fun q => (Fld.ne SF_w17_code SF_w20_code (by decide)) (Value.ref.inj q)) (by decide) (by decide) (XS.aloadN X67.here hx rfl (hb hby d3_18) rfl rfl k))) ?_
  obtain ⟨T68, X68, e68, st68⟩ := getS2 X67 hx hZ hown (host := "") (Or.inl (wd hw 20 rfl)) Via.refl e67 (S_ExitStatus_NOT_UNIQUE.ext O0.2) (g := (mkF m 19 #[rv w17, rv w17] [(.ref w17)])) rfl (hb hby d3_19)
  refine own_via (fun t k => st68 t (Jvm.RoadKit.acmp (g := (mkF m 22 #[rv w17, rv w17] [(.ref w24), (.ref w17)])) X68 hx rfl rfl rfl (pc0 := 22) (pc' := 25) (same := false) rfl (hb hby d3_22) rfl (decide_eq_false fun q => (Fld.ne SF_w17_code SF_w24_code (by decide)) (Value.ref.inj q)) (by decide) (by decide) (XS.aloadN X68.here hx rfl (hb hby d3_25) rfl rfl k))) ?_
  obtain ⟨T69, X69, e69, st69⟩ := getS2 X68 hx hZ hown (host := "") (Or.inl (wd hw 20 rfl)) Via.refl e68 (S_ExitStatus_NOT_UNIQUE.ext O0.2) (g := (mkF m 26 #[rv w17, rv w17] [(.ref w17)])) rfl (hb hby d3_26)
  refine own_via (fun t k => st69 t (Jvm.RoadKit.acmp (g := (mkF m 29 #[rv w17, rv w17] [(.ref w24), (.ref w17)])) X69 hx rfl rfl rfl (pc0 := 29) (pc' := 36) (same := false) rfl (hb hby d3_29) rfl (decide_eq_false fun q => (Fld.ne SF_w17_code SF_w24_code (by decide)) (Value.ref.inj q)) (by decide) (by decide) k)) ?_
  obtain ⟨T70, X70, e70, st70⟩ := getS2 X69 hx hZ hown (host := "") (Or.inl (wd hw 5 rfl)) Via.refl e69 (S_ExitStatus_OK.ext O0.2) (g := (mkF m 36 #[rv w17, rv w17] [])) rfl (hb hby d3_36)
  refine own_via (fun t k => st70 t k) ?_
  obtain ⟨fs, hr, hrun, hended, hW, hsame⟩ := X70.leave (v := some (.ref w17)) (fun h => by rw [Bd.returns] at h; cases h)
  refine own_end (t := T70.setFrames fs) ?_ ⟨_, hrun, hended, _, _, rfl, ?_, ⟨_, rfl⟩, hW, hsame.mono (by decide) (by decide)⟩
  · jvm_step X70.here [X70.here.top, hx, (hb hby d3_39), X70.method', Bd.returns, Value.isRef, FieldType.isReference]
    first | (intro acts; rw [hr _ acts rfl rfl rfl]) | rw [hr _ _ rfl rfl rfl]
    exact Steps.refl _
  · show Q3 Z w17 w20 w24 h0 n0 _ T70.heap _
    rw [e70]
    exact ⟨rfl, N0, rfl⟩
theorem pd_3 : parseMethodDescriptor "(Lcom/example/pencilmark/pencilmark/cli/ExitStatus;Lcom/example/pencilmark/pencilmark/cli/ExitStatus;)Lcom/example/pencilmark/pencilmark/cli/ExitStatus;" = some ⟨[(.object "com/example/pencilmark/pencilmark/cli/ExitStatus"), (.object "com/example/pencilmark/pencilmark/cli/ExitStatus")], some (.object "com/example/pencilmark/pencilmark/cli/ExitStatus")⟩ := by decide +kernel
theorem d2_11 : decode prog_4_method_6_code 11 = .ok (.aload_n 1, 1) := by decide +kernel
theorem d2_12 : decode prog_4_method_6_code 12 = .ok (.goto 4, 3) := by decide +kernel
def Q4 (Z : State) (w17 : Addr) (w24 : Addr) (h0 : Heap) (n0 : Nat) (v : Option Value) (h : Heap) (L : List Loc) : Prop := v = some (.ref w24) ∧ Fr n0 L ∧ h = h0
set_option maxRecDepth 65536 in
set_option maxHeartbeats 40000000 in
theorem rm4 (l : Launch) (Z : State) (a0 : Array Value) (hw : ∀ d ∈ tables_1, d.before a0 Z = true) (ws : List Jvm.Cond) (w17 : Addr) (w24 : Addr) (h0 : Heap) (n0 : Nat) (O0 : Old Z n0 h0) (SF_w24_code : Fld Z Z.heap w24 zs1 "code" "I" (.int (1 : Int32))) (SF_w17_code : Fld Z Z.heap w17 zs1 "code" "I" (.int (0 : Int32))) :
    MetFree l (⟨zs1, "worse", zs3⟩ : MethodName) (head1 (Jvm.Cond.code (⟨zs1, "worse", zs3⟩ : MethodName) prog_4_method_6_code 2 (some (.object zs1)) :: ws) ({ frames := 0, cells := 0, slots := 0, locals := 0 } : Room)) (fun a U => a = #[(.ref w17), (.ref w24)] ∧ Z.Warmed39 U.vm ∧ U.heap = h0) (fun _ _ _ _ _ => True) (fun _ U o U' => ∃ v L, o = .returned v ∧ Q4 Z w17 w24 h0 n0 v U'.heap L ∧ FrameEnd U o U' L ({ frames := 0, cells := 0, slots := 0, locals := 0 } : Room).cells ({ frames := 0, cells := 0, slots := 0, locals := 0 } : Room).slots) := by
  refine MetFree.of_bodySF (plainFor_of_name pn_2) hisR ?_
  intro p e s m args below meth c s₁ Bd hml0 hP hK
  obtain ⟨rfl, hZ, hh⟩ := hP
  have hx := Bd.exec
  have hby := Bd.bytes
  have hml : c.maxLocals = 2 := hml0
  have hown : s.vm.findClass zs1 = some m.cls := findClass_of_methodNamed Bd.named
  have hnm := (name_of_methodNamed Bd.named Bd.method).1
  have X0 : Stand p l e ({ frames := 0, cells := 0, slots := 0, locals := 0 } : Room) s m #[(.ref w17), (.ref w24)] below meth c s₁ [] 0 0 := Stand.of_body Bd
  have e0 : s₁.heap = h0 := by rw [← hh, Bd.state]; rfl
  have N0 := Fr.nil n0
  refine own_out ?_
  refine own_via (fun t k => castTop (ef_2 m w17 w24) (XS.aloadN X0.here hx rfl (hb hby d2_0) rfl rfl k)) ?_
  obtain ⟨T78, X78, e78, st78⟩ := getF X0 hx hZ hown (host := "") (Or.inl (wd hw 13 rfl)) Via.refl e0 (SF_w24_code.ext O0.2) (g := (mkF m 1 #[rv w17, rv w24] [(.ref w24)])) rfl rfl (hb hby d2_1)
  refine own_via (fun t k => st78 t (XS.aloadN X78.here hx rfl (hb hby d2_4) rfl rfl k)) ?_
  obtain ⟨T79, X79, e79, st79⟩ := getF X78 hx hZ hown (host := "") (Or.inl (wd hw 13 rfl)) Via.refl e78 (SF_w17_code.ext O0.2) (g := (mkF m 5 #[rv w17, rv w24] [(.ref w17), (.int (1 : Int32))])) rfl rfl (hb hby d2_5)
  refine own_via (fun t k => st79 t (XS.icmpNo X79.here hx rfl (hb hby d2_8) rfl (tlt (by decide : (0 : Int32) < (1 : Int32))).2.2.2 (XS.aloadN X79.here hx rfl (hb hby d2_11) rfl rfl (XS.goto X79.here hx rfl (pc0 := 12) (pc' := 16) rfl (hb hby d2_12) (by decide) (by decide) k)))) ?_
  obtain ⟨fs, hr, hrun, hended, hW, hsame⟩ := X79.leave (v := some (.ref w24)) (fun h => by rw [Bd.returns] at h; cases h)
  refine own_end (t := T79.setFrames fs) ?_ ⟨_, hrun, hended, _, _, rfl, ?_, ⟨_, rfl⟩, hW, hsame.mono (by decide) (by decide)⟩
  · jvm_step X79.here [X79.here.top, hx, (hb hby d2_16), X79.method', Bd.returns, Value.isRef, FieldType.isReference]
    first | (intro acts; rw [hr _ acts rfl rfl rfl]) | rw [hr _ _ rfl rfl rfl]
    exact Steps.refl _
  · show Q4 Z w17 w24 h0 n0 _ T79.heap _
    rw [e79]
    exact ⟨rfl, N0, rfl⟩
theorem d3_32 : decode method_3_code 32 = .ok (.getstatic 14, 3) := by decide +kernel
theorem d3_35 : decode method_3_code 35 = .ok (.areturn, 1) := by decide +kernel
def Q5 (Z : State) (w17 : Addr) (w24 : Addr) (w20 : Addr) (h0 : Heap) (n0 : Nat) (v : Option Value) (h : Heap) (L : List Loc) : Prop := v = some (.ref w24) ∧ Fr n0 L ∧ h = h0
set_option maxRecDepth 65536 in
set_option maxHeartbeats 40000000 in
theorem rm5 (l : Launch) (Z : State) (a0 : Array Value) (hw : ∀ d ∈ tables_1, d.before a0 Z = true) (ws : List Jvm.Cond) (w17 : Addr) (w24 : Addr) (w20 : Addr) (h0 : Heap) (n0 : Nat) (O0 : Old Z n0 h0) (S_ExitStatus_INVALID : Sta Z Z.heap zs1 "INVALID" zs5 (.ref w20)) (SF_w17_code : Fld Z Z.heap w17 zs1 "code" "I" (.int (0 : Int32))) (SF_w20_code : Fld Z Z.heap w20 zs1 "code" "I" (.int (2 : Int32))) (SF_w24_ordinal : Fld Z Z.heap w24 zs6 "ordinal" "I" (.int (1 : Int32))) (SF_w20_ordinal : Fld Z Z.heap w20 zs6 "ordinal" "I" (.int (2 : Int32))) (S_ExitStatus_NOT_UNIQUE : Sta Z Z.heap zs1 "NOT_UNIQUE" zs5 (.ref w24)) (SF_w24_code : Fld Z Z.heap w24 zs1 "code" "I" (.int (1 : Int32))) :
    MetFree l (⟨zs4, "expected", zs2⟩ : MethodName) (head1 (Jvm.Cond.code (⟨zs4, "expected", zs2⟩ : MethodName) method_3_code 2 (some (.object zs1)) :: ws) ({ frames := 0, cells := 0, slots := 0, locals := 0 } : Room)) (fun a U => a = #[(.ref w17), (.ref w24)] ∧ Z.Warmed39 U.vm ∧ U.heap = h0) (fun _ _ _ _ _ => True) (fun _ U o U' => ∃ v L, o = .returned v ∧ Q5 Z w17 w24 w20 h0 n0 v U'.heap L ∧ FrameEnd U o U' L ({ frames := 0, cells := 0, slots := 0, locals := 0 } : Room).cells ({ frames := 0, cells := 0, slots := 0, locals := 0 } : Room).slots) := by
  refine MetFree.of_bodySF (plainFor_of_name pn_1) hisR ?_
  intro p e s m args below meth c s₁ Bd hml0 hP hK
  obtain ⟨rfl, hZ, hh⟩ := hP
  have hx := Bd.exec
  have hby := Bd.bytes
  have hml : c.maxLocals = 2 := hml0
  have hown : s.vm.findClass zs4 = some m.cls := findClass_of_methodNamed Bd.named
  have hnm := (name_of_methodNamed Bd.named Bd.method).1
  have X0 : Stand p l e ({ frames := 0, cells := 0, slots := 0, locals := 0 } : Room) s m #[(.ref w17), (.ref w24)] below meth c s₁ [] 0 0 := Stand.of_body Bd
  have e0 : s₁.heap = h0 := by rw [← hh, Bd.state]; rfl
  have N0 := Fr.nil n0
  refine own_out ?_
  refine own_via (fun t k => castTop (ef_3 m w17 w24) (XS.aloadN X0.here hx rfl (hb hby d3_0) rfl rfl k)) ?_
  obtain ⟨T87, X87, e87, st87⟩ := getS2 X0 hx hZ hown (host := "") (Or.inl (wd hw 18 rfl)) Via.refl e0 (S_ExitStatus_INVALID.ext O0.2) (g := (mkF m 1 #[rv w17, rv w24] [(.ref w17)])) rfl (hb hby d3_1)
  refine own_via (fun t k => st87 t (Jvm.RoadKit.acmp (g := (mkF m 4 #[rv w17, rv w24] [(.ref w20), (.ref w17)])) X87 hx rfl rfl rfl (pc0 := 4) (pc' := 7) (same := false) rfl (hb hby d3_4) rfl (decide_eq_false fun q => (Fld.ne SF_w17_code SF_w20_code (by decide)) (Value.ref.inj q)) (by decide) (by decide) (XS.aloadN X87.here hx rfl (hb hby d3_7) rfl rfl k))) ?_
  obtain ⟨T88, X88, e88, st88⟩ := getS2 X87 hx hZ hown (host := "") (Or.inl (wd hw 18 rfl)) Via.refl e87 (S_ExitStatus_INVALID.ext O0.2) (g := (mkF m 8 #[rv w17, rv w24] [(.ref w24)])) rfl (hb hby d3_8)
  refine own_via (fun t k => st88 t (Jvm.RoadKit.acmp (g := (mkF m 11 #[rv w17, rv w24] [(.ref w20), (.ref w24)])) X88 hx rfl rfl rfl (pc0 := 11) (pc' := 18) (same := false) rfl (hb hby d3_11) rfl (decide_eq_false fun q => (Fld.ne SF_w24_ordinal SF_w20_ordinal (by decide)) (Value.ref.inj q)) (by decide) (by decide) (XS.aloadN X88.here hx rfl (hb hby d3_18) rfl rfl k))) ?_
  obtain ⟨T89, X89, e89, st89⟩ := getS2 X88 hx hZ hown (host := "") (Or.inl (wd hw 20 rfl)) Via.refl e88 (S_ExitStatus_NOT_UNIQUE.ext O0.2) (g := (mkF m 19 #[rv w17, rv w24] [(.ref w17)])) rfl (hb hby d3_19)
  refine own_via (fun t k => st89 t (Jvm.RoadKit.acmp (g := (mkF m 22 #[rv w17, rv w24] [(.ref w24), (.ref w17)])) X89 hx rfl rfl rfl (pc0 := 22) (pc' := 25) (same := false) rfl (hb hby d3_22) rfl (decide_eq_false fun q => (Fld.ne SF_w17_code SF_w24_code (by decide)) (Value.ref.inj q)) (by decide) (by decide) (XS.aloadN X89.here hx rfl (hb hby d3_25) rfl rfl k))) ?_
  obtain ⟨T90, X90, e90, st90⟩ := getS2 X89 hx hZ hown (host := "") (Or.inl (wd hw 20 rfl)) Via.refl e89 (S_ExitStatus_NOT_UNIQUE.ext O0.2) (g := (mkF m 26 #[rv w17, rv w24] [(.ref w24)])) rfl (hb hby d3_26)
  refine own_via (fun t k => st90 t (Jvm.RoadKit.acmp (g := (mkF m 29 #[rv w17, rv w24] [(.ref w24), (.ref w24)])) X90 hx rfl rfl rfl (pc0 := 29) (pc' := 32) (same := true) rfl (hb hby d3_29) rfl (decide_eq_true rfl) (by decide) (by decide) k)) ?_
  obtain ⟨T91, X91, e91, st91⟩ := getS2 X90 hx hZ hown (host := "") (Or.inl (wd hw 20 rfl)) Via.refl e90 (S_ExitStatus_NOT_UNIQUE.ext O0.2) (g := (mkF m 32 #[rv w17, rv w24] [])) rfl (hb hby d3_32)
  refine own_via (fun t k => st91 t k) ?_
  obtain ⟨fs, hr, hrun, hended, hW, hsame⟩ := X91.leave (v := some (.ref w24)) (fun h => by rw [Bd.returns] at h; cases h)
  refine own_end (t := T91.setFrames fs) ?_ ⟨_, hrun, hended, _, _, rfl, ?_, ⟨_, rfl⟩, hW, hsame.mono (by decide) (by decide)⟩
  · jvm_step X91.here [X91.here.top, hx, (hb hby d3_35), X91.method', Bd.returns, Value.isRef, FieldType.isReference]
    first | (intro acts; rw [hr _ acts rfl rfl rfl]) | rw [hr _ _ rfl rfl rfl]
    exact Steps.refl _
  · show Q5 Z w17 w24 w20 h0 n0 _ T91.heap _
    rw [e91]
    exact ⟨rfl, N0, rfl⟩
def Q6 (Z : State) (w17 : Addr) (w20 : Addr) (h0 : Heap) (n0 : Nat) (v : Option Value) (h : Heap) (L : List Loc) : Prop := v = some (.ref w20) ∧ Fr n0 L ∧ h = h0
set_option maxRecDepth 65536 in
set_option maxHeartbeats 40000000 in
theorem rm6 (l : Launch) (Z : State) (a0 : Array Value) (hw : ∀ d ∈ tables_1, d.before a0 Z = true) (ws : List Jvm.Cond) (w17 : Addr) (w20 : Addr) (h0 : Heap) (n0 : Nat) (O0 : Old Z n0 h0) (SF_w20_code : Fld Z Z.heap w20 zs1 "code" "I" (.int (2 : Int32))) (SF_w17_code : Fld Z Z.heap w17 zs1 "code" "I" (.int (0 : Int32))) :
    MetFree l (⟨zs1, "worse", zs3⟩ : MethodName) (head1 (Jvm.Cond.code (⟨zs1, "worse", zs3⟩ : MethodName) prog_4_method_6_code 2 (some (.object zs1)) :: ws) ({ frames := 0, cells := 0, slots := 0, locals := 0 } : Room)) (fun a U => a = #[(.ref w17), (.ref w20)] ∧ Z.Warmed39 U.vm ∧ U.heap = h0) (fun _ _ _ _ _ => True) (fun _ U o U' => ∃ v L, o = .returned v ∧ Q6 Z w17 w20 h0 n0 v U'.heap L ∧ FrameEnd U o U' L ({ frames := 0, cells := 0, slots := 0, locals := 0 } : Room).cells ({ frames := 0, cells := 0, slots := 0, locals := 0 } : Room).slots) := by
  refine MetFree.of_bodySF (plainFor_of_name pn_2) hisR ?_
  intro p e s m args below meth c s₁ Bd hml0 hP hK
  obtain ⟨rfl, hZ, hh⟩ := hP
  have hx := Bd.exec
  have hby := Bd.bytes
  have hml : c.maxLocals = 2 := hml0
  have hown : s.vm.findClass zs1 = some m.cls := findClass_of_methodNamed Bd.named
  have hnm := (name_of_methodNamed Bd.named Bd.method).1
  have X0 : Stand p l e ({ frames := 0, cells := 0, slots := 0, locals := 0 } : Room) s m #[(.ref w17), (.ref w20)] below meth c s₁ [] 0 0 := Stand.of_body Bd
  have e0 : s₁.heap = h0 := by rw [← hh, Bd.state]; rfl
  have N0 := Fr.nil n0
  refine own_out ?_
  refine own_via (fun t k => castTop (ef_2 m w17 w20) (XS.aloadN X0.here hx rfl (hb hby d2_0) rfl rfl k)) ?_
  obtain ⟨T99, X99, e99, st99⟩ := getF X0 hx hZ hown (host := "") (Or.inl (wd hw 13 rfl)) Via.refl e0 (SF_w20_code.ext O0.2) (g := (mkF m 1 #[rv w17, rv w20] [(.ref w20)])) rfl rfl (hb hby d2_1)
  refine own_via (fun t k => st99 t (XS.aloadN X99.here hx rfl (hb hby d2_4) rfl rfl k)) ?_
  obtain ⟨T100, X100, e100, st100⟩ := getF X99 hx hZ hown (host := "") (Or.inl (wd hw 13 rfl)) Via.refl e99 (SF_w17_code.ext O0.2) (g := (mkF m 5 #[rv w17, rv w20] [(.ref w17), (.int (2 : Int32))])) rfl rfl (hb hby d2_5)
  refine own_via (fun t k => st100 t (XS.icmpNo X100.here hx rfl (hb hby d2_8) rfl (tlt (by decide : (0 : Int32) < (2 : Int32))).2.2.2 (XS.aloadN X100.here hx rfl (hb hby d2_11) rfl rfl (XS.goto X100.here hx rfl (pc0 := 12) (pc' := 16) rfl (hb hby d2_12) (by decide) (by decide) k)))) ?_
  obtain ⟨fs, hr, hrun, hended, hW, hsame⟩ := X100.leave (v := some (.ref w20)) (fun h => by rw [Bd.returns] at h; cases h)
  refine own_end (t := T100.setFrames fs) ?_ ⟨_, hrun, hended, _, _, rfl, ?_, ⟨_, rfl⟩, hW, hsame.mono (by decide) (by decide)⟩
  · jvm_step X100.here [X100.here.top, hx, (hb hby d2_16), X100.method', Bd.returns, Value.isRef, FieldType.isReference]
    first | (intro acts; rw [hr _ acts rfl rfl rfl]) | rw [hr _ _ rfl rfl rfl]
    exact Steps.refl _
  · show Q6 Z w17 w20 h0 n0 _ T100.heap _
    rw [e100]
    exact ⟨rfl, N0, rfl⟩
theorem d3_14 : decode method_3_code 14 = .ok (.getstatic 17, 3) := by decide +kernel
theorem d3_17 : decode method_3_code 17 = .ok (.areturn, 1) := by decide +kernel
def Q7 (Z : State) (w17 : Addr) (w20 : Addr) (h0 : Heap) (n0 : Nat) (v : Option Value) (h : Heap) (L : List Loc) : Prop := v = some (.ref w20) ∧ Fr n0 L ∧ h = h0
set_option maxRecDepth 65536 in
set_option maxHeartbeats 40000000 in
theorem rm7 (l : Launch) (Z : State) (a0 : Array Value) (hw : ∀ d ∈ tables_1, d.before a0 Z = true) (ws : List Jvm.Cond) (w17 : Addr) (w20 : Addr) (h0 : Heap) (n0 : Nat) (O0 : Old Z n0 h0) (S_ExitStatus_INVALID : Sta Z Z.heap zs1 "INVALID" zs5 (.ref w20)) (SF_w17_code : Fld Z Z.heap w17 zs1 "code" "I" (.int (0 : Int32))) (SF_w20_code : Fld Z Z.heap w20 zs1 "code" "I" (.int (2 : Int32))) :
    MetFree l (⟨zs4, "expected", zs2⟩ : MethodName) (head1 (Jvm.Cond.code (⟨zs4, "expected", zs2⟩ : MethodName) method_3_code 2 (some (.object zs1)) :: ws) ({ frames := 0, cells := 0, slots := 0, locals := 0 } : Room)) (fun a U => a = #[(.ref w17), (.ref w20)] ∧ Z.Warmed39 U.vm ∧ U.heap = h0) (fun _ _ _ _ _ => True) (fun _ U o U' => ∃ v L, o = .returned v ∧ Q7 Z w17 w20 h0 n0 v U'.heap L ∧ FrameEnd U o U' L ({ frames := 0, cells := 0, slots := 0, locals := 0 } : Room).cells ({ frames := 0, cells := 0, slots := 0, locals := 0 } : Room).slots) := by
  refine MetFree.of_bodySF (plainFor_of_name pn_1) hisR ?_
  intro p e s m args below meth c s₁ Bd hml0 hP hK
  obtain ⟨rfl, hZ, hh⟩ := hP
  have hx := Bd.exec
  have hby := Bd.bytes
  have hml : c.maxLocals = 2 := hml0
  have hown : s.vm.findClass zs4 = some m.cls := findClass_of_methodNamed Bd.named
  have hnm := (name_of_methodNamed Bd.named Bd.method).1
  have X0 : Stand p l e ({ frames := 0, cells := 0, slots := 0, locals := 0 } : Room) s m #[(.ref w17), (.ref w20)] below meth c s₁ [] 0 0 := Stand.of_body Bd
  have e0 : s₁.heap = h0 := by rw [← hh, Bd.state]; rfl
  have N0 := Fr.nil n0
  refine own_out ?_
  refine own_via (fun t k => castTop (ef_3 m w17 w20) (XS.aloadN X0.here hx rfl (hb hby d3_0) rfl rfl k)) ?_
  obtain ⟨T108, X108, e108, st108⟩ := getS2 X0 hx hZ hown (host := "") (Or.inl (wd hw 18 rfl)) Via.refl e0 (S_ExitStatus_INVALID.ext O0.2) (g := (mkF m 1 #[rv w17, rv w20] [(.ref w17)])) rfl (hb hby d3_1)
  refine own_via (fun t k => st108 t (Jvm.RoadKit.acmp (g := (mkF m 4 #[rv w17, rv w20] [(.ref w20), (.ref w17)])) X108 hx rfl rfl rfl (pc0 := 4) (pc' := 7) (same := false) rfl (hb hby d3_4) rfl (decide_eq_false fun q => (Fld.ne SF_w17_code SF_w20_code (by decide)) (Value.ref.inj q)) (by decide) (by decide) (XS.aloadN X108.here hx rfl (hb hby d3_7) rfl rfl k))) ?_
  obtain ⟨T109, X109, e109, st109⟩ := getS2 X108 hx hZ hown (host := "") (Or.inl (wd hw 18 rfl)) Via.refl e108 (S_ExitStatus_INVALID.ext O0.2) (g := (mkF m 8 #[rv w17, rv w20] [(.ref w20)])) rfl (hb hby d3_8)
  refine own_via (fun t k => st109 t (Jvm.RoadKit.acmp (g := (mkF m 11 #[rv w17, rv w20] [(.ref w20), (.ref w20)])) X109 hx rfl rfl rfl (pc0 := 11) (pc' := 14) (same := true) rfl (hb hby d3_11) rfl (decide_eq_true rfl) (by decide) (by decide) k)) ?_
  obtain ⟨T110, X110, e110, st110⟩ := getS2 X109 hx hZ hown (host := "") (Or.inl (wd hw 18 rfl)) Via.refl e109 (S_ExitStatus_INVALID.ext O0.2) (g := (mkF m 14 #[rv w17, rv w20] [])) rfl (hb hby d3_14)
  refine own_via (fun t k => st110 t k) ?_
  obtain ⟨fs, hr, hrun, hended, hW, hsame⟩ := X110.leave (v := some (.ref w20)) (fun h => by rw [Bd.returns] at h; cases h)
  refine own_end (t := T110.setFrames fs) ?_ ⟨_, hrun, hended, _, _, rfl, ?_, ⟨_, rfl⟩, hW, hsame.mono (by decide) (by decide)⟩
  · jvm_step X110.here [X110.here.top, hx, (hb hby d3_17), X110.method', Bd.returns, Value.isRef, FieldType.isReference]
    first | (intro acts; rw [hr _ acts rfl rfl rfl]) | rw [hr _ _ rfl rfl rfl]
    exact Steps.refl _
  · show Q7 Z w17 w20 h0 n0 _ T110.heap _
    rw [e110]
    exact ⟨rfl, N0, rfl⟩
def Q8 (Z : State) (w24 : Addr) (w17 : Addr) (h0 : Heap) (n0 : Nat) (v : Option Value) (h : Heap) (L : List Loc) : Prop := v = some (.ref w24) ∧ Fr n0 L ∧ h = h0
set_option maxRecDepth 65536 in
set_option maxHeartbeats 40000000 in
theorem rm8 (l : Launch) (Z : State) (a0 : Array Value) (hw : ∀ d ∈ tables_1, d.before a0 Z = true) (ws : List Jvm.Cond) (w24 : Addr) (w17 : Addr) (h0 : Heap) (n0 : Nat) (O0 : Old Z n0 h0) (SF_w17_code : Fld Z Z.heap w17 zs1 "code" "I" (.int (0 : Int32))) (SF_w24_code : Fld Z Z.heap w24 zs1 "code" "I" (.int (1 : Int32))) :
    MetFree l (⟨zs1, "worse", zs3⟩ : MethodName) (head1 (Jvm.Cond.code (⟨zs1, "worse", zs3⟩ : MethodName) prog_4_method_6_code 2 (some (.object zs1)) :: ws) ({ frames := 0, cells := 0, slots := 0, locals := 0 } : Room)) (fun a U => a = #[(.ref w24), (.ref w17)] ∧ Z.Warmed39 U.vm ∧ U.heap = h0) (fun _ _ _ _ _ => True) (fun _ U o U' => ∃ v L, o = .returned v ∧ Q8 Z w24 w17 h0 n0 v U'.heap L ∧ FrameEnd U o U' L ({ frames := 0, cells := 0, slots := 0, locals := 0 } : Room).cells ({ frames := 0, cells := 0, slots := 0, locals := 0 } : Room).slots) := by
  refine MetFree.of_bodySF (plainFor_of_name pn_2) hisR ?_
  intro p e s m args below meth c s₁ Bd hml0 hP hK
  obtain ⟨rfl, hZ, hh⟩ := hP
  have hx := Bd.exec
  have hby := Bd.bytes
  have hml : c.maxLocals = 2 := hml0
  have hown : s.vm.findClass zs1 = some m.cls := findClass_of_methodNamed Bd.named
  have hnm := (name_of_methodNamed Bd.named Bd.method).1
  have X0 : Stand p l e ({ frames := 0, cells := 0, slots := 0, locals := 0 } : Room) s m #[(.ref w24), (.ref w17)] below meth c s₁ [] 0 0 := Stand.of_body Bd
  have e0 : s₁.heap = h0 := by rw [← hh, Bd.state]; rfl
  have N0 := Fr.nil n0
  refine own_out ?_
  refine own_via (fun t k => castTop (ef_2 m w24 w17) (XS.aloadN X0.here hx rfl (hb hby d2_0) rfl rfl k)) ?_
  obtain ⟨T127, X127, e127, st127⟩ := getF X0 hx hZ hown (host := "") (Or.inl (wd hw 13 rfl)) Via.refl e0 (SF_w17_code.ext O0.2) (g := (mkF m 1 #[rv w24, rv w17] [(.ref w17)])) rfl rfl (hb hby d2_1)
  refine own_via (fun t k => st127 t (XS.aloadN X127.here hx rfl (hb hby d2_4) rfl rfl k)) ?_
  obtain ⟨T128, X128, e128, st128⟩ := getF X127 hx hZ hown (host := "") (Or.inl (wd hw 13 rfl)) Via.refl e127 (SF_w24_code.ext O0.2) (g := (mkF m 5 #[rv w24, rv w17] [(.ref w24), (.int (0 : Int32))])) rfl rfl (hb hby d2_5)
  refine own_via (fun t k => st128 t (XS.icmpYes X128.here hx rfl (pc0 := 8) (pc' := 15) rfl (hb hby d2_8) rfl (flt (by decide : ¬ ((1 : Int32) < (0 : Int32)))).2.2.2 (by decide) (by decide) (XS.aloadN X128.here hx rfl (hb hby d2_15) rfl rfl k))) ?_
  obtain ⟨fs, hr, hrun, hended, hW, hsame⟩ := X128.leave (v := some (.ref w24)) (fun h => by rw [Bd.returns] at h; cases h)
  refine own_end (t := T128.setFrames fs) ?_ ⟨_, hrun, hended, _, _, rfl, ?_, ⟨_, rfl⟩, hW, hsame.mono (by decide) (by decide)⟩
  · jvm_step X128.here [X128.here.top, hx, (hb hby d2_16), X128.method', Bd.returns, Value.isRef, FieldType.isReference]
    first | (intro acts; rw [hr _ acts rfl rfl rfl]) | rw [hr _ _ rfl rfl rfl]
    exact Steps.refl _
  · show Q8 Z w24 w17 h0 n0 _ T128.heap _
    rw [e128]
    exact ⟨rfl, N0, rfl⟩
def Q9 (Z : State) (w24 : Addr) (w17 : Addr) (w20 : Addr) (h0 : Heap) (n0 : Nat) (v : Option Value) (h : Heap) (L : List Loc) : Prop := v = some (.ref w24) ∧ Fr n0 L ∧ h = h0
set_option maxRecDepth 65536 in
set_option maxHeartbeats 40000000 in
theorem rm9 (l : Launch) (Z : State) (a0 : Array Value) (hw : ∀ d ∈ tables_1, d.before a0 Z = true) (ws : List Jvm.Cond) (w24 : Addr) (w17 : Addr) (w20 : Addr) (h0 : Heap) (n0 : Nat) (O0 : Old Z n0 h0) (S_ExitStatus_INVALID : Sta Z Z.heap zs1 "INVALID" zs5 (.ref w20)) (SF_w24_ordinal : Fld Z Z.heap w24 zs6 "ordinal" "I" (.int (1 : Int32))) (SF_w20_ordinal : Fld Z Z.heap w20 zs6 "ordinal" "I" (.int (2 : Int32))) (SF_w17_code : Fld Z Z.heap w17 zs1 "code" "I" (.int (0 : Int32))) (SF_w20_code : Fld Z Z.heap w20 zs1 "code" "I" (.int (2 : Int32))) (S_ExitStatus_NOT_UNIQUE : Sta Z Z.heap zs1 "NOT_UNIQUE" zs5 (.ref w24)) :
    MetFree l (⟨zs4, "expected", zs2⟩ : MethodName) (head1 (Jvm.Cond.code (⟨zs4, "expected", zs2⟩ : MethodName) method_3_code 2 (some (.object zs1)) :: ws) ({ frames := 0, cells := 0, slots := 0, locals := 0 } : Room)) (fun a U => a = #[(.ref w24), (.ref w17)] ∧ Z.Warmed39 U.vm ∧ U.heap = h0) (fun _ _ _ _ _ => True) (fun _ U o U' => ∃ v L, o = .returned v ∧ Q9 Z w24 w17 w20 h0 n0 v U'.heap L ∧ FrameEnd U o U' L ({ frames := 0, cells := 0, slots := 0, locals := 0 } : Room).cells ({ frames := 0, cells := 0, slots := 0, locals := 0 } : Room).slots) := by
  refine MetFree.of_bodySF (plainFor_of_name pn_1) hisR ?_
  intro p e s m args below meth c s₁ Bd hml0 hP hK
  obtain ⟨rfl, hZ, hh⟩ := hP
  have hx := Bd.exec
  have hby := Bd.bytes
  have hml : c.maxLocals = 2 := hml0
  have hown : s.vm.findClass zs4 = some m.cls := findClass_of_methodNamed Bd.named
  have hnm := (name_of_methodNamed Bd.named Bd.method).1
  have X0 : Stand p l e ({ frames := 0, cells := 0, slots := 0, locals := 0 } : Room) s m #[(.ref w24), (.ref w17)] below meth c s₁ [] 0 0 := Stand.of_body Bd
  have e0 : s₁.heap = h0 := by rw [← hh, Bd.state]; rfl
  have N0 := Fr.nil n0
  refine own_out ?_
  refine own_via (fun t k => castTop (ef_3 m w24 w17) (XS.aloadN X0.here hx rfl (hb hby d3_0) rfl rfl k)) ?_
  obtain ⟨T136, X136, e136, st136⟩ := getS2 X0 hx hZ hown (host := "") (Or.inl (wd hw 18 rfl)) Via.refl e0 (S_ExitStatus_INVALID.ext O0.2) (g := (mkF m 1 #[rv w24, rv w17] [(.ref w24)])) rfl (hb hby d3_1)
  refine own_via (fun t k => st136 t (Jvm.RoadKit.acmp (g := (mkF m 4 #[rv w24, rv w17] [(.ref w20), (.ref w24)])) X136 hx rfl rfl rfl (pc0 := 4) (pc' := 7) (same := false) rfl (hb hby d3_4) rfl (decide_eq_false fun q => (Fld.ne SF_w24_ordinal SF_w20_ordinal (by decide)) (Value.ref.inj q)) (by decide) (by decide) (XS.aloadN X136.here hx rfl (hb hby d3_7) rfl rfl k))) ?_
  obtain ⟨T137, X137, e137, st137⟩ := getS2 X136 hx hZ hown (host := "") (Or.inl (wd hw 18 rfl)) Via.refl e136 (S_ExitStatus_INVALID.ext O0.2) (g := (mkF m 8 #[rv w24, rv w17] [(.ref w17)])) rfl (hb hby d3_8)
  refine own_via (fun t k => st137 t (Jvm.RoadKit.acmp (g := (mkF m 11 #[rv w24, rv w17] [(.ref w20), (.ref w17)])) X137 hx rfl rfl rfl (pc0 := 11) (pc' := 18) (same := false) rfl (hb hby d3_11) rfl (decide_eq_false fun q => (Fld.ne SF_w17_code SF_w20_code (by decide)) (Value.ref.inj q)) (by decide) (by decide) (XS.aloadN X137.here hx rfl (hb hby d3_18) rfl rfl k))) ?_
  obtain ⟨T138, X138, e138, st138⟩ := getS2 X137 hx hZ hown (host := "") (Or.inl (wd hw 20 rfl)) Via.refl e137 (S_ExitStatus_NOT_UNIQUE.ext O0.2) (g := (mkF m 19 #[rv w24, rv w17] [(.ref w24)])) rfl (hb hby d3_19)
  refine own_via (fun t k => st138 t (Jvm.RoadKit.acmp (g := (mkF m 22 #[rv w24, rv w17] [(.ref w24), (.ref w24)])) X138 hx rfl rfl rfl (pc0 := 22) (pc' := 32) (same := true) rfl (hb hby d3_22) rfl (decide_eq_true rfl) (by decide) (by decide) k)) ?_
  obtain ⟨T139, X139, e139, st139⟩ := getS2 X138 hx hZ hown (host := "") (Or.inl (wd hw 20 rfl)) Via.refl e138 (S_ExitStatus_NOT_UNIQUE.ext O0.2) (g := (mkF m 32 #[rv w24, rv w17] [])) rfl (hb hby d3_32)
  refine own_via (fun t k => st139 t k) ?_
  obtain ⟨fs, hr, hrun, hended, hW, hsame⟩ := X139.leave (v := some (.ref w24)) (fun h => by rw [Bd.returns] at h; cases h)
  refine own_end (t := T139.setFrames fs) ?_ ⟨_, hrun, hended, _, _, rfl, ?_, ⟨_, rfl⟩, hW, hsame.mono (by decide) (by decide)⟩
  · jvm_step X139.here [X139.here.top, hx, (hb hby d3_35), X139.method', Bd.returns, Value.isRef, FieldType.isReference]
    first | (intro acts; rw [hr _ acts rfl rfl rfl]) | rw [hr _ _ rfl rfl rfl]
    exact Steps.refl _
  · show Q9 Z w24 w17 w20 h0 n0 _ T139.heap _
    rw [e139]
    exact ⟨rfl, N0, rfl⟩
def Q10 (Z : State) (w24 : Addr) (h0 : Heap) (n0 : Nat) (v : Option Value) (h : Heap) (L : List Loc) : Prop := v = some (.ref w24) ∧ Fr n0 L ∧ h = h0
set_option maxRecDepth 65536 in
set_option maxHeartbeats 40000000 in
theorem rm10 (l : Launch) (Z : State) (a0 : Array Value) (hw : ∀ d ∈ tables_1, d.before a0 Z = true) (ws : List Jvm.Cond) (w24 : Addr) (h0 : Heap) (n0 : Nat) (O0 : Old Z n0 h0) (SF_w24_code : Fld Z Z.heap w24 zs1 "code" "I" (.int (1 : Int32))) :
    MetFree l (⟨zs1, "worse", zs3⟩ : MethodName) (head1 (Jvm.Cond.code (⟨zs1, "worse", zs3⟩ : MethodName) prog_4_method_6_code 2 (some (.object zs1)) :: ws) ({ frames := 0, cells := 0, slots := 0, locals := 0 } : Room)) (fun a U => a = #[(.ref w24), (.ref w24)] ∧ Z.Warmed39 U.vm ∧ U.heap = h0) (fun _ _ _ _ _ => True) (fun _ U o U' => ∃ v L, o = .returned v ∧ Q10 Z w24 h0 n0 v U'.heap L ∧ FrameEnd U o U' L ({ frames := 0, cells := 0, slots := 0, locals := 0 } : Room).cells ({ frames := 0, cells := 0, slots := 0, locals := 0 } : Room).slots) := by
  refine MetFree.of_bodySF (plainFor_of_name pn_2) hisR ?_
  intro p e s m args below meth c s₁ Bd hml0 hP hK
  obtain ⟨rfl, hZ, hh⟩ := hP
  have hx := Bd.exec
  have hby := Bd.bytes
  have hml : c.maxLocals = 2 := hml0
  have hown : s.vm.findClass zs1 = some m.cls := findClass_of_methodNamed Bd.named
  have hnm := (name_of_methodNamed Bd.named Bd.method).1
  have X0 : Stand p l e ({ frames := 0, cells := 0, slots := 0, locals := 0 } : Room) s m #[(.ref w24), (.ref w24)] below meth c s₁ [] 0 0 := Stand.of_body Bd
  have e0 : s₁.heap = h0 := by rw [← hh, Bd.state]; rfl
  have N0 := Fr.nil n0
  refine own_out ?_
  refine own_via (fun t k => castTop (ef_2 m w24 w24) (XS.aloadN X0.here hx rfl (hb hby d2_0) rfl rfl k)) ?_
  obtain ⟨T148, X148, e148, st148⟩ := getF X0 hx hZ hown (host := "") (Or.inl (wd hw 13 rfl)) Via.refl e0 (SF_w24_code.ext O0.2) (g := (mkF m 1 #[rv w24, rv w24] [(.ref w24)])) rfl rfl (hb hby d2_1)
  refine own_via (fun t k => st148 t (XS.aloadN X148.here hx rfl (hb hby d2_4) rfl rfl k)) ?_
  obtain ⟨T149, X149, e149, st149⟩ := getF X148 hx hZ hown (host := "") (Or.inl (wd hw 13 rfl)) Via.refl e148 (SF_w24_code.ext O0.2) (g := (mkF m 5 #[rv w24, rv w24] [(.ref w24), (.int (1 : Int32))])) rfl rfl (hb hby d2_5)
  refine own_via (fun t k => st149 t (XS.icmpYes X149.here hx rfl (pc0 := 8) (pc' := 15) rfl (hb hby d2_8) rfl (flt (by decide : ¬ ((1 : Int32) < (1 : Int32)))).2.2.2 (by decide) (by decide) (XS.aloadN X149.here hx rfl (hb hby d2_15) rfl rfl k))) ?_
  obtain ⟨fs, hr, hrun, hended, hW, hsame⟩ := X149.leave (v := some (.ref w24)) (fun h => by rw [Bd.returns] at h; cases h)
  refine own_end (t := T149.setFrames fs) ?_ ⟨_, hrun, hended, _, _, rfl, ?_, ⟨_, rfl⟩, hW, hsame.mono (by decide) (by decide)⟩
  · jvm_step X149.here [X149.here.top, hx, (hb hby d2_16), X149.method', Bd.returns, Value.isRef, FieldType.isReference]
    first | (intro acts; rw [hr _ acts rfl rfl rfl]) | rw [hr _ _ rfl rfl rfl]
    exact Steps.refl _
  · show Q10 Z w24 h0 n0 _ T149.heap _
    rw [e149]
    exact ⟨rfl, N0, rfl⟩
def Q11 (Z : State) (w24 : Addr) (w20 : Addr) (h0 : Heap) (n0 : Nat) (v : Option Value) (h : Heap) (L : List Loc) : Prop := v = some (.ref w24) ∧ Fr n0 L ∧ h = h0
set_option maxRecDepth 65536 in
set_option maxHeartbeats 40000000 in
theorem rm11 (l : Launch) (Z : State) (a0 : Array Value) (hw : ∀ d ∈ tables_1, d.before a0 Z = true) (ws : List Jvm.Cond) (w24 : Addr) (w20 : Addr) (h0 : Heap) (n0 : Nat) (O0 : Old Z n0 h0) (S_ExitStatus_INVALID : Sta Z Z.heap zs1 "INVALID" zs5 (.ref w20)) (SF_w24_ordinal : Fld Z Z.heap w24 zs6 "ordinal" "I" (.int (1 : Int32))) (SF_w20_ordinal : Fld Z Z.heap w20 zs6 "ordinal" "I" (.int (2 : Int32))) (S_ExitStatus_NOT_UNIQUE : Sta Z Z.heap zs1 "NOT_UNIQUE" zs5 (.ref w24)) :
    MetFree l (⟨zs4, "expected", zs2⟩ : MethodName) (head1 (Jvm.Cond.code (⟨zs4, "expected", zs2⟩ : MethodName) method_3_code 2 (some (.object zs1)) :: ws) ({ frames := 0, cells := 0, slots := 0, locals := 0 } : Room)) (fun a U => a = #[(.ref w24), (.ref w24)] ∧ Z.Warmed39 U.vm ∧ U.heap = h0) (fun _ _ _ _ _ => True) (fun _ U o U' => ∃ v L, o = .returned v ∧ Q11 Z w24 w20 h0 n0 v U'.heap L ∧ FrameEnd U o U' L ({ frames := 0, cells := 0, slots := 0, locals := 0 } : Room).cells ({ frames := 0, cells := 0, slots := 0, locals := 0 } : Room).slots) := by
  refine MetFree.of_bodySF (plainFor_of_name pn_1) hisR ?_
  intro p e s m args below meth c s₁ Bd hml0 hP hK
  obtain ⟨rfl, hZ, hh⟩ := hP
  have hx := Bd.exec
  have hby := Bd.bytes
  have hml : c.maxLocals = 2 := hml0
  have hown : s.vm.findClass zs4 = some m.cls := findClass_of_methodNamed Bd.named
  have hnm := (name_of_methodNamed Bd.named Bd.method).1
  have X0 : Stand p l e ({ frames := 0, cells := 0, slots := 0, locals := 0 } : Room) s m #[(.ref w24), (.ref w24)] below meth c s₁ [] 0 0 := Stand.of_body Bd
  have e0 : s₁.heap = h0 := by rw [← hh, Bd.state]; rfl
  have N0 := Fr.nil n0
  refine own_out ?_
  refine own_via (fun t k => castTop (ef_3 m w24 w24) (XS.aloadN X0.here hx rfl (hb hby d3_0) rfl rfl k)) ?_
  obtain ⟨T158, X158, e158, st158⟩ := getS2 X0 hx hZ hown (host := "") (Or.inl (wd hw 18 rfl)) Via.refl e0 (S_ExitStatus_INVALID.ext O0.2) (g := (mkF m 1 #[rv w24, rv w24] [(.ref w24)])) rfl (hb hby d3_1)
  refine own_via (fun t k => st158 t (Jvm.RoadKit.acmp (g := (mkF m 4 #[rv w24, rv w24] [(.ref w20), (.ref w24)])) X158 hx rfl rfl rfl (pc0 := 4) (pc' := 7) (same := false) rfl (hb hby d3_4) rfl (decide_eq_false fun q => (Fld.ne SF_w24_ordinal SF_w20_ordinal (by decide)) (Value.ref.inj q)) (by decide) (by decide) (XS.aloadN X158.here hx rfl (hb hby d3_7) rfl rfl k))) ?_
  obtain ⟨T159, X159, e159, st159⟩ := getS2 X158 hx hZ hown (host := "") (Or.inl (wd hw 18 rfl)) Via.refl e158 (S_ExitStatus_INVALID.ext O0.2) (g := (mkF m 8 #[rv w24, rv w24] [(.ref w24)])) rfl (hb hby d3_8)
  refine own_via (fun t k => st159 t (Jvm.RoadKit.acmp (g := (mkF m 11 #[rv w24, rv w24] [(.ref w20), (.ref w24)])) X159 hx rfl rfl rfl (pc0 := 11) (pc' := 18) (same := false) rfl (hb hby d3_11) rfl (decide_eq_false fun q => (Fld.ne SF_w24_ordinal SF_w20_ordinal (by decide)) (Value.ref.inj q)) (by decide) (by decide) (XS.aloadN X159.here hx rfl (hb hby d3_18) rfl rfl k))) ?_
  obtain ⟨T160, X160, e160, st160⟩ := getS2 X159 hx hZ hown (host := "") (Or.inl (wd hw 20 rfl)) Via.refl e159 (S_ExitStatus_NOT_UNIQUE.ext O0.2) (g := (mkF m 19 #[rv w24, rv w24] [(.ref w24)])) rfl (hb hby d3_19)
  refine own_via (fun t k => st160 t (Jvm.RoadKit.acmp (g := (mkF m 22 #[rv w24, rv w24] [(.ref w24), (.ref w24)])) X160 hx rfl rfl rfl (pc0 := 22) (pc' := 32) (same := true) rfl (hb hby d3_22) rfl (decide_eq_true rfl) (by decide) (by decide) k)) ?_
  obtain ⟨T161, X161, e161, st161⟩ := getS2 X160 hx hZ hown (host := "") (Or.inl (wd hw 20 rfl)) Via.refl e160 (S_ExitStatus_NOT_UNIQUE.ext O0.2) (g := (mkF m 32 #[rv w24, rv w24] [])) rfl (hb hby d3_32)
  refine own_via (fun t k => st161 t k) ?_
  obtain ⟨fs, hr, hrun, hended, hW, hsame⟩ := X161.leave (v := some (.ref w24)) (fun h => by rw [Bd.returns] at h; cases h)
  refine own_end (t := T161.setFrames fs) ?_ ⟨_, hrun, hended, _, _, rfl, ?_, ⟨_, rfl⟩, hW, hsame.mono (by decide) (by decide)⟩
  · jvm_step X161.here [X161.here.top, hx, (hb hby d3_35), X161.method', Bd.returns, Value.isRef, FieldType.isReference]
    first | (intro acts; rw [hr _ acts rfl rfl rfl]) | rw [hr _ _ rfl rfl rfl]
    exact Steps.refl _
  · show Q11 Z w24 w20 h0 n0 _ T161.heap _
    rw [e161]
    exact ⟨rfl, N0, rfl⟩
def Q12 (Z : State) (w24 : Addr) (w20 : Addr) (h0 : Heap) (n0 : Nat) (v : Option Value) (h : Heap) (L : List Loc) : Prop := v = some (.ref w20) ∧ Fr n0 L ∧ h = h0
set_option maxRecDepth 65536 in
set_option maxHeartbeats 40000000 in
theorem rm12 (l : Launch) (Z : State) (a0 : Array Value) (hw : ∀ d ∈ tables_1, d.before a0 Z = true) (ws : List Jvm.Cond) (w24 : Addr) (w20 : Addr) (h0 : Heap) (n0 : Nat) (O0 : Old Z n0 h0) (SF_w20_code : Fld Z Z.heap w20 zs1 "code" "I" (.int (2 : Int32))) (SF_w24_code : Fld Z Z.heap w24 zs1 "code" "I" (.int (1 : Int32))) :
    MetFree l (⟨zs1, "worse", zs3⟩ : MethodName) (head1 (Jvm.Cond.code (⟨zs1, "worse", zs3⟩ : MethodName) prog_4_method_6_code 2 (some (.object zs1)) :: ws) ({ frames := 0, cells := 0, slots := 0, locals := 0 } : Room)) (fun a U => a = #[(.ref w24), (.ref w20)] ∧ Z.Warmed39 U.vm ∧ U.heap = h0) (fun _ _ _ _ _ => True) (fun _ U o U' => ∃ v L, o = .returned v ∧ Q12 Z w24 w20 h0 n0 v U'.heap L ∧ FrameEnd U o U' L ({ frames := 0, cells := 0, slots := 0, locals := 0 } : Room).cells ({ frames := 0, cells := 0, slots := 0, locals := 0 } : Room).slots) := by
  refine MetFree.of_bodySF (plainFor_of_name pn_2) hisR ?_
  intro p e s m args below meth c s₁ Bd hml0 hP hK
  obtain ⟨rfl, hZ, hh⟩ := hP
  have hx := Bd.exec
  have hby := Bd.bytes
  have hml : c.maxLocals = 2 := hml0
  have hown : s.vm.findClass zs1 = some m.cls := findClass_of_methodNamed Bd.named
  have hnm := (name_of_methodNamed Bd.named Bd.method).1
  have X0 : Stand p l e ({ frames := 0, cells := 0, slots := 0, locals := 0 } : Room) s m #[(.ref w24), (.ref w20)] below meth c s₁ [] 0 0 := Stand.of_body Bd
  have e0 : s₁.heap = h0 := by rw [← hh, Bd.state]; rfl
  have N0 := Fr.nil n0
  refine own_out ?_
  refine own_via (fun t k => castTop (ef_2 m w24 w20) (XS.aloadN X0.here hx rfl (hb hby d2_0) rfl rfl k)) ?_
  obtain ⟨T170, X170, e170, st170⟩ := getF X0 hx hZ hown (host := "") (Or.inl (wd hw 13 rfl)) Via.refl e0 (SF_w20_code.ext O0.2) (g := (mkF m 1 #[rv w24, rv w20] [(.ref w20)])) rfl rfl (hb hby d2_1)
  refine own_via (fun t k => st170 t (XS.aloadN X170.here hx rfl (hb hby d2_4) rfl rfl k)) ?_
  obtain ⟨T171, X171, e171, st171⟩ := getF X170 hx hZ hown (host := "") (Or.inl (wd hw 13 rfl)) Via.refl e170 (SF_w24_code.ext O0.2) (g := (mkF m 5 #[rv w24, rv w20] [(.ref w24), (.int (2 : Int32))])) rfl rfl (hb hby d2_5)
  refine own_via (fun t k => st171 t (XS.icmpNo X171.here hx rfl (hb hby d2_8) rfl (tlt (by decide : (1 : Int32) < (2 : Int32))).2.2.2 (XS.aloadN X171.here hx rfl (hb hby d2_11) rfl rfl (XS.goto X171.here hx rfl (pc0 := 12) (pc' := 16) rfl (hb hby d2_12) (by decide) (by decide) k)))) ?_
  obtain ⟨fs, hr, hrun, hended, hW, hsame⟩ := X171.leave (v := some (.ref w20)) (fun h => by rw [Bd.returns] at h; cases h)
  refine own_end (t := T171.setFrames fs) ?_ ⟨_, hrun, hended, _, _, rfl, ?_, ⟨_, rfl⟩, hW, hsame.mono (by decide) (by decide)⟩
  · jvm_step X171.here [X171.here.top, hx, (hb hby d2_16), X171.method', Bd.returns, Value.isRef, FieldType.isReference]
    first | (intro acts; rw [hr _ acts rfl rfl rfl]) | rw [hr _ _ rfl rfl rfl]
    exact Steps.refl _
  · show Q12 Z w24 w20 h0 n0 _ T171.heap _
    rw [e171]
    exact ⟨rfl, N0, rfl⟩
def Q13 (Z : State) (w24 : Addr) (w20 : Addr) (h0 : Heap) (n0 : Nat) (v : Option Value) (h : Heap) (L : List Loc) : Prop := v = some (.ref w20) ∧ Fr n0 L ∧ h = h0
set_option maxRecDepth 65536 in
set_option maxHeartbeats 40000000 in
theorem rm13 (l : Launch) (Z : State) (a0 : Array Value) (hw : ∀ d ∈ tables_1, d.before a0 Z = true) (ws : List Jvm.Cond) (w24 : Addr) (w20 : Addr) (h0 : Heap) (n0 : Nat) (O0 : Old Z n0 h0) (S_ExitStatus_INVALID : Sta Z Z.heap zs1 "INVALID" zs5 (.ref w20)) (SF_w24_ordinal : Fld Z Z.heap w24 zs6 "ordinal" "I" (.int (1 : Int32))) (SF_w20_ordinal : Fld Z Z.heap w20 zs6 "ordinal" "I" (.int (2 : Int32))) :
    MetFree l (⟨zs4, "expected", zs2⟩ : MethodName) (head1 (Jvm.Cond.code (⟨zs4, "expected", zs2⟩ : MethodName) method_3_code 2 (some (.object zs1)) :: ws) ({ frames := 0, cells := 0, slots := 0, locals := 0 } : Room)) (fun a U => a = #[(.ref w24), (.ref w20)] ∧ Z.Warmed39 U.vm ∧ U.heap = h0) (fun _ _ _ _ _ => True) (fun _ U o U' => ∃ v L, o = .returned v ∧ Q13 Z w24 w20 h0 n0 v U'.heap L ∧ FrameEnd U o U' L ({ frames := 0, cells := 0, slots := 0, locals := 0 } : Room).cells ({ frames := 0, cells := 0, slots := 0, locals := 0 } : Room).slots) := by
  refine MetFree.of_bodySF (plainFor_of_name pn_1) hisR ?_
  intro p e s m args below meth c s₁ Bd hml0 hP hK
  obtain ⟨rfl, hZ, hh⟩ := hP
  have hx := Bd.exec
  have hby := Bd.bytes
  have hml : c.maxLocals = 2 := hml0
  have hown : s.vm.findClass zs4 = some m.cls := findClass_of_methodNamed Bd.named
  have hnm := (name_of_methodNamed Bd.named Bd.method).1
  have X0 : Stand p l e ({ frames := 0, cells := 0, slots := 0, locals := 0 } : Room) s m #[(.ref w24), (.ref w20)] below meth c s₁ [] 0 0 := Stand.of_body Bd
  have e0 : s₁.heap = h0 := by rw [← hh, Bd.state]; rfl
  have N0 := Fr.nil n0
  refine own_out ?_
  refine own_via (fun t k => castTop (ef_3 m w24 w20) (XS.aloadN X0.here hx rfl (hb hby d3_0) rfl rfl k)) ?_
  obtain ⟨T180, X180, e180, st180⟩ := getS2 X0 hx hZ hown (host := "") (Or.inl (wd hw 18 rfl)) Via.refl e0 (S_ExitStatus_INVALID.ext O0.2) (g := (mkF m 1 #[rv w24, rv w20] [(.ref w24)])) rfl (hb hby d3_1)
  refine own_via (fun t k => st180 t (Jvm.RoadKit.acmp (g := (mkF m 4 #[rv w24, rv w20] [(.ref w20), (.ref w24)])) X180 hx rfl rfl rfl (pc0 := 4) (pc' := 7) (same := false) rfl (hb hby d3_4) rfl (decide_eq_false fun q => (Fld.ne SF_w24_ordinal SF_w20_ordinal (by decide)) (Value.ref.inj q)) (by decide) (by decide) (XS.aloadN X180.here hx rfl (hb hby d3_7) rfl rfl k))) ?_
  obtain ⟨T181, X181, e181, st181⟩ := getS2 X180 hx hZ hown (host := "") (Or.inl (wd hw 18 rfl)) Via.refl e180 (S_ExitStatus_INVALID.ext O0.2) (g := (mkF m 8 #[rv w24, rv w20] [(.ref w20)])) rfl (hb hby d3_8)
  refine own_via (fun t k => st181 t (Jvm.RoadKit.acmp (g := (mkF m 11 #[rv w24, rv w20] [(.ref w20), (.ref w20)])) X181 hx rfl rfl rfl (pc0 := 11) (pc' := 14) (same := true) rfl (hb hby d3_11) rfl (decide_eq_true rfl) (by decide) (by decide) k)) ?_
  obtain ⟨T182, X182, e182, st182⟩ := getS2 X181 hx hZ hown (host := "") (Or.inl (wd hw 18 rfl)) Via.refl e181 (S_ExitStatus_INVALID.ext O0.2) (g := (mkF m 14 #[rv w24, rv w20] [])) rfl (hb hby d3_14)
  refine own_via (fun t k => st182 t k) ?_
  obtain ⟨fs, hr, hrun, hended, hW, hsame⟩ := X182.leave (v := some (.ref w20)) (fun h => by rw [Bd.returns] at h; cases h)
  refine own_end (t := T182.setFrames fs) ?_ ⟨_, hrun, hended, _, _, rfl, ?_, ⟨_, rfl⟩, hW, hsame.mono (by decide) (by decide)⟩
  · jvm_step X182.here [X182.here.top, hx, (hb hby d3_17), X182.method', Bd.returns, Value.isRef, FieldType.isReference]
    first | (intro acts; rw [hr _ acts rfl rfl rfl]) | rw [hr _ _ rfl rfl rfl]
    exact Steps.refl _
  · show Q13 Z w24 w20 h0 n0 _ T182.heap _
    rw [e182]
    exact ⟨rfl, N0, rfl⟩
def Q14 (Z : State) (w20 : Addr) (w17 : Addr) (h0 : Heap) (n0 : Nat) (v : Option Value) (h : Heap) (L : List Loc) : Prop := v = some (.ref w20) ∧ Fr n0 L ∧ h = h0
set_option maxRecDepth 65536 in
set_option maxHeartbeats 40000000 in
theorem rm14 (l : Launch) (Z : State) (a0 : Array Value) (hw : ∀ d ∈ tables_1, d.before a0 Z = true) (ws : List Jvm.Cond) (w20 : Addr) (w17 : Addr) (h0 : Heap) (n0 : Nat) (O0 : Old Z n0 h0) (SF_w17_code : Fld Z Z.heap w17 zs1 "code" "I" (.int (0 : Int32))) (SF_w20_code : Fld Z Z.heap w20 zs1 "code" "I" (.int (2 : Int32))) :
    MetFree l (⟨zs1, "worse", zs3⟩ : MethodName) (head1 (Jvm.Cond.code (⟨zs1, "worse", zs3⟩ : MethodName) prog_4_method_6_code 2 (some (.object zs1)) :: ws) ({ frames := 0, cells := 0, slots := 0, locals := 0 } : Room)) (fun a U => a = #[(.ref w20), (.ref w17)] ∧ Z.Warmed39 U.vm ∧ U.heap = h0) (fun _ _ _ _ _ => True) (fun _ U o U' => ∃ v L, o = .returned v ∧ Q14 Z w20 w17 h0 n0 v U'.heap L ∧ FrameEnd U o U' L ({ frames := 0, cells := 0, slots := 0, locals := 0 } : Room).cells ({ frames := 0, cells := 0, slots := 0, locals := 0 } : Room).slots) := by
  refine MetFree.of_bodySF (plainFor_of_name pn_2) hisR ?_
  intro p e s m args below meth c s₁ Bd hml0 hP hK
  obtain ⟨rfl, hZ, hh⟩ := hP
  have hx := Bd.exec
  have hby := Bd.bytes
  have hml : c.maxLocals = 2 := hml0
  have hown : s.vm.findClass zs1 = some m.cls := findClass_of_methodNamed Bd.named
  have hnm := (name_of_methodNamed Bd.named Bd.method).1
  have X0 : Stand p l e ({ frames := 0, cells := 0, slots := 0, locals := 0 } : Room) s m #[(.ref w20), (.ref w17)] below meth c s₁ [] 0 0 := Stand.of_body Bd
  have e0 : s₁.heap = h0 := by rw [← hh, Bd.state]; rfl
  have N0 := Fr.nil n0
  refine own_out ?_
  refine own_via (fun t k => castTop (ef_2 m w20 w17) (XS.aloadN X0.here hx rfl (hb hby d2_0) rfl rfl k)) ?_
  obtain ⟨T199, X199, e199, st199⟩ := getF X0 hx hZ hown (host := "") (Or.inl (wd hw 13 rfl)) Via.refl e0 (SF_w17_code.ext O0.2) (g := (mkF m 1 #[rv w20, rv w17] [(.ref w17)])) rfl rfl (hb hby d2_1)
  refine own_via (fun t k => st199 t (XS.aloadN X199.here hx rfl (hb hby d2_4) rfl rfl k)) ?_
  obtain ⟨T200, X200, e200, st200⟩ := getF X199 hx hZ hown (host := "") (Or.inl (wd hw 13 rfl)) Via.refl e199 (SF_w20_code.ext O0.2) (g := (mkF m 5 #[rv w20, rv w17] [(.ref w20), (.int (0 : Int32))])) rfl rfl (hb hby d2_5)
  refine own_via (fun t k => st200 t (XS.icmpYes X200.here hx rfl (pc0 := 8) (pc' := 15) rfl (hb hby d2_8) rfl (flt (by decide : ¬ ((2 : Int32) < (0 : Int32)))).2.2.2 (by decide) (by decide) (XS.aloadN X200.here hx rfl (hb hby d2_15) rfl rfl k))) ?_
  obtain ⟨fs, hr, hrun, hended, hW, hsame⟩ := X200.leave (v := some (.ref w20)) (fun h => by rw [Bd.returns] at h; cases h)
  refine own_end (t := T200.setFrames fs) ?_ ⟨_, hrun, hended, _, _, rfl, ?_, ⟨_, rfl⟩, hW, hsame.mono (by decide) (by decide)⟩
  · jvm_step X200.here [X200.here.top, hx, (hb hby d2_16), X200.method', Bd.returns, Value.isRef, FieldType.isReference]
    first | (intro acts; rw [hr _ acts rfl rfl rfl]) | rw [hr _ _ rfl rfl rfl]
    exact Steps.refl _
  · show Q14 Z w20 w17 h0 n0 _ T200.heap _
    rw [e200]
    exact ⟨rfl, N0, rfl⟩
def Q15 (Z : State) (w20 : Addr) (w17 : Addr) (h0 : Heap) (n0 : Nat) (v : Option Value) (h : Heap) (L : List Loc) : Prop := v = some (.ref w20) ∧ Fr n0 L ∧ h = h0
set_option maxRecDepth 65536 in
set_option maxHeartbeats 40000000 in
theorem rm15 (l : Launch) (Z : State) (a0 : Array Value) (hw : ∀ d ∈ tables_1, d.before a0 Z = true) (ws : List Jvm.Cond) (w20 : Addr) (w17 : Addr) (h0 : Heap) (n0 : Nat) (O0 : Old Z n0 h0) (S_ExitStatus_INVALID : Sta Z Z.heap zs1 "INVALID" zs5 (.ref w20)) :
    MetFree l (⟨zs4, "expected", zs2⟩ : MethodName) (head1 (Jvm.Cond.code (⟨zs4, "expected", zs2⟩ : MethodName) method_3_code 2 (some (.object zs1)) :: ws) ({ frames := 0, cells := 0, slots := 0, locals := 0 } : Room)) (fun a U => a = #[(.ref w20), (.ref w17)] ∧ Z.Warmed39 U.vm ∧ U.heap = h0) (fun _ _ _ _ _ => True) (fun _ U o U' => ∃ v L, o = .returned v ∧ Q15 Z w20 w17 h0 n0 v U'.heap L ∧ FrameEnd U o U' L ({ frames := 0, cells := 0, slots := 0, locals := 0 } : Room).cells ({ frames := 0, cells := 0, slots := 0, locals := 0 } : Room).slots) := by
  refine MetFree.of_bodySF (plainFor_of_name pn_1) hisR ?_
  intro p e s m args below meth c s₁ Bd hml0 hP hK
  obtain ⟨rfl, hZ, hh⟩ := hP
  have hx := Bd.exec
  have hby := Bd.bytes
  have hml : c.maxLocals = 2 := hml0
  have hown : s.vm.findClass zs4 = some m.cls := findClass_of_methodNamed Bd.named
  have hnm := (name_of_methodNamed Bd.named Bd.method).1
  have X0 : Stand p l e ({ frames := 0, cells := 0, slots := 0, locals := 0 } : Room) s m #[(.ref w20), (.ref w17)] below meth c s₁ [] 0 0 := Stand.of_body Bd
  have e0 : s₁.heap = h0 := by rw [← hh, Bd.state]; rfl
  have N0 := Fr.nil n0
  refine own_out ?_
  refine own_via (fun t k => castTop (ef_3 m w20 w17) (XS.aloadN X0.here hx rfl (hb hby d3_0) rfl rfl k)) ?_
  obtain ⟨T208, X208, e208, st208⟩ := getS2 X0 hx hZ hown (host := "") (Or.inl (wd hw 18 rfl)) Via.refl e0 (S_ExitStatus_INVALID.ext O0.2) (g := (mkF m 1 #[rv w20, rv w17] [(.ref w20)])) rfl (hb hby d3_1)
  refine own_via (fun t k => st208 t (Jvm.RoadKit.acmp (g := (mkF m 4 #[rv w20, rv w17] [(.ref w20), (.ref w20)])) X208 hx rfl rfl rfl (pc0 := 4) (pc' := 14) (same := true) rfl (hb hby d3_4) rfl (decide_eq_true rfl) (by decide) (by decide) k)) ?_
  obtain ⟨T209, X209, e209, st209⟩ := getS2 X208 hx hZ hown (host := "") (Or.inl (wd hw 18 rfl)) Via.refl e208 (S_ExitStatus_INVALID.ext O0.2) (g := (mkF m 14 #[rv w20, rv w17] [])) rfl (hb hby d3_14)
  refine own_via (fun t k => st209 t k) ?_
  obtain ⟨fs, hr, hrun, hended, hW, hsame⟩ := X209.leave (v := some (.ref w20)) (fun h => by rw [Bd.returns] at h; cases h)
  refine own_end (t := T209.setFrames fs) ?_ ⟨_, hrun, hended, _, _, rfl, ?_, ⟨_, rfl⟩, hW, hsame.mono (by decide) (by decide)⟩
  · jvm_step X209.here [X209.here.top, hx, (hb hby d3_17), X209.method', Bd.returns, Value.isRef, FieldType.isReference]
    first | (intro acts; rw [hr _ acts rfl rfl rfl]) | rw [hr _ _ rfl rfl rfl]
    exact Steps.refl _
  · show Q15 Z w20 w17 h0 n0 _ T209.heap _
    rw [e209]
    exact ⟨rfl, N0, rfl⟩
def Q16 (Z : State) (w20 : Addr) (w24 : Addr) (h0 : Heap) (n0 : Nat) (v : Option Value) (h : Heap) (L : List Loc) : Prop := v = some (.ref w20) ∧ Fr n0 L ∧ h = h0
set_option maxRecDepth 65536 in
set_option maxHeartbeats 40000000 in
theorem rm16 (l : Launch) (Z : State) (a0 : Array Value) (hw : ∀ d ∈ tables_1, d.before a0 Z = true) (ws : List Jvm.Cond) (w20 : Addr) (w24 : Addr) (h0 : Heap) (n0 : Nat) (O0 : Old Z n0 h0) (SF_w24_code : Fld Z Z.heap w24 zs1 "code" "I" (.int (1 : Int32))) (SF_w20_code : Fld Z Z.heap w20 zs1 "code" "I" (.int (2 : Int32))) :
    MetFree l (⟨zs1, "worse", zs3⟩ : MethodName) (head1 (Jvm.Cond.code (⟨zs1, "worse", zs3⟩ : MethodName) prog_4_method_6_code 2 (some (.object zs1)) :: ws) ({ frames := 0, cells := 0, slots := 0, locals := 0 } : Room)) (fun a U => a = #[(.ref w20), (.ref w24)] ∧ Z.Warmed39 U.vm ∧ U.heap = h0) (fun _ _ _ _ _ => True) (fun _ U o U' => ∃ v L, o = .returned v ∧ Q16 Z w20 w24 h0 n0 v U'.heap L ∧ FrameEnd U o U' L ({ frames := 0, cells := 0, slots := 0, locals := 0 } : Room).cells ({ frames := 0, cells := 0, slots := 0, locals := 0 } : Room).slots) := by
  refine MetFree.of_bodySF (plainFor_of_name pn_2) hisR ?_
  intro p e s m args below meth c s₁ Bd hml0 hP hK
  obtain ⟨rfl, hZ, hh⟩ := hP
  have hx := Bd.exec
  have hby := Bd.bytes
  have hml : c.maxLocals = 2 := hml0
  have hown : s.vm.findClass zs1 = some m.cls := findClass_of_methodNamed Bd.named
  have hnm := (name_of_methodNamed Bd.named Bd.method).1
  have X0 : Stand p l e ({ frames := 0, cells := 0, slots := 0, locals := 0 } : Room) s m #[(.ref w20), (.ref w24)] below meth c s₁ [] 0 0 := Stand.of_body Bd
  have e0 : s₁.heap = h0 := by rw [← hh, Bd.state]; rfl
  have N0 := Fr.nil n0
  refine own_out ?_
  refine own_via (fun t k => castTop (ef_2 m w20 w24) (XS.aloadN X0.here hx rfl (hb hby d2_0) rfl rfl k)) ?_
  obtain ⟨T218, X218, e218, st218⟩ := getF X0 hx hZ hown (host := "") (Or.inl (wd hw 13 rfl)) Via.refl e0 (SF_w24_code.ext O0.2) (g := (mkF m 1 #[rv w20, rv w24] [(.ref w24)])) rfl rfl (hb hby d2_1)
  refine own_via (fun t k => st218 t (XS.aloadN X218.here hx rfl (hb hby d2_4) rfl rfl k)) ?_
  obtain ⟨T219, X219, e219, st219⟩ := getF X218 hx hZ hown (host := "") (Or.inl (wd hw 13 rfl)) Via.refl e218 (SF_w20_code.ext O0.2) (g := (mkF m 5 #[rv w20, rv w24] [(.ref w20), (.int (1 : Int32))])) rfl rfl (hb hby d2_5)
  refine own_via (fun t k => st219 t (XS.icmpYes X219.here hx rfl (pc0 := 8) (pc' := 15) rfl (hb hby d2_8) rfl (flt (by decide : ¬ ((2 : Int32) < (1 : Int32)))).2.2.2 (by decide) (by decide) (XS.aloadN X219.here hx rfl (hb hby d2_15) rfl rfl k))) ?_
  obtain ⟨fs, hr, hrun, hended, hW, hsame⟩ := X219.leave (v := some (.ref w20)) (fun h => by rw [Bd.returns] at h; cases h)
  refine own_end (t := T219.setFrames fs) ?_ ⟨_, hrun, hended, _, _, rfl, ?_, ⟨_, rfl⟩, hW, hsame.mono (by decide) (by decide)⟩
  · jvm_step X219.here [X219.here.top, hx, (hb hby d2_16), X219.method', Bd.returns, Value.isRef, FieldType.isReference]
    first | (intro acts; rw [hr _ acts rfl rfl rfl]) | rw [hr _ _ rfl rfl rfl]
    exact Steps.refl _
  · show Q16 Z w20 w24 h0 n0 _ T219.heap _
    rw [e219]
    exact ⟨rfl, N0, rfl⟩
def Q17 (Z : State) (w20 : Addr) (w24 : Addr) (h0 : Heap) (n0 : Nat) (v : Option Value) (h : Heap) (L : List Loc) : Prop := v = some (.ref w20) ∧ Fr n0 L ∧ h = h0
set_option maxRecDepth 65536 in
set_option maxHeartbeats 40000000 in
theorem rm17 (l : Launch) (Z : State) (a0 : Array Value) (hw : ∀ d ∈ tables_1, d.before a0 Z = true) (ws : List Jvm.Cond) (w20 : Addr) (w24 : Addr) (h0 : Heap) (n0 : Nat) (O0 : Old Z n0 h0) (S_ExitStatus_INVALID : Sta Z Z.heap zs1 "INVALID" zs5 (.ref w20)) :
    MetFree l (⟨zs4, "expected", zs2⟩ : MethodName) (head1 (Jvm.Cond.code (⟨zs4, "expected", zs2⟩ : MethodName) method_3_code 2 (some (.object zs1)) :: ws) ({ frames := 0, cells := 0, slots := 0, locals := 0 } : Room)) (fun a U => a = #[(.ref w20), (.ref w24)] ∧ Z.Warmed39 U.vm ∧ U.heap = h0) (fun _ _ _ _ _ => True) (fun _ U o U' => ∃ v L, o = .returned v ∧ Q17 Z w20 w24 h0 n0 v U'.heap L ∧ FrameEnd U o U' L ({ frames := 0, cells := 0, slots := 0, locals := 0 } : Room).cells ({ frames := 0, cells := 0, slots := 0, locals := 0 } : Room).slots) := by
  refine MetFree.of_bodySF (plainFor_of_name pn_1) hisR ?_
  intro p e s m args below meth c s₁ Bd hml0 hP hK
  obtain ⟨rfl, hZ, hh⟩ := hP
  have hx := Bd.exec
  have hby := Bd.bytes
  have hml : c.maxLocals = 2 := hml0
  have hown : s.vm.findClass zs4 = some m.cls := findClass_of_methodNamed Bd.named
  have hnm := (name_of_methodNamed Bd.named Bd.method).1
  have X0 : Stand p l e ({ frames := 0, cells := 0, slots := 0, locals := 0 } : Room) s m #[(.ref w20), (.ref w24)] below meth c s₁ [] 0 0 := Stand.of_body Bd
  have e0 : s₁.heap = h0 := by rw [← hh, Bd.state]; rfl
  have N0 := Fr.nil n0
  refine own_out ?_
  refine own_via (fun t k => castTop (ef_3 m w20 w24) (XS.aloadN X0.here hx rfl (hb hby d3_0) rfl rfl k)) ?_
  obtain ⟨T228, X228, e228, st228⟩ := getS2 X0 hx hZ hown (host := "") (Or.inl (wd hw 18 rfl)) Via.refl e0 (S_ExitStatus_INVALID.ext O0.2) (g := (mkF m 1 #[rv w20, rv w24] [(.ref w20)])) rfl (hb hby d3_1)
  refine own_via (fun t k => st228 t (Jvm.RoadKit.acmp (g := (mkF m 4 #[rv w20, rv w24] [(.ref w20), (.ref w20)])) X228 hx rfl rfl rfl (pc0 := 4) (pc' := 14) (same := true) rfl (hb hby d3_4) rfl (decide_eq_true rfl) (by decide) (by decide) k)) ?_
  obtain ⟨T229, X229, e229, st229⟩ := getS2 X228 hx hZ hown (host := "") (Or.inl (wd hw 18 rfl)) Via.refl e228 (S_ExitStatus_INVALID.ext O0.2) (g := (mkF m 14 #[rv w20, rv w24] [])) rfl (hb hby d3_14)
  refine own_via (fun t k => st229 t k) ?_
  obtain ⟨fs, hr, hrun, hended, hW, hsame⟩ := X229.leave (v := some (.ref w20)) (fun h => by rw [Bd.returns] at h; cases h)
  refine own_end (t := T229.setFrames fs) ?_ ⟨_, hrun, hended, _, _, rfl, ?_, ⟨_, rfl⟩, hW, hsame.mono (by decide) (by decide)⟩
  · jvm_step X229.here [X229.here.top, hx, (hb hby d3_17), X229.method', Bd.returns, Value.isRef, FieldType.isReference]
    first | (intro acts; rw [hr _ acts rfl rfl rfl]) | rw [hr _ _ rfl rfl rfl]
    exact Steps.refl _
  · show Q17 Z w20 w24 h0 n0 _ T229.heap _
    rw [e229]
    exact ⟨rfl, N0, rfl⟩
def Q18 (Z : State) (w20 : Addr) (h0 : Heap) (n0 : Nat) (v : Option Value) (h : Heap) (L : List Loc) : Prop := v = some (.ref w20) ∧ Fr n0 L ∧ h = h0
set_option maxRecDepth 65536 in
set_option maxHeartbeats 40000000 in
theorem rm18 (l : Launch) (Z : State) (a0 : Array Value) (hw : ∀ d ∈ tables_1, d.before a0 Z = true) (ws : List Jvm.Cond) (w20 : Addr) (h0 : Heap) (n0 : Nat) (O0 : Old Z n0 h0) (SF_w20_code : Fld Z Z.heap w20 zs1 "code" "I" (.int (2 : Int32))) :
    MetFree l (⟨zs1, "worse", zs3⟩ : MethodName) (head1 (Jvm.Cond.code (⟨zs1, "worse", zs3⟩ : MethodName) prog_4_method_6_code 2 (some (.object zs1)) :: ws) ({ frames := 0, cells := 0, slots := 0, locals := 0 } : Room)) (fun a U => a = #[(.ref w20), (.ref w20)] ∧ Z.Warmed39 U.vm ∧ U.heap = h0) (fun _ _ _ _ _ => True) (fun _ U o U' => ∃ v L, o = .returned v ∧ Q18 Z w20 h0 n0 v U'.heap L ∧ FrameEnd U o U' L ({ frames := 0, cells := 0, slots := 0, locals := 0 } : Room).cells ({ frames := 0, cells := 0, slots := 0, locals := 0 } : Room).slots) := by
  refine MetFree.of_bodySF (plainFor_of_name pn_2) hisR ?_
  intro p e s m args below meth c s₁ Bd hml0 hP hK
  obtain ⟨rfl, hZ, hh⟩ := hP
  have hx := Bd.exec
  have hby := Bd.bytes
  have hml : c.maxLocals = 2 := hml0
  have hown : s.vm.findClass zs1 = some m.cls := findClass_of_methodNamed Bd.named
  have hnm := (name_of_methodNamed Bd.named Bd.method).1
  have X0 : Stand p l e ({ frames := 0, cells := 0, slots := 0, locals := 0 } : Room) s m #[(.ref w20), (.ref w20)] below meth c s₁ [] 0 0 := Stand.of_body Bd
  have e0 : s₁.heap = h0 := by rw [← hh, Bd.state]; rfl
  have N0 := Fr.nil n0
  refine own_out ?_
  refine own_via (fun t k => castTop (ef_2 m w20 w20) (XS.aloadN X0.here hx rfl (hb hby d2_0) rfl rfl k)) ?_
  obtain ⟨T238, X238, e238, st238⟩ := getF X0 hx hZ hown (host := "") (Or.inl (wd hw 13 rfl)) Via.refl e0 (SF_w20_code.ext O0.2) (g := (mkF m 1 #[rv w20, rv w20] [(.ref w20)])) rfl rfl (hb hby d2_1)
  refine own_via (fun t k => st238 t (XS.aloadN X238.here hx rfl (hb hby d2_4) rfl rfl k)) ?_
  obtain ⟨T239, X239, e239, st239⟩ := getF X238 hx hZ hown (host := "") (Or.inl (wd hw 13 rfl)) Via.refl e238 (SF_w20_code.ext O0.2) (g := (mkF m 5 #[rv w20, rv w20] [(.ref w20), (.int (2 : Int32))])) rfl rfl (hb hby d2_5)
  refine own_via (fun t k => st239 t (XS.icmpYes X239.here hx rfl (pc0 := 8) (pc' := 15) rfl (hb hby d2_8) rfl (flt (by decide : ¬ ((2 : Int32) < (2 : Int32)))).2.2.2 (by decide) (by decide) (XS.aloadN X239.here hx rfl (hb hby d2_15) rfl rfl k))) ?_
  obtain ⟨fs, hr, hrun, hended, hW, hsame⟩ := X239.leave (v := some (.ref w20)) (fun h => by rw [Bd.returns] at h; cases h)
  refine own_end (t := T239.setFrames fs) ?_ ⟨_, hrun, hended, _, _, rfl, ?_, ⟨_, rfl⟩, hW, hsame.mono (by decide) (by decide)⟩
  · jvm_step X239.here [X239.here.top, hx, (hb hby d2_16), X239.method', Bd.returns, Value.isRef, FieldType.isReference]
    first | (intro acts; rw [hr _ acts rfl rfl rfl]) | rw [hr _ _ rfl rfl rfl]
    exact Steps.refl _
  · show Q18 Z w20 h0 n0 _ T239.heap _
    rw [e239]
    exact ⟨rfl, N0, rfl⟩
def Q19 (Z : State) (w20 : Addr) (h0 : Heap) (n0 : Nat) (v : Option Value) (h : Heap) (L : List Loc) : Prop := v = some (.ref w20) ∧ Fr n0 L ∧ h = h0
set_option maxRecDepth 65536 in
set_option maxHeartbeats 40000000 in
theorem rm19 (l : Launch) (Z : State) (a0 : Array Value) (hw : ∀ d ∈ tables_1, d.before a0 Z = true) (ws : List Jvm.Cond) (w20 : Addr) (h0 : Heap) (n0 : Nat) (O0 : Old Z n0 h0) (S_ExitStatus_INVALID : Sta Z Z.heap zs1 "INVALID" zs5 (.ref w20)) :
    MetFree l (⟨zs4, "expected", zs2⟩ : MethodName) (head1 (Jvm.Cond.code (⟨zs4, "expected", zs2⟩ : MethodName) method_3_code 2 (some (.object zs1)) :: ws) ({ frames := 0, cells := 0, slots := 0, locals := 0 } : Room)) (fun a U => a = #[(.ref w20), (.ref w20)] ∧ Z.Warmed39 U.vm ∧ U.heap = h0) (fun _ _ _ _ _ => True) (fun _ U o U' => ∃ v L, o = .returned v ∧ Q19 Z w20 h0 n0 v U'.heap L ∧ FrameEnd U o U' L ({ frames := 0, cells := 0, slots := 0, locals := 0 } : Room).cells ({ frames := 0, cells := 0, slots := 0, locals := 0 } : Room).slots) := by
  refine MetFree.of_bodySF (plainFor_of_name pn_1) hisR ?_
  intro p e s m args below meth c s₁ Bd hml0 hP hK
  obtain ⟨rfl, hZ, hh⟩ := hP
  have hx := Bd.exec
  have hby := Bd.bytes
  have hml : c.maxLocals = 2 := hml0
  have hown : s.vm.findClass zs4 = some m.cls := findClass_of_methodNamed Bd.named
  have hnm := (name_of_methodNamed Bd.named Bd.method).1
  have X0 : Stand p l e ({ frames := 0, cells := 0, slots := 0, locals := 0 } : Room) s m #[(.ref w20), (.ref w20)] below meth c s₁ [] 0 0 := Stand.of_body Bd
  have e0 : s₁.heap = h0 := by rw [← hh, Bd.state]; rfl
  have N0 := Fr.nil n0
  refine own_out ?_
  refine own_via (fun t k => castTop (ef_3 m w20 w20) (XS.aloadN X0.here hx rfl (hb hby d3_0) rfl rfl k)) ?_
  obtain ⟨T248, X248, e248, st248⟩ := getS2 X0 hx hZ hown (host := "") (Or.inl (wd hw 18 rfl)) Via.refl e0 (S_ExitStatus_INVALID.ext O0.2) (g := (mkF m 1 #[rv w20, rv w20] [(.ref w20)])) rfl (hb hby d3_1)
  refine own_via (fun t k => st248 t (Jvm.RoadKit.acmp (g := (mkF m 4 #[rv w20, rv w20] [(.ref w20), (.ref w20)])) X248 hx rfl rfl rfl (pc0 := 4) (pc' := 14) (same := true) rfl (hb hby d3_4) rfl (decide_eq_true rfl) (by decide) (by decide) k)) ?_
  obtain ⟨T249, X249, e249, st249⟩ := getS2 X248 hx hZ hown (host := "") (Or.inl (wd hw 18 rfl)) Via.refl e248 (S_ExitStatus_INVALID.ext O0.2) (g := (mkF m 14 #[rv w20, rv w20] [])) rfl (hb hby d3_14)
  refine own_via (fun t k => st249 t k) ?_
  obtain ⟨fs, hr, hrun, hended, hW, hsame⟩ := X249.leave (v := some (.ref w20)) (fun h => by rw [Bd.returns] at h; cases h)
  refine own_end (t := T249.setFrames fs) ?_ ⟨_, hrun, hended, _, _, rfl, ?_, ⟨_, rfl⟩, hW, hsame.mono (by decide) (by decide)⟩
  · jvm_step X249.here [X249.here.top, hx, (hb hby d3_17), X249.method', Bd.returns, Value.isRef, FieldType.isReference]
    first | (intro acts; rw [hr _ acts rfl rfl rfl]) | rw [hr _ _ rfl rfl rfl]
    exact Steps.refl _
  · show Q19 Z w20 h0 n0 _ T249.heap _
    rw [e249]
    exact ⟨rfl, N0, rfl⟩
theorem ef_4 (m : MethodId) (x0 : Int32) (x1 : Int32) : entryFrame m #[(.int x0), (.int x1)] maxLocals = mkF m 0 #[iv x0, iv x1, .unset, .unset, .unset] [] := by first | (simp [entryFrame, mkF, argsToLocals, Value.category, maxLocals]; done) | rfl
set_option maxRecDepth 65536 in
set_option maxHeartbeats 40000000 in
theorem rm0 (l : Launch) (Z : State) (a0 : Array Value) (hw : ∀ d ∈ tables_1, d.before a0 Z = true) (ws : List Jvm.Cond) (i0 : Int32) (i1 : Int32) (w17 : Addr) (w24 : Addr) (w20 : Addr) (h0 : Heap) (n0 : Nat) (O0 : Old Z n0 h0) (S_ExitStatus_OK : Sta Z Z.heap zs1 "OK" zs5 (.ref w17)) (S_ExitStatus_NOT_UNIQUE : Sta Z Z.heap zs1 "NOT_UNIQUE" zs5 (.ref w24)) (S_ExitStatus_INVALID : Sta Z Z.heap zs1 "INVALID" zs5 (.ref w20)) (SF_w17_code : Fld Z Z.heap w17 zs1 "code" "I" (.int (0 : Int32))) (SE_w17 : Exa Z Z.heap w17 zs1) (SF_w20_code : Fld Z Z.heap w20 zs1 "code" "I" (.int (2 : Int32))) (SF_w24_code : Fld Z Z.heap w24 zs1 "code" "I" (.int (1 : Int32))) (SF_w24_ordinal : Fld Z Z.heap w24 zs6 "ordinal" "I" (.int (1 : Int32))) (SF_w20_ordinal : Fld Z Z.heap w20 zs6 "ordinal" "I" (.int (2 : Int32))) (SE_w24 : Exa Z Z.heap w24 zs1) (SE_w20 : Exa Z Z.heap w20 zs1) :
    MetFree l x (head1 (Jvm.Cond.code x code maxLocals ret :: ws) room_1) (fun a U => a = #[(.int i0), (.int i1)] ∧ Z.Warmed39 U.vm ∧ U.heap = h0) (fun _ _ _ _ _ => True) (fun _ U o U' => ∃ v L, o = .returned v ∧ own_Q0 n0 v L ∧ FrameEnd U o U' L room_1.cells room_1.slots) := by
  refine MetFree.of_bodySF (plainFor_of_name pn_1) hisR ?_
  intro p e s m args below meth c s₁ Bd hml0 hP hK
  obtain ⟨rfl, hZ, hh⟩ := hP
  have hx := Bd.exec
  have hby := Bd.bytes
  have hml : c.maxLocals = 5 := hml0
  have hown : s.vm.findClass zs4 = some m.cls := findClass_of_methodNamed Bd.named
  have hnm := (name_of_methodNamed Bd.named Bd.method).1
  have X0 : Stand p l e room_1 s m #[(.int i0), (.int i1)] below meth c s₁ [] 0 0 := Stand.of_body Bd
  have e0 : s₁.heap = h0 := by rw [← hh, Bd.state]; rfl
  have N0 := Fr.nil n0
  refine own_out ?_
  show own_Goes p e below _ (own_G s below n0)
  refine own_via (fun t k => castTop (ef_4 m i0 i1) (XS.iloadN X0.here hx rfl (hb hby at_0) rfl k)) ?_
  obtain ⟨_, T29, _, X29, hQ29, st29⟩ := own_cs X0 hx hZ hown (wd hw 0 rfl) (wd hw 1 rfl) (wd hw 3 rfl) (wd hw 2 rfl) (by decide) (rm1 l Z a0 hw [] i0 w17 w24 w20 h0 n0 O0 S_ExitStatus_OK S_ExitStatus_NOT_UNIQUE S_ExitStatus_INVALID) e0 (g := (mkF m 1 #[iv i0, iv i1, .unset, .unset, .unset] [(.int i0)])) rfl (by rw [hml]; rfl) (rest := []) (W := 0) (lenOf pd_1 rfl) rfl (by show 2 * 0 + _ ≤ _; exact Nat.le_of_eq rfl) (hb hby at_1) (by decide) (by decide) (by decide) (by decide)
  rcases hQ29 with ⟨hq36, rfl, Nq29, hh37⟩ | ⟨hq38, hq39, rfl, Nq29, hh40⟩ | ⟨hq41, hq42, rfl, Nq29, hh43⟩
  · have N29 := Fr.app N0 Nq29
    refine own_via (fun t k => st29 t (XS.astoreN X29.here hx rfl (hb hby at_4) rfl rfl (l' := #[iv i0, iv i1, rv w17, .unset, .unset]) rfl (XS.iloadN X29.here hx rfl (hb hby at_5) rfl k))) ?_
    obtain ⟨_, T44, _, X44, hQ44, st44⟩ := own_cs X29 hx hZ hown (wd hw 0 rfl) (wd hw 1 rfl) (wd hw 3 rfl) (wd hw 2 rfl) (by decide) (rm1 l Z a0 hw [] i1 w17 w24 w20 h0 n0 O0 S_ExitStatus_OK S_ExitStatus_NOT_UNIQUE S_ExitStatus_INVALID) hh37 (g := (mkF m 6 #[iv i0, iv i1, rv w17, .unset, .unset] [(.int i1)])) rfl (by rw [hml]; rfl) (rest := []) (W := 0) (lenOf pd_1 rfl) rfl (by show 2 * 0 + _ ≤ _; exact Nat.le_of_eq rfl) (hb hby at_6) (by decide) (by decide) (by decide) (by decide)
    rcases hQ44 with ⟨hq45, rfl, Nq44, hh46⟩ | ⟨hq47, hq48, rfl, Nq44, hh49⟩ | ⟨hq50, hq51, rfl, Nq44, hh52⟩
    · have N44 := Fr.app N29 Nq44
      refine own_via (fun t k => st44 t (XS.astoreN X44.here hx rfl (hb hby at_9) rfl rfl (l' := #[iv i0, iv i1, rv w17, rv w17, .unset]) rfl (XS.aloadN X44.here hx rfl (hb hby at_10) rfl rfl (XS.aloadN X44.here hx rfl (hb hby at_11) rfl rfl k)))) ?_
      obtain ⟨_, T53, _, X53, hQ53, st53⟩ := own_cv X44 hx hZ hown (wd hw 8 rfl) (wd hw 9 rfl) (wd hw 11 rfl) (wd hw 10 rfl) (wd hw 12 rfl) (wd hw 6 rfl) (by decide) (rm2 l Z a0 hw [] w17 h0 n0 O0 SF_w17_code) hh46 (SE_w17.ext O0.2) (g := (mkF m 12 #[iv i0, iv i1, rv w17, rv w17, .unset] [(.ref w17), (.ref w17)])) rfl (by rw [hml]; rfl) (rest := []) (W := 0) (lenOf pd_2 rfl) rfl (by show 2 * 0 + _ ≤ _; exact Nat.le_of_eq rfl) (hb hby at_12) (by decide) (by decide) (by decide) (by decide)
      obtain ⟨rfl, Nq53, hh60⟩ := hQ53
      have N53 := Fr.app N44 Nq53
      refine own_via (fun t k => st53 t (XS.astore X53.here hx rfl (hb hby at_15) rfl rfl (l' := #[iv i0, iv i1, rv w17, rv w17, rv w17]) rfl (XS.aload X53.here hx rfl (hb hby at_17) rfl rfl (XS.aloadN X53.here hx rfl (hb hby at_19) rfl rfl (XS.aloadN X53.here hx rfl (hb hby at_20) rfl rfl k))))) ?_
      obtain ⟨_, T61, _, X61, hQ61, st61⟩ := own_cs X53 hx hZ hown (wd hw 15 rfl) (wd hw 16 rfl) (wd hw 17 rfl) (wd hw 2 rfl) (by decide) (rm3 l Z a0 hw [] w17 w20 w24 h0 n0 O0 S_ExitStatus_INVALID SF_w17_code SF_w20_code S_ExitStatus_NOT_UNIQUE SF_w24_code S_ExitStatus_OK) hh60 (g := (mkF m 21 #[iv i0, iv i1, rv w17, rv w17, rv w17] [(.ref w17), (.ref w17), (.ref w17)])) rfl (by rw [hml]; rfl) (rest := [(.ref w17)]) (W := 1) (lenOf pd_3 rfl) rfl (by show 2 * 0 + _ ≤ _; exact Nat.le_of_eq rfl) (hb hby at_21) (by decide) (by decide) (by decide) (by decide)
      obtain ⟨rfl, Nq61, hh71⟩ := hQ61
      have N61 := Fr.app N53 Nq61
      refine own_via (fun t k => st61 t (Jvm.RoadKit.acmp (g := (mkF m 24 #[iv i0, iv i1, rv w17, rv w17, rv w17] [(.ref w17), (.ref w17)])) X61 hx rfl rfl rfl (pc0 := 24) (pc' := 27) (same := true) rfl (hb hby at_24) rfl (decide_eq_true rfl) (by decide) (by decide) (XS.iconst X61.here hx rfl (hb hby at_27) (XS.goto X61.here hx rfl (pc0 := 28) (pc' := 32) rfl (hb hby at_28) (by decide) (by decide) k)))) ?_
      obtain ⟨fs, hr, hrun, hended, hW, hsame⟩ := X61.leave (v := some (.int (1 : Int32))) (fun h => by rw [Bd.returns] at h; cases h)
      refine own_end (t := T61.setFrames fs) ?_ ⟨_, hrun, hended, _, _, rfl, ?_, ⟨_, rfl⟩, hW, hsame.mono (by decide) (by decide)⟩
      · exact retN X61 hx (t := .boolean) Bd.returns (by simp) (hb hby at_32) hr
      · exact ⟨rfl, N61⟩
    · have N44 := Fr.app N29 Nq44
      refine own_via (fun t k => st44 t (XS.astoreN X44.here hx rfl (hb hby at_9) rfl rfl (l' := #[iv i0, iv i1, rv w17, rv w24, .unset]) rfl (XS.aloadN X44.here hx rfl (hb hby at_10) rfl rfl (XS.aloadN X44.here hx rfl (hb hby at_11) rfl rfl k)))) ?_
      obtain ⟨_, T72, _, X72, hQ72, st72⟩ := own_cv X44 hx hZ hown (wd hw 8 rfl) (wd hw 9 rfl) (wd hw 11 rfl) (wd hw 10 rfl) (wd hw 12 rfl) (wd hw 6 rfl) (by decide) (rm4 l Z a0 hw [] w17 w24 h0 n0 O0 SF_w24_code SF_w17_code) hh49 (SE_w17.ext O0.2) (g := (mkF m 12 #[iv i0, iv i1, rv w17, rv w24, .unset] [(.ref w24), (.ref w17)])) rfl (by rw [hml]; rfl) (rest := []) (W := 0) (lenOf pd_2 rfl) rfl (by show 2 * 0 + _ ≤ _; exact Nat.le_of_eq rfl) (hb hby at_12) (by decide) (by decide) (by decide) (by decide)
      obtain ⟨rfl, Nq72, hh80⟩ := hQ72
      have N72 := Fr.app N44 Nq72
      refine own_via (fun t k => st72 t (XS.astore X72.here hx rfl (hb hby at_15) rfl rfl (l' := #[iv i0, iv i1, rv w17, rv w24, rv w24]) rfl (XS.aload X72.here hx rfl (hb hby at_17) rfl rfl (XS.aloadN X72.here hx rfl (hb hby at_19) rfl rfl (XS.aloadN X72.here hx rfl (hb hby at_20) rfl rfl k))))) ?_
      obtain ⟨_, T81, _, X81, hQ81, st81⟩ := own_cs X72 hx hZ hown (wd hw 15 rfl) (wd hw 16 rfl) (wd hw 17 rfl) (wd hw 2 rfl) (by decide) (rm5 l Z a0 hw [] w17 w24 w20 h0 n0 O0 S_ExitStatus_INVALID SF_w17_code SF_w20_code SF_w24_ordinal SF_w20_ordinal S_ExitStatus_NOT_UNIQUE SF_w24_code) hh80 (g := (mkF m 21 #[iv i0, iv i1, rv w17, rv w24, rv w24] [(.ref w24), (.ref w17), (.ref w24)])) rfl (by rw [hml]; rfl) (rest := [(.ref w24)]) (W := 1) (lenOf pd_3 rfl) rfl (by show 2 * 0 + _ ≤ _; exact Nat.le_of_eq rfl) (hb hby at_21) (by decide) (by decide) (by decide) (by decide)
      obtain ⟨rfl, Nq81, hh92⟩ := hQ81
      have N81 := Fr.app N72 Nq81
      refine own_via (fun t k => st81 t (Jvm.RoadKit.acmp (g := (mkF m 24 #[iv i0, iv i1, rv w17, rv w24, rv w24] [(.ref w24), (.ref w24)])) X81 hx rfl rfl rfl (pc0 := 24) (pc' := 27) (same := true) rfl (hb hby at_24) rfl (decide_eq_true rfl) (by decide) (by decide) (XS.iconst X81.here hx rfl (hb hby at_27) (XS.goto X81.here hx rfl (pc0 := 28) (pc' := 32) rfl (hb hby at_28) (by decide) (by decide) k)))) ?_
      obtain ⟨fs, hr, hrun, hended, hW, hsame⟩ := X81.leave (v := some (.int (1 : Int32))) (fun h => by rw [Bd.returns] at h; cases h)
      refine own_end (t := T81.setFrames fs) ?_ ⟨_, hrun, hended, _, _, rfl, ?_, ⟨_, rfl⟩, hW, hsame.mono (by decide) (by decide)⟩
      · exact retN X81 hx (t := .boolean) Bd.returns (by simp) (hb hby at_32) hr
      · exact ⟨rfl, N81⟩
    · have N44 := Fr.app N29 Nq44
      refine own_via (fun t k => st44 t (XS.astoreN X44.here hx rfl (hb hby at_9) rfl rfl (l' := #[iv i0, iv i1, rv w17, rv w20, .unset]) rfl (XS.aloadN X44.here hx rfl (hb hby at_10) rfl rfl (XS.aloadN X44.here hx rfl (hb hby at_11) rfl rfl k)))) ?_
      obtain ⟨_, T93, _, X93, hQ93, st93⟩ := own_cv X44 hx hZ hown (wd hw 8 rfl) (wd hw 9 rfl) (wd hw 11 rfl) (wd hw 10 rfl) (wd hw 12 rfl) (wd hw 6 rfl) (by decide) (rm6 l Z a0 hw [] w17 w20 h0 n0 O0 SF_w20_code SF_w17_code) hh52 (SE_w17.ext O0.2) (g := (mkF m 12 #[iv i0, iv i1, rv w17, rv w20, .unset] [(.ref w20), (.ref w17)])) rfl (by rw [hml]; rfl) (rest := []) (W := 0) (lenOf pd_2 rfl) rfl (by show 2 * 0 + _ ≤ _; exact Nat.le_of_eq rfl) (hb hby at_12) (by decide) (by decide) (by decide) (by decide)
      obtain ⟨rfl, Nq93, hh101⟩ := hQ93
      have N93 := Fr.app N44 Nq93
      refine own_via (fun t k => st93 t (XS.astore X93.here hx rfl (hb hby at_15) rfl rfl (l' := #[iv i0, iv i1, rv w17, rv w20, rv w20]) rfl (XS.aload X93.here hx rfl (hb hby at_17) rfl rfl (XS.aloadN X93.here hx rfl (hb hby at_19) rfl rfl (XS.aloadN X93.here hx rfl (hb hby at_20) rfl rfl k))))) ?_
      obtain ⟨_, T102, _, X102, hQ102, st102⟩ := own_cs X93 hx hZ hown (wd hw 15 rfl) (wd hw 16 rfl) (wd hw 17 rfl) (wd hw 2 rfl) (by decide) (rm7 l Z a0 hw [] w17 w20 h0 n0 O0 S_ExitStatus_INVALID SF_w17_code SF_w20_code) hh101 (g := (mkF m 21 #[iv i0, iv i1, rv w17, rv w20, rv w20] [(.ref w20), (.ref w17), (.ref w20)])) rfl (by rw [hml]; rfl) (rest := [(.ref w20)]) (W := 1) (lenOf pd_3 rfl) rfl (by show 2 * 0 + _ ≤ _; exact Nat.le_of_eq rfl) (hb hby at_21) (by decide) (by decide) (by decide) (by decide)
      obtain ⟨rfl, Nq102, hh111⟩ := hQ102
      have N102 := Fr.app N93 Nq102
      refine own_via (fun t k => st102 t (Jvm.RoadKit.acmp (g := (mkF m 24 #[iv i0, iv i1, rv w17, rv w20, rv w20] [(.ref w20), (.ref w20)])) X102 hx rfl rfl rfl (pc0 := 24) (pc' := 27) (same := true) rfl (hb hby at_24) rfl (decide_eq_true rfl) (by decide) (by decide) (XS.iconst X102.here hx rfl (hb hby at_27) (XS.goto X102.here hx rfl (pc0 := 28) (pc' := 32) rfl (hb hby at_28) (by decide) (by decide) k)))) ?_
      obtain ⟨fs, hr, hrun, hended, hW, hsame⟩ := X102.leave (v := some (.int (1 : Int32))) (fun h => by rw [Bd.returns] at h; cases h)
      refine own_end (t := T102.setFrames fs) ?_ ⟨_, hrun, hended, _, _, rfl, ?_, ⟨_, rfl⟩, hW, hsame.mono (by decide) (by decide)⟩
      · exact retN X102 hx (t := .boolean) Bd.returns (by simp) (hb hby at_32) hr
      · exact ⟨rfl, N102⟩
  · have N29 := Fr.app N0 Nq29
    refine own_via (fun t k => st29 t (XS.astoreN X29.here hx rfl (hb hby at_4) rfl rfl (l' := #[iv i0, iv i1, rv w24, .unset, .unset]) rfl (XS.iloadN X29.here hx rfl (hb hby at_5) rfl k))) ?_
    obtain ⟨_, T112, _, X112, hQ112, st112⟩ := own_cs X29 hx hZ hown (wd hw 0 rfl) (wd hw 1 rfl) (wd hw 3 rfl) (wd hw 2 rfl) (by decide) (rm1 l Z a0 hw [] i1 w17 w24 w20 h0 n0 O0 S_ExitStatus_OK S_ExitStatus_NOT_UNIQUE S_ExitStatus_INVALID) hh40 (g := (mkF m 6 #[iv i0, iv i1, rv w24, .unset, .unset] [(.int i1)])) rfl (by rw [hml]; rfl) (rest := []) (W := 0) (lenOf pd_1 rfl) rfl (by show 2 * 0 + _ ≤ _; exact Nat.le_of_eq rfl) (hb hby at_6) (by decide) (by decide) (by decide) (by decide)
    rcases hQ112 with ⟨hq113, rfl, Nq112, hh114⟩ | ⟨hq115, hq116, rfl, Nq112, hh117⟩ | ⟨hq118, hq119, rfl, Nq112, hh120⟩
    · have N112 := Fr.app N29 Nq112
      refine own_via (fun t k => st112 t (XS.astoreN X112.here hx rfl (hb hby at_9) rfl rfl (l' := #[iv i0, iv i1, rv w24, rv w17, .unset]) rfl (XS.aloadN X112.here hx rfl (hb hby at_10) rfl rfl (XS.aloadN X112.here hx rfl (hb hby at_11) rfl rfl k)))) ?_
      obtain ⟨_, T121, _, X121, hQ121, st121⟩ := own_cv X112 hx hZ hown (wd hw 8 rfl) (wd hw 9 rfl) (wd hw 11 rfl) (wd hw 10 rfl) (wd hw 12 rfl) (wd hw 6 rfl) (by decide) (rm8 l Z a0 hw [] w24 w17 h0 n0 O0 SF_w17_code SF_w24_code) hh114 (SE_w24.ext O0.2) (g := (mkF m 12 #[iv i0, iv i1, rv w24, rv w17, .unset] [(.ref w17), (.ref w24)])) rfl (by rw [hml]; rfl) (rest := []) (W := 0) (lenOf pd_2 rfl) rfl (by show 2 * 0 + _ ≤ _; exact Nat.le_of_eq rfl) (hb hby at_12) (by decide) (by decide) (by decide) (by decide)
      obtain ⟨rfl, Nq121, hh129⟩ := hQ121
      have N121 := Fr.app N112 Nq121
      refine own_via (fun t k => st121 t (XS.astore X121.here hx rfl (hb hby at_15) rfl rfl (l' := #[iv i0, iv i1, rv w24, rv w17, rv w24]) rfl (XS.aload X121.here hx rfl (hb hby at_17) rfl rfl (XS.aloadN X121.here hx rfl (hb hby at_19) rfl rfl (XS.aloadN X121.here hx rfl (hb hby at_20) rfl rfl k))))) ?_
      obtain ⟨_, T130, _, X130, hQ130, st130⟩ := own_cs X121 hx hZ hown (wd hw 15 rfl) (wd hw 16 rfl) (wd hw 17 rfl) (wd hw 2 rfl) (by decide) (rm9 l Z a0 hw [] w24 w17 w20 h0 n0 O0 S_ExitStatus_INVALID SF_w24_ordinal SF_w20_ordinal SF_w17_code SF_w20_code S_ExitStatus_NOT_UNIQUE) hh129 (g := (mkF m 21 #[iv i0, iv i1, rv w24, rv w17, rv w24] [(.ref w17), (.ref w24), (.ref w24)])) rfl (by rw [hml]; rfl) (rest := [(.ref w24)]) (W := 1) (lenOf pd_3 rfl) rfl (by show 2 * 0 + _ ≤ _; exact Nat.le_of_eq rfl) (hb hby at_21) (by decide) (by decide) (by decide) (by decide)
      obtain ⟨rfl, Nq130, hh140⟩ := hQ130
      have N130 := Fr.app N121 Nq130
      refine own_via (fun t k => st130 t (Jvm.RoadKit.acmp (g := (mkF m 24 #[iv i0, iv i1, rv w24, rv w17, rv w24] [(.ref w24), (.ref w24)])) X130 hx rfl rfl rfl (pc0 := 24) (pc' := 27) (same := true) rfl (hb hby at_24) rfl (decide_eq_true rfl) (by decide) (by decide) (XS.iconst X130.here hx rfl (hb hby at_27) (XS.goto X130.here hx rfl (pc0 := 28) (pc' := 32) rfl (hb hby at_28) (by decide) (by decide) k)))) ?_
      obtain ⟨fs, hr, hrun, hended, hW, hsame⟩ := X130.leave (v := some (.int (1 : Int32))) (fun h => by rw [Bd.returns] at h; cases h)
      refine own_end (t := T130.setFrames fs) ?_ ⟨_, hrun, hended, _, _, rfl, ?_, ⟨_, rfl⟩, hW, hsame.mono (by decide) (by decide)⟩
      · exact retN X130 hx (t := .boolean) Bd.returns (by simp) (hb hby at_32) hr
      · exact ⟨rfl, N130⟩
    · have N112 := Fr.app N29 Nq112
      refine own_via (fun t k => st112 t (XS.astoreN X112.here hx rfl (hb hby at_9) rfl rfl (l' := #[iv i0, iv i1, rv w24, rv w24, .unset]) rfl (XS.aloadN X112.here hx rfl (hb hby at_10) rfl rfl (XS.aloadN X112.here hx rfl (hb hby at_11) rfl rfl k)))) ?_
      obtain ⟨_, T141, _, X141, hQ141, st141⟩ := own_cv X112 hx hZ hown (wd hw 8 rfl) (wd hw 9 rfl) (wd hw 11 rfl) (wd hw 10 rfl) (wd hw 12 rfl) (wd hw 6 rfl) (by decide) (rm10 l Z a0 hw [] w24 h0 n0 O0 SF_w24_code) hh117 (SE_w24.ext O0.2) (g := (mkF m 12 #[iv i0, iv i1, rv w24, rv w24, .unset] [(.ref w24), (.ref w24)])) rfl (by rw [hml]; rfl) (rest := []) (W := 0) (lenOf pd_2 rfl) rfl (by show 2 * 0 + _ ≤ _; exact Nat.le_of_eq rfl) (hb hby at_12) (by decide) (by decide) (by decide) (by decide)
      obtain ⟨rfl, Nq141, hh150⟩ := hQ141
      have N141 := Fr.app N112 Nq141
      refine own_via (fun t k => st141 t (XS.astore X141.here hx rfl (hb hby at_15) rfl rfl (l' := #[iv i0, iv i1, rv w24, rv w24, rv w24]) rfl (XS.aload X141.here hx rfl (hb hby at_17) rfl rfl (XS.aloadN X141.here hx rfl (hb hby at_19) rfl rfl (XS.aloadN X141.here hx rfl (hb hby at_20) rfl rfl k))))) ?_
      obtain ⟨_, T151, _, X151, hQ151, st151⟩ := own_cs X141 hx hZ hown (wd hw 15 rfl) (wd hw 16 rfl) (wd hw 17 rfl) (wd hw 2 rfl) (by decide) (rm11 l Z a0 hw [] w24 w20 h0 n0 O0 S_ExitStatus_INVALID SF_w24_ordinal SF_w20_ordinal S_ExitStatus_NOT_UNIQUE) hh150 (g := (mkF m 21 #[iv i0, iv i1, rv w24, rv w24, rv w24] [(.ref w24), (.ref w24), (.ref w24)])) rfl (by rw [hml]; rfl) (rest := [(.ref w24)]) (W := 1) (lenOf pd_3 rfl) rfl (by show 2 * 0 + _ ≤ _; exact Nat.le_of_eq rfl) (hb hby at_21) (by decide) (by decide) (by decide) (by decide)
      obtain ⟨rfl, Nq151, hh162⟩ := hQ151
      have N151 := Fr.app N141 Nq151
      refine own_via (fun t k => st151 t (Jvm.RoadKit.acmp (g := (mkF m 24 #[iv i0, iv i1, rv w24, rv w24, rv w24] [(.ref w24), (.ref w24)])) X151 hx rfl rfl rfl (pc0 := 24) (pc' := 27) (same := true) rfl (hb hby at_24) rfl (decide_eq_true rfl) (by decide) (by decide) (XS.iconst X151.here hx rfl (hb hby at_27) (XS.goto X151.here hx rfl (pc0 := 28) (pc' := 32) rfl (hb hby at_28) (by decide) (by decide) k)))) ?_
      obtain ⟨fs, hr, hrun, hended, hW, hsame⟩ := X151.leave (v := some (.int (1 : Int32))) (fun h => by rw [Bd.returns] at h; cases h)
      refine own_end (t := T151.setFrames fs) ?_ ⟨_, hrun, hended, _, _, rfl, ?_, ⟨_, rfl⟩, hW, hsame.mono (by decide) (by decide)⟩
      · exact retN X151 hx (t := .boolean) Bd.returns (by simp) (hb hby at_32) hr
      · exact ⟨rfl, N151⟩
    · have N112 := Fr.app N29 Nq112
      refine own_via (fun t k => st112 t (XS.astoreN X112.here hx rfl (hb hby at_9) rfl rfl (l' := #[iv i0, iv i1, rv w24, rv w20, .unset]) rfl (XS.aloadN X112.here hx rfl (hb hby at_10) rfl rfl (XS.aloadN X112.here hx rfl (hb hby at_11) rfl rfl k)))) ?_
      obtain ⟨_, T163, _, X163, hQ163, st163⟩ := own_cv X112 hx hZ hown (wd hw 8 rfl) (wd hw 9 rfl) (wd hw 11 rfl) (wd hw 10 rfl) (wd hw 12 rfl) (wd hw 6 rfl) (by decide) (rm12 l Z a0 hw [] w24 w20 h0 n0 O0 SF_w20_code SF_w24_code) hh120 (SE_w24.ext O0.2) (g := (mkF m 12 #[iv i0, iv i1, rv w24, rv w20, .unset] [(.ref w20), (.ref w24)])) rfl (by rw [hml]; rfl) (rest := []) (W := 0) (lenOf pd_2 rfl) rfl (by show 2 * 0 + _ ≤ _; exact Nat.le_of_eq rfl) (hb hby at_12) (by decide) (by decide) (by decide) (by decide)
      obtain ⟨rfl, Nq163, hh172⟩ := hQ163
      have N163 := Fr.app N112 Nq163
      refine own_via (fun t k => st163 t (XS.astore X163.here hx rfl (hb hby at_15) rfl rfl (l' := #[iv i0, iv i1, rv w24, rv w20, rv w20]) rfl (XS.aload X163.here hx rfl (hb hby at_17) rfl rfl (XS.aloadN X163.here hx rfl (hb hby at_19) rfl rfl (XS.aloadN X163.here hx rfl (hb hby at_20) rfl rfl k))))) ?_
      obtain ⟨_, T173, _, X173, hQ173, st173⟩ := own_cs X163 hx hZ hown (wd hw 15 rfl) (wd hw 16 rfl) (wd hw 17 rfl) (wd hw 2 rfl) (by decide) (rm13 l Z a0 hw [] w24 w20 h0 n0 O0 S_ExitStatus_INVALID SF_w24_ordinal SF_w20_ordinal) hh172 (g := (mkF m 21 #[iv i0, iv i1, rv w24, rv w20, rv w20] [(.ref w20), (.ref w24), (.ref w20)])) rfl (by rw [hml]; rfl) (rest := [(.ref w20)]) (W := 1) (lenOf pd_3 rfl) rfl (by show 2 * 0 + _ ≤ _; exact Nat.le_of_eq rfl) (hb hby at_21) (by decide) (by decide) (by decide) (by decide)
      obtain ⟨rfl, Nq173, hh183⟩ := hQ173
      have N173 := Fr.app N163 Nq173
      refine own_via (fun t k => st173 t (Jvm.RoadKit.acmp (g := (mkF m 24 #[iv i0, iv i1, rv w24, rv w20, rv w20] [(.ref w20), (.ref w20)])) X173 hx rfl rfl rfl (pc0 := 24) (pc' := 27) (same := true) rfl (hb hby at_24) rfl (decide_eq_true rfl) (by decide) (by decide) (XS.iconst X173.here hx rfl (hb hby at_27) (XS.goto X173.here hx rfl (pc0 := 28) (pc' := 32) rfl (hb hby at_28) (by decide) (by decide) k)))) ?_
      obtain ⟨fs, hr, hrun, hended, hW, hsame⟩ := X173.leave (v := some (.int (1 : Int32))) (fun h => by rw [Bd.returns] at h; cases h)
      refine own_end (t := T173.setFrames fs) ?_ ⟨_, hrun, hended, _, _, rfl, ?_, ⟨_, rfl⟩, hW, hsame.mono (by decide) (by decide)⟩
      · exact retN X173 hx (t := .boolean) Bd.returns (by simp) (hb hby at_32) hr
      · exact ⟨rfl, N173⟩
  · have N29 := Fr.app N0 Nq29
    refine own_via (fun t k => st29 t (XS.astoreN X29.here hx rfl (hb hby at_4) rfl rfl (l' := #[iv i0, iv i1, rv w20, .unset, .unset]) rfl (XS.iloadN X29.here hx rfl (hb hby at_5) rfl k))) ?_
    obtain ⟨_, T184, _, X184, hQ184, st184⟩ := own_cs X29 hx hZ hown (wd hw 0 rfl) (wd hw 1 rfl) (wd hw 3 rfl) (wd hw 2 rfl) (by decide) (rm1 l Z a0 hw [] i1 w17 w24 w20 h0 n0 O0 S_ExitStatus_OK S_ExitStatus_NOT_UNIQUE S_ExitStatus_INVALID) hh43 (g := (mkF m 6 #[iv i0, iv i1, rv w20, .unset, .unset] [(.int i1)])) rfl (by rw [hml]; rfl) (rest := []) (W := 0) (lenOf pd_1 rfl) rfl (by show 2 * 0 + _ ≤ _; exact Nat.le_of_eq rfl) (hb hby at_6) (by decide) (by decide) (by decide) (by decide)
    rcases hQ184 with ⟨hq185, rfl, Nq184, hh186⟩ | ⟨hq187, hq188, rfl, Nq184, hh189⟩ | ⟨hq190, hq191, rfl, Nq184, hh192⟩
    · have N184 := Fr.app N29 Nq184
      refine own_via (fun t k => st184 t (XS.astoreN X184.here hx rfl (hb hby at_9) rfl rfl (l' := #[iv i0, iv i1, rv w20, rv w17, .unset]) rfl (XS.aloadN X184.here hx rfl (hb hby at_10) rfl rfl (XS.aloadN X184.here hx rfl (hb hby at_11) rfl rfl k)))) ?_
      obtain ⟨_, T193, _, X193, hQ193, st193⟩ := own_cv X184 hx hZ hown (wd hw 8 rfl) (wd hw 9 rfl) (wd hw 11 rfl) (wd hw 10 rfl) (wd hw 12 rfl) (wd hw 6 rfl) (by decide) (rm14 l Z a0 hw [] w20 w17 h0 n0 O0 SF_w17_code SF_w20_code) hh186 (SE_w20.ext O0.2) (g := (mkF m 12 #[iv i0, iv i1, rv w20, rv w17, .unset] [(.ref w17), (.ref w20)])) rfl (by rw [hml]; rfl) (rest := []) (W := 0) (lenOf pd_2 rfl) rfl (by show 2 * 0 + _ ≤ _; exact Nat.le_of_eq rfl) (hb hby at_12) (by decide) (by decide) (by decide) (by decide)
      obtain ⟨rfl, Nq193, hh201⟩ := hQ193
      have N193 := Fr.app N184 Nq193
      refine own_via (fun t k => st193 t (XS.astore X193.here hx rfl (hb hby at_15) rfl rfl (l' := #[iv i0, iv i1, rv w20, rv w17, rv w20]) rfl (XS.aload X193.here hx rfl (hb hby at_17) rfl rfl (XS.aloadN X193.here hx rfl (hb hby at_19) rfl rfl (XS.aloadN X193.here hx rfl (hb hby at_20) rfl rfl k))))) ?_
      obtain ⟨_, T202, _, X202, hQ202, st202⟩ := own_cs X193 hx hZ hown (wd hw 15 rfl) (wd hw 16 rfl) (wd hw 17 rfl) (wd hw 2 rfl) (by decide) (rm15 l Z a0 hw [] w20 w17 h0 n0 O0 S_ExitStatus_INVALID) hh201 (g := (mkF m 21 #[iv i0, iv i1, rv w20, rv w17, rv w20] [(.ref w17), (.ref w20), (.ref w20)])) rfl (by rw [hml]; rfl) (rest := [(.ref w20)]) (W := 1) (lenOf pd_3 rfl) rfl (by show 2 * 0 + _ ≤ _; exact Nat.le_of_eq rfl) (hb hby at_21) (by decide) (by decide) (by decide) (by decide)
      obtain ⟨rfl, Nq202, hh210⟩ := hQ202
      have N202 := Fr.app N193 Nq202
      refine own_via (fun t k => st202 t (Jvm.RoadKit.acmp (g := (mkF m 24 #[iv i0, iv i1, rv w20, rv w17, rv w20] [(.ref w20), (.ref w20)])) X202 hx rfl rfl rfl (pc0 := 24) (pc' := 27) (same := true) rfl (hb hby at_24) rfl (decide_eq_true rfl) (by decide) (by decide) (XS.iconst X202.here hx rfl (hb hby at_27) (XS.goto X202.here hx rfl (pc0 := 28) (pc' := 32) rfl (hb hby at_28) (by decide) (by decide) k)))) ?_
      obtain ⟨fs, hr, hrun, hended, hW, hsame⟩ := X202.leave (v := some (.int (1 : Int32))) (fun h => by rw [Bd.returns] at h; cases h)
      refine own_end (t := T202.setFrames fs) ?_ ⟨_, hrun, hended, _, _, rfl, ?_, ⟨_, rfl⟩, hW, hsame.mono (by decide) (by decide)⟩
      · exact retN X202 hx (t := .boolean) Bd.returns (by simp) (hb hby at_32) hr
      · exact ⟨rfl, N202⟩
    · have N184 := Fr.app N29 Nq184
      refine own_via (fun t k => st184 t (XS.astoreN X184.here hx rfl (hb hby at_9) rfl rfl (l' := #[iv i0, iv i1, rv w20, rv w24, .unset]) rfl (XS.aloadN X184.here hx rfl (hb hby at_10) rfl rfl (XS.aloadN X184.here hx rfl (hb hby at_11) rfl rfl k)))) ?_
      obtain ⟨_, T211, _, X211, hQ211, st211⟩ := own_cv X184 hx hZ hown (wd hw 8 rfl) (wd hw 9 rfl) (wd hw 11 rfl) (wd hw 10 rfl) (wd hw 12 rfl) (wd hw 6 rfl) (by decide) (rm16 l Z a0 hw [] w20 w24 h0 n0 O0 SF_w24_code SF_w20_code) hh189 (SE_w20.ext O0.2) (g := (mkF m 12 #[iv i0, iv i1, rv w20, rv w24, .unset] [(.ref w24), (.ref w20)])) rfl (by rw [hml]; rfl) (rest := []) (W := 0) (lenOf pd_2 rfl) rfl (by show 2 * 0 + _ ≤ _; exact Nat.le_of_eq rfl) (hb hby at_12) (by decide) (by decide) (by decide) (by decide)
      obtain ⟨rfl, Nq211, hh220⟩ := hQ211
      have N211 := Fr.app N184 Nq211
      refine own_via (fun t k => st211 t (XS.astore X211.here hx rfl (hb hby at_15) rfl rfl (l' := #[iv i0, iv i1, rv w20, rv w24, rv w20]) rfl (XS.aload X211.here hx rfl (hb hby at_17) rfl rfl (XS.aloadN X211.here hx rfl (hb hby at_19) rfl rfl (XS.aloadN X211.here hx rfl (hb hby at_20) rfl rfl k))))) ?_
      obtain ⟨_, T221, _, X221, hQ221, st221⟩ := own_cs X211 hx hZ hown (wd hw 15 rfl) (wd hw 16 rfl) (wd hw 17 rfl) (wd hw 2 rfl) (by decide) (rm17 l Z a0 hw [] w20 w24 h0 n0 O0 S_ExitStatus_INVALID) hh220 (g := (mkF m 21 #[iv i0, iv i1, rv w20, rv w24, rv w20] [(.ref w24), (.ref w20), (.ref w20)])) rfl (by rw [hml]; rfl) (rest := [(.ref w20)]) (W := 1) (lenOf pd_3 rfl) rfl (by show 2 * 0 + _ ≤ _; exact Nat.le_of_eq rfl) (hb hby at_21) (by decide) (by decide) (by decide) (by decide)
      obtain ⟨rfl, Nq221, hh230⟩ := hQ221
      have N221 := Fr.app N211 Nq221
      refine own_via (fun t k => st221 t (Jvm.RoadKit.acmp (g := (mkF m 24 #[iv i0, iv i1, rv w20, rv w24, rv w20] [(.ref w20), (.ref w20)])) X221 hx rfl rfl rfl (pc0 := 24) (pc' := 27) (same := true) rfl (hb hby at_24) rfl (decide_eq_true rfl) (by decide) (by decide) (XS.iconst X221.here hx rfl (hb hby at_27) (XS.goto X221.here hx rfl (pc0 := 28) (pc' := 32) rfl (hb hby at_28) (by decide) (by decide) k)))) ?_
      obtain ⟨fs, hr, hrun, hended, hW, hsame⟩ := X221.leave (v := some (.int (1 : Int32))) (fun h => by rw [Bd.returns] at h; cases h)
      refine own_end (t := T221.setFrames fs) ?_ ⟨_, hrun, hended, _, _, rfl, ?_, ⟨_, rfl⟩, hW, hsame.mono (by decide) (by decide)⟩
      · exact retN X221 hx (t := .boolean) Bd.returns (by simp) (hb hby at_32) hr
      · exact ⟨rfl, N221⟩
    · have N184 := Fr.app N29 Nq184
      refine own_via (fun t k => st184 t (XS.astoreN X184.here hx rfl (hb hby at_9) rfl rfl (l' := #[iv i0, iv i1, rv w20, rv w20, .unset]) rfl (XS.aloadN X184.here hx rfl (hb hby at_10) rfl rfl (XS.aloadN X184.here hx rfl (hb hby at_11) rfl rfl k)))) ?_
      obtain ⟨_, T231, _, X231, hQ231, st231⟩ := own_cv X184 hx hZ hown (wd hw 8 rfl) (wd hw 9 rfl) (wd hw 11 rfl) (wd hw 10 rfl) (wd hw 12 rfl) (wd hw 6 rfl) (by decide) (rm18 l Z a0 hw [] w20 h0 n0 O0 SF_w20_code) hh192 (SE_w20.ext O0.2) (g := (mkF m 12 #[iv i0, iv i1, rv w20, rv w20, .unset] [(.ref w20), (.ref w20)])) rfl (by rw [hml]; rfl) (rest := []) (W := 0) (lenOf pd_2 rfl) rfl (by show 2 * 0 + _ ≤ _; exact Nat.le_of_eq rfl) (hb hby at_12) (by decide) (by decide) (by decide) (by decide)
      obtain ⟨rfl, Nq231, hh240⟩ := hQ231
      have N231 := Fr.app N184 Nq231
      refine own_via (fun t k => st231 t (XS.astore X231.here hx rfl (hb hby at_15) rfl rfl (l' := #[iv i0, iv i1, rv w20, rv w20, rv w20]) rfl (XS.aload X231.here hx rfl (hb hby at_17) rfl rfl (XS.aloadN X231.here hx rfl (hb hby at_19) rfl rfl (XS.aloadN X231.here hx rfl (hb hby at_20) rfl rfl k))))) ?_
      obtain ⟨_, T241, _, X241, hQ241, st241⟩ := own_cs X231 hx hZ hown (wd hw 15 rfl) (wd hw 16 rfl) (wd hw 17 rfl) (wd hw 2 rfl) (by decide) (rm19 l Z a0 hw [] w20 h0 n0 O0 S_ExitStatus_INVALID) hh240 (g := (mkF m 21 #[iv i0, iv i1, rv w20, rv w20, rv w20] [(.ref w20), (.ref w20), (.ref w20)])) rfl (by rw [hml]; rfl) (rest := [(.ref w20)]) (W := 1) (lenOf pd_3 rfl) rfl (by show 2 * 0 + _ ≤ _; exact Nat.le_of_eq rfl) (hb hby at_21) (by decide) (by decide) (by decide) (by decide)
      obtain ⟨rfl, Nq241, hh250⟩ := hQ241
      have N241 := Fr.app N231 Nq241
      refine own_via (fun t k => st241 t (Jvm.RoadKit.acmp (g := (mkF m 24 #[iv i0, iv i1, rv w20, rv w20, rv w20] [(.ref w20), (.ref w20)])) X241 hx rfl rfl rfl (pc0 := 24) (pc' := 27) (same := true) rfl (hb hby at_24) rfl (decide_eq_true rfl) (by decide) (by decide) (XS.iconst X241.here hx rfl (hb hby at_27) (XS.goto X241.here hx rfl (pc0 := 28) (pc' := 32) rfl (hb hby at_28) (by decide) (by decide) k)))) ?_
      obtain ⟨fs, hr, hrun, hended, hW, hsame⟩ := X241.leave (v := some (.int (1 : Int32))) (fun h => by rw [Bd.returns] at h; cases h)
      refine own_end (t := T241.setFrames fs) ?_ ⟨_, hrun, hended, _, _, rfl, ?_, ⟨_, rfl⟩, hW, hsame.mono (by decide) (by decide)⟩
      · exact retN X241 hx (t := .boolean) Bd.returns (by simp) (hb hby at_32) hr
      · exact ⟨rfl, N241⟩
set_option maxRecDepth 65536 in
set_option maxHeartbeats 40000000 in
theorem comes_1 {Post : Tables → Env → Array Value → State → Outcome → State → Prop} (hpost : ∀ tb e args s v u, (limb_1_1.after args s (.returned v) u = true ∧ limb_1_2.after args s (.returned v) u = true ∧ True) → FrameEnd s (.returned v) u (Jvm.fieldLocs frame_1_writes args s ++ Jvm.arrayLocs frame_1_arrays args s ++ Jvm.staticLocs frame_1_statics s) 0 0 → Post tb e args s (.returned v) u) :
    ArmFor flags0 classFile x code maxLocals ret World_1 tables_1 room_1 Calls_1 rest_1 Pre_1 Post := by
  intro l hfl _ _ p e ha hc hk s m args below hf hA hF happ hP
  obtain ⟨hcalls, hrest, hpre⟩ := hP
  obtain ⟨-, -, -, hnamed, -, -, -, hat⟩ := (Spec.applies_iff hf).mp happ
  obtain ⟨hg, hn⟩ := and_e (Cond.before_iff.mp (show (Jvm.Cond.and given_1 narrow_1).before args s = true from hpre))
  obtain ⟨g251, g252⟩ := and_e hg
  obtain ⟨g253, g254⟩ := and_e g252
  obtain ⟨w0, w1, rfl⟩ : ∃ w0 w1 : Value, args = #[w0, w1] := by
    have hs : args.size = 2 := by simpa [Cond.value, given_1] using g251
    obtain ⟨L⟩ := args
    match L, hs with
    | [w0, w1], _ => exact ⟨w0, w1, rfl⟩
  have hw := fun d (hd : d ∈ tables_1) => atoms_spec (ws := Jvm.Cond.code x code maxLocals ret :: tables_1) hat d (List.mem_cons_of_mem _ hd)
  have hfit : Fit s := fun {y c} hc i hi => by
    obtain ⟨ha, rfl⟩ := Array.getElem?_eq_some_iff.mp hc
    have q := List.all_eq_true.mp ((Array.all_eq_true_iff_forall_mem.mp hF) _ (Array.getElem_mem ha)) i (List.mem_range.mpr hi)
    simpa [Array.getElem?_eq_getElem hi] using q
  obtain ⟨n1, n2⟩ := and_e hn
  obtain ⟨n3, n4⟩ := and_e n2
  obtain ⟨n5, n6⟩ := and_e n4
  obtain ⟨n7, n8⟩ := and_e n6
  obtain ⟨n9, n10⟩ := and_e n8
  obtain ⟨n11, n12⟩ := and_e n10
  obtain ⟨n13, n14⟩ := and_e n12
  obtain ⟨n15, n16⟩ := and_e n14
  obtain ⟨w17, ev18⟩ := exa_v n1
  have S_ExitStatus_OK : Sta s s.heap zs1 "OK" zs5 (.ref w17) := Sta.start ev18 (Or.inr ⟨(wd hw 6 rfl), (wd hw 7 rfl)⟩)
  have SE_w17 : Exa s s.heap w17 zs1 := Exa.start ev18 n1
  have ev19 := Cond.eq_int (show (Jvm.Cond.eq _ _).holds _ _ _ _ _ = true from Cond.before_iff.mpr n3) rfl
  have SF_w17_code : Fld s s.heap w17 zs1 "code" "I" (.int (0 : Int32)) := Fld.start ((fld_at ev18).symm.trans ev19)
  obtain ⟨w20, ev21⟩ := exa_v n5
  have S_ExitStatus_INVALID : Sta s s.heap zs1 "INVALID" zs5 (.ref w20) := Sta.start ev21 (Or.inr ⟨(wd hw 6 rfl), (wd hw 19 rfl)⟩)
  have SE_w20 : Exa s s.heap w20 zs1 := Exa.start ev21 n5
  have ev22 := Cond.eq_int (show (Jvm.Cond.eq _ _).holds _ _ _ _ _ = true from Cond.before_iff.mpr n7) rfl
  have SF_w17_ordinal : Fld s s.heap w17 zs6 "ordinal" "I" (.int (0 : Int32)) := Fld.start ((fld_at ev18).symm.trans ev22)
  have ev23 := Cond.eq_int (show (Jvm.Cond.eq _ _).holds _ _ _ _ _ = true from Cond.before_iff.mpr n9) rfl
  have SF_w20_ordinal : Fld s s.heap w20 zs6 "ordinal" "I" (.int (2 : Int32)) := Fld.start ((fld_at ev21).symm.trans ev23)
  obtain ⟨w24, ev25⟩ := exa_v n11
  have S_ExitStatus_NOT_UNIQUE : Sta s s.heap zs1 "NOT_UNIQUE" zs5 (.ref w24) := Sta.start ev25 (Or.inr ⟨(wd hw 6 rfl), (wd hw 21 rfl)⟩)
  have SE_w24 : Exa s s.heap w24 zs1 := Exa.start ev25 n11
  have ev26 := Cond.eq_int (show (Jvm.Cond.eq _ _).holds _ _ _ _ _ = true from Cond.before_iff.mpr n13) rfl
  have SF_w24_ordinal : Fld s s.heap w24 zs6 "ordinal" "I" (.int (1 : Int32)) := Fld.start ((fld_at ev25).symm.trans ev26)
  have ev27 := Cond.eq_int (show (Jvm.Cond.eq _ _).holds _ _ _ _ _ = true from Cond.before_iff.mpr n15) rfl
  have SF_w24_code : Fld s s.heap w24 zs1 "code" "I" (.int (1 : Int32)) := Fld.start ((fld_at ev25).symm.trans ev27)
  have ev28 := Cond.eq_int (show (Jvm.Cond.eq _ _).holds _ _ _ _ _ = true from Cond.before_iff.mpr n16) rfl
  have SF_w20_code : Fld s s.heap w20 zs1 "code" "I" (.int (2 : Int32)) := Fld.start ((fld_at ev21).symm.trans ev28)
  obtain ⟨i0, ei0⟩ := is_v g253
  obtain rfl : w0 = (.int i0) := Option.some.inj ei0
  obtain ⟨i1, ei1⟩ := is_v g254
  obtain rfl : w1 = (.int i1) := Option.some.inj ei1
  obtain ⟨n, o, h1, h2, h3, _, L, rfl, ⟨rfl, N⟩, hq⟩ := rm0 l s _ hw tables_1 i0 i1 w17 w24 w20 s.heap s.heap.size (Old.start s) S_ExitStatus_OK S_ExitStatus_NOT_UNIQUE S_ExitStatus_INVALID SF_w17_code SE_w17 SF_w20_code SF_w24_code SF_w24_ordinal SF_w20_ordinal SE_w24 SE_w20 p e ha hc hk s m _ below hf ((Spec.applies_iff_loose hf).mp happ).1 ⟨rfl, State.Warmed39.refl s, rfl⟩ trivial
  refine ⟨n, _, h1, h2, h3, hpost _ _ _ _ _ _ ⟨Cond.after_iff.mpr rfl, Cond.after_iff.mpr (eq_i res_at (Term.int_eval (1)) rfl), trivial⟩ ⟨hq.1, hq.2.1, (hq.2.2.sift fun y hy => Or.inr (N y hy)).mono (by decide) (by decide)⟩⟩
theorem main_1_1 : Claimed_1_1 := comes_1 fun _ _ _ _ _ _ h hF => ⟨h.1, hF⟩
theorem main_1_2 : Claimed_1_2 := comes_1 fun _ _ _ _ _ _ h hF => ⟨h.2.1, hF⟩
end Jvm.Pilot.@@N@@
namespace Jvm.Pilot.@@N@@
open Jvm Jvm.ClassFile Sem Op Lib Jvm.Free Jvm.Stand Jvm.Pilot.@@N@@.Jvm.D
/-! MADE BY PROGRAM (witnessworld.py) out of the Statement's table words and the real class files: 12 classes; the members and pool entries that the words name. The judged class is class 1, her method 3. -/
namespace start1
open Jvm.ClassFile
def u (s : String) : CpInfo := .utf8 (stringToUtf16 s)
/-- a pool by its gaps: so many unusable entries, then the entry; so many at the end -/
def gap : Nat → List CpInfo → List CpInfo
  | 0, r => r
  | n + 1, r => .unusable :: gap n r
def poolList (es : List (Nat × CpInfo)) (last : Nat) : List CpInfo := es.foldr (fun e r => gap e.1 (e.2 :: r)) (gap last [])
def pool (es : List (Nat × CpInfo)) (last : Nat) : Array CpInfo := ⟨poolList es last⟩
def fileOf (pool : Array CpInfo) (this : Nat) (attrs : Array Attribute := #[]) (ms : Array MethodInfo := #[]) (fl : Nat := 33) (sup : Nat := 0) (ifs : Array Nat := #[]) (fds : Array FieldInfo := #[]) : ClassFile where
  minorVersion := 0
  majorVersion := 65
  constantPool := pool
  accessFlags := fl
  thisClass := this
  superClass := sup
  interfaces := ifs
  fields := fds
  methods := ms
  attributes := attrs
def plain (name : String) (sup : Option ClassId) : Class where
  name := name
  kind := .ordinary
  loader := none
  accessFlags := 33
  super := sup
  interfaces := #[]
  cf := none
  fields := #[]
  methods := #[]
  instanceTypes := #[]
  staticTypes := #[]
  resolved := #[]
  callSites := []
  init := .initialized
  statics := none
  mirror := none

def pool0 : Array CpInfo := pool [(5, u "<init>"), (0, u "()V"), (1, .class_ 10), (1, u "java/lang/Object")] 113

def k0m0 : Method := { name := "<init>", desc := "()V", sig := { parameters := [], returnType := none }, accessFlags := 1, code := none }
/-- java/lang/Object -/
def k0 : Class := { plain "java/lang/Object" none with
  accessFlags := 33
  interfaces := #[]
  cf := some (fileOf pool0 8 #[] #[{ accessFlags := 1, nameIndex := 5, descriptorIndex := 6, attributes := #[] }] 33 0 #[] #[])
  fields := #[]
  methods := #[k0m0]
  instanceTypes := #[]
  staticTypes := #[]
  resolved := Array.replicate 124 none
  statics := none }

def pool1 : Array CpInfo := pool [(2, .class_ 4), (1, u "java/lang/Object"), (0, u "<init>"), (0, u "()V"), (0, .integer 2147483647), (0, .fieldref 9 10), (0, .class_ 11), (0, .nameAndType 12 13), (0, u "com/example/pencilmark/pencilmark/cli/ExitStatus"), (0, u "OK"), (0, u "Lcom/example/pencilmark/pencilmark/cli/ExitStatus;"), (0, .fieldref 9 15), (0, .nameAndType 16 13), (0, u "NOT_UNIQUE"), (0, .fieldref 9 18), (0, .nameAndType 19 13), (0, u "INVALID"), (0, .methodref 21 22), (0, .class_ 23), (0, .nameAndType 24 25), (0, u "com/example/pencilmark/pencilmark/cli/ExitStatusWorsePinLaw"), (0, u "pick"), (0, u "(I)Lcom/example/pencilmark/pencilmark/cli/ExitStatus;"), (0, .methodref 9 27), (0, .nameAndType 28 29), (0, u "worse"), (0, u "(Lcom/example/pencilmark/pencilmark/cli/ExitStatus;)Lcom/example/pencilmark/pencilmark/cli/ExitStatus;"), (0, .methodref 21 31), (0, .nameAndType 32 33), (0, u "expected"), (0, u "(Lcom/example/pencilmark/pencilmark/cli/ExitStatus;Lcom/example/pencilmark/pencilmark/cli/ExitStatus;)Lcom/example/pencilmark/pencilmark/cli/ExitStatus;"), (3, u "law"), (0, u "(II)Z")] 2

def k1m0 : Method := { name := "<init>", desc := "()V", sig := { parameters := [], returnType := none }, accessFlags := 1, code := none }
def k1c1 : Code := { maxStack := 2, maxLocals := 2, code := method_2_code, exceptionTable := #[], attributes := #[] }
def k1m1 : Method := { name := "pick", desc := "(I)Lcom/example/pencilmark/pencilmark/cli/ExitStatus;", sig := { parameters := [.int], returnType := some (.object "com/example/pencilmark/pencilmark/cli/ExitStatus") }, accessFlags := 10, code := some k1c1 }
def k1c2 : Code := { maxStack := 2, maxLocals := 2, code := method_3_code, exceptionTable := #[], attributes := #[] }
def k1m2 : Method := { name := "expected", desc := "(Lcom/example/pencilmark/pencilmark/cli/ExitStatus;Lcom/example/pencilmark/pencilmark/cli/ExitStatus;)Lcom/example/pencilmark/pencilmark/cli/ExitStatus;", sig := { parameters := [(.object "com/example/pencilmark/pencilmark/cli/ExitStatus"), (.object "com/example/pencilmark/pencilmark/cli/ExitStatus")], returnType := some (.object "com/example/pencilmark/pencilmark/cli/ExitStatus") }, accessFlags := 10, code := some k1c2 }
def k1c3 : Code := { maxStack := 3, maxLocals := 5, code := code, exceptionTable := #[], attributes := #[] }
def k1m3 : Method := { name := "law", desc := "(II)Z", sig := { parameters := [.int, .int], returnType := some .boolean }, accessFlags := 9, code := some k1c3 }
/-- com/example/pencilmark/pencilmark/cli/ExitStatusWorsePinLaw -/
def k1 : Class := { plain "com/example/pencilmark/pencilmark/cli/ExitStatusWorsePinLaw" (some 0) with
  accessFlags := 49
  interfaces := #[]
  cf := some (fileOf pool1 21 #[] #[{ accessFlags := 1, nameIndex := 5, descriptorIndex := 6, attributes := #[] }, { accessFlags := 10, nameIndex := 24, descriptorIndex := 25, attributes := #[] }, { accessFlags := 10, nameIndex := 32, descriptorIndex := 33, attributes := #[] }, { accessFlags := 9, nameIndex := 37, descriptorIndex := 38, attributes := #[] }] 49 2 #[] #[])
  fields := #[]
  methods := #[k1m0, k1m1, k1m2, k1m3]
  instanceTypes := #[]
  staticTypes := #[]
  resolved := Array.replicate 41 none
  statics := none }

def pool2 : Array CpInfo := pool [(1, .class_ 2), (0, u "java/lang/constant/Constable"), (0, .class_ 4), (0, u "java/lang/Object")] 6

/-- java/lang/constant/Constable -/
def k2 : Class := { plain "java/lang/constant/Constable" (some 0) with
  accessFlags := 1537
  interfaces := #[]
  cf := some (fileOf pool2 1 #[] #[] 1537 3 #[] #[])
  fields := #[]
  methods := #[]
  instanceTypes := #[]
  staticTypes := #[]
  resolved := Array.replicate 11 none
  statics := none }

def pool3 : Array CpInfo := pool [(1, .class_ 2), (0, u "java/lang/Comparable"), (0, .class_ 4), (0, u "java/lang/Object")] 7

/-- java/lang/Comparable -/
def k3 : Class := { plain "java/lang/Comparable" (some 0) with
  accessFlags := 1537
  interfaces := #[]
  cf := some (fileOf pool3 1 #[] #[] 1537 3 #[] #[])
  fields := #[]
  methods := #[]
  instanceTypes := #[]
  staticTypes := #[]
  resolved := Array.replicate 12 none
  statics := none }

def pool4 : Array CpInfo := pool [(1, .class_ 2), (0, u "java/io/Serializable"), (0, .class_ 4), (0, u "java/lang/Object")] 2

/-- java/io/Serializable -/
def k4 : Class := { plain "java/io/Serializable" (some 0) with
  accessFlags := 1537
  interfaces := #[]
  cf := some (fileOf pool4 1 #[] #[] 1537 3 #[] #[])
  fields := #[]
  methods := #[]
  instanceTypes := #[]
  staticTypes := #[]
  resolved := Array.replicate 7 none
  statics := none }

def pool5 : Array CpInfo := pool [(2, .class_ 4), (1, u "java/lang/Enum"), (0, u "name"), (0, u "Ljava/lang/String;"), (2, u "ordinal"), (0, u "I"), (1, .class_ 14), (1, u "java/lang/Object"), (4, u "hash"), (86, .class_ 108), (1, u "java/lang/Enum$EnumDesc"), (2, .class_ 112), (0, u "java/lang/constant/Constable"), (0, .class_ 114), (0, u "java/lang/Comparable"), (0, .class_ 116), (0, u "java/io/Serializable")] 87

/-- java/lang/Enum -/
def k5 : Class := { plain "java/lang/Enum" (some 0) with
  accessFlags := 1057
  interfaces := #[2, 3, 4]
  cf := some (fileOf pool5 2 #[.nestMembers #[106]] #[] 1057 12 #[111, 113, 115] #[{ accessFlags := 18, nameIndex := 5, descriptorIndex := 6, attributes := #[] }, { accessFlags := 18, nameIndex := 9, descriptorIndex := 10, attributes := #[] }, { accessFlags := 2, nameIndex := 19, descriptorIndex := 10, attributes := #[] }])
  fields := #[{ name := "name", type := (.object "java/lang/String"), accessFlags := 18, slot := 0, constantValue := 0 }, { name := "ordinal", type := .int, accessFlags := 18, slot := 1, constantValue := 0 }, { name := "hash", type := .int, accessFlags := 2, slot := 2, constantValue := 0 }]
  methods := #[]
  instanceTypes := #[(.object "java/lang/String"), .int, .int]
  staticTypes := #[]
  resolved := Array.replicate 204 none
  statics := none }

def pool6 : Array CpInfo := pool [(1, .class_ 2), (0, u "com/example/pencilmark/pencilmark/cli/ExitStatus"), (2, u "OK"), (0, u "Lcom/example/pencilmark/pencilmark/cli/ExitStatus;"), (2, u "NOT_UNIQUE"), (2, u "INVALID"), (2, u "$VALUES"), (0, u "[Lcom/example/pencilmark/pencilmark/cli/ExitStatus;"), (6, .class_ 25), (1, u "java/lang/Enum"), (6, .fieldref 1 33), (0, .nameAndType 34 35), (0, u "code"), (0, u "I"), (27, u "worse"), (0, u "(Lcom/example/pencilmark/pencilmark/cli/ExitStatus;)Lcom/example/pencilmark/pencilmark/cli/ExitStatus;")] 5

def k6c0 : Code := { maxStack := 2, maxLocals := 2, code := prog_4_method_6_code, exceptionTable := #[], attributes := #[] }
def k6m0 : Method := { name := "worse", desc := "(Lcom/example/pencilmark/pencilmark/cli/ExitStatus;)Lcom/example/pencilmark/pencilmark/cli/ExitStatus;", sig := { parameters := [(.object "com/example/pencilmark/pencilmark/cli/ExitStatus")], returnType := some (.object "com/example/pencilmark/pencilmark/cli/ExitStatus") }, accessFlags := 1, code := some k6c0 }
/-- com/example/pencilmark/pencilmark/cli/ExitStatus -/
def k6 : Class := { plain "com/example/pencilmark/pencilmark/cli/ExitStatus" (some 5) with
  accessFlags := 16433
  interfaces := #[]
  cf := some (fileOf pool6 1 #[] #[{ accessFlags := 1, nameIndex := 63, descriptorIndex := 64, attributes := #[] }] 16433 23 #[] #[{ accessFlags := 16409, nameIndex := 5, descriptorIndex := 6, attributes := #[] }, { accessFlags := 16409, nameIndex := 9, descriptorIndex := 6, attributes := #[] }, { accessFlags := 16409, nameIndex := 12, descriptorIndex := 6, attributes := #[] }, { accessFlags := 18, nameIndex := 34, descriptorIndex := 35, attributes := #[] }, { accessFlags := 4122, nameIndex := 15, descriptorIndex := 16, attributes := #[] }])
  fields := #[{ name := "OK", type := (.object "com/example/pencilmark/pencilmark/cli/ExitStatus"), accessFlags := 16409, slot := 0, constantValue := 0 }, { name := "NOT_UNIQUE", type := (.object "com/example/pencilmark/pencilmark/cli/ExitStatus"), accessFlags := 16409, slot := 1, constantValue := 0 }, { name := "INVALID", type := (.object "com/example/pencilmark/pencilmark/cli/ExitStatus"), accessFlags := 16409, slot := 2, constantValue := 0 }, { name := "code", type := .int, accessFlags := 18, slot := 3, constantValue := 0 }, { name := "$VALUES", type := (.array (.object "com/example/pencilmark/pencilmark/cli/ExitStatus")), accessFlags := 4122, slot := 3, constantValue := 0 }]
  methods := #[k6m0]
  instanceTypes := #[(.object "java/lang/String"), .int, .int, .int]
  staticTypes := #[(.object "com/example/pencilmark/pencilmark/cli/ExitStatus"), (.object "com/example/pencilmark/pencilmark/cli/ExitStatus"), (.object "com/example/pencilmark/pencilmark/cli/ExitStatus"), (.array (.object "com/example/pencilmark/pencilmark/cli/ExitStatus"))]
  resolved := Array.replicate 70 none
  statics := some 0 }

def pool7 : Array CpInfo := pool [(1, u "java/lang/Cloneable"), (0, .class_ 1), (0, u "java/lang/Object"), (0, .class_ 3)] 3

/-- java/lang/Cloneable -/
def k7 : Class := { plain "java/lang/Cloneable" (some 0) with
  accessFlags := 1537
  interfaces := #[]
  cf := some (fileOf pool7 2 #[] #[] 1537 4 #[] #[])
  fields := #[]
  methods := #[]
  instanceTypes := #[]
  staticTypes := #[]
  resolved := Array.replicate 8 none
  statics := none }

/-- the primitive byte -/
def k8 : Class := { plain "byte" none with kind := .primitive 'B', accessFlags := 0x411 }
/-- [B -/
def k9 : Class := { plain "[B" (some 0) with kind := .array 8 .byte, interfaces := #[7, 4], accessFlags := 1041 }

/-- the primitive int -/
def k10 : Class := { plain "int" none with kind := .primitive 'I', accessFlags := 0x411 }
/-- [I -/
def k11 : Class := { plain "[I" (some 0) with kind := .array 10 .int, interfaces := #[7, 4], accessFlags := 1041 }

def heap : Heap := #[{ cls := 6, slots := #[.ref 1, .ref 3, .ref 2, .null], vm := .statics 6 },
  { cls := 6, slots := #[.null, .int 0, .int 0, .int 0], vm := .none },
  { cls := 6, slots := #[.null, .int 2, .int 0, .int 2], vm := .none },
  { cls := 6, slots := #[.null, .int 1, .int 0, .int 1], vm := .none }]
def classes : Array Class := #[k0, k1, k2, k3, k4, k5, k6, k7, k8, k9, k10, k11]
def interned : List (Array UInt16 × Addr) := []
def slotsUsed : Nat := 16
def theMethod : MethodId := ⟨1, 3⟩
def args0 : Array Value := #[.int 5, .int 5]
def aboutOver (below : List Frame) : State where
  vm := { classes := classes, interned := interned.toArray }
  heap := heap
  slotsUsed := slotsUsed
  threads := #[{ frames := .invoking theMethod args0 :: below }]
def below0 : List Frame := [.native { method := ⟨0, 0⟩, args := #[] }]
def about1 : State := aboutOver below0
def p0 : Program := .bare "" "" ""
def e0 : Env := launch0.env 0 0 0
theorem w_frames : about1.frames = Frame.invoking theMethod args0 :: below0 := rfl
set_option maxRecDepth 65536 in
theorem w_args : argsFit about1.vm theMethod args0 = true := by decide +kernel
set_option maxRecDepth 65536 in
theorem w_heap : heapFits about1 = true := by decide +kernel
set_option maxRecDepth 65536 in
theorem w_runnable : about1.curStatus? = some .runnable := by decide +kernel
set_option maxRecDepth 65536 in
theorem w_alone : about1.alone = true := by decide +kernel
set_option maxRecDepth 65536 in
theorem w_named : about1.methodNamed? x = some theMethod := by decide +kernel
set_option maxRecDepth 65536 in
theorem w_hears : about1.hears theMethod below0 = true := by decide +kernel
set_option maxRecDepth 65536 in
theorem w_ripe : about1.ripe theMethod args0 below0 = true := by decide +kernel
theorem w_running : about1.status = .running := rfl
set_option maxRecDepth 65536 in
theorem w_room : about1.hasRoom e0.platform room_1 = true :=
  launch0.hasRoom_least _ room_1 (by decide +kernel) (by decide +kernel) (by decide +kernel) (by decide +kernel) (by decide +kernel) (by decide +kernel)
theorem allAtoms_all (ts : List Jvm.Cond) (a : Array Jvm.Value) (st : Jvm.State) : (allAtoms ts).before a st = ts.all (fun c => c.before a st) := by
  induction ts with
  | nil => rfl
  | cons c t ih =>
    show (Jvm.Cond.and c (allAtoms t)).before a st = _
    rw [Jvm.Cond.before_and, ih, List.all_cons]
def words1 : List Jvm.Cond := Jvm.Cond.code x code maxLocals ret :: tables_1
/-- a 'code' word, met by the world's own term for the bytes: nothing is compared byte by byte -/
theorem code_word {y : MethodName} {bytes : ByteArray} {mx : Nat} {rt : Option FieldType} {a : Array Value} {s : State} {m : MethodId} {meth : Method} {c : Code} (h1 : s.methodNamed? y = some m) (h2 : s.vm.method? m = some meth) (h3 : meth.code = some c) (h4 : c.code = bytes)
    (h5 : (c.maxLocals == mx && c.exceptionTable.isEmpty && decide (c.maxStack ≤ mostOperands) && decide (meth.sig.returnType = rt) && !meth.locks && decide (parseMethodDescriptor y.desc = some meth.sig)) = true) : (Jvm.Cond.code y bytes mx rt).before a s = true := by
  simp only [Bool.and_eq_true, beq_iff_eq, Bool.not_eq_true', decide_eq_true_eq] at h5
  obtain ⟨⟨⟨⟨⟨g1, g2⟩, g3⟩, g4⟩, g5⟩, g6⟩ := h5
  simp [Cond.before, Cond.holds, Cond.value, h1, h2, h3, h4, g1, g2, g3, g4, g5, g6]
def isCode : Jvm.Cond → Bool
  | .code _ _ _ _ => true
  | _ => false
theorem all_split {L : List Jvm.Cond} {P : Jvm.Cond → Bool} (h1 : L.all (fun c => isCode c || P c) = true) (h2 : ∀ c ∈ L.filter isCode, P c = true) : L.all P = true := by
  refine List.all_eq_true.mpr fun c hc => ?_
  have h := List.all_eq_true.mp h1 c hc
  rcases Bool.eq_false_or_eq_true (isCode c) with hi | hi
  · exact h2 c (List.mem_filter.mpr ⟨hc, hi⟩)
  · simpa [hi] using h
set_option maxRecDepth 65536 in
theorem w_c0 : (Jvm.Cond.code x code maxLocals ret).before args0 about1 = true := code_word (m := ⟨1, 3⟩) (meth := k1m3) (c := k1c3) (by decide +kernel) rfl rfl rfl (by decide +kernel)
set_option maxRecDepth 65536 in
theorem w_c1 : (Jvm.Cond.code ({ cls := "com/example/pencilmark/pencilmark/cli/ExitStatusWorsePinLaw", name := "pick", desc := "(I)Lcom/example/pencilmark/pencilmark/cli/ExitStatus;" } : Jvm.MethodName) method_2_code (2 : Nat) (Option.some (Jvm.ClassFile.FieldType.object "com/example/pencilmark/pencilmark/cli/ExitStatus"))).before args0 about1 = true := code_word (m := ⟨1, 1⟩) (meth := k1m1) (c := k1c1) (by decide +kernel) rfl rfl rfl (by decide +kernel)
set_option maxRecDepth 65536 in
theorem w_c2 : (Jvm.Cond.code ({ cls := "com/example/pencilmark/pencilmark/cli/ExitStatus", name := "worse", desc := "(Lcom/example/pencilmark/pencilmark/cli/ExitStatus;)Lcom/example/pencilmark/pencilmark/cli/ExitStatus;" } : Jvm.MethodName) prog_4_method_6_code (2 : Nat) (Option.some (Jvm.ClassFile.FieldType.object "com/example/pencilmark/pencilmark/cli/ExitStatus"))).before args0 about1 = true := code_word (m := ⟨6, 0⟩) (meth := k6m0) (c := k6c0) (by decide +kernel) rfl rfl rfl (by decide +kernel)
set_option maxRecDepth 65536 in
theorem w_c3 : (Jvm.Cond.code ({ cls := "com/example/pencilmark/pencilmark/cli/ExitStatusWorsePinLaw", name := "expected", desc := "(Lcom/example/pencilmark/pencilmark/cli/ExitStatus;Lcom/example/pencilmark/pencilmark/cli/ExitStatus;)Lcom/example/pencilmark/pencilmark/cli/ExitStatus;" } : Jvm.MethodName) method_3_code (2 : Nat) (Option.some (Jvm.ClassFile.FieldType.object "com/example/pencilmark/pencilmark/cli/ExitStatus"))).before args0 about1 = true := code_word (m := ⟨1, 2⟩) (meth := k1m2) (c := k1c2) (by decide +kernel) rfl rfl rfl (by decide +kernel)
def codes1 : List Jvm.Cond := [Jvm.Cond.code x code maxLocals ret, Jvm.Cond.code ({ cls := "com/example/pencilmark/pencilmark/cli/ExitStatusWorsePinLaw", name := "pick", desc := "(I)Lcom/example/pencilmark/pencilmark/cli/ExitStatus;" } : Jvm.MethodName) method_2_code (2 : Nat) (Option.some (Jvm.ClassFile.FieldType.object "com/example/pencilmark/pencilmark/cli/ExitStatus")), Jvm.Cond.code ({ cls := "com/example/pencilmark/pencilmark/cli/ExitStatus", name := "worse", desc := "(Lcom/example/pencilmark/pencilmark/cli/ExitStatus;)Lcom/example/pencilmark/pencilmark/cli/ExitStatus;" } : Jvm.MethodName) prog_4_method_6_code (2 : Nat) (Option.some (Jvm.ClassFile.FieldType.object "com/example/pencilmark/pencilmark/cli/ExitStatus")), Jvm.Cond.code ({ cls := "com/example/pencilmark/pencilmark/cli/ExitStatusWorsePinLaw", name := "expected", desc := "(Lcom/example/pencilmark/pencilmark/cli/ExitStatus;Lcom/example/pencilmark/pencilmark/cli/ExitStatus;)Lcom/example/pencilmark/pencilmark/cli/ExitStatus;" } : Jvm.MethodName) method_3_code (2 : Nat) (Option.some (Jvm.ClassFile.FieldType.object "com/example/pencilmark/pencilmark/cli/ExitStatus"))]
set_option maxRecDepth 65536 in
theorem codes_eq : words1.filter isCode = codes1 := rfl
theorem w_codes : ∀ c ∈ words1.filter isCode, c.before args0 about1 = true := by
  rw [codes_eq]
  intro c hc
  simp only [codes1, List.mem_cons, List.not_mem_nil, or_false] at hc
  rcases hc with rfl | rfl | rfl | rfl
  · exact w_c0
  · exact w_c1
  · exact w_c2
  · exact w_c3
set_option maxRecDepth 65536 in
theorem w_t1 : words1.all (fun c => isCode c || c.before args0 about1) = true := by decide +kernel
theorem w_tables : (allAtoms (Jvm.Cond.code x code maxLocals ret :: tables_1)).before args0 about1 = true := by
  rw [allAtoms_all]
  show words1.all (fun c => c.before args0 about1) = true
  refine all_split ?_ w_codes
  rw [w_t1]
set_option maxRecDepth 65536 in
theorem w_case : (Jvm.Cond.and given_1 narrow_1).before args0 about1 = true := by decide +kernel
theorem w_applies : (headSpec (Jvm.Cond.code x code maxLocals ret :: tables_1) room_1).applies x e0.platform about1 = true :=
  (Spec.applies_iff w_frames).mpr ⟨w_running, w_runnable, w_alone, w_named, w_hears, w_ripe, w_room, w_tables⟩
theorem atStart : AtStart classFile x code maxLocals ret World_1 tables_1 room_1 Calls_1 rest_1 Pre_1 launch0 p0 e0 about1 theMethod args0 below0 :=
  ⟨lists_1, trivial, launch0.admits_env _ _ _, launch0.least_env, fairChoices_fair.cas, fairChoices_fair.clock, w_frames, w_args, w_heap, w_applies, trivial, trivial, w_case⟩
end start1
theorem witness_1 : WitnessClaimed_1 := ⟨start1.p0, start1.e0, start1.about1, start1.theMethod, start1.args0, start1.below0, start1.atStart⟩
end Jvm.Pilot.@@N@@
