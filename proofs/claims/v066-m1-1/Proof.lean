import JvmDerived
import JvmDerived.Pilot.@@N@@Statement
import JvmDerived.Pilot.@@N@@Code
set_option linter.unusedVariables false
set_option linter.unusedSimpArgs false
@@BLOCK:NumsL.lean.txt@@
namespace Jvm.RoadKit
open Sem ClassFile Op Lib Jvm.Stand Jvm.Free Jvm.LawKit
section New
variable {p : Program} {l : Launch} {e : Env} {R : Room} {s : State} {m : MethodId} {args : Array Value} {below : List Frame} {meth : Method} {c : Code} {T : State} {locs : List Loc} {cells slots : Nat}
theorem retI (X : Stand p l e R s m args below meth c T locs cells slots) (hx : p.tables.exec = Jvm.exec) {pc : Nat} {Ls : Array Slot} {z : Int32} {rest : List Value} (hret : meth.sig.returnType = some .int) (hd : decode c.code pc = .ok (.ireturn, 1)) {fs : List Frame}
    (hl : ∀ (f : JFrame) (acts : List Action), f.method = m → f.locked = none → f.entered = [] → (doReturn e (T.setTop f) acts (some (.int z))).1 = T.setFrames fs) : Steps p.tables e below (T.setTop (mkF m pc Ls (.int z :: rest))) (T.setFrames fs) := by
  have hm' : T.vm.method? m = some meth := X.method'
  have hn : narrow .int (.int z) = .int z := rfl
  show Steps p.tables e below (T.setTop { method := m, pc := pc, locals := Ls, stack := _ :: rest, locked := none }) _
  jvm_step X.here [X.here.top, hx, hd, hm', hret, hn]
  first | (intro acts; rw [hl _ acts rfl rfl rfl]) | rw [hl _ _ rfl rfl rfl]
  exact Steps.refl _
end New
end Jvm.RoadKit
namespace Jvm.Pilot.@@N@@
open Jvm Jvm.ClassFile Sem Op Lib Jvm.Free Jvm.Stand Jvm.LawKit Jvm.RoadKit Bundle Jvm.Pilot.@@N@@.Jvm.D
/-! own_Goes: from S the run comes to some state of which G holds: such a goal may be split in the middle of a walk -/
def own_Goes (p : Program) (e : Env) (below : List Frame) (S : State) (G : State → Prop) : Prop := ∃ t, Steps p.tables e below S t ∧ G t
theorem own_via {p : Program} {e : Env} {below : List Frame} {S S' : State} {G : State → Prop} (f : ∀ t, Steps p.tables e below S' t → Steps p.tables e below S t) (h : own_Goes p e below S' G) : own_Goes p e below S G := by
  obtain ⟨t, h1, h2⟩ := h
  exact ⟨t, f t h1, h2⟩
theorem own_end {p : Program} {e : Env} {below : List Frame} {S t : State} {G : State → Prop} (h : Steps p.tables e below S t) (g : G t) : own_Goes p e below S G := ⟨t, h, g⟩
theorem own_out {p : Program} {e : Env} {below : List Frame} {S : State} {P : State → Outcome → Prop} (h : own_Goes p e below S (fun t => ∃ o, t.status = .running ∧ Ended t below o ∧ P t o)) : ∃ t o, Steps p.tables e below S t ∧ t.status = .running ∧ Ended t below o ∧ P t o := by
  obtain ⟨t, h1, o, h2, h3, h4⟩ := h
  exact ⟨t, o, h1, h2, h3, h4⟩
theorem wd {a0 : Array Value} {Z : State} (hw : ∀ d ∈ tables_1, d.before a0 Z = true) (i : Nat) {d : Jvm.Cond} (h : tables_1[i]? = some d) : d.before a0 Z = true := hw _ (List.mem_of_getElem? h)
theorem own_old {Z : State} {n0 : Nat} {h : Heap} (O : Old Z n0 h) : n0 ≤ h.size := by rw [← O.1]; exact O.2.1
def own_Q0 (n0 : Nat) (v : Option Value) (L : List Loc) : Prop := v = some (.int (1 : Int32)) ∧ Fr n0 L
def own_G (s : State) (below : List Frame) (n0 : Nat) (t : State) : Prop := ∃ o, t.status = .running ∧ Ended t below o ∧ ∃ v L, o = .returned v ∧ own_Q0 n0 v L ∧ FrameEnd s o t L room_1.cells room_1.slots
def own_Len (Z : State) (h : Heap) (a : Addr) (ty : FieldType) (n : Int32) : Prop := ∃ k vs d, Arv Z h a k ty n vs d
theorem own_len_ext {Z : State} {h h' : Heap} {a : Addr} {ty : FieldType} {n : Int32} (F : own_Len Z h a ty n) (E : Ext h h') : own_Len Z h' a ty n := by
  obtain ⟨k, vs, d, V⟩ := F
  exact ⟨k, vs, d, V.ext E⟩
theorem own_len_other {Z : State} {h h' : Heap} {a b : Addr} {sl : Nat} {v : Value} {ty : FieldType} {n : Int32} (F : own_Len Z h b ty n) (W : Wr h h' a sl v) (q : b ≠ a) : own_Len Z h' b ty n := by
  obtain ⟨k, vs, d, V⟩ := F
  exact ⟨k, vs, d, V.other W q⟩
theorem own_len_keep {Z : State} {h h' : Heap} {a : Addr} {ws : List Addr} {ty : FieldType} {n : Int32} (F : own_Len Z h a ty n) (K : Keep h h' ws) (q : a ∉ ws) : own_Len Z h' a ty n := by
  obtain ⟨k, vs, d, V⟩ := F
  exact ⟨k, vs, d, V.keep K q⟩
theorem own_len_lt {Z : State} {h : Heap} {a : Addr} {ty : FieldType} {n : Int32} (F : own_Len Z h a ty n) : a < h.size := by
  obtain ⟨k, vs, d, V⟩ := F
  exact V.lt
theorem own_c2 (x : Int32) : x.toUInt32.toUInt16.toUInt32.toInt32.toUInt32.toUInt16.toUInt32.toInt32 = x.toUInt32.toUInt16.toUInt32.toInt32 := by rw [UInt32.toUInt32_toInt32, UInt16.toUInt16_toUInt32]
theorem own_b2 (x : Int32) : x.toInt8.toInt32.toInt8.toInt32 = x.toInt8.toInt32 := by rw [Int8.toInt8_toInt32]
section Calls
variable {p : Program} {l : Launch} {e : Env} {R : Room} {s : State} {m : MethodId} {args : Array Value} {below : List Frame} {meth : Method} {c : Code} {T : State} {locs : List Loc} {cells slots : Nat} {Z : State} {a0 : Array Value} {h : Heap} {own C : String} {index : Nat} {y : MethodName} {bytes : ByteArray} {maxL : Nat} {rm : Room} {Q : Option Value → Heap → List Loc → Prop} {a : Addr} {argsL : List Value} {g : JFrame}
/-! a call by its contract, in one step: virtual (the class's own method), a constructor, static -/
theorem own_cv {ret : Option FieldType} (X : Stand p l e R s m args below meth c T locs cells slots) (hx : p.tables.exec = Jvm.exec) (hZ : Z.Warmed39 s.vm) (hown : s.vm.findClass own = some m.cls) (w1 : (Jvm.Cond.methodLink own index y).before a0 Z = true) (w2 : (Jvm.Cond.declares y).before a0 Z = true) (w3 : (Jvm.Cond.selects C y y).before a0 Z = true) (w4 : (Jvm.Cond.instanceMethod y).before a0 Z = true) (wc : (Jvm.Cond.code y bytes maxL ret).before a0 Z = true) (wz : (Jvm.Cond.initialized y.cls).before a0 Z = true) (hy : y.cls ≠ "java/lang/invoke/MethodHandle" ∧ y.cls ≠ "java/lang/invoke/VarHandle")
    (hM : MetFree l y (head1 [Jvm.Cond.code y bytes maxL ret] rm) (fun A U => A = (.ref a :: argsL).toArray ∧ Z.Warmed39 U.vm ∧ U.heap = h) (fun _ _ _ _ _ => True) (fun _ U o U' => ∃ v L, o = .returned v ∧ Q v U'.heap L ∧ FrameEnd U o U' L rm.cells rm.slots)) (eT : T.heap = h) (E : Exa Z h a C) (hg : g.method = m) (hsize : g.locals.size = c.maxLocals) {rest : List Value} {W : Nat}
    (hlen : ∀ sig, parseMethodDescriptor y.desc = some sig → argsL.length = sig.parameters.length) (hstack : g.stack = argsL.reverse ++ .ref a :: rest) (hW : 2 * g.monitorRoom + (rest.map fun v => v.category).sum ≤ W) (hdg : decode c.code g.pc = .ok (.invokevirtual index, 3)) (r1 : rm.frames + 1 ≤ R.frames) (r2 : W + (maxL + 11) + rm.locals ≤ R.locals) (r3 : cells + rm.cells ≤ R.cells) (r4 : slots + rm.slots ≤ R.slots) :
    ∃ (v : Option Value) (T' : State) (L : List Loc), Stand p l e R s m args below meth c T' (locs ++ L) (cells + rm.cells) (slots + rm.slots) ∧ Q v T'.heap L ∧ ∀ t, Steps p.tables e below (T'.setTop { g with pc := g.pc + 3, stack := v.toList ++ rest }) t → Steps p.tables e below (T.setTop g) t := by
  obtain ⟨cq, kq, qa, -, qc⟩ := isOf hZ eT E
  obtain ⟨v, _, ⟨T', L', c', n'⟩, -, X', ⟨Lc, hQ, l1, y1, z1⟩, st⟩ := X.virtualBack hx (y := y) (z := y) hown (mvT hZ w1) (mvT hZ w2) (notFace_of_selects (args := #[]) (mvT hZ w3)) (mvT hZ w3) (mvT hZ w4) hy (backOf (W := W) hM hZ wc wz r1 r2) qa qc (g := g) hg hsize (Steps.refl _) (argsL := argsL) (rest := rest) hlen hstack hW hdg (fun _ _ => ⟨rfl, eT, r3, r4⟩)
  dsimp only [Pt.U, Pt.locs, Pt.cells, Pt.slots] at X' l1 y1 z1 st hQ
  subst l1 y1 z1
  exact ⟨v, T', Lc, X', hQ, fun t k => st.trans k⟩
theorem own_ci (X : Stand p l e R s m args below meth c T locs cells slots) (hx : p.tables.exec = Jvm.exec) (hZ : Z.Warmed39 s.vm) (hown : s.vm.findClass own = some m.cls) (w1 : (Jvm.Cond.methodLink own index y).before a0 Z = true) (w4 : (Jvm.Cond.instanceMethod y).before a0 Z = true) (wc : (Jvm.Cond.code y bytes maxL none).before a0 Z = true) (wz : (Jvm.Cond.initialized y.cls).before a0 Z = true) (hi : y.name = "<init>") (hy : y.cls ≠ "java/lang/invoke/MethodHandle" ∧ y.cls ≠ "java/lang/invoke/VarHandle")
    (hM : MetFree l y (head1 [Jvm.Cond.code y bytes maxL none] rm) (fun A U => A = (.ref a :: argsL).toArray ∧ Z.Warmed39 U.vm ∧ U.heap = h) (fun _ _ _ _ _ => True) (fun _ U o U' => ∃ v L, o = .returned v ∧ Q v U'.heap L ∧ FrameEnd U o U' L rm.cells rm.slots)) (eT : T.heap = h) (hg : g.method = m) (hsize : g.locals.size = c.maxLocals) {rest : List Value} {W : Nat}
    (hlen : ∀ sig, parseMethodDescriptor y.desc = some sig → argsL.length = sig.parameters.length) (hstack : g.stack = argsL.reverse ++ .ref a :: rest) (hW : 2 * g.monitorRoom + (rest.map fun v => v.category).sum ≤ W) (hdg : decode c.code g.pc = .ok (.invokespecial index, 3)) (r1 : rm.frames + 1 ≤ R.frames) (r2 : W + (maxL + 11) + rm.locals ≤ R.locals) (r3 : cells + rm.cells ≤ R.cells) (r4 : slots + rm.slots ≤ R.slots) :
    ∃ (v : Option Value) (T' : State) (L : List Loc), Stand p l e R s m args below meth c T' (locs ++ L) (cells + rm.cells) (slots + rm.slots) ∧ Q v T'.heap L ∧ ∀ t, Steps p.tables e below (T'.setTop { g with pc := g.pc + 3, stack := v.toList ++ rest }) t → Steps p.tables e below (T.setTop g) t := by
  obtain ⟨v, _, ⟨T', L', c', n'⟩, -, X', ⟨Lc, hQ, l1, y1, z1⟩, st⟩ := X.specialBack hx (y := y) hi hown (mvT hZ w1) (mvT hZ w4) (mvT hZ wc) hy (backOf (W := W) hM hZ wc wz r1 r2) (g := g) hg hsize (Steps.refl _) (a := a) (argsL := argsL) (rest := rest) hlen hstack hW hdg (fun _ _ => ⟨rfl, eT, r3, r4⟩)
  dsimp only [Pt.U, Pt.locs, Pt.cells, Pt.slots] at X' l1 y1 z1 st hQ
  subst l1 y1 z1
  exact ⟨v, T', Lc, X', hQ, fun t k => st.trans k⟩
theorem own_cs {ret : Option FieldType} (X : Stand p l e R s m args below meth c T locs cells slots) (hx : p.tables.exec = Jvm.exec) (hZ : Z.Warmed39 s.vm) (hown : s.vm.findClass own = some m.cls) (w1 : (Jvm.Cond.methodLink own index y).before a0 Z = true) (w4 : (Jvm.Cond.static y).before a0 Z = true) (wc : (Jvm.Cond.code y bytes maxL ret).before a0 Z = true) (wz : (Jvm.Cond.initialized y.cls).before a0 Z = true) (hy : y.cls ≠ "java/lang/invoke/MethodHandle" ∧ y.cls ≠ "java/lang/invoke/VarHandle")
    (hM : MetFree l y (head1 [Jvm.Cond.code y bytes maxL ret] rm) (fun A U => A = argsL.toArray ∧ Z.Warmed39 U.vm ∧ U.heap = h) (fun _ _ _ _ _ => True) (fun _ U o U' => ∃ v L, o = .returned v ∧ Q v U'.heap L ∧ FrameEnd U o U' L rm.cells rm.slots)) (eT : T.heap = h) (hg : g.method = m) (hsize : g.locals.size = c.maxLocals) {rest : List Value} {W : Nat}
    (hlen : ∀ sig, parseMethodDescriptor y.desc = some sig → argsL.length = sig.parameters.length) (hstack : g.stack = argsL.reverse ++ rest) (hW : 2 * g.monitorRoom + (rest.map fun v => v.category).sum ≤ W) (hdg : decode c.code g.pc = .ok (.invokestatic index, 3)) (r1 : rm.frames + 1 ≤ R.frames) (r2 : W + (maxL + 11) + rm.locals ≤ R.locals) (r3 : cells + rm.cells ≤ R.cells) (r4 : slots + rm.slots ≤ R.slots) :
    ∃ (v : Option Value) (T' : State) (L : List Loc), Stand p l e R s m args below meth c T' (locs ++ L) (cells + rm.cells) (slots + rm.slots) ∧ Q v T'.heap L ∧ ∀ t, Steps p.tables e below (T'.setTop { g with pc := g.pc + 3, stack := v.toList ++ rest }) t → Steps p.tables e below (T.setTop g) t := by
  obtain ⟨v, _, ⟨T', L', c', n'⟩, -, X', ⟨Lc, hQ, l1, y1, z1⟩, st⟩ := Jvm.LawKit.callS X hx (y := y) hown (mvT hZ w1) (mvT hZ w4) (mvT hZ wz) (mvT hZ wc) hy (backOf (W := W) hM hZ wc wz r1 r2) (g := g) hg hsize (argsL := argsL) (rest := rest) hlen hstack hW hdg (fun _ _ => ⟨rfl, eT, r3, r4⟩)
  dsimp only [Pt.U, Pt.locs, Pt.cells, Pt.slots] at X' l1 y1 z1 st hQ
  subst l1 y1 z1
  exact ⟨v, T', Lc, X', hQ, st⟩
end Calls
theorem own_eq_ref {args : Array Value} {s : State} {a b : Term} {w : Addr} (h : (Jvm.Cond.eq a b).value args s none s [] = some true) (hb : b.eval args s none [] s = some (.ref w)) : a.eval args s none [] s = some (.ref w) := by
  obtain ⟨x, y, e1, e2, k1, k2⟩ := cmp_v (Or.inl h)
  rw [hb] at e2
  cases e2
  have hx : x.isRef = true := by cases x <;> simp_all [Kin, Value.isRef]
  have q := gotT (eq_R e1 hb hx rfl) h
  rw [e1, q]
theorem own_ne_ref {args : Array Value} {s : State} {a b : Term} {u w : Addr} (h : (Jvm.Cond.not (Jvm.Cond.eq a b)).value args s none s [] = some true) (ha : a.eval args s none [] s = some (.ref u)) (hb : b.eval args s none [] s = some (.ref w)) : u ≠ w := fun q => gotF (eq_R ha hb rfl rfl) (not_v h) (by rw [q])
theorem own_nn_mask (x m : Int32) (k : Nat) (hk : k < 32) (hm : m.toBitVec.toNat = 2 ^ k - 1) : ¬ ((x &&& m) < (0 : Int32)) := by
  rw [Int32.lt_iff_toInt_lt, Jvm.Kit.i32_mask x m hk hm]
  have h := Int.emod_nonneg x.toInt (show ((2 : Int) ^ k) ≠ 0 from Int.ne_of_gt (Int.pow_pos (by decide)))
  rw [Int32.toInt_zero]
  omega
theorem own_lt_mask (x m : Int32) (k : Nat) (hk : k < 32) (hm : m.toBitVec.toNat = 2 ^ k - 1) {n : Int32} (hn : n.toInt = 2 ^ k) : (x &&& m) < n := by
  rw [Int32.lt_iff_toInt_lt, Jvm.Kit.i32_mask x m hk hm, hn]
  exact Int.emod_lt_of_pos _ (Int.pow_pos (by decide))
theorem own_nn_rem {x : Int32} (n : Int32) (h : ¬ (x < (0 : Int32))) : ¬ (x % n < (0 : Int32)) := by
  rw [Int32.lt_iff_toInt_lt, Int32.toInt_zero] at h ⊢
  rw [Int32.toInt_mod]
  have := Int.tmod_nonneg n.toInt (show 0 ≤ x.toInt by omega)
  omega
theorem own_pos {n : Int32} (h : (0 : Int32) < n) : 0 < n.toInt := by
  rw [Int32.lt_iff_toInt_lt, Int32.toInt_zero] at h
  exact h
theorem own_ne0 {n : Int32} (h : (0 : Int32) < n) : n ≠ 0 := fun q => by
  rw [q] at h
  exact absurd h (by decide)
theorem own_lt_rem {x : Int32} (n : Int32) (h : ¬ (x < (0 : Int32))) (hn : 0 < n.toInt) : x % n < n := by
  rw [Int32.lt_iff_toInt_lt] at h ⊢
  rw [Int32.toInt_zero] at h
  rw [Jvm.Kit.i32_rem_nonneg (by omega)]
  exact Int.emod_lt_of_pos _ hn
theorem own_modlo (x n : Int32) (hn : 0 < n.toInt) : 0 ≤ ((x &&& (2147483647 : Int32)) % n).toInt := by
  have a := Jvm.Kit.i32_mask x 2147483647 (k := 31) (by decide) (by decide)
  rw [Jvm.Kit.i32_rem_nonneg (by omega)]
  exact Int.emod_nonneg _ (by omega)
theorem own_modhi (x n : Int32) (hn : 0 < n.toInt) : ((x &&& (2147483647 : Int32)) % n).toInt < n.toInt := by
  have a := Jvm.Kit.i32_mask x 2147483647 (k := 31) (by decide) (by decide)
  rw [Jvm.Kit.i32_rem_nonneg (by omega)]
  exact Int.emod_lt_of_pos _ hn
abbrev zs1 : String := "com/example/starcourse/starcourse/base/Vector3"
abbrev zs2 : String := "com/example/starcourse/starcourse/base/Vector3DotPinLaw"
/-! the plain part: whole numbers of 24 bits, as doubles -/
def own_sm (y : Int32) : Prop := y.toInt.natAbs ≤ 16777216
theorem own_small {x y : Int32} (h : y = ((x <<< ((7 : Int32) &&& 31)) >>> ((7 : Int32) &&& 31))) : own_sm y := by
  have e := Jvm.Kit.i32_shr (x <<< ((7 : Int32) &&& 31)) ((7 : Int32) &&& 31) (k := 7) (by decide)
  have a := Int32.toInt_lt (x <<< ((7 : Int32) &&& 31))
  have b := Int32.le_toInt (x <<< ((7 : Int32) &&& 31))
  unfold own_sm
  rw [h, e]
  omega
/-- a double that is a whole number of 24 bits -/
def own_S (d : UInt64) : Prop := ∃ i : Int, FP.Core.DInt i d ∧ i.natAbs ≤ 16777216
theorem own_S_i {y : Int32} (h : own_sm y) : own_S (FP.i2d y) := ⟨y.toInt, FP.Core.i2d_int y, h⟩
theorem own_mulb {i j : Int} (hi : i.natAbs ≤ 16777216) (hj : j.natAbs ≤ 16777216) : (i * j).natAbs ≤ 281474976710656 := by
  rw [Int.natAbs_mul]
  exact Nat.le_trans (Nat.mul_le_mul hi hj) (by decide)
theorem own_nn {i : Int} {d : UInt64} (h : FP.Core.DInt i d) : Jvm.Free.Fl.NoNaN64 d := Jvm.Free.Fl.noNaN64_no.mpr ((FP.Core.notNaN_iff d).mpr (FP.Core.Whole.ne_nan h))
theorem own_m {a b : UInt64} {i j : Int} (ha : FP.Core.DInt i a) (hi : i.natAbs ≤ 16777216) (hb : FP.Core.DInt j b) (hj : j.natAbs ≤ 16777216) : FP.Core.DInt (i * j) (FP.dmul a b) := FP.Core.dmul_int ha hb (Nat.le_trans (own_mulb hi hj) (by decide))
theorem own_nn1 {a b : UInt64} (ha : own_S a) (hb : own_S b) : Jvm.Free.Fl.NoNaN64 (FP.dmul a b) := by
  obtain ⟨i, ha, hi⟩ := ha
  obtain ⟨j, hb, hj⟩ := hb
  exact own_nn (own_m ha hi hb hj)
theorem own_a2 {a b c d : UInt64} {i j k n : Int} (ha : FP.Core.DInt i a) (hi : i.natAbs ≤ 16777216) (hb : FP.Core.DInt j b) (hj : j.natAbs ≤ 16777216) (hc : FP.Core.DInt k c) (hk : k.natAbs ≤ 16777216) (hd : FP.Core.DInt n d) (hn : n.natAbs ≤ 16777216) : FP.Core.DInt (i * j + k * n) (FP.dadd (FP.dmul a b) (FP.dmul c d)) := by
  have m1 := own_mulb hi hj
  have m2 := own_mulb hk hn
  exact FP.Core.dadd_int (own_m ha hi hb hj) (own_m hc hk hd hn) (by omega)
theorem own_nn2 {a b c d : UInt64} (ha : own_S a) (hb : own_S b) (hc : own_S c) (hd : own_S d) : Jvm.Free.Fl.NoNaN64 (FP.dadd (FP.dmul a b) (FP.dmul c d)) := by
  obtain ⟨i, ha, hi⟩ := ha
  obtain ⟨j, hb, hj⟩ := hb
  obtain ⟨k, hc, hk⟩ := hc
  obtain ⟨n, hd, hn⟩ := hd
  exact own_nn (own_a2 ha hi hb hj hc hk hd hn)
theorem own_a3 {a b c d u v : UInt64} {i j k n p q : Int} (ha : FP.Core.DInt i a) (hi : i.natAbs ≤ 16777216) (hb : FP.Core.DInt j b) (hj : j.natAbs ≤ 16777216) (hc : FP.Core.DInt k c) (hk : k.natAbs ≤ 16777216) (hd : FP.Core.DInt n d) (hn : n.natAbs ≤ 16777216) (hu : FP.Core.DInt p u) (hp : p.natAbs ≤ 16777216) (hv : FP.Core.DInt q v) (hq : q.natAbs ≤ 16777216) : FP.Core.DInt (i * j + k * n + p * q) (FP.dadd (FP.dadd (FP.dmul a b) (FP.dmul c d)) (FP.dmul u v)) := by
  have m1 := own_mulb hi hj
  have m2 := own_mulb hk hn
  have m3 := own_mulb hp hq
  exact FP.Core.dadd_int (own_a2 ha hi hb hj hc hk hd hn) (own_m hu hp hv hq) (by omega)
theorem own_nn3 {a b c d u v : UInt64} (ha : own_S a) (hb : own_S b) (hc : own_S c) (hd : own_S d) (hu : own_S u) (hv : own_S v) : Jvm.Free.Fl.NoNaN64 (FP.dadd (FP.dadd (FP.dmul a b) (FP.dmul c d)) (FP.dmul u v)) := by
  obtain ⟨i, ha, hi⟩ := ha
  obtain ⟨j, hb, hj⟩ := hb
  obtain ⟨k, hc, hk⟩ := hc
  obtain ⟨n, hd, hn⟩ := hd
  obtain ⟨p, hu, hp⟩ := hu
  obtain ⟨q, hv, hq⟩ := hv
  exact own_nn (own_a3 ha hi hb hj hc hk hd hn hu hp hv hq)
theorem own_l {x y : Int32} (hx : own_sm x) (hy : own_sm y) : ((x.toInt64) * (y.toInt64)).toInt = x.toInt * y.toInt := by
  have m := own_mulb hx hy
  rw [Jvm.Kit.i64_mul, Int32.toInt_toInt64, Int32.toInt_toInt64]
  · rw [Int32.toInt_toInt64, Int32.toInt_toInt64]; omega
  · rw [Int32.toInt_toInt64, Int32.toInt_toInt64]; omega
theorem own_dot {a b c d e f : Int32} (ha : own_sm a) (hb : own_sm b) (hc : own_sm c) (hd : own_sm d) (he : own_sm e) (hf : own_sm f) : (cmpValue (FP.dcmp (FP.dadd (FP.dadd (FP.dmul (FP.i2d a) (FP.i2d d)) (FP.dmul (FP.i2d b) (FP.i2d e))) (FP.dmul (FP.i2d c) (FP.i2d f))) (FP.l2d ((((a.toInt64) * (d.toInt64)) + ((b.toInt64) * (e.toInt64))) + ((c.toInt64) * (f.toInt64))))) .l) = (0 : Int32) := by
  have m1 := own_mulb ha hd
  have m2 := own_mulb hb he
  have m3 := own_mulb hc hf
  have D := own_a3 (FP.Core.i2d_int a) ha (FP.Core.i2d_int d) hd (FP.Core.i2d_int b) hb (FP.Core.i2d_int e) he (FP.Core.i2d_int c) hc (FP.Core.i2d_int f) hf
  have s1 : (((a.toInt64) * (d.toInt64)) + ((b.toInt64) * (e.toInt64))).toInt = a.toInt * d.toInt + b.toInt * e.toInt := by
    rw [Jvm.Kit.i64_add, own_l ha hd, own_l hb he]
    · rw [own_l ha hd, own_l hb he]; omega
    · rw [own_l ha hd, own_l hb he]; omega
  have s2 : ((((a.toInt64) * (d.toInt64)) + ((b.toInt64) * (e.toInt64))) + ((c.toInt64) * (f.toInt64))).toInt = a.toInt * d.toInt + b.toInt * e.toInt + c.toInt * f.toInt := by
    rw [Jvm.Kit.i64_add, s1, own_l hc hf]
    · rw [s1, own_l hc hf]; omega
    · rw [s1, own_l hc hf]; omega
  have L := FP.Core.l2d_int (a := ((((a.toInt64) * (d.toInt64)) + ((b.toInt64) * (e.toInt64))) + ((c.toInt64) * (f.toInt64)))) (by rw [s2]; omega)
  rw [s2] at L
  have q := FP.Core.dcmp_int D L
  rw [show FP.dcmp _ _ = _ from q, show compare (a.toInt * d.toInt + b.toInt * e.toInt + c.toInt * f.toInt) (a.toInt * d.toInt + b.toInt * e.toInt + c.toInt * f.toInt) = Ordering.eq from by rw [FP.Core.compare_ite]; simp]
  rfl
theorem d1_0 : decode method_2_code 0 = .ok (.iload_n 0, 1) := by decide +kernel
theorem d1_1 : decode method_2_code 1 = .ok (.bipush 7, 2) := by decide +kernel
theorem d1_3 : decode method_2_code 3 = .ok (.ishl, 1) := by decide +kernel
theorem d1_4 : decode method_2_code 4 = .ok (.bipush 7, 2) := by decide +kernel
theorem d1_6 : decode method_2_code 6 = .ok (.ishr, 1) := by decide +kernel
theorem d1_7 : decode method_2_code 7 = .ok (.ireturn, 1) := by decide +kernel
theorem ef_1 (m : MethodId) (x0 : Int32) : entryFrame m #[(.int x0)] 1 = mkF m 0 #[iv x0] [] := by first | (simp [entryFrame, mkF, argsToLocals, Value.category]; done) | rfl
theorem pn_1 : plainName "com/example/starcourse/starcourse/base/Vector3DotPinLaw" = true := by first | (simp [plainName, overriddenIn]; done) | decide +kernel
def Q1 (Z : State) (p2 : Int32) (h0 : Heap) (n0 : Nat) (v : Option Value) (h : Heap) (L : List Loc) : Prop := v = some (.int ((p2 <<< ((7 : Int32) &&& 31)) >>> ((7 : Int32) &&& 31))) ∧ Fr n0 L ∧ h = h0
set_option maxRecDepth 65536 in
set_option maxHeartbeats 40000000 in
theorem rm1 (l : Launch) (Z : State) (a0 : Array Value) (hw : ∀ d ∈ tables_1, d.before a0 Z = true) (ws : List Jvm.Cond) (p2 : Int32) (h0 : Heap) (n0 : Nat) (O0 : Old Z n0 h0) :
    MetFree l (⟨zs2, "small", "(I)I"⟩ : MethodName) (head1 (Jvm.Cond.code (⟨zs2, "small", "(I)I"⟩ : MethodName) method_2_code 1 (some .int) :: ws) ({ frames := 0, cells := 0, slots := 0, locals := 0 } : Room)) (fun a U => a = #[(.int p2)] ∧ Z.Warmed39 U.vm ∧ U.heap = h0) (fun _ _ _ _ _ => True) (fun _ U o U' => ∃ v L, o = .returned v ∧ Q1 Z p2 h0 n0 v U'.heap L ∧ FrameEnd U o U' L ({ frames := 0, cells := 0, slots := 0, locals := 0 } : Room).cells ({ frames := 0, cells := 0, slots := 0, locals := 0 } : Room).slots) := by
  refine MetFree.of_bodySF (plainFor_of_name pn_1) hisR ?_
  intro p e s m args below meth c s₁ Bd hml0 hP hK
  obtain ⟨rfl, hZ, hh⟩ := hP
  have hx := Bd.exec
  have hby := Bd.bytes
  have hml : c.maxLocals = 1 := hml0
  have hown : s.vm.findClass zs2 = some m.cls := findClass_of_methodNamed Bd.named
  have hnm := (name_of_methodNamed Bd.named Bd.method).1
  have X0 : Stand p l e ({ frames := 0, cells := 0, slots := 0, locals := 0 } : Room) s m #[(.int p2)] below meth c s₁ [] 0 0 := Stand.of_body Bd
  have e0 : s₁.heap = h0 := by rw [← hh, Bd.state]; rfl
  have N0 := Fr.nil n0
  refine own_out ?_
  refine own_via (fun t k => castTop (ef_1 m p2) (XS.iloadN X0.here hx rfl (hb hby d1_0) rfl (XS.bipush X0.here hx rfl (hb hby d1_1) (XS.ishl X0.here hx rfl (hb hby d1_3) rfl (XS.bipush X0.here hx rfl (hb hby d1_4) (XS.ishr X0.here hx rfl (hb hby d1_6) rfl k)))))) ?_
  show own_Goes p e below (s₁.setTop (mkF m 7 #[iv p2] [(.int ((p2 <<< ((7 : Int32) &&& 31)) >>> ((7 : Int32) &&& 31)))])) _
  obtain ⟨fs, hr, hrun, hended, hW, hsame⟩ := X0.leave (v := some (.int ((p2 <<< ((7 : Int32) &&& 31)) >>> ((7 : Int32) &&& 31)))) (fun h => by rw [Bd.returns] at h; cases h)
  refine own_end (t := s₁.setFrames fs) ?_ ⟨_, hrun, hended, _, _, rfl, ?_, ⟨_, rfl⟩, hW, hsame.mono (by decide) (by decide)⟩
  · exact retI X0 hx Bd.returns (hb hby d1_7) hr
  · show Q1 Z p2 h0 n0 _ s₁.heap _
    rw [e0]
    exact ⟨rfl, N0, rfl⟩
theorem pd_1 : parseMethodDescriptor "(I)I" = some ⟨[.int], some .int⟩ := by decide +kernel
theorem d2_0 : decode prog_4_method_1_code 0 = .ok (.aload_n 0, 1) := by decide +kernel
theorem d2_1 : decode prog_4_method_1_code 1 = .ok (.invokespecial 1, 3) := by decide +kernel
theorem d2_4 : decode prog_4_method_1_code 4 = .ok (.aload_n 0, 1) := by decide +kernel
theorem d2_5 : decode prog_4_method_1_code 5 = .ok (.dload_n 1, 1) := by decide +kernel
theorem d2_6 : decode prog_4_method_1_code 6 = .ok (.putfield 7, 3) := by decide +kernel
theorem d2_9 : decode prog_4_method_1_code 9 = .ok (.aload_n 0, 1) := by decide +kernel
theorem d2_10 : decode prog_4_method_1_code 10 = .ok (.dload_n 3, 1) := by decide +kernel
theorem d2_11 : decode prog_4_method_1_code 11 = .ok (.putfield 13, 3) := by decide +kernel
theorem d2_14 : decode prog_4_method_1_code 14 = .ok (.aload_n 0, 1) := by decide +kernel
theorem d2_15 : decode prog_4_method_1_code 15 = .ok (.dload 5, 2) := by decide +kernel
theorem d2_17 : decode prog_4_method_1_code 17 = .ok (.putfield 16, 3) := by decide +kernel
theorem d2_20 : decode prog_4_method_1_code 20 = .ok (.return_, 1) := by decide +kernel
theorem ef_2 (m : MethodId) (x0 : Addr) (x1 : UInt64) (x2 : UInt64) (x3 : UInt64) : entryFrame m #[(.ref x0), (.double x1), (.double x2), (.double x3)] 7 = mkF m 0 #[rv x0, .val (.double x1), .second, .val (.double x2), .second, .val (.double x3), .second] [] := by first | (simp [entryFrame, mkF, argsToLocals, Value.category]; done) | rfl
theorem pn_2 : plainName "com/example/starcourse/starcourse/base/Vector3" = true := by first | (simp [plainName, overriddenIn]; done) | decide +kernel
def Q2 (Z : State) (a28 : Addr) (j29 : UInt64) (j30 : UInt64) (j31 : UInt64) (j32 : UInt64) (h0 : Heap) (n0 : Nat) (v : Option Value) (h : Heap) (L : List Loc) : Prop := v = none ∧ Fr n0 L ∧ Keep h0 h [a28] ∧ Exa Z h a28 zs1 ∧ Fld Z h a28 zs1 "mX" "D" (.double j29) ∧ Fld Z h a28 zs1 "mY" "D" (.double j30) ∧ Fld Z h a28 zs1 "mZ" "D" (.double j31)
set_option maxRecDepth 65536 in
set_option maxHeartbeats 40000000 in
theorem rm2 (l : Launch) (Z : State) (a0 : Array Value) (hw : ∀ d ∈ tables_1, d.before a0 Z = true) (ws : List Jvm.Cond) (a28 : Addr) (j29 : UInt64) (j30 : UInt64) (j31 : UInt64) (j32 : UInt64) (h0 : Heap) (n0 : Nat) (O0 : Old Z n0 h0) (pF_a28_mX : Fld Z h0 a28 zs1 "mX" "D" (.double j32)) (pE_a28 : Exa Z h0 a28 zs1) (pG_a28 : n0 ≤ a28) (pF_a28_mY : Fld Z h0 a28 zs1 "mY" "D" (.double j32)) (pF_a28_mZ : Fld Z h0 a28 zs1 "mZ" "D" (.double j32)) :
    MetFree l (⟨zs1, "<init>", "(DDD)V"⟩ : MethodName) (head1 (Jvm.Cond.code (⟨zs1, "<init>", "(DDD)V"⟩ : MethodName) prog_4_method_1_code 7 none :: ws) ({ frames := 1, cells := 0, slots := 0, locals := 12 } : Room)) (fun a U => a = #[(.ref a28), (.double j29), (.double j30), (.double j31)] ∧ Z.Warmed39 U.vm ∧ U.heap = h0) (fun _ _ _ _ _ => True) (fun _ U o U' => ∃ v L, o = .returned v ∧ Q2 Z a28 j29 j30 j31 j32 h0 n0 v U'.heap L ∧ FrameEnd U o U' L ({ frames := 1, cells := 0, slots := 0, locals := 12 } : Room).cells ({ frames := 1, cells := 0, slots := 0, locals := 12 } : Room).slots) := by
  refine MetFree.of_bodySF (plainFor_of_name pn_2) hisR ?_
  intro p e s m args below meth c s₁ Bd hml0 hP hK
  obtain ⟨rfl, hZ, hh⟩ := hP
  have hx := Bd.exec
  have hby := Bd.bytes
  have hml : c.maxLocals = 7 := hml0
  have hown : s.vm.findClass zs1 = some m.cls := findClass_of_methodNamed Bd.named
  have hnm := (name_of_methodNamed Bd.named Bd.method).1
  have X0 : Stand p l e ({ frames := 1, cells := 0, slots := 0, locals := 12 } : Room) s m #[(.ref a28), (.double j29), (.double j30), (.double j31)] below meth c s₁ [] 0 0 := Stand.of_body Bd
  have e0 : s₁.heap = h0 := by rw [← hh, Bd.state]; rfl
  have N0 := Fr.nil n0
  refine own_out ?_
  refine own_via (fun t k => castTop (ef_2 m a28 j29 j30 j31) (XS.aloadN X0.here hx rfl (hb hby d2_0) rfl rfl k)) ?_
  obtain ⟨T63, X63, e63, st63⟩ := initO X0 hx hZ hown (wd hw 10 rfl) (wd hw 11 rfl) (wd hw 12 rfl) e0 (g := (mkF m 1 #[rv a28, .val (.double j29), .second, .val (.double j30), .second, .val (.double j31), .second] [(.ref a28)])) rfl (by rw [hml]; rfl) rfl (hb hby d2_1) (by decide) (W := 0) (by show 2 * 0 + _ ≤ _; exact Nat.le_of_eq rfl) (by decide)
  refine own_via (fun t k => st63 t (XS.aloadN X63.here hx rfl (hb hby d2_4) rfl rfl (XS.dloadN X63.here hx rfl (hb hby d2_5) rfl k))) ?_
  show own_Goes p e below (T63.setTop (mkF m 6 #[rv a28, .val (.double j29), .second, .val (.double j30), .second, .val (.double j31), .second] [(.double j29), (.ref a28)])) _
  obtain ⟨T64, h64, X64, e64, W64, st64⟩ := putF X63 hx hZ hown (host := "") (Or.inl (wd hw 13 rfl)) Via.refl e63 pF_a28_mX pE_a28 (Or.inr ⟨(wd hw 14 rfl), rfl, hnm⟩) (wd hw 5 rfl) (ty := .double) (by decide) rfl rfl (g := (mkF m 6 #[rv a28, .val (.double j29), .second, .val (.double j30), .second, .val (.double j31), .second] [(.double j29), (.ref a28)])) rfl rfl (hb hby d2_6)
  refine own_via (fun t k => st64 t k) ?_
  have Fw64 : Fld Z h64 a28 zs1 "mX" "D" (.double j29) := pF_a28_mX.same W64
  have N64 := Fr.snoc X64 N0 pG_a28
  show own_Goes p e below (T64.setTop (mkF m 9 #[rv a28, .val (.double j29), .second, .val (.double j30), .second, .val (.double j31), .second] [])) _
  refine own_via (fun t k => XS.aloadN X64.here hx rfl (hb hby d2_9) rfl rfl (XS.dloadN X64.here hx rfl (hb hby d2_10) rfl k)) ?_
  have F65 : Fld Z h64 a28 zs1 "mY" "D" (.double j32) := (pF_a28_mY.other W64 (Or.inr (slot_ne (Or.inr (wd hw 16 rfl)) (Or.inr (wd hw 14 rfl)) (by decide) (t := .double) (t' := .double) (by decide) (by decide))))
  have E66 : Exa Z h64 a28 zs1 := (pE_a28.wr W64)
  obtain ⟨T67, h67, X67, e67, W67, st67⟩ := putF X64 hx hZ hown (host := "") (Or.inl (wd hw 15 rfl)) Via.refl e64 F65 E66 (Or.inr ⟨(wd hw 16 rfl), rfl, hnm⟩) (wd hw 5 rfl) (ty := .double) (by decide) rfl rfl (g := (mkF m 11 #[rv a28, .val (.double j29), .second, .val (.double j30), .second, .val (.double j31), .second] [(.double j30), (.ref a28)])) rfl rfl (hb hby d2_11)
  refine own_via (fun t k => st67 t k) ?_
  have Fw67 : Fld Z h67 a28 zs1 "mY" "D" (.double j30) := F65.same W67
  have N67 := Fr.snoc X67 N64 pG_a28
  show own_Goes p e below (T67.setTop (mkF m 14 #[rv a28, .val (.double j29), .second, .val (.double j30), .second, .val (.double j31), .second] [])) _
  refine own_via (fun t k => XS.aloadN X67.here hx rfl (hb hby d2_14) rfl rfl (XS.dload X67.here hx rfl (hb hby d2_15) rfl k)) ?_
  have F68 : Fld Z h67 a28 zs1 "mZ" "D" (.double j32) := ((pF_a28_mZ.other W64 (Or.inr (slot_ne (Or.inr (wd hw 18 rfl)) (Or.inr (wd hw 14 rfl)) (by decide) (t := .double) (t' := .double) (by decide) (by decide)))).other W67 (Or.inr (slot_ne (Or.inr (wd hw 18 rfl)) (Or.inr (wd hw 16 rfl)) (by decide) (t := .double) (t' := .double) (by decide) (by decide))))
  have E69 : Exa Z h67 a28 zs1 := (E66.wr W67)
  obtain ⟨T70, h70, X70, e70, W70, st70⟩ := putF X67 hx hZ hown (host := "") (Or.inl (wd hw 17 rfl)) Via.refl e67 F68 E69 (Or.inr ⟨(wd hw 18 rfl), rfl, hnm⟩) (wd hw 5 rfl) (ty := .double) (by decide) rfl rfl (g := (mkF m 17 #[rv a28, .val (.double j29), .second, .val (.double j30), .second, .val (.double j31), .second] [(.double j31), (.ref a28)])) rfl rfl (hb hby d2_17)
  refine own_via (fun t k => st70 t k) ?_
  have Fw70 : Fld Z h70 a28 zs1 "mZ" "D" (.double j31) := F68.same W70
  have N70 := Fr.snoc X70 N67 pG_a28
  show own_Goes p e below (T70.setTop (mkF m 20 #[rv a28, .val (.double j29), .second, .val (.double j30), .second, .val (.double j31), .second] [])) _
  obtain ⟨fs, hr, hrun, hended, hW, hsame⟩ := X70.leave (v := none) (fun _ => rfl)
  refine own_end (t := T70.setFrames fs) ?_ ⟨_, hrun, hended, _, _, rfl, ?_, ⟨_, rfl⟩, hW, hsame.mono (by decide) (by decide)⟩
  · exact X70.returnOut hx Bd.returns (hb hby d2_20) hr
  have E71 : Exa Z h70 a28 zs1 := (E69.wr W70)
  have F72 : Fld Z h70 a28 zs1 "mX" "D" (.double j29) := ((Fw64.other W67 (Or.inr (slot_ne (Or.inr (wd hw 14 rfl)) (Or.inr (wd hw 16 rfl)) (by decide) (t := .double) (t' := .double) (by decide) (by decide)))).other W70 (Or.inr (slot_ne (Or.inr (wd hw 14 rfl)) (Or.inr (wd hw 18 rfl)) (by decide) (t := .double) (t' := .double) (by decide) (by decide))))
  have F73 : Fld Z h70 a28 zs1 "mY" "D" (.double j30) := (Fw67.other W70 (Or.inr (slot_ne (Or.inr (wd hw 16 rfl)) (Or.inr (wd hw 18 rfl)) (by decide) (t := .double) (t' := .double) (by decide) (by decide))))
  · show Q2 Z a28 j29 j30 j31 j32 h0 n0 _ T70.heap _
    rw [e70]
    exact ⟨rfl, N70, ((((Keep.refl h0 [a28]).wr W64 (Or.inl (List.mem_of_getElem? (i := 0) rfl))).wr W67 (Or.inl (List.mem_of_getElem? (i := 0) rfl))).wr W70 (Or.inl (List.mem_of_getElem? (i := 0) rfl))), E71, F72, F73, Fw70⟩
theorem pd_2 : parseMethodDescriptor "(DDD)V" = some ⟨[.double, .double, .double], none⟩ := by decide +kernel
theorem d4_0 : decode prog_4_method_9_code 0 = .ok (.aload_n 0, 1) := by decide +kernel
theorem d4_1 : decode prog_4_method_9_code 1 = .ok (.getfield 7, 3) := by decide +kernel
theorem d4_4 : decode prog_4_method_9_code 4 = .ok (.aload_n 1, 1) := by decide +kernel
theorem d4_5 : decode prog_4_method_9_code 5 = .ok (.getfield 7, 3) := by decide +kernel
theorem d4_8 : decode prog_4_method_9_code 8 = .ok (.dmul, 1) := by decide +kernel
theorem d4_9 : decode prog_4_method_9_code 9 = .ok (.aload_n 0, 1) := by decide +kernel
theorem d4_10 : decode prog_4_method_9_code 10 = .ok (.getfield 13, 3) := by decide +kernel
theorem d4_13 : decode prog_4_method_9_code 13 = .ok (.aload_n 1, 1) := by decide +kernel
theorem d4_14 : decode prog_4_method_9_code 14 = .ok (.getfield 13, 3) := by decide +kernel
theorem d4_17 : decode prog_4_method_9_code 17 = .ok (.dmul, 1) := by decide +kernel
theorem d4_18 : decode prog_4_method_9_code 18 = .ok (.dadd, 1) := by decide +kernel
theorem d4_19 : decode prog_4_method_9_code 19 = .ok (.aload_n 0, 1) := by decide +kernel
theorem d4_20 : decode prog_4_method_9_code 20 = .ok (.getfield 16, 3) := by decide +kernel
theorem d4_23 : decode prog_4_method_9_code 23 = .ok (.aload_n 1, 1) := by decide +kernel
theorem d4_24 : decode prog_4_method_9_code 24 = .ok (.getfield 16, 3) := by decide +kernel
theorem d4_27 : decode prog_4_method_9_code 27 = .ok (.dmul, 1) := by decide +kernel
theorem d4_28 : decode prog_4_method_9_code 28 = .ok (.dadd, 1) := by decide +kernel
theorem d4_29 : decode prog_4_method_9_code 29 = .ok (.dreturn, 1) := by decide +kernel
theorem ef_3 (m : MethodId) (x0 : Addr) (x1 : Addr) : entryFrame m #[(.ref x0), (.ref x1)] 2 = mkF m 0 #[rv x0, rv x1] [] := by first | (simp [entryFrame, mkF, argsToLocals, Value.category]; done) | rfl
def Q3 (Z : State) (a96 : Addr) (a97 : Addr) (j98 : UInt64) (j101 : UInt64) (j99 : UInt64) (j102 : UInt64) (j100 : UInt64) (j103 : UInt64) (h0 : Heap) (n0 : Nat) (v : Option Value) (h : Heap) (L : List Loc) : Prop := v = some (.double (FP.dadd (FP.dadd (FP.dmul j98 j101) (FP.dmul j99 j102)) (FP.dmul j100 j103))) ∧ Fr n0 L ∧ h = h0
set_option maxRecDepth 65536 in
set_option maxHeartbeats 40000000 in
theorem rm3 (l : Launch) (Z : State) (a0 : Array Value) (hw : ∀ d ∈ tables_1, d.before a0 Z = true) (ws : List Jvm.Cond) (a96 : Addr) (a97 : Addr) (j98 : UInt64) (j101 : UInt64) (j99 : UInt64) (j102 : UInt64) (j100 : UInt64) (j103 : UInt64) (h0 : Heap) (n0 : Nat) (O0 : Old Z n0 h0) (pF_a96_mX : Fld Z h0 a96 zs1 "mX" "D" (.double j98)) (pF_a97_mX : Fld Z h0 a97 zs1 "mX" "D" (.double j101)) (pC108 : own_S j98) (pC123 : own_S j101) (pF_a96_mY : Fld Z h0 a96 zs1 "mY" "D" (.double j99)) (pF_a97_mY : Fld Z h0 a97 zs1 "mY" "D" (.double j102)) (pC113 : own_S j99) (pC128 : own_S j102) (pF_a96_mZ : Fld Z h0 a96 zs1 "mZ" "D" (.double j100)) (pF_a97_mZ : Fld Z h0 a97 zs1 "mZ" "D" (.double j103)) (pC118 : own_S j100) (pC133 : own_S j103) :
    MetFree l (⟨zs1, "dot", "(Lcom/example/starcourse/starcourse/base/Vector3;)D"⟩ : MethodName) (head1 (Jvm.Cond.code (⟨zs1, "dot", "(Lcom/example/starcourse/starcourse/base/Vector3;)D"⟩ : MethodName) prog_4_method_9_code 2 (some .double) :: ws) ({ frames := 0, cells := 0, slots := 0, locals := 0 } : Room)) (fun a U => a = #[(.ref a96), (.ref a97)] ∧ Z.Warmed39 U.vm ∧ U.heap = h0) (fun _ _ _ _ _ => True) (fun _ U o U' => ∃ v L, o = .returned v ∧ Q3 Z a96 a97 j98 j101 j99 j102 j100 j103 h0 n0 v U'.heap L ∧ FrameEnd U o U' L ({ frames := 0, cells := 0, slots := 0, locals := 0 } : Room).cells ({ frames := 0, cells := 0, slots := 0, locals := 0 } : Room).slots) := by
  refine MetFree.of_bodySF (plainFor_of_name pn_2) hisR ?_
  intro p e s m args below meth c s₁ Bd hml0 hP hK
  obtain ⟨rfl, hZ, hh⟩ := hP
  have hx := Bd.exec
  have hby := Bd.bytes
  have hml : c.maxLocals = 2 := hml0
  have hown : s.vm.findClass zs1 = some m.cls := findClass_of_methodNamed Bd.named
  have hnm := (name_of_methodNamed Bd.named Bd.method).1
  have X0 : Stand p l e ({ frames := 0, cells := 0, slots := 0, locals := 0 } : Room) s m #[(.ref a96), (.ref a97)] below meth c s₁ [] 0 0 := Stand.of_body Bd
  have e0 : s₁.heap = h0 := by rw [← hh, Bd.state]; rfl
  have N0 := Fr.nil n0
  refine own_out ?_
  refine own_via (fun t k => castTop (ef_3 m a96 a97) (XS.aloadN X0.here hx rfl (hb hby d4_0) rfl rfl k)) ?_
  obtain ⟨T134, X134, e134, st134⟩ := getF X0 hx hZ hown (host := "") (Or.inl (wd hw 13 rfl)) Via.refl e0 pF_a96_mX (g := (mkF m 1 #[rv a96, rv a97] [(.ref a96)])) rfl rfl (hb hby d4_1)
  refine own_via (fun t k => st134 t (XS.aloadN X134.here hx rfl (hb hby d4_4) rfl rfl k)) ?_
  obtain ⟨T135, X135, e135, st135⟩ := getF X134 hx hZ hown (host := "") (Or.inl (wd hw 13 rfl)) Via.refl e134 pF_a97_mX (g := (mkF m 5 #[rv a96, rv a97] [(.ref a97), (.double j98)])) rfl rfl (hb hby d4_5)
  refine own_via (fun t k => st135 t (XS.dmulS X135.here hx rfl (hb hby d4_8) rfl (own_nn1 pC108 pC123) rfl (XS.aloadN X135.here hx rfl (hb hby d4_9) rfl rfl k))) ?_
  show own_Goes p e below (T135.setTop (mkF m 10 #[rv a96, rv a97] [(.ref a96), (.double (FP.dmul j98 j101))])) _
  obtain ⟨T136, X136, e136, st136⟩ := getF X135 hx hZ hown (host := "") (Or.inl (wd hw 15 rfl)) Via.refl e135 pF_a96_mY (g := (mkF m 10 #[rv a96, rv a97] [(.ref a96), (.double (FP.dmul j98 j101))])) rfl rfl (hb hby d4_10)
  refine own_via (fun t k => st136 t (XS.aloadN X136.here hx rfl (hb hby d4_13) rfl rfl k)) ?_
  obtain ⟨T137, X137, e137, st137⟩ := getF X136 hx hZ hown (host := "") (Or.inl (wd hw 15 rfl)) Via.refl e136 pF_a97_mY (g := (mkF m 14 #[rv a96, rv a97] [(.ref a97), (.double j99), (.double (FP.dmul j98 j101))])) rfl rfl (hb hby d4_14)
  refine own_via (fun t k => st137 t (XS.dmulS X137.here hx rfl (hb hby d4_17) rfl (own_nn1 pC113 pC128) rfl (XS.daddS X137.here hx rfl (hb hby d4_18) rfl (own_nn2 pC108 pC123 pC113 pC128) rfl (XS.aloadN X137.here hx rfl (hb hby d4_19) rfl rfl k)))) ?_
  show own_Goes p e below (T137.setTop (mkF m 20 #[rv a96, rv a97] [(.ref a96), (.double (FP.dadd (FP.dmul j98 j101) (FP.dmul j99 j102)))])) _
  obtain ⟨T138, X138, e138, st138⟩ := getF X137 hx hZ hown (host := "") (Or.inl (wd hw 17 rfl)) Via.refl e137 pF_a96_mZ (g := (mkF m 20 #[rv a96, rv a97] [(.ref a96), (.double (FP.dadd (FP.dmul j98 j101) (FP.dmul j99 j102)))])) rfl rfl (hb hby d4_20)
  refine own_via (fun t k => st138 t (XS.aloadN X138.here hx rfl (hb hby d4_23) rfl rfl k)) ?_
  obtain ⟨T139, X139, e139, st139⟩ := getF X138 hx hZ hown (host := "") (Or.inl (wd hw 17 rfl)) Via.refl e138 pF_a97_mZ (g := (mkF m 24 #[rv a96, rv a97] [(.ref a97), (.double j100), (.double (FP.dadd (FP.dmul j98 j101) (FP.dmul j99 j102)))])) rfl rfl (hb hby d4_24)
  refine own_via (fun t k => st139 t (XS.dmulS X139.here hx rfl (hb hby d4_27) rfl (own_nn1 pC118 pC133) rfl (XS.daddS X139.here hx rfl (hb hby d4_28) rfl (own_nn3 pC108 pC123 pC113 pC128 pC118 pC133) rfl k))) ?_
  show own_Goes p e below (T139.setTop (mkF m 29 #[rv a96, rv a97] [(.double (FP.dadd (FP.dadd (FP.dmul j98 j101) (FP.dmul j99 j102)) (FP.dmul j100 j103)))])) _
  obtain ⟨fs, hr, hrun, hended, hW, hsame⟩ := X139.leave (v := some (.double (FP.dadd (FP.dadd (FP.dmul j98 j101) (FP.dmul j99 j102)) (FP.dmul j100 j103)))) (fun h => by rw [Bd.returns] at h; cases h)
  refine own_end (t := T139.setFrames fs) ?_ ⟨_, hrun, hended, _, _, rfl, ?_, ⟨_, rfl⟩, hW, hsame.mono (by decide) (by decide)⟩
  · jvm_step X139.here [X139.here.top, hx, (hb hby d4_29), X139.method', Bd.returns, narrow]
    first | (intro acts; rw [hr _ acts rfl rfl rfl]) | rw [hr _ _ rfl rfl rfl]
    exact Steps.refl _
  · show Q3 Z a96 a97 j98 j101 j99 j102 j100 j103 h0 n0 _ T139.heap _
    rw [e139]
    exact ⟨rfl, N0, rfl⟩
theorem pd_3 : parseMethodDescriptor "(Lcom/example/starcourse/starcourse/base/Vector3;)D" = some ⟨[(.object "com/example/starcourse/starcourse/base/Vector3")], some .double⟩ := by decide +kernel
theorem ef_4 (m : MethodId) (x0 : Int32) (x1 : Int32) (x2 : Int32) (x3 : Int32) (x4 : Int32) (x5 : Int32) : entryFrame m #[(.int x0), (.int x1), (.int x2), (.int x3), (.int x4), (.int x5)] maxLocals = mkF m 0 #[iv x0, iv x1, iv x2, iv x3, iv x4, iv x5, .unset, .unset, .unset, .unset, .unset, .unset, .unset, .unset, .unset, .unset, .unset, .unset] [] := by first | (simp [entryFrame, mkF, argsToLocals, Value.category, maxLocals]; done) | rfl
set_option maxRecDepth 65536 in
set_option maxHeartbeats 40000000 in
theorem rm0 (l : Launch) (Z : State) (a0 : Array Value) (hw : ∀ d ∈ tables_1, d.before a0 Z = true) (ws : List Jvm.Cond) (i0 : Int32) (i1 : Int32) (i2 : Int32) (i3 : Int32) (i4 : Int32) (i5 : Int32) (h0 : Heap) (n0 : Nat) (O0 : Old Z n0 h0) :
    MetFree l x (head1 (Jvm.Cond.code x code maxLocals ret :: ws) room_1) (fun a U => a = #[(.int i0), (.int i1), (.int i2), (.int i3), (.int i4), (.int i5)] ∧ Z.Warmed39 U.vm ∧ U.heap = h0) (fun _ _ _ _ _ => True) (fun _ U o U' => ∃ v L, o = .returned v ∧ own_Q0 n0 v L ∧ FrameEnd U o U' L room_1.cells room_1.slots) := by
  refine MetFree.of_bodySF (plainFor_of_name pn_1) hisR ?_
  intro p e s m args below meth c s₁ Bd hml0 hP hK
  obtain ⟨rfl, hZ, hh⟩ := hP
  have hx := Bd.exec
  have hby := Bd.bytes
  have hml : c.maxLocals = 18 := hml0
  have hown : s.vm.findClass zs2 = some m.cls := findClass_of_methodNamed Bd.named
  have hnm := (name_of_methodNamed Bd.named Bd.method).1
  have X0 : Stand p l e room_1 s m #[(.int i0), (.int i1), (.int i2), (.int i3), (.int i4), (.int i5)] below meth c s₁ [] 0 0 := Stand.of_body Bd
  have e0 : s₁.heap = h0 := by rw [← hh, Bd.state]; rfl
  have N0 := Fr.nil n0
  refine own_out ?_
  show own_Goes p e below _ (own_G s below n0)
  refine own_via (fun t k => castTop (ef_4 m i0 i1 i2 i3 i4 i5) (XS.iloadN X0.here hx rfl (hb hby at_0) rfl k)) ?_
  obtain ⟨_, T1, _, X1, hQ1, st1⟩ := own_cs X0 hx hZ hown (wd hw 0 rfl) (wd hw 1 rfl) (wd hw 3 rfl) (wd hw 2 rfl) (by decide) (rm1 l Z a0 hw [] i0 h0 n0 O0 ) e0 (g := (mkF m 1 #[iv i0, iv i1, iv i2, iv i3, iv i4, iv i5, .unset, .unset, .unset, .unset, .unset, .unset, .unset, .unset, .unset, .unset, .unset, .unset] [(.int i0)])) rfl (by rw [hml]; rfl) (rest := []) (W := 0) (lenOf pd_1 rfl) rfl (by show 2 * 0 + _ ≤ _; exact Nat.le_of_eq rfl) (hb hby at_1) (by decide) (by decide) (by decide) (by decide)
  obtain ⟨rfl, Nq1, hh3⟩ := hQ1
  have N1 := Fr.app N0 Nq1
  refine own_via (fun t k => st1 t k) ?_
  show own_Goes p e below (T1.setTop (mkF m 4 #[iv i0, iv i1, iv i2, iv i3, iv i4, iv i5, .unset, .unset, .unset, .unset, .unset, .unset, .unset, .unset, .unset, .unset, .unset, .unset] [(.int ((i0 <<< ((7 : Int32) &&& 31)) >>> ((7 : Int32) &&& 31)))])) _
  obtain ⟨y4, hy4⟩ : ∃ z, z = ((i0 <<< ((7 : Int32) &&& 31)) >>> ((7 : Int32) &&& 31)) := ⟨_, rfl⟩
  rw [← hy4]
  show own_Goes p e below (T1.setTop (mkF m 4 #[iv i0, iv i1, iv i2, iv i3, iv i4, iv i5, .unset, .unset, .unset, .unset, .unset, .unset, .unset, .unset, .unset, .unset, .unset, .unset] [(.int y4)])) _
  refine own_via (fun t k => XS.istore X1.here hx rfl (hb hby at_4) rfl (l' := #[iv i0, iv i1, iv i2, iv i3, iv i4, iv i5, iv y4, .unset, .unset, .unset, .unset, .unset, .unset, .unset, .unset, .unset, .unset, .unset]) rfl k) ?_
  have smy4 : own_sm y4 := own_small hy4
  refine own_via (fun t k => XS.iloadN X1.here hx rfl (hb hby at_6) rfl k) ?_
  obtain ⟨_, T5, _, X5, hQ5, st5⟩ := own_cs X1 hx hZ hown (wd hw 0 rfl) (wd hw 1 rfl) (wd hw 3 rfl) (wd hw 2 rfl) (by decide) (rm1 l Z a0 hw [] i1 h0 n0 O0 ) hh3 (g := (mkF m 7 #[iv i0, iv i1, iv i2, iv i3, iv i4, iv i5, iv y4, .unset, .unset, .unset, .unset, .unset, .unset, .unset, .unset, .unset, .unset, .unset] [(.int i1)])) rfl (by rw [hml]; rfl) (rest := []) (W := 0) (lenOf pd_1 rfl) rfl (by show 2 * 0 + _ ≤ _; exact Nat.le_of_eq rfl) (hb hby at_7) (by decide) (by decide) (by decide) (by decide)
  obtain ⟨rfl, Nq5, hh6⟩ := hQ5
  have N5 := Fr.app N1 Nq5
  refine own_via (fun t k => st5 t k) ?_
  show own_Goes p e below (T5.setTop (mkF m 10 #[iv i0, iv i1, iv i2, iv i3, iv i4, iv i5, iv y4, .unset, .unset, .unset, .unset, .unset, .unset, .unset, .unset, .unset, .unset, .unset] [(.int ((i1 <<< ((7 : Int32) &&& 31)) >>> ((7 : Int32) &&& 31)))])) _
  obtain ⟨y7, hy7⟩ : ∃ z, z = ((i1 <<< ((7 : Int32) &&& 31)) >>> ((7 : Int32) &&& 31)) := ⟨_, rfl⟩
  rw [← hy7]
  show own_Goes p e below (T5.setTop (mkF m 10 #[iv i0, iv i1, iv i2, iv i3, iv i4, iv i5, iv y4, .unset, .unset, .unset, .unset, .unset, .unset, .unset, .unset, .unset, .unset, .unset] [(.int y7)])) _
  refine own_via (fun t k => XS.istore X5.here hx rfl (hb hby at_10) rfl (l' := #[iv i0, iv i1, iv i2, iv i3, iv i4, iv i5, iv y4, iv y7, .unset, .unset, .unset, .unset, .unset, .unset, .unset, .unset, .unset, .unset]) rfl k) ?_
  have smy7 : own_sm y7 := own_small hy7
  refine own_via (fun t k => XS.iloadN X5.here hx rfl (hb hby at_12) rfl k) ?_
  obtain ⟨_, T8, _, X8, hQ8, st8⟩ := own_cs X5 hx hZ hown (wd hw 0 rfl) (wd hw 1 rfl) (wd hw 3 rfl) (wd hw 2 rfl) (by decide) (rm1 l Z a0 hw [] i2 h0 n0 O0 ) hh6 (g := (mkF m 13 #[iv i0, iv i1, iv i2, iv i3, iv i4, iv i5, iv y4, iv y7, .unset, .unset, .unset, .unset, .unset, .unset, .unset, .unset, .unset, .unset] [(.int i2)])) rfl (by rw [hml]; rfl) (rest := []) (W := 0) (lenOf pd_1 rfl) rfl (by show 2 * 0 + _ ≤ _; exact Nat.le_of_eq rfl) (hb hby at_13) (by decide) (by decide) (by decide) (by decide)
  obtain ⟨rfl, Nq8, hh9⟩ := hQ8
  have N8 := Fr.app N5 Nq8
  refine own_via (fun t k => st8 t k) ?_
  show own_Goes p e below (T8.setTop (mkF m 16 #[iv i0, iv i1, iv i2, iv i3, iv i4, iv i5, iv y4, iv y7, .unset, .unset, .unset, .unset, .unset, .unset, .unset, .unset, .unset, .unset] [(.int ((i2 <<< ((7 : Int32) &&& 31)) >>> ((7 : Int32) &&& 31)))])) _
  obtain ⟨y10, hy10⟩ : ∃ z, z = ((i2 <<< ((7 : Int32) &&& 31)) >>> ((7 : Int32) &&& 31)) := ⟨_, rfl⟩
  rw [← hy10]
  show own_Goes p e below (T8.setTop (mkF m 16 #[iv i0, iv i1, iv i2, iv i3, iv i4, iv i5, iv y4, iv y7, .unset, .unset, .unset, .unset, .unset, .unset, .unset, .unset, .unset, .unset] [(.int y10)])) _
  refine own_via (fun t k => XS.istore X8.here hx rfl (hb hby at_16) rfl (l' := #[iv i0, iv i1, iv i2, iv i3, iv i4, iv i5, iv y4, iv y7, iv y10, .unset, .unset, .unset, .unset, .unset, .unset, .unset, .unset, .unset]) rfl k) ?_
  have smy10 : own_sm y10 := own_small hy10
  refine own_via (fun t k => XS.iloadN X8.here hx rfl (hb hby at_18) rfl k) ?_
  obtain ⟨_, T11, _, X11, hQ11, st11⟩ := own_cs X8 hx hZ hown (wd hw 0 rfl) (wd hw 1 rfl) (wd hw 3 rfl) (wd hw 2 rfl) (by decide) (rm1 l Z a0 hw [] i3 h0 n0 O0 ) hh9 (g := (mkF m 19 #[iv i0, iv i1, iv i2, iv i3, iv i4, iv i5, iv y4, iv y7, iv y10, .unset, .unset, .unset, .unset, .unset, .unset, .unset, .unset, .unset] [(.int i3)])) rfl (by rw [hml]; rfl) (rest := []) (W := 0) (lenOf pd_1 rfl) rfl (by show 2 * 0 + _ ≤ _; exact Nat.le_of_eq rfl) (hb hby at_19) (by decide) (by decide) (by decide) (by decide)
  obtain ⟨rfl, Nq11, hh12⟩ := hQ11
  have N11 := Fr.app N8 Nq11
  refine own_via (fun t k => st11 t k) ?_
  show own_Goes p e below (T11.setTop (mkF m 22 #[iv i0, iv i1, iv i2, iv i3, iv i4, iv i5, iv y4, iv y7, iv y10, .unset, .unset, .unset, .unset, .unset, .unset, .unset, .unset, .unset] [(.int ((i3 <<< ((7 : Int32) &&& 31)) >>> ((7 : Int32) &&& 31)))])) _
  obtain ⟨y13, hy13⟩ : ∃ z, z = ((i3 <<< ((7 : Int32) &&& 31)) >>> ((7 : Int32) &&& 31)) := ⟨_, rfl⟩
  rw [← hy13]
  show own_Goes p e below (T11.setTop (mkF m 22 #[iv i0, iv i1, iv i2, iv i3, iv i4, iv i5, iv y4, iv y7, iv y10, .unset, .unset, .unset, .unset, .unset, .unset, .unset, .unset, .unset] [(.int y13)])) _
  refine own_via (fun t k => XS.istore X11.here hx rfl (hb hby at_22) rfl (l' := #[iv i0, iv i1, iv i2, iv i3, iv i4, iv i5, iv y4, iv y7, iv y10, iv y13, .unset, .unset, .unset, .unset, .unset, .unset, .unset, .unset]) rfl k) ?_
  have smy13 : own_sm y13 := own_small hy13
  refine own_via (fun t k => XS.iload X11.here hx rfl (hb hby at_24) rfl k) ?_
  obtain ⟨_, T14, _, X14, hQ14, st14⟩ := own_cs X11 hx hZ hown (wd hw 0 rfl) (wd hw 1 rfl) (wd hw 3 rfl) (wd hw 2 rfl) (by decide) (rm1 l Z a0 hw [] i4 h0 n0 O0 ) hh12 (g := (mkF m 26 #[iv i0, iv i1, iv i2, iv i3, iv i4, iv i5, iv y4, iv y7, iv y10, iv y13, .unset, .unset, .unset, .unset, .unset, .unset, .unset, .unset] [(.int i4)])) rfl (by rw [hml]; rfl) (rest := []) (W := 0) (lenOf pd_1 rfl) rfl (by show 2 * 0 + _ ≤ _; exact Nat.le_of_eq rfl) (hb hby at_26) (by decide) (by decide) (by decide) (by decide)
  obtain ⟨rfl, Nq14, hh15⟩ := hQ14
  have N14 := Fr.app N11 Nq14
  refine own_via (fun t k => st14 t k) ?_
  show own_Goes p e below (T14.setTop (mkF m 29 #[iv i0, iv i1, iv i2, iv i3, iv i4, iv i5, iv y4, iv y7, iv y10, iv y13, .unset, .unset, .unset, .unset, .unset, .unset, .unset, .unset] [(.int ((i4 <<< ((7 : Int32) &&& 31)) >>> ((7 : Int32) &&& 31)))])) _
  obtain ⟨y16, hy16⟩ : ∃ z, z = ((i4 <<< ((7 : Int32) &&& 31)) >>> ((7 : Int32) &&& 31)) := ⟨_, rfl⟩
  rw [← hy16]
  show own_Goes p e below (T14.setTop (mkF m 29 #[iv i0, iv i1, iv i2, iv i3, iv i4, iv i5, iv y4, iv y7, iv y10, iv y13, .unset, .unset, .unset, .unset, .unset, .unset, .unset, .unset] [(.int y16)])) _
  refine own_via (fun t k => XS.istore X14.here hx rfl (hb hby at_29) rfl (l' := #[iv i0, iv i1, iv i2, iv i3, iv i4, iv i5, iv y4, iv y7, iv y10, iv y13, iv y16, .unset, .unset, .unset, .unset, .unset, .unset, .unset]) rfl k) ?_
  have smy16 : own_sm y16 := own_small hy16
  refine own_via (fun t k => XS.iload X14.here hx rfl (hb hby at_31) rfl k) ?_
  obtain ⟨_, T17, _, X17, hQ17, st17⟩ := own_cs X14 hx hZ hown (wd hw 0 rfl) (wd hw 1 rfl) (wd hw 3 rfl) (wd hw 2 rfl) (by decide) (rm1 l Z a0 hw [] i5 h0 n0 O0 ) hh15 (g := (mkF m 33 #[iv i0, iv i1, iv i2, iv i3, iv i4, iv i5, iv y4, iv y7, iv y10, iv y13, iv y16, .unset, .unset, .unset, .unset, .unset, .unset, .unset] [(.int i5)])) rfl (by rw [hml]; rfl) (rest := []) (W := 0) (lenOf pd_1 rfl) rfl (by show 2 * 0 + _ ≤ _; exact Nat.le_of_eq rfl) (hb hby at_33) (by decide) (by decide) (by decide) (by decide)
  obtain ⟨rfl, Nq17, hh18⟩ := hQ17
  have N17 := Fr.app N14 Nq17
  refine own_via (fun t k => st17 t k) ?_
  show own_Goes p e below (T17.setTop (mkF m 36 #[iv i0, iv i1, iv i2, iv i3, iv i4, iv i5, iv y4, iv y7, iv y10, iv y13, iv y16, .unset, .unset, .unset, .unset, .unset, .unset, .unset] [(.int ((i5 <<< ((7 : Int32) &&& 31)) >>> ((7 : Int32) &&& 31)))])) _
  obtain ⟨y19, hy19⟩ : ∃ z, z = ((i5 <<< ((7 : Int32) &&& 31)) >>> ((7 : Int32) &&& 31)) := ⟨_, rfl⟩
  rw [← hy19]
  show own_Goes p e below (T17.setTop (mkF m 36 #[iv i0, iv i1, iv i2, iv i3, iv i4, iv i5, iv y4, iv y7, iv y10, iv y13, iv y16, .unset, .unset, .unset, .unset, .unset, .unset, .unset] [(.int y19)])) _
  refine own_via (fun t k => XS.istore X17.here hx rfl (hb hby at_36) rfl (l' := #[iv i0, iv i1, iv i2, iv i3, iv i4, iv i5, iv y4, iv y7, iv y10, iv y13, iv y16, iv y19, .unset, .unset, .unset, .unset, .unset, .unset]) rfl k) ?_
  have smy19 : own_sm y19 := own_small hy19
  obtain ⟨T20, h20, X20, e20, E20, A20, D20, -, st20⟩ := newO X17 hx hZ hown (wd hw 4 rfl) (wd hw 5 rfl) (wd hw 6 rfl) hh18 (g := (mkF m 38 #[iv i0, iv i1, iv i2, iv i3, iv i4, iv i5, iv y4, iv y7, iv y10, iv y13, iv y16, iv y19, .unset, .unset, .unset, .unset, .unset, .unset] [])) rfl (hb hby at_38) (by decide) (by decide)
  obtain ⟨b21, q20⟩ : ∃ z, z = h0.size := ⟨_, rfl⟩
  rw [← q20] at A20 D20 st20
  refine own_via (fun t k => st20 t k) ?_
  have g22 : n0 ≤ b21 := Nat.le_trans (own_old O0) (Nat.le_of_eq q20.symm)
  have B23 : h0.size ≤ b21 := Nat.le_trans (Nat.le_refl _) (Nat.le_of_eq q20.symm)
  have F24 : Fld Z h20 b21 zs1 "mX" "D" (.double (0 : UInt64)) := D20 (Or.inr (wd hw 14 rfl)) (ty := .double) (by decide)
  have F25 : Fld Z h20 b21 zs1 "mY" "D" (.double (0 : UInt64)) := D20 (Or.inr (wd hw 16 rfl)) (ty := .double) (by decide)
  have F26 : Fld Z h20 b21 zs1 "mZ" "D" (.double (0 : UInt64)) := D20 (Or.inr (wd hw 18 rfl)) (ty := .double) (by decide)
  show own_Goes p e below (T20.setTop (mkF m 41 #[iv i0, iv i1, iv i2, iv i3, iv i4, iv i5, iv y4, iv y7, iv y10, iv y13, iv y16, iv y19, .unset, .unset, .unset, .unset, .unset, .unset] [(.ref b21)])) _
  refine own_via (fun t k => XS.dup X20.here hx rfl (hb hby at_41) rfl rfl (XS.iload X20.here hx rfl (hb hby at_42) rfl (XS.i2dS X20.here hx rfl (hb hby at_44) rfl rfl (XS.iload X20.here hx rfl (hb hby at_45) rfl (XS.i2dS X20.here hx rfl (hb hby at_47) rfl rfl (XS.iload X20.here hx rfl (hb hby at_48) rfl (XS.i2dS X20.here hx rfl (hb hby at_50) rfl rfl k))))))) ?_
  show own_Goes p e below (T20.setTop (mkF m 51 #[iv i0, iv i1, iv i2, iv i3, iv i4, iv i5, iv y4, iv y7, iv y10, iv y13, iv y16, iv y19, .unset, .unset, .unset, .unset, .unset, .unset] [(.double (FP.i2d y10)), (.double (FP.i2d y7)), (.double (FP.i2d y4)), (.ref b21), (.ref b21)])) _
  have O74 : Old Z n0 h20 := (O0.ext E20)
  obtain ⟨_, T27, _, X27, hQ27, st27⟩ := own_ci X20 hx hZ hown (wd hw 7 rfl) (wd hw 8 rfl) (wd hw 9 rfl) (wd hw 6 rfl) rfl (by decide) (rm2 l Z a0 hw [] b21 (FP.i2d y4) (FP.i2d y7) (FP.i2d y10) (0 : UInt64) h20 n0 O74 F24 A20 g22 F25 F26) e20 (g := (mkF m 51 #[iv i0, iv i1, iv i2, iv i3, iv i4, iv i5, iv y4, iv y7, iv y10, iv y13, iv y16, iv y19, .unset, .unset, .unset, .unset, .unset, .unset] [(.double (FP.i2d y10)), (.double (FP.i2d y7)), (.double (FP.i2d y4)), (.ref b21), (.ref b21)])) rfl (by rw [hml]; rfl) (rest := [(.ref b21)]) (W := 1) (lenOf pd_2 rfl) rfl (by show 2 * 0 + _ ≤ _; exact Nat.le_of_eq rfl) (hb hby at_51) (by decide) (by decide) (by decide) (by decide)
  obtain ⟨h27, e27⟩ : ∃ z, T27.heap = z := ⟨_, rfl⟩
  rw [e27] at hQ27
  obtain ⟨rfl, Nq27, K27, ex75, fx76, fx77, fx78⟩ := hQ27
  have N27 := Fr.app N17 Nq27
  refine own_via (fun t k => st27 t (XS.astore X27.here hx rfl (hb hby at_54) rfl rfl (l' := #[iv i0, iv i1, iv i2, iv i3, iv i4, iv i5, iv y4, iv y7, iv y10, iv y13, iv y16, iv y19, rv b21, .unset, .unset, .unset, .unset, .unset]) rfl k)) ?_
  obtain ⟨T79, h79, X79, e79, E79, A79, D79, -, st79⟩ := newO X27 hx hZ hown (wd hw 4 rfl) (wd hw 5 rfl) (wd hw 6 rfl) e27 (g := (mkF m 56 #[iv i0, iv i1, iv i2, iv i3, iv i4, iv i5, iv y4, iv y7, iv y10, iv y13, iv y16, iv y19, rv b21, .unset, .unset, .unset, .unset, .unset] [])) rfl (hb hby at_56) (by decide) (by decide)
  obtain ⟨b80, q79⟩ : ∃ z, z = h27.size := ⟨_, rfl⟩
  rw [← q79] at A79 D79 st79
  refine own_via (fun t k => st79 t k) ?_
  have N81 : b21 ≠ b80 := Nat.ne_of_lt (Nat.lt_of_lt_of_le ex75.lt (Nat.le_of_eq q79.symm))
  have O83 : Old Z n0 h27 := (O74.keep K27 (allS g22 all0))
  have g82 : n0 ≤ b80 := Nat.le_trans (own_old O83) (Nat.le_of_eq q79.symm)
  have Z85 : h0.size ≤ h27.size := (Nat.le_trans (Nat.le_trans (Nat.le_refl _) E20.1) K27.1)
  have B84 : h0.size ≤ b80 := Nat.le_trans Z85 (Nat.le_of_eq q79.symm)
  have F86 : Fld Z h79 b80 zs1 "mX" "D" (.double (0 : UInt64)) := D79 (Or.inr (wd hw 14 rfl)) (ty := .double) (by decide)
  have F87 : Fld Z h79 b80 zs1 "mY" "D" (.double (0 : UInt64)) := D79 (Or.inr (wd hw 16 rfl)) (ty := .double) (by decide)
  have F88 : Fld Z h79 b80 zs1 "mZ" "D" (.double (0 : UInt64)) := D79 (Or.inr (wd hw 18 rfl)) (ty := .double) (by decide)
  show own_Goes p e below (T79.setTop (mkF m 59 #[iv i0, iv i1, iv i2, iv i3, iv i4, iv i5, iv y4, iv y7, iv y10, iv y13, iv y16, iv y19, rv b21, .unset, .unset, .unset, .unset, .unset] [(.ref b80)])) _
  refine own_via (fun t k => XS.dup X79.here hx rfl (hb hby at_59) rfl rfl (XS.iload X79.here hx rfl (hb hby at_60) rfl (XS.i2dS X79.here hx rfl (hb hby at_62) rfl rfl (XS.iload X79.here hx rfl (hb hby at_63) rfl (XS.i2dS X79.here hx rfl (hb hby at_65) rfl rfl (XS.iload X79.here hx rfl (hb hby at_66) rfl (XS.i2dS X79.here hx rfl (hb hby at_68) rfl rfl k))))))) ?_
  show own_Goes p e below (T79.setTop (mkF m 69 #[iv i0, iv i1, iv i2, iv i3, iv i4, iv i5, iv y4, iv y7, iv y10, iv y13, iv y16, iv y19, rv b21, .unset, .unset, .unset, .unset, .unset] [(.double (FP.i2d y19)), (.double (FP.i2d y16)), (.double (FP.i2d y13)), (.ref b80), (.ref b80)])) _
  have O90 : Old Z n0 h79 := (O83.ext E79)
  obtain ⟨_, T89, _, X89, hQ89, st89⟩ := own_ci X79 hx hZ hown (wd hw 7 rfl) (wd hw 8 rfl) (wd hw 9 rfl) (wd hw 6 rfl) rfl (by decide) (rm2 l Z a0 hw [] b80 (FP.i2d y13) (FP.i2d y16) (FP.i2d y19) (0 : UInt64) h79 n0 O90 F86 A79 g82 F87 F88) e79 (g := (mkF m 69 #[iv i0, iv i1, iv i2, iv i3, iv i4, iv i5, iv y4, iv y7, iv y10, iv y13, iv y16, iv y19, rv b21, .unset, .unset, .unset, .unset, .unset] [(.double (FP.i2d y19)), (.double (FP.i2d y16)), (.double (FP.i2d y13)), (.ref b80), (.ref b80)])) rfl (by rw [hml]; rfl) (rest := [(.ref b80)]) (W := 1) (lenOf pd_2 rfl) rfl (by show 2 * 0 + _ ≤ _; exact Nat.le_of_eq rfl) (hb hby at_69) (by decide) (by decide) (by decide) (by decide)
  obtain ⟨h89, e89⟩ : ∃ z, T89.heap = z := ⟨_, rfl⟩
  rw [e89] at hQ89
  obtain ⟨rfl, Nq89, K89, ex91, fx92, fx93, fx94⟩ := hQ89
  have N89 := Fr.app N27 Nq89
  refine own_via (fun t k => st89 t (XS.astore X89.here hx rfl (hb hby at_72) rfl rfl (l' := #[iv i0, iv i1, iv i2, iv i3, iv i4, iv i5, iv y4, iv y7, iv y10, iv y13, iv y16, iv y19, rv b21, rv b80, .unset, .unset, .unset, .unset]) rfl (XS.iload X89.here hx rfl (hb hby at_74) rfl (XS.i2l X89.here hx rfl (hb hby at_76) rfl (XS.iload X89.here hx rfl (hb hby at_77) rfl (XS.i2l X89.here hx rfl (hb hby at_79) rfl (XS.lmul X89.here hx rfl (hb hby at_80) rfl (XS.iload X89.here hx rfl (hb hby at_81) rfl (XS.i2l X89.here hx rfl (hb hby at_83) rfl (XS.iload X89.here hx rfl (hb hby at_84) rfl (XS.i2l X89.here hx rfl (hb hby at_86) rfl (XS.lmul X89.here hx rfl (hb hby at_87) rfl k)))))))))))) ?_
  show own_Goes p e below (T89.setTop (mkF m 88 #[iv i0, iv i1, iv i2, iv i3, iv i4, iv i5, iv y4, iv y7, iv y10, iv y13, iv y16, iv y19, rv b21, rv b80, .unset, .unset, .unset, .unset] [(.long ((y7.toInt64) * (y16.toInt64))), (.long ((y4.toInt64) * (y13.toInt64)))])) _
  refine own_via (fun t k => XS.ladd X89.here hx rfl (hb hby at_88) rfl (XS.iload X89.here hx rfl (hb hby at_89) rfl (XS.i2l X89.here hx rfl (hb hby at_91) rfl (XS.iload X89.here hx rfl (hb hby at_92) rfl (XS.i2l X89.here hx rfl (hb hby at_94) rfl (XS.lmul X89.here hx rfl (hb hby at_95) rfl (XS.ladd X89.here hx rfl (hb hby at_96) rfl (XS.lstore X89.here hx rfl (hb hby at_97) rfl (l' := #[iv i0, iv i1, iv i2, iv i3, iv i4, iv i5, iv y4, iv y7, iv y10, iv y13, iv y16, iv y19, rv b21, rv b80, .val (.long ((((y4.toInt64) * (y13.toInt64)) + ((y7.toInt64) * (y16.toInt64))) + ((y10.toInt64) * (y19.toInt64)))), .second, .unset, .unset]) rfl (XS.aload X89.here hx rfl (hb hby at_99) rfl rfl (XS.aload X89.here hx rfl (hb hby at_101) rfl rfl k)))))))))) ?_
  show own_Goes p e below (T89.setTop (mkF m 103 #[iv i0, iv i1, iv i2, iv i3, iv i4, iv i5, iv y4, iv y7, iv y10, iv y13, iv y16, iv y19, rv b21, rv b80, .val (.long ((((y4.toInt64) * (y13.toInt64)) + ((y7.toInt64) * (y16.toInt64))) + ((y10.toInt64) * (y19.toInt64)))), .second, .unset, .unset] [(.ref b80), (.ref b21)])) _
  have F140 : Fld Z h89 b21 zs1 "mX" "D" (.double (FP.i2d y4)) := ((fx76.ext E79).keep K89 (ninS N81 nin0))
  have F141 : Fld Z h89 b21 zs1 "mY" "D" (.double (FP.i2d y7)) := ((fx77.ext E79).keep K89 (ninS N81 nin0))
  have F142 : Fld Z h89 b21 zs1 "mZ" "D" (.double (FP.i2d y10)) := ((fx78.ext E79).keep K89 (ninS N81 nin0))
  have O143 : Old Z n0 h89 := (O90.keep K89 (allS g82 all0))
  have E144 : Exa Z h89 b21 zs1 := ((ex75.ext E79).keep K89)
  obtain ⟨_, T95, _, X95, hQ95, st95⟩ := own_cv X89 hx hZ hown (wd hw 19 rfl) (wd hw 20 rfl) (wd hw 22 rfl) (wd hw 21 rfl) (wd hw 23 rfl) (wd hw 6 rfl) (by decide) (rm3 l Z a0 hw [] b21 b80 (FP.i2d y4) (FP.i2d y13) (FP.i2d y7) (FP.i2d y16) (FP.i2d y10) (FP.i2d y19) h89 n0 O143 F140 fx92 (own_S_i smy4) (own_S_i smy13) F141 fx93 (own_S_i smy7) (own_S_i smy16) F142 fx94 (own_S_i smy10) (own_S_i smy19)) e89 E144 (g := (mkF m 103 #[iv i0, iv i1, iv i2, iv i3, iv i4, iv i5, iv y4, iv y7, iv y10, iv y13, iv y16, iv y19, rv b21, rv b80, .val (.long ((((y4.toInt64) * (y13.toInt64)) + ((y7.toInt64) * (y16.toInt64))) + ((y10.toInt64) * (y19.toInt64)))), .second, .unset, .unset] [(.ref b80), (.ref b21)])) rfl (by rw [hml]; rfl) (rest := []) (W := 0) (lenOf pd_3 rfl) rfl (by show 2 * 0 + _ ≤ _; exact Nat.le_of_eq rfl) (hb hby at_103) (by decide) (by decide) (by decide) (by decide)
  obtain ⟨rfl, Nq95, hh145⟩ := hQ95
  have N95 := Fr.app N89 Nq95
  refine own_via (fun t k => st95 t (XS.dstore X95.here hx rfl (hb hby at_106) rfl (l' := #[iv i0, iv i1, iv i2, iv i3, iv i4, iv i5, iv y4, iv y7, iv y10, iv y13, iv y16, iv y19, rv b21, rv b80, .val (.long ((((y4.toInt64) * (y13.toInt64)) + ((y7.toInt64) * (y16.toInt64))) + ((y10.toInt64) * (y19.toInt64)))), .second, .val (.double (FP.dadd (FP.dadd (FP.dmul (FP.i2d y4) (FP.i2d y13)) (FP.dmul (FP.i2d y7) (FP.i2d y16))) (FP.dmul (FP.i2d y10) (FP.i2d y19)))), .second]) rfl (XS.dload X95.here hx rfl (hb hby at_108) rfl (XS.lload X95.here hx rfl (hb hby at_110) rfl (XS.l2dS X95.here hx rfl (hb hby at_112) rfl rfl (XS.dcmpS X95.here hx rfl (hb hby at_113) rfl rfl (XS.ifNo X95.here hx rfl (hb hby at_114) rfl ((if0 _ _).trans (teq (own_dot smy4 smy7 smy10 smy13 smy16 smy19)).2) (XS.iconst X95.here hx rfl (hb hby at_117) (XS.goto X95.here hx rfl (pc0 := 118) (pc' := 122) rfl (hb hby at_118) (by decide) (by decide) k))))))))) ?_
  show own_Goes p e below (T95.setTop (mkF m 122 #[iv i0, iv i1, iv i2, iv i3, iv i4, iv i5, iv y4, iv y7, iv y10, iv y13, iv y16, iv y19, rv b21, rv b80, .val (.long ((((y4.toInt64) * (y13.toInt64)) + ((y7.toInt64) * (y16.toInt64))) + ((y10.toInt64) * (y19.toInt64)))), .second, .val (.double (FP.dadd (FP.dadd (FP.dmul (FP.i2d y4) (FP.i2d y13)) (FP.dmul (FP.i2d y7) (FP.i2d y16))) (FP.dmul (FP.i2d y10) (FP.i2d y19)))), .second] [(.int (1 : Int32))])) _
  obtain ⟨fs, hr, hrun, hended, hW, hsame⟩ := X95.leave (v := some (.int (1 : Int32))) (fun h => by rw [Bd.returns] at h; cases h)
  refine own_end (t := T95.setFrames fs) ?_ ⟨_, hrun, hended, _, _, rfl, ?_, ⟨_, rfl⟩, hW, hsame.mono (by decide) (by decide)⟩
  · exact retN X95 hx (t := .boolean) Bd.returns (by simp) (hb hby at_122) hr
  · exact ⟨rfl, N95⟩
set_option maxRecDepth 65536 in
set_option maxHeartbeats 40000000 in
theorem comes_1 {Post : Tables → Env → Array Value → State → Outcome → State → Prop} (hpost : ∀ tb e args s v u, (limb_1_1.after args s (.returned v) u = true ∧ limb_1_2.after args s (.returned v) u = true ∧ True) → FrameEnd s (.returned v) u (Jvm.fieldLocs frame_1_writes args s ++ Jvm.arrayLocs frame_1_arrays args s ++ Jvm.staticLocs frame_1_statics s) 16 128 → Post tb e args s (.returned v) u) :
    ArmFor flags0 classFile x code maxLocals ret World_1 tables_1 room_1 Calls_1 rest_1 Pre_1 Post := by
  intro l hfl _ _ p e ha hc hk s m args below hf hA hF happ hP
  obtain ⟨hcalls, hrest, hpre⟩ := hP
  obtain ⟨-, -, -, hnamed, -, -, -, hat⟩ := (Spec.applies_iff hf).mp happ
  obtain ⟨hg, hn⟩ := and_e (Cond.before_iff.mp (show (Jvm.Cond.and given_1 narrow_1).before args s = true from hpre))
  obtain ⟨g146, g147⟩ := and_e hg
  obtain ⟨g148, g149⟩ := and_e g147
  obtain ⟨g150, g151⟩ := and_e g149
  obtain ⟨g152, g153⟩ := and_e g151
  obtain ⟨g154, g155⟩ := and_e g153
  obtain ⟨g156, g157⟩ := and_e g155
  obtain ⟨w0, w1, w2, w3, w4, w5, rfl⟩ : ∃ w0 w1 w2 w3 w4 w5 : Value, args = #[w0, w1, w2, w3, w4, w5] := by
    have hs : args.size = 6 := by simpa [Cond.value, given_1] using g146
    obtain ⟨L⟩ := args
    match L, hs with
    | [w0, w1, w2, w3, w4, w5], _ => exact ⟨w0, w1, w2, w3, w4, w5, rfl⟩
  have hw := fun d (hd : d ∈ tables_1) => atoms_spec (ws := Jvm.Cond.code x code maxLocals ret :: tables_1) hat d (List.mem_cons_of_mem _ hd)
  have hfit : Fit s := fun {y c} hc i hi => by
    obtain ⟨ha, rfl⟩ := Array.getElem?_eq_some_iff.mp hc
    have q := List.all_eq_true.mp ((Array.all_eq_true_iff_forall_mem.mp hF) _ (Array.getElem_mem ha)) i (List.mem_range.mpr hi)
    simpa [Array.getElem?_eq_getElem hi] using q
  obtain ⟨i0, ei0⟩ := is_v g148
  obtain rfl : w0 = (.int i0) := Option.some.inj ei0
  obtain ⟨i1, ei1⟩ := is_v g150
  obtain rfl : w1 = (.int i1) := Option.some.inj ei1
  obtain ⟨i2, ei2⟩ := is_v g152
  obtain rfl : w2 = (.int i2) := Option.some.inj ei2
  obtain ⟨i3, ei3⟩ := is_v g154
  obtain rfl : w3 = (.int i3) := Option.some.inj ei3
  obtain ⟨i4, ei4⟩ := is_v g156
  obtain rfl : w4 = (.int i4) := Option.some.inj ei4
  obtain ⟨i5, ei5⟩ := is_v g157
  obtain rfl : w5 = (.int i5) := Option.some.inj ei5
  obtain ⟨n, o, h1, h2, h3, _, L, rfl, ⟨rfl, N⟩, hq⟩ := rm0 l s _ hw tables_1 i0 i1 i2 i3 i4 i5 s.heap s.heap.size (Old.start s)  p e ha hc hk s m _ below hf ((Spec.applies_iff_loose hf).mp happ).1 ⟨rfl, State.Warmed39.refl s, rfl⟩ trivial
  refine ⟨n, _, h1, h2, h3, hpost _ _ _ _ _ _ ⟨Cond.after_iff.mpr rfl, Cond.after_iff.mpr (eq_i res_at (Term.int_eval (1)) rfl), trivial⟩ ⟨hq.1, hq.2.1, (hq.2.2.sift fun y hy => Or.inr (N y hy)).mono (by decide) (by decide)⟩⟩
theorem main_1_1 : Claimed_1_1 := comes_1 fun _ _ _ _ _ _ h hF => ⟨h.1, hF⟩
theorem main_1_2 : Claimed_1_2 := comes_1 fun _ _ _ _ _ _ h hF => ⟨h.2.1, hF⟩
end Jvm.Pilot.@@N@@
namespace Jvm.Pilot.@@N@@
open Jvm Jvm.ClassFile Sem Op Lib Jvm.Free Jvm.Stand Jvm.Pilot.@@N@@.Jvm.D
/-! MADE BY PROGRAM (witnessworld.py) out of the Statement's table words and the real class files: 9 classes; the members and pool entries that the words name. The judged class is class 1, her method 2. -/
namespace start1
open Jvm.ClassFile
def u (s : String) : CpInfo := .utf8 (stringToUtf16 s)
/-- a pool by its gaps: so many unusable entries, then the entry; so many at the end -/
def gap : Nat → List CpInfo → List CpInfo
  | 0, r => r
  | n + 1, r => .unusable :: gap n r
def poolList (es : List (Nat × CpInfo)) (last : Nat) : List CpInfo := es.foldr (fun e r => gap e.1 (e.2 :: r)) (gap last [])
def pool (es : List (Nat × CpInfo)) (last : Nat) : Array CpInfo := ⟨poolList es last⟩
def fileOf (pool : Array CpInfo) (this : Nat) (attrs : Array Attribute := #[]) (ms : Array MethodInfo := #[]) (fl : Nat := 33) (sup : Nat := 0) (ifs : Array Nat := #[]) (fds : Array FieldInfo := #[]) : ClassFile where
  minorVersion := 0
  majorVersion := 65
  constantPool := pool
  accessFlags := fl
  thisClass := this
  superClass := sup
  interfaces := ifs
  fields := fds
  methods := ms
  attributes := attrs
def plain (name : String) (sup : Option ClassId) : Class where
  name := name
  kind := .ordinary
  loader := none
  accessFlags := 33
  super := sup
  interfaces := #[]
  cf := none
  fields := #[]
  methods := #[]
  instanceTypes := #[]
  staticTypes := #[]
  resolved := #[]
  callSites := []
  init := .initialized
  statics := none
  mirror := none

def pool0 : Array CpInfo := pool [(5, u "<init>"), (0, u "()V"), (1, .class_ 10), (1, u "java/lang/Object")] 113

def k0c0 : Code := { maxStack := 0, maxLocals := 1, code := object_method_1_code, exceptionTable := #[], attributes := #[] }
def k0m0 : Method := { name := "<init>", desc := "()V", sig := { parameters := [], returnType := none }, accessFlags := 1, code := some k0c0 }
/-- java/lang/Object -/
def k0 : Class := { plain "java/lang/Object" none with
  accessFlags := 33
  interfaces := #[]
  cf := some (fileOf pool0 8 #[] #[{ accessFlags := 1, nameIndex := 5, descriptorIndex := 6, attributes := #[] }] 33 0 #[] #[])
  fields := #[]
  methods := #[k0m0]
  instanceTypes := #[]
  staticTypes := #[]
  resolved := Array.replicate 124 none
  statics := none }

def pool1 : Array CpInfo := pool [(2, .class_ 4), (1, u "java/lang/Object"), (0, u "<init>"), (0, u "()V"), (0, .methodref 8 9), (0, .class_ 10), (0, .nameAndType 11 12), (0, u "com/example/starcourse/starcourse/base/Vector3DotPinLaw"), (0, u "small"), (0, u "(I)I"), (0, .class_ 14), (0, u "com/example/starcourse/starcourse/base/Vector3"), (0, .methodref 13 16), (0, .nameAndType 5 17), (0, u "(DDD)V"), (0, .methodref 13 19), (0, .nameAndType 20 21), (0, u "dot"), (0, u "(Lcom/example/starcourse/starcourse/base/Vector3;)D"), (2, u "law"), (0, u "(IIIIII)Z")] 3

def k1m0 : Method := { name := "<init>", desc := "()V", sig := { parameters := [], returnType := none }, accessFlags := 2, code := none }
def k1c1 : Code := { maxStack := 2, maxLocals := 1, code := method_2_code, exceptionTable := #[], attributes := #[] }
def k1m1 : Method := { name := "small", desc := "(I)I", sig := { parameters := [.int], returnType := some .int }, accessFlags := 10, code := some k1c1 }
def k1c2 : Code := { maxStack := 8, maxLocals := 18, code := code, exceptionTable := #[], attributes := #[] }
def k1m2 : Method := { name := "law", desc := "(IIIIII)Z", sig := { parameters := [.int, .int, .int, .int, .int, .int], returnType := some .boolean }, accessFlags := 9, code := some k1c2 }
/-- com/example/starcourse/starcourse/base/Vector3DotPinLaw -/
def k1 : Class := { plain "com/example/starcourse/starcourse/base/Vector3DotPinLaw" (some 0) with
  accessFlags := 49
  interfaces := #[]
  cf := some (fileOf pool1 8 #[] #[{ accessFlags := 2, nameIndex := 5, descriptorIndex := 6, attributes := #[] }, { accessFlags := 10, nameIndex := 11, descriptorIndex := 12, attributes := #[] }, { accessFlags := 9, nameIndex := 24, descriptorIndex := 25, attributes := #[] }] 49 2 #[] #[])
  fields := #[]
  methods := #[k1m0, k1m1, k1m2]
  instanceTypes := #[]
  staticTypes := #[]
  resolved := Array.replicate 29 none
  statics := none }

def pool2 : Array CpInfo := pool [(1, .methodref 2 3), (0, .class_ 4), (0, .nameAndType 5 6), (0, u "java/lang/Object"), (0, u "<init>"), (0, u "()V"), (0, .fieldref 8 9), (0, .class_ 10), (0, .nameAndType 11 12), (0, u "com/example/starcourse/starcourse/base/Vector3"), (0, u "mX"), (0, u "D"), (0, .fieldref 8 14), (0, .nameAndType 15 12), (0, u "mY"), (0, .fieldref 8 17), (0, .nameAndType 18 12), (0, u "mZ"), (8, u "(DDD)V"), (2, u "dot"), (0, u "(Lcom/example/starcourse/starcourse/base/Vector3;)D")] 90

def k2c0 : Code := { maxStack := 3, maxLocals := 7, code := prog_4_method_1_code, exceptionTable := #[], attributes := #[] }
def k2m0 : Method := { name := "<init>", desc := "(DDD)V", sig := { parameters := [.double, .double, .double], returnType := none }, accessFlags := 1, code := some k2c0 }
def k2c1 : Code := { maxStack := 6, maxLocals := 2, code := prog_4_method_9_code, exceptionTable := #[], attributes := #[] }
def k2m1 : Method := { name := "dot", desc := "(Lcom/example/starcourse/starcourse/base/Vector3;)D", sig := { parameters := [(.object "com/example/starcourse/starcourse/base/Vector3")], returnType := some .double }, accessFlags := 1, code := some k2c1 }
/-- com/example/starcourse/starcourse/base/Vector3 -/
def k2 : Class := { plain "com/example/starcourse/starcourse/base/Vector3" (some 0) with
  accessFlags := 49
  interfaces := #[]
  cf := some (fileOf pool2 8 #[] #[{ accessFlags := 1, nameIndex := 5, descriptorIndex := 27, attributes := #[] }, { accessFlags := 1, nameIndex := 30, descriptorIndex := 31, attributes := #[] }] 49 2 #[] #[{ accessFlags := 18, nameIndex := 11, descriptorIndex := 12, attributes := #[] }, { accessFlags := 18, nameIndex := 15, descriptorIndex := 12, attributes := #[] }, { accessFlags := 18, nameIndex := 18, descriptorIndex := 12, attributes := #[] }])
  fields := #[{ name := "mX", type := .double, accessFlags := 18, slot := 0, constantValue := 0 }, { name := "mY", type := .double, accessFlags := 18, slot := 1, constantValue := 0 }, { name := "mZ", type := .double, accessFlags := 18, slot := 2, constantValue := 0 }]
  methods := #[k2m0, k2m1]
  instanceTypes := #[.double, .double, .double]
  staticTypes := #[]
  resolved := Array.replicate 122 none
  statics := none }

def pool3 : Array CpInfo := pool [(1, u "java/lang/Cloneable"), (0, .class_ 1), (0, u "java/lang/Object"), (0, .class_ 3)] 3

/-- java/lang/Cloneable -/
def k3 : Class := { plain "java/lang/Cloneable" (some 0) with
  accessFlags := 1537
  interfaces := #[]
  cf := some (fileOf pool3 2 #[] #[] 1537 4 #[] #[])
  fields := #[]
  methods := #[]
  instanceTypes := #[]
  staticTypes := #[]
  resolved := Array.replicate 8 none
  statics := none }

def pool4 : Array CpInfo := pool [(1, u "java/io/Serializable"), (0, .class_ 1), (0, u "java/lang/Object"), (0, .class_ 3)] 3

/-- java/io/Serializable -/
def k4 : Class := { plain "java/io/Serializable" (some 0) with
  accessFlags := 1537
  interfaces := #[]
  cf := some (fileOf pool4 2 #[] #[] 1537 4 #[] #[])
  fields := #[]
  methods := #[]
  instanceTypes := #[]
  staticTypes := #[]
  resolved := Array.replicate 8 none
  statics := none }

/-- the primitive byte -/
def k5 : Class := { plain "byte" none with kind := .primitive 'B', accessFlags := 0x411 }
/-- [B -/
def k6 : Class := { plain "[B" (some 0) with kind := .array 5 .byte, interfaces := #[3, 4], accessFlags := 1041 }

/-- the primitive int -/
def k7 : Class := { plain "int" none with kind := .primitive 'I', accessFlags := 0x411 }
/-- [I -/
def k8 : Class := { plain "[I" (some 0) with kind := .array 7 .int, interfaces := #[3, 4], accessFlags := 1041 }

def heap : Heap := #[]
def classes : Array Class := #[k0, k1, k2, k3, k4, k5, k6, k7, k8]
def interned : List (Array UInt16 × Addr) := []
def slotsUsed : Nat := 0
def theMethod : MethodId := ⟨1, 2⟩
def args0 : Array Value := #[.int 5, .int 5, .int 5, .int 5, .int 5, .int 5]
def aboutOver (below : List Frame) : State where
  vm := { classes := classes, interned := interned.toArray }
  heap := heap
  slotsUsed := slotsUsed
  threads := #[{ frames := .invoking theMethod args0 :: below }]
def below0 : List Frame := [.native { method := ⟨0, 0⟩, args := #[] }]
def about1 : State := aboutOver below0
def p0 : Program := .bare "" "" ""
def e0 : Env := launch0.env 0 0 0
theorem w_frames : about1.frames = Frame.invoking theMethod args0 :: below0 := rfl
set_option maxRecDepth 65536 in
theorem w_args : argsFit about1.vm theMethod args0 = true := by decide +kernel
set_option maxRecDepth 65536 in
theorem w_heap : heapFits about1 = true := by decide +kernel
set_option maxRecDepth 65536 in
theorem w_runnable : about1.curStatus? = some .runnable := by decide +kernel
set_option maxRecDepth 65536 in
theorem w_alone : about1.alone = true := by decide +kernel
set_option maxRecDepth 65536 in
theorem w_named : about1.methodNamed? x = some theMethod := by decide +kernel
set_option maxRecDepth 65536 in
theorem w_hears : about1.hears theMethod below0 = true := by decide +kernel
set_option maxRecDepth 65536 in
theorem w_ripe : about1.ripe theMethod args0 below0 = true := by decide +kernel
theorem w_running : about1.status = .running := rfl
set_option maxRecDepth 65536 in
theorem w_room : about1.hasRoom e0.platform room_1 = true :=
  launch0.hasRoom_least _ room_1 (by decide +kernel) (by decide +kernel) (by decide +kernel) (by decide +kernel) (by decide +kernel) (by decide +kernel)
theorem allAtoms_all (ts : List Jvm.Cond) (a : Array Jvm.Value) (st : Jvm.State) : (allAtoms ts).before a st = ts.all (fun c => c.before a st) := by
  induction ts with
  | nil => rfl
  | cons c t ih =>
    show (Jvm.Cond.and c (allAtoms t)).before a st = _
    rw [Jvm.Cond.before_and, ih, List.all_cons]
def words1 : List Jvm.Cond := Jvm.Cond.code x code maxLocals ret :: tables_1
/-- a 'code' word, met by the world's own term for the bytes: nothing is compared byte by byte -/
theorem code_word {y : MethodName} {bytes : ByteArray} {mx : Nat} {rt : Option FieldType} {a : Array Value} {s : State} {m : MethodId} {meth : Method} {c : Code} (h1 : s.methodNamed? y = some m) (h2 : s.vm.method? m = some meth) (h3 : meth.code = some c) (h4 : c.code = bytes)
    (h5 : (c.maxLocals == mx && c.exceptionTable.isEmpty && decide (c.maxStack ≤ mostOperands) && decide (meth.sig.returnType = rt) && !meth.locks && decide (parseMethodDescriptor y.desc = some meth.sig)) = true) : (Jvm.Cond.code y bytes mx rt).before a s = true := by
  simp only [Bool.and_eq_true, beq_iff_eq, Bool.not_eq_true', decide_eq_true_eq] at h5
  obtain ⟨⟨⟨⟨⟨g1, g2⟩, g3⟩, g4⟩, g5⟩, g6⟩ := h5
  simp [Cond.before, Cond.holds, Cond.value, h1, h2, h3, h4, g1, g2, g3, g4, g5, g6]
def isCode : Jvm.Cond → Bool
  | .code _ _ _ _ => true
  | _ => false
theorem all_split {L : List Jvm.Cond} {P : Jvm.Cond → Bool} (h1 : L.all (fun c => isCode c || P c) = true) (h2 : ∀ c ∈ L.filter isCode, P c = true) : L.all P = true := by
  refine List.all_eq_true.mpr fun c hc => ?_
  have h := List.all_eq_true.mp h1 c hc
  rcases Bool.eq_false_or_eq_true (isCode c) with hi | hi
  · exact h2 c (List.mem_filter.mpr ⟨hc, hi⟩)
  · simpa [hi] using h
set_option maxRecDepth 65536 in
theorem w_c0 : (Jvm.Cond.code x code maxLocals ret).before args0 about1 = true := code_word (m := ⟨1, 2⟩) (meth := k1m2) (c := k1c2) (by decide +kernel) rfl rfl rfl (by decide +kernel)
set_option maxRecDepth 65536 in
theorem w_c1 : (Jvm.Cond.code ({ cls := "com/example/starcourse/starcourse/base/Vector3DotPinLaw", name := "small", desc := "(I)I" } : Jvm.MethodName) method_2_code (1 : Nat) (Option.some Jvm.ClassFile.FieldType.int)).before args0 about1 = true := code_word (m := ⟨1, 1⟩) (meth := k1m1) (c := k1c1) (by decide +kernel) rfl rfl rfl (by decide +kernel)
set_option maxRecDepth 65536 in
theorem w_c2 : (Jvm.Cond.code ({ cls := "com/example/starcourse/starcourse/base/Vector3", name := "<init>", desc := "(DDD)V" } : Jvm.MethodName) prog_4_method_1_code (7 : Nat) (Option.none : Option Jvm.ClassFile.FieldType)).before args0 about1 = true := code_word (m := ⟨2, 0⟩) (meth := k2m0) (c := k2c0) (by decide +kernel) rfl rfl rfl (by decide +kernel)
set_option maxRecDepth 65536 in
theorem w_c3 : (Jvm.Cond.code ({ cls := "java/lang/Object", name := "<init>", desc := "()V" } : Jvm.MethodName) object_method_1_code (1 : Nat) (Option.none : Option Jvm.ClassFile.FieldType)).before args0 about1 = true := code_word (m := ⟨0, 0⟩) (meth := k0m0) (c := k0c0) (by decide +kernel) rfl rfl rfl (by decide +kernel)
set_option maxRecDepth 65536 in
theorem w_c4 : (Jvm.Cond.code ({ cls := "com/example/starcourse/starcourse/base/Vector3", name := "dot", desc := "(Lcom/example/starcourse/starcourse/base/Vector3;)D" } : Jvm.MethodName) prog_4_method_9_code (2 : Nat) (Option.some Jvm.ClassFile.FieldType.double)).before args0 about1 = true := code_word (m := ⟨2, 1⟩) (meth := k2m1) (c := k2c1) (by decide +kernel) rfl rfl rfl (by decide +kernel)
def codes1 : List Jvm.Cond := [Jvm.Cond.code x code maxLocals ret, Jvm.Cond.code ({ cls := "com/example/starcourse/starcourse/base/Vector3DotPinLaw", name := "small", desc := "(I)I" } : Jvm.MethodName) method_2_code (1 : Nat) (Option.some Jvm.ClassFile.FieldType.int), Jvm.Cond.code ({ cls := "com/example/starcourse/starcourse/base/Vector3", name := "<init>", desc := "(DDD)V" } : Jvm.MethodName) prog_4_method_1_code (7 : Nat) (Option.none : Option Jvm.ClassFile.FieldType), Jvm.Cond.code ({ cls := "java/lang/Object", name := "<init>", desc := "()V" } : Jvm.MethodName) object_method_1_code (1 : Nat) (Option.none : Option Jvm.ClassFile.FieldType), Jvm.Cond.code ({ cls := "com/example/starcourse/starcourse/base/Vector3", name := "dot", desc := "(Lcom/example/starcourse/starcourse/base/Vector3;)D" } : Jvm.MethodName) prog_4_method_9_code (2 : Nat) (Option.some Jvm.ClassFile.FieldType.double)]
set_option maxRecDepth 65536 in
theorem codes_eq : words1.filter isCode = codes1 := rfl
theorem w_codes : ∀ c ∈ words1.filter isCode, c.before args0 about1 = true := by
  rw [codes_eq]
  intro c hc
  simp only [codes1, List.mem_cons, List.not_mem_nil, or_false] at hc
  rcases hc with rfl | rfl | rfl | rfl | rfl
  · exact w_c0
  · exact w_c1
  · exact w_c2
  · exact w_c3
  · exact w_c4
set_option maxRecDepth 65536 in
theorem w_t1 : (words1.take 24).all (fun c => isCode c || c.before args0 about1) = true := by decide +kernel
set_option maxRecDepth 65536 in
theorem w_t2 : (words1.drop 24).all (fun c => isCode c || c.before args0 about1) = true := by decide +kernel
theorem w_tables : (allAtoms (Jvm.Cond.code x code maxLocals ret :: tables_1)).before args0 about1 = true := by
  rw [allAtoms_all]
  show words1.all (fun c => c.before args0 about1) = true
  refine all_split ?_ w_codes
  rw [← List.take_append_drop 24 words1, List.all_append, w_t1, w_t2]
  rfl
set_option maxRecDepth 65536 in
theorem w_case : (Jvm.Cond.and given_1 narrow_1).before args0 about1 = true := by decide +kernel
theorem w_applies : (headSpec (Jvm.Cond.code x code maxLocals ret :: tables_1) room_1).applies x e0.platform about1 = true :=
  (Spec.applies_iff w_frames).mpr ⟨w_running, w_runnable, w_alone, w_named, w_hears, w_ripe, w_room, w_tables⟩
theorem atStart : AtStart classFile x code maxLocals ret World_1 tables_1 room_1 Calls_1 rest_1 Pre_1 launch0 p0 e0 about1 theMethod args0 below0 :=
  ⟨lists_1, trivial, launch0.admits_env _ _ _, launch0.least_env, fairChoices_fair.cas, fairChoices_fair.clock, w_frames, w_args, w_heap, w_applies, trivial, trivial, w_case⟩
end start1
theorem witness_1 : WitnessClaimed_1 := ⟨start1.p0, start1.e0, start1.about1, start1.theMethod, start1.args0, start1.below0, start1.atStart⟩
end Jvm.Pilot.@@N@@
