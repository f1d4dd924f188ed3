import JvmDerived
import JvmDerived.Pilot.@@N@@Statement
import JvmDerived.Pilot.@@N@@Code
set_option linter.unusedVariables false
set_option linter.unusedSimpArgs false
@@BLOCK:NumsL.lean.txt@@
namespace Jvm.RoadKit
open Sem ClassFile Op Lib Jvm.Stand Jvm.Free Jvm.LawKit
section New
variable {p : Program} {l : Launch} {e : Env} {R : Room} {s : State} {m : MethodId} {args : Array Value} {below : List Frame} {meth : Method} {c : Code} {T : State} {locs : List Loc} {cells slots : Nat}
theorem retI (X : Stand p l e R s m args below meth c T locs cells slots) (hx : p.tables.exec = Jvm.exec) {pc : Nat} {Ls : Array Slot} {z : Int32} {rest : List Value} (hret : meth.sig.returnType = some .int) (hd : decode c.code pc = .ok (.ireturn, 1)) {fs : List Frame}
    (hl : ∀ (f : JFrame) (acts : List Action), f.method = m → f.locked = none → f.entered = [] → (doReturn e (T.setTop f) acts (some (.int z))).1 = T.setFrames fs) : Steps p.tables e below (T.setTop (mkF m pc Ls (.int z :: rest))) (T.setFrames fs) := by
  have hm' : T.vm.method? m = some meth := X.method'
  have hn : narrow .int (.int z) = .int z := rfl
  show Steps p.tables e below (T.setTop { method := m, pc := pc, locals := Ls, stack := _ :: rest, locked := none }) _
  jvm_step X.here [X.here.top, hx, hd, hm', hret, hn]
  first | (intro acts; rw [hl _ acts rfl rfl rfl]) | rw [hl _ _ rfl rfl rfl]
  exact Steps.refl _
end New
end Jvm.RoadKit
namespace Jvm.Pilot.@@N@@
open Jvm Jvm.ClassFile Sem Op Lib Jvm.Free Jvm.Stand Jvm.LawKit Jvm.RoadKit Bundle Jvm.Pilot.@@N@@.Jvm.D
/-! own_Goes: from S the run comes to some state of which G holds: such a goal may be split in the middle of a walk -/
def own_Goes (p : Program) (e : Env) (below : List Frame) (S : State) (G : State → Prop) : Prop := ∃ t, Steps p.tables e below S t ∧ G t
theorem own_via {p : Program} {e : Env} {below : List Frame} {S S' : State} {G : State → Prop} (f : ∀ t, Steps p.tables e below S' t → Steps p.tables e below S t) (h : own_Goes p e below S' G) : own_Goes p e below S G := by
  obtain ⟨t, h1, h2⟩ := h
  exact ⟨t, f t h1, h2⟩
theorem own_end {p : Program} {e : Env} {below : List Frame} {S t : State} {G : State → Prop} (h : Steps p.tables e below S t) (g : G t) : own_Goes p e below S G := ⟨t, h, g⟩
theorem own_out {p : Program} {e : Env} {below : List Frame} {S : State} {P : State → Outcome → Prop} (h : own_Goes p e below S (fun t => ∃ o, t.status = .running ∧ Ended t below o ∧ P t o)) : ∃ t o, Steps p.tables e below S t ∧ t.status = .running ∧ Ended t below o ∧ P t o := by
  obtain ⟨t, h1, o, h2, h3, h4⟩ := h
  exact ⟨t, o, h1, h2, h3, h4⟩
theorem wd {a0 : Array Value} {Z : State} (hw : ∀ d ∈ tables_1, d.before a0 Z = true) (i : Nat) {d : Jvm.Cond} (h : tables_1[i]? = some d) : d.before a0 Z = true := hw _ (List.mem_of_getElem? h)
theorem own_old {Z : State} {n0 : Nat} {h : Heap} (O : Old Z n0 h) : n0 ≤ h.size := by rw [← O.1]; exact O.2.1
def own_Q0 (n0 : Nat) (v : Option Value) (L : List Loc) : Prop := v = some (.int (1 : Int32)) ∧ Fr n0 L
def own_G (s : State) (below : List Frame) (n0 : Nat) (t : State) : Prop := ∃ o, t.status = .running ∧ Ended t below o ∧ ∃ v L, o = .returned v ∧ own_Q0 n0 v L ∧ FrameEnd s o t L room_1.cells room_1.slots
def own_Len (Z : State) (h : Heap) (a : Addr) (ty : FieldType) (n : Int32) : Prop := ∃ k vs d, Arv Z h a k ty n vs d
theorem own_len_ext {Z : State} {h h' : Heap} {a : Addr} {ty : FieldType} {n : Int32} (F : own_Len Z h a ty n) (E : Ext h h') : own_Len Z h' a ty n := by
  obtain ⟨k, vs, d, V⟩ := F
  exact ⟨k, vs, d, V.ext E⟩
theorem own_len_other {Z : State} {h h' : Heap} {a b : Addr} {sl : Nat} {v : Value} {ty : FieldType} {n : Int32} (F : own_Len Z h b ty n) (W : Wr h h' a sl v) (q : b ≠ a) : own_Len Z h' b ty n := by
  obtain ⟨k, vs, d, V⟩ := F
  exact ⟨k, vs, d, V.other W q⟩
theorem own_len_keep {Z : State} {h h' : Heap} {a : Addr} {ws : List Addr} {ty : FieldType} {n : Int32} (F : own_Len Z h a ty n) (K : Keep h h' ws) (q : a ∉ ws) : own_Len Z h' a ty n := by
  obtain ⟨k, vs, d, V⟩ := F
  exact ⟨k, vs, d, V.keep K q⟩
theorem own_len_lt {Z : State} {h : Heap} {a : Addr} {ty : FieldType} {n : Int32} (F : own_Len Z h a ty n) : a < h.size := by
  obtain ⟨k, vs, d, V⟩ := F
  exact V.lt
theorem own_c2 (x : Int32) : x.toUInt32.toUInt16.toUInt32.toInt32.toUInt32.toUInt16.toUInt32.toInt32 = x.toUInt32.toUInt16.toUInt32.toInt32 := by rw [UInt32.toUInt32_toInt32, UInt16.toUInt16_toUInt32]
theorem own_b2 (x : Int32) : x.toInt8.toInt32.toInt8.toInt32 = x.toInt8.toInt32 := by rw [Int8.toInt8_toInt32]
section Calls
variable {p : Program} {l : Launch} {e : Env} {R : Room} {s : State} {m : MethodId} {args : Array Value} {below : List Frame} {meth : Method} {c : Code} {T : State} {locs : List Loc} {cells slots : Nat} {Z : State} {a0 : Array Value} {h : Heap} {own C : String} {index : Nat} {y : MethodName} {bytes : ByteArray} {maxL : Nat} {rm : Room} {Q : Option Value → Heap → List Loc → Prop} {a : Addr} {argsL : List Value} {g : JFrame}
/-! a call by its contract, in one step: virtual (the class's own method), a constructor, static -/
theorem own_cv {ret : Option FieldType} (X : Stand p l e R s m args below meth c T locs cells slots) (hx : p.tables.exec = Jvm.exec) (hZ : Z.Warmed39 s.vm) (hown : s.vm.findClass own = some m.cls) (w1 : (Jvm.Cond.methodLink own index y).before a0 Z = true) (w2 : (Jvm.Cond.declares y).before a0 Z = true) (w3 : (Jvm.Cond.selects C y y).before a0 Z = true) (w4 : (Jvm.Cond.instanceMethod y).before a0 Z = true) (wc : (Jvm.Cond.code y bytes maxL ret).before a0 Z = true) (wz : (Jvm.Cond.initialized y.cls).before a0 Z = true) (hy : y.cls ≠ "java/lang/invoke/MethodHandle" ∧ y.cls ≠ "java/lang/invoke/VarHandle")
    (hM : MetFree l y (head1 [Jvm.Cond.code y bytes maxL ret] rm) (fun A U => A = (.ref a :: argsL).toArray ∧ Z.Warmed39 U.vm ∧ U.heap = h) (fun _ _ _ _ _ => True) (fun _ U o U' => ∃ v L, o = .returned v ∧ Q v U'.heap L ∧ FrameEnd U o U' L rm.cells rm.slots)) (eT : T.heap = h) (E : Exa Z h a C) (hg : g.method = m) (hsize : g.locals.size = c.maxLocals) {rest : List Value} {W : Nat}
    (hlen : ∀ sig, parseMethodDescriptor y.desc = some sig → argsL.length = sig.parameters.length) (hstack : g.stack = argsL.reverse ++ .ref a :: rest) (hW : 2 * g.monitorRoom + (rest.map fun v => v.category).sum ≤ W) (hdg : decode c.code g.pc = .ok (.invokevirtual index, 3)) (r1 : rm.frames + 1 ≤ R.frames) (r2 : W + (maxL + 11) + rm.locals ≤ R.locals) (r3 : cells + rm.cells ≤ R.cells) (r4 : slots + rm.slots ≤ R.slots) :
    ∃ (v : Option Value) (T' : State) (L : List Loc), Stand p l e R s m args below meth c T' (locs ++ L) (cells + rm.cells) (slots + rm.slots) ∧ Q v T'.heap L ∧ ∀ t, Steps p.tables e below (T'.setTop { g with pc := g.pc + 3, stack := v.toList ++ rest }) t → Steps p.tables e below (T.setTop g) t := by
  obtain ⟨cq, kq, qa, -, qc⟩ := isOf hZ eT E
  obtain ⟨v, _, ⟨T', L', c', n'⟩, -, X', ⟨Lc, hQ, l1, y1, z1⟩, st⟩ := X.virtualBack hx (y := y) (z := y) hown (mvT hZ w1) (mvT hZ w2) (notFace_of_selects (args := #[]) (mvT hZ w3)) (mvT hZ w3) (mvT hZ w4) hy (backOf (W := W) hM hZ wc wz r1 r2) qa qc (g := g) hg hsize (Steps.refl _) (argsL := argsL) (rest := rest) hlen hstack hW hdg (fun _ _ => ⟨rfl, eT, r3, r4⟩)
  dsimp only [Pt.U, Pt.locs, Pt.cells, Pt.slots] at X' l1 y1 z1 st hQ
  subst l1 y1 z1
  exact ⟨v, T', Lc, X', hQ, fun t k => st.trans k⟩
theorem own_ci (X : Stand p l e R s m args below meth c T locs cells slots) (hx : p.tables.exec = Jvm.exec) (hZ : Z.Warmed39 s.vm) (hown : s.vm.findClass own = some m.cls) (w1 : (Jvm.Cond.methodLink own index y).before a0 Z = true) (w4 : (Jvm.Cond.instanceMethod y).before a0 Z = true) (wc : (Jvm.Cond.code y bytes maxL none).before a0 Z = true) (wz : (Jvm.Cond.initialized y.cls).before a0 Z = true) (hi : y.name = "<init>") (hy : y.cls ≠ "java/lang/invoke/MethodHandle" ∧ y.cls ≠ "java/lang/invoke/VarHandle")
    (hM : MetFree l y (head1 [Jvm.Cond.code y bytes maxL none] rm) (fun A U => A = (.ref a :: argsL).toArray ∧ Z.Warmed39 U.vm ∧ U.heap = h) (fun _ _ _ _ _ => True) (fun _ U o U' => ∃ v L, o = .returned v ∧ Q v U'.heap L ∧ FrameEnd U o U' L rm.cells rm.slots)) (eT : T.heap = h) (hg : g.method = m) (hsize : g.locals.size = c.maxLocals) {rest : List Value} {W : Nat}
    (hlen : ∀ sig, parseMethodDescriptor y.desc = some sig → argsL.length = sig.parameters.length) (hstack : g.stack = argsL.reverse ++ .ref a :: rest) (hW : 2 * g.monitorRoom + (rest.map fun v => v.category).sum ≤ W) (hdg : decode c.code g.pc = .ok (.invokespecial index, 3)) (r1 : rm.frames + 1 ≤ R.frames) (r2 : W + (maxL + 11) + rm.locals ≤ R.locals) (r3 : cells + rm.cells ≤ R.cells) (r4 : slots + rm.slots ≤ R.slots) :
    ∃ (v : Option Value) (T' : State) (L : List Loc), Stand p l e R s m args below meth c T' (locs ++ L) (cells + rm.cells) (slots + rm.slots) ∧ Q v T'.heap L ∧ ∀ t, Steps p.tables e below (T'.setTop { g with pc := g.pc + 3, stack := v.toList ++ rest }) t → Steps p.tables e below (T.setTop g) t := by
  obtain ⟨v, _, ⟨T', L', c', n'⟩, -, X', ⟨Lc, hQ, l1, y1, z1⟩, st⟩ := X.specialBack hx (y := y) hi hown (mvT hZ w1) (mvT hZ w4) (mvT hZ wc) hy (backOf (W := W) hM hZ wc wz r1 r2) (g := g) hg hsize (Steps.refl _) (a := a) (argsL := argsL) (rest := rest) hlen hstack hW hdg (fun _ _ => ⟨rfl, eT, r3, r4⟩)
  dsimp only [Pt.U, Pt.locs, Pt.cells, Pt.slots] at X' l1 y1 z1 st hQ
  subst l1 y1 z1
  exact ⟨v, T', Lc, X', hQ, fun t k => st.trans k⟩
theorem own_cs {ret : Option FieldType} (X : Stand p l e R s m args below meth c T locs cells slots) (hx : p.tables.exec = Jvm.exec) (hZ : Z.Warmed39 s.vm) (hown : s.vm.findClass own = some m.cls) (w1 : (Jvm.Cond.methodLink own index y).before a0 Z = true) (w4 : (Jvm.Cond.static y).before a0 Z = true) (wc : (Jvm.Cond.code y bytes maxL ret).before a0 Z = true) (wz : (Jvm.Cond.initialized y.cls).before a0 Z = true) (hy : y.cls ≠ "java/lang/invoke/MethodHandle" ∧ y.cls ≠ "java/lang/invoke/VarHandle")
    (hM : MetFree l y (head1 [Jvm.Cond.code y bytes maxL ret] rm) (fun A U => A = argsL.toArray ∧ Z.Warmed39 U.vm ∧ U.heap = h) (fun _ _ _ _ _ => True) (fun _ U o U' => ∃ v L, o = .returned v ∧ Q v U'.heap L ∧ FrameEnd U o U' L rm.cells rm.slots)) (eT : T.heap = h) (hg : g.method = m) (hsize : g.locals.size = c.maxLocals) {rest : List Value} {W : Nat}
    (hlen : ∀ sig, parseMethodDescriptor y.desc = some sig → argsL.length = sig.parameters.length) (hstack : g.stack = argsL.reverse ++ rest) (hW : 2 * g.monitorRoom + (rest.map fun v => v.category).sum ≤ W) (hdg : decode c.code g.pc = .ok (.invokestatic index, 3)) (r1 : rm.frames + 1 ≤ R.frames) (r2 : W + (maxL + 11) + rm.locals ≤ R.locals) (r3 : cells + rm.cells ≤ R.cells) (r4 : slots + rm.slots ≤ R.slots) :
    ∃ (v : Option Value) (T' : State) (L : List Loc), Stand p l e R s m args below meth c T' (locs ++ L) (cells + rm.cells) (slots + rm.slots) ∧ Q v T'.heap L ∧ ∀ t, Steps p.tables e below (T'.setTop { g with pc := g.pc + 3, stack := v.toList ++ rest }) t → Steps p.tables e below (T.setTop g) t := by
  obtain ⟨v, _, ⟨T', L', c', n'⟩, -, X', ⟨Lc, hQ, l1, y1, z1⟩, st⟩ := Jvm.LawKit.callS X hx (y := y) hown (mvT hZ w1) (mvT hZ w4) (mvT hZ wz) (mvT hZ wc) hy (backOf (W := W) hM hZ wc wz r1 r2) (g := g) hg hsize (argsL := argsL) (rest := rest) hlen hstack hW hdg (fun _ _ => ⟨rfl, eT, r3, r4⟩)
  dsimp only [Pt.U, Pt.locs, Pt.cells, Pt.slots] at X' l1 y1 z1 st hQ
  subst l1 y1 z1
  exact ⟨v, T', Lc, X', hQ, st⟩
end Calls
theorem own_eq_ref {args : Array Value} {s : State} {a b : Term} {w : Addr} (h : (Jvm.Cond.eq a b).value args s none s [] = some true) (hb : b.eval args s none [] s = some (.ref w)) : a.eval args s none [] s = some (.ref w) := by
  obtain ⟨x, y, e1, e2, k1, k2⟩ := cmp_v (Or.inl h)
  rw [hb] at e2
  cases e2
  have hx : x.isRef = true := by cases x <;> simp_all [Kin, Value.isRef]
  have q := gotT (eq_R e1 hb hx rfl) h
  rw [e1, q]
theorem own_ne_ref {args : Array Value} {s : State} {a b : Term} {u w : Addr} (h : (Jvm.Cond.not (Jvm.Cond.eq a b)).value args s none s [] = some true) (ha : a.eval args s none [] s = some (.ref u)) (hb : b.eval args s none [] s = some (.ref w)) : u ≠ w := fun q => gotF (eq_R ha hb rfl rfl) (not_v h) (by rw [q])
theorem own_nn_mask (x m : Int32) (k : Nat) (hk : k < 32) (hm : m.toBitVec.toNat = 2 ^ k - 1) : ¬ ((x &&& m) < (0 : Int32)) := by
  rw [Int32.lt_iff_toInt_lt, Jvm.Kit.i32_mask x m hk hm]
  have h := Int.emod_nonneg x.toInt (show ((2 : Int) ^ k) ≠ 0 from Int.ne_of_gt (Int.pow_pos (by decide)))
  rw [Int32.toInt_zero]
  omega
theorem own_lt_mask (x m : Int32) (k : Nat) (hk : k < 32) (hm : m.toBitVec.toNat = 2 ^ k - 1) {n : Int32} (hn : n.toInt = 2 ^ k) : (x &&& m) < n := by
  rw [Int32.lt_iff_toInt_lt, Jvm.Kit.i32_mask x m hk hm, hn]
  exact Int.emod_lt_of_pos _ (Int.pow_pos (by decide))
theorem own_nn_rem {x : Int32} (n : Int32) (h : ¬ (x < (0 : Int32))) : ¬ (x % n < (0 : Int32)) := by
  rw [Int32.lt_iff_toInt_lt, Int32.toInt_zero] at h ⊢
  rw [Int32.toInt_mod]
  have := Int.tmod_nonneg n.toInt (show 0 ≤ x.toInt by omega)
  omega
theorem own_pos {n : Int32} (h : (0 : Int32) < n) : 0 < n.toInt := by
  rw [Int32.lt_iff_toInt_lt, Int32.toInt_zero] at h
  exact h
theorem own_ne0 {n : Int32} (h : (0 : Int32) < n) : n ≠ 0 := fun q => by
  rw [q] at h
  exact absurd h (by decide)
theorem own_lt_rem {x : Int32} (n : Int32) (h : ¬ (x < (0 : Int32))) (hn : 0 < n.toInt) : x % n < n := by
  rw [Int32.lt_iff_toInt_lt] at h ⊢
  rw [Int32.toInt_zero] at h
  rw [Jvm.Kit.i32_rem_nonneg (by omega)]
  exact Int.emod_lt_of_pos _ hn
theorem own_modlo (x n : Int32) (hn : 0 < n.toInt) : 0 ≤ ((x &&& (2147483647 : Int32)) % n).toInt := by
  have a := Jvm.Kit.i32_mask x 2147483647 (k := 31) (by decide) (by decide)
  rw [Jvm.Kit.i32_rem_nonneg (by omega)]
  exact Int.emod_nonneg _ (by omega)
theorem own_modhi (x n : Int32) (hn : 0 < n.toInt) : ((x &&& (2147483647 : Int32)) % n).toInt < n.toInt := by
  have a := Jvm.Kit.i32_mask x 2147483647 (k := 31) (by decide) (by decide)
  rw [Jvm.Kit.i32_rem_nonneg (by omega)]
  exact Int.emod_lt_of_pos _ hn
theorem own_cases_22 (y : Int32) (h0 : 0 ≤ y.toInt) (h1 : y.toInt < 22) : y = (0 : Int32) ∨ y = (1 : Int32) ∨ y = (2 : Int32) ∨ y = (3 : Int32) ∨ y = (4 : Int32) ∨ y = (5 : Int32) ∨ y = (6 : Int32) ∨ y = (7 : Int32) ∨ y = (8 : Int32) ∨ y = (9 : Int32) ∨ y = (10 : Int32) ∨ y = (11 : Int32) ∨ y = (12 : Int32) ∨ y = (13 : Int32) ∨ y = (14 : Int32) ∨ y = (15 : Int32) ∨ y = (16 : Int32) ∨ y = (17 : Int32) ∨ y = (18 : Int32) ∨ y = (19 : Int32) ∨ y = (20 : Int32) ∨ y = (21 : Int32) := by
  have e : ∀ k : Int32, y.toInt = k.toInt → y = k := fun k q => Int32.toInt_inj.mp q
  rcases (by omega : y.toInt = 0 ∨ y.toInt = 1 ∨ y.toInt = 2 ∨ y.toInt = 3 ∨ y.toInt = 4 ∨ y.toInt = 5 ∨ y.toInt = 6 ∨ y.toInt = 7 ∨ y.toInt = 8 ∨ y.toInt = 9 ∨ y.toInt = 10 ∨ y.toInt = 11 ∨ y.toInt = 12 ∨ y.toInt = 13 ∨ y.toInt = 14 ∨ y.toInt = 15 ∨ y.toInt = 16 ∨ y.toInt = 17 ∨ y.toInt = 18 ∨ y.toInt = 19 ∨ y.toInt = 20 ∨ y.toInt = 21) with q | q | q | q | q | q | q | q | q | q | q | q | q | q | q | q | q | q | q | q | q | q
  · exact Or.inl (e 0 (q.trans rfl))
  · exact Or.inr <| Or.inl (e 1 (q.trans rfl))
  · exact Or.inr <| Or.inr <| Or.inl (e 2 (q.trans rfl))
  · exact Or.inr <| Or.inr <| Or.inr <| Or.inl (e 3 (q.trans rfl))
  · exact Or.inr <| Or.inr <| Or.inr <| Or.inr <| Or.inl (e 4 (q.trans rfl))
  · exact Or.inr <| Or.inr <| Or.inr <| Or.inr <| Or.inr <| Or.inl (e 5 (q.trans rfl))
  · exact Or.inr <| Or.inr <| Or.inr <| Or.inr <| Or.inr <| Or.inr <| Or.inl (e 6 (q.trans rfl))
  · exact Or.inr <| Or.inr <| Or.inr <| Or.inr <| Or.inr <| Or.inr <| Or.inr <| Or.inl (e 7 (q.trans rfl))
  · exact Or.inr <| Or.inr <| Or.inr <| Or.inr <| Or.inr <| Or.inr <| Or.inr <| Or.inr <| Or.inl (e 8 (q.trans rfl))
  · exact Or.inr <| Or.inr <| Or.inr <| Or.inr <| Or.inr <| Or.inr <| Or.inr <| Or.inr <| Or.inr <| Or.inl (e 9 (q.trans rfl))
  · exact Or.inr <| Or.inr <| Or.inr <| Or.inr <| Or.inr <| Or.inr <| Or.inr <| Or.inr <| Or.inr <| Or.inr <| Or.inl (e 10 (q.trans rfl))
  · exact Or.inr <| Or.inr <| Or.inr <| Or.inr <| Or.inr <| Or.inr <| Or.inr <| Or.inr <| Or.inr <| Or.inr <| Or.inr <| Or.inl (e 11 (q.trans rfl))
  · exact Or.inr <| Or.inr <| Or.inr <| Or.inr <| Or.inr <| Or.inr <| Or.inr <| Or.inr <| Or.inr <| Or.inr <| Or.inr <| Or.inr <| Or.inl (e 12 (q.trans rfl))
  · exact Or.inr <| Or.inr <| Or.inr <| Or.inr <| Or.inr <| Or.inr <| Or.inr <| Or.inr <| Or.inr <| Or.inr <| Or.inr <| Or.inr <| Or.inr <| Or.inl (e 13 (q.trans rfl))
  · exact Or.inr <| Or.inr <| Or.inr <| Or.inr <| Or.inr <| Or.inr <| Or.inr <| Or.inr <| Or.inr <| Or.inr <| Or.inr <| Or.inr <| Or.inr <| Or.inr <| Or.inl (e 14 (q.trans rfl))
  · exact Or.inr <| Or.inr <| Or.inr <| Or.inr <| Or.inr <| Or.inr <| Or.inr <| Or.inr <| Or.inr <| Or.inr <| Or.inr <| Or.inr <| Or.inr <| Or.inr <| Or.inr <| Or.inl (e 15 (q.trans rfl))
  · exact Or.inr <| Or.inr <| Or.inr <| Or.inr <| Or.inr <| Or.inr <| Or.inr <| Or.inr <| Or.inr <| Or.inr <| Or.inr <| Or.inr <| Or.inr <| Or.inr <| Or.inr <| Or.inr <| Or.inl (e 16 (q.trans rfl))
  · exact Or.inr <| Or.inr <| Or.inr <| Or.inr <| Or.inr <| Or.inr <| Or.inr <| Or.inr <| Or.inr <| Or.inr <| Or.inr <| Or.inr <| Or.inr <| Or.inr <| Or.inr <| Or.inr <| Or.inr <| Or.inl (e 17 (q.trans rfl))
  · exact Or.inr <| Or.inr <| Or.inr <| Or.inr <| Or.inr <| Or.inr <| Or.inr <| Or.inr <| Or.inr <| Or.inr <| Or.inr <| Or.inr <| Or.inr <| Or.inr <| Or.inr <| Or.inr <| Or.inr <| Or.inr <| Or.inl (e 18 (q.trans rfl))
  · exact Or.inr <| Or.inr <| Or.inr <| Or.inr <| Or.inr <| Or.inr <| Or.inr <| Or.inr <| Or.inr <| Or.inr <| Or.inr <| Or.inr <| Or.inr <| Or.inr <| Or.inr <| Or.inr <| Or.inr <| Or.inr <| Or.inr <| Or.inl (e 19 (q.trans rfl))
  · exact Or.inr <| Or.inr <| Or.inr <| Or.inr <| Or.inr <| Or.inr <| Or.inr <| Or.inr <| Or.inr <| Or.inr <| Or.inr <| Or.inr <| Or.inr <| Or.inr <| Or.inr <| Or.inr <| Or.inr <| Or.inr <| Or.inr <| Or.inr <| Or.inl (e 20 (q.trans rfl))
  · exact Or.inr <| Or.inr <| Or.inr <| Or.inr <| Or.inr <| Or.inr <| Or.inr <| Or.inr <| Or.inr <| Or.inr <| Or.inr <| Or.inr <| Or.inr <| Or.inr <| Or.inr <| Or.inr <| Or.inr <| Or.inr <| Or.inr <| Or.inr <| Or.inr <| (e 21 (q.trans rfl))
abbrev zs1 : String := "com/example/starcourse/starcourse/catalog/ColumnRole"
abbrev zs2 : String := "Lcom/example/starcourse/starcourse/catalog/ColumnRole;"
abbrev zs3 : String := "java/lang/Enum"
theorem own_mod_22 (x : Int32) : (x &&& (2147483647 : Int32)) % (22 : Int32) = (0 : Int32) ∨ (x &&& (2147483647 : Int32)) % (22 : Int32) = (1 : Int32) ∨ (x &&& (2147483647 : Int32)) % (22 : Int32) = (2 : Int32) ∨ (x &&& (2147483647 : Int32)) % (22 : Int32) = (3 : Int32) ∨ (x &&& (2147483647 : Int32)) % (22 : Int32) = (4 : Int32) ∨ (x &&& (2147483647 : Int32)) % (22 : Int32) = (5 : Int32) ∨ (x &&& (2147483647 : Int32)) % (22 : Int32) = (6 : Int32) ∨ (x &&& (2147483647 : Int32)) % (22 : Int32) = (7 : Int32) ∨ (x &&& (2147483647 : Int32)) % (22 : Int32) = (8 : Int32) ∨ (x &&& (2147483647 : Int32)) % (22 : Int32) = (9 : Int32) ∨ (x &&& (2147483647 : Int32)) % (22 : Int32) = (10 : Int32) ∨ (x &&& (2147483647 : Int32)) % (22 : Int32) = (11 : Int32) ∨ (x &&& (2147483647 : Int32)) % (22 : Int32) = (12 : Int32) ∨ (x &&& (2147483647 : Int32)) % (22 : Int32) = (13 : Int32) ∨ (x &&& (2147483647 : Int32)) % (22 : Int32) = (14 : Int32) ∨ (x &&& (2147483647 : Int32)) % (22 : Int32) = (15 : Int32) ∨ (x &&& (2147483647 : Int32)) % (22 : Int32) = (16 : Int32) ∨ (x &&& (2147483647 : Int32)) % (22 : Int32) = (17 : Int32) ∨ (x &&& (2147483647 : Int32)) % (22 : Int32) = (18 : Int32) ∨ (x &&& (2147483647 : Int32)) % (22 : Int32) = (19 : Int32) ∨ (x &&& (2147483647 : Int32)) % (22 : Int32) = (20 : Int32) ∨ (x &&& (2147483647 : Int32)) % (22 : Int32) = (21 : Int32) := own_cases_22 _ (own_modlo x 22 (by decide)) (own_modhi x 22 (by decide))
theorem d1_0 : decode prog_12_method_6_code 0 = .ok (.aload_n 0, 1) := by decide +kernel
theorem d1_1 : decode prog_12_method_6_code 1 = .ok (.getstatic 64, 3) := by decide +kernel
theorem d1_4 : decode prog_12_method_6_code 4 = .ok (.if_acmp .eq 14, 3) := by decide +kernel
theorem d1_7 : decode prog_12_method_6_code 7 = .ok (.aload_n 0, 1) := by decide +kernel
theorem d1_8 : decode prog_12_method_6_code 8 = .ok (.getstatic 67, 3) := by decide +kernel
theorem d1_11 : decode prog_12_method_6_code 11 = .ok (.if_acmp .eq 7, 3) := by decide +kernel
theorem d1_14 : decode prog_12_method_6_code 14 = .ok (.iconst 1, 1) := by decide +kernel
theorem d1_15 : decode prog_12_method_6_code 15 = .ok (.goto 4, 3) := by decide +kernel
theorem d1_19 : decode prog_12_method_6_code 19 = .ok (.ireturn, 1) := by decide +kernel
theorem ef_1 (m : MethodId) (x0 : Addr) : entryFrame m #[(.ref x0)] 1 = mkF m 0 #[rv x0] [] := by first | (simp [entryFrame, mkF, argsToLocals, Value.category]; done) | rfl
theorem pn_1 : plainName "com/example/starcourse/starcourse/catalog/ColumnRole" = true := by first | (simp [plainName, overriddenIn]; done) | decide +kernel
def Q1 (Z : State) (w87 : Addr) (w127 : Addr) (w129 : Addr) (h0 : Heap) (n0 : Nat) (v : Option Value) (h : Heap) (L : List Loc) : Prop := v = some (.int (1 : Int32)) ∧ Fr n0 L ∧ h = h0
set_option maxRecDepth 65536 in
set_option maxHeartbeats 40000000 in
theorem rm1 (l : Launch) (Z : State) (a0 : Array Value) (hw : ∀ d ∈ tables_1, d.before a0 Z = true) (ws : List Jvm.Cond) (w87 : Addr) (w127 : Addr) (w129 : Addr) (h0 : Heap) (n0 : Nat) (O0 : Old Z n0 h0) (S_ColumnRole_NAME : Sta Z Z.heap zs1 "NAME" zs2 (.ref w127)) (SF_w87_ordinal : Fld Z Z.heap w87 zs3 "ordinal" "I" (.int (0 : Int32))) (SF_w127_ordinal : Fld Z Z.heap w127 zs3 "ordinal" "I" (.int (20 : Int32))) (S_ColumnRole_ATTRIBUTE : Sta Z Z.heap zs1 "ATTRIBUTE" zs2 (.ref w129)) (SF_w129_ordinal : Fld Z Z.heap w129 zs3 "ordinal" "I" (.int (21 : Int32))) :
    MetFree l (⟨zs1, "isOneColumn", "()Z"⟩ : MethodName) (head1 (Jvm.Cond.code (⟨zs1, "isOneColumn", "()Z"⟩ : MethodName) prog_12_method_6_code 1 (some .boolean) :: ws) ({ frames := 0, cells := 0, slots := 0, locals := 0 } : Room)) (fun a U => a = #[(.ref w87)] ∧ Z.Warmed39 U.vm ∧ U.heap = h0) (fun _ _ _ _ _ => True) (fun _ U o U' => ∃ v L, o = .returned v ∧ Q1 Z w87 w127 w129 h0 n0 v U'.heap L ∧ FrameEnd U o U' L ({ frames := 0, cells := 0, slots := 0, locals := 0 } : Room).cells ({ frames := 0, cells := 0, slots := 0, locals := 0 } : Room).slots) := by
  refine MetFree.of_bodySF (plainFor_of_name pn_1) hisR ?_
  intro p e s m args below meth c s₁ Bd hml0 hP hK
  obtain ⟨rfl, hZ, hh⟩ := hP
  have hx := Bd.exec
  have hby := Bd.bytes
  have hml : c.maxLocals = 1 := hml0
  have hown : s.vm.findClass zs1 = some m.cls := findClass_of_methodNamed Bd.named
  have hnm := (name_of_methodNamed Bd.named Bd.method).1
  have X0 : Stand p l e ({ frames := 0, cells := 0, slots := 0, locals := 0 } : Room) s m #[(.ref w87)] below meth c s₁ [] 0 0 := Stand.of_body Bd
  have e0 : s₁.heap = h0 := by rw [← hh, Bd.state]; rfl
  have N0 := Fr.nil n0
  refine own_out ?_
  refine own_via (fun t k => castTop (ef_1 m w87) (XS.aloadN X0.here hx rfl (hb hby d1_0) rfl rfl k)) ?_
  obtain ⟨T278, X278, e278, st278⟩ := getS2 X0 hx hZ hown (host := "") (Or.inl (wd hw 54 rfl)) Via.refl e0 (S_ColumnRole_NAME.ext O0.2) (g := (mkF m 1 #[rv w87] [(.ref w87)])) rfl (hb hby d1_1)
  refine own_via (fun t k => st278 t (Jvm.RoadKit.acmp (g := (mkF m 4 #[rv w87] [(.ref w127), (.ref w87)])) X278 hx rfl rfl rfl (pc0 := 4) (pc' := 7) (same := false) rfl (hb hby d1_4) rfl (decide_eq_false fun q => (Fld.ne SF_w87_ordinal SF_w127_ordinal (by decide)) (Value.ref.inj q)) (by decide) (by decide) (XS.aloadN X278.here hx rfl (hb hby d1_7) rfl rfl k))) ?_
  show own_Goes p e below (T278.setTop (mkF m 8 #[rv w87] [(.ref w87)])) _
  obtain ⟨T279, X279, e279, st279⟩ := getS2 X278 hx hZ hown (host := "") (Or.inl (wd hw 55 rfl)) Via.refl e278 (S_ColumnRole_ATTRIBUTE.ext O0.2) (g := (mkF m 8 #[rv w87] [(.ref w87)])) rfl (hb hby d1_8)
  refine own_via (fun t k => st279 t (Jvm.RoadKit.acmp (g := (mkF m 11 #[rv w87] [(.ref w129), (.ref w87)])) X279 hx rfl rfl rfl (pc0 := 11) (pc' := 14) (same := false) rfl (hb hby d1_11) rfl (decide_eq_false fun q => (Fld.ne SF_w87_ordinal SF_w129_ordinal (by decide)) (Value.ref.inj q)) (by decide) (by decide) (XS.iconst X279.here hx rfl (hb hby d1_14) (XS.goto X279.here hx rfl (pc0 := 15) (pc' := 19) rfl (hb hby d1_15) (by decide) (by decide) k)))) ?_
  show own_Goes p e below (T279.setTop (mkF m 19 #[rv w87] [(.int (1 : Int32))])) _
  obtain ⟨fs, hr, hrun, hended, hW, hsame⟩ := X279.leave (v := some (.int (1 : Int32))) (fun h => by rw [Bd.returns] at h; cases h)
  refine own_end (t := T279.setFrames fs) ?_ ⟨_, hrun, hended, _, _, rfl, ?_, ⟨_, rfl⟩, hW, hsame.mono (by decide) (by decide)⟩
  · exact retN X279 hx (t := .boolean) Bd.returns (by simp) (hb hby d1_19) hr
  · show Q1 Z w87 w127 w129 h0 n0 _ T279.heap _
    rw [e279]
    exact ⟨rfl, N0, rfl⟩
theorem pd_1 : parseMethodDescriptor "()Z" = some ⟨[], some .boolean⟩ := by decide +kernel
def Q2 (Z : State) (w89 : Addr) (w127 : Addr) (w129 : Addr) (h0 : Heap) (n0 : Nat) (v : Option Value) (h : Heap) (L : List Loc) : Prop := v = some (.int (1 : Int32)) ∧ Fr n0 L ∧ h = h0
set_option maxRecDepth 65536 in
set_option maxHeartbeats 40000000 in
theorem rm2 (l : Launch) (Z : State) (a0 : Array Value) (hw : ∀ d ∈ tables_1, d.before a0 Z = true) (ws : List Jvm.Cond) (w89 : Addr) (w127 : Addr) (w129 : Addr) (h0 : Heap) (n0 : Nat) (O0 : Old Z n0 h0) (S_ColumnRole_NAME : Sta Z Z.heap zs1 "NAME" zs2 (.ref w127)) (SF_w89_ordinal : Fld Z Z.heap w89 zs3 "ordinal" "I" (.int (1 : Int32))) (SF_w127_ordinal : Fld Z Z.heap w127 zs3 "ordinal" "I" (.int (20 : Int32))) (S_ColumnRole_ATTRIBUTE : Sta Z Z.heap zs1 "ATTRIBUTE" zs2 (.ref w129)) (SF_w129_ordinal : Fld Z Z.heap w129 zs3 "ordinal" "I" (.int (21 : Int32))) :
    MetFree l (⟨zs1, "isOneColumn", "()Z"⟩ : MethodName) (head1 (Jvm.Cond.code (⟨zs1, "isOneColumn", "()Z"⟩ : MethodName) prog_12_method_6_code 1 (some .boolean) :: ws) ({ frames := 0, cells := 0, slots := 0, locals := 0 } : Room)) (fun a U => a = #[(.ref w89)] ∧ Z.Warmed39 U.vm ∧ U.heap = h0) (fun _ _ _ _ _ => True) (fun _ U o U' => ∃ v L, o = .returned v ∧ Q2 Z w89 w127 w129 h0 n0 v U'.heap L ∧ FrameEnd U o U' L ({ frames := 0, cells := 0, slots := 0, locals := 0 } : Room).cells ({ frames := 0, cells := 0, slots := 0, locals := 0 } : Room).slots) := by
  refine MetFree.of_bodySF (plainFor_of_name pn_1) hisR ?_
  intro p e s m args below meth c s₁ Bd hml0 hP hK
  obtain ⟨rfl, hZ, hh⟩ := hP
  have hx := Bd.exec
  have hby := Bd.bytes
  have hml : c.maxLocals = 1 := hml0
  have hown : s.vm.findClass zs1 = some m.cls := findClass_of_methodNamed Bd.named
  have hnm := (name_of_methodNamed Bd.named Bd.method).1
  have X0 : Stand p l e ({ frames := 0, cells := 0, slots := 0, locals := 0 } : Room) s m #[(.ref w89)] below meth c s₁ [] 0 0 := Stand.of_body Bd
  have e0 : s₁.heap = h0 := by rw [← hh, Bd.state]; rfl
  have N0 := Fr.nil n0
  refine own_out ?_
  refine own_via (fun t k => castTop (ef_1 m w89) (XS.aloadN X0.here hx rfl (hb hby d1_0) rfl rfl k)) ?_
  obtain ⟨T292, X292, e292, st292⟩ := getS2 X0 hx hZ hown (host := "") (Or.inl (wd hw 54 rfl)) Via.refl e0 (S_ColumnRole_NAME.ext O0.2) (g := (mkF m 1 #[rv w89] [(.ref w89)])) rfl (hb hby d1_1)
  refine own_via (fun t k => st292 t (Jvm.RoadKit.acmp (g := (mkF m 4 #[rv w89] [(.ref w127), (.ref w89)])) X292 hx rfl rfl rfl (pc0 := 4) (pc' := 7) (same := false) rfl (hb hby d1_4) rfl (decide_eq_false fun q => (Fld.ne SF_w89_ordinal SF_w127_ordinal (by decide)) (Value.ref.inj q)) (by decide) (by decide) (XS.aloadN X292.here hx rfl (hb hby d1_7) rfl rfl k))) ?_
  show own_Goes p e below (T292.setTop (mkF m 8 #[rv w89] [(.ref w89)])) _
  obtain ⟨T293, X293, e293, st293⟩ := getS2 X292 hx hZ hown (host := "") (Or.inl (wd hw 55 rfl)) Via.refl e292 (S_ColumnRole_ATTRIBUTE.ext O0.2) (g := (mkF m 8 #[rv w89] [(.ref w89)])) rfl (hb hby d1_8)
  refine own_via (fun t k => st293 t (Jvm.RoadKit.acmp (g := (mkF m 11 #[rv w89] [(.ref w129), (.ref w89)])) X293 hx rfl rfl rfl (pc0 := 11) (pc' := 14) (same := false) rfl (hb hby d1_11) rfl (decide_eq_false fun q => (Fld.ne SF_w89_ordinal SF_w129_ordinal (by decide)) (Value.ref.inj q)) (by decide) (by decide) (XS.iconst X293.here hx rfl (hb hby d1_14) (XS.goto X293.here hx rfl (pc0 := 15) (pc' := 19) rfl (hb hby d1_15) (by decide) (by decide) k)))) ?_
  show own_Goes p e below (T293.setTop (mkF m 19 #[rv w89] [(.int (1 : Int32))])) _
  obtain ⟨fs, hr, hrun, hended, hW, hsame⟩ := X293.leave (v := some (.int (1 : Int32))) (fun h => by rw [Bd.returns] at h; cases h)
  refine own_end (t := T293.setFrames fs) ?_ ⟨_, hrun, hended, _, _, rfl, ?_, ⟨_, rfl⟩, hW, hsame.mono (by decide) (by decide)⟩
  · exact retN X293 hx (t := .boolean) Bd.returns (by simp) (hb hby d1_19) hr
  · show Q2 Z w89 w127 w129 h0 n0 _ T293.heap _
    rw [e293]
    exact ⟨rfl, N0, rfl⟩
def Q3 (Z : State) (w91 : Addr) (w127 : Addr) (w129 : Addr) (h0 : Heap) (n0 : Nat) (v : Option Value) (h : Heap) (L : List Loc) : Prop := v = some (.int (1 : Int32)) ∧ Fr n0 L ∧ h = h0
set_option maxRecDepth 65536 in
set_option maxHeartbeats 40000000 in
theorem rm3 (l : Launch) (Z : State) (a0 : Array Value) (hw : ∀ d ∈ tables_1, d.before a0 Z = true) (ws : List Jvm.Cond) (w91 : Addr) (w127 : Addr) (w129 : Addr) (h0 : Heap) (n0 : Nat) (O0 : Old Z n0 h0) (S_ColumnRole_NAME : Sta Z Z.heap zs1 "NAME" zs2 (.ref w127)) (SF_w91_ordinal : Fld Z Z.heap w91 zs3 "ordinal" "I" (.int (2 : Int32))) (SF_w127_ordinal : Fld Z Z.heap w127 zs3 "ordinal" "I" (.int (20 : Int32))) (S_ColumnRole_ATTRIBUTE : Sta Z Z.heap zs1 "ATTRIBUTE" zs2 (.ref w129)) (SF_w129_ordinal : Fld Z Z.heap w129 zs3 "ordinal" "I" (.int (21 : Int32))) :
    MetFree l (⟨zs1, "isOneColumn", "()Z"⟩ : MethodName) (head1 (Jvm.Cond.code (⟨zs1, "isOneColumn", "()Z"⟩ : MethodName) prog_12_method_6_code 1 (some .boolean) :: ws) ({ frames := 0, cells := 0, slots := 0, locals := 0 } : Room)) (fun a U => a = #[(.ref w91)] ∧ Z.Warmed39 U.vm ∧ U.heap = h0) (fun _ _ _ _ _ => True) (fun _ U o U' => ∃ v L, o = .returned v ∧ Q3 Z w91 w127 w129 h0 n0 v U'.heap L ∧ FrameEnd U o U' L ({ frames := 0, cells := 0, slots := 0, locals := 0 } : Room).cells ({ frames := 0, cells := 0, slots := 0, locals := 0 } : Room).slots) := by
  refine MetFree.of_bodySF (plainFor_of_name pn_1) hisR ?_
  intro p e s m args below meth c s₁ Bd hml0 hP hK
  obtain ⟨rfl, hZ, hh⟩ := hP
  have hx := Bd.exec
  have hby := Bd.bytes
  have hml : c.maxLocals = 1 := hml0
  have hown : s.vm.findClass zs1 = some m.cls := findClass_of_methodNamed Bd.named
  have hnm := (name_of_methodNamed Bd.named Bd.method).1
  have X0 : Stand p l e ({ frames := 0, cells := 0, slots := 0, locals := 0 } : Room) s m #[(.ref w91)] below meth c s₁ [] 0 0 := Stand.of_body Bd
  have e0 : s₁.heap = h0 := by rw [← hh, Bd.state]; rfl
  have N0 := Fr.nil n0
  refine own_out ?_
  refine own_via (fun t k => castTop (ef_1 m w91) (XS.aloadN X0.here hx rfl (hb hby d1_0) rfl rfl k)) ?_
  obtain ⟨T306, X306, e306, st306⟩ := getS2 X0 hx hZ hown (host := "") (Or.inl (wd hw 54 rfl)) Via.refl e0 (S_ColumnRole_NAME.ext O0.2) (g := (mkF m 1 #[rv w91] [(.ref w91)])) rfl (hb hby d1_1)
  refine own_via (fun t k => st306 t (Jvm.RoadKit.acmp (g := (mkF m 4 #[rv w91] [(.ref w127), (.ref w91)])) X306 hx rfl rfl rfl (pc0 := 4) (pc' := 7) (same := false) rfl (hb hby d1_4) rfl (decide_eq_false fun q => (Fld.ne SF_w91_ordinal SF_w127_ordinal (by decide)) (Value.ref.inj q)) (by decide) (by decide) (XS.aloadN X306.here hx rfl (hb hby d1_7) rfl rfl k))) ?_
  show own_Goes p e below (T306.setTop (mkF m 8 #[rv w91] [(.ref w91)])) _
  obtain ⟨T307, X307, e307, st307⟩ := getS2 X306 hx hZ hown (host := "") (Or.inl (wd hw 55 rfl)) Via.refl e306 (S_ColumnRole_ATTRIBUTE.ext O0.2) (g := (mkF m 8 #[rv w91] [(.ref w91)])) rfl (hb hby d1_8)
  refine own_via (fun t k => st307 t (Jvm.RoadKit.acmp (g := (mkF m 11 #[rv w91] [(.ref w129), (.ref w91)])) X307 hx rfl rfl rfl (pc0 := 11) (pc' := 14) (same := false) rfl (hb hby d1_11) rfl (decide_eq_false fun q => (Fld.ne SF_w91_ordinal SF_w129_ordinal (by decide)) (Value.ref.inj q)) (by decide) (by decide) (XS.iconst X307.here hx rfl (hb hby d1_14) (XS.goto X307.here hx rfl (pc0 := 15) (pc' := 19) rfl (hb hby d1_15) (by decide) (by decide) k)))) ?_
  show own_Goes p e below (T307.setTop (mkF m 19 #[rv w91] [(.int (1 : Int32))])) _
  obtain ⟨fs, hr, hrun, hended, hW, hsame⟩ := X307.leave (v := some (.int (1 : Int32))) (fun h => by rw [Bd.returns] at h; cases h)
  refine own_end (t := T307.setFrames fs) ?_ ⟨_, hrun, hended, _, _, rfl, ?_, ⟨_, rfl⟩, hW, hsame.mono (by decide) (by decide)⟩
  · exact retN X307 hx (t := .boolean) Bd.returns (by simp) (hb hby d1_19) hr
  · show Q3 Z w91 w127 w129 h0 n0 _ T307.heap _
    rw [e307]
    exact ⟨rfl, N0, rfl⟩
def Q4 (Z : State) (w93 : Addr) (w127 : Addr) (w129 : Addr) (h0 : Heap) (n0 : Nat) (v : Option Value) (h : Heap) (L : List Loc) : Prop := v = some (.int (1 : Int32)) ∧ Fr n0 L ∧ h = h0
set_option maxRecDepth 65536 in
set_option maxHeartbeats 40000000 in
theorem rm4 (l : Launch) (Z : State) (a0 : Array Value) (hw : ∀ d ∈ tables_1, d.before a0 Z = true) (ws : List Jvm.Cond) (w93 : Addr) (w127 : Addr) (w129 : Addr) (h0 : Heap) (n0 : Nat) (O0 : Old Z n0 h0) (S_ColumnRole_NAME : Sta Z Z.heap zs1 "NAME" zs2 (.ref w127)) (SF_w93_ordinal : Fld Z Z.heap w93 zs3 "ordinal" "I" (.int (3 : Int32))) (SF_w127_ordinal : Fld Z Z.heap w127 zs3 "ordinal" "I" (.int (20 : Int32))) (S_ColumnRole_ATTRIBUTE : Sta Z Z.heap zs1 "ATTRIBUTE" zs2 (.ref w129)) (SF_w129_ordinal : Fld Z Z.heap w129 zs3 "ordinal" "I" (.int (21 : Int32))) :
    MetFree l (⟨zs1, "isOneColumn", "()Z"⟩ : MethodName) (head1 (Jvm.Cond.code (⟨zs1, "isOneColumn", "()Z"⟩ : MethodName) prog_12_method_6_code 1 (some .boolean) :: ws) ({ frames := 0, cells := 0, slots := 0, locals := 0 } : Room)) (fun a U => a = #[(.ref w93)] ∧ Z.Warmed39 U.vm ∧ U.heap = h0) (fun _ _ _ _ _ => True) (fun _ U o U' => ∃ v L, o = .returned v ∧ Q4 Z w93 w127 w129 h0 n0 v U'.heap L ∧ FrameEnd U o U' L ({ frames := 0, cells := 0, slots := 0, locals := 0 } : Room).cells ({ frames := 0, cells := 0, slots := 0, locals := 0 } : Room).slots) := by
  refine MetFree.of_bodySF (plainFor_of_name pn_1) hisR ?_
  intro p e s m args below meth c s₁ Bd hml0 hP hK
  obtain ⟨rfl, hZ, hh⟩ := hP
  have hx := Bd.exec
  have hby := Bd.bytes
  have hml : c.maxLocals = 1 := hml0
  have hown : s.vm.findClass zs1 = some m.cls := findClass_of_methodNamed Bd.named
  have hnm := (name_of_methodNamed Bd.named Bd.method).1
  have X0 : Stand p l e ({ frames := 0, cells := 0, slots := 0, locals := 0 } : Room) s m #[(.ref w93)] below meth c s₁ [] 0 0 := Stand.of_body Bd
  have e0 : s₁.heap = h0 := by rw [← hh, Bd.state]; rfl
  have N0 := Fr.nil n0
  refine own_out ?_
  refine own_via (fun t k => castTop (ef_1 m w93) (XS.aloadN X0.here hx rfl (hb hby d1_0) rfl rfl k)) ?_
  obtain ⟨T320, X320, e320, st320⟩ := getS2 X0 hx hZ hown (host := "") (Or.inl (wd hw 54 rfl)) Via.refl e0 (S_ColumnRole_NAME.ext O0.2) (g := (mkF m 1 #[rv w93] [(.ref w93)])) rfl (hb hby d1_1)
  refine own_via (fun t k => st320 t (Jvm.RoadKit.acmp (g := (mkF m 4 #[rv w93] [(.ref w127), (.ref w93)])) X320 hx rfl rfl rfl (pc0 := 4) (pc' := 7) (same := false) rfl (hb hby d1_4) rfl (decide_eq_false fun q => (Fld.ne SF_w93_ordinal SF_w127_ordinal (by decide)) (Value.ref.inj q)) (by decide) (by decide) (XS.aloadN X320.here hx rfl (hb hby d1_7) rfl rfl k))) ?_
  show own_Goes p e below (T320.setTop (mkF m 8 #[rv w93] [(.ref w93)])) _
  obtain ⟨T321, X321, e321, st321⟩ := getS2 X320 hx hZ hown (host := "") (Or.inl (wd hw 55 rfl)) Via.refl e320 (S_ColumnRole_ATTRIBUTE.ext O0.2) (g := (mkF m 8 #[rv w93] [(.ref w93)])) rfl (hb hby d1_8)
  refine own_via (fun t k => st321 t (Jvm.RoadKit.acmp (g := (mkF m 11 #[rv w93] [(.ref w129), (.ref w93)])) X321 hx rfl rfl rfl (pc0 := 11) (pc' := 14) (same := false) rfl (hb hby d1_11) rfl (decide_eq_false fun q => (Fld.ne SF_w93_ordinal SF_w129_ordinal (by decide)) (Value.ref.inj q)) (by decide) (by decide) (XS.iconst X321.here hx rfl (hb hby d1_14) (XS.goto X321.here hx rfl (pc0 := 15) (pc' := 19) rfl (hb hby d1_15) (by decide) (by decide) k)))) ?_
  show own_Goes p e below (T321.setTop (mkF m 19 #[rv w93] [(.int (1 : Int32))])) _
  obtain ⟨fs, hr, hrun, hended, hW, hsame⟩ := X321.leave (v := some (.int (1 : Int32))) (fun h => by rw [Bd.returns] at h; cases h)
  refine own_end (t := T321.setFrames fs) ?_ ⟨_, hrun, hended, _, _, rfl, ?_, ⟨_, rfl⟩, hW, hsame.mono (by decide) (by decide)⟩
  · exact retN X321 hx (t := .boolean) Bd.returns (by simp) (hb hby d1_19) hr
  · show Q4 Z w93 w127 w129 h0 n0 _ T321.heap _
    rw [e321]
    exact ⟨rfl, N0, rfl⟩
def Q5 (Z : State) (w95 : Addr) (w127 : Addr) (w129 : Addr) (h0 : Heap) (n0 : Nat) (v : Option Value) (h : Heap) (L : List Loc) : Prop := v = some (.int (1 : Int32)) ∧ Fr n0 L ∧ h = h0
set_option maxRecDepth 65536 in
set_option maxHeartbeats 40000000 in
theorem rm5 (l : Launch) (Z : State) (a0 : Array Value) (hw : ∀ d ∈ tables_1, d.before a0 Z = true) (ws : List Jvm.Cond) (w95 : Addr) (w127 : Addr) (w129 : Addr) (h0 : Heap) (n0 : Nat) (O0 : Old Z n0 h0) (S_ColumnRole_NAME : Sta Z Z.heap zs1 "NAME" zs2 (.ref w127)) (SF_w95_ordinal : Fld Z Z.heap w95 zs3 "ordinal" "I" (.int (4 : Int32))) (SF_w127_ordinal : Fld Z Z.heap w127 zs3 "ordinal" "I" (.int (20 : Int32))) (S_ColumnRole_ATTRIBUTE : Sta Z Z.heap zs1 "ATTRIBUTE" zs2 (.ref w129)) (SF_w129_ordinal : Fld Z Z.heap w129 zs3 "ordinal" "I" (.int (21 : Int32))) :
    MetFree l (⟨zs1, "isOneColumn", "()Z"⟩ : MethodName) (head1 (Jvm.Cond.code (⟨zs1, "isOneColumn", "()Z"⟩ : MethodName) prog_12_method_6_code 1 (some .boolean) :: ws) ({ frames := 0, cells := 0, slots := 0, locals := 0 } : Room)) (fun a U => a = #[(.ref w95)] ∧ Z.Warmed39 U.vm ∧ U.heap = h0) (fun _ _ _ _ _ => True) (fun _ U o U' => ∃ v L, o = .returned v ∧ Q5 Z w95 w127 w129 h0 n0 v U'.heap L ∧ FrameEnd U o U' L ({ frames := 0, cells := 0, slots := 0, locals := 0 } : Room).cells ({ frames := 0, cells := 0, slots := 0, locals := 0 } : Room).slots) := by
  refine MetFree.of_bodySF (plainFor_of_name pn_1) hisR ?_
  intro p e s m args below meth c s₁ Bd hml0 hP hK
  obtain ⟨rfl, hZ, hh⟩ := hP
  have hx := Bd.exec
  have hby := Bd.bytes
  have hml : c.maxLocals = 1 := hml0
  have hown : s.vm.findClass zs1 = some m.cls := findClass_of_methodNamed Bd.named
  have hnm := (name_of_methodNamed Bd.named Bd.method).1
  have X0 : Stand p l e ({ frames := 0, cells := 0, slots := 0, locals := 0 } : Room) s m #[(.ref w95)] below meth c s₁ [] 0 0 := Stand.of_body Bd
  have e0 : s₁.heap = h0 := by rw [← hh, Bd.state]; rfl
  have N0 := Fr.nil n0
  refine own_out ?_
  refine own_via (fun t k => castTop (ef_1 m w95) (XS.aloadN X0.here hx rfl (hb hby d1_0) rfl rfl k)) ?_
  obtain ⟨T334, X334, e334, st334⟩ := getS2 X0 hx hZ hown (host := "") (Or.inl (wd hw 54 rfl)) Via.refl e0 (S_ColumnRole_NAME.ext O0.2) (g := (mkF m 1 #[rv w95] [(.ref w95)])) rfl (hb hby d1_1)
  refine own_via (fun t k => st334 t (Jvm.RoadKit.acmp (g := (mkF m 4 #[rv w95] [(.ref w127), (.ref w95)])) X334 hx rfl rfl rfl (pc0 := 4) (pc' := 7) (same := false) rfl (hb hby d1_4) rfl (decide_eq_false fun q => (Fld.ne SF_w95_ordinal SF_w127_ordinal (by decide)) (Value.ref.inj q)) (by decide) (by decide) (XS.aloadN X334.here hx rfl (hb hby d1_7) rfl rfl k))) ?_
  show own_Goes p e below (T334.setTop (mkF m 8 #[rv w95] [(.ref w95)])) _
  obtain ⟨T335, X335, e335, st335⟩ := getS2 X334 hx hZ hown (host := "") (Or.inl (wd hw 55 rfl)) Via.refl e334 (S_ColumnRole_ATTRIBUTE.ext O0.2) (g := (mkF m 8 #[rv w95] [(.ref w95)])) rfl (hb hby d1_8)
  refine own_via (fun t k => st335 t (Jvm.RoadKit.acmp (g := (mkF m 11 #[rv w95] [(.ref w129), (.ref w95)])) X335 hx rfl rfl rfl (pc0 := 11) (pc' := 14) (same := false) rfl (hb hby d1_11) rfl (decide_eq_false fun q => (Fld.ne SF_w95_ordinal SF_w129_ordinal (by decide)) (Value.ref.inj q)) (by decide) (by decide) (XS.iconst X335.here hx rfl (hb hby d1_14) (XS.goto X335.here hx rfl (pc0 := 15) (pc' := 19) rfl (hb hby d1_15) (by decide) (by decide) k)))) ?_
  show own_Goes p e below (T335.setTop (mkF m 19 #[rv w95] [(.int (1 : Int32))])) _
  obtain ⟨fs, hr, hrun, hended, hW, hsame⟩ := X335.leave (v := some (.int (1 : Int32))) (fun h => by rw [Bd.returns] at h; cases h)
  refine own_end (t := T335.setFrames fs) ?_ ⟨_, hrun, hended, _, _, rfl, ?_, ⟨_, rfl⟩, hW, hsame.mono (by decide) (by decide)⟩
  · exact retN X335 hx (t := .boolean) Bd.returns (by simp) (hb hby d1_19) hr
  · show Q5 Z w95 w127 w129 h0 n0 _ T335.heap _
    rw [e335]
    exact ⟨rfl, N0, rfl⟩
def Q6 (Z : State) (w97 : Addr) (w127 : Addr) (w129 : Addr) (h0 : Heap) (n0 : Nat) (v : Option Value) (h : Heap) (L : List Loc) : Prop := v = some (.int (1 : Int32)) ∧ Fr n0 L ∧ h = h0
set_option maxRecDepth 65536 in
set_option maxHeartbeats 40000000 in
theorem rm6 (l : Launch) (Z : State) (a0 : Array Value) (hw : ∀ d ∈ tables_1, d.before a0 Z = true) (ws : List Jvm.Cond) (w97 : Addr) (w127 : Addr) (w129 : Addr) (h0 : Heap) (n0 : Nat) (O0 : Old Z n0 h0) (S_ColumnRole_NAME : Sta Z Z.heap zs1 "NAME" zs2 (.ref w127)) (SF_w97_ordinal : Fld Z Z.heap w97 zs3 "ordinal" "I" (.int (5 : Int32))) (SF_w127_ordinal : Fld Z Z.heap w127 zs3 "ordinal" "I" (.int (20 : Int32))) (S_ColumnRole_ATTRIBUTE : Sta Z Z.heap zs1 "ATTRIBUTE" zs2 (.ref w129)) (SF_w129_ordinal : Fld Z Z.heap w129 zs3 "ordinal" "I" (.int (21 : Int32))) :
    MetFree l (⟨zs1, "isOneColumn", "()Z"⟩ : MethodName) (head1 (Jvm.Cond.code (⟨zs1, "isOneColumn", "()Z"⟩ : MethodName) prog_12_method_6_code 1 (some .boolean) :: ws) ({ frames := 0, cells := 0, slots := 0, locals := 0 } : Room)) (fun a U => a = #[(.ref w97)] ∧ Z.Warmed39 U.vm ∧ U.heap = h0) (fun _ _ _ _ _ => True) (fun _ U o U' => ∃ v L, o = .returned v ∧ Q6 Z w97 w127 w129 h0 n0 v U'.heap L ∧ FrameEnd U o U' L ({ frames := 0, cells := 0, slots := 0, locals := 0 } : Room).cells ({ frames := 0, cells := 0, slots := 0, locals := 0 } : Room).slots) := by
  refine MetFree.of_bodySF (plainFor_of_name pn_1) hisR ?_
  intro p e s m args below meth c s₁ Bd hml0 hP hK
  obtain ⟨rfl, hZ, hh⟩ := hP
  have hx := Bd.exec
  have hby := Bd.bytes
  have hml : c.maxLocals = 1 := hml0
  have hown : s.vm.findClass zs1 = some m.cls := findClass_of_methodNamed Bd.named
  have hnm := (name_of_methodNamed Bd.named Bd.method).1
  have X0 : Stand p l e ({ frames := 0, cells := 0, slots := 0, locals := 0 } : Room) s m #[(.ref w97)] below meth c s₁ [] 0 0 := Stand.of_body Bd
  have e0 : s₁.heap = h0 := by rw [← hh, Bd.state]; rfl
  have N0 := Fr.nil n0
  refine own_out ?_
  refine own_via (fun t k => castTop (ef_1 m w97) (XS.aloadN X0.here hx rfl (hb hby d1_0) rfl rfl k)) ?_
  obtain ⟨T348, X348, e348, st348⟩ := getS2 X0 hx hZ hown (host := "") (Or.inl (wd hw 54 rfl)) Via.refl e0 (S_ColumnRole_NAME.ext O0.2) (g := (mkF m 1 #[rv w97] [(.ref w97)])) rfl (hb hby d1_1)
  refine own_via (fun t k => st348 t (Jvm.RoadKit.acmp (g := (mkF m 4 #[rv w97] [(.ref w127), (.ref w97)])) X348 hx rfl rfl rfl (pc0 := 4) (pc' := 7) (same := false) rfl (hb hby d1_4) rfl (decide_eq_false fun q => (Fld.ne SF_w97_ordinal SF_w127_ordinal (by decide)) (Value.ref.inj q)) (by decide) (by decide) (XS.aloadN X348.here hx rfl (hb hby d1_7) rfl rfl k))) ?_
  show own_Goes p e below (T348.setTop (mkF m 8 #[rv w97] [(.ref w97)])) _
  obtain ⟨T349, X349, e349, st349⟩ := getS2 X348 hx hZ hown (host := "") (Or.inl (wd hw 55 rfl)) Via.refl e348 (S_ColumnRole_ATTRIBUTE.ext O0.2) (g := (mkF m 8 #[rv w97] [(.ref w97)])) rfl (hb hby d1_8)
  refine own_via (fun t k => st349 t (Jvm.RoadKit.acmp (g := (mkF m 11 #[rv w97] [(.ref w129), (.ref w97)])) X349 hx rfl rfl rfl (pc0 := 11) (pc' := 14) (same := false) rfl (hb hby d1_11) rfl (decide_eq_false fun q => (Fld.ne SF_w97_ordinal SF_w129_ordinal (by decide)) (Value.ref.inj q)) (by decide) (by decide) (XS.iconst X349.here hx rfl (hb hby d1_14) (XS.goto X349.here hx rfl (pc0 := 15) (pc' := 19) rfl (hb hby d1_15) (by decide) (by decide) k)))) ?_
  show own_Goes p e below (T349.setTop (mkF m 19 #[rv w97] [(.int (1 : Int32))])) _
  obtain ⟨fs, hr, hrun, hended, hW, hsame⟩ := X349.leave (v := some (.int (1 : Int32))) (fun h => by rw [Bd.returns] at h; cases h)
  refine own_end (t := T349.setFrames fs) ?_ ⟨_, hrun, hended, _, _, rfl, ?_, ⟨_, rfl⟩, hW, hsame.mono (by decide) (by decide)⟩
  · exact retN X349 hx (t := .boolean) Bd.returns (by simp) (hb hby d1_19) hr
  · show Q6 Z w97 w127 w129 h0 n0 _ T349.heap _
    rw [e349]
    exact ⟨rfl, N0, rfl⟩
def Q7 (Z : State) (w99 : Addr) (w127 : Addr) (w129 : Addr) (h0 : Heap) (n0 : Nat) (v : Option Value) (h : Heap) (L : List Loc) : Prop := v = some (.int (1 : Int32)) ∧ Fr n0 L ∧ h = h0
set_option maxRecDepth 65536 in
set_option maxHeartbeats 40000000 in
theorem rm7 (l : Launch) (Z : State) (a0 : Array Value) (hw : ∀ d ∈ tables_1, d.before a0 Z = true) (ws : List Jvm.Cond) (w99 : Addr) (w127 : Addr) (w129 : Addr) (h0 : Heap) (n0 : Nat) (O0 : Old Z n0 h0) (S_ColumnRole_NAME : Sta Z Z.heap zs1 "NAME" zs2 (.ref w127)) (SF_w99_ordinal : Fld Z Z.heap w99 zs3 "ordinal" "I" (.int (6 : Int32))) (SF_w127_ordinal : Fld Z Z.heap w127 zs3 "ordinal" "I" (.int (20 : Int32))) (S_ColumnRole_ATTRIBUTE : Sta Z Z.heap zs1 "ATTRIBUTE" zs2 (.ref w129)) (SF_w129_ordinal : Fld Z Z.heap w129 zs3 "ordinal" "I" (.int (21 : Int32))) :
    MetFree l (⟨zs1, "isOneColumn", "()Z"⟩ : MethodName) (head1 (Jvm.Cond.code (⟨zs1, "isOneColumn", "()Z"⟩ : MethodName) prog_12_method_6_code 1 (some .boolean) :: ws) ({ frames := 0, cells := 0, slots := 0, locals := 0 } : Room)) (fun a U => a = #[(.ref w99)] ∧ Z.Warmed39 U.vm ∧ U.heap = h0) (fun _ _ _ _ _ => True) (fun _ U o U' => ∃ v L, o = .returned v ∧ Q7 Z w99 w127 w129 h0 n0 v U'.heap L ∧ FrameEnd U o U' L ({ frames := 0, cells := 0, slots := 0, locals := 0 } : Room).cells ({ frames := 0, cells := 0, slots := 0, locals := 0 } : Room).slots) := by
  refine MetFree.of_bodySF (plainFor_of_name pn_1) hisR ?_
  intro p e s m args below meth c s₁ Bd hml0 hP hK
  obtain ⟨rfl, hZ, hh⟩ := hP
  have hx := Bd.exec
  have hby := Bd.bytes
  have hml : c.maxLocals = 1 := hml0
  have hown : s.vm.findClass zs1 = some m.cls := findClass_of_methodNamed Bd.named
  have hnm := (name_of_methodNamed Bd.named Bd.method).1
  have X0 : Stand p l e ({ frames := 0, cells := 0, slots := 0, locals := 0 } : Room) s m #[(.ref w99)] below meth c s₁ [] 0 0 := Stand.of_body Bd
  have e0 : s₁.heap = h0 := by rw [← hh, Bd.state]; rfl
  have N0 := Fr.nil n0
  refine own_out ?_
  refine own_via (fun t k => castTop (ef_1 m w99) (XS.aloadN X0.here hx rfl (hb hby d1_0) rfl rfl k)) ?_
  obtain ⟨T362, X362, e362, st362⟩ := getS2 X0 hx hZ hown (host := "") (Or.inl (wd hw 54 rfl)) Via.refl e0 (S_ColumnRole_NAME.ext O0.2) (g := (mkF m 1 #[rv w99] [(.ref w99)])) rfl (hb hby d1_1)
  refine own_via (fun t k => st362 t (Jvm.RoadKit.acmp (g := (mkF m 4 #[rv w99] [(.ref w127), (.ref w99)])) X362 hx rfl rfl rfl (pc0 := 4) (pc' := 7) (same := false) rfl (hb hby d1_4) rfl (decide_eq_false fun q => (Fld.ne SF_w99_ordinal SF_w127_ordinal (by decide)) (Value.ref.inj q)) (by decide) (by decide) (XS.aloadN X362.here hx rfl (hb hby d1_7) rfl rfl k))) ?_
  show own_Goes p e below (T362.setTop (mkF m 8 #[rv w99] [(.ref w99)])) _
  obtain ⟨T363, X363, e363, st363⟩ := getS2 X362 hx hZ hown (host := "") (Or.inl (wd hw 55 rfl)) Via.refl e362 (S_ColumnRole_ATTRIBUTE.ext O0.2) (g := (mkF m 8 #[rv w99] [(.ref w99)])) rfl (hb hby d1_8)
  refine own_via (fun t k => st363 t (Jvm.RoadKit.acmp (g := (mkF m 11 #[rv w99] [(.ref w129), (.ref w99)])) X363 hx rfl rfl rfl (pc0 := 11) (pc' := 14) (same := false) rfl (hb hby d1_11) rfl (decide_eq_false fun q => (Fld.ne SF_w99_ordinal SF_w129_ordinal (by decide)) (Value.ref.inj q)) (by decide) (by decide) (XS.iconst X363.here hx rfl (hb hby d1_14) (XS.goto X363.here hx rfl (pc0 := 15) (pc' := 19) rfl (hb hby d1_15) (by decide) (by decide) k)))) ?_
  show own_Goes p e below (T363.setTop (mkF m 19 #[rv w99] [(.int (1 : Int32))])) _
  obtain ⟨fs, hr, hrun, hended, hW, hsame⟩ := X363.leave (v := some (.int (1 : Int32))) (fun h => by rw [Bd.returns] at h; cases h)
  refine own_end (t := T363.setFrames fs) ?_ ⟨_, hrun, hended, _, _, rfl, ?_, ⟨_, rfl⟩, hW, hsame.mono (by decide) (by decide)⟩
  · exact retN X363 hx (t := .boolean) Bd.returns (by simp) (hb hby d1_19) hr
  · show Q7 Z w99 w127 w129 h0 n0 _ T363.heap _
    rw [e363]
    exact ⟨rfl, N0, rfl⟩
def Q8 (Z : State) (w101 : Addr) (w127 : Addr) (w129 : Addr) (h0 : Heap) (n0 : Nat) (v : Option Value) (h : Heap) (L : List Loc) : Prop := v = some (.int (1 : Int32)) ∧ Fr n0 L ∧ h = h0
set_option maxRecDepth 65536 in
set_option maxHeartbeats 40000000 in
theorem rm8 (l : Launch) (Z : State) (a0 : Array Value) (hw : ∀ d ∈ tables_1, d.before a0 Z = true) (ws : List Jvm.Cond) (w101 : Addr) (w127 : Addr) (w129 : Addr) (h0 : Heap) (n0 : Nat) (O0 : Old Z n0 h0) (S_ColumnRole_NAME : Sta Z Z.heap zs1 "NAME" zs2 (.ref w127)) (SF_w101_ordinal : Fld Z Z.heap w101 zs3 "ordinal" "I" (.int (7 : Int32))) (SF_w127_ordinal : Fld Z Z.heap w127 zs3 "ordinal" "I" (.int (20 : Int32))) (S_ColumnRole_ATTRIBUTE : Sta Z Z.heap zs1 "ATTRIBUTE" zs2 (.ref w129)) (SF_w129_ordinal : Fld Z Z.heap w129 zs3 "ordinal" "I" (.int (21 : Int32))) :
    MetFree l (⟨zs1, "isOneColumn", "()Z"⟩ : MethodName) (head1 (Jvm.Cond.code (⟨zs1, "isOneColumn", "()Z"⟩ : MethodName) prog_12_method_6_code 1 (some .boolean) :: ws) ({ frames := 0, cells := 0, slots := 0, locals := 0 } : Room)) (fun a U => a = #[(.ref w101)] ∧ Z.Warmed39 U.vm ∧ U.heap = h0) (fun _ _ _ _ _ => True) (fun _ U o U' => ∃ v L, o = .returned v ∧ Q8 Z w101 w127 w129 h0 n0 v U'.heap L ∧ FrameEnd U o U' L ({ frames := 0, cells := 0, slots := 0, locals := 0 } : Room).cells ({ frames := 0, cells := 0, slots := 0, locals := 0 } : Room).slots) := by
  refine MetFree.of_bodySF (plainFor_of_name pn_1) hisR ?_
  intro p e s m args below meth c s₁ Bd hml0 hP hK
  obtain ⟨rfl, hZ, hh⟩ := hP
  have hx := Bd.exec
  have hby := Bd.bytes
  have hml : c.maxLocals = 1 := hml0
  have hown : s.vm.findClass zs1 = some m.cls := findClass_of_methodNamed Bd.named
  have hnm := (name_of_methodNamed Bd.named Bd.method).1
  have X0 : Stand p l e ({ frames := 0, cells := 0, slots := 0, locals := 0 } : Room) s m #[(.ref w101)] below meth c s₁ [] 0 0 := Stand.of_body Bd
  have e0 : s₁.heap = h0 := by rw [← hh, Bd.state]; rfl
  have N0 := Fr.nil n0
  refine own_out ?_
  refine own_via (fun t k => castTop (ef_1 m w101) (XS.aloadN X0.here hx rfl (hb hby d1_0) rfl rfl k)) ?_
  obtain ⟨T376, X376, e376, st376⟩ := getS2 X0 hx hZ hown (host := "") (Or.inl (wd hw 54 rfl)) Via.refl e0 (S_ColumnRole_NAME.ext O0.2) (g := (mkF m 1 #[rv w101] [(.ref w101)])) rfl (hb hby d1_1)
  refine own_via (fun t k => st376 t (Jvm.RoadKit.acmp (g := (mkF m 4 #[rv w101] [(.ref w127), (.ref w101)])) X376 hx rfl rfl rfl (pc0 := 4) (pc' := 7) (same := false) rfl (hb hby d1_4) rfl (decide_eq_false fun q => (Fld.ne SF_w101_ordinal SF_w127_ordinal (by decide)) (Value.ref.inj q)) (by decide) (by decide) (XS.aloadN X376.here hx rfl (hb hby d1_7) rfl rfl k))) ?_
  show own_Goes p e below (T376.setTop (mkF m 8 #[rv w101] [(.ref w101)])) _
  obtain ⟨T377, X377, e377, st377⟩ := getS2 X376 hx hZ hown (host := "") (Or.inl (wd hw 55 rfl)) Via.refl e376 (S_ColumnRole_ATTRIBUTE.ext O0.2) (g := (mkF m 8 #[rv w101] [(.ref w101)])) rfl (hb hby d1_8)
  refine own_via (fun t k => st377 t (Jvm.RoadKit.acmp (g := (mkF m 11 #[rv w101] [(.ref w129), (.ref w101)])) X377 hx rfl rfl rfl (pc0 := 11) (pc' := 14) (same := false) rfl (hb hby d1_11) rfl (decide_eq_false fun q => (Fld.ne SF_w101_ordinal SF_w129_ordinal (by decide)) (Value.ref.inj q)) (by decide) (by decide) (XS.iconst X377.here hx rfl (hb hby d1_14) (XS.goto X377.here hx rfl (pc0 := 15) (pc' := 19) rfl (hb hby d1_15) (by decide) (by decide) k)))) ?_
  show own_Goes p e below (T377.setTop (mkF m 19 #[rv w101] [(.int (1 : Int32))])) _
  obtain ⟨fs, hr, hrun, hended, hW, hsame⟩ := X377.leave (v := some (.int (1 : Int32))) (fun h => by rw [Bd.returns] at h; cases h)
  refine own_end (t := T377.setFrames fs) ?_ ⟨_, hrun, hended, _, _, rfl, ?_, ⟨_, rfl⟩, hW, hsame.mono (by decide) (by decide)⟩
  · exact retN X377 hx (t := .boolean) Bd.returns (by simp) (hb hby d1_19) hr
  · show Q8 Z w101 w127 w129 h0 n0 _ T377.heap _
    rw [e377]
    exact ⟨rfl, N0, rfl⟩
def Q9 (Z : State) (w103 : Addr) (w127 : Addr) (w129 : Addr) (h0 : Heap) (n0 : Nat) (v : Option Value) (h : Heap) (L : List Loc) : Prop := v = some (.int (1 : Int32)) ∧ Fr n0 L ∧ h = h0
set_option maxRecDepth 65536 in
set_option maxHeartbeats 40000000 in
theorem rm9 (l : Launch) (Z : State) (a0 : Array Value) (hw : ∀ d ∈ tables_1, d.before a0 Z = true) (ws : List Jvm.Cond) (w103 : Addr) (w127 : Addr) (w129 : Addr) (h0 : Heap) (n0 : Nat) (O0 : Old Z n0 h0) (S_ColumnRole_NAME : Sta Z Z.heap zs1 "NAME" zs2 (.ref w127)) (SF_w103_ordinal : Fld Z Z.heap w103 zs3 "ordinal" "I" (.int (8 : Int32))) (SF_w127_ordinal : Fld Z Z.heap w127 zs3 "ordinal" "I" (.int (20 : Int32))) (S_ColumnRole_ATTRIBUTE : Sta Z Z.heap zs1 "ATTRIBUTE" zs2 (.ref w129)) (SF_w129_ordinal : Fld Z Z.heap w129 zs3 "ordinal" "I" (.int (21 : Int32))) :
    MetFree l (⟨zs1, "isOneColumn", "()Z"⟩ : MethodName) (head1 (Jvm.Cond.code (⟨zs1, "isOneColumn", "()Z"⟩ : MethodName) prog_12_method_6_code 1 (some .boolean) :: ws) ({ frames := 0, cells := 0, slots := 0, locals := 0 } : Room)) (fun a U => a = #[(.ref w103)] ∧ Z.Warmed39 U.vm ∧ U.heap = h0) (fun _ _ _ _ _ => True) (fun _ U o U' => ∃ v L, o = .returned v ∧ Q9 Z w103 w127 w129 h0 n0 v U'.heap L ∧ FrameEnd U o U' L ({ frames := 0, cells := 0, slots := 0, locals := 0 } : Room).cells ({ frames := 0, cells := 0, slots := 0, locals := 0 } : Room).slots) := by
  refine MetFree.of_bodySF (plainFor_of_name pn_1) hisR ?_
  intro p e s m args below meth c s₁ Bd hml0 hP hK
  obtain ⟨rfl, hZ, hh⟩ := hP
  have hx := Bd.exec
  have hby := Bd.bytes
  have hml : c.maxLocals = 1 := hml0
  have hown : s.vm.findClass zs1 = some m.cls := findClass_of_methodNamed Bd.named
  have hnm := (name_of_methodNamed Bd.named Bd.method).1
  have X0 : Stand p l e ({ frames := 0, cells := 0, slots := 0, locals := 0 } : Room) s m #[(.ref w103)] below meth c s₁ [] 0 0 := Stand.of_body Bd
  have e0 : s₁.heap = h0 := by rw [← hh, Bd.state]; rfl
  have N0 := Fr.nil n0
  refine own_out ?_
  refine own_via (fun t k => castTop (ef_1 m w103) (XS.aloadN X0.here hx rfl (hb hby d1_0) rfl rfl k)) ?_
  obtain ⟨T390, X390, e390, st390⟩ := getS2 X0 hx hZ hown (host := "") (Or.inl (wd hw 54 rfl)) Via.refl e0 (S_ColumnRole_NAME.ext O0.2) (g := (mkF m 1 #[rv w103] [(.ref w103)])) rfl (hb hby d1_1)
  refine own_via (fun t k => st390 t (Jvm.RoadKit.acmp (g := (mkF m 4 #[rv w103] [(.ref w127), (.ref w103)])) X390 hx rfl rfl rfl (pc0 := 4) (pc' := 7) (same := false) rfl (hb hby d1_4) rfl (decide_eq_false fun q => (Fld.ne SF_w103_ordinal SF_w127_ordinal (by decide)) (Value.ref.inj q)) (by decide) (by decide) (XS.aloadN X390.here hx rfl (hb hby d1_7) rfl rfl k))) ?_
  show own_Goes p e below (T390.setTop (mkF m 8 #[rv w103] [(.ref w103)])) _
  obtain ⟨T391, X391, e391, st391⟩ := getS2 X390 hx hZ hown (host := "") (Or.inl (wd hw 55 rfl)) Via.refl e390 (S_ColumnRole_ATTRIBUTE.ext O0.2) (g := (mkF m 8 #[rv w103] [(.ref w103)])) rfl (hb hby d1_8)
  refine own_via (fun t k => st391 t (Jvm.RoadKit.acmp (g := (mkF m 11 #[rv w103] [(.ref w129), (.ref w103)])) X391 hx rfl rfl rfl (pc0 := 11) (pc' := 14) (same := false) rfl (hb hby d1_11) rfl (decide_eq_false fun q => (Fld.ne SF_w103_ordinal SF_w129_ordinal (by decide)) (Value.ref.inj q)) (by decide) (by decide) (XS.iconst X391.here hx rfl (hb hby d1_14) (XS.goto X391.here hx rfl (pc0 := 15) (pc' := 19) rfl (hb hby d1_15) (by decide) (by decide) k)))) ?_
  show own_Goes p e below (T391.setTop (mkF m 19 #[rv w103] [(.int (1 : Int32))])) _
  obtain ⟨fs, hr, hrun, hended, hW, hsame⟩ := X391.leave (v := some (.int (1 : Int32))) (fun h => by rw [Bd.returns] at h; cases h)
  refine own_end (t := T391.setFrames fs) ?_ ⟨_, hrun, hended, _, _, rfl, ?_, ⟨_, rfl⟩, hW, hsame.mono (by decide) (by decide)⟩
  · exact retN X391 hx (t := .boolean) Bd.returns (by simp) (hb hby d1_19) hr
  · show Q9 Z w103 w127 w129 h0 n0 _ T391.heap _
    rw [e391]
    exact ⟨rfl, N0, rfl⟩
def Q10 (Z : State) (w105 : Addr) (w127 : Addr) (w129 : Addr) (h0 : Heap) (n0 : Nat) (v : Option Value) (h : Heap) (L : List Loc) : Prop := v = some (.int (1 : Int32)) ∧ Fr n0 L ∧ h = h0
set_option maxRecDepth 65536 in
set_option maxHeartbeats 40000000 in
theorem rm10 (l : Launch) (Z : State) (a0 : Array Value) (hw : ∀ d ∈ tables_1, d.before a0 Z = true) (ws : List Jvm.Cond) (w105 : Addr) (w127 : Addr) (w129 : Addr) (h0 : Heap) (n0 : Nat) (O0 : Old Z n0 h0) (S_ColumnRole_NAME : Sta Z Z.heap zs1 "NAME" zs2 (.ref w127)) (SF_w105_ordinal : Fld Z Z.heap w105 zs3 "ordinal" "I" (.int (9 : Int32))) (SF_w127_ordinal : Fld Z Z.heap w127 zs3 "ordinal" "I" (.int (20 : Int32))) (S_ColumnRole_ATTRIBUTE : Sta Z Z.heap zs1 "ATTRIBUTE" zs2 (.ref w129)) (SF_w129_ordinal : Fld Z Z.heap w129 zs3 "ordinal" "I" (.int (21 : Int32))) :
    MetFree l (⟨zs1, "isOneColumn", "()Z"⟩ : MethodName) (head1 (Jvm.Cond.code (⟨zs1, "isOneColumn", "()Z"⟩ : MethodName) prog_12_method_6_code 1 (some .boolean) :: ws) ({ frames := 0, cells := 0, slots := 0, locals := 0 } : Room)) (fun a U => a = #[(.ref w105)] ∧ Z.Warmed39 U.vm ∧ U.heap = h0) (fun _ _ _ _ _ => True) (fun _ U o U' => ∃ v L, o = .returned v ∧ Q10 Z w105 w127 w129 h0 n0 v U'.heap L ∧ FrameEnd U o U' L ({ frames := 0, cells := 0, slots := 0, locals := 0 } : Room).cells ({ frames := 0, cells := 0, slots := 0, locals := 0 } : Room).slots) := by
  refine MetFree.of_bodySF (plainFor_of_name pn_1) hisR ?_
  intro p e s m args below meth c s₁ Bd hml0 hP hK
  obtain ⟨rfl, hZ, hh⟩ := hP
  have hx := Bd.exec
  have hby := Bd.bytes
  have hml : c.maxLocals = 1 := hml0
  have hown : s.vm.findClass zs1 = some m.cls := findClass_of_methodNamed Bd.named
  have hnm := (name_of_methodNamed Bd.named Bd.method).1
  have X0 : Stand p l e ({ frames := 0, cells := 0, slots := 0, locals := 0 } : Room) s m #[(.ref w105)] below meth c s₁ [] 0 0 := Stand.of_body Bd
  have e0 : s₁.heap = h0 := by rw [← hh, Bd.state]; rfl
  have N0 := Fr.nil n0
  refine own_out ?_
  refine own_via (fun t k => castTop (ef_1 m w105) (XS.aloadN X0.here hx rfl (hb hby d1_0) rfl rfl k)) ?_
  obtain ⟨T404, X404, e404, st404⟩ := getS2 X0 hx hZ hown (host := "") (Or.inl (wd hw 54 rfl)) Via.refl e0 (S_ColumnRole_NAME.ext O0.2) (g := (mkF m 1 #[rv w105] [(.ref w105)])) rfl (hb hby d1_1)
  refine own_via (fun t k => st404 t (Jvm.RoadKit.acmp (g := (mkF m 4 #[rv w105] [(.ref w127), (.ref w105)])) X404 hx rfl rfl rfl (pc0 := 4) (pc' := 7) (same := false) rfl (hb hby d1_4) rfl (decide_eq_false fun q => (Fld.ne SF_w105_ordinal SF_w127_ordinal (by decide)) (Value.ref.inj q)) (by decide) (by decide) (XS.aloadN X404.here hx rfl (hb hby d1_7) rfl rfl k))) ?_
  show own_Goes p e below (T404.setTop (mkF m 8 #[rv w105] [(.ref w105)])) _
  obtain ⟨T405, X405, e405, st405⟩ := getS2 X404 hx hZ hown (host := "") (Or.inl (wd hw 55 rfl)) Via.refl e404 (S_ColumnRole_ATTRIBUTE.ext O0.2) (g := (mkF m 8 #[rv w105] [(.ref w105)])) rfl (hb hby d1_8)
  refine own_via (fun t k => st405 t (Jvm.RoadKit.acmp (g := (mkF m 11 #[rv w105] [(.ref w129), (.ref w105)])) X405 hx rfl rfl rfl (pc0 := 11) (pc' := 14) (same := false) rfl (hb hby d1_11) rfl (decide_eq_false fun q => (Fld.ne SF_w105_ordinal SF_w129_ordinal (by decide)) (Value.ref.inj q)) (by decide) (by decide) (XS.iconst X405.here hx rfl (hb hby d1_14) (XS.goto X405.here hx rfl (pc0 := 15) (pc' := 19) rfl (hb hby d1_15) (by decide) (by decide) k)))) ?_
  show own_Goes p e below (T405.setTop (mkF m 19 #[rv w105] [(.int (1 : Int32))])) _
  obtain ⟨fs, hr, hrun, hended, hW, hsame⟩ := X405.leave (v := some (.int (1 : Int32))) (fun h => by rw [Bd.returns] at h; cases h)
  refine own_end (t := T405.setFrames fs) ?_ ⟨_, hrun, hended, _, _, rfl, ?_, ⟨_, rfl⟩, hW, hsame.mono (by decide) (by decide)⟩
  · exact retN X405 hx (t := .boolean) Bd.returns (by simp) (hb hby d1_19) hr
  · show Q10 Z w105 w127 w129 h0 n0 _ T405.heap _
    rw [e405]
    exact ⟨rfl, N0, rfl⟩
def Q11 (Z : State) (w107 : Addr) (w127 : Addr) (w129 : Addr) (h0 : Heap) (n0 : Nat) (v : Option Value) (h : Heap) (L : List Loc) : Prop := v = some (.int (1 : Int32)) ∧ Fr n0 L ∧ h = h0
set_option maxRecDepth 65536 in
set_option maxHeartbeats 40000000 in
theorem rm11 (l : Launch) (Z : State) (a0 : Array Value) (hw : ∀ d ∈ tables_1, d.before a0 Z = true) (ws : List Jvm.Cond) (w107 : Addr) (w127 : Addr) (w129 : Addr) (h0 : Heap) (n0 : Nat) (O0 : Old Z n0 h0) (S_ColumnRole_NAME : Sta Z Z.heap zs1 "NAME" zs2 (.ref w127)) (SF_w107_ordinal : Fld Z Z.heap w107 zs3 "ordinal" "I" (.int (10 : Int32))) (SF_w127_ordinal : Fld Z Z.heap w127 zs3 "ordinal" "I" (.int (20 : Int32))) (S_ColumnRole_ATTRIBUTE : Sta Z Z.heap zs1 "ATTRIBUTE" zs2 (.ref w129)) (SF_w129_ordinal : Fld Z Z.heap w129 zs3 "ordinal" "I" (.int (21 : Int32))) :
    MetFree l (⟨zs1, "isOneColumn", "()Z"⟩ : MethodName) (head1 (Jvm.Cond.code (⟨zs1, "isOneColumn", "()Z"⟩ : MethodName) prog_12_method_6_code 1 (some .boolean) :: ws) ({ frames := 0, cells := 0, slots := 0, locals := 0 } : Room)) (fun a U => a = #[(.ref w107)] ∧ Z.Warmed39 U.vm ∧ U.heap = h0) (fun _ _ _ _ _ => True) (fun _ U o U' => ∃ v L, o = .returned v ∧ Q11 Z w107 w127 w129 h0 n0 v U'.heap L ∧ FrameEnd U o U' L ({ frames := 0, cells := 0, slots := 0, locals := 0 } : Room).cells ({ frames := 0, cells := 0, slots := 0, locals := 0 } : Room).slots) := by
  refine MetFree.of_bodySF (plainFor_of_name pn_1) hisR ?_
  intro p e s m args below meth c s₁ Bd hml0 hP hK
  obtain ⟨rfl, hZ, hh⟩ := hP
  have hx := Bd.exec
  have hby := Bd.bytes
  have hml : c.maxLocals = 1 := hml0
  have hown : s.vm.findClass zs1 = some m.cls := findClass_of_methodNamed Bd.named
  have hnm := (name_of_methodNamed Bd.named Bd.method).1
  have X0 : Stand p l e ({ frames := 0, cells := 0, slots := 0, locals := 0 } : Room) s m #[(.ref w107)] below meth c s₁ [] 0 0 := Stand.of_body Bd
  have e0 : s₁.heap = h0 := by rw [← hh, Bd.state]; rfl
  have N0 := Fr.nil n0
  refine own_out ?_
  refine own_via (fun t k => castTop (ef_1 m w107) (XS.aloadN X0.here hx rfl (hb hby d1_0) rfl rfl k)) ?_
  obtain ⟨T418, X418, e418, st418⟩ := getS2 X0 hx hZ hown (host := "") (Or.inl (wd hw 54 rfl)) Via.refl e0 (S_ColumnRole_NAME.ext O0.2) (g := (mkF m 1 #[rv w107] [(.ref w107)])) rfl (hb hby d1_1)
  refine own_via (fun t k => st418 t (Jvm.RoadKit.acmp (g := (mkF m 4 #[rv w107] [(.ref w127), (.ref w107)])) X418 hx rfl rfl rfl (pc0 := 4) (pc' := 7) (same := false) rfl (hb hby d1_4) rfl (decide_eq_false fun q => (Fld.ne SF_w107_ordinal SF_w127_ordinal (by decide)) (Value.ref.inj q)) (by decide) (by decide) (XS.aloadN X418.here hx rfl (hb hby d1_7) rfl rfl k))) ?_
  show own_Goes p e below (T418.setTop (mkF m 8 #[rv w107] [(.ref w107)])) _
  obtain ⟨T419, X419, e419, st419⟩ := getS2 X418 hx hZ hown (host := "") (Or.inl (wd hw 55 rfl)) Via.refl e418 (S_ColumnRole_ATTRIBUTE.ext O0.2) (g := (mkF m 8 #[rv w107] [(.ref w107)])) rfl (hb hby d1_8)
  refine own_via (fun t k => st419 t (Jvm.RoadKit.acmp (g := (mkF m 11 #[rv w107] [(.ref w129), (.ref w107)])) X419 hx rfl rfl rfl (pc0 := 11) (pc' := 14) (same := false) rfl (hb hby d1_11) rfl (decide_eq_false fun q => (Fld.ne SF_w107_ordinal SF_w129_ordinal (by decide)) (Value.ref.inj q)) (by decide) (by decide) (XS.iconst X419.here hx rfl (hb hby d1_14) (XS.goto X419.here hx rfl (pc0 := 15) (pc' := 19) rfl (hb hby d1_15) (by decide) (by decide) k)))) ?_
  show own_Goes p e below (T419.setTop (mkF m 19 #[rv w107] [(.int (1 : Int32))])) _
  obtain ⟨fs, hr, hrun, hended, hW, hsame⟩ := X419.leave (v := some (.int (1 : Int32))) (fun h => by rw [Bd.returns] at h; cases h)
  refine own_end (t := T419.setFrames fs) ?_ ⟨_, hrun, hended, _, _, rfl, ?_, ⟨_, rfl⟩, hW, hsame.mono (by decide) (by decide)⟩
  · exact retN X419 hx (t := .boolean) Bd.returns (by simp) (hb hby d1_19) hr
  · show Q11 Z w107 w127 w129 h0 n0 _ T419.heap _
    rw [e419]
    exact ⟨rfl, N0, rfl⟩
def Q12 (Z : State) (w109 : Addr) (w127 : Addr) (w129 : Addr) (h0 : Heap) (n0 : Nat) (v : Option Value) (h : Heap) (L : List Loc) : Prop := v = some (.int (1 : Int32)) ∧ Fr n0 L ∧ h = h0
set_option maxRecDepth 65536 in
set_option maxHeartbeats 40000000 in
theorem rm12 (l : Launch) (Z : State) (a0 : Array Value) (hw : ∀ d ∈ tables_1, d.before a0 Z = true) (ws : List Jvm.Cond) (w109 : Addr) (w127 : Addr) (w129 : Addr) (h0 : Heap) (n0 : Nat) (O0 : Old Z n0 h0) (S_ColumnRole_NAME : Sta Z Z.heap zs1 "NAME" zs2 (.ref w127)) (SF_w109_ordinal : Fld Z Z.heap w109 zs3 "ordinal" "I" (.int (11 : Int32))) (SF_w127_ordinal : Fld Z Z.heap w127 zs3 "ordinal" "I" (.int (20 : Int32))) (S_ColumnRole_ATTRIBUTE : Sta Z Z.heap zs1 "ATTRIBUTE" zs2 (.ref w129)) (SF_w129_ordinal : Fld Z Z.heap w129 zs3 "ordinal" "I" (.int (21 : Int32))) :
    MetFree l (⟨zs1, "isOneColumn", "()Z"⟩ : MethodName) (head1 (Jvm.Cond.code (⟨zs1, "isOneColumn", "()Z"⟩ : MethodName) prog_12_method_6_code 1 (some .boolean) :: ws) ({ frames := 0, cells := 0, slots := 0, locals := 0 } : Room)) (fun a U => a = #[(.ref w109)] ∧ Z.Warmed39 U.vm ∧ U.heap = h0) (fun _ _ _ _ _ => True) (fun _ U o U' => ∃ v L, o = .returned v ∧ Q12 Z w109 w127 w129 h0 n0 v U'.heap L ∧ FrameEnd U o U' L ({ frames := 0, cells := 0, slots := 0, locals := 0 } : Room).cells ({ frames := 0, cells := 0, slots := 0, locals := 0 } : Room).slots) := by
  refine MetFree.of_bodySF (plainFor_of_name pn_1) hisR ?_
  intro p e s m args below meth c s₁ Bd hml0 hP hK
  obtain ⟨rfl, hZ, hh⟩ := hP
  have hx := Bd.exec
  have hby := Bd.bytes
  have hml : c.maxLocals = 1 := hml0
  have hown : s.vm.findClass zs1 = some m.cls := findClass_of_methodNamed Bd.named
  have hnm := (name_of_methodNamed Bd.named Bd.method).1
  have X0 : Stand p l e ({ frames := 0, cells := 0, slots := 0, locals := 0 } : Room) s m #[(.ref w109)] below meth c s₁ [] 0 0 := Stand.of_body Bd
  have e0 : s₁.heap = h0 := by rw [← hh, Bd.state]; rfl
  have N0 := Fr.nil n0
  refine own_out ?_
  refine own_via (fun t k => castTop (ef_1 m w109) (XS.aloadN X0.here hx rfl (hb hby d1_0) rfl rfl k)) ?_
  obtain ⟨T432, X432, e432, st432⟩ := getS2 X0 hx hZ hown (host := "") (Or.inl (wd hw 54 rfl)) Via.refl e0 (S_ColumnRole_NAME.ext O0.2) (g := (mkF m 1 #[rv w109] [(.ref w109)])) rfl (hb hby d1_1)
  refine own_via (fun t k => st432 t (Jvm.RoadKit.acmp (g := (mkF m 4 #[rv w109] [(.ref w127), (.ref w109)])) X432 hx rfl rfl rfl (pc0 := 4) (pc' := 7) (same := false) rfl (hb hby d1_4) rfl (decide_eq_false fun q => (Fld.ne SF_w109_ordinal SF_w127_ordinal (by decide)) (Value.ref.inj q)) (by decide) (by decide) (XS.aloadN X432.here hx rfl (hb hby d1_7) rfl rfl k))) ?_
  show own_Goes p e below (T432.setTop (mkF m 8 #[rv w109] [(.ref w109)])) _
  obtain ⟨T433, X433, e433, st433⟩ := getS2 X432 hx hZ hown (host := "") (Or.inl (wd hw 55 rfl)) Via.refl e432 (S_ColumnRole_ATTRIBUTE.ext O0.2) (g := (mkF m 8 #[rv w109] [(.ref w109)])) rfl (hb hby d1_8)
  refine own_via (fun t k => st433 t (Jvm.RoadKit.acmp (g := (mkF m 11 #[rv w109] [(.ref w129), (.ref w109)])) X433 hx rfl rfl rfl (pc0 := 11) (pc' := 14) (same := false) rfl (hb hby d1_11) rfl (decide_eq_false fun q => (Fld.ne SF_w109_ordinal SF_w129_ordinal (by decide)) (Value.ref.inj q)) (by decide) (by decide) (XS.iconst X433.here hx rfl (hb hby d1_14) (XS.goto X433.here hx rfl (pc0 := 15) (pc' := 19) rfl (hb hby d1_15) (by decide) (by decide) k)))) ?_
  show own_Goes p e below (T433.setTop (mkF m 19 #[rv w109] [(.int (1 : Int32))])) _
  obtain ⟨fs, hr, hrun, hended, hW, hsame⟩ := X433.leave (v := some (.int (1 : Int32))) (fun h => by rw [Bd.returns] at h; cases h)
  refine own_end (t := T433.setFrames fs) ?_ ⟨_, hrun, hended, _, _, rfl, ?_, ⟨_, rfl⟩, hW, hsame.mono (by decide) (by decide)⟩
  · exact retN X433 hx (t := .boolean) Bd.returns (by simp) (hb hby d1_19) hr
  · show Q12 Z w109 w127 w129 h0 n0 _ T433.heap _
    rw [e433]
    exact ⟨rfl, N0, rfl⟩
def Q13 (Z : State) (w111 : Addr) (w127 : Addr) (w129 : Addr) (h0 : Heap) (n0 : Nat) (v : Option Value) (h : Heap) (L : List Loc) : Prop := v = some (.int (1 : Int32)) ∧ Fr n0 L ∧ h = h0
set_option maxRecDepth 65536 in
set_option maxHeartbeats 40000000 in
theorem rm13 (l : Launch) (Z : State) (a0 : Array Value) (hw : ∀ d ∈ tables_1, d.before a0 Z = true) (ws : List Jvm.Cond) (w111 : Addr) (w127 : Addr) (w129 : Addr) (h0 : Heap) (n0 : Nat) (O0 : Old Z n0 h0) (S_ColumnRole_NAME : Sta Z Z.heap zs1 "NAME" zs2 (.ref w127)) (SF_w111_ordinal : Fld Z Z.heap w111 zs3 "ordinal" "I" (.int (12 : Int32))) (SF_w127_ordinal : Fld Z Z.heap w127 zs3 "ordinal" "I" (.int (20 : Int32))) (S_ColumnRole_ATTRIBUTE : Sta Z Z.heap zs1 "ATTRIBUTE" zs2 (.ref w129)) (SF_w129_ordinal : Fld Z Z.heap w129 zs3 "ordinal" "I" (.int (21 : Int32))) :
    MetFree l (⟨zs1, "isOneColumn", "()Z"⟩ : MethodName) (head1 (Jvm.Cond.code (⟨zs1, "isOneColumn", "()Z"⟩ : MethodName) prog_12_method_6_code 1 (some .boolean) :: ws) ({ frames := 0, cells := 0, slots := 0, locals := 0 } : Room)) (fun a U => a = #[(.ref w111)] ∧ Z.Warmed39 U.vm ∧ U.heap = h0) (fun _ _ _ _ _ => True) (fun _ U o U' => ∃ v L, o = .returned v ∧ Q13 Z w111 w127 w129 h0 n0 v U'.heap L ∧ FrameEnd U o U' L ({ frames := 0, cells := 0, slots := 0, locals := 0 } : Room).cells ({ frames := 0, cells := 0, slots := 0, locals := 0 } : Room).slots) := by
  refine MetFree.of_bodySF (plainFor_of_name pn_1) hisR ?_
  intro p e s m args below meth c s₁ Bd hml0 hP hK
  obtain ⟨rfl, hZ, hh⟩ := hP
  have hx := Bd.exec
  have hby := Bd.bytes
  have hml : c.maxLocals = 1 := hml0
  have hown : s.vm.findClass zs1 = some m.cls := findClass_of_methodNamed Bd.named
  have hnm := (name_of_methodNamed Bd.named Bd.method).1
  have X0 : Stand p l e ({ frames := 0, cells := 0, slots := 0, locals := 0 } : Room) s m #[(.ref w111)] below meth c s₁ [] 0 0 := Stand.of_body Bd
  have e0 : s₁.heap = h0 := by rw [← hh, Bd.state]; rfl
  have N0 := Fr.nil n0
  refine own_out ?_
  refine own_via (fun t k => castTop (ef_1 m w111) (XS.aloadN X0.here hx rfl (hb hby d1_0) rfl rfl k)) ?_
  obtain ⟨T446, X446, e446, st446⟩ := getS2 X0 hx hZ hown (host := "") (Or.inl (wd hw 54 rfl)) Via.refl e0 (S_ColumnRole_NAME.ext O0.2) (g := (mkF m 1 #[rv w111] [(.ref w111)])) rfl (hb hby d1_1)
  refine own_via (fun t k => st446 t (Jvm.RoadKit.acmp (g := (mkF m 4 #[rv w111] [(.ref w127), (.ref w111)])) X446 hx rfl rfl rfl (pc0 := 4) (pc' := 7) (same := false) rfl (hb hby d1_4) rfl (decide_eq_false fun q => (Fld.ne SF_w111_ordinal SF_w127_ordinal (by decide)) (Value.ref.inj q)) (by decide) (by decide) (XS.aloadN X446.here hx rfl (hb hby d1_7) rfl rfl k))) ?_
  show own_Goes p e below (T446.setTop (mkF m 8 #[rv w111] [(.ref w111)])) _
  obtain ⟨T447, X447, e447, st447⟩ := getS2 X446 hx hZ hown (host := "") (Or.inl (wd hw 55 rfl)) Via.refl e446 (S_ColumnRole_ATTRIBUTE.ext O0.2) (g := (mkF m 8 #[rv w111] [(.ref w111)])) rfl (hb hby d1_8)
  refine own_via (fun t k => st447 t (Jvm.RoadKit.acmp (g := (mkF m 11 #[rv w111] [(.ref w129), (.ref w111)])) X447 hx rfl rfl rfl (pc0 := 11) (pc' := 14) (same := false) rfl (hb hby d1_11) rfl (decide_eq_false fun q => (Fld.ne SF_w111_ordinal SF_w129_ordinal (by decide)) (Value.ref.inj q)) (by decide) (by decide) (XS.iconst X447.here hx rfl (hb hby d1_14) (XS.goto X447.here hx rfl (pc0 := 15) (pc' := 19) rfl (hb hby d1_15) (by decide) (by decide) k)))) ?_
  show own_Goes p e below (T447.setTop (mkF m 19 #[rv w111] [(.int (1 : Int32))])) _
  obtain ⟨fs, hr, hrun, hended, hW, hsame⟩ := X447.leave (v := some (.int (1 : Int32))) (fun h => by rw [Bd.returns] at h; cases h)
  refine own_end (t := T447.setFrames fs) ?_ ⟨_, hrun, hended, _, _, rfl, ?_, ⟨_, rfl⟩, hW, hsame.mono (by decide) (by decide)⟩
  · exact retN X447 hx (t := .boolean) Bd.returns (by simp) (hb hby d1_19) hr
  · show Q13 Z w111 w127 w129 h0 n0 _ T447.heap _
    rw [e447]
    exact ⟨rfl, N0, rfl⟩
def Q14 (Z : State) (w113 : Addr) (w127 : Addr) (w129 : Addr) (h0 : Heap) (n0 : Nat) (v : Option Value) (h : Heap) (L : List Loc) : Prop := v = some (.int (1 : Int32)) ∧ Fr n0 L ∧ h = h0
set_option maxRecDepth 65536 in
set_option maxHeartbeats 40000000 in
theorem rm14 (l : Launch) (Z : State) (a0 : Array Value) (hw : ∀ d ∈ tables_1, d.before a0 Z = true) (ws : List Jvm.Cond) (w113 : Addr) (w127 : Addr) (w129 : Addr) (h0 : Heap) (n0 : Nat) (O0 : Old Z n0 h0) (S_ColumnRole_NAME : Sta Z Z.heap zs1 "NAME" zs2 (.ref w127)) (SF_w113_ordinal : Fld Z Z.heap w113 zs3 "ordinal" "I" (.int (13 : Int32))) (SF_w127_ordinal : Fld Z Z.heap w127 zs3 "ordinal" "I" (.int (20 : Int32))) (S_ColumnRole_ATTRIBUTE : Sta Z Z.heap zs1 "ATTRIBUTE" zs2 (.ref w129)) (SF_w129_ordinal : Fld Z Z.heap w129 zs3 "ordinal" "I" (.int (21 : Int32))) :
    MetFree l (⟨zs1, "isOneColumn", "()Z"⟩ : MethodName) (head1 (Jvm.Cond.code (⟨zs1, "isOneColumn", "()Z"⟩ : MethodName) prog_12_method_6_code 1 (some .boolean) :: ws) ({ frames := 0, cells := 0, slots := 0, locals := 0 } : Room)) (fun a U => a = #[(.ref w113)] ∧ Z.Warmed39 U.vm ∧ U.heap = h0) (fun _ _ _ _ _ => True) (fun _ U o U' => ∃ v L, o = .returned v ∧ Q14 Z w113 w127 w129 h0 n0 v U'.heap L ∧ FrameEnd U o U' L ({ frames := 0, cells := 0, slots := 0, locals := 0 } : Room).cells ({ frames := 0, cells := 0, slots := 0, locals := 0 } : Room).slots) := by
  refine MetFree.of_bodySF (plainFor_of_name pn_1) hisR ?_
  intro p e s m args below meth c s₁ Bd hml0 hP hK
  obtain ⟨rfl, hZ, hh⟩ := hP
  have hx := Bd.exec
  have hby := Bd.bytes
  have hml : c.maxLocals = 1 := hml0
  have hown : s.vm.findClass zs1 = some m.cls := findClass_of_methodNamed Bd.named
  have hnm := (name_of_methodNamed Bd.named Bd.method).1
  have X0 : Stand p l e ({ frames := 0, cells := 0, slots := 0, locals := 0 } : Room) s m #[(.ref w113)] below meth c s₁ [] 0 0 := Stand.of_body Bd
  have e0 : s₁.heap = h0 := by rw [← hh, Bd.state]; rfl
  have N0 := Fr.nil n0
  refine own_out ?_
  refine own_via (fun t k => castTop (ef_1 m w113) (XS.aloadN X0.here hx rfl (hb hby d1_0) rfl rfl k)) ?_
  obtain ⟨T460, X460, e460, st460⟩ := getS2 X0 hx hZ hown (host := "") (Or.inl (wd hw 54 rfl)) Via.refl e0 (S_ColumnRole_NAME.ext O0.2) (g := (mkF m 1 #[rv w113] [(.ref w113)])) rfl (hb hby d1_1)
  refine own_via (fun t k => st460 t (Jvm.RoadKit.acmp (g := (mkF m 4 #[rv w113] [(.ref w127), (.ref w113)])) X460 hx rfl rfl rfl (pc0 := 4) (pc' := 7) (same := false) rfl (hb hby d1_4) rfl (decide_eq_false fun q => (Fld.ne SF_w113_ordinal SF_w127_ordinal (by decide)) (Value.ref.inj q)) (by decide) (by decide) (XS.aloadN X460.here hx rfl (hb hby d1_7) rfl rfl k))) ?_
  show own_Goes p e below (T460.setTop (mkF m 8 #[rv w113] [(.ref w113)])) _
  obtain ⟨T461, X461, e461, st461⟩ := getS2 X460 hx hZ hown (host := "") (Or.inl (wd hw 55 rfl)) Via.refl e460 (S_ColumnRole_ATTRIBUTE.ext O0.2) (g := (mkF m 8 #[rv w113] [(.ref w113)])) rfl (hb hby d1_8)
  refine own_via (fun t k => st461 t (Jvm.RoadKit.acmp (g := (mkF m 11 #[rv w113] [(.ref w129), (.ref w113)])) X461 hx rfl rfl rfl (pc0 := 11) (pc' := 14) (same := false) rfl (hb hby d1_11) rfl (decide_eq_false fun q => (Fld.ne SF_w113_ordinal SF_w129_ordinal (by decide)) (Value.ref.inj q)) (by decide) (by decide) (XS.iconst X461.here hx rfl (hb hby d1_14) (XS.goto X461.here hx rfl (pc0 := 15) (pc' := 19) rfl (hb hby d1_15) (by decide) (by decide) k)))) ?_
  show own_Goes p e below (T461.setTop (mkF m 19 #[rv w113] [(.int (1 : Int32))])) _
  obtain ⟨fs, hr, hrun, hended, hW, hsame⟩ := X461.leave (v := some (.int (1 : Int32))) (fun h => by rw [Bd.returns] at h; cases h)
  refine own_end (t := T461.setFrames fs) ?_ ⟨_, hrun, hended, _, _, rfl, ?_, ⟨_, rfl⟩, hW, hsame.mono (by decide) (by decide)⟩
  · exact retN X461 hx (t := .boolean) Bd.returns (by simp) (hb hby d1_19) hr
  · show Q14 Z w113 w127 w129 h0 n0 _ T461.heap _
    rw [e461]
    exact ⟨rfl, N0, rfl⟩
def Q15 (Z : State) (w115 : Addr) (w127 : Addr) (w129 : Addr) (h0 : Heap) (n0 : Nat) (v : Option Value) (h : Heap) (L : List Loc) : Prop := v = some (.int (1 : Int32)) ∧ Fr n0 L ∧ h = h0
set_option maxRecDepth 65536 in
set_option maxHeartbeats 40000000 in
theorem rm15 (l : Launch) (Z : State) (a0 : Array Value) (hw : ∀ d ∈ tables_1, d.before a0 Z = true) (ws : List Jvm.Cond) (w115 : Addr) (w127 : Addr) (w129 : Addr) (h0 : Heap) (n0 : Nat) (O0 : Old Z n0 h0) (S_ColumnRole_NAME : Sta Z Z.heap zs1 "NAME" zs2 (.ref w127)) (SF_w115_ordinal : Fld Z Z.heap w115 zs3 "ordinal" "I" (.int (14 : Int32))) (SF_w127_ordinal : Fld Z Z.heap w127 zs3 "ordinal" "I" (.int (20 : Int32))) (S_ColumnRole_ATTRIBUTE : Sta Z Z.heap zs1 "ATTRIBUTE" zs2 (.ref w129)) (SF_w129_ordinal : Fld Z Z.heap w129 zs3 "ordinal" "I" (.int (21 : Int32))) :
    MetFree l (⟨zs1, "isOneColumn", "()Z"⟩ : MethodName) (head1 (Jvm.Cond.code (⟨zs1, "isOneColumn", "()Z"⟩ : MethodName) prog_12_method_6_code 1 (some .boolean) :: ws) ({ frames := 0, cells := 0, slots := 0, locals := 0 } : Room)) (fun a U => a = #[(.ref w115)] ∧ Z.Warmed39 U.vm ∧ U.heap = h0) (fun _ _ _ _ _ => True) (fun _ U o U' => ∃ v L, o = .returned v ∧ Q15 Z w115 w127 w129 h0 n0 v U'.heap L ∧ FrameEnd U o U' L ({ frames := 0, cells := 0, slots := 0, locals := 0 } : Room).cells ({ frames := 0, cells := 0, slots := 0, locals := 0 } : Room).slots) := by
  refine MetFree.of_bodySF (plainFor_of_name pn_1) hisR ?_
  intro p e s m args below meth c s₁ Bd hml0 hP hK
  obtain ⟨rfl, hZ, hh⟩ := hP
  have hx := Bd.exec
  have hby := Bd.bytes
  have hml : c.maxLocals = 1 := hml0
  have hown : s.vm.findClass zs1 = some m.cls := findClass_of_methodNamed Bd.named
  have hnm := (name_of_methodNamed Bd.named Bd.method).1
  have X0 : Stand p l e ({ frames := 0, cells := 0, slots := 0, locals := 0 } : Room) s m #[(.ref w115)] below meth c s₁ [] 0 0 := Stand.of_body Bd
  have e0 : s₁.heap = h0 := by rw [← hh, Bd.state]; rfl
  have N0 := Fr.nil n0
  refine own_out ?_
  refine own_via (fun t k => castTop (ef_1 m w115) (XS.aloadN X0.here hx rfl (hb hby d1_0) rfl rfl k)) ?_
  obtain ⟨T474, X474, e474, st474⟩ := getS2 X0 hx hZ hown (host := "") (Or.inl (wd hw 54 rfl)) Via.refl e0 (S_ColumnRole_NAME.ext O0.2) (g := (mkF m 1 #[rv w115] [(.ref w115)])) rfl (hb hby d1_1)
  refine own_via (fun t k => st474 t (Jvm.RoadKit.acmp (g := (mkF m 4 #[rv w115] [(.ref w127), (.ref w115)])) X474 hx rfl rfl rfl (pc0 := 4) (pc' := 7) (same := false) rfl (hb hby d1_4) rfl (decide_eq_false fun q => (Fld.ne SF_w115_ordinal SF_w127_ordinal (by decide)) (Value.ref.inj q)) (by decide) (by decide) (XS.aloadN X474.here hx rfl (hb hby d1_7) rfl rfl k))) ?_
  show own_Goes p e below (T474.setTop (mkF m 8 #[rv w115] [(.ref w115)])) _
  obtain ⟨T475, X475, e475, st475⟩ := getS2 X474 hx hZ hown (host := "") (Or.inl (wd hw 55 rfl)) Via.refl e474 (S_ColumnRole_ATTRIBUTE.ext O0.2) (g := (mkF m 8 #[rv w115] [(.ref w115)])) rfl (hb hby d1_8)
  refine own_via (fun t k => st475 t (Jvm.RoadKit.acmp (g := (mkF m 11 #[rv w115] [(.ref w129), (.ref w115)])) X475 hx rfl rfl rfl (pc0 := 11) (pc' := 14) (same := false) rfl (hb hby d1_11) rfl (decide_eq_false fun q => (Fld.ne SF_w115_ordinal SF_w129_ordinal (by decide)) (Value.ref.inj q)) (by decide) (by decide) (XS.iconst X475.here hx rfl (hb hby d1_14) (XS.goto X475.here hx rfl (pc0 := 15) (pc' := 19) rfl (hb hby d1_15) (by decide) (by decide) k)))) ?_
  show own_Goes p e below (T475.setTop (mkF m 19 #[rv w115] [(.int (1 : Int32))])) _
  obtain ⟨fs, hr, hrun, hended, hW, hsame⟩ := X475.leave (v := some (.int (1 : Int32))) (fun h => by rw [Bd.returns] at h; cases h)
  refine own_end (t := T475.setFrames fs) ?_ ⟨_, hrun, hended, _, _, rfl, ?_, ⟨_, rfl⟩, hW, hsame.mono (by decide) (by decide)⟩
  · exact retN X475 hx (t := .boolean) Bd.returns (by simp) (hb hby d1_19) hr
  · show Q15 Z w115 w127 w129 h0 n0 _ T475.heap _
    rw [e475]
    exact ⟨rfl, N0, rfl⟩
def Q16 (Z : State) (w117 : Addr) (w127 : Addr) (w129 : Addr) (h0 : Heap) (n0 : Nat) (v : Option Value) (h : Heap) (L : List Loc) : Prop := v = some (.int (1 : Int32)) ∧ Fr n0 L ∧ h = h0
set_option maxRecDepth 65536 in
set_option maxHeartbeats 40000000 in
theorem rm16 (l : Launch) (Z : State) (a0 : Array Value) (hw : ∀ d ∈ tables_1, d.before a0 Z = true) (ws : List Jvm.Cond) (w117 : Addr) (w127 : Addr) (w129 : Addr) (h0 : Heap) (n0 : Nat) (O0 : Old Z n0 h0) (S_ColumnRole_NAME : Sta Z Z.heap zs1 "NAME" zs2 (.ref w127)) (SF_w117_ordinal : Fld Z Z.heap w117 zs3 "ordinal" "I" (.int (15 : Int32))) (SF_w127_ordinal : Fld Z Z.heap w127 zs3 "ordinal" "I" (.int (20 : Int32))) (S_ColumnRole_ATTRIBUTE : Sta Z Z.heap zs1 "ATTRIBUTE" zs2 (.ref w129)) (SF_w129_ordinal : Fld Z Z.heap w129 zs3 "ordinal" "I" (.int (21 : Int32))) :
    MetFree l (⟨zs1, "isOneColumn", "()Z"⟩ : MethodName) (head1 (Jvm.Cond.code (⟨zs1, "isOneColumn", "()Z"⟩ : MethodName) prog_12_method_6_code 1 (some .boolean) :: ws) ({ frames := 0, cells := 0, slots := 0, locals := 0 } : Room)) (fun a U => a = #[(.ref w117)] ∧ Z.Warmed39 U.vm ∧ U.heap = h0) (fun _ _ _ _ _ => True) (fun _ U o U' => ∃ v L, o = .returned v ∧ Q16 Z w117 w127 w129 h0 n0 v U'.heap L ∧ FrameEnd U o U' L ({ frames := 0, cells := 0, slots := 0, locals := 0 } : Room).cells ({ frames := 0, cells := 0, slots := 0, locals := 0 } : Room).slots) := by
  refine MetFree.of_bodySF (plainFor_of_name pn_1) hisR ?_
  intro p e s m args below meth c s₁ Bd hml0 hP hK
  obtain ⟨rfl, hZ, hh⟩ := hP
  have hx := Bd.exec
  have hby := Bd.bytes
  have hml : c.maxLocals = 1 := hml0
  have hown : s.vm.findClass zs1 = some m.cls := findClass_of_methodNamed Bd.named
  have hnm := (name_of_methodNamed Bd.named Bd.method).1
  have X0 : Stand p l e ({ frames := 0, cells := 0, slots := 0, locals := 0 } : Room) s m #[(.ref w117)] below meth c s₁ [] 0 0 := Stand.of_body Bd
  have e0 : s₁.heap = h0 := by rw [← hh, Bd.state]; rfl
  have N0 := Fr.nil n0
  refine own_out ?_
  refine own_via (fun t k => castTop (ef_1 m w117) (XS.aloadN X0.here hx rfl (hb hby d1_0) rfl rfl k)) ?_
  obtain ⟨T488, X488, e488, st488⟩ := getS2 X0 hx hZ hown (host := "") (Or.inl (wd hw 54 rfl)) Via.refl e0 (S_ColumnRole_NAME.ext O0.2) (g := (mkF m 1 #[rv w117] [(.ref w117)])) rfl (hb hby d1_1)
  refine own_via (fun t k => st488 t (Jvm.RoadKit.acmp (g := (mkF m 4 #[rv w117] [(.ref w127), (.ref w117)])) X488 hx rfl rfl rfl (pc0 := 4) (pc' := 7) (same := false) rfl (hb hby d1_4) rfl (decide_eq_false fun q => (Fld.ne SF_w117_ordinal SF_w127_ordinal (by decide)) (Value.ref.inj q)) (by decide) (by decide) (XS.aloadN X488.here hx rfl (hb hby d1_7) rfl rfl k))) ?_
  show own_Goes p e below (T488.setTop (mkF m 8 #[rv w117] [(.ref w117)])) _
  obtain ⟨T489, X489, e489, st489⟩ := getS2 X488 hx hZ hown (host := "") (Or.inl (wd hw 55 rfl)) Via.refl e488 (S_ColumnRole_ATTRIBUTE.ext O0.2) (g := (mkF m 8 #[rv w117] [(.ref w117)])) rfl (hb hby d1_8)
  refine own_via (fun t k => st489 t (Jvm.RoadKit.acmp (g := (mkF m 11 #[rv w117] [(.ref w129), (.ref w117)])) X489 hx rfl rfl rfl (pc0 := 11) (pc' := 14) (same := false) rfl (hb hby d1_11) rfl (decide_eq_false fun q => (Fld.ne SF_w117_ordinal SF_w129_ordinal (by decide)) (Value.ref.inj q)) (by decide) (by decide) (XS.iconst X489.here hx rfl (hb hby d1_14) (XS.goto X489.here hx rfl (pc0 := 15) (pc' := 19) rfl (hb hby d1_15) (by decide) (by decide) k)))) ?_
  show own_Goes p e below (T489.setTop (mkF m 19 #[rv w117] [(.int (1 : Int32))])) _
  obtain ⟨fs, hr, hrun, hended, hW, hsame⟩ := X489.leave (v := some (.int (1 : Int32))) (fun h => by rw [Bd.returns] at h; cases h)
  refine own_end (t := T489.setFrames fs) ?_ ⟨_, hrun, hended, _, _, rfl, ?_, ⟨_, rfl⟩, hW, hsame.mono (by decide) (by decide)⟩
  · exact retN X489 hx (t := .boolean) Bd.returns (by simp) (hb hby d1_19) hr
  · show Q16 Z w117 w127 w129 h0 n0 _ T489.heap _
    rw [e489]
    exact ⟨rfl, N0, rfl⟩
def Q17 (Z : State) (w119 : Addr) (w127 : Addr) (w129 : Addr) (h0 : Heap) (n0 : Nat) (v : Option Value) (h : Heap) (L : List Loc) : Prop := v = some (.int (1 : Int32)) ∧ Fr n0 L ∧ h = h0
set_option maxRecDepth 65536 in
set_option maxHeartbeats 40000000 in
theorem rm17 (l : Launch) (Z : State) (a0 : Array Value) (hw : ∀ d ∈ tables_1, d.before a0 Z = true) (ws : List Jvm.Cond) (w119 : Addr) (w127 : Addr) (w129 : Addr) (h0 : Heap) (n0 : Nat) (O0 : Old Z n0 h0) (S_ColumnRole_NAME : Sta Z Z.heap zs1 "NAME" zs2 (.ref w127)) (SF_w119_ordinal : Fld Z Z.heap w119 zs3 "ordinal" "I" (.int (16 : Int32))) (SF_w127_ordinal : Fld Z Z.heap w127 zs3 "ordinal" "I" (.int (20 : Int32))) (S_ColumnRole_ATTRIBUTE : Sta Z Z.heap zs1 "ATTRIBUTE" zs2 (.ref w129)) (SF_w129_ordinal : Fld Z Z.heap w129 zs3 "ordinal" "I" (.int (21 : Int32))) :
    MetFree l (⟨zs1, "isOneColumn", "()Z"⟩ : MethodName) (head1 (Jvm.Cond.code (⟨zs1, "isOneColumn", "()Z"⟩ : MethodName) prog_12_method_6_code 1 (some .boolean) :: ws) ({ frames := 0, cells := 0, slots := 0, locals := 0 } : Room)) (fun a U => a = #[(.ref w119)] ∧ Z.Warmed39 U.vm ∧ U.heap = h0) (fun _ _ _ _ _ => True) (fun _ U o U' => ∃ v L, o = .returned v ∧ Q17 Z w119 w127 w129 h0 n0 v U'.heap L ∧ FrameEnd U o U' L ({ frames := 0, cells := 0, slots := 0, locals := 0 } : Room).cells ({ frames := 0, cells := 0, slots := 0, locals := 0 } : Room).slots) := by
  refine MetFree.of_bodySF (plainFor_of_name pn_1) hisR ?_
  intro p e s m args below meth c s₁ Bd hml0 hP hK
  obtain ⟨rfl, hZ, hh⟩ := hP
  have hx := Bd.exec
  have hby := Bd.bytes
  have hml : c.maxLocals = 1 := hml0
  have hown : s.vm.findClass zs1 = some m.cls := findClass_of_methodNamed Bd.named
  have hnm := (name_of_methodNamed Bd.named Bd.method).1
  have X0 : Stand p l e ({ frames := 0, cells := 0, slots := 0, locals := 0 } : Room) s m #[(.ref w119)] below meth c s₁ [] 0 0 := Stand.of_body Bd
  have e0 : s₁.heap = h0 := by rw [← hh, Bd.state]; rfl
  have N0 := Fr.nil n0
  refine own_out ?_
  refine own_via (fun t k => castTop (ef_1 m w119) (XS.aloadN X0.here hx rfl (hb hby d1_0) rfl rfl k)) ?_
  obtain ⟨T502, X502, e502, st502⟩ := getS2 X0 hx hZ hown (host := "") (Or.inl (wd hw 54 rfl)) Via.refl e0 (S_ColumnRole_NAME.ext O0.2) (g := (mkF m 1 #[rv w119] [(.ref w119)])) rfl (hb hby d1_1)
  refine own_via (fun t k => st502 t (Jvm.RoadKit.acmp (g := (mkF m 4 #[rv w119] [(.ref w127), (.ref w119)])) X502 hx rfl rfl rfl (pc0 := 4) (pc' := 7) (same := false) rfl (hb hby d1_4) rfl (decide_eq_false fun q => (Fld.ne SF_w119_ordinal SF_w127_ordinal (by decide)) (Value.ref.inj q)) (by decide) (by decide) (XS.aloadN X502.here hx rfl (hb hby d1_7) rfl rfl k))) ?_
  show own_Goes p e below (T502.setTop (mkF m 8 #[rv w119] [(.ref w119)])) _
  obtain ⟨T503, X503, e503, st503⟩ := getS2 X502 hx hZ hown (host := "") (Or.inl (wd hw 55 rfl)) Via.refl e502 (S_ColumnRole_ATTRIBUTE.ext O0.2) (g := (mkF m 8 #[rv w119] [(.ref w119)])) rfl (hb hby d1_8)
  refine own_via (fun t k => st503 t (Jvm.RoadKit.acmp (g := (mkF m 11 #[rv w119] [(.ref w129), (.ref w119)])) X503 hx rfl rfl rfl (pc0 := 11) (pc' := 14) (same := false) rfl (hb hby d1_11) rfl (decide_eq_false fun q => (Fld.ne SF_w119_ordinal SF_w129_ordinal (by decide)) (Value.ref.inj q)) (by decide) (by decide) (XS.iconst X503.here hx rfl (hb hby d1_14) (XS.goto X503.here hx rfl (pc0 := 15) (pc' := 19) rfl (hb hby d1_15) (by decide) (by decide) k)))) ?_
  show own_Goes p e below (T503.setTop (mkF m 19 #[rv w119] [(.int (1 : Int32))])) _
  obtain ⟨fs, hr, hrun, hended, hW, hsame⟩ := X503.leave (v := some (.int (1 : Int32))) (fun h => by rw [Bd.returns] at h; cases h)
  refine own_end (t := T503.setFrames fs) ?_ ⟨_, hrun, hended, _, _, rfl, ?_, ⟨_, rfl⟩, hW, hsame.mono (by decide) (by decide)⟩
  · exact retN X503 hx (t := .boolean) Bd.returns (by simp) (hb hby d1_19) hr
  · show Q17 Z w119 w127 w129 h0 n0 _ T503.heap _
    rw [e503]
    exact ⟨rfl, N0, rfl⟩
def Q18 (Z : State) (w121 : Addr) (w127 : Addr) (w129 : Addr) (h0 : Heap) (n0 : Nat) (v : Option Value) (h : Heap) (L : List Loc) : Prop := v = some (.int (1 : Int32)) ∧ Fr n0 L ∧ h = h0
set_option maxRecDepth 65536 in
set_option maxHeartbeats 40000000 in
theorem rm18 (l : Launch) (Z : State) (a0 : Array Value) (hw : ∀ d ∈ tables_1, d.before a0 Z = true) (ws : List Jvm.Cond) (w121 : Addr) (w127 : Addr) (w129 : Addr) (h0 : Heap) (n0 : Nat) (O0 : Old Z n0 h0) (S_ColumnRole_NAME : Sta Z Z.heap zs1 "NAME" zs2 (.ref w127)) (SF_w121_ordinal : Fld Z Z.heap w121 zs3 "ordinal" "I" (.int (17 : Int32))) (SF_w127_ordinal : Fld Z Z.heap w127 zs3 "ordinal" "I" (.int (20 : Int32))) (S_ColumnRole_ATTRIBUTE : Sta Z Z.heap zs1 "ATTRIBUTE" zs2 (.ref w129)) (SF_w129_ordinal : Fld Z Z.heap w129 zs3 "ordinal" "I" (.int (21 : Int32))) :
    MetFree l (⟨zs1, "isOneColumn", "()Z"⟩ : MethodName) (head1 (Jvm.Cond.code (⟨zs1, "isOneColumn", "()Z"⟩ : MethodName) prog_12_method_6_code 1 (some .boolean) :: ws) ({ frames := 0, cells := 0, slots := 0, locals := 0 } : Room)) (fun a U => a = #[(.ref w121)] ∧ Z.Warmed39 U.vm ∧ U.heap = h0) (fun _ _ _ _ _ => True) (fun _ U o U' => ∃ v L, o = .returned v ∧ Q18 Z w121 w127 w129 h0 n0 v U'.heap L ∧ FrameEnd U o U' L ({ frames := 0, cells := 0, slots := 0, locals := 0 } : Room).cells ({ frames := 0, cells := 0, slots := 0, locals := 0 } : Room).slots) := by
  refine MetFree.of_bodySF (plainFor_of_name pn_1) hisR ?_
  intro p e s m args below meth c s₁ Bd hml0 hP hK
  obtain ⟨rfl, hZ, hh⟩ := hP
  have hx := Bd.exec
  have hby := Bd.bytes
  have hml : c.maxLocals = 1 := hml0
  have hown : s.vm.findClass zs1 = some m.cls := findClass_of_methodNamed Bd.named
  have hnm := (name_of_methodNamed Bd.named Bd.method).1
  have X0 : Stand p l e ({ frames := 0, cells := 0, slots := 0, locals := 0 } : Room) s m #[(.ref w121)] below meth c s₁ [] 0 0 := Stand.of_body Bd
  have e0 : s₁.heap = h0 := by rw [← hh, Bd.state]; rfl
  have N0 := Fr.nil n0
  refine own_out ?_
  refine own_via (fun t k => castTop (ef_1 m w121) (XS.aloadN X0.here hx rfl (hb hby d1_0) rfl rfl k)) ?_
  obtain ⟨T516, X516, e516, st516⟩ := getS2 X0 hx hZ hown (host := "") (Or.inl (wd hw 54 rfl)) Via.refl e0 (S_ColumnRole_NAME.ext O0.2) (g := (mkF m 1 #[rv w121] [(.ref w121)])) rfl (hb hby d1_1)
  refine own_via (fun t k => st516 t (Jvm.RoadKit.acmp (g := (mkF m 4 #[rv w121] [(.ref w127), (.ref w121)])) X516 hx rfl rfl rfl (pc0 := 4) (pc' := 7) (same := false) rfl (hb hby d1_4) rfl (decide_eq_false fun q => (Fld.ne SF_w121_ordinal SF_w127_ordinal (by decide)) (Value.ref.inj q)) (by decide) (by decide) (XS.aloadN X516.here hx rfl (hb hby d1_7) rfl rfl k))) ?_
  show own_Goes p e below (T516.setTop (mkF m 8 #[rv w121] [(.ref w121)])) _
  obtain ⟨T517, X517, e517, st517⟩ := getS2 X516 hx hZ hown (host := "") (Or.inl (wd hw 55 rfl)) Via.refl e516 (S_ColumnRole_ATTRIBUTE.ext O0.2) (g := (mkF m 8 #[rv w121] [(.ref w121)])) rfl (hb hby d1_8)
  refine own_via (fun t k => st517 t (Jvm.RoadKit.acmp (g := (mkF m 11 #[rv w121] [(.ref w129), (.ref w121)])) X517 hx rfl rfl rfl (pc0 := 11) (pc' := 14) (same := false) rfl (hb hby d1_11) rfl (decide_eq_false fun q => (Fld.ne SF_w121_ordinal SF_w129_ordinal (by decide)) (Value.ref.inj q)) (by decide) (by decide) (XS.iconst X517.here hx rfl (hb hby d1_14) (XS.goto X517.here hx rfl (pc0 := 15) (pc' := 19) rfl (hb hby d1_15) (by decide) (by decide) k)))) ?_
  show own_Goes p e below (T517.setTop (mkF m 19 #[rv w121] [(.int (1 : Int32))])) _
  obtain ⟨fs, hr, hrun, hended, hW, hsame⟩ := X517.leave (v := some (.int (1 : Int32))) (fun h => by rw [Bd.returns] at h; cases h)
  refine own_end (t := T517.setFrames fs) ?_ ⟨_, hrun, hended, _, _, rfl, ?_, ⟨_, rfl⟩, hW, hsame.mono (by decide) (by decide)⟩
  · exact retN X517 hx (t := .boolean) Bd.returns (by simp) (hb hby d1_19) hr
  · show Q18 Z w121 w127 w129 h0 n0 _ T517.heap _
    rw [e517]
    exact ⟨rfl, N0, rfl⟩
def Q19 (Z : State) (w123 : Addr) (w127 : Addr) (w129 : Addr) (h0 : Heap) (n0 : Nat) (v : Option Value) (h : Heap) (L : List Loc) : Prop := v = some (.int (1 : Int32)) ∧ Fr n0 L ∧ h = h0
set_option maxRecDepth 65536 in
set_option maxHeartbeats 40000000 in
theorem rm19 (l : Launch) (Z : State) (a0 : Array Value) (hw : ∀ d ∈ tables_1, d.before a0 Z = true) (ws : List Jvm.Cond) (w123 : Addr) (w127 : Addr) (w129 : Addr) (h0 : Heap) (n0 : Nat) (O0 : Old Z n0 h0) (S_ColumnRole_NAME : Sta Z Z.heap zs1 "NAME" zs2 (.ref w127)) (SF_w123_ordinal : Fld Z Z.heap w123 zs3 "ordinal" "I" (.int (18 : Int32))) (SF_w127_ordinal : Fld Z Z.heap w127 zs3 "ordinal" "I" (.int (20 : Int32))) (S_ColumnRole_ATTRIBUTE : Sta Z Z.heap zs1 "ATTRIBUTE" zs2 (.ref w129)) (SF_w129_ordinal : Fld Z Z.heap w129 zs3 "ordinal" "I" (.int (21 : Int32))) :
    MetFree l (⟨zs1, "isOneColumn", "()Z"⟩ : MethodName) (head1 (Jvm.Cond.code (⟨zs1, "isOneColumn", "()Z"⟩ : MethodName) prog_12_method_6_code 1 (some .boolean) :: ws) ({ frames := 0, cells := 0, slots := 0, locals := 0 } : Room)) (fun a U => a = #[(.ref w123)] ∧ Z.Warmed39 U.vm ∧ U.heap = h0) (fun _ _ _ _ _ => True) (fun _ U o U' => ∃ v L, o = .returned v ∧ Q19 Z w123 w127 w129 h0 n0 v U'.heap L ∧ FrameEnd U o U' L ({ frames := 0, cells := 0, slots := 0, locals := 0 } : Room).cells ({ frames := 0, cells := 0, slots := 0, locals := 0 } : Room).slots) := by
  refine MetFree.of_bodySF (plainFor_of_name pn_1) hisR ?_
  intro p e s m args below meth c s₁ Bd hml0 hP hK
  obtain ⟨rfl, hZ, hh⟩ := hP
  have hx := Bd.exec
  have hby := Bd.bytes
  have hml : c.maxLocals = 1 := hml0
  have hown : s.vm.findClass zs1 = some m.cls := findClass_of_methodNamed Bd.named
  have hnm := (name_of_methodNamed Bd.named Bd.method).1
  have X0 : Stand p l e ({ frames := 0, cells := 0, slots := 0, locals := 0 } : Room) s m #[(.ref w123)] below meth c s₁ [] 0 0 := Stand.of_body Bd
  have e0 : s₁.heap = h0 := by rw [← hh, Bd.state]; rfl
  have N0 := Fr.nil n0
  refine own_out ?_
  refine own_via (fun t k => castTop (ef_1 m w123) (XS.aloadN X0.here hx rfl (hb hby d1_0) rfl rfl k)) ?_
  obtain ⟨T530, X530, e530, st530⟩ := getS2 X0 hx hZ hown (host := "") (Or.inl (wd hw 54 rfl)) Via.refl e0 (S_ColumnRole_NAME.ext O0.2) (g := (mkF m 1 #[rv w123] [(.ref w123)])) rfl (hb hby d1_1)
  refine own_via (fun t k => st530 t (Jvm.RoadKit.acmp (g := (mkF m 4 #[rv w123] [(.ref w127), (.ref w123)])) X530 hx rfl rfl rfl (pc0 := 4) (pc' := 7) (same := false) rfl (hb hby d1_4) rfl (decide_eq_false fun q => (Fld.ne SF_w123_ordinal SF_w127_ordinal (by decide)) (Value.ref.inj q)) (by decide) (by decide) (XS.aloadN X530.here hx rfl (hb hby d1_7) rfl rfl k))) ?_
  show own_Goes p e below (T530.setTop (mkF m 8 #[rv w123] [(.ref w123)])) _
  obtain ⟨T531, X531, e531, st531⟩ := getS2 X530 hx hZ hown (host := "") (Or.inl (wd hw 55 rfl)) Via.refl e530 (S_ColumnRole_ATTRIBUTE.ext O0.2) (g := (mkF m 8 #[rv w123] [(.ref w123)])) rfl (hb hby d1_8)
  refine own_via (fun t k => st531 t (Jvm.RoadKit.acmp (g := (mkF m 11 #[rv w123] [(.ref w129), (.ref w123)])) X531 hx rfl rfl rfl (pc0 := 11) (pc' := 14) (same := false) rfl (hb hby d1_11) rfl (decide_eq_false fun q => (Fld.ne SF_w123_ordinal SF_w129_ordinal (by decide)) (Value.ref.inj q)) (by decide) (by decide) (XS.iconst X531.here hx rfl (hb hby d1_14) (XS.goto X531.here hx rfl (pc0 := 15) (pc' := 19) rfl (hb hby d1_15) (by decide) (by decide) k)))) ?_
  show own_Goes p e below (T531.setTop (mkF m 19 #[rv w123] [(.int (1 : Int32))])) _
  obtain ⟨fs, hr, hrun, hended, hW, hsame⟩ := X531.leave (v := some (.int (1 : Int32))) (fun h => by rw [Bd.returns] at h; cases h)
  refine own_end (t := T531.setFrames fs) ?_ ⟨_, hrun, hended, _, _, rfl, ?_, ⟨_, rfl⟩, hW, hsame.mono (by decide) (by decide)⟩
  · exact retN X531 hx (t := .boolean) Bd.returns (by simp) (hb hby d1_19) hr
  · show Q19 Z w123 w127 w129 h0 n0 _ T531.heap _
    rw [e531]
    exact ⟨rfl, N0, rfl⟩
def Q20 (Z : State) (w125 : Addr) (w127 : Addr) (w129 : Addr) (h0 : Heap) (n0 : Nat) (v : Option Value) (h : Heap) (L : List Loc) : Prop := v = some (.int (1 : Int32)) ∧ Fr n0 L ∧ h = h0
set_option maxRecDepth 65536 in
set_option maxHeartbeats 40000000 in
theorem rm20 (l : Launch) (Z : State) (a0 : Array Value) (hw : ∀ d ∈ tables_1, d.before a0 Z = true) (ws : List Jvm.Cond) (w125 : Addr) (w127 : Addr) (w129 : Addr) (h0 : Heap) (n0 : Nat) (O0 : Old Z n0 h0) (S_ColumnRole_NAME : Sta Z Z.heap zs1 "NAME" zs2 (.ref w127)) (SF_w125_ordinal : Fld Z Z.heap w125 zs3 "ordinal" "I" (.int (19 : Int32))) (SF_w127_ordinal : Fld Z Z.heap w127 zs3 "ordinal" "I" (.int (20 : Int32))) (S_ColumnRole_ATTRIBUTE : Sta Z Z.heap zs1 "ATTRIBUTE" zs2 (.ref w129)) (SF_w129_ordinal : Fld Z Z.heap w129 zs3 "ordinal" "I" (.int (21 : Int32))) :
    MetFree l (⟨zs1, "isOneColumn", "()Z"⟩ : MethodName) (head1 (Jvm.Cond.code (⟨zs1, "isOneColumn", "()Z"⟩ : MethodName) prog_12_method_6_code 1 (some .boolean) :: ws) ({ frames := 0, cells := 0, slots := 0, locals := 0 } : Room)) (fun a U => a = #[(.ref w125)] ∧ Z.Warmed39 U.vm ∧ U.heap = h0) (fun _ _ _ _ _ => True) (fun _ U o U' => ∃ v L, o = .returned v ∧ Q20 Z w125 w127 w129 h0 n0 v U'.heap L ∧ FrameEnd U o U' L ({ frames := 0, cells := 0, slots := 0, locals := 0 } : Room).cells ({ frames := 0, cells := 0, slots := 0, locals := 0 } : Room).slots) := by
  refine MetFree.of_bodySF (plainFor_of_name pn_1) hisR ?_
  intro p e s m args below meth c s₁ Bd hml0 hP hK
  obtain ⟨rfl, hZ, hh⟩ := hP
  have hx := Bd.exec
  have hby := Bd.bytes
  have hml : c.maxLocals = 1 := hml0
  have hown : s.vm.findClass zs1 = some m.cls := findClass_of_methodNamed Bd.named
  have hnm := (name_of_methodNamed Bd.named Bd.method).1
  have X0 : Stand p l e ({ frames := 0, cells := 0, slots := 0, locals := 0 } : Room) s m #[(.ref w125)] below meth c s₁ [] 0 0 := Stand.of_body Bd
  have e0 : s₁.heap = h0 := by rw [← hh, Bd.state]; rfl
  have N0 := Fr.nil n0
  refine own_out ?_
  refine own_via (fun t k => castTop (ef_1 m w125) (XS.aloadN X0.here hx rfl (hb hby d1_0) rfl rfl k)) ?_
  obtain ⟨T544, X544, e544, st544⟩ := getS2 X0 hx hZ hown (host := "") (Or.inl (wd hw 54 rfl)) Via.refl e0 (S_ColumnRole_NAME.ext O0.2) (g := (mkF m 1 #[rv w125] [(.ref w125)])) rfl (hb hby d1_1)
  refine own_via (fun t k => st544 t (Jvm.RoadKit.acmp (g := (mkF m 4 #[rv w125] [(.ref w127), (.ref w125)])) X544 hx rfl rfl rfl (pc0 := 4) (pc' := 7) (same := false) rfl (hb hby d1_4) rfl (decide_eq_false fun q => (Fld.ne SF_w125_ordinal SF_w127_ordinal (by decide)) (Value.ref.inj q)) (by decide) (by decide) (XS.aloadN X544.here hx rfl (hb hby d1_7) rfl rfl k))) ?_
  show own_Goes p e below (T544.setTop (mkF m 8 #[rv w125] [(.ref w125)])) _
  obtain ⟨T545, X545, e545, st545⟩ := getS2 X544 hx hZ hown (host := "") (Or.inl (wd hw 55 rfl)) Via.refl e544 (S_ColumnRole_ATTRIBUTE.ext O0.2) (g := (mkF m 8 #[rv w125] [(.ref w125)])) rfl (hb hby d1_8)
  refine own_via (fun t k => st545 t (Jvm.RoadKit.acmp (g := (mkF m 11 #[rv w125] [(.ref w129), (.ref w125)])) X545 hx rfl rfl rfl (pc0 := 11) (pc' := 14) (same := false) rfl (hb hby d1_11) rfl (decide_eq_false fun q => (Fld.ne SF_w125_ordinal SF_w129_ordinal (by decide)) (Value.ref.inj q)) (by decide) (by decide) (XS.iconst X545.here hx rfl (hb hby d1_14) (XS.goto X545.here hx rfl (pc0 := 15) (pc' := 19) rfl (hb hby d1_15) (by decide) (by decide) k)))) ?_
  show own_Goes p e below (T545.setTop (mkF m 19 #[rv w125] [(.int (1 : Int32))])) _
  obtain ⟨fs, hr, hrun, hended, hW, hsame⟩ := X545.leave (v := some (.int (1 : Int32))) (fun h => by rw [Bd.returns] at h; cases h)
  refine own_end (t := T545.setFrames fs) ?_ ⟨_, hrun, hended, _, _, rfl, ?_, ⟨_, rfl⟩, hW, hsame.mono (by decide) (by decide)⟩
  · exact retN X545 hx (t := .boolean) Bd.returns (by simp) (hb hby d1_19) hr
  · show Q20 Z w125 w127 w129 h0 n0 _ T545.heap _
    rw [e545]
    exact ⟨rfl, N0, rfl⟩
theorem d1_18 : decode prog_12_method_6_code 18 = .ok (.iconst 0, 1) := by decide +kernel
def Q21 (Z : State) (w127 : Addr) (h0 : Heap) (n0 : Nat) (v : Option Value) (h : Heap) (L : List Loc) : Prop := v = some (.int (0 : Int32)) ∧ Fr n0 L ∧ h = h0
set_option maxRecDepth 65536 in
set_option maxHeartbeats 40000000 in
theorem rm21 (l : Launch) (Z : State) (a0 : Array Value) (hw : ∀ d ∈ tables_1, d.before a0 Z = true) (ws : List Jvm.Cond) (w127 : Addr) (h0 : Heap) (n0 : Nat) (O0 : Old Z n0 h0) (S_ColumnRole_NAME : Sta Z Z.heap zs1 "NAME" zs2 (.ref w127)) :
    MetFree l (⟨zs1, "isOneColumn", "()Z"⟩ : MethodName) (head1 (Jvm.Cond.code (⟨zs1, "isOneColumn", "()Z"⟩ : MethodName) prog_12_method_6_code 1 (some .boolean) :: ws) ({ frames := 0, cells := 0, slots := 0, locals := 0 } : Room)) (fun a U => a = #[(.ref w127)] ∧ Z.Warmed39 U.vm ∧ U.heap = h0) (fun _ _ _ _ _ => True) (fun _ U o U' => ∃ v L, o = .returned v ∧ Q21 Z w127 h0 n0 v U'.heap L ∧ FrameEnd U o U' L ({ frames := 0, cells := 0, slots := 0, locals := 0 } : Room).cells ({ frames := 0, cells := 0, slots := 0, locals := 0 } : Room).slots) := by
  refine MetFree.of_bodySF (plainFor_of_name pn_1) hisR ?_
  intro p e s m args below meth c s₁ Bd hml0 hP hK
  obtain ⟨rfl, hZ, hh⟩ := hP
  have hx := Bd.exec
  have hby := Bd.bytes
  have hml : c.maxLocals = 1 := hml0
  have hown : s.vm.findClass zs1 = some m.cls := findClass_of_methodNamed Bd.named
  have hnm := (name_of_methodNamed Bd.named Bd.method).1
  have X0 : Stand p l e ({ frames := 0, cells := 0, slots := 0, locals := 0 } : Room) s m #[(.ref w127)] below meth c s₁ [] 0 0 := Stand.of_body Bd
  have e0 : s₁.heap = h0 := by rw [← hh, Bd.state]; rfl
  have N0 := Fr.nil n0
  refine own_out ?_
  refine own_via (fun t k => castTop (ef_1 m w127) (XS.aloadN X0.here hx rfl (hb hby d1_0) rfl rfl k)) ?_
  obtain ⟨T558, X558, e558, st558⟩ := getS2 X0 hx hZ hown (host := "") (Or.inl (wd hw 54 rfl)) Via.refl e0 (S_ColumnRole_NAME.ext O0.2) (g := (mkF m 1 #[rv w127] [(.ref w127)])) rfl (hb hby d1_1)
  refine own_via (fun t k => st558 t (Jvm.RoadKit.acmp (g := (mkF m 4 #[rv w127] [(.ref w127), (.ref w127)])) X558 hx rfl rfl rfl (pc0 := 4) (pc' := 18) (same := true) rfl (hb hby d1_4) rfl (decide_eq_true rfl) (by decide) (by decide) (XS.iconst X558.here hx rfl (hb hby d1_18) k))) ?_
  show own_Goes p e below (T558.setTop (mkF m 19 #[rv w127] [(.int (0 : Int32))])) _
  obtain ⟨fs, hr, hrun, hended, hW, hsame⟩ := X558.leave (v := some (.int (0 : Int32))) (fun h => by rw [Bd.returns] at h; cases h)
  refine own_end (t := T558.setFrames fs) ?_ ⟨_, hrun, hended, _, _, rfl, ?_, ⟨_, rfl⟩, hW, hsame.mono (by decide) (by decide)⟩
  · exact retN X558 hx (t := .boolean) Bd.returns (by simp) (hb hby d1_19) hr
  · show Q21 Z w127 h0 n0 _ T558.heap _
    rw [e558]
    exact ⟨rfl, N0, rfl⟩
def Q22 (Z : State) (w129 : Addr) (w127 : Addr) (h0 : Heap) (n0 : Nat) (v : Option Value) (h : Heap) (L : List Loc) : Prop := v = some (.int (0 : Int32)) ∧ Fr n0 L ∧ h = h0
set_option maxRecDepth 65536 in
set_option maxHeartbeats 40000000 in
theorem rm22 (l : Launch) (Z : State) (a0 : Array Value) (hw : ∀ d ∈ tables_1, d.before a0 Z = true) (ws : List Jvm.Cond) (w129 : Addr) (w127 : Addr) (h0 : Heap) (n0 : Nat) (O0 : Old Z n0 h0) (S_ColumnRole_NAME : Sta Z Z.heap zs1 "NAME" zs2 (.ref w127)) (SF_w129_ordinal : Fld Z Z.heap w129 zs3 "ordinal" "I" (.int (21 : Int32))) (SF_w127_ordinal : Fld Z Z.heap w127 zs3 "ordinal" "I" (.int (20 : Int32))) (S_ColumnRole_ATTRIBUTE : Sta Z Z.heap zs1 "ATTRIBUTE" zs2 (.ref w129)) :
    MetFree l (⟨zs1, "isOneColumn", "()Z"⟩ : MethodName) (head1 (Jvm.Cond.code (⟨zs1, "isOneColumn", "()Z"⟩ : MethodName) prog_12_method_6_code 1 (some .boolean) :: ws) ({ frames := 0, cells := 0, slots := 0, locals := 0 } : Room)) (fun a U => a = #[(.ref w129)] ∧ Z.Warmed39 U.vm ∧ U.heap = h0) (fun _ _ _ _ _ => True) (fun _ U o U' => ∃ v L, o = .returned v ∧ Q22 Z w129 w127 h0 n0 v U'.heap L ∧ FrameEnd U o U' L ({ frames := 0, cells := 0, slots := 0, locals := 0 } : Room).cells ({ frames := 0, cells := 0, slots := 0, locals := 0 } : Room).slots) := by
  refine MetFree.of_bodySF (plainFor_of_name pn_1) hisR ?_
  intro p e s m args below meth c s₁ Bd hml0 hP hK
  obtain ⟨rfl, hZ, hh⟩ := hP
  have hx := Bd.exec
  have hby := Bd.bytes
  have hml : c.maxLocals = 1 := hml0
  have hown : s.vm.findClass zs1 = some m.cls := findClass_of_methodNamed Bd.named
  have hnm := (name_of_methodNamed Bd.named Bd.method).1
  have X0 : Stand p l e ({ frames := 0, cells := 0, slots := 0, locals := 0 } : Room) s m #[(.ref w129)] below meth c s₁ [] 0 0 := Stand.of_body Bd
  have e0 : s₁.heap = h0 := by rw [← hh, Bd.state]; rfl
  have N0 := Fr.nil n0
  refine own_out ?_
  refine own_via (fun t k => castTop (ef_1 m w129) (XS.aloadN X0.here hx rfl (hb hby d1_0) rfl rfl k)) ?_
  obtain ⟨T571, X571, e571, st571⟩ := getS2 X0 hx hZ hown (host := "") (Or.inl (wd hw 54 rfl)) Via.refl e0 (S_ColumnRole_NAME.ext O0.2) (g := (mkF m 1 #[rv w129] [(.ref w129)])) rfl (hb hby d1_1)
  refine own_via (fun t k => st571 t (Jvm.RoadKit.acmp (g := (mkF m 4 #[rv w129] [(.ref w127), (.ref w129)])) X571 hx rfl rfl rfl (pc0 := 4) (pc' := 7) (same := false) rfl (hb hby d1_4) rfl (decide_eq_false fun q => (Fld.ne SF_w129_ordinal SF_w127_ordinal (by decide)) (Value.ref.inj q)) (by decide) (by decide) (XS.aloadN X571.here hx rfl (hb hby d1_7) rfl rfl k))) ?_
  show own_Goes p e below (T571.setTop (mkF m 8 #[rv w129] [(.ref w129)])) _
  obtain ⟨T572, X572, e572, st572⟩ := getS2 X571 hx hZ hown (host := "") (Or.inl (wd hw 55 rfl)) Via.refl e571 (S_ColumnRole_ATTRIBUTE.ext O0.2) (g := (mkF m 8 #[rv w129] [(.ref w129)])) rfl (hb hby d1_8)
  refine own_via (fun t k => st572 t (Jvm.RoadKit.acmp (g := (mkF m 11 #[rv w129] [(.ref w129), (.ref w129)])) X572 hx rfl rfl rfl (pc0 := 11) (pc' := 18) (same := true) rfl (hb hby d1_11) rfl (decide_eq_true rfl) (by decide) (by decide) (XS.iconst X572.here hx rfl (hb hby d1_18) k))) ?_
  show own_Goes p e below (T572.setTop (mkF m 19 #[rv w129] [(.int (0 : Int32))])) _
  obtain ⟨fs, hr, hrun, hended, hW, hsame⟩ := X572.leave (v := some (.int (0 : Int32))) (fun h => by rw [Bd.returns] at h; cases h)
  refine own_end (t := T572.setFrames fs) ?_ ⟨_, hrun, hended, _, _, rfl, ?_, ⟨_, rfl⟩, hW, hsame.mono (by decide) (by decide)⟩
  · exact retN X572 hx (t := .boolean) Bd.returns (by simp) (hb hby d1_19) hr
  · show Q22 Z w129 w127 h0 n0 _ T572.heap _
    rw [e572]
    exact ⟨rfl, N0, rfl⟩
theorem ef_2 (m : MethodId) (x0 : Int32) : entryFrame m #[(.int x0)] maxLocals = mkF m 0 #[iv x0, .unset, .unset, .unset] [] := by first | (simp [entryFrame, mkF, argsToLocals, Value.category, maxLocals]; done) | rfl
theorem pn_2 : plainName "com/example/starcourse/starcourse/catalog/ColumnRoleIsOneColumnPinLaw" = true := by first | (simp [plainName, overriddenIn]; done) | decide +kernel
set_option maxRecDepth 65536 in
set_option maxHeartbeats 40000000 in
theorem rm0 (l : Launch) (Z : State) (a0 : Array Value) (hw : ∀ d ∈ tables_1, d.before a0 Z = true) (ws : List Jvm.Cond) (i0 : Int32) (w87 : Addr) (w89 : Addr) (w91 : Addr) (w93 : Addr) (w95 : Addr) (w97 : Addr) (w99 : Addr) (w101 : Addr) (w103 : Addr) (w105 : Addr) (w107 : Addr) (w109 : Addr) (w111 : Addr) (w113 : Addr) (w115 : Addr) (w117 : Addr) (w119 : Addr) (w121 : Addr) (w123 : Addr) (w125 : Addr) (w127 : Addr) (w129 : Addr) (h0 : Heap) (n0 : Nat) (O0 : Old Z n0 h0) (S_ColumnRole_RIGHT_ASCENSION : Sta Z Z.heap zs1 "RIGHT_ASCENSION" zs2 (.ref w87)) (SE_w87 : Exa Z Z.heap w87 zs1) (S_ColumnRole_DECLINATION : Sta Z Z.heap zs1 "DECLINATION" zs2 (.ref w89)) (SE_w89 : Exa Z Z.heap w89 zs1) (S_ColumnRole_GALACTIC_LONGITUDE : Sta Z Z.heap zs1 "GALACTIC_LONGITUDE" zs2 (.ref w91)) (SE_w91 : Exa Z Z.heap w91 zs1) (S_ColumnRole_GALACTIC_LATITUDE : Sta Z Z.heap zs1 "GALACTIC_LATITUDE" zs2 (.ref w93)) (SE_w93 : Exa Z Z.heap w93 zs1) (S_ColumnRole_ECLIPTIC_LONGITUDE : Sta Z Z.heap zs1 "ECLIPTIC_LONGITUDE" zs2 (.ref w95)) (SE_w95 : Exa Z Z.heap w95 zs1) (S_ColumnRole_ECLIPTIC_LATITUDE : Sta Z Z.heap zs1 "ECLIPTIC_LATITUDE" zs2 (.ref w97)) (SE_w97 : Exa Z Z.heap w97 zs1) (S_ColumnRole_CARTESIAN_X : Sta Z Z.heap zs1 "CARTESIAN_X" zs2 (.ref w99)) (SE_w99 : Exa Z Z.heap w99 zs1) (S_ColumnRole_CARTESIAN_Y : Sta Z Z.heap zs1 "CARTESIAN_Y" zs2 (.ref w101)) (SE_w101 : Exa Z Z.heap w101 zs1) (S_ColumnRole_CARTESIAN_Z : Sta Z Z.heap zs1 "CARTESIAN_Z" zs2 (.ref w103)) (SE_w103 : Exa Z Z.heap w103 zs1) (S_ColumnRole_PARALLAX : Sta Z Z.heap zs1 "PARALLAX" zs2 (.ref w105)) (SE_w105 : Exa Z Z.heap w105 zs1) (S_ColumnRole_PARALLAX_ERROR : Sta Z Z.heap zs1 "PARALLAX_ERROR" zs2 (.ref w107)) (SE_w107 : Exa Z Z.heap w107 zs1) (S_ColumnRole_DISTANCE : Sta Z Z.heap zs1 "DISTANCE" zs2 (.ref w109)) (SE_w109 : Exa Z Z.heap w109 zs1) (S_ColumnRole_MAGNITUDE : Sta Z Z.heap zs1 "MAGNITUDE" zs2 (.ref w111)) (SE_w111 : Exa Z Z.heap w111 zs1) (S_ColumnRole_COLOUR_INDEX : Sta Z Z.heap zs1 "COLOUR_INDEX" zs2 (.ref w113)) (SE_w113 : Exa Z Z.heap w113 zs1) (S_ColumnRole_EXTINCTION : Sta Z Z.heap zs1 "EXTINCTION" zs2 (.ref w115)) (SE_w115 : Exa Z Z.heap w115 zs1) (S_ColumnRole_REDDENING : Sta Z Z.heap zs1 "REDDENING" zs2 (.ref w117)) (SE_w117 : Exa Z Z.heap w117 zs1) (S_ColumnRole_PROPER_MOTION_RA : Sta Z Z.heap zs1 "PROPER_MOTION_RA" zs2 (.ref w119)) (SE_w119 : Exa Z Z.heap w119 zs1) (S_ColumnRole_PROPER_MOTION_DEC : Sta Z Z.heap zs1 "PROPER_MOTION_DEC" zs2 (.ref w121)) (SE_w121 : Exa Z Z.heap w121 zs1) (S_ColumnRole_RADIAL_VELOCITY : Sta Z Z.heap zs1 "RADIAL_VELOCITY" zs2 (.ref w123)) (SE_w123 : Exa Z Z.heap w123 zs1) (S_ColumnRole_ID : Sta Z Z.heap zs1 "ID" zs2 (.ref w125)) (SE_w125 : Exa Z Z.heap w125 zs1) (S_ColumnRole_NAME : Sta Z Z.heap zs1 "NAME" zs2 (.ref w127)) (SE_w127 : Exa Z Z.heap w127 zs1) (S_ColumnRole_ATTRIBUTE : Sta Z Z.heap zs1 "ATTRIBUTE" zs2 (.ref w129)) (SE_w129 : Exa Z Z.heap w129 zs1) (SF_w87_ordinal : Fld Z Z.heap w87 zs3 "ordinal" "I" (.int (0 : Int32))) (SF_w127_ordinal : Fld Z Z.heap w127 zs3 "ordinal" "I" (.int (20 : Int32))) (SF_w129_ordinal : Fld Z Z.heap w129 zs3 "ordinal" "I" (.int (21 : Int32))) (SF_w89_ordinal : Fld Z Z.heap w89 zs3 "ordinal" "I" (.int (1 : Int32))) (SF_w91_ordinal : Fld Z Z.heap w91 zs3 "ordinal" "I" (.int (2 : Int32))) (SF_w93_ordinal : Fld Z Z.heap w93 zs3 "ordinal" "I" (.int (3 : Int32))) (SF_w95_ordinal : Fld Z Z.heap w95 zs3 "ordinal" "I" (.int (4 : Int32))) (SF_w97_ordinal : Fld Z Z.heap w97 zs3 "ordinal" "I" (.int (5 : Int32))) (SF_w99_ordinal : Fld Z Z.heap w99 zs3 "ordinal" "I" (.int (6 : Int32))) (SF_w101_ordinal : Fld Z Z.heap w101 zs3 "ordinal" "I" (.int (7 : Int32))) (SF_w103_ordinal : Fld Z Z.heap w103 zs3 "ordinal" "I" (.int (8 : Int32))) (SF_w105_ordinal : Fld Z Z.heap w105 zs3 "ordinal" "I" (.int (9 : Int32))) (SF_w107_ordinal : Fld Z Z.heap w107 zs3 "ordinal" "I" (.int (10 : Int32))) (SF_w109_ordinal : Fld Z Z.heap w109 zs3 "ordinal" "I" (.int (11 : Int32))) (SF_w111_ordinal : Fld Z Z.heap w111 zs3 "ordinal" "I" (.int (12 : Int32))) (SF_w113_ordinal : Fld Z Z.heap w113 zs3 "ordinal" "I" (.int (13 : Int32))) (SF_w115_ordinal : Fld Z Z.heap w115 zs3 "ordinal" "I" (.int (14 : Int32))) (SF_w117_ordinal : Fld Z Z.heap w117 zs3 "ordinal" "I" (.int (15 : Int32))) (SF_w119_ordinal : Fld Z Z.heap w119 zs3 "ordinal" "I" (.int (16 : Int32))) (SF_w121_ordinal : Fld Z Z.heap w121 zs3 "ordinal" "I" (.int (17 : Int32))) (SF_w123_ordinal : Fld Z Z.heap w123 zs3 "ordinal" "I" (.int (18 : Int32))) (SF_w125_ordinal : Fld Z Z.heap w125 zs3 "ordinal" "I" (.int (19 : Int32))) :
    MetFree l x (head1 (Jvm.Cond.code x code maxLocals ret :: ws) room_1) (fun a U => a = #[(.int i0)] ∧ Z.Warmed39 U.vm ∧ U.heap = h0) (fun _ _ _ _ _ => True) (fun _ U o U' => ∃ v L, o = .returned v ∧ own_Q0 n0 v L ∧ FrameEnd U o U' L room_1.cells room_1.slots) := by
  refine MetFree.of_bodySF (plainFor_of_name pn_2) hisR ?_
  intro p e s m args below meth c s₁ Bd hml0 hP hK
  obtain ⟨rfl, hZ, hh⟩ := hP
  have hx := Bd.exec
  have hby := Bd.bytes
  have hml : c.maxLocals = 4 := hml0
  have hown : s.vm.findClass "com/example/starcourse/starcourse/catalog/ColumnRoleIsOneColumnPinLaw" = some m.cls := findClass_of_methodNamed Bd.named
  have hnm := (name_of_methodNamed Bd.named Bd.method).1
  have X0 : Stand p l e room_1 s m #[(.int i0)] below meth c s₁ [] 0 0 := Stand.of_body Bd
  have e0 : s₁.heap = h0 := by rw [← hh, Bd.state]; rfl
  have N0 := Fr.nil n0
  refine own_out ?_
  show own_Goes p e below _ (own_G s below n0)
  refine own_via (fun t k => castTop (ef_2 m i0) (XS.bipush X0.here hx rfl (hb hby at_0) k)) ?_
  obtain ⟨T153, h153, k153, X153, e153, E153, A153, O153, st153⟩ := newR X0 hx hZ hown (wd hw 0 rfl) (wd hw 1 rfl) e0 (g := (mkF m 2 #[iv i0, .unset, .unset, .unset] [(.int (22 : Int32))])) rfl (hb hby at_2) rfl (by decide) (cap := 22) (by decide) (by decide) (by decide) (by decide)
  obtain ⟨b154, q153⟩ : ∃ z, z = h0.size := ⟨_, rfl⟩
  rw [← q153] at A153 st153
  refine own_via (fun t k => st153 t k) ?_
  have g155 : n0 ≤ b154 := Nat.le_trans (own_old O0) (Nat.le_of_eq q153.symm)
  have B156 : h0.size ≤ b154 := Nat.le_trans (Nat.le_refl _) (Nat.le_of_eq q153.symm)
  have V157 : Arv Z h153 b154 k153 (.object zs1) (22 : Int32) [] .null := Arv.new A153 (by decide)
  show own_Goes p e below (T153.setTop (mkF m 5 #[iv i0, .unset, .unset, .unset] [(.ref b154)])) _
  refine own_via (fun t k => XS.dup X153.here hx rfl (hb hby at_5) rfl rfl (XS.iconst X153.here hx rfl (hb hby at_6) k)) ?_
  have O159 : Old Z n0 h153 := (O0.ext E153)
  obtain ⟨T158, X158, e158, st158⟩ := getS2 X153 hx hZ hown (host := "") (Or.inl (wd hw 2 rfl)) Via.refl e153 (S_ColumnRole_RIGHT_ASCENSION.ext O159.2) (g := (mkF m 7 #[iv i0, .unset, .unset, .unset] [(.int (0 : Int32)), (.ref b154), (.ref b154)])) rfl (hb hby at_7)
  refine own_via (fun t k => st158 t k) ?_
  have V160 : Arv Z h153 b154 k153 (.object zs1) (22 : Int32) [.null] .null := V157.pad (pad_rep [] .null 1)
  obtain ⟨cl161, Ar161, qq161, S161, M161, H161, G161⟩ := id (V160)
  have hin161 : ¬ ((0 : Int32) < 0 ∨ cl161.slots.size ≤ ((0 : Int32)).toNatClampNeg) := inb_of S161 ⟨by decide, by decide⟩
  obtain ⟨T161, h161, X161, e161, W161, st161⟩ := stR X158 hx hZ e158 Ar161 (j := (0 : Int32)) hin161 rfl (Sto.ofV Ar161 qq161 O153 (Ins.self (SE_w87.ext O159.2))) (g := (mkF m 10 #[iv i0, .unset, .unset, .unset] [(.ref w87), (.int (0 : Int32)), (.ref b154), (.ref b154)])) rfl rfl (hb hby at_10)
  refine own_via (fun t k => st161 t k) ?_
  have V162 : Arv Z h161 b154 k153 (.object zs1) (22 : Int32) [(.ref w87)] .null := Arv.set Ar161 qq161 S161 M161 H161 G161 rfl W161 0 rfl (Nat.le_of_ble_eq_true rfl)
  have N161 := Fr.snoc X161 N0 g155
  show own_Goes p e below (T161.setTop (mkF m 11 #[iv i0, .unset, .unset, .unset] [(.ref b154)])) _
  refine own_via (fun t k => XS.dup X161.here hx rfl (hb hby at_11) rfl rfl (XS.iconst X161.here hx rfl (hb hby at_12) k)) ?_
  have O164 : Old Z n0 h161 := (O159.wr W161 g155)
  obtain ⟨T163, X163, e163, st163⟩ := getS2 X161 hx hZ hown (host := "") (Or.inl (wd hw 6 rfl)) Via.refl e161 (S_ColumnRole_DECLINATION.ext O164.2) (g := (mkF m 13 #[iv i0, .unset, .unset, .unset] [(.int (1 : Int32)), (.ref b154), (.ref b154)])) rfl (hb hby at_13)
  refine own_via (fun t k => st163 t k) ?_
  have V165 : Arv Z h161 b154 k153 (.object zs1) (22 : Int32) [(.ref w87), .null] .null := V162.pad (pad_rep [(.ref w87)] .null 1)
  obtain ⟨cl166, Ar166, qq166, S166, M166, H166, G166⟩ := id (V165)
  have hin166 : ¬ ((1 : Int32) < 0 ∨ cl166.slots.size ≤ ((1 : Int32)).toNatClampNeg) := inb_of S166 ⟨by decide, by decide⟩
  obtain ⟨T166, h166, X166, e166, W166, st166⟩ := stR X163 hx hZ e163 Ar166 (j := (1 : Int32)) hin166 rfl (Sto.ofV Ar166 qq166 O153 (Ins.self (SE_w89.ext O164.2))) (g := (mkF m 16 #[iv i0, .unset, .unset, .unset] [(.ref w89), (.int (1 : Int32)), (.ref b154), (.ref b154)])) rfl rfl (hb hby at_16)
  refine own_via (fun t k => st166 t k) ?_
  have V167 : Arv Z h166 b154 k153 (.object zs1) (22 : Int32) [(.ref w87), (.ref w89)] .null := Arv.set Ar166 qq166 S166 M166 H166 G166 rfl W166 1 rfl (Nat.le_of_ble_eq_true rfl)
  have N166 := Fr.snoc X166 N161 g155
  show own_Goes p e below (T166.setTop (mkF m 17 #[iv i0, .unset, .unset, .unset] [(.ref b154)])) _
  refine own_via (fun t k => XS.dup X166.here hx rfl (hb hby at_17) rfl rfl (XS.iconst X166.here hx rfl (hb hby at_18) k)) ?_
  have O169 : Old Z n0 h166 := (O164.wr W166 g155)
  obtain ⟨T168, X168, e168, st168⟩ := getS2 X166 hx hZ hown (host := "") (Or.inl (wd hw 8 rfl)) Via.refl e166 (S_ColumnRole_GALACTIC_LONGITUDE.ext O169.2) (g := (mkF m 19 #[iv i0, .unset, .unset, .unset] [(.int (2 : Int32)), (.ref b154), (.ref b154)])) rfl (hb hby at_19)
  refine own_via (fun t k => st168 t k) ?_
  have V170 : Arv Z h166 b154 k153 (.object zs1) (22 : Int32) [(.ref w87), (.ref w89), .null] .null := V167.pad (pad_rep [(.ref w87), (.ref w89)] .null 1)
  obtain ⟨cl171, Ar171, qq171, S171, M171, H171, G171⟩ := id (V170)
  have hin171 : ¬ ((2 : Int32) < 0 ∨ cl171.slots.size ≤ ((2 : Int32)).toNatClampNeg) := inb_of S171 ⟨by decide, by decide⟩
  obtain ⟨T171, h171, X171, e171, W171, st171⟩ := stR X168 hx hZ e168 Ar171 (j := (2 : Int32)) hin171 rfl (Sto.ofV Ar171 qq171 O153 (Ins.self (SE_w91.ext O169.2))) (g := (mkF m 22 #[iv i0, .unset, .unset, .unset] [(.ref w91), (.int (2 : Int32)), (.ref b154), (.ref b154)])) rfl rfl (hb hby at_22)
  refine own_via (fun t k => st171 t k) ?_
  have V172 : Arv Z h171 b154 k153 (.object zs1) (22 : Int32) [(.ref w87), (.ref w89), (.ref w91)] .null := Arv.set Ar171 qq171 S171 M171 H171 G171 rfl W171 2 rfl (Nat.le_of_ble_eq_true rfl)
  have N171 := Fr.snoc X171 N166 g155
  show own_Goes p e below (T171.setTop (mkF m 23 #[iv i0, .unset, .unset, .unset] [(.ref b154)])) _
  refine own_via (fun t k => XS.dup X171.here hx rfl (hb hby at_23) rfl rfl (XS.iconst X171.here hx rfl (hb hby at_24) k)) ?_
  have O174 : Old Z n0 h171 := (O169.wr W171 g155)
  obtain ⟨T173, X173, e173, st173⟩ := getS2 X171 hx hZ hown (host := "") (Or.inl (wd hw 10 rfl)) Via.refl e171 (S_ColumnRole_GALACTIC_LATITUDE.ext O174.2) (g := (mkF m 25 #[iv i0, .unset, .unset, .unset] [(.int (3 : Int32)), (.ref b154), (.ref b154)])) rfl (hb hby at_25)
  refine own_via (fun t k => st173 t k) ?_
  have V175 : Arv Z h171 b154 k153 (.object zs1) (22 : Int32) [(.ref w87), (.ref w89), (.ref w91), .null] .null := V172.pad (pad_rep [(.ref w87), (.ref w89), (.ref w91)] .null 1)
  obtain ⟨cl176, Ar176, qq176, S176, M176, H176, G176⟩ := id (V175)
  have hin176 : ¬ ((3 : Int32) < 0 ∨ cl176.slots.size ≤ ((3 : Int32)).toNatClampNeg) := inb_of S176 ⟨by decide, by decide⟩
  obtain ⟨T176, h176, X176, e176, W176, st176⟩ := stR X173 hx hZ e173 Ar176 (j := (3 : Int32)) hin176 rfl (Sto.ofV Ar176 qq176 O153 (Ins.self (SE_w93.ext O174.2))) (g := (mkF m 28 #[iv i0, .unset, .unset, .unset] [(.ref w93), (.int (3 : Int32)), (.ref b154), (.ref b154)])) rfl rfl (hb hby at_28)
  refine own_via (fun t k => st176 t k) ?_
  have V177 : Arv Z h176 b154 k153 (.object zs1) (22 : Int32) [(.ref w87), (.ref w89), (.ref w91), (.ref w93)] .null := Arv.set Ar176 qq176 S176 M176 H176 G176 rfl W176 3 rfl (Nat.le_of_ble_eq_true rfl)
  have N176 := Fr.snoc X176 N171 g155
  show own_Goes p e below (T176.setTop (mkF m 29 #[iv i0, .unset, .unset, .unset] [(.ref b154)])) _
  refine own_via (fun t k => XS.dup X176.here hx rfl (hb hby at_29) rfl rfl (XS.iconst X176.here hx rfl (hb hby at_30) k)) ?_
  have O179 : Old Z n0 h176 := (O174.wr W176 g155)
  obtain ⟨T178, X178, e178, st178⟩ := getS2 X176 hx hZ hown (host := "") (Or.inl (wd hw 12 rfl)) Via.refl e176 (S_ColumnRole_ECLIPTIC_LONGITUDE.ext O179.2) (g := (mkF m 31 #[iv i0, .unset, .unset, .unset] [(.int (4 : Int32)), (.ref b154), (.ref b154)])) rfl (hb hby at_31)
  refine own_via (fun t k => st178 t k) ?_
  have V180 : Arv Z h176 b154 k153 (.object zs1) (22 : Int32) [(.ref w87), (.ref w89), (.ref w91), (.ref w93), .null] .null := V177.pad (pad_rep [(.ref w87), (.ref w89), (.ref w91), (.ref w93)] .null 1)
  obtain ⟨cl181, Ar181, qq181, S181, M181, H181, G181⟩ := id (V180)
  have hin181 : ¬ ((4 : Int32) < 0 ∨ cl181.slots.size ≤ ((4 : Int32)).toNatClampNeg) := inb_of S181 ⟨by decide, by decide⟩
  obtain ⟨T181, h181, X181, e181, W181, st181⟩ := stR X178 hx hZ e178 Ar181 (j := (4 : Int32)) hin181 rfl (Sto.ofV Ar181 qq181 O153 (Ins.self (SE_w95.ext O179.2))) (g := (mkF m 34 #[iv i0, .unset, .unset, .unset] [(.ref w95), (.int (4 : Int32)), (.ref b154), (.ref b154)])) rfl rfl (hb hby at_34)
  refine own_via (fun t k => st181 t k) ?_
  have V182 : Arv Z h181 b154 k153 (.object zs1) (22 : Int32) [(.ref w87), (.ref w89), (.ref w91), (.ref w93), (.ref w95)] .null := Arv.set Ar181 qq181 S181 M181 H181 G181 rfl W181 4 rfl (Nat.le_of_ble_eq_true rfl)
  have N181 := Fr.snoc X181 N176 g155
  show own_Goes p e below (T181.setTop (mkF m 35 #[iv i0, .unset, .unset, .unset] [(.ref b154)])) _
  refine own_via (fun t k => XS.dup X181.here hx rfl (hb hby at_35) rfl rfl (XS.iconst X181.here hx rfl (hb hby at_36) k)) ?_
  have O184 : Old Z n0 h181 := (O179.wr W181 g155)
  obtain ⟨T183, X183, e183, st183⟩ := getS2 X181 hx hZ hown (host := "") (Or.inl (wd hw 14 rfl)) Via.refl e181 (S_ColumnRole_ECLIPTIC_LATITUDE.ext O184.2) (g := (mkF m 37 #[iv i0, .unset, .unset, .unset] [(.int (5 : Int32)), (.ref b154), (.ref b154)])) rfl (hb hby at_37)
  refine own_via (fun t k => st183 t k) ?_
  have V185 : Arv Z h181 b154 k153 (.object zs1) (22 : Int32) [(.ref w87), (.ref w89), (.ref w91), (.ref w93), (.ref w95), .null] .null := V182.pad (pad_rep [(.ref w87), (.ref w89), (.ref w91), (.ref w93), (.ref w95)] .null 1)
  obtain ⟨cl186, Ar186, qq186, S186, M186, H186, G186⟩ := id (V185)
  have hin186 : ¬ ((5 : Int32) < 0 ∨ cl186.slots.size ≤ ((5 : Int32)).toNatClampNeg) := inb_of S186 ⟨by decide, by decide⟩
  obtain ⟨T186, h186, X186, e186, W186, st186⟩ := stR X183 hx hZ e183 Ar186 (j := (5 : Int32)) hin186 rfl (Sto.ofV Ar186 qq186 O153 (Ins.self (SE_w97.ext O184.2))) (g := (mkF m 40 #[iv i0, .unset, .unset, .unset] [(.ref w97), (.int (5 : Int32)), (.ref b154), (.ref b154)])) rfl rfl (hb hby at_40)
  refine own_via (fun t k => st186 t k) ?_
  have V187 : Arv Z h186 b154 k153 (.object zs1) (22 : Int32) [(.ref w87), (.ref w89), (.ref w91), (.ref w93), (.ref w95), (.ref w97)] .null := Arv.set Ar186 qq186 S186 M186 H186 G186 rfl W186 5 rfl (Nat.le_of_ble_eq_true rfl)
  have N186 := Fr.snoc X186 N181 g155
  show own_Goes p e below (T186.setTop (mkF m 41 #[iv i0, .unset, .unset, .unset] [(.ref b154)])) _
  refine own_via (fun t k => XS.dup X186.here hx rfl (hb hby at_41) rfl rfl (XS.bipush X186.here hx rfl (hb hby at_42) k)) ?_
  have O189 : Old Z n0 h186 := (O184.wr W186 g155)
  obtain ⟨T188, X188, e188, st188⟩ := getS2 X186 hx hZ hown (host := "") (Or.inl (wd hw 16 rfl)) Via.refl e186 (S_ColumnRole_CARTESIAN_X.ext O189.2) (g := (mkF m 44 #[iv i0, .unset, .unset, .unset] [(.int (6 : Int32)), (.ref b154), (.ref b154)])) rfl (hb hby at_44)
  refine own_via (fun t k => st188 t k) ?_
  have V190 : Arv Z h186 b154 k153 (.object zs1) (22 : Int32) [(.ref w87), (.ref w89), (.ref w91), (.ref w93), (.ref w95), (.ref w97), .null] .null := V187.pad (pad_rep [(.ref w87), (.ref w89), (.ref w91), (.ref w93), (.ref w95), (.ref w97)] .null 1)
  obtain ⟨cl191, Ar191, qq191, S191, M191, H191, G191⟩ := id (V190)
  have hin191 : ¬ ((6 : Int32) < 0 ∨ cl191.slots.size ≤ ((6 : Int32)).toNatClampNeg) := inb_of S191 ⟨by decide, by decide⟩
  obtain ⟨T191, h191, X191, e191, W191, st191⟩ := stR X188 hx hZ e188 Ar191 (j := (6 : Int32)) hin191 rfl (Sto.ofV Ar191 qq191 O153 (Ins.self (SE_w99.ext O189.2))) (g := (mkF m 47 #[iv i0, .unset, .unset, .unset] [(.ref w99), (.int (6 : Int32)), (.ref b154), (.ref b154)])) rfl rfl (hb hby at_47)
  refine own_via (fun t k => st191 t k) ?_
  have V192 : Arv Z h191 b154 k153 (.object zs1) (22 : Int32) [(.ref w87), (.ref w89), (.ref w91), (.ref w93), (.ref w95), (.ref w97), (.ref w99)] .null := Arv.set Ar191 qq191 S191 M191 H191 G191 rfl W191 6 rfl (Nat.le_of_ble_eq_true rfl)
  have N191 := Fr.snoc X191 N186 g155
  show own_Goes p e below (T191.setTop (mkF m 48 #[iv i0, .unset, .unset, .unset] [(.ref b154)])) _
  refine own_via (fun t k => XS.dup X191.here hx rfl (hb hby at_48) rfl rfl (XS.bipush X191.here hx rfl (hb hby at_49) k)) ?_
  have O194 : Old Z n0 h191 := (O189.wr W191 g155)
  obtain ⟨T193, X193, e193, st193⟩ := getS2 X191 hx hZ hown (host := "") (Or.inl (wd hw 18 rfl)) Via.refl e191 (S_ColumnRole_CARTESIAN_Y.ext O194.2) (g := (mkF m 51 #[iv i0, .unset, .unset, .unset] [(.int (7 : Int32)), (.ref b154), (.ref b154)])) rfl (hb hby at_51)
  refine own_via (fun t k => st193 t k) ?_
  have V195 : Arv Z h191 b154 k153 (.object zs1) (22 : Int32) [(.ref w87), (.ref w89), (.ref w91), (.ref w93), (.ref w95), (.ref w97), (.ref w99), .null] .null := V192.pad (pad_rep [(.ref w87), (.ref w89), (.ref w91), (.ref w93), (.ref w95), (.ref w97), (.ref w99)] .null 1)
  obtain ⟨cl196, Ar196, qq196, S196, M196, H196, G196⟩ := id (V195)
  have hin196 : ¬ ((7 : Int32) < 0 ∨ cl196.slots.size ≤ ((7 : Int32)).toNatClampNeg) := inb_of S196 ⟨by decide, by decide⟩
  obtain ⟨T196, h196, X196, e196, W196, st196⟩ := stR X193 hx hZ e193 Ar196 (j := (7 : Int32)) hin196 rfl (Sto.ofV Ar196 qq196 O153 (Ins.self (SE_w101.ext O194.2))) (g := (mkF m 54 #[iv i0, .unset, .unset, .unset] [(.ref w101), (.int (7 : Int32)), (.ref b154), (.ref b154)])) rfl rfl (hb hby at_54)
  refine own_via (fun t k => st196 t k) ?_
  have V197 : Arv Z h196 b154 k153 (.object zs1) (22 : Int32) [(.ref w87), (.ref w89), (.ref w91), (.ref w93), (.ref w95), (.ref w97), (.ref w99), (.ref w101)] .null := Arv.set Ar196 qq196 S196 M196 H196 G196 rfl W196 7 rfl (Nat.le_of_ble_eq_true rfl)
  have N196 := Fr.snoc X196 N191 g155
  show own_Goes p e below (T196.setTop (mkF m 55 #[iv i0, .unset, .unset, .unset] [(.ref b154)])) _
  refine own_via (fun t k => XS.dup X196.here hx rfl (hb hby at_55) rfl rfl (XS.bipush X196.here hx rfl (hb hby at_56) k)) ?_
  have O199 : Old Z n0 h196 := (O194.wr W196 g155)
  obtain ⟨T198, X198, e198, st198⟩ := getS2 X196 hx hZ hown (host := "") (Or.inl (wd hw 20 rfl)) Via.refl e196 (S_ColumnRole_CARTESIAN_Z.ext O199.2) (g := (mkF m 58 #[iv i0, .unset, .unset, .unset] [(.int (8 : Int32)), (.ref b154), (.ref b154)])) rfl (hb hby at_58)
  refine own_via (fun t k => st198 t k) ?_
  have V200 : Arv Z h196 b154 k153 (.object zs1) (22 : Int32) [(.ref w87), (.ref w89), (.ref w91), (.ref w93), (.ref w95), (.ref w97), (.ref w99), (.ref w101), .null] .null := V197.pad (pad_rep [(.ref w87), (.ref w89), (.ref w91), (.ref w93), (.ref w95), (.ref w97), (.ref w99), (.ref w101)] .null 1)
  obtain ⟨cl201, Ar201, qq201, S201, M201, H201, G201⟩ := id (V200)
  have hin201 : ¬ ((8 : Int32) < 0 ∨ cl201.slots.size ≤ ((8 : Int32)).toNatClampNeg) := inb_of S201 ⟨by decide, by decide⟩
  obtain ⟨T201, h201, X201, e201, W201, st201⟩ := stR X198 hx hZ e198 Ar201 (j := (8 : Int32)) hin201 rfl (Sto.ofV Ar201 qq201 O153 (Ins.self (SE_w103.ext O199.2))) (g := (mkF m 61 #[iv i0, .unset, .unset, .unset] [(.ref w103), (.int (8 : Int32)), (.ref b154), (.ref b154)])) rfl rfl (hb hby at_61)
  refine own_via (fun t k => st201 t k) ?_
  have V202 : Arv Z h201 b154 k153 (.object zs1) (22 : Int32) [(.ref w87), (.ref w89), (.ref w91), (.ref w93), (.ref w95), (.ref w97), (.ref w99), (.ref w101), (.ref w103)] .null := Arv.set Ar201 qq201 S201 M201 H201 G201 rfl W201 8 rfl (Nat.le_of_ble_eq_true rfl)
  have N201 := Fr.snoc X201 N196 g155
  show own_Goes p e below (T201.setTop (mkF m 62 #[iv i0, .unset, .unset, .unset] [(.ref b154)])) _
  refine own_via (fun t k => XS.dup X201.here hx rfl (hb hby at_62) rfl rfl (XS.bipush X201.here hx rfl (hb hby at_63) k)) ?_
  have O204 : Old Z n0 h201 := (O199.wr W201 g155)
  obtain ⟨T203, X203, e203, st203⟩ := getS2 X201 hx hZ hown (host := "") (Or.inl (wd hw 22 rfl)) Via.refl e201 (S_ColumnRole_PARALLAX.ext O204.2) (g := (mkF m 65 #[iv i0, .unset, .unset, .unset] [(.int (9 : Int32)), (.ref b154), (.ref b154)])) rfl (hb hby at_65)
  refine own_via (fun t k => st203 t k) ?_
  have V205 : Arv Z h201 b154 k153 (.object zs1) (22 : Int32) [(.ref w87), (.ref w89), (.ref w91), (.ref w93), (.ref w95), (.ref w97), (.ref w99), (.ref w101), (.ref w103), .null] .null := V202.pad (pad_rep [(.ref w87), (.ref w89), (.ref w91), (.ref w93), (.ref w95), (.ref w97), (.ref w99), (.ref w101), (.ref w103)] .null 1)
  obtain ⟨cl206, Ar206, qq206, S206, M206, H206, G206⟩ := id (V205)
  have hin206 : ¬ ((9 : Int32) < 0 ∨ cl206.slots.size ≤ ((9 : Int32)).toNatClampNeg) := inb_of S206 ⟨by decide, by decide⟩
  obtain ⟨T206, h206, X206, e206, W206, st206⟩ := stR X203 hx hZ e203 Ar206 (j := (9 : Int32)) hin206 rfl (Sto.ofV Ar206 qq206 O153 (Ins.self (SE_w105.ext O204.2))) (g := (mkF m 68 #[iv i0, .unset, .unset, .unset] [(.ref w105), (.int (9 : Int32)), (.ref b154), (.ref b154)])) rfl rfl (hb hby at_68)
  refine own_via (fun t k => st206 t k) ?_
  have V207 : Arv Z h206 b154 k153 (.object zs1) (22 : Int32) [(.ref w87), (.ref w89), (.ref w91), (.ref w93), (.ref w95), (.ref w97), (.ref w99), (.ref w101), (.ref w103), (.ref w105)] .null := Arv.set Ar206 qq206 S206 M206 H206 G206 rfl W206 9 rfl (Nat.le_of_ble_eq_true rfl)
  have N206 := Fr.snoc X206 N201 g155
  show own_Goes p e below (T206.setTop (mkF m 69 #[iv i0, .unset, .unset, .unset] [(.ref b154)])) _
  refine own_via (fun t k => XS.dup X206.here hx rfl (hb hby at_69) rfl rfl (XS.bipush X206.here hx rfl (hb hby at_70) k)) ?_
  have O209 : Old Z n0 h206 := (O204.wr W206 g155)
  obtain ⟨T208, X208, e208, st208⟩ := getS2 X206 hx hZ hown (host := "") (Or.inl (wd hw 24 rfl)) Via.refl e206 (S_ColumnRole_PARALLAX_ERROR.ext O209.2) (g := (mkF m 72 #[iv i0, .unset, .unset, .unset] [(.int (10 : Int32)), (.ref b154), (.ref b154)])) rfl (hb hby at_72)
  refine own_via (fun t k => st208 t k) ?_
  have V210 : Arv Z h206 b154 k153 (.object zs1) (22 : Int32) [(.ref w87), (.ref w89), (.ref w91), (.ref w93), (.ref w95), (.ref w97), (.ref w99), (.ref w101), (.ref w103), (.ref w105), .null] .null := V207.pad (pad_rep [(.ref w87), (.ref w89), (.ref w91), (.ref w93), (.ref w95), (.ref w97), (.ref w99), (.ref w101), (.ref w103), (.ref w105)] .null 1)
  obtain ⟨cl211, Ar211, qq211, S211, M211, H211, G211⟩ := id (V210)
  have hin211 : ¬ ((10 : Int32) < 0 ∨ cl211.slots.size ≤ ((10 : Int32)).toNatClampNeg) := inb_of S211 ⟨by decide, by decide⟩
  obtain ⟨T211, h211, X211, e211, W211, st211⟩ := stR X208 hx hZ e208 Ar211 (j := (10 : Int32)) hin211 rfl (Sto.ofV Ar211 qq211 O153 (Ins.self (SE_w107.ext O209.2))) (g := (mkF m 75 #[iv i0, .unset, .unset, .unset] [(.ref w107), (.int (10 : Int32)), (.ref b154), (.ref b154)])) rfl rfl (hb hby at_75)
  refine own_via (fun t k => st211 t k) ?_
  have V212 : Arv Z h211 b154 k153 (.object zs1) (22 : Int32) [(.ref w87), (.ref w89), (.ref w91), (.ref w93), (.ref w95), (.ref w97), (.ref w99), (.ref w101), (.ref w103), (.ref w105), (.ref w107)] .null := Arv.set Ar211 qq211 S211 M211 H211 G211 rfl W211 10 rfl (Nat.le_of_ble_eq_true rfl)
  have N211 := Fr.snoc X211 N206 g155
  show own_Goes p e below (T211.setTop (mkF m 76 #[iv i0, .unset, .unset, .unset] [(.ref b154)])) _
  refine own_via (fun t k => XS.dup X211.here hx rfl (hb hby at_76) rfl rfl (XS.bipush X211.here hx rfl (hb hby at_77) k)) ?_
  have O214 : Old Z n0 h211 := (O209.wr W211 g155)
  obtain ⟨T213, X213, e213, st213⟩ := getS2 X211 hx hZ hown (host := "") (Or.inl (wd hw 26 rfl)) Via.refl e211 (S_ColumnRole_DISTANCE.ext O214.2) (g := (mkF m 79 #[iv i0, .unset, .unset, .unset] [(.int (11 : Int32)), (.ref b154), (.ref b154)])) rfl (hb hby at_79)
  refine own_via (fun t k => st213 t k) ?_
  have V215 : Arv Z h211 b154 k153 (.object zs1) (22 : Int32) [(.ref w87), (.ref w89), (.ref w91), (.ref w93), (.ref w95), (.ref w97), (.ref w99), (.ref w101), (.ref w103), (.ref w105), (.ref w107), .null] .null := V212.pad (pad_rep [(.ref w87), (.ref w89), (.ref w91), (.ref w93), (.ref w95), (.ref w97), (.ref w99), (.ref w101), (.ref w103), (.ref w105), (.ref w107)] .null 1)
  obtain ⟨cl216, Ar216, qq216, S216, M216, H216, G216⟩ := id (V215)
  have hin216 : ¬ ((11 : Int32) < 0 ∨ cl216.slots.size ≤ ((11 : Int32)).toNatClampNeg) := inb_of S216 ⟨by decide, by decide⟩
  obtain ⟨T216, h216, X216, e216, W216, st216⟩ := stR X213 hx hZ e213 Ar216 (j := (11 : Int32)) hin216 rfl (Sto.ofV Ar216 qq216 O153 (Ins.self (SE_w109.ext O214.2))) (g := (mkF m 82 #[iv i0, .unset, .unset, .unset] [(.ref w109), (.int (11 : Int32)), (.ref b154), (.ref b154)])) rfl rfl (hb hby at_82)
  refine own_via (fun t k => st216 t k) ?_
  have V217 : Arv Z h216 b154 k153 (.object zs1) (22 : Int32) [(.ref w87), (.ref w89), (.ref w91), (.ref w93), (.ref w95), (.ref w97), (.ref w99), (.ref w101), (.ref w103), (.ref w105), (.ref w107), (.ref w109)] .null := Arv.set Ar216 qq216 S216 M216 H216 G216 rfl W216 11 rfl (Nat.le_of_ble_eq_true rfl)
  have N216 := Fr.snoc X216 N211 g155
  show own_Goes p e below (T216.setTop (mkF m 83 #[iv i0, .unset, .unset, .unset] [(.ref b154)])) _
  refine own_via (fun t k => XS.dup X216.here hx rfl (hb hby at_83) rfl rfl (XS.bipush X216.here hx rfl (hb hby at_84) k)) ?_
  have O219 : Old Z n0 h216 := (O214.wr W216 g155)
  obtain ⟨T218, X218, e218, st218⟩ := getS2 X216 hx hZ hown (host := "") (Or.inl (wd hw 28 rfl)) Via.refl e216 (S_ColumnRole_MAGNITUDE.ext O219.2) (g := (mkF m 86 #[iv i0, .unset, .unset, .unset] [(.int (12 : Int32)), (.ref b154), (.ref b154)])) rfl (hb hby at_86)
  refine own_via (fun t k => st218 t k) ?_
  have V220 : Arv Z h216 b154 k153 (.object zs1) (22 : Int32) [(.ref w87), (.ref w89), (.ref w91), (.ref w93), (.ref w95), (.ref w97), (.ref w99), (.ref w101), (.ref w103), (.ref w105), (.ref w107), (.ref w109), .null] .null := V217.pad (pad_rep [(.ref w87), (.ref w89), (.ref w91), (.ref w93), (.ref w95), (.ref w97), (.ref w99), (.ref w101), (.ref w103), (.ref w105), (.ref w107), (.ref w109)] .null 1)
  obtain ⟨cl221, Ar221, qq221, S221, M221, H221, G221⟩ := id (V220)
  have hin221 : ¬ ((12 : Int32) < 0 ∨ cl221.slots.size ≤ ((12 : Int32)).toNatClampNeg) := inb_of S221 ⟨by decide, by decide⟩
  obtain ⟨T221, h221, X221, e221, W221, st221⟩ := stR X218 hx hZ e218 Ar221 (j := (12 : Int32)) hin221 rfl (Sto.ofV Ar221 qq221 O153 (Ins.self (SE_w111.ext O219.2))) (g := (mkF m 89 #[iv i0, .unset, .unset, .unset] [(.ref w111), (.int (12 : Int32)), (.ref b154), (.ref b154)])) rfl rfl (hb hby at_89)
  refine own_via (fun t k => st221 t k) ?_
  have V222 : Arv Z h221 b154 k153 (.object zs1) (22 : Int32) [(.ref w87), (.ref w89), (.ref w91), (.ref w93), (.ref w95), (.ref w97), (.ref w99), (.ref w101), (.ref w103), (.ref w105), (.ref w107), (.ref w109), (.ref w111)] .null := Arv.set Ar221 qq221 S221 M221 H221 G221 rfl W221 12 rfl (Nat.le_of_ble_eq_true rfl)
  have N221 := Fr.snoc X221 N216 g155
  show own_Goes p e below (T221.setTop (mkF m 90 #[iv i0, .unset, .unset, .unset] [(.ref b154)])) _
  refine own_via (fun t k => XS.dup X221.here hx rfl (hb hby at_90) rfl rfl (XS.bipush X221.here hx rfl (hb hby at_91) k)) ?_
  have O224 : Old Z n0 h221 := (O219.wr W221 g155)
  obtain ⟨T223, X223, e223, st223⟩ := getS2 X221 hx hZ hown (host := "") (Or.inl (wd hw 30 rfl)) Via.refl e221 (S_ColumnRole_COLOUR_INDEX.ext O224.2) (g := (mkF m 93 #[iv i0, .unset, .unset, .unset] [(.int (13 : Int32)), (.ref b154), (.ref b154)])) rfl (hb hby at_93)
  refine own_via (fun t k => st223 t k) ?_
  have V225 : Arv Z h221 b154 k153 (.object zs1) (22 : Int32) [(.ref w87), (.ref w89), (.ref w91), (.ref w93), (.ref w95), (.ref w97), (.ref w99), (.ref w101), (.ref w103), (.ref w105), (.ref w107), (.ref w109), (.ref w111), .null] .null := V222.pad (pad_rep [(.ref w87), (.ref w89), (.ref w91), (.ref w93), (.ref w95), (.ref w97), (.ref w99), (.ref w101), (.ref w103), (.ref w105), (.ref w107), (.ref w109), (.ref w111)] .null 1)
  obtain ⟨cl226, Ar226, qq226, S226, M226, H226, G226⟩ := id (V225)
  have hin226 : ¬ ((13 : Int32) < 0 ∨ cl226.slots.size ≤ ((13 : Int32)).toNatClampNeg) := inb_of S226 ⟨by decide, by decide⟩
  obtain ⟨T226, h226, X226, e226, W226, st226⟩ := stR X223 hx hZ e223 Ar226 (j := (13 : Int32)) hin226 rfl (Sto.ofV Ar226 qq226 O153 (Ins.self (SE_w113.ext O224.2))) (g := (mkF m 96 #[iv i0, .unset, .unset, .unset] [(.ref w113), (.int (13 : Int32)), (.ref b154), (.ref b154)])) rfl rfl (hb hby at_96)
  refine own_via (fun t k => st226 t k) ?_
  have V227 : Arv Z h226 b154 k153 (.object zs1) (22 : Int32) [(.ref w87), (.ref w89), (.ref w91), (.ref w93), (.ref w95), (.ref w97), (.ref w99), (.ref w101), (.ref w103), (.ref w105), (.ref w107), (.ref w109), (.ref w111), (.ref w113)] .null := Arv.set Ar226 qq226 S226 M226 H226 G226 rfl W226 13 rfl (Nat.le_of_ble_eq_true rfl)
  have N226 := Fr.snoc X226 N221 g155
  show own_Goes p e below (T226.setTop (mkF m 97 #[iv i0, .unset, .unset, .unset] [(.ref b154)])) _
  refine own_via (fun t k => XS.dup X226.here hx rfl (hb hby at_97) rfl rfl (XS.bipush X226.here hx rfl (hb hby at_98) k)) ?_
  have O229 : Old Z n0 h226 := (O224.wr W226 g155)
  obtain ⟨T228, X228, e228, st228⟩ := getS2 X226 hx hZ hown (host := "") (Or.inl (wd hw 32 rfl)) Via.refl e226 (S_ColumnRole_EXTINCTION.ext O229.2) (g := (mkF m 100 #[iv i0, .unset, .unset, .unset] [(.int (14 : Int32)), (.ref b154), (.ref b154)])) rfl (hb hby at_100)
  refine own_via (fun t k => st228 t k) ?_
  have V230 : Arv Z h226 b154 k153 (.object zs1) (22 : Int32) [(.ref w87), (.ref w89), (.ref w91), (.ref w93), (.ref w95), (.ref w97), (.ref w99), (.ref w101), (.ref w103), (.ref w105), (.ref w107), (.ref w109), (.ref w111), (.ref w113), .null] .null := V227.pad (pad_rep [(.ref w87), (.ref w89), (.ref w91), (.ref w93), (.ref w95), (.ref w97), (.ref w99), (.ref w101), (.ref w103), (.ref w105), (.ref w107), (.ref w109), (.ref w111), (.ref w113)] .null 1)
  obtain ⟨cl231, Ar231, qq231, S231, M231, H231, G231⟩ := id (V230)
  have hin231 : ¬ ((14 : Int32) < 0 ∨ cl231.slots.size ≤ ((14 : Int32)).toNatClampNeg) := inb_of S231 ⟨by decide, by decide⟩
  obtain ⟨T231, h231, X231, e231, W231, st231⟩ := stR X228 hx hZ e228 Ar231 (j := (14 : Int32)) hin231 rfl (Sto.ofV Ar231 qq231 O153 (Ins.self (SE_w115.ext O229.2))) (g := (mkF m 103 #[iv i0, .unset, .unset, .unset] [(.ref w115), (.int (14 : Int32)), (.ref b154), (.ref b154)])) rfl rfl (hb hby at_103)
  refine own_via (fun t k => st231 t k) ?_
  have V232 : Arv Z h231 b154 k153 (.object zs1) (22 : Int32) [(.ref w87), (.ref w89), (.ref w91), (.ref w93), (.ref w95), (.ref w97), (.ref w99), (.ref w101), (.ref w103), (.ref w105), (.ref w107), (.ref w109), (.ref w111), (.ref w113), (.ref w115)] .null := Arv.set Ar231 qq231 S231 M231 H231 G231 rfl W231 14 rfl (Nat.le_of_ble_eq_true rfl)
  have N231 := Fr.snoc X231 N226 g155
  show own_Goes p e below (T231.setTop (mkF m 104 #[iv i0, .unset, .unset, .unset] [(.ref b154)])) _
  refine own_via (fun t k => XS.dup X231.here hx rfl (hb hby at_104) rfl rfl (XS.bipush X231.here hx rfl (hb hby at_105) k)) ?_
  have O234 : Old Z n0 h231 := (O229.wr W231 g155)
  obtain ⟨T233, X233, e233, st233⟩ := getS2 X231 hx hZ hown (host := "") (Or.inl (wd hw 34 rfl)) Via.refl e231 (S_ColumnRole_REDDENING.ext O234.2) (g := (mkF m 107 #[iv i0, .unset, .unset, .unset] [(.int (15 : Int32)), (.ref b154), (.ref b154)])) rfl (hb hby at_107)
  refine own_via (fun t k => st233 t k) ?_
  have V235 : Arv Z h231 b154 k153 (.object zs1) (22 : Int32) [(.ref w87), (.ref w89), (.ref w91), (.ref w93), (.ref w95), (.ref w97), (.ref w99), (.ref w101), (.ref w103), (.ref w105), (.ref w107), (.ref w109), (.ref w111), (.ref w113), (.ref w115), .null] .null := V232.pad (pad_rep [(.ref w87), (.ref w89), (.ref w91), (.ref w93), (.ref w95), (.ref w97), (.ref w99), (.ref w101), (.ref w103), (.ref w105), (.ref w107), (.ref w109), (.ref w111), (.ref w113), (.ref w115)] .null 1)
  obtain ⟨cl236, Ar236, qq236, S236, M236, H236, G236⟩ := id (V235)
  have hin236 : ¬ ((15 : Int32) < 0 ∨ cl236.slots.size ≤ ((15 : Int32)).toNatClampNeg) := inb_of S236 ⟨by decide, by decide⟩
  obtain ⟨T236, h236, X236, e236, W236, st236⟩ := stR X233 hx hZ e233 Ar236 (j := (15 : Int32)) hin236 rfl (Sto.ofV Ar236 qq236 O153 (Ins.self (SE_w117.ext O234.2))) (g := (mkF m 110 #[iv i0, .unset, .unset, .unset] [(.ref w117), (.int (15 : Int32)), (.ref b154), (.ref b154)])) rfl rfl (hb hby at_110)
  refine own_via (fun t k => st236 t k) ?_
  have V237 : Arv Z h236 b154 k153 (.object zs1) (22 : Int32) [(.ref w87), (.ref w89), (.ref w91), (.ref w93), (.ref w95), (.ref w97), (.ref w99), (.ref w101), (.ref w103), (.ref w105), (.ref w107), (.ref w109), (.ref w111), (.ref w113), (.ref w115), (.ref w117)] .null := Arv.set Ar236 qq236 S236 M236 H236 G236 rfl W236 15 rfl (Nat.le_of_ble_eq_true rfl)
  have N236 := Fr.snoc X236 N231 g155
  show own_Goes p e below (T236.setTop (mkF m 111 #[iv i0, .unset, .unset, .unset] [(.ref b154)])) _
  refine own_via (fun t k => XS.dup X236.here hx rfl (hb hby at_111) rfl rfl (XS.bipush X236.here hx rfl (hb hby at_112) k)) ?_
  have O239 : Old Z n0 h236 := (O234.wr W236 g155)
  obtain ⟨T238, X238, e238, st238⟩ := getS2 X236 hx hZ hown (host := "") (Or.inl (wd hw 36 rfl)) Via.refl e236 (S_ColumnRole_PROPER_MOTION_RA.ext O239.2) (g := (mkF m 114 #[iv i0, .unset, .unset, .unset] [(.int (16 : Int32)), (.ref b154), (.ref b154)])) rfl (hb hby at_114)
  refine own_via (fun t k => st238 t k) ?_
  have V240 : Arv Z h236 b154 k153 (.object zs1) (22 : Int32) [(.ref w87), (.ref w89), (.ref w91), (.ref w93), (.ref w95), (.ref w97), (.ref w99), (.ref w101), (.ref w103), (.ref w105), (.ref w107), (.ref w109), (.ref w111), (.ref w113), (.ref w115), (.ref w117), .null] .null := V237.pad (pad_rep [(.ref w87), (.ref w89), (.ref w91), (.ref w93), (.ref w95), (.ref w97), (.ref w99), (.ref w101), (.ref w103), (.ref w105), (.ref w107), (.ref w109), (.ref w111), (.ref w113), (.ref w115), (.ref w117)] .null 1)
  obtain ⟨cl241, Ar241, qq241, S241, M241, H241, G241⟩ := id (V240)
  have hin241 : ¬ ((16 : Int32) < 0 ∨ cl241.slots.size ≤ ((16 : Int32)).toNatClampNeg) := inb_of S241 ⟨by decide, by decide⟩
  obtain ⟨T241, h241, X241, e241, W241, st241⟩ := stR X238 hx hZ e238 Ar241 (j := (16 : Int32)) hin241 rfl (Sto.ofV Ar241 qq241 O153 (Ins.self (SE_w119.ext O239.2))) (g := (mkF m 117 #[iv i0, .unset, .unset, .unset] [(.ref w119), (.int (16 : Int32)), (.ref b154), (.ref b154)])) rfl rfl (hb hby at_117)
  refine own_via (fun t k => st241 t k) ?_
  have V242 : Arv Z h241 b154 k153 (.object zs1) (22 : Int32) [(.ref w87), (.ref w89), (.ref w91), (.ref w93), (.ref w95), (.ref w97), (.ref w99), (.ref w101), (.ref w103), (.ref w105), (.ref w107), (.ref w109), (.ref w111), (.ref w113), (.ref w115), (.ref w117), (.ref w119)] .null := Arv.set Ar241 qq241 S241 M241 H241 G241 rfl W241 16 rfl (Nat.le_of_ble_eq_true rfl)
  have N241 := Fr.snoc X241 N236 g155
  show own_Goes p e below (T241.setTop (mkF m 118 #[iv i0, .unset, .unset, .unset] [(.ref b154)])) _
  refine own_via (fun t k => XS.dup X241.here hx rfl (hb hby at_118) rfl rfl (XS.bipush X241.here hx rfl (hb hby at_119) k)) ?_
  have O244 : Old Z n0 h241 := (O239.wr W241 g155)
  obtain ⟨T243, X243, e243, st243⟩ := getS2 X241 hx hZ hown (host := "") (Or.inl (wd hw 38 rfl)) Via.refl e241 (S_ColumnRole_PROPER_MOTION_DEC.ext O244.2) (g := (mkF m 121 #[iv i0, .unset, .unset, .unset] [(.int (17 : Int32)), (.ref b154), (.ref b154)])) rfl (hb hby at_121)
  refine own_via (fun t k => st243 t k) ?_
  have V245 : Arv Z h241 b154 k153 (.object zs1) (22 : Int32) [(.ref w87), (.ref w89), (.ref w91), (.ref w93), (.ref w95), (.ref w97), (.ref w99), (.ref w101), (.ref w103), (.ref w105), (.ref w107), (.ref w109), (.ref w111), (.ref w113), (.ref w115), (.ref w117), (.ref w119), .null] .null := V242.pad (pad_rep [(.ref w87), (.ref w89), (.ref w91), (.ref w93), (.ref w95), (.ref w97), (.ref w99), (.ref w101), (.ref w103), (.ref w105), (.ref w107), (.ref w109), (.ref w111), (.ref w113), (.ref w115), (.ref w117), (.ref w119)] .null 1)
  obtain ⟨cl246, Ar246, qq246, S246, M246, H246, G246⟩ := id (V245)
  have hin246 : ¬ ((17 : Int32) < 0 ∨ cl246.slots.size ≤ ((17 : Int32)).toNatClampNeg) := inb_of S246 ⟨by decide, by decide⟩
  obtain ⟨T246, h246, X246, e246, W246, st246⟩ := stR X243 hx hZ e243 Ar246 (j := (17 : Int32)) hin246 rfl (Sto.ofV Ar246 qq246 O153 (Ins.self (SE_w121.ext O244.2))) (g := (mkF m 124 #[iv i0, .unset, .unset, .unset] [(.ref w121), (.int (17 : Int32)), (.ref b154), (.ref b154)])) rfl rfl (hb hby at_124)
  refine own_via (fun t k => st246 t k) ?_
  have V247 : Arv Z h246 b154 k153 (.object zs1) (22 : Int32) [(.ref w87), (.ref w89), (.ref w91), (.ref w93), (.ref w95), (.ref w97), (.ref w99), (.ref w101), (.ref w103), (.ref w105), (.ref w107), (.ref w109), (.ref w111), (.ref w113), (.ref w115), (.ref w117), (.ref w119), (.ref w121)] .null := Arv.set Ar246 qq246 S246 M246 H246 G246 rfl W246 17 rfl (Nat.le_of_ble_eq_true rfl)
  have N246 := Fr.snoc X246 N241 g155
  show own_Goes p e below (T246.setTop (mkF m 125 #[iv i0, .unset, .unset, .unset] [(.ref b154)])) _
  refine own_via (fun t k => XS.dup X246.here hx rfl (hb hby at_125) rfl rfl (XS.bipush X246.here hx rfl (hb hby at_126) k)) ?_
  have O249 : Old Z n0 h246 := (O244.wr W246 g155)
  obtain ⟨T248, X248, e248, st248⟩ := getS2 X246 hx hZ hown (host := "") (Or.inl (wd hw 40 rfl)) Via.refl e246 (S_ColumnRole_RADIAL_VELOCITY.ext O249.2) (g := (mkF m 128 #[iv i0, .unset, .unset, .unset] [(.int (18 : Int32)), (.ref b154), (.ref b154)])) rfl (hb hby at_128)
  refine own_via (fun t k => st248 t k) ?_
  have V250 : Arv Z h246 b154 k153 (.object zs1) (22 : Int32) [(.ref w87), (.ref w89), (.ref w91), (.ref w93), (.ref w95), (.ref w97), (.ref w99), (.ref w101), (.ref w103), (.ref w105), (.ref w107), (.ref w109), (.ref w111), (.ref w113), (.ref w115), (.ref w117), (.ref w119), (.ref w121), .null] .null := V247.pad (pad_rep [(.ref w87), (.ref w89), (.ref w91), (.ref w93), (.ref w95), (.ref w97), (.ref w99), (.ref w101), (.ref w103), (.ref w105), (.ref w107), (.ref w109), (.ref w111), (.ref w113), (.ref w115), (.ref w117), (.ref w119), (.ref w121)] .null 1)
  obtain ⟨cl251, Ar251, qq251, S251, M251, H251, G251⟩ := id (V250)
  have hin251 : ¬ ((18 : Int32) < 0 ∨ cl251.slots.size ≤ ((18 : Int32)).toNatClampNeg) := inb_of S251 ⟨by decide, by decide⟩
  obtain ⟨T251, h251, X251, e251, W251, st251⟩ := stR X248 hx hZ e248 Ar251 (j := (18 : Int32)) hin251 rfl (Sto.ofV Ar251 qq251 O153 (Ins.self (SE_w123.ext O249.2))) (g := (mkF m 131 #[iv i0, .unset, .unset, .unset] [(.ref w123), (.int (18 : Int32)), (.ref b154), (.ref b154)])) rfl rfl (hb hby at_131)
  refine own_via (fun t k => st251 t k) ?_
  have V252 : Arv Z h251 b154 k153 (.object zs1) (22 : Int32) [(.ref w87), (.ref w89), (.ref w91), (.ref w93), (.ref w95), (.ref w97), (.ref w99), (.ref w101), (.ref w103), (.ref w105), (.ref w107), (.ref w109), (.ref w111), (.ref w113), (.ref w115), (.ref w117), (.ref w119), (.ref w121), (.ref w123)] .null := Arv.set Ar251 qq251 S251 M251 H251 G251 rfl W251 18 rfl (Nat.le_of_ble_eq_true rfl)
  have N251 := Fr.snoc X251 N246 g155
  show own_Goes p e below (T251.setTop (mkF m 132 #[iv i0, .unset, .unset, .unset] [(.ref b154)])) _
  refine own_via (fun t k => XS.dup X251.here hx rfl (hb hby at_132) rfl rfl (XS.bipush X251.here hx rfl (hb hby at_133) k)) ?_
  have O254 : Old Z n0 h251 := (O249.wr W251 g155)
  obtain ⟨T253, X253, e253, st253⟩ := getS2 X251 hx hZ hown (host := "") (Or.inl (wd hw 42 rfl)) Via.refl e251 (S_ColumnRole_ID.ext O254.2) (g := (mkF m 135 #[iv i0, .unset, .unset, .unset] [(.int (19 : Int32)), (.ref b154), (.ref b154)])) rfl (hb hby at_135)
  refine own_via (fun t k => st253 t k) ?_
  have V255 : Arv Z h251 b154 k153 (.object zs1) (22 : Int32) [(.ref w87), (.ref w89), (.ref w91), (.ref w93), (.ref w95), (.ref w97), (.ref w99), (.ref w101), (.ref w103), (.ref w105), (.ref w107), (.ref w109), (.ref w111), (.ref w113), (.ref w115), (.ref w117), (.ref w119), (.ref w121), (.ref w123), .null] .null := V252.pad (pad_rep [(.ref w87), (.ref w89), (.ref w91), (.ref w93), (.ref w95), (.ref w97), (.ref w99), (.ref w101), (.ref w103), (.ref w105), (.ref w107), (.ref w109), (.ref w111), (.ref w113), (.ref w115), (.ref w117), (.ref w119), (.ref w121), (.ref w123)] .null 1)
  obtain ⟨cl256, Ar256, qq256, S256, M256, H256, G256⟩ := id (V255)
  have hin256 : ¬ ((19 : Int32) < 0 ∨ cl256.slots.size ≤ ((19 : Int32)).toNatClampNeg) := inb_of S256 ⟨by decide, by decide⟩
  obtain ⟨T256, h256, X256, e256, W256, st256⟩ := stR X253 hx hZ e253 Ar256 (j := (19 : Int32)) hin256 rfl (Sto.ofV Ar256 qq256 O153 (Ins.self (SE_w125.ext O254.2))) (g := (mkF m 138 #[iv i0, .unset, .unset, .unset] [(.ref w125), (.int (19 : Int32)), (.ref b154), (.ref b154)])) rfl rfl (hb hby at_138)
  refine own_via (fun t k => st256 t k) ?_
  have V257 : Arv Z h256 b154 k153 (.object zs1) (22 : Int32) [(.ref w87), (.ref w89), (.ref w91), (.ref w93), (.ref w95), (.ref w97), (.ref w99), (.ref w101), (.ref w103), (.ref w105), (.ref w107), (.ref w109), (.ref w111), (.ref w113), (.ref w115), (.ref w117), (.ref w119), (.ref w121), (.ref w123), (.ref w125)] .null := Arv.set Ar256 qq256 S256 M256 H256 G256 rfl W256 19 rfl (Nat.le_of_ble_eq_true rfl)
  have N256 := Fr.snoc X256 N251 g155
  show own_Goes p e below (T256.setTop (mkF m 139 #[iv i0, .unset, .unset, .unset] [(.ref b154)])) _
  refine own_via (fun t k => XS.dup X256.here hx rfl (hb hby at_139) rfl rfl (XS.bipush X256.here hx rfl (hb hby at_140) k)) ?_
  have O259 : Old Z n0 h256 := (O254.wr W256 g155)
  obtain ⟨T258, X258, e258, st258⟩ := getS2 X256 hx hZ hown (host := "") (Or.inl (wd hw 44 rfl)) Via.refl e256 (S_ColumnRole_NAME.ext O259.2) (g := (mkF m 142 #[iv i0, .unset, .unset, .unset] [(.int (20 : Int32)), (.ref b154), (.ref b154)])) rfl (hb hby at_142)
  refine own_via (fun t k => st258 t k) ?_
  have V260 : Arv Z h256 b154 k153 (.object zs1) (22 : Int32) [(.ref w87), (.ref w89), (.ref w91), (.ref w93), (.ref w95), (.ref w97), (.ref w99), (.ref w101), (.ref w103), (.ref w105), (.ref w107), (.ref w109), (.ref w111), (.ref w113), (.ref w115), (.ref w117), (.ref w119), (.ref w121), (.ref w123), (.ref w125), .null] .null := V257.pad (pad_rep [(.ref w87), (.ref w89), (.ref w91), (.ref w93), (.ref w95), (.ref w97), (.ref w99), (.ref w101), (.ref w103), (.ref w105), (.ref w107), (.ref w109), (.ref w111), (.ref w113), (.ref w115), (.ref w117), (.ref w119), (.ref w121), (.ref w123), (.ref w125)] .null 1)
  obtain ⟨cl261, Ar261, qq261, S261, M261, H261, G261⟩ := id (V260)
  have hin261 : ¬ ((20 : Int32) < 0 ∨ cl261.slots.size ≤ ((20 : Int32)).toNatClampNeg) := inb_of S261 ⟨by decide, by decide⟩
  obtain ⟨T261, h261, X261, e261, W261, st261⟩ := stR X258 hx hZ e258 Ar261 (j := (20 : Int32)) hin261 rfl (Sto.ofV Ar261 qq261 O153 (Ins.self (SE_w127.ext O259.2))) (g := (mkF m 145 #[iv i0, .unset, .unset, .unset] [(.ref w127), (.int (20 : Int32)), (.ref b154), (.ref b154)])) rfl rfl (hb hby at_145)
  refine own_via (fun t k => st261 t k) ?_
  have V262 : Arv Z h261 b154 k153 (.object zs1) (22 : Int32) [(.ref w87), (.ref w89), (.ref w91), (.ref w93), (.ref w95), (.ref w97), (.ref w99), (.ref w101), (.ref w103), (.ref w105), (.ref w107), (.ref w109), (.ref w111), (.ref w113), (.ref w115), (.ref w117), (.ref w119), (.ref w121), (.ref w123), (.ref w125), (.ref w127)] .null := Arv.set Ar261 qq261 S261 M261 H261 G261 rfl W261 20 rfl (Nat.le_of_ble_eq_true rfl)
  have N261 := Fr.snoc X261 N256 g155
  show own_Goes p e below (T261.setTop (mkF m 146 #[iv i0, .unset, .unset, .unset] [(.ref b154)])) _
  refine own_via (fun t k => XS.dup X261.here hx rfl (hb hby at_146) rfl rfl (XS.bipush X261.here hx rfl (hb hby at_147) k)) ?_
  have O264 : Old Z n0 h261 := (O259.wr W261 g155)
  obtain ⟨T263, X263, e263, st263⟩ := getS2 X261 hx hZ hown (host := "") (Or.inl (wd hw 46 rfl)) Via.refl e261 (S_ColumnRole_ATTRIBUTE.ext O264.2) (g := (mkF m 149 #[iv i0, .unset, .unset, .unset] [(.int (21 : Int32)), (.ref b154), (.ref b154)])) rfl (hb hby at_149)
  refine own_via (fun t k => st263 t k) ?_
  have V265 : Arv Z h261 b154 k153 (.object zs1) (22 : Int32) [(.ref w87), (.ref w89), (.ref w91), (.ref w93), (.ref w95), (.ref w97), (.ref w99), (.ref w101), (.ref w103), (.ref w105), (.ref w107), (.ref w109), (.ref w111), (.ref w113), (.ref w115), (.ref w117), (.ref w119), (.ref w121), (.ref w123), (.ref w125), (.ref w127), .null] .null := V262.pad (pad_rep [(.ref w87), (.ref w89), (.ref w91), (.ref w93), (.ref w95), (.ref w97), (.ref w99), (.ref w101), (.ref w103), (.ref w105), (.ref w107), (.ref w109), (.ref w111), (.ref w113), (.ref w115), (.ref w117), (.ref w119), (.ref w121), (.ref w123), (.ref w125), (.ref w127)] .null 1)
  obtain ⟨cl266, Ar266, qq266, S266, M266, H266, G266⟩ := id (V265)
  have hin266 : ¬ ((21 : Int32) < 0 ∨ cl266.slots.size ≤ ((21 : Int32)).toNatClampNeg) := inb_of S266 ⟨by decide, by decide⟩
  obtain ⟨T266, h266, X266, e266, W266, st266⟩ := stR X263 hx hZ e263 Ar266 (j := (21 : Int32)) hin266 rfl (Sto.ofV Ar266 qq266 O153 (Ins.self (SE_w129.ext O264.2))) (g := (mkF m 152 #[iv i0, .unset, .unset, .unset] [(.ref w129), (.int (21 : Int32)), (.ref b154), (.ref b154)])) rfl rfl (hb hby at_152)
  refine own_via (fun t k => st266 t k) ?_
  have V267 : Arv Z h266 b154 k153 (.object zs1) (22 : Int32) [(.ref w87), (.ref w89), (.ref w91), (.ref w93), (.ref w95), (.ref w97), (.ref w99), (.ref w101), (.ref w103), (.ref w105), (.ref w107), (.ref w109), (.ref w111), (.ref w113), (.ref w115), (.ref w117), (.ref w119), (.ref w121), (.ref w123), (.ref w125), (.ref w127), (.ref w129)] .null := Arv.set Ar266 qq266 S266 M266 H266 G266 rfl W266 21 rfl (Nat.le_of_ble_eq_true rfl)
  have N266 := Fr.snoc X266 N261 g155
  show own_Goes p e below (T266.setTop (mkF m 153 #[iv i0, .unset, .unset, .unset] [(.ref b154)])) _
  refine own_via (fun t k => XS.astoreN X266.here hx rfl (hb hby at_153) rfl rfl (l' := #[iv i0, rv b154, .unset, .unset]) rfl (XS.iloadN X266.here hx rfl (hb hby at_154) rfl (X266.ldcInt hx hown (mvT hZ (wd hw 48 rfl)) (g := (mkF m 155 #[iv i0, rv b154, .unset, .unset] [(.int i0)])) rfl (hb hby at_155) t (XS.iand X266.here hx rfl (hb hby at_157) rfl (XS.bipush X266.here hx rfl (hb hby at_158) (iremM (g := (mkF m 160 #[iv i0, rv b154, .unset, .unset] [(.int (22 : Int32)), (.int (i0 &&& (2147483647 : Int32)))])) X266 hx rfl (hb hby at_160) rfl (by decide) k)))))) ?_
  show own_Goes p e below (T266.setTop (mkF m 161 #[iv i0, rv b154, .unset, .unset] [(.int ((i0 &&& (2147483647 : Int32)) % (22 : Int32)))])) _
  rcases own_mod_22 i0 with qs | qs | qs | qs | qs | qs | qs | qs | qs | qs | qs | qs | qs | qs | qs | qs | qs | qs | qs | qs | qs | qs
  · have qs268 := qs
    rw [qs]
    show own_Goes p e below (T266.setTop (mkF m 161 #[iv i0, rv b154, .unset, .unset] [(.int (0 : Int32))])) _
    refine own_via (fun t k => XS.istoreN X266.here hx rfl (hb hby at_161) rfl (l' := #[iv i0, rv b154, iv (0 : Int32), .unset]) rfl (XS.iloadN X266.here hx rfl (hb hby at_162) rfl (XS.bipush X266.here hx rfl (hb hby at_163) (XS.icmpNo X266.here hx rfl (hb hby at_165) rfl (tlt (by decide : (0 : Int32) < (20 : Int32))).2.1 (XS.iconst X266.here hx rfl (hb hby at_168) (XS.goto X266.here hx rfl (pc0 := 169) (pc' := 173) rfl (hb hby at_169) (by decide) (by decide) (XS.istoreN X266.here hx rfl (hb hby at_173) rfl (l' := #[iv i0, rv b154, iv (0 : Int32), iv (1 : Int32)]) rfl (XS.aloadN X266.here hx rfl (hb hby at_174) rfl rfl (XS.iloadN X266.here hx rfl (hb hby at_175) rfl k))))))))) ?_
    show own_Goes p e below (T266.setTop (mkF m 176 #[iv i0, rv b154, iv (0 : Int32), iv (1 : Int32)] [(.int (0 : Int32)), (.ref b154)])) _
    obtain ⟨cl269, Ar269, qq269, S269, M269, H269, G269⟩ := id (V267)
    have hin269 : ¬ ((0 : Int32) < 0 ∨ cl269.slots.size ≤ ((0 : Int32)).toNatClampNeg) := inb_of S269 ⟨by decide, by decide⟩
    refine own_via (fun t k => X266.aaload hx (j := (0 : Int32)) (v := (.ref w87)) (by rw [e266]; exact Ar269.1) (State.isArrayOf_alike hZ.alike Ar269.2.1) rfl Ar269.2.2 hin269 (Has.at H269 hin269 rfl) (g := (mkF m 176 #[iv i0, rv b154, iv (0 : Int32), iv (1 : Int32)] [(.int (0 : Int32)), (.ref b154)])) rfl rfl (hb hby at_176) t k) ?_
    have O280 : Old Z n0 h266 := (O264.wr W266 g155)
    obtain ⟨_, T270, _, X270, hQ270, st270⟩ := own_cv X266 hx hZ hown (wd hw 49 rfl) (wd hw 50 rfl) (wd hw 52 rfl) (wd hw 51 rfl) (wd hw 53 rfl) (wd hw 3 rfl) (by decide) (rm1 l Z a0 hw [] w87 w127 w129 h266 n0 O280 S_ColumnRole_NAME SF_w87_ordinal SF_w127_ordinal S_ColumnRole_ATTRIBUTE SF_w129_ordinal) e266 (SE_w87.ext O280.2) (g := (mkF m 177 #[iv i0, rv b154, iv (0 : Int32), iv (1 : Int32)] [(.ref w87)])) rfl (by rw [hml]; rfl) (rest := []) (W := 0) (lenOf pd_1 rfl) rfl (by show 2 * 0 + _ ≤ _; exact Nat.le_of_eq rfl) (hb hby at_177) (by decide) (by decide) (by decide) (by decide)
    obtain ⟨rfl, Nq270, hh281⟩ := hQ270
    have N270 := Fr.app N266 Nq270
    refine own_via (fun t k => st270 t (XS.iloadN X270.here hx rfl (hb hby at_180) rfl (XS.icmpNo X270.here hx rfl (hb hby at_181) rfl (teq (by decide : (1 : Int32) = (1 : Int32))).2 (XS.iconst X270.here hx rfl (hb hby at_184) (XS.goto X270.here hx rfl (pc0 := 185) (pc' := 189) rfl (hb hby at_185) (by decide) (by decide) k))))) ?_
    show own_Goes p e below (T270.setTop (mkF m 189 #[iv i0, rv b154, iv (0 : Int32), iv (1 : Int32)] [(.int (1 : Int32))])) _
    obtain ⟨fs, hr, hrun, hended, hW, hsame⟩ := X270.leave (v := some (.int (1 : Int32))) (fun h => by rw [Bd.returns] at h; cases h)
    refine own_end (t := T270.setFrames fs) ?_ ⟨_, hrun, hended, _, _, rfl, ?_, ⟨_, rfl⟩, hW, hsame.mono (by decide) (by decide)⟩
    · exact retN X270 hx (t := .boolean) Bd.returns (by simp) (hb hby at_189) hr
    · exact ⟨rfl, N270⟩
  · have qs282 := qs
    rw [qs]
    show own_Goes p e below (T266.setTop (mkF m 161 #[iv i0, rv b154, .unset, .unset] [(.int (1 : Int32))])) _
    refine own_via (fun t k => XS.istoreN X266.here hx rfl (hb hby at_161) rfl (l' := #[iv i0, rv b154, iv (1 : Int32), .unset]) rfl (XS.iloadN X266.here hx rfl (hb hby at_162) rfl (XS.bipush X266.here hx rfl (hb hby at_163) (XS.icmpNo X266.here hx rfl (hb hby at_165) rfl (tlt (by decide : (1 : Int32) < (20 : Int32))).2.1 (XS.iconst X266.here hx rfl (hb hby at_168) (XS.goto X266.here hx rfl (pc0 := 169) (pc' := 173) rfl (hb hby at_169) (by decide) (by decide) (XS.istoreN X266.here hx rfl (hb hby at_173) rfl (l' := #[iv i0, rv b154, iv (1 : Int32), iv (1 : Int32)]) rfl (XS.aloadN X266.here hx rfl (hb hby at_174) rfl rfl (XS.iloadN X266.here hx rfl (hb hby at_175) rfl k))))))))) ?_
    show own_Goes p e below (T266.setTop (mkF m 176 #[iv i0, rv b154, iv (1 : Int32), iv (1 : Int32)] [(.int (1 : Int32)), (.ref b154)])) _
    obtain ⟨cl283, Ar283, qq283, S283, M283, H283, G283⟩ := id (V267)
    have hin283 : ¬ ((1 : Int32) < 0 ∨ cl283.slots.size ≤ ((1 : Int32)).toNatClampNeg) := inb_of S283 ⟨by decide, by decide⟩
    refine own_via (fun t k => X266.aaload hx (j := (1 : Int32)) (v := (.ref w89)) (by rw [e266]; exact Ar283.1) (State.isArrayOf_alike hZ.alike Ar283.2.1) rfl Ar283.2.2 hin283 (Has.at H283 hin283 rfl) (g := (mkF m 176 #[iv i0, rv b154, iv (1 : Int32), iv (1 : Int32)] [(.int (1 : Int32)), (.ref b154)])) rfl rfl (hb hby at_176) t k) ?_
    have O294 : Old Z n0 h266 := (O264.wr W266 g155)
    obtain ⟨_, T284, _, X284, hQ284, st284⟩ := own_cv X266 hx hZ hown (wd hw 49 rfl) (wd hw 50 rfl) (wd hw 52 rfl) (wd hw 51 rfl) (wd hw 53 rfl) (wd hw 3 rfl) (by decide) (rm2 l Z a0 hw [] w89 w127 w129 h266 n0 O294 S_ColumnRole_NAME SF_w89_ordinal SF_w127_ordinal S_ColumnRole_ATTRIBUTE SF_w129_ordinal) e266 (SE_w89.ext O294.2) (g := (mkF m 177 #[iv i0, rv b154, iv (1 : Int32), iv (1 : Int32)] [(.ref w89)])) rfl (by rw [hml]; rfl) (rest := []) (W := 0) (lenOf pd_1 rfl) rfl (by show 2 * 0 + _ ≤ _; exact Nat.le_of_eq rfl) (hb hby at_177) (by decide) (by decide) (by decide) (by decide)
    obtain ⟨rfl, Nq284, hh295⟩ := hQ284
    have N284 := Fr.app N266 Nq284
    refine own_via (fun t k => st284 t (XS.iloadN X284.here hx rfl (hb hby at_180) rfl (XS.icmpNo X284.here hx rfl (hb hby at_181) rfl (teq (by decide : (1 : Int32) = (1 : Int32))).2 (XS.iconst X284.here hx rfl (hb hby at_184) (XS.goto X284.here hx rfl (pc0 := 185) (pc' := 189) rfl (hb hby at_185) (by decide) (by decide) k))))) ?_
    show own_Goes p e below (T284.setTop (mkF m 189 #[iv i0, rv b154, iv (1 : Int32), iv (1 : Int32)] [(.int (1 : Int32))])) _
    obtain ⟨fs, hr, hrun, hended, hW, hsame⟩ := X284.leave (v := some (.int (1 : Int32))) (fun h => by rw [Bd.returns] at h; cases h)
    refine own_end (t := T284.setFrames fs) ?_ ⟨_, hrun, hended, _, _, rfl, ?_, ⟨_, rfl⟩, hW, hsame.mono (by decide) (by decide)⟩
    · exact retN X284 hx (t := .boolean) Bd.returns (by simp) (hb hby at_189) hr
    · exact ⟨rfl, N284⟩
  · have qs296 := qs
    rw [qs]
    show own_Goes p e below (T266.setTop (mkF m 161 #[iv i0, rv b154, .unset, .unset] [(.int (2 : Int32))])) _
    refine own_via (fun t k => XS.istoreN X266.here hx rfl (hb hby at_161) rfl (l' := #[iv i0, rv b154, iv (2 : Int32), .unset]) rfl (XS.iloadN X266.here hx rfl (hb hby at_162) rfl (XS.bipush X266.here hx rfl (hb hby at_163) (XS.icmpNo X266.here hx rfl (hb hby at_165) rfl (tlt (by decide : (2 : Int32) < (20 : Int32))).2.1 (XS.iconst X266.here hx rfl (hb hby at_168) (XS.goto X266.here hx rfl (pc0 := 169) (pc' := 173) rfl (hb hby at_169) (by decide) (by decide) (XS.istoreN X266.here hx rfl (hb hby at_173) rfl (l' := #[iv i0, rv b154, iv (2 : Int32), iv (1 : Int32)]) rfl (XS.aloadN X266.here hx rfl (hb hby at_174) rfl rfl (XS.iloadN X266.here hx rfl (hb hby at_175) rfl k))))))))) ?_
    show own_Goes p e below (T266.setTop (mkF m 176 #[iv i0, rv b154, iv (2 : Int32), iv (1 : Int32)] [(.int (2 : Int32)), (.ref b154)])) _
    obtain ⟨cl297, Ar297, qq297, S297, M297, H297, G297⟩ := id (V267)
    have hin297 : ¬ ((2 : Int32) < 0 ∨ cl297.slots.size ≤ ((2 : Int32)).toNatClampNeg) := inb_of S297 ⟨by decide, by decide⟩
    refine own_via (fun t k => X266.aaload hx (j := (2 : Int32)) (v := (.ref w91)) (by rw [e266]; exact Ar297.1) (State.isArrayOf_alike hZ.alike Ar297.2.1) rfl Ar297.2.2 hin297 (Has.at H297 hin297 rfl) (g := (mkF m 176 #[iv i0, rv b154, iv (2 : Int32), iv (1 : Int32)] [(.int (2 : Int32)), (.ref b154)])) rfl rfl (hb hby at_176) t k) ?_
    have O308 : Old Z n0 h266 := (O264.wr W266 g155)
    obtain ⟨_, T298, _, X298, hQ298, st298⟩ := own_cv X266 hx hZ hown (wd hw 49 rfl) (wd hw 50 rfl) (wd hw 52 rfl) (wd hw 51 rfl) (wd hw 53 rfl) (wd hw 3 rfl) (by decide) (rm3 l Z a0 hw [] w91 w127 w129 h266 n0 O308 S_ColumnRole_NAME SF_w91_ordinal SF_w127_ordinal S_ColumnRole_ATTRIBUTE SF_w129_ordinal) e266 (SE_w91.ext O308.2) (g := (mkF m 177 #[iv i0, rv b154, iv (2 : Int32), iv (1 : Int32)] [(.ref w91)])) rfl (by rw [hml]; rfl) (rest := []) (W := 0) (lenOf pd_1 rfl) rfl (by show 2 * 0 + _ ≤ _; exact Nat.le_of_eq rfl) (hb hby at_177) (by decide) (by decide) (by decide) (by decide)
    obtain ⟨rfl, Nq298, hh309⟩ := hQ298
    have N298 := Fr.app N266 Nq298
    refine own_via (fun t k => st298 t (XS.iloadN X298.here hx rfl (hb hby at_180) rfl (XS.icmpNo X298.here hx rfl (hb hby at_181) rfl (teq (by decide : (1 : Int32) = (1 : Int32))).2 (XS.iconst X298.here hx rfl (hb hby at_184) (XS.goto X298.here hx rfl (pc0 := 185) (pc' := 189) rfl (hb hby at_185) (by decide) (by decide) k))))) ?_
    show own_Goes p e below (T298.setTop (mkF m 189 #[iv i0, rv b154, iv (2 : Int32), iv (1 : Int32)] [(.int (1 : Int32))])) _
    obtain ⟨fs, hr, hrun, hended, hW, hsame⟩ := X298.leave (v := some (.int (1 : Int32))) (fun h => by rw [Bd.returns] at h; cases h)
    refine own_end (t := T298.setFrames fs) ?_ ⟨_, hrun, hended, _, _, rfl, ?_, ⟨_, rfl⟩, hW, hsame.mono (by decide) (by decide)⟩
    · exact retN X298 hx (t := .boolean) Bd.returns (by simp) (hb hby at_189) hr
    · exact ⟨rfl, N298⟩
  · have qs310 := qs
    rw [qs]
    show own_Goes p e below (T266.setTop (mkF m 161 #[iv i0, rv b154, .unset, .unset] [(.int (3 : Int32))])) _
    refine own_via (fun t k => XS.istoreN X266.here hx rfl (hb hby at_161) rfl (l' := #[iv i0, rv b154, iv (3 : Int32), .unset]) rfl (XS.iloadN X266.here hx rfl (hb hby at_162) rfl (XS.bipush X266.here hx rfl (hb hby at_163) (XS.icmpNo X266.here hx rfl (hb hby at_165) rfl (tlt (by decide : (3 : Int32) < (20 : Int32))).2.1 (XS.iconst X266.here hx rfl (hb hby at_168) (XS.goto X266.here hx rfl (pc0 := 169) (pc' := 173) rfl (hb hby at_169) (by decide) (by decide) (XS.istoreN X266.here hx rfl (hb hby at_173) rfl (l' := #[iv i0, rv b154, iv (3 : Int32), iv (1 : Int32)]) rfl (XS.aloadN X266.here hx rfl (hb hby at_174) rfl rfl (XS.iloadN X266.here hx rfl (hb hby at_175) rfl k))))))))) ?_
    show own_Goes p e below (T266.setTop (mkF m 176 #[iv i0, rv b154, iv (3 : Int32), iv (1 : Int32)] [(.int (3 : Int32)), (.ref b154)])) _
    obtain ⟨cl311, Ar311, qq311, S311, M311, H311, G311⟩ := id (V267)
    have hin311 : ¬ ((3 : Int32) < 0 ∨ cl311.slots.size ≤ ((3 : Int32)).toNatClampNeg) := inb_of S311 ⟨by decide, by decide⟩
    refine own_via (fun t k => X266.aaload hx (j := (3 : Int32)) (v := (.ref w93)) (by rw [e266]; exact Ar311.1) (State.isArrayOf_alike hZ.alike Ar311.2.1) rfl Ar311.2.2 hin311 (Has.at H311 hin311 rfl) (g := (mkF m 176 #[iv i0, rv b154, iv (3 : Int32), iv (1 : Int32)] [(.int (3 : Int32)), (.ref b154)])) rfl rfl (hb hby at_176) t k) ?_
    have O322 : Old Z n0 h266 := (O264.wr W266 g155)
    obtain ⟨_, T312, _, X312, hQ312, st312⟩ := own_cv X266 hx hZ hown (wd hw 49 rfl) (wd hw 50 rfl) (wd hw 52 rfl) (wd hw 51 rfl) (wd hw 53 rfl) (wd hw 3 rfl) (by decide) (rm4 l Z a0 hw [] w93 w127 w129 h266 n0 O322 S_ColumnRole_NAME SF_w93_ordinal SF_w127_ordinal S_ColumnRole_ATTRIBUTE SF_w129_ordinal) e266 (SE_w93.ext O322.2) (g := (mkF m 177 #[iv i0, rv b154, iv (3 : Int32), iv (1 : Int32)] [(.ref w93)])) rfl (by rw [hml]; rfl) (rest := []) (W := 0) (lenOf pd_1 rfl) rfl (by show 2 * 0 + _ ≤ _; exact Nat.le_of_eq rfl) (hb hby at_177) (by decide) (by decide) (by decide) (by decide)
    obtain ⟨rfl, Nq312, hh323⟩ := hQ312
    have N312 := Fr.app N266 Nq312
    refine own_via (fun t k => st312 t (XS.iloadN X312.here hx rfl (hb hby at_180) rfl (XS.icmpNo X312.here hx rfl (hb hby at_181) rfl (teq (by decide : (1 : Int32) = (1 : Int32))).2 (XS.iconst X312.here hx rfl (hb hby at_184) (XS.goto X312.here hx rfl (pc0 := 185) (pc' := 189) rfl (hb hby at_185) (by decide) (by decide) k))))) ?_
    show own_Goes p e below (T312.setTop (mkF m 189 #[iv i0, rv b154, iv (3 : Int32), iv (1 : Int32)] [(.int (1 : Int32))])) _
    obtain ⟨fs, hr, hrun, hended, hW, hsame⟩ := X312.leave (v := some (.int (1 : Int32))) (fun h => by rw [Bd.returns] at h; cases h)
    refine own_end (t := T312.setFrames fs) ?_ ⟨_, hrun, hended, _, _, rfl, ?_, ⟨_, rfl⟩, hW, hsame.mono (by decide) (by decide)⟩
    · exact retN X312 hx (t := .boolean) Bd.returns (by simp) (hb hby at_189) hr
    · exact ⟨rfl, N312⟩
  · have qs324 := qs
    rw [qs]
    show own_Goes p e below (T266.setTop (mkF m 161 #[iv i0, rv b154, .unset, .unset] [(.int (4 : Int32))])) _
    refine own_via (fun t k => XS.istoreN X266.here hx rfl (hb hby at_161) rfl (l' := #[iv i0, rv b154, iv (4 : Int32), .unset]) rfl (XS.iloadN X266.here hx rfl (hb hby at_162) rfl (XS.bipush X266.here hx rfl (hb hby at_163) (XS.icmpNo X266.here hx rfl (hb hby at_165) rfl (tlt (by decide : (4 : Int32) < (20 : Int32))).2.1 (XS.iconst X266.here hx rfl (hb hby at_168) (XS.goto X266.here hx rfl (pc0 := 169) (pc' := 173) rfl (hb hby at_169) (by decide) (by decide) (XS.istoreN X266.here hx rfl (hb hby at_173) rfl (l' := #[iv i0, rv b154, iv (4 : Int32), iv (1 : Int32)]) rfl (XS.aloadN X266.here hx rfl (hb hby at_174) rfl rfl (XS.iloadN X266.here hx rfl (hb hby at_175) rfl k))))))))) ?_
    show own_Goes p e below (T266.setTop (mkF m 176 #[iv i0, rv b154, iv (4 : Int32), iv (1 : Int32)] [(.int (4 : Int32)), (.ref b154)])) _
    obtain ⟨cl325, Ar325, qq325, S325, M325, H325, G325⟩ := id (V267)
    have hin325 : ¬ ((4 : Int32) < 0 ∨ cl325.slots.size ≤ ((4 : Int32)).toNatClampNeg) := inb_of S325 ⟨by decide, by decide⟩
    refine own_via (fun t k => X266.aaload hx (j := (4 : Int32)) (v := (.ref w95)) (by rw [e266]; exact Ar325.1) (State.isArrayOf_alike hZ.alike Ar325.2.1) rfl Ar325.2.2 hin325 (Has.at H325 hin325 rfl) (g := (mkF m 176 #[iv i0, rv b154, iv (4 : Int32), iv (1 : Int32)] [(.int (4 : Int32)), (.ref b154)])) rfl rfl (hb hby at_176) t k) ?_
    have O336 : Old Z n0 h266 := (O264.wr W266 g155)
    obtain ⟨_, T326, _, X326, hQ326, st326⟩ := own_cv X266 hx hZ hown (wd hw 49 rfl) (wd hw 50 rfl) (wd hw 52 rfl) (wd hw 51 rfl) (wd hw 53 rfl) (wd hw 3 rfl) (by decide) (rm5 l Z a0 hw [] w95 w127 w129 h266 n0 O336 S_ColumnRole_NAME SF_w95_ordinal SF_w127_ordinal S_ColumnRole_ATTRIBUTE SF_w129_ordinal) e266 (SE_w95.ext O336.2) (g := (mkF m 177 #[iv i0, rv b154, iv (4 : Int32), iv (1 : Int32)] [(.ref w95)])) rfl (by rw [hml]; rfl) (rest := []) (W := 0) (lenOf pd_1 rfl) rfl (by show 2 * 0 + _ ≤ _; exact Nat.le_of_eq rfl) (hb hby at_177) (by decide) (by decide) (by decide) (by decide)
    obtain ⟨rfl, Nq326, hh337⟩ := hQ326
    have N326 := Fr.app N266 Nq326
    refine own_via (fun t k => st326 t (XS.iloadN X326.here hx rfl (hb hby at_180) rfl (XS.icmpNo X326.here hx rfl (hb hby at_181) rfl (teq (by decide : (1 : Int32) = (1 : Int32))).2 (XS.iconst X326.here hx rfl (hb hby at_184) (XS.goto X326.here hx rfl (pc0 := 185) (pc' := 189) rfl (hb hby at_185) (by decide) (by decide) k))))) ?_
    show own_Goes p e below (T326.setTop (mkF m 189 #[iv i0, rv b154, iv (4 : Int32), iv (1 : Int32)] [(.int (1 : Int32))])) _
    obtain ⟨fs, hr, hrun, hended, hW, hsame⟩ := X326.leave (v := some (.int (1 : Int32))) (fun h => by rw [Bd.returns] at h; cases h)
    refine own_end (t := T326.setFrames fs) ?_ ⟨_, hrun, hended, _, _, rfl, ?_, ⟨_, rfl⟩, hW, hsame.mono (by decide) (by decide)⟩
    · exact retN X326 hx (t := .boolean) Bd.returns (by simp) (hb hby at_189) hr
    · exact ⟨rfl, N326⟩
  · have qs338 := qs
    rw [qs]
    show own_Goes p e below (T266.setTop (mkF m 161 #[iv i0, rv b154, .unset, .unset] [(.int (5 : Int32))])) _
    refine own_via (fun t k => XS.istoreN X266.here hx rfl (hb hby at_161) rfl (l' := #[iv i0, rv b154, iv (5 : Int32), .unset]) rfl (XS.iloadN X266.here hx rfl (hb hby at_162) rfl (XS.bipush X266.here hx rfl (hb hby at_163) (XS.icmpNo X266.here hx rfl (hb hby at_165) rfl (tlt (by decide : (5 : Int32) < (20 : Int32))).2.1 (XS.iconst X266.here hx rfl (hb hby at_168) (XS.goto X266.here hx rfl (pc0 := 169) (pc' := 173) rfl (hb hby at_169) (by decide) (by decide) (XS.istoreN X266.here hx rfl (hb hby at_173) rfl (l' := #[iv i0, rv b154, iv (5 : Int32), iv (1 : Int32)]) rfl (XS.aloadN X266.here hx rfl (hb hby at_174) rfl rfl (XS.iloadN X266.here hx rfl (hb hby at_175) rfl k))))))))) ?_
    show own_Goes p e below (T266.setTop (mkF m 176 #[iv i0, rv b154, iv (5 : Int32), iv (1 : Int32)] [(.int (5 : Int32)), (.ref b154)])) _
    obtain ⟨cl339, Ar339, qq339, S339, M339, H339, G339⟩ := id (V267)
    have hin339 : ¬ ((5 : Int32) < 0 ∨ cl339.slots.size ≤ ((5 : Int32)).toNatClampNeg) := inb_of S339 ⟨by decide, by decide⟩
    refine own_via (fun t k => X266.aaload hx (j := (5 : Int32)) (v := (.ref w97)) (by rw [e266]; exact Ar339.1) (State.isArrayOf_alike hZ.alike Ar339.2.1) rfl Ar339.2.2 hin339 (Has.at H339 hin339 rfl) (g := (mkF m 176 #[iv i0, rv b154, iv (5 : Int32), iv (1 : Int32)] [(.int (5 : Int32)), (.ref b154)])) rfl rfl (hb hby at_176) t k) ?_
    have O350 : Old Z n0 h266 := (O264.wr W266 g155)
    obtain ⟨_, T340, _, X340, hQ340, st340⟩ := own_cv X266 hx hZ hown (wd hw 49 rfl) (wd hw 50 rfl) (wd hw 52 rfl) (wd hw 51 rfl) (wd hw 53 rfl) (wd hw 3 rfl) (by decide) (rm6 l Z a0 hw [] w97 w127 w129 h266 n0 O350 S_ColumnRole_NAME SF_w97_ordinal SF_w127_ordinal S_ColumnRole_ATTRIBUTE SF_w129_ordinal) e266 (SE_w97.ext O350.2) (g := (mkF m 177 #[iv i0, rv b154, iv (5 : Int32), iv (1 : Int32)] [(.ref w97)])) rfl (by rw [hml]; rfl) (rest := []) (W := 0) (lenOf pd_1 rfl) rfl (by show 2 * 0 + _ ≤ _; exact Nat.le_of_eq rfl) (hb hby at_177) (by decide) (by decide) (by decide) (by decide)
    obtain ⟨rfl, Nq340, hh351⟩ := hQ340
    have N340 := Fr.app N266 Nq340
    refine own_via (fun t k => st340 t (XS.iloadN X340.here hx rfl (hb hby at_180) rfl (XS.icmpNo X340.here hx rfl (hb hby at_181) rfl (teq (by decide : (1 : Int32) = (1 : Int32))).2 (XS.iconst X340.here hx rfl (hb hby at_184) (XS.goto X340.here hx rfl (pc0 := 185) (pc' := 189) rfl (hb hby at_185) (by decide) (by decide) k))))) ?_
    show own_Goes p e below (T340.setTop (mkF m 189 #[iv i0, rv b154, iv (5 : Int32), iv (1 : Int32)] [(.int (1 : Int32))])) _
    obtain ⟨fs, hr, hrun, hended, hW, hsame⟩ := X340.leave (v := some (.int (1 : Int32))) (fun h => by rw [Bd.returns] at h; cases h)
    refine own_end (t := T340.setFrames fs) ?_ ⟨_, hrun, hended, _, _, rfl, ?_, ⟨_, rfl⟩, hW, hsame.mono (by decide) (by decide)⟩
    · exact retN X340 hx (t := .boolean) Bd.returns (by simp) (hb hby at_189) hr
    · exact ⟨rfl, N340⟩
  · have qs352 := qs
    rw [qs]
    show own_Goes p e below (T266.setTop (mkF m 161 #[iv i0, rv b154, .unset, .unset] [(.int (6 : Int32))])) _
    refine own_via (fun t k => XS.istoreN X266.here hx rfl (hb hby at_161) rfl (l' := #[iv i0, rv b154, iv (6 : Int32), .unset]) rfl (XS.iloadN X266.here hx rfl (hb hby at_162) rfl (XS.bipush X266.here hx rfl (hb hby at_163) (XS.icmpNo X266.here hx rfl (hb hby at_165) rfl (tlt (by decide : (6 : Int32) < (20 : Int32))).2.1 (XS.iconst X266.here hx rfl (hb hby at_168) (XS.goto X266.here hx rfl (pc0 := 169) (pc' := 173) rfl (hb hby at_169) (by decide) (by decide) (XS.istoreN X266.here hx rfl (hb hby at_173) rfl (l' := #[iv i0, rv b154, iv (6 : Int32), iv (1 : Int32)]) rfl (XS.aloadN X266.here hx rfl (hb hby at_174) rfl rfl (XS.iloadN X266.here hx rfl (hb hby at_175) rfl k))))))))) ?_
    show own_Goes p e below (T266.setTop (mkF m 176 #[iv i0, rv b154, iv (6 : Int32), iv (1 : Int32)] [(.int (6 : Int32)), (.ref b154)])) _
    obtain ⟨cl353, Ar353, qq353, S353, M353, H353, G353⟩ := id (V267)
    have hin353 : ¬ ((6 : Int32) < 0 ∨ cl353.slots.size ≤ ((6 : Int32)).toNatClampNeg) := inb_of S353 ⟨by decide, by decide⟩
    refine own_via (fun t k => X266.aaload hx (j := (6 : Int32)) (v := (.ref w99)) (by rw [e266]; exact Ar353.1) (State.isArrayOf_alike hZ.alike Ar353.2.1) rfl Ar353.2.2 hin353 (Has.at H353 hin353 rfl) (g := (mkF m 176 #[iv i0, rv b154, iv (6 : Int32), iv (1 : Int32)] [(.int (6 : Int32)), (.ref b154)])) rfl rfl (hb hby at_176) t k) ?_
    have O364 : Old Z n0 h266 := (O264.wr W266 g155)
    obtain ⟨_, T354, _, X354, hQ354, st354⟩ := own_cv X266 hx hZ hown (wd hw 49 rfl) (wd hw 50 rfl) (wd hw 52 rfl) (wd hw 51 rfl) (wd hw 53 rfl) (wd hw 3 rfl) (by decide) (rm7 l Z a0 hw [] w99 w127 w129 h266 n0 O364 S_ColumnRole_NAME SF_w99_ordinal SF_w127_ordinal S_ColumnRole_ATTRIBUTE SF_w129_ordinal) e266 (SE_w99.ext O364.2) (g := (mkF m 177 #[iv i0, rv b154, iv (6 : Int32), iv (1 : Int32)] [(.ref w99)])) rfl (by rw [hml]; rfl) (rest := []) (W := 0) (lenOf pd_1 rfl) rfl (by show 2 * 0 + _ ≤ _; exact Nat.le_of_eq rfl) (hb hby at_177) (by decide) (by decide) (by decide) (by decide)
    obtain ⟨rfl, Nq354, hh365⟩ := hQ354
    have N354 := Fr.app N266 Nq354
    refine own_via (fun t k => st354 t (XS.iloadN X354.here hx rfl (hb hby at_180) rfl (XS.icmpNo X354.here hx rfl (hb hby at_181) rfl (teq (by decide : (1 : Int32) = (1 : Int32))).2 (XS.iconst X354.here hx rfl (hb hby at_184) (XS.goto X354.here hx rfl (pc0 := 185) (pc' := 189) rfl (hb hby at_185) (by decide) (by decide) k))))) ?_
    show own_Goes p e below (T354.setTop (mkF m 189 #[iv i0, rv b154, iv (6 : Int32), iv (1 : Int32)] [(.int (1 : Int32))])) _
    obtain ⟨fs, hr, hrun, hended, hW, hsame⟩ := X354.leave (v := some (.int (1 : Int32))) (fun h => by rw [Bd.returns] at h; cases h)
    refine own_end (t := T354.setFrames fs) ?_ ⟨_, hrun, hended, _, _, rfl, ?_, ⟨_, rfl⟩, hW, hsame.mono (by decide) (by decide)⟩
    · exact retN X354 hx (t := .boolean) Bd.returns (by simp) (hb hby at_189) hr
    · exact ⟨rfl, N354⟩
  · have qs366 := qs
    rw [qs]
    show own_Goes p e below (T266.setTop (mkF m 161 #[iv i0, rv b154, .unset, .unset] [(.int (7 : Int32))])) _
    refine own_via (fun t k => XS.istoreN X266.here hx rfl (hb hby at_161) rfl (l' := #[iv i0, rv b154, iv (7 : Int32), .unset]) rfl (XS.iloadN X266.here hx rfl (hb hby at_162) rfl (XS.bipush X266.here hx rfl (hb hby at_163) (XS.icmpNo X266.here hx rfl (hb hby at_165) rfl (tlt (by decide : (7 : Int32) < (20 : Int32))).2.1 (XS.iconst X266.here hx rfl (hb hby at_168) (XS.goto X266.here hx rfl (pc0 := 169) (pc' := 173) rfl (hb hby at_169) (by decide) (by decide) (XS.istoreN X266.here hx rfl (hb hby at_173) rfl (l' := #[iv i0, rv b154, iv (7 : Int32), iv (1 : Int32)]) rfl (XS.aloadN X266.here hx rfl (hb hby at_174) rfl rfl (XS.iloadN X266.here hx rfl (hb hby at_175) rfl k))))))))) ?_
    show own_Goes p e below (T266.setTop (mkF m 176 #[iv i0, rv b154, iv (7 : Int32), iv (1 : Int32)] [(.int (7 : Int32)), (.ref b154)])) _
    obtain ⟨cl367, Ar367, qq367, S367, M367, H367, G367⟩ := id (V267)
    have hin367 : ¬ ((7 : Int32) < 0 ∨ cl367.slots.size ≤ ((7 : Int32)).toNatClampNeg) := inb_of S367 ⟨by decide, by decide⟩
    refine own_via (fun t k => X266.aaload hx (j := (7 : Int32)) (v := (.ref w101)) (by rw [e266]; exact Ar367.1) (State.isArrayOf_alike hZ.alike Ar367.2.1) rfl Ar367.2.2 hin367 (Has.at H367 hin367 rfl) (g := (mkF m 176 #[iv i0, rv b154, iv (7 : Int32), iv (1 : Int32)] [(.int (7 : Int32)), (.ref b154)])) rfl rfl (hb hby at_176) t k) ?_
    have O378 : Old Z n0 h266 := (O264.wr W266 g155)
    obtain ⟨_, T368, _, X368, hQ368, st368⟩ := own_cv X266 hx hZ hown (wd hw 49 rfl) (wd hw 50 rfl) (wd hw 52 rfl) (wd hw 51 rfl) (wd hw 53 rfl) (wd hw 3 rfl) (by decide) (rm8 l Z a0 hw [] w101 w127 w129 h266 n0 O378 S_ColumnRole_NAME SF_w101_ordinal SF_w127_ordinal S_ColumnRole_ATTRIBUTE SF_w129_ordinal) e266 (SE_w101.ext O378.2) (g := (mkF m 177 #[iv i0, rv b154, iv (7 : Int32), iv (1 : Int32)] [(.ref w101)])) rfl (by rw [hml]; rfl) (rest := []) (W := 0) (lenOf pd_1 rfl) rfl (by show 2 * 0 + _ ≤ _; exact Nat.le_of_eq rfl) (hb hby at_177) (by decide) (by decide) (by decide) (by decide)
    obtain ⟨rfl, Nq368, hh379⟩ := hQ368
    have N368 := Fr.app N266 Nq368
    refine own_via (fun t k => st368 t (XS.iloadN X368.here hx rfl (hb hby at_180) rfl (XS.icmpNo X368.here hx rfl (hb hby at_181) rfl (teq (by decide : (1 : Int32) = (1 : Int32))).2 (XS.iconst X368.here hx rfl (hb hby at_184) (XS.goto X368.here hx rfl (pc0 := 185) (pc' := 189) rfl (hb hby at_185) (by decide) (by decide) k))))) ?_
    show own_Goes p e below (T368.setTop (mkF m 189 #[iv i0, rv b154, iv (7 : Int32), iv (1 : Int32)] [(.int (1 : Int32))])) _
    obtain ⟨fs, hr, hrun, hended, hW, hsame⟩ := X368.leave (v := some (.int (1 : Int32))) (fun h => by rw [Bd.returns] at h; cases h)
    refine own_end (t := T368.setFrames fs) ?_ ⟨_, hrun, hended, _, _, rfl, ?_, ⟨_, rfl⟩, hW, hsame.mono (by decide) (by decide)⟩
    · exact retN X368 hx (t := .boolean) Bd.returns (by simp) (hb hby at_189) hr
    · exact ⟨rfl, N368⟩
  · have qs380 := qs
    rw [qs]
    show own_Goes p e below (T266.setTop (mkF m 161 #[iv i0, rv b154, .unset, .unset] [(.int (8 : Int32))])) _
    refine own_via (fun t k => XS.istoreN X266.here hx rfl (hb hby at_161) rfl (l' := #[iv i0, rv b154, iv (8 : Int32), .unset]) rfl (XS.iloadN X266.here hx rfl (hb hby at_162) rfl (XS.bipush X266.here hx rfl (hb hby at_163) (XS.icmpNo X266.here hx rfl (hb hby at_165) rfl (tlt (by decide : (8 : Int32) < (20 : Int32))).2.1 (XS.iconst X266.here hx rfl (hb hby at_168) (XS.goto X266.here hx rfl (pc0 := 169) (pc' := 173) rfl (hb hby at_169) (by decide) (by decide) (XS.istoreN X266.here hx rfl (hb hby at_173) rfl (l' := #[iv i0, rv b154, iv (8 : Int32), iv (1 : Int32)]) rfl (XS.aloadN X266.here hx rfl (hb hby at_174) rfl rfl (XS.iloadN X266.here hx rfl (hb hby at_175) rfl k))))))))) ?_
    show own_Goes p e below (T266.setTop (mkF m 176 #[iv i0, rv b154, iv (8 : Int32), iv (1 : Int32)] [(.int (8 : Int32)), (.ref b154)])) _
    obtain ⟨cl381, Ar381, qq381, S381, M381, H381, G381⟩ := id (V267)
    have hin381 : ¬ ((8 : Int32) < 0 ∨ cl381.slots.size ≤ ((8 : Int32)).toNatClampNeg) := inb_of S381 ⟨by decide, by decide⟩
    refine own_via (fun t k => X266.aaload hx (j := (8 : Int32)) (v := (.ref w103)) (by rw [e266]; exact Ar381.1) (State.isArrayOf_alike hZ.alike Ar381.2.1) rfl Ar381.2.2 hin381 (Has.at H381 hin381 rfl) (g := (mkF m 176 #[iv i0, rv b154, iv (8 : Int32), iv (1 : Int32)] [(.int (8 : Int32)), (.ref b154)])) rfl rfl (hb hby at_176) t k) ?_
    have O392 : Old Z n0 h266 := (O264.wr W266 g155)
    obtain ⟨_, T382, _, X382, hQ382, st382⟩ := own_cv X266 hx hZ hown (wd hw 49 rfl) (wd hw 50 rfl) (wd hw 52 rfl) (wd hw 51 rfl) (wd hw 53 rfl) (wd hw 3 rfl) (by decide) (rm9 l Z a0 hw [] w103 w127 w129 h266 n0 O392 S_ColumnRole_NAME SF_w103_ordinal SF_w127_ordinal S_ColumnRole_ATTRIBUTE SF_w129_ordinal) e266 (SE_w103.ext O392.2) (g := (mkF m 177 #[iv i0, rv b154, iv (8 : Int32), iv (1 : Int32)] [(.ref w103)])) rfl (by rw [hml]; rfl) (rest := []) (W := 0) (lenOf pd_1 rfl) rfl (by show 2 * 0 + _ ≤ _; exact Nat.le_of_eq rfl) (hb hby at_177) (by decide) (by decide) (by decide) (by decide)
    obtain ⟨rfl, Nq382, hh393⟩ := hQ382
    have N382 := Fr.app N266 Nq382
    refine own_via (fun t k => st382 t (XS.iloadN X382.here hx rfl (hb hby at_180) rfl (XS.icmpNo X382.here hx rfl (hb hby at_181) rfl (teq (by decide : (1 : Int32) = (1 : Int32))).2 (XS.iconst X382.here hx rfl (hb hby at_184) (XS.goto X382.here hx rfl (pc0 := 185) (pc' := 189) rfl (hb hby at_185) (by decide) (by decide) k))))) ?_
    show own_Goes p e below (T382.setTop (mkF m 189 #[iv i0, rv b154, iv (8 : Int32), iv (1 : Int32)] [(.int (1 : Int32))])) _
    obtain ⟨fs, hr, hrun, hended, hW, hsame⟩ := X382.leave (v := some (.int (1 : Int32))) (fun h => by rw [Bd.returns] at h; cases h)
    refine own_end (t := T382.setFrames fs) ?_ ⟨_, hrun, hended, _, _, rfl, ?_, ⟨_, rfl⟩, hW, hsame.mono (by decide) (by decide)⟩
    · exact retN X382 hx (t := .boolean) Bd.returns (by simp) (hb hby at_189) hr
    · exact ⟨rfl, N382⟩
  · have qs394 := qs
    rw [qs]
    show own_Goes p e below (T266.setTop (mkF m 161 #[iv i0, rv b154, .unset, .unset] [(.int (9 : Int32))])) _
    refine own_via (fun t k => XS.istoreN X266.here hx rfl (hb hby at_161) rfl (l' := #[iv i0, rv b154, iv (9 : Int32), .unset]) rfl (XS.iloadN X266.here hx rfl (hb hby at_162) rfl (XS.bipush X266.here hx rfl (hb hby at_163) (XS.icmpNo X266.here hx rfl (hb hby at_165) rfl (tlt (by decide : (9 : Int32) < (20 : Int32))).2.1 (XS.iconst X266.here hx rfl (hb hby at_168) (XS.goto X266.here hx rfl (pc0 := 169) (pc' := 173) rfl (hb hby at_169) (by decide) (by decide) (XS.istoreN X266.here hx rfl (hb hby at_173) rfl (l' := #[iv i0, rv b154, iv (9 : Int32), iv (1 : Int32)]) rfl (XS.aloadN X266.here hx rfl (hb hby at_174) rfl rfl (XS.iloadN X266.here hx rfl (hb hby at_175) rfl k))))))))) ?_
    show own_Goes p e below (T266.setTop (mkF m 176 #[iv i0, rv b154, iv (9 : Int32), iv (1 : Int32)] [(.int (9 : Int32)), (.ref b154)])) _
    obtain ⟨cl395, Ar395, qq395, S395, M395, H395, G395⟩ := id (V267)
    have hin395 : ¬ ((9 : Int32) < 0 ∨ cl395.slots.size ≤ ((9 : Int32)).toNatClampNeg) := inb_of S395 ⟨by decide, by decide⟩
    refine own_via (fun t k => X266.aaload hx (j := (9 : Int32)) (v := (.ref w105)) (by rw [e266]; exact Ar395.1) (State.isArrayOf_alike hZ.alike Ar395.2.1) rfl Ar395.2.2 hin395 (Has.at H395 hin395 rfl) (g := (mkF m 176 #[iv i0, rv b154, iv (9 : Int32), iv (1 : Int32)] [(.int (9 : Int32)), (.ref b154)])) rfl rfl (hb hby at_176) t k) ?_
    have O406 : Old Z n0 h266 := (O264.wr W266 g155)
    obtain ⟨_, T396, _, X396, hQ396, st396⟩ := own_cv X266 hx hZ hown (wd hw 49 rfl) (wd hw 50 rfl) (wd hw 52 rfl) (wd hw 51 rfl) (wd hw 53 rfl) (wd hw 3 rfl) (by decide) (rm10 l Z a0 hw [] w105 w127 w129 h266 n0 O406 S_ColumnRole_NAME SF_w105_ordinal SF_w127_ordinal S_ColumnRole_ATTRIBUTE SF_w129_ordinal) e266 (SE_w105.ext O406.2) (g := (mkF m 177 #[iv i0, rv b154, iv (9 : Int32), iv (1 : Int32)] [(.ref w105)])) rfl (by rw [hml]; rfl) (rest := []) (W := 0) (lenOf pd_1 rfl) rfl (by show 2 * 0 + _ ≤ _; exact Nat.le_of_eq rfl) (hb hby at_177) (by decide) (by decide) (by decide) (by decide)
    obtain ⟨rfl, Nq396, hh407⟩ := hQ396
    have N396 := Fr.app N266 Nq396
    refine own_via (fun t k => st396 t (XS.iloadN X396.here hx rfl (hb hby at_180) rfl (XS.icmpNo X396.here hx rfl (hb hby at_181) rfl (teq (by decide : (1 : Int32) = (1 : Int32))).2 (XS.iconst X396.here hx rfl (hb hby at_184) (XS.goto X396.here hx rfl (pc0 := 185) (pc' := 189) rfl (hb hby at_185) (by decide) (by decide) k))))) ?_
    show own_Goes p e below (T396.setTop (mkF m 189 #[iv i0, rv b154, iv (9 : Int32), iv (1 : Int32)] [(.int (1 : Int32))])) _
    obtain ⟨fs, hr, hrun, hended, hW, hsame⟩ := X396.leave (v := some (.int (1 : Int32))) (fun h => by rw [Bd.returns] at h; cases h)
    refine own_end (t := T396.setFrames fs) ?_ ⟨_, hrun, hended, _, _, rfl, ?_, ⟨_, rfl⟩, hW, hsame.mono (by decide) (by decide)⟩
    · exact retN X396 hx (t := .boolean) Bd.returns (by simp) (hb hby at_189) hr
    · exact ⟨rfl, N396⟩
  · have qs408 := qs
    rw [qs]
    show own_Goes p e below (T266.setTop (mkF m 161 #[iv i0, rv b154, .unset, .unset] [(.int (10 : Int32))])) _
    refine own_via (fun t k => XS.istoreN X266.here hx rfl (hb hby at_161) rfl (l' := #[iv i0, rv b154, iv (10 : Int32), .unset]) rfl (XS.iloadN X266.here hx rfl (hb hby at_162) rfl (XS.bipush X266.here hx rfl (hb hby at_163) (XS.icmpNo X266.here hx rfl (hb hby at_165) rfl (tlt (by decide : (10 : Int32) < (20 : Int32))).2.1 (XS.iconst X266.here hx rfl (hb hby at_168) (XS.goto X266.here hx rfl (pc0 := 169) (pc' := 173) rfl (hb hby at_169) (by decide) (by decide) (XS.istoreN X266.here hx rfl (hb hby at_173) rfl (l' := #[iv i0, rv b154, iv (10 : Int32), iv (1 : Int32)]) rfl (XS.aloadN X266.here hx rfl (hb hby at_174) rfl rfl (XS.iloadN X266.here hx rfl (hb hby at_175) rfl k))))))))) ?_
    show own_Goes p e below (T266.setTop (mkF m 176 #[iv i0, rv b154, iv (10 : Int32), iv (1 : Int32)] [(.int (10 : Int32)), (.ref b154)])) _
    obtain ⟨cl409, Ar409, qq409, S409, M409, H409, G409⟩ := id (V267)
    have hin409 : ¬ ((10 : Int32) < 0 ∨ cl409.slots.size ≤ ((10 : Int32)).toNatClampNeg) := inb_of S409 ⟨by decide, by decide⟩
    refine own_via (fun t k => X266.aaload hx (j := (10 : Int32)) (v := (.ref w107)) (by rw [e266]; exact Ar409.1) (State.isArrayOf_alike hZ.alike Ar409.2.1) rfl Ar409.2.2 hin409 (Has.at H409 hin409 rfl) (g := (mkF m 176 #[iv i0, rv b154, iv (10 : Int32), iv (1 : Int32)] [(.int (10 : Int32)), (.ref b154)])) rfl rfl (hb hby at_176) t k) ?_
    have O420 : Old Z n0 h266 := (O264.wr W266 g155)
    obtain ⟨_, T410, _, X410, hQ410, st410⟩ := own_cv X266 hx hZ hown (wd hw 49 rfl) (wd hw 50 rfl) (wd hw 52 rfl) (wd hw 51 rfl) (wd hw 53 rfl) (wd hw 3 rfl) (by decide) (rm11 l Z a0 hw [] w107 w127 w129 h266 n0 O420 S_ColumnRole_NAME SF_w107_ordinal SF_w127_ordinal S_ColumnRole_ATTRIBUTE SF_w129_ordinal) e266 (SE_w107.ext O420.2) (g := (mkF m 177 #[iv i0, rv b154, iv (10 : Int32), iv (1 : Int32)] [(.ref w107)])) rfl (by rw [hml]; rfl) (rest := []) (W := 0) (lenOf pd_1 rfl) rfl (by show 2 * 0 + _ ≤ _; exact Nat.le_of_eq rfl) (hb hby at_177) (by decide) (by decide) (by decide) (by decide)
    obtain ⟨rfl, Nq410, hh421⟩ := hQ410
    have N410 := Fr.app N266 Nq410
    refine own_via (fun t k => st410 t (XS.iloadN X410.here hx rfl (hb hby at_180) rfl (XS.icmpNo X410.here hx rfl (hb hby at_181) rfl (teq (by decide : (1 : Int32) = (1 : Int32))).2 (XS.iconst X410.here hx rfl (hb hby at_184) (XS.goto X410.here hx rfl (pc0 := 185) (pc' := 189) rfl (hb hby at_185) (by decide) (by decide) k))))) ?_
    show own_Goes p e below (T410.setTop (mkF m 189 #[iv i0, rv b154, iv (10 : Int32), iv (1 : Int32)] [(.int (1 : Int32))])) _
    obtain ⟨fs, hr, hrun, hended, hW, hsame⟩ := X410.leave (v := some (.int (1 : Int32))) (fun h => by rw [Bd.returns] at h; cases h)
    refine own_end (t := T410.setFrames fs) ?_ ⟨_, hrun, hended, _, _, rfl, ?_, ⟨_, rfl⟩, hW, hsame.mono (by decide) (by decide)⟩
    · exact retN X410 hx (t := .boolean) Bd.returns (by simp) (hb hby at_189) hr
    · exact ⟨rfl, N410⟩
  · have qs422 := qs
    rw [qs]
    show own_Goes p e below (T266.setTop (mkF m 161 #[iv i0, rv b154, .unset, .unset] [(.int (11 : Int32))])) _
    refine own_via (fun t k => XS.istoreN X266.here hx rfl (hb hby at_161) rfl (l' := #[iv i0, rv b154, iv (11 : Int32), .unset]) rfl (XS.iloadN X266.here hx rfl (hb hby at_162) rfl (XS.bipush X266.here hx rfl (hb hby at_163) (XS.icmpNo X266.here hx rfl (hb hby at_165) rfl (tlt (by decide : (11 : Int32) < (20 : Int32))).2.1 (XS.iconst X266.here hx rfl (hb hby at_168) (XS.goto X266.here hx rfl (pc0 := 169) (pc' := 173) rfl (hb hby at_169) (by decide) (by decide) (XS.istoreN X266.here hx rfl (hb hby at_173) rfl (l' := #[iv i0, rv b154, iv (11 : Int32), iv (1 : Int32)]) rfl (XS.aloadN X266.here hx rfl (hb hby at_174) rfl rfl (XS.iloadN X266.here hx rfl (hb hby at_175) rfl k))))))))) ?_
    show own_Goes p e below (T266.setTop (mkF m 176 #[iv i0, rv b154, iv (11 : Int32), iv (1 : Int32)] [(.int (11 : Int32)), (.ref b154)])) _
    obtain ⟨cl423, Ar423, qq423, S423, M423, H423, G423⟩ := id (V267)
    have hin423 : ¬ ((11 : Int32) < 0 ∨ cl423.slots.size ≤ ((11 : Int32)).toNatClampNeg) := inb_of S423 ⟨by decide, by decide⟩
    refine own_via (fun t k => X266.aaload hx (j := (11 : Int32)) (v := (.ref w109)) (by rw [e266]; exact Ar423.1) (State.isArrayOf_alike hZ.alike Ar423.2.1) rfl Ar423.2.2 hin423 (Has.at H423 hin423 rfl) (g := (mkF m 176 #[iv i0, rv b154, iv (11 : Int32), iv (1 : Int32)] [(.int (11 : Int32)), (.ref b154)])) rfl rfl (hb hby at_176) t k) ?_
    have O434 : Old Z n0 h266 := (O264.wr W266 g155)
    obtain ⟨_, T424, _, X424, hQ424, st424⟩ := own_cv X266 hx hZ hown (wd hw 49 rfl) (wd hw 50 rfl) (wd hw 52 rfl) (wd hw 51 rfl) (wd hw 53 rfl) (wd hw 3 rfl) (by decide) (rm12 l Z a0 hw [] w109 w127 w129 h266 n0 O434 S_ColumnRole_NAME SF_w109_ordinal SF_w127_ordinal S_ColumnRole_ATTRIBUTE SF_w129_ordinal) e266 (SE_w109.ext O434.2) (g := (mkF m 177 #[iv i0, rv b154, iv (11 : Int32), iv (1 : Int32)] [(.ref w109)])) rfl (by rw [hml]; rfl) (rest := []) (W := 0) (lenOf pd_1 rfl) rfl (by show 2 * 0 + _ ≤ _; exact Nat.le_of_eq rfl) (hb hby at_177) (by decide) (by decide) (by decide) (by decide)
    obtain ⟨rfl, Nq424, hh435⟩ := hQ424
    have N424 := Fr.app N266 Nq424
    refine own_via (fun t k => st424 t (XS.iloadN X424.here hx rfl (hb hby at_180) rfl (XS.icmpNo X424.here hx rfl (hb hby at_181) rfl (teq (by decide : (1 : Int32) = (1 : Int32))).2 (XS.iconst X424.here hx rfl (hb hby at_184) (XS.goto X424.here hx rfl (pc0 := 185) (pc' := 189) rfl (hb hby at_185) (by decide) (by decide) k))))) ?_
    show own_Goes p e below (T424.setTop (mkF m 189 #[iv i0, rv b154, iv (11 : Int32), iv (1 : Int32)] [(.int (1 : Int32))])) _
    obtain ⟨fs, hr, hrun, hended, hW, hsame⟩ := X424.leave (v := some (.int (1 : Int32))) (fun h => by rw [Bd.returns] at h; cases h)
    refine own_end (t := T424.setFrames fs) ?_ ⟨_, hrun, hended, _, _, rfl, ?_, ⟨_, rfl⟩, hW, hsame.mono (by decide) (by decide)⟩
    · exact retN X424 hx (t := .boolean) Bd.returns (by simp) (hb hby at_189) hr
    · exact ⟨rfl, N424⟩
  · have qs436 := qs
    rw [qs]
    show own_Goes p e below (T266.setTop (mkF m 161 #[iv i0, rv b154, .unset, .unset] [(.int (12 : Int32))])) _
    refine own_via (fun t k => XS.istoreN X266.here hx rfl (hb hby at_161) rfl (l' := #[iv i0, rv b154, iv (12 : Int32), .unset]) rfl (XS.iloadN X266.here hx rfl (hb hby at_162) rfl (XS.bipush X266.here hx rfl (hb hby at_163) (XS.icmpNo X266.here hx rfl (hb hby at_165) rfl (tlt (by decide : (12 : Int32) < (20 : Int32))).2.1 (XS.iconst X266.here hx rfl (hb hby at_168) (XS.goto X266.here hx rfl (pc0 := 169) (pc' := 173) rfl (hb hby at_169) (by decide) (by decide) (XS.istoreN X266.here hx rfl (hb hby at_173) rfl (l' := #[iv i0, rv b154, iv (12 : Int32), iv (1 : Int32)]) rfl (XS.aloadN X266.here hx rfl (hb hby at_174) rfl rfl (XS.iloadN X266.here hx rfl (hb hby at_175) rfl k))))))))) ?_
    show own_Goes p e below (T266.setTop (mkF m 176 #[iv i0, rv b154, iv (12 : Int32), iv (1 : Int32)] [(.int (12 : Int32)), (.ref b154)])) _
    obtain ⟨cl437, Ar437, qq437, S437, M437, H437, G437⟩ := id (V267)
    have hin437 : ¬ ((12 : Int32) < 0 ∨ cl437.slots.size ≤ ((12 : Int32)).toNatClampNeg) := inb_of S437 ⟨by decide, by decide⟩
    refine own_via (fun t k => X266.aaload hx (j := (12 : Int32)) (v := (.ref w111)) (by rw [e266]; exact Ar437.1) (State.isArrayOf_alike hZ.alike Ar437.2.1) rfl Ar437.2.2 hin437 (Has.at H437 hin437 rfl) (g := (mkF m 176 #[iv i0, rv b154, iv (12 : Int32), iv (1 : Int32)] [(.int (12 : Int32)), (.ref b154)])) rfl rfl (hb hby at_176) t k) ?_
    have O448 : Old Z n0 h266 := (O264.wr W266 g155)
    obtain ⟨_, T438, _, X438, hQ438, st438⟩ := own_cv X266 hx hZ hown (wd hw 49 rfl) (wd hw 50 rfl) (wd hw 52 rfl) (wd hw 51 rfl) (wd hw 53 rfl) (wd hw 3 rfl) (by decide) (rm13 l Z a0 hw [] w111 w127 w129 h266 n0 O448 S_ColumnRole_NAME SF_w111_ordinal SF_w127_ordinal S_ColumnRole_ATTRIBUTE SF_w129_ordinal) e266 (SE_w111.ext O448.2) (g := (mkF m 177 #[iv i0, rv b154, iv (12 : Int32), iv (1 : Int32)] [(.ref w111)])) rfl (by rw [hml]; rfl) (rest := []) (W := 0) (lenOf pd_1 rfl) rfl (by show 2 * 0 + _ ≤ _; exact Nat.le_of_eq rfl) (hb hby at_177) (by decide) (by decide) (by decide) (by decide)
    obtain ⟨rfl, Nq438, hh449⟩ := hQ438
    have N438 := Fr.app N266 Nq438
    refine own_via (fun t k => st438 t (XS.iloadN X438.here hx rfl (hb hby at_180) rfl (XS.icmpNo X438.here hx rfl (hb hby at_181) rfl (teq (by decide : (1 : Int32) = (1 : Int32))).2 (XS.iconst X438.here hx rfl (hb hby at_184) (XS.goto X438.here hx rfl (pc0 := 185) (pc' := 189) rfl (hb hby at_185) (by decide) (by decide) k))))) ?_
    show own_Goes p e below (T438.setTop (mkF m 189 #[iv i0, rv b154, iv (12 : Int32), iv (1 : Int32)] [(.int (1 : Int32))])) _
    obtain ⟨fs, hr, hrun, hended, hW, hsame⟩ := X438.leave (v := some (.int (1 : Int32))) (fun h => by rw [Bd.returns] at h; cases h)
    refine own_end (t := T438.setFrames fs) ?_ ⟨_, hrun, hended, _, _, rfl, ?_, ⟨_, rfl⟩, hW, hsame.mono (by decide) (by decide)⟩
    · exact retN X438 hx (t := .boolean) Bd.returns (by simp) (hb hby at_189) hr
    · exact ⟨rfl, N438⟩
  · have qs450 := qs
    rw [qs]
    show own_Goes p e below (T266.setTop (mkF m 161 #[iv i0, rv b154, .unset, .unset] [(.int (13 : Int32))])) _
    refine own_via (fun t k => XS.istoreN X266.here hx rfl (hb hby at_161) rfl (l' := #[iv i0, rv b154, iv (13 : Int32), .unset]) rfl (XS.iloadN X266.here hx rfl (hb hby at_162) rfl (XS.bipush X266.here hx rfl (hb hby at_163) (XS.icmpNo X266.here hx rfl (hb hby at_165) rfl (tlt (by decide : (13 : Int32) < (20 : Int32))).2.1 (XS.iconst X266.here hx rfl (hb hby at_168) (XS.goto X266.here hx rfl (pc0 := 169) (pc' := 173) rfl (hb hby at_169) (by decide) (by decide) (XS.istoreN X266.here hx rfl (hb hby at_173) rfl (l' := #[iv i0, rv b154, iv (13 : Int32), iv (1 : Int32)]) rfl (XS.aloadN X266.here hx rfl (hb hby at_174) rfl rfl (XS.iloadN X266.here hx rfl (hb hby at_175) rfl k))))))))) ?_
    show own_Goes p e below (T266.setTop (mkF m 176 #[iv i0, rv b154, iv (13 : Int32), iv (1 : Int32)] [(.int (13 : Int32)), (.ref b154)])) _
    obtain ⟨cl451, Ar451, qq451, S451, M451, H451, G451⟩ := id (V267)
    have hin451 : ¬ ((13 : Int32) < 0 ∨ cl451.slots.size ≤ ((13 : Int32)).toNatClampNeg) := inb_of S451 ⟨by decide, by decide⟩
    refine own_via (fun t k => X266.aaload hx (j := (13 : Int32)) (v := (.ref w113)) (by rw [e266]; exact Ar451.1) (State.isArrayOf_alike hZ.alike Ar451.2.1) rfl Ar451.2.2 hin451 (Has.at H451 hin451 rfl) (g := (mkF m 176 #[iv i0, rv b154, iv (13 : Int32), iv (1 : Int32)] [(.int (13 : Int32)), (.ref b154)])) rfl rfl (hb hby at_176) t k) ?_
    have O462 : Old Z n0 h266 := (O264.wr W266 g155)
    obtain ⟨_, T452, _, X452, hQ452, st452⟩ := own_cv X266 hx hZ hown (wd hw 49 rfl) (wd hw 50 rfl) (wd hw 52 rfl) (wd hw 51 rfl) (wd hw 53 rfl) (wd hw 3 rfl) (by decide) (rm14 l Z a0 hw [] w113 w127 w129 h266 n0 O462 S_ColumnRole_NAME SF_w113_ordinal SF_w127_ordinal S_ColumnRole_ATTRIBUTE SF_w129_ordinal) e266 (SE_w113.ext O462.2) (g := (mkF m 177 #[iv i0, rv b154, iv (13 : Int32), iv (1 : Int32)] [(.ref w113)])) rfl (by rw [hml]; rfl) (rest := []) (W := 0) (lenOf pd_1 rfl) rfl (by show 2 * 0 + _ ≤ _; exact Nat.le_of_eq rfl) (hb hby at_177) (by decide) (by decide) (by decide) (by decide)
    obtain ⟨rfl, Nq452, hh463⟩ := hQ452
    have N452 := Fr.app N266 Nq452
    refine own_via (fun t k => st452 t (XS.iloadN X452.here hx rfl (hb hby at_180) rfl (XS.icmpNo X452.here hx rfl (hb hby at_181) rfl (teq (by decide : (1 : Int32) = (1 : Int32))).2 (XS.iconst X452.here hx rfl (hb hby at_184) (XS.goto X452.here hx rfl (pc0 := 185) (pc' := 189) rfl (hb hby at_185) (by decide) (by decide) k))))) ?_
    show own_Goes p e below (T452.setTop (mkF m 189 #[iv i0, rv b154, iv (13 : Int32), iv (1 : Int32)] [(.int (1 : Int32))])) _
    obtain ⟨fs, hr, hrun, hended, hW, hsame⟩ := X452.leave (v := some (.int (1 : Int32))) (fun h => by rw [Bd.returns] at h; cases h)
    refine own_end (t := T452.setFrames fs) ?_ ⟨_, hrun, hended, _, _, rfl, ?_, ⟨_, rfl⟩, hW, hsame.mono (by decide) (by decide)⟩
    · exact retN X452 hx (t := .boolean) Bd.returns (by simp) (hb hby at_189) hr
    · exact ⟨rfl, N452⟩
  · have qs464 := qs
    rw [qs]
    show own_Goes p e below (T266.setTop (mkF m 161 #[iv i0, rv b154, .unset, .unset] [(.int (14 : Int32))])) _
    refine own_via (fun t k => XS.istoreN X266.here hx rfl (hb hby at_161) rfl (l' := #[iv i0, rv b154, iv (14 : Int32), .unset]) rfl (XS.iloadN X266.here hx rfl (hb hby at_162) rfl (XS.bipush X266.here hx rfl (hb hby at_163) (XS.icmpNo X266.here hx rfl (hb hby at_165) rfl (tlt (by decide : (14 : Int32) < (20 : Int32))).2.1 (XS.iconst X266.here hx rfl (hb hby at_168) (XS.goto X266.here hx rfl (pc0 := 169) (pc' := 173) rfl (hb hby at_169) (by decide) (by decide) (XS.istoreN X266.here hx rfl (hb hby at_173) rfl (l' := #[iv i0, rv b154, iv (14 : Int32), iv (1 : Int32)]) rfl (XS.aloadN X266.here hx rfl (hb hby at_174) rfl rfl (XS.iloadN X266.here hx rfl (hb hby at_175) rfl k))))))))) ?_
    show own_Goes p e below (T266.setTop (mkF m 176 #[iv i0, rv b154, iv (14 : Int32), iv (1 : Int32)] [(.int (14 : Int32)), (.ref b154)])) _
    obtain ⟨cl465, Ar465, qq465, S465, M465, H465, G465⟩ := id (V267)
    have hin465 : ¬ ((14 : Int32) < 0 ∨ cl465.slots.size ≤ ((14 : Int32)).toNatClampNeg) := inb_of S465 ⟨by decide, by decide⟩
    refine own_via (fun t k => X266.aaload hx (j := (14 : Int32)) (v := (.ref w115)) (by rw [e266]; exact Ar465.1) (State.isArrayOf_alike hZ.alike Ar465.2.1) rfl Ar465.2.2 hin465 (Has.at H465 hin465 rfl) (g := (mkF m 176 #[iv i0, rv b154, iv (14 : Int32), iv (1 : Int32)] [(.int (14 : Int32)), (.ref b154)])) rfl rfl (hb hby at_176) t k) ?_
    have O476 : Old Z n0 h266 := (O264.wr W266 g155)
    obtain ⟨_, T466, _, X466, hQ466, st466⟩ := own_cv X266 hx hZ hown (wd hw 49 rfl) (wd hw 50 rfl) (wd hw 52 rfl) (wd hw 51 rfl) (wd hw 53 rfl) (wd hw 3 rfl) (by decide) (rm15 l Z a0 hw [] w115 w127 w129 h266 n0 O476 S_ColumnRole_NAME SF_w115_ordinal SF_w127_ordinal S_ColumnRole_ATTRIBUTE SF_w129_ordinal) e266 (SE_w115.ext O476.2) (g := (mkF m 177 #[iv i0, rv b154, iv (14 : Int32), iv (1 : Int32)] [(.ref w115)])) rfl (by rw [hml]; rfl) (rest := []) (W := 0) (lenOf pd_1 rfl) rfl (by show 2 * 0 + _ ≤ _; exact Nat.le_of_eq rfl) (hb hby at_177) (by decide) (by decide) (by decide) (by decide)
    obtain ⟨rfl, Nq466, hh477⟩ := hQ466
    have N466 := Fr.app N266 Nq466
    refine own_via (fun t k => st466 t (XS.iloadN X466.here hx rfl (hb hby at_180) rfl (XS.icmpNo X466.here hx rfl (hb hby at_181) rfl (teq (by decide : (1 : Int32) = (1 : Int32))).2 (XS.iconst X466.here hx rfl (hb hby at_184) (XS.goto X466.here hx rfl (pc0 := 185) (pc' := 189) rfl (hb hby at_185) (by decide) (by decide) k))))) ?_
    show own_Goes p e below (T466.setTop (mkF m 189 #[iv i0, rv b154, iv (14 : Int32), iv (1 : Int32)] [(.int (1 : Int32))])) _
    obtain ⟨fs, hr, hrun, hended, hW, hsame⟩ := X466.leave (v := some (.int (1 : Int32))) (fun h => by rw [Bd.returns] at h; cases h)
    refine own_end (t := T466.setFrames fs) ?_ ⟨_, hrun, hended, _, _, rfl, ?_, ⟨_, rfl⟩, hW, hsame.mono (by decide) (by decide)⟩
    · exact retN X466 hx (t := .boolean) Bd.returns (by simp) (hb hby at_189) hr
    · exact ⟨rfl, N466⟩
  · have qs478 := qs
    rw [qs]
    show own_Goes p e below (T266.setTop (mkF m 161 #[iv i0, rv b154, .unset, .unset] [(.int (15 : Int32))])) _
    refine own_via (fun t k => XS.istoreN X266.here hx rfl (hb hby at_161) rfl (l' := #[iv i0, rv b154, iv (15 : Int32), .unset]) rfl (XS.iloadN X266.here hx rfl (hb hby at_162) rfl (XS.bipush X266.here hx rfl (hb hby at_163) (XS.icmpNo X266.here hx rfl (hb hby at_165) rfl (tlt (by decide : (15 : Int32) < (20 : Int32))).2.1 (XS.iconst X266.here hx rfl (hb hby at_168) (XS.goto X266.here hx rfl (pc0 := 169) (pc' := 173) rfl (hb hby at_169) (by decide) (by decide) (XS.istoreN X266.here hx rfl (hb hby at_173) rfl (l' := #[iv i0, rv b154, iv (15 : Int32), iv (1 : Int32)]) rfl (XS.aloadN X266.here hx rfl (hb hby at_174) rfl rfl (XS.iloadN X266.here hx rfl (hb hby at_175) rfl k))))))))) ?_
    show own_Goes p e below (T266.setTop (mkF m 176 #[iv i0, rv b154, iv (15 : Int32), iv (1 : Int32)] [(.int (15 : Int32)), (.ref b154)])) _
    obtain ⟨cl479, Ar479, qq479, S479, M479, H479, G479⟩ := id (V267)
    have hin479 : ¬ ((15 : Int32) < 0 ∨ cl479.slots.size ≤ ((15 : Int32)).toNatClampNeg) := inb_of S479 ⟨by decide, by decide⟩
    refine own_via (fun t k => X266.aaload hx (j := (15 : Int32)) (v := (.ref w117)) (by rw [e266]; exact Ar479.1) (State.isArrayOf_alike hZ.alike Ar479.2.1) rfl Ar479.2.2 hin479 (Has.at H479 hin479 rfl) (g := (mkF m 176 #[iv i0, rv b154, iv (15 : Int32), iv (1 : Int32)] [(.int (15 : Int32)), (.ref b154)])) rfl rfl (hb hby at_176) t k) ?_
    have O490 : Old Z n0 h266 := (O264.wr W266 g155)
    obtain ⟨_, T480, _, X480, hQ480, st480⟩ := own_cv X266 hx hZ hown (wd hw 49 rfl) (wd hw 50 rfl) (wd hw 52 rfl) (wd hw 51 rfl) (wd hw 53 rfl) (wd hw 3 rfl) (by decide) (rm16 l Z a0 hw [] w117 w127 w129 h266 n0 O490 S_ColumnRole_NAME SF_w117_ordinal SF_w127_ordinal S_ColumnRole_ATTRIBUTE SF_w129_ordinal) e266 (SE_w117.ext O490.2) (g := (mkF m 177 #[iv i0, rv b154, iv (15 : Int32), iv (1 : Int32)] [(.ref w117)])) rfl (by rw [hml]; rfl) (rest := []) (W := 0) (lenOf pd_1 rfl) rfl (by show 2 * 0 + _ ≤ _; exact Nat.le_of_eq rfl) (hb hby at_177) (by decide) (by decide) (by decide) (by decide)
    obtain ⟨rfl, Nq480, hh491⟩ := hQ480
    have N480 := Fr.app N266 Nq480
    refine own_via (fun t k => st480 t (XS.iloadN X480.here hx rfl (hb hby at_180) rfl (XS.icmpNo X480.here hx rfl (hb hby at_181) rfl (teq (by decide : (1 : Int32) = (1 : Int32))).2 (XS.iconst X480.here hx rfl (hb hby at_184) (XS.goto X480.here hx rfl (pc0 := 185) (pc' := 189) rfl (hb hby at_185) (by decide) (by decide) k))))) ?_
    show own_Goes p e below (T480.setTop (mkF m 189 #[iv i0, rv b154, iv (15 : Int32), iv (1 : Int32)] [(.int (1 : Int32))])) _
    obtain ⟨fs, hr, hrun, hended, hW, hsame⟩ := X480.leave (v := some (.int (1 : Int32))) (fun h => by rw [Bd.returns] at h; cases h)
    refine own_end (t := T480.setFrames fs) ?_ ⟨_, hrun, hended, _, _, rfl, ?_, ⟨_, rfl⟩, hW, hsame.mono (by decide) (by decide)⟩
    · exact retN X480 hx (t := .boolean) Bd.returns (by simp) (hb hby at_189) hr
    · exact ⟨rfl, N480⟩
  · have qs492 := qs
    rw [qs]
    show own_Goes p e below (T266.setTop (mkF m 161 #[iv i0, rv b154, .unset, .unset] [(.int (16 : Int32))])) _
    refine own_via (fun t k => XS.istoreN X266.here hx rfl (hb hby at_161) rfl (l' := #[iv i0, rv b154, iv (16 : Int32), .unset]) rfl (XS.iloadN X266.here hx rfl (hb hby at_162) rfl (XS.bipush X266.here hx rfl (hb hby at_163) (XS.icmpNo X266.here hx rfl (hb hby at_165) rfl (tlt (by decide : (16 : Int32) < (20 : Int32))).2.1 (XS.iconst X266.here hx rfl (hb hby at_168) (XS.goto X266.here hx rfl (pc0 := 169) (pc' := 173) rfl (hb hby at_169) (by decide) (by decide) (XS.istoreN X266.here hx rfl (hb hby at_173) rfl (l' := #[iv i0, rv b154, iv (16 : Int32), iv (1 : Int32)]) rfl (XS.aloadN X266.here hx rfl (hb hby at_174) rfl rfl (XS.iloadN X266.here hx rfl (hb hby at_175) rfl k))))))))) ?_
    show own_Goes p e below (T266.setTop (mkF m 176 #[iv i0, rv b154, iv (16 : Int32), iv (1 : Int32)] [(.int (16 : Int32)), (.ref b154)])) _
    obtain ⟨cl493, Ar493, qq493, S493, M493, H493, G493⟩ := id (V267)
    have hin493 : ¬ ((16 : Int32) < 0 ∨ cl493.slots.size ≤ ((16 : Int32)).toNatClampNeg) := inb_of S493 ⟨by decide, by decide⟩
    refine own_via (fun t k => X266.aaload hx (j := (16 : Int32)) (v := (.ref w119)) (by rw [e266]; exact Ar493.1) (State.isArrayOf_alike hZ.alike Ar493.2.1) rfl Ar493.2.2 hin493 (Has.at H493 hin493 rfl) (g := (mkF m 176 #[iv i0, rv b154, iv (16 : Int32), iv (1 : Int32)] [(.int (16 : Int32)), (.ref b154)])) rfl rfl (hb hby at_176) t k) ?_
    have O504 : Old Z n0 h266 := (O264.wr W266 g155)
    obtain ⟨_, T494, _, X494, hQ494, st494⟩ := own_cv X266 hx hZ hown (wd hw 49 rfl) (wd hw 50 rfl) (wd hw 52 rfl) (wd hw 51 rfl) (wd hw 53 rfl) (wd hw 3 rfl) (by decide) (rm17 l Z a0 hw [] w119 w127 w129 h266 n0 O504 S_ColumnRole_NAME SF_w119_ordinal SF_w127_ordinal S_ColumnRole_ATTRIBUTE SF_w129_ordinal) e266 (SE_w119.ext O504.2) (g := (mkF m 177 #[iv i0, rv b154, iv (16 : Int32), iv (1 : Int32)] [(.ref w119)])) rfl (by rw [hml]; rfl) (rest := []) (W := 0) (lenOf pd_1 rfl) rfl (by show 2 * 0 + _ ≤ _; exact Nat.le_of_eq rfl) (hb hby at_177) (by decide) (by decide) (by decide) (by decide)
    obtain ⟨rfl, Nq494, hh505⟩ := hQ494
    have N494 := Fr.app N266 Nq494
    refine own_via (fun t k => st494 t (XS.iloadN X494.here hx rfl (hb hby at_180) rfl (XS.icmpNo X494.here hx rfl (hb hby at_181) rfl (teq (by decide : (1 : Int32) = (1 : Int32))).2 (XS.iconst X494.here hx rfl (hb hby at_184) (XS.goto X494.here hx rfl (pc0 := 185) (pc' := 189) rfl (hb hby at_185) (by decide) (by decide) k))))) ?_
    show own_Goes p e below (T494.setTop (mkF m 189 #[iv i0, rv b154, iv (16 : Int32), iv (1 : Int32)] [(.int (1 : Int32))])) _
    obtain ⟨fs, hr, hrun, hended, hW, hsame⟩ := X494.leave (v := some (.int (1 : Int32))) (fun h => by rw [Bd.returns] at h; cases h)
    refine own_end (t := T494.setFrames fs) ?_ ⟨_, hrun, hended, _, _, rfl, ?_, ⟨_, rfl⟩, hW, hsame.mono (by decide) (by decide)⟩
    · exact retN X494 hx (t := .boolean) Bd.returns (by simp) (hb hby at_189) hr
    · exact ⟨rfl, N494⟩
  · have qs506 := qs
    rw [qs]
    show own_Goes p e below (T266.setTop (mkF m 161 #[iv i0, rv b154, .unset, .unset] [(.int (17 : Int32))])) _
    refine own_via (fun t k => XS.istoreN X266.here hx rfl (hb hby at_161) rfl (l' := #[iv i0, rv b154, iv (17 : Int32), .unset]) rfl (XS.iloadN X266.here hx rfl (hb hby at_162) rfl (XS.bipush X266.here hx rfl (hb hby at_163) (XS.icmpNo X266.here hx rfl (hb hby at_165) rfl (tlt (by decide : (17 : Int32) < (20 : Int32))).2.1 (XS.iconst X266.here hx rfl (hb hby at_168) (XS.goto X266.here hx rfl (pc0 := 169) (pc' := 173) rfl (hb hby at_169) (by decide) (by decide) (XS.istoreN X266.here hx rfl (hb hby at_173) rfl (l' := #[iv i0, rv b154, iv (17 : Int32), iv (1 : Int32)]) rfl (XS.aloadN X266.here hx rfl (hb hby at_174) rfl rfl (XS.iloadN X266.here hx rfl (hb hby at_175) rfl k))))))))) ?_
    show own_Goes p e below (T266.setTop (mkF m 176 #[iv i0, rv b154, iv (17 : Int32), iv (1 : Int32)] [(.int (17 : Int32)), (.ref b154)])) _
    obtain ⟨cl507, Ar507, qq507, S507, M507, H507, G507⟩ := id (V267)
    have hin507 : ¬ ((17 : Int32) < 0 ∨ cl507.slots.size ≤ ((17 : Int32)).toNatClampNeg) := inb_of S507 ⟨by decide, by decide⟩
    refine own_via (fun t k => X266.aaload hx (j := (17 : Int32)) (v := (.ref w121)) (by rw [e266]; exact Ar507.1) (State.isArrayOf_alike hZ.alike Ar507.2.1) rfl Ar507.2.2 hin507 (Has.at H507 hin507 rfl) (g := (mkF m 176 #[iv i0, rv b154, iv (17 : Int32), iv (1 : Int32)] [(.int (17 : Int32)), (.ref b154)])) rfl rfl (hb hby at_176) t k) ?_
    have O518 : Old Z n0 h266 := (O264.wr W266 g155)
    obtain ⟨_, T508, _, X508, hQ508, st508⟩ := own_cv X266 hx hZ hown (wd hw 49 rfl) (wd hw 50 rfl) (wd hw 52 rfl) (wd hw 51 rfl) (wd hw 53 rfl) (wd hw 3 rfl) (by decide) (rm18 l Z a0 hw [] w121 w127 w129 h266 n0 O518 S_ColumnRole_NAME SF_w121_ordinal SF_w127_ordinal S_ColumnRole_ATTRIBUTE SF_w129_ordinal) e266 (SE_w121.ext O518.2) (g := (mkF m 177 #[iv i0, rv b154, iv (17 : Int32), iv (1 : Int32)] [(.ref w121)])) rfl (by rw [hml]; rfl) (rest := []) (W := 0) (lenOf pd_1 rfl) rfl (by show 2 * 0 + _ ≤ _; exact Nat.le_of_eq rfl) (hb hby at_177) (by decide) (by decide) (by decide) (by decide)
    obtain ⟨rfl, Nq508, hh519⟩ := hQ508
    have N508 := Fr.app N266 Nq508
    refine own_via (fun t k => st508 t (XS.iloadN X508.here hx rfl (hb hby at_180) rfl (XS.icmpNo X508.here hx rfl (hb hby at_181) rfl (teq (by decide : (1 : Int32) = (1 : Int32))).2 (XS.iconst X508.here hx rfl (hb hby at_184) (XS.goto X508.here hx rfl (pc0 := 185) (pc' := 189) rfl (hb hby at_185) (by decide) (by decide) k))))) ?_
    show own_Goes p e below (T508.setTop (mkF m 189 #[iv i0, rv b154, iv (17 : Int32), iv (1 : Int32)] [(.int (1 : Int32))])) _
    obtain ⟨fs, hr, hrun, hended, hW, hsame⟩ := X508.leave (v := some (.int (1 : Int32))) (fun h => by rw [Bd.returns] at h; cases h)
    refine own_end (t := T508.setFrames fs) ?_ ⟨_, hrun, hended, _, _, rfl, ?_, ⟨_, rfl⟩, hW, hsame.mono (by decide) (by decide)⟩
    · exact retN X508 hx (t := .boolean) Bd.returns (by simp) (hb hby at_189) hr
    · exact ⟨rfl, N508⟩
  · have qs520 := qs
    rw [qs]
    show own_Goes p e below (T266.setTop (mkF m 161 #[iv i0, rv b154, .unset, .unset] [(.int (18 : Int32))])) _
    refine own_via (fun t k => XS.istoreN X266.here hx rfl (hb hby at_161) rfl (l' := #[iv i0, rv b154, iv (18 : Int32), .unset]) rfl (XS.iloadN X266.here hx rfl (hb hby at_162) rfl (XS.bipush X266.here hx rfl (hb hby at_163) (XS.icmpNo X266.here hx rfl (hb hby at_165) rfl (tlt (by decide : (18 : Int32) < (20 : Int32))).2.1 (XS.iconst X266.here hx rfl (hb hby at_168) (XS.goto X266.here hx rfl (pc0 := 169) (pc' := 173) rfl (hb hby at_169) (by decide) (by decide) (XS.istoreN X266.here hx rfl (hb hby at_173) rfl (l' := #[iv i0, rv b154, iv (18 : Int32), iv (1 : Int32)]) rfl (XS.aloadN X266.here hx rfl (hb hby at_174) rfl rfl (XS.iloadN X266.here hx rfl (hb hby at_175) rfl k))))))))) ?_
    show own_Goes p e below (T266.setTop (mkF m 176 #[iv i0, rv b154, iv (18 : Int32), iv (1 : Int32)] [(.int (18 : Int32)), (.ref b154)])) _
    obtain ⟨cl521, Ar521, qq521, S521, M521, H521, G521⟩ := id (V267)
    have hin521 : ¬ ((18 : Int32) < 0 ∨ cl521.slots.size ≤ ((18 : Int32)).toNatClampNeg) := inb_of S521 ⟨by decide, by decide⟩
    refine own_via (fun t k => X266.aaload hx (j := (18 : Int32)) (v := (.ref w123)) (by rw [e266]; exact Ar521.1) (State.isArrayOf_alike hZ.alike Ar521.2.1) rfl Ar521.2.2 hin521 (Has.at H521 hin521 rfl) (g := (mkF m 176 #[iv i0, rv b154, iv (18 : Int32), iv (1 : Int32)] [(.int (18 : Int32)), (.ref b154)])) rfl rfl (hb hby at_176) t k) ?_
    have O532 : Old Z n0 h266 := (O264.wr W266 g155)
    obtain ⟨_, T522, _, X522, hQ522, st522⟩ := own_cv X266 hx hZ hown (wd hw 49 rfl) (wd hw 50 rfl) (wd hw 52 rfl) (wd hw 51 rfl) (wd hw 53 rfl) (wd hw 3 rfl) (by decide) (rm19 l Z a0 hw [] w123 w127 w129 h266 n0 O532 S_ColumnRole_NAME SF_w123_ordinal SF_w127_ordinal S_ColumnRole_ATTRIBUTE SF_w129_ordinal) e266 (SE_w123.ext O532.2) (g := (mkF m 177 #[iv i0, rv b154, iv (18 : Int32), iv (1 : Int32)] [(.ref w123)])) rfl (by rw [hml]; rfl) (rest := []) (W := 0) (lenOf pd_1 rfl) rfl (by show 2 * 0 + _ ≤ _; exact Nat.le_of_eq rfl) (hb hby at_177) (by decide) (by decide) (by decide) (by decide)
    obtain ⟨rfl, Nq522, hh533⟩ := hQ522
    have N522 := Fr.app N266 Nq522
    refine own_via (fun t k => st522 t (XS.iloadN X522.here hx rfl (hb hby at_180) rfl (XS.icmpNo X522.here hx rfl (hb hby at_181) rfl (teq (by decide : (1 : Int32) = (1 : Int32))).2 (XS.iconst X522.here hx rfl (hb hby at_184) (XS.goto X522.here hx rfl (pc0 := 185) (pc' := 189) rfl (hb hby at_185) (by decide) (by decide) k))))) ?_
    show own_Goes p e below (T522.setTop (mkF m 189 #[iv i0, rv b154, iv (18 : Int32), iv (1 : Int32)] [(.int (1 : Int32))])) _
    obtain ⟨fs, hr, hrun, hended, hW, hsame⟩ := X522.leave (v := some (.int (1 : Int32))) (fun h => by rw [Bd.returns] at h; cases h)
    refine own_end (t := T522.setFrames fs) ?_ ⟨_, hrun, hended, _, _, rfl, ?_, ⟨_, rfl⟩, hW, hsame.mono (by decide) (by decide)⟩
    · exact retN X522 hx (t := .boolean) Bd.returns (by simp) (hb hby at_189) hr
    · exact ⟨rfl, N522⟩
  · have qs534 := qs
    rw [qs]
    show own_Goes p e below (T266.setTop (mkF m 161 #[iv i0, rv b154, .unset, .unset] [(.int (19 : Int32))])) _
    refine own_via (fun t k => XS.istoreN X266.here hx rfl (hb hby at_161) rfl (l' := #[iv i0, rv b154, iv (19 : Int32), .unset]) rfl (XS.iloadN X266.here hx rfl (hb hby at_162) rfl (XS.bipush X266.here hx rfl (hb hby at_163) (XS.icmpNo X266.here hx rfl (hb hby at_165) rfl (tlt (by decide : (19 : Int32) < (20 : Int32))).2.1 (XS.iconst X266.here hx rfl (hb hby at_168) (XS.goto X266.here hx rfl (pc0 := 169) (pc' := 173) rfl (hb hby at_169) (by decide) (by decide) (XS.istoreN X266.here hx rfl (hb hby at_173) rfl (l' := #[iv i0, rv b154, iv (19 : Int32), iv (1 : Int32)]) rfl (XS.aloadN X266.here hx rfl (hb hby at_174) rfl rfl (XS.iloadN X266.here hx rfl (hb hby at_175) rfl k))))))))) ?_
    show own_Goes p e below (T266.setTop (mkF m 176 #[iv i0, rv b154, iv (19 : Int32), iv (1 : Int32)] [(.int (19 : Int32)), (.ref b154)])) _
    obtain ⟨cl535, Ar535, qq535, S535, M535, H535, G535⟩ := id (V267)
    have hin535 : ¬ ((19 : Int32) < 0 ∨ cl535.slots.size ≤ ((19 : Int32)).toNatClampNeg) := inb_of S535 ⟨by decide, by decide⟩
    refine own_via (fun t k => X266.aaload hx (j := (19 : Int32)) (v := (.ref w125)) (by rw [e266]; exact Ar535.1) (State.isArrayOf_alike hZ.alike Ar535.2.1) rfl Ar535.2.2 hin535 (Has.at H535 hin535 rfl) (g := (mkF m 176 #[iv i0, rv b154, iv (19 : Int32), iv (1 : Int32)] [(.int (19 : Int32)), (.ref b154)])) rfl rfl (hb hby at_176) t k) ?_
    have O546 : Old Z n0 h266 := (O264.wr W266 g155)
    obtain ⟨_, T536, _, X536, hQ536, st536⟩ := own_cv X266 hx hZ hown (wd hw 49 rfl) (wd hw 50 rfl) (wd hw 52 rfl) (wd hw 51 rfl) (wd hw 53 rfl) (wd hw 3 rfl) (by decide) (rm20 l Z a0 hw [] w125 w127 w129 h266 n0 O546 S_ColumnRole_NAME SF_w125_ordinal SF_w127_ordinal S_ColumnRole_ATTRIBUTE SF_w129_ordinal) e266 (SE_w125.ext O546.2) (g := (mkF m 177 #[iv i0, rv b154, iv (19 : Int32), iv (1 : Int32)] [(.ref w125)])) rfl (by rw [hml]; rfl) (rest := []) (W := 0) (lenOf pd_1 rfl) rfl (by show 2 * 0 + _ ≤ _; exact Nat.le_of_eq rfl) (hb hby at_177) (by decide) (by decide) (by decide) (by decide)
    obtain ⟨rfl, Nq536, hh547⟩ := hQ536
    have N536 := Fr.app N266 Nq536
    refine own_via (fun t k => st536 t (XS.iloadN X536.here hx rfl (hb hby at_180) rfl (XS.icmpNo X536.here hx rfl (hb hby at_181) rfl (teq (by decide : (1 : Int32) = (1 : Int32))).2 (XS.iconst X536.here hx rfl (hb hby at_184) (XS.goto X536.here hx rfl (pc0 := 185) (pc' := 189) rfl (hb hby at_185) (by decide) (by decide) k))))) ?_
    show own_Goes p e below (T536.setTop (mkF m 189 #[iv i0, rv b154, iv (19 : Int32), iv (1 : Int32)] [(.int (1 : Int32))])) _
    obtain ⟨fs, hr, hrun, hended, hW, hsame⟩ := X536.leave (v := some (.int (1 : Int32))) (fun h => by rw [Bd.returns] at h; cases h)
    refine own_end (t := T536.setFrames fs) ?_ ⟨_, hrun, hended, _, _, rfl, ?_, ⟨_, rfl⟩, hW, hsame.mono (by decide) (by decide)⟩
    · exact retN X536 hx (t := .boolean) Bd.returns (by simp) (hb hby at_189) hr
    · exact ⟨rfl, N536⟩
  · have qs548 := qs
    rw [qs]
    show own_Goes p e below (T266.setTop (mkF m 161 #[iv i0, rv b154, .unset, .unset] [(.int (20 : Int32))])) _
    refine own_via (fun t k => XS.istoreN X266.here hx rfl (hb hby at_161) rfl (l' := #[iv i0, rv b154, iv (20 : Int32), .unset]) rfl (XS.iloadN X266.here hx rfl (hb hby at_162) rfl (XS.bipush X266.here hx rfl (hb hby at_163) (XS.icmpYes X266.here hx rfl (pc0 := 165) (pc' := 172) rfl (hb hby at_165) rfl (flt (by decide : ¬ ((20 : Int32) < (20 : Int32)))).2.1 (by decide) (by decide) (XS.iconst X266.here hx rfl (hb hby at_172) (XS.istoreN X266.here hx rfl (hb hby at_173) rfl (l' := #[iv i0, rv b154, iv (20 : Int32), iv (0 : Int32)]) rfl (XS.aloadN X266.here hx rfl (hb hby at_174) rfl rfl (XS.iloadN X266.here hx rfl (hb hby at_175) rfl k)))))))) ?_
    show own_Goes p e below (T266.setTop (mkF m 176 #[iv i0, rv b154, iv (20 : Int32), iv (0 : Int32)] [(.int (20 : Int32)), (.ref b154)])) _
    obtain ⟨cl549, Ar549, qq549, S549, M549, H549, G549⟩ := id (V267)
    have hin549 : ¬ ((20 : Int32) < 0 ∨ cl549.slots.size ≤ ((20 : Int32)).toNatClampNeg) := inb_of S549 ⟨by decide, by decide⟩
    refine own_via (fun t k => X266.aaload hx (j := (20 : Int32)) (v := (.ref w127)) (by rw [e266]; exact Ar549.1) (State.isArrayOf_alike hZ.alike Ar549.2.1) rfl Ar549.2.2 hin549 (Has.at H549 hin549 rfl) (g := (mkF m 176 #[iv i0, rv b154, iv (20 : Int32), iv (0 : Int32)] [(.int (20 : Int32)), (.ref b154)])) rfl rfl (hb hby at_176) t k) ?_
    have O559 : Old Z n0 h266 := (O264.wr W266 g155)
    obtain ⟨_, T550, _, X550, hQ550, st550⟩ := own_cv X266 hx hZ hown (wd hw 49 rfl) (wd hw 50 rfl) (wd hw 52 rfl) (wd hw 51 rfl) (wd hw 53 rfl) (wd hw 3 rfl) (by decide) (rm21 l Z a0 hw [] w127 h266 n0 O559 S_ColumnRole_NAME) e266 (SE_w127.ext O559.2) (g := (mkF m 177 #[iv i0, rv b154, iv (20 : Int32), iv (0 : Int32)] [(.ref w127)])) rfl (by rw [hml]; rfl) (rest := []) (W := 0) (lenOf pd_1 rfl) rfl (by show 2 * 0 + _ ≤ _; exact Nat.le_of_eq rfl) (hb hby at_177) (by decide) (by decide) (by decide) (by decide)
    obtain ⟨rfl, Nq550, hh560⟩ := hQ550
    have N550 := Fr.app N266 Nq550
    refine own_via (fun t k => st550 t (XS.iloadN X550.here hx rfl (hb hby at_180) rfl (XS.icmpNo X550.here hx rfl (hb hby at_181) rfl (teq (by decide : (0 : Int32) = (0 : Int32))).2 (XS.iconst X550.here hx rfl (hb hby at_184) (XS.goto X550.here hx rfl (pc0 := 185) (pc' := 189) rfl (hb hby at_185) (by decide) (by decide) k))))) ?_
    show own_Goes p e below (T550.setTop (mkF m 189 #[iv i0, rv b154, iv (20 : Int32), iv (0 : Int32)] [(.int (1 : Int32))])) _
    obtain ⟨fs, hr, hrun, hended, hW, hsame⟩ := X550.leave (v := some (.int (1 : Int32))) (fun h => by rw [Bd.returns] at h; cases h)
    refine own_end (t := T550.setFrames fs) ?_ ⟨_, hrun, hended, _, _, rfl, ?_, ⟨_, rfl⟩, hW, hsame.mono (by decide) (by decide)⟩
    · exact retN X550 hx (t := .boolean) Bd.returns (by simp) (hb hby at_189) hr
    · exact ⟨rfl, N550⟩
  · have qs561 := qs
    rw [qs]
    show own_Goes p e below (T266.setTop (mkF m 161 #[iv i0, rv b154, .unset, .unset] [(.int (21 : Int32))])) _
    refine own_via (fun t k => XS.istoreN X266.here hx rfl (hb hby at_161) rfl (l' := #[iv i0, rv b154, iv (21 : Int32), .unset]) rfl (XS.iloadN X266.here hx rfl (hb hby at_162) rfl (XS.bipush X266.here hx rfl (hb hby at_163) (XS.icmpYes X266.here hx rfl (pc0 := 165) (pc' := 172) rfl (hb hby at_165) rfl (flt (by decide : ¬ ((21 : Int32) < (20 : Int32)))).2.1 (by decide) (by decide) (XS.iconst X266.here hx rfl (hb hby at_172) (XS.istoreN X266.here hx rfl (hb hby at_173) rfl (l' := #[iv i0, rv b154, iv (21 : Int32), iv (0 : Int32)]) rfl (XS.aloadN X266.here hx rfl (hb hby at_174) rfl rfl (XS.iloadN X266.here hx rfl (hb hby at_175) rfl k)))))))) ?_
    show own_Goes p e below (T266.setTop (mkF m 176 #[iv i0, rv b154, iv (21 : Int32), iv (0 : Int32)] [(.int (21 : Int32)), (.ref b154)])) _
    obtain ⟨cl562, Ar562, qq562, S562, M562, H562, G562⟩ := id (V267)
    have hin562 : ¬ ((21 : Int32) < 0 ∨ cl562.slots.size ≤ ((21 : Int32)).toNatClampNeg) := inb_of S562 ⟨by decide, by decide⟩
    refine own_via (fun t k => X266.aaload hx (j := (21 : Int32)) (v := (.ref w129)) (by rw [e266]; exact Ar562.1) (State.isArrayOf_alike hZ.alike Ar562.2.1) rfl Ar562.2.2 hin562 (Has.at H562 hin562 rfl) (g := (mkF m 176 #[iv i0, rv b154, iv (21 : Int32), iv (0 : Int32)] [(.int (21 : Int32)), (.ref b154)])) rfl rfl (hb hby at_176) t k) ?_
    have O573 : Old Z n0 h266 := (O264.wr W266 g155)
    obtain ⟨_, T563, _, X563, hQ563, st563⟩ := own_cv X266 hx hZ hown (wd hw 49 rfl) (wd hw 50 rfl) (wd hw 52 rfl) (wd hw 51 rfl) (wd hw 53 rfl) (wd hw 3 rfl) (by decide) (rm22 l Z a0 hw [] w129 w127 h266 n0 O573 S_ColumnRole_NAME SF_w129_ordinal SF_w127_ordinal S_ColumnRole_ATTRIBUTE) e266 (SE_w129.ext O573.2) (g := (mkF m 177 #[iv i0, rv b154, iv (21 : Int32), iv (0 : Int32)] [(.ref w129)])) rfl (by rw [hml]; rfl) (rest := []) (W := 0) (lenOf pd_1 rfl) rfl (by show 2 * 0 + _ ≤ _; exact Nat.le_of_eq rfl) (hb hby at_177) (by decide) (by decide) (by decide) (by decide)
    obtain ⟨rfl, Nq563, hh574⟩ := hQ563
    have N563 := Fr.app N266 Nq563
    refine own_via (fun t k => st563 t (XS.iloadN X563.here hx rfl (hb hby at_180) rfl (XS.icmpNo X563.here hx rfl (hb hby at_181) rfl (teq (by decide : (0 : Int32) = (0 : Int32))).2 (XS.iconst X563.here hx rfl (hb hby at_184) (XS.goto X563.here hx rfl (pc0 := 185) (pc' := 189) rfl (hb hby at_185) (by decide) (by decide) k))))) ?_
    show own_Goes p e below (T563.setTop (mkF m 189 #[iv i0, rv b154, iv (21 : Int32), iv (0 : Int32)] [(.int (1 : Int32))])) _
    obtain ⟨fs, hr, hrun, hended, hW, hsame⟩ := X563.leave (v := some (.int (1 : Int32))) (fun h => by rw [Bd.returns] at h; cases h)
    refine own_end (t := T563.setFrames fs) ?_ ⟨_, hrun, hended, _, _, rfl, ?_, ⟨_, rfl⟩, hW, hsame.mono (by decide) (by decide)⟩
    · exact retN X563 hx (t := .boolean) Bd.returns (by simp) (hb hby at_189) hr
    · exact ⟨rfl, N563⟩
set_option maxRecDepth 65536 in
set_option maxHeartbeats 40000000 in
theorem comes_1 {Post : Tables → Env → Array Value → State → Outcome → State → Prop} (hpost : ∀ tb e args s v u, (limb_1_1.after args s (.returned v) u = true ∧ limb_1_2.after args s (.returned v) u = true ∧ True) → FrameEnd s (.returned v) u (Jvm.fieldLocs frame_1_writes args s ++ Jvm.arrayLocs frame_1_arrays args s ++ Jvm.staticLocs frame_1_statics s) 16 128 → Post tb e args s (.returned v) u) :
    ArmFor flags0 classFile x code maxLocals ret World_1 tables_1 room_1 Calls_1 rest_1 Pre_1 Post := by
  intro l hfl _ _ p e ha hc hk s m args below hf hA hF happ hP
  obtain ⟨hcalls, hrest, hpre⟩ := hP
  obtain ⟨-, -, -, hnamed, -, -, -, hat⟩ := (Spec.applies_iff hf).mp happ
  obtain ⟨hg, hn⟩ := and_e (Cond.before_iff.mp (show (Jvm.Cond.and given_1 narrow_1).before args s = true from hpre))
  obtain ⟨g575, g576⟩ := and_e hg
  obtain ⟨w0, rfl⟩ : ∃ w0 : Value, args = #[w0] := by
    have hs : args.size = 1 := by simpa [Cond.value, given_1] using g575
    obtain ⟨L⟩ := args
    match L, hs with
    | [w0], _ => exact ⟨w0, rfl⟩
  have hw := fun d (hd : d ∈ tables_1) => atoms_spec (ws := Jvm.Cond.code x code maxLocals ret :: tables_1) hat d (List.mem_cons_of_mem _ hd)
  have hfit : Fit s := fun {y c} hc i hi => by
    obtain ⟨ha, rfl⟩ := Array.getElem?_eq_some_iff.mp hc
    have q := List.all_eq_true.mp ((Array.all_eq_true_iff_forall_mem.mp hF) _ (Array.getElem_mem ha)) i (List.mem_range.mpr hi)
    simpa [Array.getElem?_eq_getElem hi] using q
  obtain ⟨n1, n2⟩ := and_e hn
  obtain ⟨n3, n4⟩ := and_e n2
  obtain ⟨n5, n6⟩ := and_e n4
  obtain ⟨n7, n8⟩ := and_e n6
  obtain ⟨n9, n10⟩ := and_e n8
  obtain ⟨n11, n12⟩ := and_e n10
  obtain ⟨n13, n14⟩ := and_e n12
  obtain ⟨n15, n16⟩ := and_e n14
  obtain ⟨n17, n18⟩ := and_e n16
  obtain ⟨n19, n20⟩ := and_e n18
  obtain ⟨n21, n22⟩ := and_e n20
  obtain ⟨n23, n24⟩ := and_e n22
  obtain ⟨n25, n26⟩ := and_e n24
  obtain ⟨n27, n28⟩ := and_e n26
  obtain ⟨n29, n30⟩ := and_e n28
  obtain ⟨n31, n32⟩ := and_e n30
  obtain ⟨n33, n34⟩ := and_e n32
  obtain ⟨n35, n36⟩ := and_e n34
  obtain ⟨n37, n38⟩ := and_e n36
  obtain ⟨n39, n40⟩ := and_e n38
  obtain ⟨n41, n42⟩ := and_e n40
  obtain ⟨n43, n44⟩ := and_e n42
  obtain ⟨n45, n46⟩ := and_e n44
  obtain ⟨n47, n48⟩ := and_e n46
  obtain ⟨n49, n50⟩ := and_e n48
  obtain ⟨n51, n52⟩ := and_e n50
  obtain ⟨n53, n54⟩ := and_e n52
  obtain ⟨n55, n56⟩ := and_e n54
  obtain ⟨n57, n58⟩ := and_e n56
  obtain ⟨n59, n60⟩ := and_e n58
  obtain ⟨n61, n62⟩ := and_e n60
  obtain ⟨n63, n64⟩ := and_e n62
  obtain ⟨n65, n66⟩ := and_e n64
  obtain ⟨n67, n68⟩ := and_e n66
  obtain ⟨n69, n70⟩ := and_e n68
  obtain ⟨n71, n72⟩ := and_e n70
  obtain ⟨n73, n74⟩ := and_e n72
  obtain ⟨n75, n76⟩ := and_e n74
  obtain ⟨n77, n78⟩ := and_e n76
  obtain ⟨n79, n80⟩ := and_e n78
  obtain ⟨n81, n82⟩ := and_e n80
  obtain ⟨n83, n84⟩ := and_e n82
  obtain ⟨n85, n86⟩ := and_e n84
  obtain ⟨w87, ev88⟩ := exa_v n1
  have S_ColumnRole_RIGHT_ASCENSION : Sta s s.heap zs1 "RIGHT_ASCENSION" zs2 (.ref w87) := Sta.start ev88 (Or.inr ⟨(wd hw 3 rfl), (wd hw 4 rfl)⟩)
  have SE_w87 : Exa s s.heap w87 zs1 := Exa.start ev88 n1
  obtain ⟨w89, ev90⟩ := exa_v n3
  have S_ColumnRole_DECLINATION : Sta s s.heap zs1 "DECLINATION" zs2 (.ref w89) := Sta.start ev90 (Or.inr ⟨(wd hw 3 rfl), (wd hw 7 rfl)⟩)
  have SE_w89 : Exa s s.heap w89 zs1 := Exa.start ev90 n3
  obtain ⟨w91, ev92⟩ := exa_v n5
  have S_ColumnRole_GALACTIC_LONGITUDE : Sta s s.heap zs1 "GALACTIC_LONGITUDE" zs2 (.ref w91) := Sta.start ev92 (Or.inr ⟨(wd hw 3 rfl), (wd hw 9 rfl)⟩)
  have SE_w91 : Exa s s.heap w91 zs1 := Exa.start ev92 n5
  obtain ⟨w93, ev94⟩ := exa_v n7
  have S_ColumnRole_GALACTIC_LATITUDE : Sta s s.heap zs1 "GALACTIC_LATITUDE" zs2 (.ref w93) := Sta.start ev94 (Or.inr ⟨(wd hw 3 rfl), (wd hw 11 rfl)⟩)
  have SE_w93 : Exa s s.heap w93 zs1 := Exa.start ev94 n7
  obtain ⟨w95, ev96⟩ := exa_v n9
  have S_ColumnRole_ECLIPTIC_LONGITUDE : Sta s s.heap zs1 "ECLIPTIC_LONGITUDE" zs2 (.ref w95) := Sta.start ev96 (Or.inr ⟨(wd hw 3 rfl), (wd hw 13 rfl)⟩)
  have SE_w95 : Exa s s.heap w95 zs1 := Exa.start ev96 n9
  obtain ⟨w97, ev98⟩ := exa_v n11
  have S_ColumnRole_ECLIPTIC_LATITUDE : Sta s s.heap zs1 "ECLIPTIC_LATITUDE" zs2 (.ref w97) := Sta.start ev98 (Or.inr ⟨(wd hw 3 rfl), (wd hw 15 rfl)⟩)
  have SE_w97 : Exa s s.heap w97 zs1 := Exa.start ev98 n11
  obtain ⟨w99, ev100⟩ := exa_v n13
  have S_ColumnRole_CARTESIAN_X : Sta s s.heap zs1 "CARTESIAN_X" zs2 (.ref w99) := Sta.start ev100 (Or.inr ⟨(wd hw 3 rfl), (wd hw 17 rfl)⟩)
  have SE_w99 : Exa s s.heap w99 zs1 := Exa.start ev100 n13
  obtain ⟨w101, ev102⟩ := exa_v n15
  have S_ColumnRole_CARTESIAN_Y : Sta s s.heap zs1 "CARTESIAN_Y" zs2 (.ref w101) := Sta.start ev102 (Or.inr ⟨(wd hw 3 rfl), (wd hw 19 rfl)⟩)
  have SE_w101 : Exa s s.heap w101 zs1 := Exa.start ev102 n15
  obtain ⟨w103, ev104⟩ := exa_v n17
  have S_ColumnRole_CARTESIAN_Z : Sta s s.heap zs1 "CARTESIAN_Z" zs2 (.ref w103) := Sta.start ev104 (Or.inr ⟨(wd hw 3 rfl), (wd hw 21 rfl)⟩)
  have SE_w103 : Exa s s.heap w103 zs1 := Exa.start ev104 n17
  obtain ⟨w105, ev106⟩ := exa_v n19
  have S_ColumnRole_PARALLAX : Sta s s.heap zs1 "PARALLAX" zs2 (.ref w105) := Sta.start ev106 (Or.inr ⟨(wd hw 3 rfl), (wd hw 23 rfl)⟩)
  have SE_w105 : Exa s s.heap w105 zs1 := Exa.start ev106 n19
  obtain ⟨w107, ev108⟩ := exa_v n21
  have S_ColumnRole_PARALLAX_ERROR : Sta s s.heap zs1 "PARALLAX_ERROR" zs2 (.ref w107) := Sta.start ev108 (Or.inr ⟨(wd hw 3 rfl), (wd hw 25 rfl)⟩)
  have SE_w107 : Exa s s.heap w107 zs1 := Exa.start ev108 n21
  obtain ⟨w109, ev110⟩ := exa_v n23
  have S_ColumnRole_DISTANCE : Sta s s.heap zs1 "DISTANCE" zs2 (.ref w109) := Sta.start ev110 (Or.inr ⟨(wd hw 3 rfl), (wd hw 27 rfl)⟩)
  have SE_w109 : Exa s s.heap w109 zs1 := Exa.start ev110 n23
  obtain ⟨w111, ev112⟩ := exa_v n25
  have S_ColumnRole_MAGNITUDE : Sta s s.heap zs1 "MAGNITUDE" zs2 (.ref w111) := Sta.start ev112 (Or.inr ⟨(wd hw 3 rfl), (wd hw 29 rfl)⟩)
  have SE_w111 : Exa s s.heap w111 zs1 := Exa.start ev112 n25
  obtain ⟨w113, ev114⟩ := exa_v n27
  have S_ColumnRole_COLOUR_INDEX : Sta s s.heap zs1 "COLOUR_INDEX" zs2 (.ref w113) := Sta.start ev114 (Or.inr ⟨(wd hw 3 rfl), (wd hw 31 rfl)⟩)
  have SE_w113 : Exa s s.heap w113 zs1 := Exa.start ev114 n27
  obtain ⟨w115, ev116⟩ := exa_v n29
  have S_ColumnRole_EXTINCTION : Sta s s.heap zs1 "EXTINCTION" zs2 (.ref w115) := Sta.start ev116 (Or.inr ⟨(wd hw 3 rfl), (wd hw 33 rfl)⟩)
  have SE_w115 : Exa s s.heap w115 zs1 := Exa.start ev116 n29
  obtain ⟨w117, ev118⟩ := exa_v n31
  have S_ColumnRole_REDDENING : Sta s s.heap zs1 "REDDENING" zs2 (.ref w117) := Sta.start ev118 (Or.inr ⟨(wd hw 3 rfl), (wd hw 35 rfl)⟩)
  have SE_w117 : Exa s s.heap w117 zs1 := Exa.start ev118 n31
  obtain ⟨w119, ev120⟩ := exa_v n33
  have S_ColumnRole_PROPER_MOTION_RA : Sta s s.heap zs1 "PROPER_MOTION_RA" zs2 (.ref w119) := Sta.start ev120 (Or.inr ⟨(wd hw 3 rfl), (wd hw 37 rfl)⟩)
  have SE_w119 : Exa s s.heap w119 zs1 := Exa.start ev120 n33
  obtain ⟨w121, ev122⟩ := exa_v n35
  have S_ColumnRole_PROPER_MOTION_DEC : Sta s s.heap zs1 "PROPER_MOTION_DEC" zs2 (.ref w121) := Sta.start ev122 (Or.inr ⟨(wd hw 3 rfl), (wd hw 39 rfl)⟩)
  have SE_w121 : Exa s s.heap w121 zs1 := Exa.start ev122 n35
  obtain ⟨w123, ev124⟩ := exa_v n37
  have S_ColumnRole_RADIAL_VELOCITY : Sta s s.heap zs1 "RADIAL_VELOCITY" zs2 (.ref w123) := Sta.start ev124 (Or.inr ⟨(wd hw 3 rfl), (wd hw 41 rfl)⟩)
  have SE_w123 : Exa s s.heap w123 zs1 := Exa.start ev124 n37
  obtain ⟨w125, ev126⟩ := exa_v n39
  have S_ColumnRole_ID : Sta s s.heap zs1 "ID" zs2 (.ref w125) := Sta.start ev126 (Or.inr ⟨(wd hw 3 rfl), (wd hw 43 rfl)⟩)
  have SE_w125 : Exa s s.heap w125 zs1 := Exa.start ev126 n39
  obtain ⟨w127, ev128⟩ := exa_v n41
  have S_ColumnRole_NAME : Sta s s.heap zs1 "NAME" zs2 (.ref w127) := Sta.start ev128 (Or.inr ⟨(wd hw 3 rfl), (wd hw 45 rfl)⟩)
  have SE_w127 : Exa s s.heap w127 zs1 := Exa.start ev128 n41
  obtain ⟨w129, ev130⟩ := exa_v n43
  have S_ColumnRole_ATTRIBUTE : Sta s s.heap zs1 "ATTRIBUTE" zs2 (.ref w129) := Sta.start ev130 (Or.inr ⟨(wd hw 3 rfl), (wd hw 47 rfl)⟩)
  have SE_w129 : Exa s s.heap w129 zs1 := Exa.start ev130 n43
  have ev131 := Cond.eq_int (show (Jvm.Cond.eq _ _).holds _ _ _ _ _ = true from Cond.before_iff.mpr n45) rfl
  have SF_w87_ordinal : Fld s s.heap w87 zs3 "ordinal" "I" (.int (0 : Int32)) := Fld.start ((fld_at ev88).symm.trans ev131)
  have ev132 := Cond.eq_int (show (Jvm.Cond.eq _ _).holds _ _ _ _ _ = true from Cond.before_iff.mpr n47) rfl
  have SF_w127_ordinal : Fld s s.heap w127 zs3 "ordinal" "I" (.int (20 : Int32)) := Fld.start ((fld_at ev128).symm.trans ev132)
  have ev133 := Cond.eq_int (show (Jvm.Cond.eq _ _).holds _ _ _ _ _ = true from Cond.before_iff.mpr n49) rfl
  have SF_w129_ordinal : Fld s s.heap w129 zs3 "ordinal" "I" (.int (21 : Int32)) := Fld.start ((fld_at ev130).symm.trans ev133)
  have ev134 := Cond.eq_int (show (Jvm.Cond.eq _ _).holds _ _ _ _ _ = true from Cond.before_iff.mpr n51) rfl
  have SF_w93_ordinal : Fld s s.heap w93 zs3 "ordinal" "I" (.int (3 : Int32)) := Fld.start ((fld_at ev94).symm.trans ev134)
  have ev135 := Cond.eq_int (show (Jvm.Cond.eq _ _).holds _ _ _ _ _ = true from Cond.before_iff.mpr n53) rfl
  have SF_w101_ordinal : Fld s s.heap w101 zs3 "ordinal" "I" (.int (7 : Int32)) := Fld.start ((fld_at ev102).symm.trans ev135)
  have ev136 := Cond.eq_int (show (Jvm.Cond.eq _ _).holds _ _ _ _ _ = true from Cond.before_iff.mpr n55) rfl
  have SF_w103_ordinal : Fld s s.heap w103 zs3 "ordinal" "I" (.int (8 : Int32)) := Fld.start ((fld_at ev104).symm.trans ev136)
  have ev137 := Cond.eq_int (show (Jvm.Cond.eq _ _).holds _ _ _ _ _ = true from Cond.before_iff.mpr n57) rfl
  have SF_w91_ordinal : Fld s s.heap w91 zs3 "ordinal" "I" (.int (2 : Int32)) := Fld.start ((fld_at ev92).symm.trans ev137)
  have ev138 := Cond.eq_int (show (Jvm.Cond.eq _ _).holds _ _ _ _ _ = true from Cond.before_iff.mpr n59) rfl
  have SF_w109_ordinal : Fld s s.heap w109 zs3 "ordinal" "I" (.int (11 : Int32)) := Fld.start ((fld_at ev110).symm.trans ev138)
  have ev139 := Cond.eq_int (show (Jvm.Cond.eq _ _).holds _ _ _ _ _ = true from Cond.before_iff.mpr n61) rfl
  have SF_w107_ordinal : Fld s s.heap w107 zs3 "ordinal" "I" (.int (10 : Int32)) := Fld.start ((fld_at ev108).symm.trans ev139)
  have ev140 := Cond.eq_int (show (Jvm.Cond.eq _ _).holds _ _ _ _ _ = true from Cond.before_iff.mpr n63) rfl
  have SF_w89_ordinal : Fld s s.heap w89 zs3 "ordinal" "I" (.int (1 : Int32)) := Fld.start ((fld_at ev90).symm.trans ev140)
  have ev141 := Cond.eq_int (show (Jvm.Cond.eq _ _).holds _ _ _ _ _ = true from Cond.before_iff.mpr n65) rfl
  have SF_w105_ordinal : Fld s s.heap w105 zs3 "ordinal" "I" (.int (9 : Int32)) := Fld.start ((fld_at ev106).symm.trans ev141)
  have ev142 := Cond.eq_int (show (Jvm.Cond.eq _ _).holds _ _ _ _ _ = true from Cond.before_iff.mpr n67) rfl
  have SF_w97_ordinal : Fld s s.heap w97 zs3 "ordinal" "I" (.int (5 : Int32)) := Fld.start ((fld_at ev98).symm.trans ev142)
  have ev143 := Cond.eq_int (show (Jvm.Cond.eq _ _).holds _ _ _ _ _ = true from Cond.before_iff.mpr n69) rfl
  have SF_w119_ordinal : Fld s s.heap w119 zs3 "ordinal" "I" (.int (16 : Int32)) := Fld.start ((fld_at ev120).symm.trans ev143)
  have ev144 := Cond.eq_int (show (Jvm.Cond.eq _ _).holds _ _ _ _ _ = true from Cond.before_iff.mpr n71) rfl
  have SF_w99_ordinal : Fld s s.heap w99 zs3 "ordinal" "I" (.int (6 : Int32)) := Fld.start ((fld_at ev100).symm.trans ev144)
  have ev145 := Cond.eq_int (show (Jvm.Cond.eq _ _).holds _ _ _ _ _ = true from Cond.before_iff.mpr n73) rfl
  have SF_w125_ordinal : Fld s s.heap w125 zs3 "ordinal" "I" (.int (19 : Int32)) := Fld.start ((fld_at ev126).symm.trans ev145)
  have ev146 := Cond.eq_int (show (Jvm.Cond.eq _ _).holds _ _ _ _ _ = true from Cond.before_iff.mpr n75) rfl
  have SF_w123_ordinal : Fld s s.heap w123 zs3 "ordinal" "I" (.int (18 : Int32)) := Fld.start ((fld_at ev124).symm.trans ev146)
  have ev147 := Cond.eq_int (show (Jvm.Cond.eq _ _).holds _ _ _ _ _ = true from Cond.before_iff.mpr n77) rfl
  have SF_w117_ordinal : Fld s s.heap w117 zs3 "ordinal" "I" (.int (15 : Int32)) := Fld.start ((fld_at ev118).symm.trans ev147)
  have ev148 := Cond.eq_int (show (Jvm.Cond.eq _ _).holds _ _ _ _ _ = true from Cond.before_iff.mpr n79) rfl
  have SF_w95_ordinal : Fld s s.heap w95 zs3 "ordinal" "I" (.int (4 : Int32)) := Fld.start ((fld_at ev96).symm.trans ev148)
  have ev149 := Cond.eq_int (show (Jvm.Cond.eq _ _).holds _ _ _ _ _ = true from Cond.before_iff.mpr n81) rfl
  have SF_w115_ordinal : Fld s s.heap w115 zs3 "ordinal" "I" (.int (14 : Int32)) := Fld.start ((fld_at ev116).symm.trans ev149)
  have ev150 := Cond.eq_int (show (Jvm.Cond.eq _ _).holds _ _ _ _ _ = true from Cond.before_iff.mpr n83) rfl
  have SF_w111_ordinal : Fld s s.heap w111 zs3 "ordinal" "I" (.int (12 : Int32)) := Fld.start ((fld_at ev112).symm.trans ev150)
  have ev151 := Cond.eq_int (show (Jvm.Cond.eq _ _).holds _ _ _ _ _ = true from Cond.before_iff.mpr n85) rfl
  have SF_w113_ordinal : Fld s s.heap w113 zs3 "ordinal" "I" (.int (13 : Int32)) := Fld.start ((fld_at ev114).symm.trans ev151)
  have ev152 := Cond.eq_int (show (Jvm.Cond.eq _ _).holds _ _ _ _ _ = true from Cond.before_iff.mpr n86) rfl
  have SF_w121_ordinal : Fld s s.heap w121 zs3 "ordinal" "I" (.int (17 : Int32)) := Fld.start ((fld_at ev122).symm.trans ev152)
  obtain ⟨i0, ei0⟩ := is_v g576
  obtain rfl : w0 = (.int i0) := Option.some.inj ei0
  obtain ⟨n, o, h1, h2, h3, _, L, rfl, ⟨rfl, N⟩, hq⟩ := rm0 l s _ hw tables_1 i0 w87 w89 w91 w93 w95 w97 w99 w101 w103 w105 w107 w109 w111 w113 w115 w117 w119 w121 w123 w125 w127 w129 s.heap s.heap.size (Old.start s) S_ColumnRole_RIGHT_ASCENSION SE_w87 S_ColumnRole_DECLINATION SE_w89 S_ColumnRole_GALACTIC_LONGITUDE SE_w91 S_ColumnRole_GALACTIC_LATITUDE SE_w93 S_ColumnRole_ECLIPTIC_LONGITUDE SE_w95 S_ColumnRole_ECLIPTIC_LATITUDE SE_w97 S_ColumnRole_CARTESIAN_X SE_w99 S_ColumnRole_CARTESIAN_Y SE_w101 S_ColumnRole_CARTESIAN_Z SE_w103 S_ColumnRole_PARALLAX SE_w105 S_ColumnRole_PARALLAX_ERROR SE_w107 S_ColumnRole_DISTANCE SE_w109 S_ColumnRole_MAGNITUDE SE_w111 S_ColumnRole_COLOUR_INDEX SE_w113 S_ColumnRole_EXTINCTION SE_w115 S_ColumnRole_REDDENING SE_w117 S_ColumnRole_PROPER_MOTION_RA SE_w119 S_ColumnRole_PROPER_MOTION_DEC SE_w121 S_ColumnRole_RADIAL_VELOCITY SE_w123 S_ColumnRole_ID SE_w125 S_ColumnRole_NAME SE_w127 S_ColumnRole_ATTRIBUTE SE_w129 SF_w87_ordinal SF_w127_ordinal SF_w129_ordinal SF_w89_ordinal SF_w91_ordinal SF_w93_ordinal SF_w95_ordinal SF_w97_ordinal SF_w99_ordinal SF_w101_ordinal SF_w103_ordinal SF_w105_ordinal SF_w107_ordinal SF_w109_ordinal SF_w111_ordinal SF_w113_ordinal SF_w115_ordinal SF_w117_ordinal SF_w119_ordinal SF_w121_ordinal SF_w123_ordinal SF_w125_ordinal p e ha hc hk s m _ below hf ((Spec.applies_iff_loose hf).mp happ).1 ⟨rfl, State.Warmed39.refl s, rfl⟩ trivial
  refine ⟨n, _, h1, h2, h3, hpost _ _ _ _ _ _ ⟨Cond.after_iff.mpr rfl, Cond.after_iff.mpr (eq_i res_at (Term.int_eval (1)) rfl), trivial⟩ ⟨hq.1, hq.2.1, (hq.2.2.sift fun y hy => Or.inr (N y hy)).mono (by decide) (by decide)⟩⟩
theorem main_1_1 : Claimed_1_1 := comes_1 fun _ _ _ _ _ _ h hF => ⟨h.1, hF⟩
theorem main_1_2 : Claimed_1_2 := comes_1 fun _ _ _ _ _ _ h hF => ⟨h.2.1, hF⟩
end Jvm.Pilot.@@N@@
namespace Jvm.Pilot.@@N@@
open Jvm Jvm.ClassFile Sem Op Lib Jvm.Free Jvm.Stand Jvm.Pilot.@@N@@.Jvm.D
/-! MADE BY PROGRAM (witnessworld.py) out of the Statement's table words and the real class files: 13 classes; the members and pool entries that the words name. The judged class is class 1, her method 1. -/
namespace start1
open Jvm.ClassFile
def u (s : String) : CpInfo := .utf8 (stringToUtf16 s)
/-- a pool by its gaps: so many unusable entries, then the entry; so many at the end -/
def gap : Nat → List CpInfo → List CpInfo
  | 0, r => r
  | n + 1, r => .unusable :: gap n r
def poolList (es : List (Nat × CpInfo)) (last : Nat) : List CpInfo := es.foldr (fun e r => gap e.1 (e.2 :: r)) (gap last [])
def pool (es : List (Nat × CpInfo)) (last : Nat) : Array CpInfo := ⟨poolList es last⟩
def fileOf (pool : Array CpInfo) (this : Nat) (attrs : Array Attribute := #[]) (ms : Array MethodInfo := #[]) (fl : Nat := 33) (sup : Nat := 0) (ifs : Array Nat := #[]) (fds : Array FieldInfo := #[]) : ClassFile where
  minorVersion := 0
  majorVersion := 65
  constantPool := pool
  accessFlags := fl
  thisClass := this
  superClass := sup
  interfaces := ifs
  fields := fds
  methods := ms
  attributes := attrs
def plain (name : String) (sup : Option ClassId) : Class where
  name := name
  kind := .ordinary
  loader := none
  accessFlags := 33
  super := sup
  interfaces := #[]
  cf := none
  fields := #[]
  methods := #[]
  instanceTypes := #[]
  staticTypes := #[]
  resolved := #[]
  callSites := []
  init := .initialized
  statics := none
  mirror := none

def pool0 : Array CpInfo := pool [(5, u "<init>"), (0, u "()V"), (1, .class_ 10), (1, u "java/lang/Object")] 113

def k0m0 : Method := { name := "<init>", desc := "()V", sig := { parameters := [], returnType := none }, accessFlags := 1, code := none }
/-- java/lang/Object -/
def k0 : Class := { plain "java/lang/Object" none with
  accessFlags := 33
  interfaces := #[]
  cf := some (fileOf pool0 8 #[] #[{ accessFlags := 1, nameIndex := 5, descriptorIndex := 6, attributes := #[] }] 33 0 #[] #[])
  fields := #[]
  methods := #[k0m0]
  instanceTypes := #[]
  staticTypes := #[]
  resolved := Array.replicate 124 none
  statics := none }

def pool1 : Array CpInfo := pool [(2, .class_ 4), (1, u "java/lang/Object"), (0, u "<init>"), (0, u "()V"), (0, .class_ 8), (0, u "com/example/starcourse/starcourse/catalog/ColumnRole"), (0, .fieldref 7 10), (0, .nameAndType 11 12), (0, u "RIGHT_ASCENSION"), (0, u "Lcom/example/starcourse/starcourse/catalog/ColumnRole;"), (0, .fieldref 7 14), (0, .nameAndType 15 12), (0, u "DECLINATION"), (0, .fieldref 7 17), (0, .nameAndType 18 12), (0, u "GALACTIC_LONGITUDE"), (0, .fieldref 7 20), (0, .nameAndType 21 12), (0, u "GALACTIC_LATITUDE"), (0, .fieldref 7 23), (0, .nameAndType 24 12), (0, u "ECLIPTIC_LONGITUDE"), (0, .fieldref 7 26), (0, .nameAndType 27 12), (0, u "ECLIPTIC_LATITUDE"), (0, .fieldref 7 29), (0, .nameAndType 30 12), (0, u "CARTESIAN_X"), (0, .fieldref 7 32), (0, .nameAndType 33 12), (0, u "CARTESIAN_Y"), (0, .fieldref 7 35), (0, .nameAndType 36 12), (0, u "CARTESIAN_Z"), (0, .fieldref 7 38), (0, .nameAndType 39 12), (0, u "PARALLAX"), (0, .fieldref 7 41), (0, .nameAndType 42 12), (0, u "PARALLAX_ERROR"), (0, .fieldref 7 44), (0, .nameAndType 45 12), (0, u "DISTANCE"), (0, .fieldref 7 47), (0, .nameAndType 48 12), (0, u "MAGNITUDE"), (0, .fieldref 7 50), (0, .nameAndType 51 12), (0, u "COLOUR_INDEX"), (0, .fieldref 7 53), (0, .nameAndType 54 12), (0, u "EXTINCTION"), (0, .fieldref 7 56), (0, .nameAndType 57 12), (0, u "REDDENING"), (0, .fieldref 7 59), (0, .nameAndType 60 12), (0, u "PROPER_MOTION_RA"), (0, .fieldref 7 62), (0, .nameAndType 63 12), (0, u "PROPER_MOTION_DEC"), (0, .fieldref 7 65), (0, .nameAndType 66 12), (0, u "RADIAL_VELOCITY"), (0, .fieldref 7 68), (0, .nameAndType 69 12), (0, u "ID"), (0, .fieldref 7 71), (0, .nameAndType 72 12), (0, u "NAME"), (0, .fieldref 7 74), (0, .nameAndType 75 12), (0, u "ATTRIBUTE"), (0, .integer 2147483647), (0, .methodref 7 78), (0, .nameAndType 79 80), (0, u "isOneColumn"), (0, u "()Z"), (0, .class_ 82), (0, u "com/example/starcourse/starcourse/catalog/ColumnRoleIsOneColumnPinLaw"), (2, u "law"), (0, u "(I)Z")] 5

def k1m0 : Method := { name := "<init>", desc := "()V", sig := { parameters := [], returnType := none }, accessFlags := 1, code := none }
def k1c1 : Code := { maxStack := 4, maxLocals := 4, code := code, exceptionTable := #[], attributes := #[] }
def k1m1 : Method := { name := "law", desc := "(I)Z", sig := { parameters := [.int], returnType := some .boolean }, accessFlags := 9, code := some k1c1 }
/-- com/example/starcourse/starcourse/catalog/ColumnRoleIsOneColumnPinLaw -/
def k1 : Class := { plain "com/example/starcourse/starcourse/catalog/ColumnRoleIsOneColumnPinLaw" (some 0) with
  accessFlags := 49
  interfaces := #[]
  cf := some (fileOf pool1 81 #[] #[{ accessFlags := 1, nameIndex := 5, descriptorIndex := 6, attributes := #[] }, { accessFlags := 9, nameIndex := 85, descriptorIndex := 86, attributes := #[] }] 49 2 #[] #[])
  fields := #[]
  methods := #[k1m0, k1m1]
  instanceTypes := #[]
  staticTypes := #[]
  resolved := Array.replicate 92 none
  statics := none }

def pool2 : Array CpInfo := pool [(1, .class_ 2), (0, u "java/lang/constant/Constable"), (0, .class_ 4), (0, u "java/lang/Object")] 6

/-- java/lang/constant/Constable -/
def k2 : Class := { plain "java/lang/constant/Constable" (some 0) with
  accessFlags := 1537
  interfaces := #[]
  cf := some (fileOf pool2 1 #[] #[] 1537 3 #[] #[])
  fields := #[]
  methods := #[]
  instanceTypes := #[]
  staticTypes := #[]
  resolved := Array.replicate 11 none
  statics := none }

def pool3 : Array CpInfo := pool [(1, .class_ 2), (0, u "java/lang/Comparable"), (0, .class_ 4), (0, u "java/lang/Object")] 7

/-- java/lang/Comparable -/
def k3 : Class := { plain "java/lang/Comparable" (some 0) with
  accessFlags := 1537
  interfaces := #[]
  cf := some (fileOf pool3 1 #[] #[] 1537 3 #[] #[])
  fields := #[]
  methods := #[]
  instanceTypes := #[]
  staticTypes := #[]
  resolved := Array.replicate 12 none
  statics := none }

def pool4 : Array CpInfo := pool [(1, .class_ 2), (0, u "java/io/Serializable"), (0, .class_ 4), (0, u "java/lang/Object")] 2

/-- java/io/Serializable -/
def k4 : Class := { plain "java/io/Serializable" (some 0) with
  accessFlags := 1537
  interfaces := #[]
  cf := some (fileOf pool4 1 #[] #[] 1537 3 #[] #[])
  fields := #[]
  methods := #[]
  instanceTypes := #[]
  staticTypes := #[]
  resolved := Array.replicate 7 none
  statics := none }

def pool5 : Array CpInfo := pool [(2, .class_ 4), (1, u "java/lang/Enum"), (0, u "name"), (0, u "Ljava/lang/String;"), (2, u "ordinal"), (0, u "I"), (1, .class_ 14), (1, u "java/lang/Object"), (4, u "hash"), (86, .class_ 108), (1, u "java/lang/Enum$EnumDesc"), (2, .class_ 112), (0, u "java/lang/constant/Constable"), (0, .class_ 114), (0, u "java/lang/Comparable"), (0, .class_ 116), (0, u "java/io/Serializable")] 87

/-- java/lang/Enum -/
def k5 : Class := { plain "java/lang/Enum" (some 0) with
  accessFlags := 1057
  interfaces := #[2, 3, 4]
  cf := some (fileOf pool5 2 #[.nestMembers #[106]] #[] 1057 12 #[111, 113, 115] #[{ accessFlags := 18, nameIndex := 5, descriptorIndex := 6, attributes := #[] }, { accessFlags := 18, nameIndex := 9, descriptorIndex := 10, attributes := #[] }, { accessFlags := 2, nameIndex := 19, descriptorIndex := 10, attributes := #[] }])
  fields := #[{ name := "name", type := (.object "java/lang/String"), accessFlags := 18, slot := 0, constantValue := 0 }, { name := "ordinal", type := .int, accessFlags := 18, slot := 1, constantValue := 0 }, { name := "hash", type := .int, accessFlags := 2, slot := 2, constantValue := 0 }]
  methods := #[]
  instanceTypes := #[(.object "java/lang/String"), .int, .int]
  staticTypes := #[]
  resolved := Array.replicate 204 none
  statics := none }

def pool6 : Array CpInfo := pool [(1, .class_ 2), (0, u "com/example/starcourse/starcourse/catalog/ColumnRole"), (2, u "RIGHT_ASCENSION"), (0, u "Lcom/example/starcourse/starcourse/catalog/ColumnRole;"), (2, u "DECLINATION"), (2, u "GALACTIC_LONGITUDE"), (2, u "GALACTIC_LATITUDE"), (2, u "ECLIPTIC_LONGITUDE"), (2, u "ECLIPTIC_LATITUDE"), (2, u "CARTESIAN_X"), (2, u "CARTESIAN_Y"), (2, u "CARTESIAN_Z"), (2, u "PARALLAX"), (2, u "PARALLAX_ERROR"), (2, u "DISTANCE"), (2, u "MAGNITUDE"), (2, u "COLOUR_INDEX"), (2, u "EXTINCTION"), (2, u "REDDENING"), (2, u "PROPER_MOTION_RA"), (2, u "PROPER_MOTION_DEC"), (2, u "RADIAL_VELOCITY"), (2, u "ID"), (0, .fieldref 1 65), (0, .nameAndType 66 6), (0, u "NAME"), (0, .fieldref 1 68), (0, .nameAndType 69 6), (0, u "ATTRIBUTE"), (2, u "$VALUES"), (0, u "[Lcom/example/starcourse/starcourse/catalog/ColumnRole;"), (6, .class_ 82), (1, u "java/lang/Enum"), (8, u "mQuantity"), (0, u "Lcom/example/starcourse/starcourse/catalog/Quantity;"), (2, u "mUcds"), (0, u "Ljava/util/List;"), (8, u "mColumnNames"), (14, u "()Z"), (6, u "BY_NAME"), (0, u "Ljava/util/Map;"), (21, u "NAME_COLUMN"), (0, u "Ljava/util/regex/Pattern;"), (43, u "BY_UCD"), (254, u "isOneColumn")] 45

def k6c0 : Code := { maxStack := 2, maxLocals := 1, code := prog_12_method_6_code, exceptionTable := #[], attributes := #[] }
def k6m0 : Method := { name := "isOneColumn", desc := "()Z", sig := { parameters := [], returnType := some .boolean }, accessFlags := 0, code := some k6c0 }
/-- com/example/starcourse/starcourse/catalog/ColumnRole -/
def k6 : Class := { plain "com/example/starcourse/starcourse/catalog/ColumnRole" (some 5) with
  accessFlags := 16432
  interfaces := #[]
  cf := some (fileOf pool6 1 #[] #[{ accessFlags := 0, nameIndex := 450, descriptorIndex := 120, attributes := #[] }] 16432 80 #[] #[{ accessFlags := 16409, nameIndex := 5, descriptorIndex := 6, attributes := #[] }, { accessFlags := 16409, nameIndex := 9, descriptorIndex := 6, attributes := #[] }, { accessFlags := 16409, nameIndex := 12, descriptorIndex := 6, attributes := #[] }, { accessFlags := 16409, nameIndex := 15, descriptorIndex := 6, attributes := #[] }, { accessFlags := 16409, nameIndex := 18, descriptorIndex := 6, attributes := #[] }, { accessFlags := 16409, nameIndex := 21, descriptorIndex := 6, attributes := #[] }, { accessFlags := 16409, nameIndex := 24, descriptorIndex := 6, attributes := #[] }, { accessFlags := 16409, nameIndex := 27, descriptorIndex := 6, attributes := #[] }, { accessFlags := 16409, nameIndex := 30, descriptorIndex := 6, attributes := #[] }, { accessFlags := 16409, nameIndex := 33, descriptorIndex := 6, attributes := #[] }, { accessFlags := 16409, nameIndex := 36, descriptorIndex := 6, attributes := #[] }, { accessFlags := 16409, nameIndex := 39, descriptorIndex := 6, attributes := #[] }, { accessFlags := 16409, nameIndex := 42, descriptorIndex := 6, attributes := #[] }, { accessFlags := 16409, nameIndex := 45, descriptorIndex := 6, attributes := #[] }, { accessFlags := 16409, nameIndex := 48, descriptorIndex := 6, attributes := #[] }, { accessFlags := 16409, nameIndex := 51, descriptorIndex := 6, attributes := #[] }, { accessFlags := 16409, nameIndex := 54, descriptorIndex := 6, attributes := #[] }, { accessFlags := 16409, nameIndex := 57, descriptorIndex := 6, attributes := #[] }, { accessFlags := 16409, nameIndex := 60, descriptorIndex := 6, attributes := #[] }, { accessFlags := 16409, nameIndex := 63, descriptorIndex := 6, attributes := #[] }, { accessFlags := 16409, nameIndex := 66, descriptorIndex := 6, attributes := #[] }, { accessFlags := 16409, nameIndex := 69, descriptorIndex := 6, attributes := #[] }, { accessFlags := 26, nameIndex := 150, descriptorIndex := 151, attributes := #[] }, { accessFlags := 26, nameIndex := 127, descriptorIndex := 128, attributes := #[] }, { accessFlags := 26, nameIndex := 195, descriptorIndex := 128, attributes := #[] }, { accessFlags := 18, nameIndex := 91, descriptorIndex := 92, attributes := #[] }, { accessFlags := 18, nameIndex := 95, descriptorIndex := 96, attributes := #[] }, { accessFlags := 18, nameIndex := 105, descriptorIndex := 96, attributes := #[] }, { accessFlags := 4122, nameIndex := 72, descriptorIndex := 73, attributes := #[] }])
  fields := #[{ name := "RIGHT_ASCENSION", type := (.object "com/example/starcourse/starcourse/catalog/ColumnRole"), accessFlags := 16409, slot := 0, constantValue := 0 }, { name := "DECLINATION", type := (.object "com/example/starcourse/starcourse/catalog/ColumnRole"), accessFlags := 16409, slot := 1, constantValue := 0 }, { name := "GALACTIC_LONGITUDE", type := (.object "com/example/starcourse/starcourse/catalog/ColumnRole"), accessFlags := 16409, slot := 2, constantValue := 0 }, { name := "GALACTIC_LATITUDE", type := (.object "com/example/starcourse/starcourse/catalog/ColumnRole"), accessFlags := 16409, slot := 3, constantValue := 0 }, { name := "ECLIPTIC_LONGITUDE", type := (.object "com/example/starcourse/starcourse/catalog/ColumnRole"), accessFlags := 16409, slot := 4, constantValue := 0 }, { name := "ECLIPTIC_LATITUDE", type := (.object "com/example/starcourse/starcourse/catalog/ColumnRole"), accessFlags := 16409, slot := 5, constantValue := 0 }, { name := "CARTESIAN_X", type := (.object "com/example/starcourse/starcourse/catalog/ColumnRole"), accessFlags := 16409, slot := 6, constantValue := 0 }, { name := "CARTESIAN_Y", type := (.object "com/example/starcourse/starcourse/catalog/ColumnRole"), accessFlags := 16409, slot := 7, constantValue := 0 }, { name := "CARTESIAN_Z", type := (.object "com/example/starcourse/starcourse/catalog/ColumnRole"), accessFlags := 16409, slot := 8, constantValue := 0 }, { name := "PARALLAX", type := (.object "com/example/starcourse/starcourse/catalog/ColumnRole"), accessFlags := 16409, slot := 9, constantValue := 0 }, { name := "PARALLAX_ERROR", type := (.object "com/example/starcourse/starcourse/catalog/ColumnRole"), accessFlags := 16409, slot := 10, constantValue := 0 }, { name := "DISTANCE", type := (.object "com/example/starcourse/starcourse/catalog/ColumnRole"), accessFlags := 16409, slot := 11, constantValue := 0 }, { name := "MAGNITUDE", type := (.object "com/example/starcourse/starcourse/catalog/ColumnRole"), accessFlags := 16409, slot := 12, constantValue := 0 }, { name := "COLOUR_INDEX", type := (.object "com/example/starcourse/starcourse/catalog/ColumnRole"), accessFlags := 16409, slot := 13, constantValue := 0 }, { name := "EXTINCTION", type := (.object "com/example/starcourse/starcourse/catalog/ColumnRole"), accessFlags := 16409, slot := 14, constantValue := 0 }, { name := "REDDENING", type := (.object "com/example/starcourse/starcourse/catalog/ColumnRole"), accessFlags := 16409, slot := 15, constantValue := 0 }, { name := "PROPER_MOTION_RA", type := (.object "com/example/starcourse/starcourse/catalog/ColumnRole"), accessFlags := 16409, slot := 16, constantValue := 0 }, { name := "PROPER_MOTION_DEC", type := (.object "com/example/starcourse/starcourse/catalog/ColumnRole"), accessFlags := 16409, slot := 17, constantValue := 0 }, { name := "RADIAL_VELOCITY", type := (.object "com/example/starcourse/starcourse/catalog/ColumnRole"), accessFlags := 16409, slot := 18, constantValue := 0 }, { name := "ID", type := (.object "com/example/starcourse/starcourse/catalog/ColumnRole"), accessFlags := 16409, slot := 19, constantValue := 0 }, { name := "NAME", type := (.object "com/example/starcourse/starcourse/catalog/ColumnRole"), accessFlags := 16409, slot := 20, constantValue := 0 }, { name := "ATTRIBUTE", type := (.object "com/example/starcourse/starcourse/catalog/ColumnRole"), accessFlags := 16409, slot := 21, constantValue := 0 }, { name := "NAME_COLUMN", type := (.object "java/util/regex/Pattern"), accessFlags := 26, slot := 22, constantValue := 0 }, { name := "BY_NAME", type := (.object "java/util/Map"), accessFlags := 26, slot := 23, constantValue := 0 }, { name := "BY_UCD", type := (.object "java/util/Map"), accessFlags := 26, slot := 24, constantValue := 0 }, { name := "mQuantity", type := (.object "com/example/starcourse/starcourse/catalog/Quantity"), accessFlags := 18, slot := 3, constantValue := 0 }, { name := "mUcds", type := (.object "java/util/List"), accessFlags := 18, slot := 4, constantValue := 0 }, { name := "mColumnNames", type := (.object "java/util/List"), accessFlags := 18, slot := 5, constantValue := 0 }, { name := "$VALUES", type := (.array (.object "com/example/starcourse/starcourse/catalog/ColumnRole")), accessFlags := 4122, slot := 25, constantValue := 0 }]
  methods := #[k6m0]
  instanceTypes := #[(.object "java/lang/String"), .int, .int, (.object "com/example/starcourse/starcourse/catalog/Quantity"), (.object "java/util/List"), (.object "java/util/List")]
  staticTypes := #[(.object "com/example/starcourse/starcourse/catalog/ColumnRole"), (.object "com/example/starcourse/starcourse/catalog/ColumnRole"), (.object "com/example/starcourse/starcourse/catalog/ColumnRole"), (.object "com/example/starcourse/starcourse/catalog/ColumnRole"), (.object "com/example/starcourse/starcourse/catalog/ColumnRole"), (.object "com/example/starcourse/starcourse/catalog/ColumnRole"), (.object "com/example/starcourse/starcourse/catalog/ColumnRole"), (.object "com/example/starcourse/starcourse/catalog/ColumnRole"), (.object "com/example/starcourse/starcourse/catalog/ColumnRole"), (.object "com/example/starcourse/starcourse/catalog/ColumnRole"), (.object "com/example/starcourse/starcourse/catalog/ColumnRole"), (.object "com/example/starcourse/starcourse/catalog/ColumnRole"), (.object "com/example/starcourse/starcourse/catalog/ColumnRole"), (.object "com/example/starcourse/starcourse/catalog/ColumnRole"), (.object "com/example/starcourse/starcourse/catalog/ColumnRole"), (.object "com/example/starcourse/starcourse/catalog/ColumnRole"), (.object "com/example/starcourse/starcourse/catalog/ColumnRole"), (.object "com/example/starcourse/starcourse/catalog/ColumnRole"), (.object "com/example/starcourse/starcourse/catalog/ColumnRole"), (.object "com/example/starcourse/starcourse/catalog/ColumnRole"), (.object "com/example/starcourse/starcourse/catalog/ColumnRole"), (.object "com/example/starcourse/starcourse/catalog/ColumnRole"), (.object "java/util/regex/Pattern"), (.object "java/util/Map"), (.object "java/util/Map"), (.array (.object "com/example/starcourse/starcourse/catalog/ColumnRole"))]
  resolved := Array.replicate 496 none
  statics := some 0 }

def pool7 : Array CpInfo := pool [(1, u "java/lang/Cloneable"), (0, .class_ 1), (0, u "java/lang/Object"), (0, .class_ 3)] 3

/-- java/lang/Cloneable -/
def k7 : Class := { plain "java/lang/Cloneable" (some 0) with
  accessFlags := 1537
  interfaces := #[]
  cf := some (fileOf pool7 2 #[] #[] 1537 4 #[] #[])
  fields := #[]
  methods := #[]
  instanceTypes := #[]
  staticTypes := #[]
  resolved := Array.replicate 8 none
  statics := none }

/-- the primitive byte -/
def k8 : Class := { plain "byte" none with kind := .primitive 'B', accessFlags := 0x411 }
/-- [B -/
def k9 : Class := { plain "[B" (some 0) with kind := .array 8 .byte, interfaces := #[7, 4], accessFlags := 1041 }

/-- the primitive int -/
def k10 : Class := { plain "int" none with kind := .primitive 'I', accessFlags := 0x411 }
/-- [I -/
def k11 : Class := { plain "[I" (some 0) with kind := .array 10 .int, interfaces := #[7, 4], accessFlags := 1041 }

/-- [Lcom/example/starcourse/starcourse/catalog/ColumnRole; -/
def k12 : Class := { plain "[Lcom/example/starcourse/starcourse/catalog/ColumnRole;" (some 0) with kind := .array 6 (.object "com/example/starcourse/starcourse/catalog/ColumnRole"), interfaces := #[7, 4], accessFlags := 1041 }

def heap : Heap := #[{ cls := 6, slots := #[.ref 1, .ref 2, .ref 3, .ref 4, .ref 5, .ref 6, .ref 7, .ref 8, .ref 9, .ref 10, .ref 11, .ref 12, .ref 13, .ref 14, .ref 15, .ref 16, .ref 17, .ref 18, .ref 19, .ref 20, .ref 21, .ref 22, .null, .null, .null, .null], vm := .statics 6 },
  { cls := 6, slots := #[.null, .int 0, .int 0, .null, .null, .null], vm := .none },
  { cls := 6, slots := #[.null, .int 1, .int 0, .null, .null, .null], vm := .none },
  { cls := 6, slots := #[.null, .int 2, .int 0, .null, .null, .null], vm := .none },
  { cls := 6, slots := #[.null, .int 3, .int 0, .null, .null, .null], vm := .none },
  { cls := 6, slots := #[.null, .int 4, .int 0, .null, .null, .null], vm := .none },
  { cls := 6, slots := #[.null, .int 5, .int 0, .null, .null, .null], vm := .none },
  { cls := 6, slots := #[.null, .int 6, .int 0, .null, .null, .null], vm := .none },
  { cls := 6, slots := #[.null, .int 7, .int 0, .null, .null, .null], vm := .none },
  { cls := 6, slots := #[.null, .int 8, .int 0, .null, .null, .null], vm := .none },
  { cls := 6, slots := #[.null, .int 9, .int 0, .null, .null, .null], vm := .none },
  { cls := 6, slots := #[.null, .int 10, .int 0, .null, .null, .null], vm := .none },
  { cls := 6, slots := #[.null, .int 11, .int 0, .null, .null, .null], vm := .none },
  { cls := 6, slots := #[.null, .int 12, .int 0, .null, .null, .null], vm := .none },
  { cls := 6, slots := #[.null, .int 13, .int 0, .null, .null, .null], vm := .none },
  { cls := 6, slots := #[.null, .int 14, .int 0, .null, .null, .null], vm := .none },
  { cls := 6, slots := #[.null, .int 15, .int 0, .null, .null, .null], vm := .none },
  { cls := 6, slots := #[.null, .int 16, .int 0, .null, .null, .null], vm := .none },
  { cls := 6, slots := #[.null, .int 17, .int 0, .null, .null, .null], vm := .none },
  { cls := 6, slots := #[.null, .int 18, .int 0, .null, .null, .null], vm := .none },
  { cls := 6, slots := #[.null, .int 19, .int 0, .null, .null, .null], vm := .none },
  { cls := 6, slots := #[.null, .int 20, .int 0, .null, .null, .null], vm := .none },
  { cls := 6, slots := #[.null, .int 21, .int 0, .null, .null, .null], vm := .none }]
def classes : Array Class := #[k0, k1, k2, k3, k4, k5, k6, k7, k8, k9, k10, k11, k12]
def interned : List (Array UInt16 × Addr) := []
def slotsUsed : Nat := 158
def theMethod : MethodId := ⟨1, 1⟩
def args0 : Array Value := #[.int 5]
def aboutOver (below : List Frame) : State where
  vm := { classes := classes, interned := interned.toArray }
  heap := heap
  slotsUsed := slotsUsed
  threads := #[{ frames := .invoking theMethod args0 :: below }]
def below0 : List Frame := [.native { method := ⟨0, 0⟩, args := #[] }]
def about1 : State := aboutOver below0
def p0 : Program := .bare "" "" ""
def e0 : Env := launch0.env 0 0 0
theorem w_frames : about1.frames = Frame.invoking theMethod args0 :: below0 := rfl
set_option maxRecDepth 65536 in
theorem w_args : argsFit about1.vm theMethod args0 = true := by decide +kernel
set_option maxRecDepth 65536 in
theorem w_heap : heapFits about1 = true := by decide +kernel
set_option maxRecDepth 65536 in
theorem w_runnable : about1.curStatus? = some .runnable := by decide +kernel
set_option maxRecDepth 65536 in
theorem w_alone : about1.alone = true := by decide +kernel
set_option maxRecDepth 65536 in
theorem w_named : about1.methodNamed? x = some theMethod := by decide +kernel
set_option maxRecDepth 65536 in
theorem w_hears : about1.hears theMethod below0 = true := by decide +kernel
set_option maxRecDepth 65536 in
theorem w_ripe : about1.ripe theMethod args0 below0 = true := by decide +kernel
theorem w_running : about1.status = .running := rfl
set_option maxRecDepth 65536 in
theorem w_room : about1.hasRoom e0.platform room_1 = true :=
  launch0.hasRoom_least _ room_1 (by decide +kernel) (by decide +kernel) (by decide +kernel) (by decide +kernel) (by decide +kernel) (by decide +kernel)
theorem allAtoms_all (ts : List Jvm.Cond) (a : Array Jvm.Value) (st : Jvm.State) : (allAtoms ts).before a st = ts.all (fun c => c.before a st) := by
  induction ts with
  | nil => rfl
  | cons c t ih =>
    show (Jvm.Cond.and c (allAtoms t)).before a st = _
    rw [Jvm.Cond.before_and, ih, List.all_cons]
def words1 : List Jvm.Cond := Jvm.Cond.code x code maxLocals ret :: tables_1
/-- a 'code' word, met by the world's own term for the bytes: nothing is compared byte by byte -/
theorem code_word {y : MethodName} {bytes : ByteArray} {mx : Nat} {rt : Option FieldType} {a : Array Value} {s : State} {m : MethodId} {meth : Method} {c : Code} (h1 : s.methodNamed? y = some m) (h2 : s.vm.method? m = some meth) (h3 : meth.code = some c) (h4 : c.code = bytes)
    (h5 : (c.maxLocals == mx && c.exceptionTable.isEmpty && decide (c.maxStack ≤ mostOperands) && decide (meth.sig.returnType = rt) && !meth.locks && decide (parseMethodDescriptor y.desc = some meth.sig)) = true) : (Jvm.Cond.code y bytes mx rt).before a s = true := by
  simp only [Bool.and_eq_true, beq_iff_eq, Bool.not_eq_true', decide_eq_true_eq] at h5
  obtain ⟨⟨⟨⟨⟨g1, g2⟩, g3⟩, g4⟩, g5⟩, g6⟩ := h5
  simp [Cond.before, Cond.holds, Cond.value, h1, h2, h3, h4, g1, g2, g3, g4, g5, g6]
def isCode : Jvm.Cond → Bool
  | .code _ _ _ _ => true
  | _ => false
theorem all_split {L : List Jvm.Cond} {P : Jvm.Cond → Bool} (h1 : L.all (fun c => isCode c || P c) = true) (h2 : ∀ c ∈ L.filter isCode, P c = true) : L.all P = true := by
  refine List.all_eq_true.mpr fun c hc => ?_
  have h := List.all_eq_true.mp h1 c hc
  rcases Bool.eq_false_or_eq_true (isCode c) with hi | hi
  · exact h2 c (List.mem_filter.mpr ⟨hc, hi⟩)
  · simpa [hi] using h
set_option maxRecDepth 65536 in
theorem w_c0 : (Jvm.Cond.code x code maxLocals ret).before args0 about1 = true := code_word (m := ⟨1, 1⟩) (meth := k1m1) (c := k1c1) (by decide +kernel) rfl rfl rfl (by decide +kernel)
set_option maxRecDepth 65536 in
theorem w_c1 : (Jvm.Cond.code ({ cls := "com/example/starcourse/starcourse/catalog/ColumnRole", name := "isOneColumn", desc := "()Z" } : Jvm.MethodName) prog_12_method_6_code (1 : Nat) (Option.some Jvm.ClassFile.FieldType.boolean)).before args0 about1 = true := code_word (m := ⟨6, 0⟩) (meth := k6m0) (c := k6c0) (by decide +kernel) rfl rfl rfl (by decide +kernel)
def codes1 : List Jvm.Cond := [Jvm.Cond.code x code maxLocals ret, Jvm.Cond.code ({ cls := "com/example/starcourse/starcourse/catalog/ColumnRole", name := "isOneColumn", desc := "()Z" } : Jvm.MethodName) prog_12_method_6_code (1 : Nat) (Option.some Jvm.ClassFile.FieldType.boolean)]
set_option maxRecDepth 65536 in
theorem codes_eq : words1.filter isCode = codes1 := rfl
theorem w_codes : ∀ c ∈ words1.filter isCode, c.before args0 about1 = true := by
  rw [codes_eq]
  intro c hc
  simp only [codes1, List.mem_cons, List.not_mem_nil, or_false] at hc
  rcases hc with rfl | rfl
  · exact w_c0
  · exact w_c1
set_option maxRecDepth 65536 in
theorem w_t1 : (words1.take 24).all (fun c => isCode c || c.before args0 about1) = true := by decide +kernel
set_option maxRecDepth 65536 in
theorem w_t2 : ((words1.drop 24).take 24).all (fun c => isCode c || c.before args0 about1) = true := by decide +kernel
set_option maxRecDepth 65536 in
theorem w_t3 : ((words1.drop 24).drop 24).all (fun c => isCode c || c.before args0 about1) = true := by decide +kernel
theorem w_tables : (allAtoms (Jvm.Cond.code x code maxLocals ret :: tables_1)).before args0 about1 = true := by
  rw [allAtoms_all]
  show words1.all (fun c => c.before args0 about1) = true
  refine all_split ?_ w_codes
  rw [← List.take_append_drop 24 words1, List.all_append, w_t1, ← List.take_append_drop 24 (words1.drop 24), List.all_append, w_t2, w_t3]
  rfl
set_option maxRecDepth 65536 in
theorem w_case : (Jvm.Cond.and given_1 narrow_1).before args0 about1 = true := by decide +kernel
theorem w_applies : (headSpec (Jvm.Cond.code x code maxLocals ret :: tables_1) room_1).applies x e0.platform about1 = true :=
  (Spec.applies_iff w_frames).mpr ⟨w_running, w_runnable, w_alone, w_named, w_hears, w_ripe, w_room, w_tables⟩
theorem atStart : AtStart classFile x code maxLocals ret World_1 tables_1 room_1 Calls_1 rest_1 Pre_1 launch0 p0 e0 about1 theMethod args0 below0 :=
  ⟨lists_1, trivial, launch0.admits_env _ _ _, launch0.least_env, fairChoices_fair.cas, fairChoices_fair.clock, w_frames, w_args, w_heap, w_applies, trivial, trivial, w_case⟩
end start1
theorem witness_1 : WitnessClaimed_1 := ⟨start1.p0, start1.e0, start1.about1, start1.theMethod, start1.args0, start1.below0, start1.atStart⟩
end Jvm.Pilot.@@N@@
