import JvmDerived
import JvmDerived.Pilot.@@N@@Statement
import JvmDerived.Pilot.@@N@@Code
set_option linter.unusedVariables false
set_option linter.unusedSimpArgs false
@@BLOCK:NumsL.lean.txt@@
namespace Jvm.RoadKit
open Sem ClassFile Op Lib Jvm.Stand Jvm.Free Jvm.LawKit
section New
variable {p : Program} {l : Launch} {e : Env} {R : Room} {s : State} {m : MethodId} {args : Array Value} {below : List Frame} {meth : Method} {c : Code} {T : State} {locs : List Loc} {cells slots : Nat}
theorem retI (X : Stand p l e R s m args below meth c T locs cells slots) (hx : p.tables.exec = Jvm.exec) {pc : Nat} {Ls : Array Slot} {z : Int32} {rest : List Value} (hret : meth.sig.returnType = some .int) (hd : decode c.code pc = .ok (.ireturn, 1)) {fs : List Frame}
    (hl : ∀ (f : JFrame) (acts : List Action), f.method = m → f.locked = none → f.entered = [] → (doReturn e (T.setTop f) acts (some (.int z))).1 = T.setFrames fs) : Steps p.tables e below (T.setTop (mkF m pc Ls (.int z :: rest))) (T.setFrames fs) := by
  have hm' : T.vm.method? m = some meth := X.method'
  have hn : narrow .int (.int z) = .int z := rfl
  show Steps p.tables e below (T.setTop { method := m, pc := pc, locals := Ls, stack := _ :: rest, locked := none }) _
  jvm_step X.here [X.here.top, hx, hd, hm', hret, hn]
  first | (intro acts; rw [hl _ acts rfl rfl rfl]) | rw [hl _ _ rfl rfl rfl]
  exact Steps.refl _
end New
end Jvm.RoadKit
namespace Jvm.Pilot.@@N@@
open Jvm Jvm.ClassFile Sem Op Lib Jvm.Free Jvm.Stand Jvm.LawKit Jvm.RoadKit Bundle Jvm.Pilot.@@N@@.Jvm.D
/-! own_Goes: from S the run comes to some state of which G holds: such a goal may be split in the middle of a walk -/
def own_Goes (p : Program) (e : Env) (below : List Frame) (S : State) (G : State → Prop) : Prop := ∃ t, Steps p.tables e below S t ∧ G t
theorem own_via {p : Program} {e : Env} {below : List Frame} {S S' : State} {G : State → Prop} (f : ∀ t, Steps p.tables e below S' t → Steps p.tables e below S t) (h : own_Goes p e below S' G) : own_Goes p e below S G := by
  obtain ⟨t, h1, h2⟩ := h
  exact ⟨t, f t h1, h2⟩
theorem own_end {p : Program} {e : Env} {below : List Frame} {S t : State} {G : State → Prop} (h : Steps p.tables e below S t) (g : G t) : own_Goes p e below S G := ⟨t, h, g⟩
theorem own_out {p : Program} {e : Env} {below : List Frame} {S : State} {P : State → Outcome → Prop} (h : own_Goes p e below S (fun t => ∃ o, t.status = .running ∧ Ended t below o ∧ P t o)) : ∃ t o, Steps p.tables e below S t ∧ t.status = .running ∧ Ended t below o ∧ P t o := by
  obtain ⟨t, h1, o, h2, h3, h4⟩ := h
  exact ⟨t, o, h1, h2, h3, h4⟩
theorem wd {a0 : Array Value} {Z : State} (hw : ∀ d ∈ tables_1, d.before a0 Z = true) (i : Nat) {d : Jvm.Cond} (h : tables_1[i]? = some d) : d.before a0 Z = true := hw _ (List.mem_of_getElem? h)
theorem own_old {Z : State} {n0 : Nat} {h : Heap} (O : Old Z n0 h) : n0 ≤ h.size := by rw [← O.1]; exact O.2.1
def own_Q0 (n0 : Nat) (v : Option Value) (L : List Loc) : Prop := v = some (.int (1 : Int32)) ∧ Fr n0 L
def own_G (s : State) (below : List Frame) (n0 : Nat) (t : State) : Prop := ∃ o, t.status = .running ∧ Ended t below o ∧ ∃ v L, o = .returned v ∧ own_Q0 n0 v L ∧ FrameEnd s o t L room_1.cells room_1.slots
def own_Len (Z : State) (h : Heap) (a : Addr) (ty : FieldType) (n : Int32) : Prop := ∃ k vs d, Arv Z h a k ty n vs d
theorem own_len_ext {Z : State} {h h' : Heap} {a : Addr} {ty : FieldType} {n : Int32} (F : own_Len Z h a ty n) (E : Ext h h') : own_Len Z h' a ty n := by
  obtain ⟨k, vs, d, V⟩ := F
  exact ⟨k, vs, d, V.ext E⟩
theorem own_len_other {Z : State} {h h' : Heap} {a b : Addr} {sl : Nat} {v : Value} {ty : FieldType} {n : Int32} (F : own_Len Z h b ty n) (W : Wr h h' a sl v) (q : b ≠ a) : own_Len Z h' b ty n := by
  obtain ⟨k, vs, d, V⟩ := F
  exact ⟨k, vs, d, V.other W q⟩
theorem own_len_keep {Z : State} {h h' : Heap} {a : Addr} {ws : List Addr} {ty : FieldType} {n : Int32} (F : own_Len Z h a ty n) (K : Keep h h' ws) (q : a ∉ ws) : own_Len Z h' a ty n := by
  obtain ⟨k, vs, d, V⟩ := F
  exact ⟨k, vs, d, V.keep K q⟩
theorem own_len_lt {Z : State} {h : Heap} {a : Addr} {ty : FieldType} {n : Int32} (F : own_Len Z h a ty n) : a < h.size := by
  obtain ⟨k, vs, d, V⟩ := F
  exact V.lt
theorem own_c2 (x : Int32) : x.toUInt32.toUInt16.toUInt32.toInt32.toUInt32.toUInt16.toUInt32.toInt32 = x.toUInt32.toUInt16.toUInt32.toInt32 := by rw [UInt32.toUInt32_toInt32, UInt16.toUInt16_toUInt32]
theorem own_b2 (x : Int32) : x.toInt8.toInt32.toInt8.toInt32 = x.toInt8.toInt32 := by rw [Int8.toInt8_toInt32]
section Calls
variable {p : Program} {l : Launch} {e : Env} {R : Room} {s : State} {m : MethodId} {args : Array Value} {below : List Frame} {meth : Method} {c : Code} {T : State} {locs : List Loc} {cells slots : Nat} {Z : State} {a0 : Array Value} {h : Heap} {own C : String} {index : Nat} {y : MethodName} {bytes : ByteArray} {maxL : Nat} {rm : Room} {Q : Option Value → Heap → List Loc → Prop} {a : Addr} {argsL : List Value} {g : JFrame}
/-! a call by its contract, in one step: virtual (the class's own method), a constructor, static -/
theorem own_cv {ret : Option FieldType} (X : Stand p l e R s m args below meth c T locs cells slots) (hx : p.tables.exec = Jvm.exec) (hZ : Z.Warmed39 s.vm) (hown : s.vm.findClass own = some m.cls) (w1 : (Jvm.Cond.methodLink own index y).before a0 Z = true) (w2 : (Jvm.Cond.declares y).before a0 Z = true) (w3 : (Jvm.Cond.selects C y y).before a0 Z = true) (w4 : (Jvm.Cond.instanceMethod y).before a0 Z = true) (wc : (Jvm.Cond.code y bytes maxL ret).before a0 Z = true) (wz : (Jvm.Cond.initialized y.cls).before a0 Z = true) (hy : y.cls ≠ "java/lang/invoke/MethodHandle" ∧ y.cls ≠ "java/lang/invoke/VarHandle")
    (hM : MetFree l y (head1 [Jvm.Cond.code y bytes maxL ret] rm) (fun A U => A = (.ref a :: argsL).toArray ∧ Z.Warmed39 U.vm ∧ U.heap = h) (fun _ _ _ _ _ => True) (fun _ U o U' => ∃ v L, o = .returned v ∧ Q v U'.heap L ∧ FrameEnd U o U' L rm.cells rm.slots)) (eT : T.heap = h) (E : Exa Z h a C) (hg : g.method = m) (hsize : g.locals.size = c.maxLocals) {rest : List Value} {W : Nat}
    (hlen : ∀ sig, parseMethodDescriptor y.desc = some sig → argsL.length = sig.parameters.length) (hstack : g.stack = argsL.reverse ++ .ref a :: rest) (hW : 2 * g.monitorRoom + (rest.map fun v => v.category).sum ≤ W) (hdg : decode c.code g.pc = .ok (.invokevirtual index, 3)) (r1 : rm.frames + 1 ≤ R.frames) (r2 : W + (maxL + 11) + rm.locals ≤ R.locals) (r3 : cells + rm.cells ≤ R.cells) (r4 : slots + rm.slots ≤ R.slots) :
    ∃ (v : Option Value) (T' : State) (L : List Loc), Stand p l e R s m args below meth c T' (locs ++ L) (cells + rm.cells) (slots + rm.slots) ∧ Q v T'.heap L ∧ ∀ t, Steps p.tables e below (T'.setTop { g with pc := g.pc + 3, stack := v.toList ++ rest }) t → Steps p.tables e below (T.setTop g) t := by
  obtain ⟨cq, kq, qa, -, qc⟩ := isOf hZ eT E
  obtain ⟨v, _, ⟨T', L', c', n'⟩, -, X', ⟨Lc, hQ, l1, y1, z1⟩, st⟩ := X.virtualBack hx (y := y) (z := y) hown (mvT hZ w1) (mvT hZ w2) (notFace_of_selects (args := #[]) (mvT hZ w3)) (mvT hZ w3) (mvT hZ w4) hy (backOf (W := W) hM hZ wc wz r1 r2) qa qc (g := g) hg hsize (Steps.refl _) (argsL := argsL) (rest := rest) hlen hstack hW hdg (fun _ _ => ⟨rfl, eT, r3, r4⟩)
  dsimp only [Pt.U, Pt.locs, Pt.cells, Pt.slots] at X' l1 y1 z1 st hQ
  subst l1 y1 z1
  exact ⟨v, T', Lc, X', hQ, fun t k => st.trans k⟩
theorem own_ci (X : Stand p l e R s m args below meth c T locs cells slots) (hx : p.tables.exec = Jvm.exec) (hZ : Z.Warmed39 s.vm) (hown : s.vm.findClass own = some m.cls) (w1 : (Jvm.Cond.methodLink own index y).before a0 Z = true) (w4 : (Jvm.Cond.instanceMethod y).before a0 Z = true) (wc : (Jvm.Cond.code y bytes maxL none).before a0 Z = true) (wz : (Jvm.Cond.initialized y.cls).before a0 Z = true) (hi : y.name = "<init>") (hy : y.cls ≠ "java/lang/invoke/MethodHandle" ∧ y.cls ≠ "java/lang/invoke/VarHandle")
    (hM : MetFree l y (head1 [Jvm.Cond.code y bytes maxL none] rm) (fun A U => A = (.ref a :: argsL).toArray ∧ Z.Warmed39 U.vm ∧ U.heap = h) (fun _ _ _ _ _ => True) (fun _ U o U' => ∃ v L, o = .returned v ∧ Q v U'.heap L ∧ FrameEnd U o U' L rm.cells rm.slots)) (eT : T.heap = h) (hg : g.method = m) (hsize : g.locals.size = c.maxLocals) {rest : List Value} {W : Nat}
    (hlen : ∀ sig, parseMethodDescriptor y.desc = some sig → argsL.length = sig.parameters.length) (hstack : g.stack = argsL.reverse ++ .ref a :: rest) (hW : 2 * g.monitorRoom + (rest.map fun v => v.category).sum ≤ W) (hdg : decode c.code g.pc = .ok (.invokespecial index, 3)) (r1 : rm.frames + 1 ≤ R.frames) (r2 : W + (maxL + 11) + rm.locals ≤ R.locals) (r3 : cells + rm.cells ≤ R.cells) (r4 : slots + rm.slots ≤ R.slots) :
    ∃ (v : Option Value) (T' : State) (L : List Loc), Stand p l e R s m args below meth c T' (locs ++ L) (cells + rm.cells) (slots + rm.slots) ∧ Q v T'.heap L ∧ ∀ t, Steps p.tables e below (T'.setTop { g with pc := g.pc + 3, stack := v.toList ++ rest }) t → Steps p.tables e below (T.setTop g) t := by
  obtain ⟨v, _, ⟨T', L', c', n'⟩, -, X', ⟨Lc, hQ, l1, y1, z1⟩, st⟩ := X.specialBack hx (y := y) hi hown (mvT hZ w1) (mvT hZ w4) (mvT hZ wc) hy (backOf (W := W) hM hZ wc wz r1 r2) (g := g) hg hsize (Steps.refl _) (a := a) (argsL := argsL) (rest := rest) hlen hstack hW hdg (fun _ _ => ⟨rfl, eT, r3, r4⟩)
  dsimp only [Pt.U, Pt.locs, Pt.cells, Pt.slots] at X' l1 y1 z1 st hQ
  subst l1 y1 z1
  exact ⟨v, T', Lc, X', hQ, fun t k => st.trans k⟩
theorem own_cs {ret : Option FieldType} (X : Stand p l e R s m args below meth c T locs cells slots) (hx : p.tables.exec = Jvm.exec) (hZ : Z.Warmed39 s.vm) (hown : s.vm.findClass own = some m.cls) (w1 : (Jvm.Cond.methodLink own index y).before a0 Z = true) (w4 : (Jvm.Cond.static y).before a0 Z = true) (wc : (Jvm.Cond.code y bytes maxL ret).before a0 Z = true) (wz : (Jvm.Cond.initialized y.cls).before a0 Z = true) (hy : y.cls ≠ "java/lang/invoke/MethodHandle" ∧ y.cls ≠ "java/lang/invoke/VarHandle")
    (hM : MetFree l y (head1 [Jvm.Cond.code y bytes maxL ret] rm) (fun A U => A = argsL.toArray ∧ Z.Warmed39 U.vm ∧ U.heap = h) (fun _ _ _ _ _ => True) (fun _ U o U' => ∃ v L, o = .returned v ∧ Q v U'.heap L ∧ FrameEnd U o U' L rm.cells rm.slots)) (eT : T.heap = h) (hg : g.method = m) (hsize : g.locals.size = c.maxLocals) {rest : List Value} {W : Nat}
    (hlen : ∀ sig, parseMethodDescriptor y.desc = some sig → argsL.length = sig.parameters.length) (hstack : g.stack = argsL.reverse ++ rest) (hW : 2 * g.monitorRoom + (rest.map fun v => v.category).sum ≤ W) (hdg : decode c.code g.pc = .ok (.invokestatic index, 3)) (r1 : rm.frames + 1 ≤ R.frames) (r2 : W + (maxL + 11) + rm.locals ≤ R.locals) (r3 : cells + rm.cells ≤ R.cells) (r4 : slots + rm.slots ≤ R.slots) :
    ∃ (v : Option Value) (T' : State) (L : List Loc), Stand p l e R s m args below meth c T' (locs ++ L) (cells + rm.cells) (slots + rm.slots) ∧ Q v T'.heap L ∧ ∀ t, Steps p.tables e below (T'.setTop { g with pc := g.pc + 3, stack := v.toList ++ rest }) t → Steps p.tables e below (T.setTop g) t := by
  obtain ⟨v, _, ⟨T', L', c', n'⟩, -, X', ⟨Lc, hQ, l1, y1, z1⟩, st⟩ := Jvm.LawKit.callS X hx (y := y) hown (mvT hZ w1) (mvT hZ w4) (mvT hZ wz) (mvT hZ wc) hy (backOf (W := W) hM hZ wc wz r1 r2) (g := g) hg hsize (argsL := argsL) (rest := rest) hlen hstack hW hdg (fun _ _ => ⟨rfl, eT, r3, r4⟩)
  dsimp only [Pt.U, Pt.locs, Pt.cells, Pt.slots] at X' l1 y1 z1 st hQ
  subst l1 y1 z1
  exact ⟨v, T', Lc, X', hQ, st⟩
end Calls
theorem own_eq_ref {args : Array Value} {s : State} {a b : Term} {w : Addr} (h : (Jvm.Cond.eq a b).value args s none s [] = some true) (hb : b.eval args s none [] s = some (.ref w)) : a.eval args s none [] s = some (.ref w) := by
  obtain ⟨x, y, e1, e2, k1, k2⟩ := cmp_v (Or.inl h)
  rw [hb] at e2
  cases e2
  have hx : x.isRef = true := by cases x <;> simp_all [Kin, Value.isRef]
  have q := gotT (eq_R e1 hb hx rfl) h
  rw [e1, q]
theorem own_ne_ref {args : Array Value} {s : State} {a b : Term} {u w : Addr} (h : (Jvm.Cond.not (Jvm.Cond.eq a b)).value args s none s [] = some true) (ha : a.eval args s none [] s = some (.ref u)) (hb : b.eval args s none [] s = some (.ref w)) : u ≠ w := fun q => gotF (eq_R ha hb rfl rfl) (not_v h) (by rw [q])
theorem own_nn_mask (x m : Int32) (k : Nat) (hk : k < 32) (hm : m.toBitVec.toNat = 2 ^ k - 1) : ¬ ((x &&& m) < (0 : Int32)) := by
  rw [Int32.lt_iff_toInt_lt, Jvm.Kit.i32_mask x m hk hm]
  have h := Int.emod_nonneg x.toInt (show ((2 : Int) ^ k) ≠ 0 from Int.ne_of_gt (Int.pow_pos (by decide)))
  rw [Int32.toInt_zero]
  omega
theorem own_lt_mask (x m : Int32) (k : Nat) (hk : k < 32) (hm : m.toBitVec.toNat = 2 ^ k - 1) {n : Int32} (hn : n.toInt = 2 ^ k) : (x &&& m) < n := by
  rw [Int32.lt_iff_toInt_lt, Jvm.Kit.i32_mask x m hk hm, hn]
  exact Int.emod_lt_of_pos _ (Int.pow_pos (by decide))
theorem own_nn_rem {x : Int32} (n : Int32) (h : ¬ (x < (0 : Int32))) : ¬ (x % n < (0 : Int32)) := by
  rw [Int32.lt_iff_toInt_lt, Int32.toInt_zero] at h ⊢
  rw [Int32.toInt_mod]
  have := Int.tmod_nonneg n.toInt (show 0 ≤ x.toInt by omega)
  omega
theorem own_pos {n : Int32} (h : (0 : Int32) < n) : 0 < n.toInt := by
  rw [Int32.lt_iff_toInt_lt, Int32.toInt_zero] at h
  exact h
theorem own_ne0 {n : Int32} (h : (0 : Int32) < n) : n ≠ 0 := fun q => by
  rw [q] at h
  exact absurd h (by decide)
theorem own_lt_rem {x : Int32} (n : Int32) (h : ¬ (x < (0 : Int32))) (hn : 0 < n.toInt) : x % n < n := by
  rw [Int32.lt_iff_toInt_lt] at h ⊢
  rw [Int32.toInt_zero] at h
  rw [Jvm.Kit.i32_rem_nonneg (by omega)]
  exact Int.emod_lt_of_pos _ hn
theorem own_modlo (x n : Int32) (hn : 0 < n.toInt) : 0 ≤ ((x &&& (2147483647 : Int32)) % n).toInt := by
  have a := Jvm.Kit.i32_mask x 2147483647 (k := 31) (by decide) (by decide)
  rw [Jvm.Kit.i32_rem_nonneg (by omega)]
  exact Int.emod_nonneg _ (by omega)
theorem own_modhi (x n : Int32) (hn : 0 < n.toInt) : ((x &&& (2147483647 : Int32)) % n).toInt < n.toInt := by
  have a := Jvm.Kit.i32_mask x 2147483647 (k := 31) (by decide) (by decide)
  rw [Jvm.Kit.i32_rem_nonneg (by omega)]
  exact Int.emod_lt_of_pos _ hn
theorem own_cases_13 (y : Int32) (h0 : 0 ≤ y.toInt) (h1 : y.toInt < 13) : y = (0 : Int32) ∨ y = (1 : Int32) ∨ y = (2 : Int32) ∨ y = (3 : Int32) ∨ y = (4 : Int32) ∨ y = (5 : Int32) ∨ y = (6 : Int32) ∨ y = (7 : Int32) ∨ y = (8 : Int32) ∨ y = (9 : Int32) ∨ y = (10 : Int32) ∨ y = (11 : Int32) ∨ y = (12 : Int32) := by
  have e : ∀ k : Int32, y.toInt = k.toInt → y = k := fun k q => Int32.toInt_inj.mp q
  rcases (by omega : y.toInt = 0 ∨ y.toInt = 1 ∨ y.toInt = 2 ∨ y.toInt = 3 ∨ y.toInt = 4 ∨ y.toInt = 5 ∨ y.toInt = 6 ∨ y.toInt = 7 ∨ y.toInt = 8 ∨ y.toInt = 9 ∨ y.toInt = 10 ∨ y.toInt = 11 ∨ y.toInt = 12) with q | q | q | q | q | q | q | q | q | q | q | q | q
  · exact Or.inl (e 0 (q.trans rfl))
  · exact Or.inr <| Or.inl (e 1 (q.trans rfl))
  · exact Or.inr <| Or.inr <| Or.inl (e 2 (q.trans rfl))
  · exact Or.inr <| Or.inr <| Or.inr <| Or.inl (e 3 (q.trans rfl))
  · exact Or.inr <| Or.inr <| Or.inr <| Or.inr <| Or.inl (e 4 (q.trans rfl))
  · exact Or.inr <| Or.inr <| Or.inr <| Or.inr <| Or.inr <| Or.inl (e 5 (q.trans rfl))
  · exact Or.inr <| Or.inr <| Or.inr <| Or.inr <| Or.inr <| Or.inr <| Or.inl (e 6 (q.trans rfl))
  · exact Or.inr <| Or.inr <| Or.inr <| Or.inr <| Or.inr <| Or.inr <| Or.inr <| Or.inl (e 7 (q.trans rfl))
  · exact Or.inr <| Or.inr <| Or.inr <| Or.inr <| Or.inr <| Or.inr <| Or.inr <| Or.inr <| Or.inl (e 8 (q.trans rfl))
  · exact Or.inr <| Or.inr <| Or.inr <| Or.inr <| Or.inr <| Or.inr <| Or.inr <| Or.inr <| Or.inr <| Or.inl (e 9 (q.trans rfl))
  · exact Or.inr <| Or.inr <| Or.inr <| Or.inr <| Or.inr <| Or.inr <| Or.inr <| Or.inr <| Or.inr <| Or.inr <| Or.inl (e 10 (q.trans rfl))
  · exact Or.inr <| Or.inr <| Or.inr <| Or.inr <| Or.inr <| Or.inr <| Or.inr <| Or.inr <| Or.inr <| Or.inr <| Or.inr <| Or.inl (e 11 (q.trans rfl))
  · exact Or.inr <| Or.inr <| Or.inr <| Or.inr <| Or.inr <| Or.inr <| Or.inr <| Or.inr <| Or.inr <| Or.inr <| Or.inr <| Or.inr <| (e 12 (q.trans rfl))
abbrev zs1 : String := "com/example/rondier/rondier/model/Result"
abbrev zs2 : String := "Lcom/example/rondier/rondier/model/Result;"
abbrev zs3 : String := "java/lang/Enum"
abbrev zs4 : String := "isGameOrForfeit"
abbrev zs5 : String := "FORFEIT_LOSS"
theorem own_mod_13 (x : Int32) : (x &&& (2147483647 : Int32)) % (13 : Int32) = (0 : Int32) ∨ (x &&& (2147483647 : Int32)) % (13 : Int32) = (1 : Int32) ∨ (x &&& (2147483647 : Int32)) % (13 : Int32) = (2 : Int32) ∨ (x &&& (2147483647 : Int32)) % (13 : Int32) = (3 : Int32) ∨ (x &&& (2147483647 : Int32)) % (13 : Int32) = (4 : Int32) ∨ (x &&& (2147483647 : Int32)) % (13 : Int32) = (5 : Int32) ∨ (x &&& (2147483647 : Int32)) % (13 : Int32) = (6 : Int32) ∨ (x &&& (2147483647 : Int32)) % (13 : Int32) = (7 : Int32) ∨ (x &&& (2147483647 : Int32)) % (13 : Int32) = (8 : Int32) ∨ (x &&& (2147483647 : Int32)) % (13 : Int32) = (9 : Int32) ∨ (x &&& (2147483647 : Int32)) % (13 : Int32) = (10 : Int32) ∨ (x &&& (2147483647 : Int32)) % (13 : Int32) = (11 : Int32) ∨ (x &&& (2147483647 : Int32)) % (13 : Int32) = (12 : Int32) := own_cases_13 _ (own_modlo x 13 (by decide)) (own_modhi x 13 (by decide))
theorem d1_0 : decode prog_43_method_8_code 0 = .ok (.aload_n 0, 1) := by decide +kernel
theorem d1_1 : decode prog_43_method_8_code 1 = .ok (.getfield 70, 3) := by decide +kernel
theorem d1_4 : decode prog_43_method_8_code 4 = .ok (.ifCond .ne 17, 3) := by decide +kernel
theorem d1_21 : decode prog_43_method_8_code 21 = .ok (.iconst 1, 1) := by decide +kernel
theorem d1_22 : decode prog_43_method_8_code 22 = .ok (.goto 4, 3) := by decide +kernel
theorem d1_26 : decode prog_43_method_8_code 26 = .ok (.ireturn, 1) := by decide +kernel
theorem ef_1 (m : MethodId) (x0 : Addr) : entryFrame m #[(.ref x0)] 1 = mkF m 0 #[rv x0] [] := by first | (simp [entryFrame, mkF, argsToLocals, Value.category]; done) | rfl
theorem pn_1 : plainName "com/example/rondier/rondier/model/Result" = true := by first | (simp [plainName, overriddenIn]; done) | decide +kernel
def Q1 (Z : State) (w65 : Addr) (h0 : Heap) (n0 : Nat) (v : Option Value) (h : Heap) (L : List Loc) : Prop := v = some (.int (1 : Int32)) ∧ Fr n0 L ∧ h = h0
set_option maxRecDepth 65536 in
set_option maxHeartbeats 40000000 in
theorem rm1 (l : Launch) (Z : State) (a0 : Array Value) (hw : ∀ d ∈ tables_1, d.before a0 Z = true) (ws : List Jvm.Cond) (w65 : Addr) (h0 : Heap) (n0 : Nat) (O0 : Old Z n0 h0) (SF_w65_game : Fld Z Z.heap w65 zs1 "game" "Z" (.int (1 : Int32))) :
    MetFree l (⟨zs1, zs4, "()Z"⟩ : MethodName) (head1 (Jvm.Cond.code (⟨zs1, zs4, "()Z"⟩ : MethodName) prog_43_method_8_code 1 (some .boolean) :: ws) ({ frames := 0, cells := 0, slots := 0, locals := 0 } : Room)) (fun a U => a = #[(.ref w65)] ∧ Z.Warmed39 U.vm ∧ U.heap = h0) (fun _ _ _ _ _ => True) (fun _ U o U' => ∃ v L, o = .returned v ∧ Q1 Z w65 h0 n0 v U'.heap L ∧ FrameEnd U o U' L ({ frames := 0, cells := 0, slots := 0, locals := 0 } : Room).cells ({ frames := 0, cells := 0, slots := 0, locals := 0 } : Room).slots) := by
  refine MetFree.of_bodySF (plainFor_of_name pn_1) hisR ?_
  intro p e s m args below meth c s₁ Bd hml0 hP hK
  obtain ⟨rfl, hZ, hh⟩ := hP
  have hx := Bd.exec
  have hby := Bd.bytes
  have hml : c.maxLocals = 1 := hml0
  have hown : s.vm.findClass zs1 = some m.cls := findClass_of_methodNamed Bd.named
  have hnm := (name_of_methodNamed Bd.named Bd.method).1
  have X0 : Stand p l e ({ frames := 0, cells := 0, slots := 0, locals := 0 } : Room) s m #[(.ref w65)] below meth c s₁ [] 0 0 := Stand.of_body Bd
  have e0 : s₁.heap = h0 := by rw [← hh, Bd.state]; rfl
  have N0 := Fr.nil n0
  refine own_out ?_
  refine own_via (fun t k => castTop (ef_1 m w65) (XS.aloadN X0.here hx rfl (hb hby d1_0) rfl rfl k)) ?_
  obtain ⟨T191, X191, e191, st191⟩ := getF X0 hx hZ hown (host := "") (Or.inl (wd hw 36 rfl)) Via.refl e0 (SF_w65_game.ext O0.2) (g := (mkF m 1 #[rv w65] [(.ref w65)])) rfl rfl (hb hby d1_1)
  refine own_via (fun t k => st191 t (XS.ifYes X191.here hx rfl (pc0 := 4) (pc' := 21) rfl (hb hby d1_4) rfl ((if0 _ _).trans (feq (by decide : ¬ ((1 : Int32) = (0 : Int32)))).2) (by decide) (by decide) (XS.iconst X191.here hx rfl (hb hby d1_21) (XS.goto X191.here hx rfl (pc0 := 22) (pc' := 26) rfl (hb hby d1_22) (by decide) (by decide) k)))) ?_
  show own_Goes p e below (T191.setTop (mkF m 26 #[rv w65] [(.int (1 : Int32))])) _
  obtain ⟨fs, hr, hrun, hended, hW, hsame⟩ := X191.leave (v := some (.int (1 : Int32))) (fun h => by rw [Bd.returns] at h; cases h)
  refine own_end (t := T191.setFrames fs) ?_ ⟨_, hrun, hended, _, _, rfl, ?_, ⟨_, rfl⟩, hW, hsame.mono (by decide) (by decide)⟩
  · exact retN X191 hx (t := .boolean) Bd.returns (by simp) (hb hby d1_26) hr
  · show Q1 Z w65 h0 n0 _ T191.heap _
    rw [e191]
    exact ⟨rfl, N0, rfl⟩
theorem pd_1 : parseMethodDescriptor "()Z" = some ⟨[], some .boolean⟩ := by decide +kernel
def Q2 (Z : State) (w67 : Addr) (h0 : Heap) (n0 : Nat) (v : Option Value) (h : Heap) (L : List Loc) : Prop := v = some (.int (1 : Int32)) ∧ Fr n0 L ∧ h = h0
set_option maxRecDepth 65536 in
set_option maxHeartbeats 40000000 in
theorem rm2 (l : Launch) (Z : State) (a0 : Array Value) (hw : ∀ d ∈ tables_1, d.before a0 Z = true) (ws : List Jvm.Cond) (w67 : Addr) (h0 : Heap) (n0 : Nat) (O0 : Old Z n0 h0) (SF_w67_game : Fld Z Z.heap w67 zs1 "game" "Z" (.int (1 : Int32))) :
    MetFree l (⟨zs1, zs4, "()Z"⟩ : MethodName) (head1 (Jvm.Cond.code (⟨zs1, zs4, "()Z"⟩ : MethodName) prog_43_method_8_code 1 (some .boolean) :: ws) ({ frames := 0, cells := 0, slots := 0, locals := 0 } : Room)) (fun a U => a = #[(.ref w67)] ∧ Z.Warmed39 U.vm ∧ U.heap = h0) (fun _ _ _ _ _ => True) (fun _ U o U' => ∃ v L, o = .returned v ∧ Q2 Z w67 h0 n0 v U'.heap L ∧ FrameEnd U o U' L ({ frames := 0, cells := 0, slots := 0, locals := 0 } : Room).cells ({ frames := 0, cells := 0, slots := 0, locals := 0 } : Room).slots) := by
  refine MetFree.of_bodySF (plainFor_of_name pn_1) hisR ?_
  intro p e s m args below meth c s₁ Bd hml0 hP hK
  obtain ⟨rfl, hZ, hh⟩ := hP
  have hx := Bd.exec
  have hby := Bd.bytes
  have hml : c.maxLocals = 1 := hml0
  have hown : s.vm.findClass zs1 = some m.cls := findClass_of_methodNamed Bd.named
  have hnm := (name_of_methodNamed Bd.named Bd.method).1
  have X0 : Stand p l e ({ frames := 0, cells := 0, slots := 0, locals := 0 } : Room) s m #[(.ref w67)] below meth c s₁ [] 0 0 := Stand.of_body Bd
  have e0 : s₁.heap = h0 := by rw [← hh, Bd.state]; rfl
  have N0 := Fr.nil n0
  refine own_out ?_
  refine own_via (fun t k => castTop (ef_1 m w67) (XS.aloadN X0.here hx rfl (hb hby d1_0) rfl rfl k)) ?_
  obtain ⟨T204, X204, e204, st204⟩ := getF X0 hx hZ hown (host := "") (Or.inl (wd hw 36 rfl)) Via.refl e0 (SF_w67_game.ext O0.2) (g := (mkF m 1 #[rv w67] [(.ref w67)])) rfl rfl (hb hby d1_1)
  refine own_via (fun t k => st204 t (XS.ifYes X204.here hx rfl (pc0 := 4) (pc' := 21) rfl (hb hby d1_4) rfl ((if0 _ _).trans (feq (by decide : ¬ ((1 : Int32) = (0 : Int32)))).2) (by decide) (by decide) (XS.iconst X204.here hx rfl (hb hby d1_21) (XS.goto X204.here hx rfl (pc0 := 22) (pc' := 26) rfl (hb hby d1_22) (by decide) (by decide) k)))) ?_
  show own_Goes p e below (T204.setTop (mkF m 26 #[rv w67] [(.int (1 : Int32))])) _
  obtain ⟨fs, hr, hrun, hended, hW, hsame⟩ := X204.leave (v := some (.int (1 : Int32))) (fun h => by rw [Bd.returns] at h; cases h)
  refine own_end (t := T204.setFrames fs) ?_ ⟨_, hrun, hended, _, _, rfl, ?_, ⟨_, rfl⟩, hW, hsame.mono (by decide) (by decide)⟩
  · exact retN X204 hx (t := .boolean) Bd.returns (by simp) (hb hby d1_26) hr
  · show Q2 Z w67 h0 n0 _ T204.heap _
    rw [e204]
    exact ⟨rfl, N0, rfl⟩
def Q3 (Z : State) (w69 : Addr) (h0 : Heap) (n0 : Nat) (v : Option Value) (h : Heap) (L : List Loc) : Prop := v = some (.int (1 : Int32)) ∧ Fr n0 L ∧ h = h0
set_option maxRecDepth 65536 in
set_option maxHeartbeats 40000000 in
theorem rm3 (l : Launch) (Z : State) (a0 : Array Value) (hw : ∀ d ∈ tables_1, d.before a0 Z = true) (ws : List Jvm.Cond) (w69 : Addr) (h0 : Heap) (n0 : Nat) (O0 : Old Z n0 h0) (SF_w69_game : Fld Z Z.heap w69 zs1 "game" "Z" (.int (1 : Int32))) :
    MetFree l (⟨zs1, zs4, "()Z"⟩ : MethodName) (head1 (Jvm.Cond.code (⟨zs1, zs4, "()Z"⟩ : MethodName) prog_43_method_8_code 1 (some .boolean) :: ws) ({ frames := 0, cells := 0, slots := 0, locals := 0 } : Room)) (fun a U => a = #[(.ref w69)] ∧ Z.Warmed39 U.vm ∧ U.heap = h0) (fun _ _ _ _ _ => True) (fun _ U o U' => ∃ v L, o = .returned v ∧ Q3 Z w69 h0 n0 v U'.heap L ∧ FrameEnd U o U' L ({ frames := 0, cells := 0, slots := 0, locals := 0 } : Room).cells ({ frames := 0, cells := 0, slots := 0, locals := 0 } : Room).slots) := by
  refine MetFree.of_bodySF (plainFor_of_name pn_1) hisR ?_
  intro p e s m args below meth c s₁ Bd hml0 hP hK
  obtain ⟨rfl, hZ, hh⟩ := hP
  have hx := Bd.exec
  have hby := Bd.bytes
  have hml : c.maxLocals = 1 := hml0
  have hown : s.vm.findClass zs1 = some m.cls := findClass_of_methodNamed Bd.named
  have hnm := (name_of_methodNamed Bd.named Bd.method).1
  have X0 : Stand p l e ({ frames := 0, cells := 0, slots := 0, locals := 0 } : Room) s m #[(.ref w69)] below meth c s₁ [] 0 0 := Stand.of_body Bd
  have e0 : s₁.heap = h0 := by rw [← hh, Bd.state]; rfl
  have N0 := Fr.nil n0
  refine own_out ?_
  refine own_via (fun t k => castTop (ef_1 m w69) (XS.aloadN X0.here hx rfl (hb hby d1_0) rfl rfl k)) ?_
  obtain ⟨T217, X217, e217, st217⟩ := getF X0 hx hZ hown (host := "") (Or.inl (wd hw 36 rfl)) Via.refl e0 (SF_w69_game.ext O0.2) (g := (mkF m 1 #[rv w69] [(.ref w69)])) rfl rfl (hb hby d1_1)
  refine own_via (fun t k => st217 t (XS.ifYes X217.here hx rfl (pc0 := 4) (pc' := 21) rfl (hb hby d1_4) rfl ((if0 _ _).trans (feq (by decide : ¬ ((1 : Int32) = (0 : Int32)))).2) (by decide) (by decide) (XS.iconst X217.here hx rfl (hb hby d1_21) (XS.goto X217.here hx rfl (pc0 := 22) (pc' := 26) rfl (hb hby d1_22) (by decide) (by decide) k)))) ?_
  show own_Goes p e below (T217.setTop (mkF m 26 #[rv w69] [(.int (1 : Int32))])) _
  obtain ⟨fs, hr, hrun, hended, hW, hsame⟩ := X217.leave (v := some (.int (1 : Int32))) (fun h => by rw [Bd.returns] at h; cases h)
  refine own_end (t := T217.setFrames fs) ?_ ⟨_, hrun, hended, _, _, rfl, ?_, ⟨_, rfl⟩, hW, hsame.mono (by decide) (by decide)⟩
  · exact retN X217 hx (t := .boolean) Bd.returns (by simp) (hb hby d1_26) hr
  · show Q3 Z w69 h0 n0 _ T217.heap _
    rw [e217]
    exact ⟨rfl, N0, rfl⟩
def Q4 (Z : State) (w71 : Addr) (h0 : Heap) (n0 : Nat) (v : Option Value) (h : Heap) (L : List Loc) : Prop := v = some (.int (1 : Int32)) ∧ Fr n0 L ∧ h = h0
set_option maxRecDepth 65536 in
set_option maxHeartbeats 40000000 in
theorem rm4 (l : Launch) (Z : State) (a0 : Array Value) (hw : ∀ d ∈ tables_1, d.before a0 Z = true) (ws : List Jvm.Cond) (w71 : Addr) (h0 : Heap) (n0 : Nat) (O0 : Old Z n0 h0) (SF_w71_game : Fld Z Z.heap w71 zs1 "game" "Z" (.int (1 : Int32))) :
    MetFree l (⟨zs1, zs4, "()Z"⟩ : MethodName) (head1 (Jvm.Cond.code (⟨zs1, zs4, "()Z"⟩ : MethodName) prog_43_method_8_code 1 (some .boolean) :: ws) ({ frames := 0, cells := 0, slots := 0, locals := 0 } : Room)) (fun a U => a = #[(.ref w71)] ∧ Z.Warmed39 U.vm ∧ U.heap = h0) (fun _ _ _ _ _ => True) (fun _ U o U' => ∃ v L, o = .returned v ∧ Q4 Z w71 h0 n0 v U'.heap L ∧ FrameEnd U o U' L ({ frames := 0, cells := 0, slots := 0, locals := 0 } : Room).cells ({ frames := 0, cells := 0, slots := 0, locals := 0 } : Room).slots) := by
  refine MetFree.of_bodySF (plainFor_of_name pn_1) hisR ?_
  intro p e s m args below meth c s₁ Bd hml0 hP hK
  obtain ⟨rfl, hZ, hh⟩ := hP
  have hx := Bd.exec
  have hby := Bd.bytes
  have hml : c.maxLocals = 1 := hml0
  have hown : s.vm.findClass zs1 = some m.cls := findClass_of_methodNamed Bd.named
  have hnm := (name_of_methodNamed Bd.named Bd.method).1
  have X0 : Stand p l e ({ frames := 0, cells := 0, slots := 0, locals := 0 } : Room) s m #[(.ref w71)] below meth c s₁ [] 0 0 := Stand.of_body Bd
  have e0 : s₁.heap = h0 := by rw [← hh, Bd.state]; rfl
  have N0 := Fr.nil n0
  refine own_out ?_
  refine own_via (fun t k => castTop (ef_1 m w71) (XS.aloadN X0.here hx rfl (hb hby d1_0) rfl rfl k)) ?_
  obtain ⟨T230, X230, e230, st230⟩ := getF X0 hx hZ hown (host := "") (Or.inl (wd hw 36 rfl)) Via.refl e0 (SF_w71_game.ext O0.2) (g := (mkF m 1 #[rv w71] [(.ref w71)])) rfl rfl (hb hby d1_1)
  refine own_via (fun t k => st230 t (XS.ifYes X230.here hx rfl (pc0 := 4) (pc' := 21) rfl (hb hby d1_4) rfl ((if0 _ _).trans (feq (by decide : ¬ ((1 : Int32) = (0 : Int32)))).2) (by decide) (by decide) (XS.iconst X230.here hx rfl (hb hby d1_21) (XS.goto X230.here hx rfl (pc0 := 22) (pc' := 26) rfl (hb hby d1_22) (by decide) (by decide) k)))) ?_
  show own_Goes p e below (T230.setTop (mkF m 26 #[rv w71] [(.int (1 : Int32))])) _
  obtain ⟨fs, hr, hrun, hended, hW, hsame⟩ := X230.leave (v := some (.int (1 : Int32))) (fun h => by rw [Bd.returns] at h; cases h)
  refine own_end (t := T230.setFrames fs) ?_ ⟨_, hrun, hended, _, _, rfl, ?_, ⟨_, rfl⟩, hW, hsame.mono (by decide) (by decide)⟩
  · exact retN X230 hx (t := .boolean) Bd.returns (by simp) (hb hby d1_26) hr
  · show Q4 Z w71 h0 n0 _ T230.heap _
    rw [e230]
    exact ⟨rfl, N0, rfl⟩
def Q5 (Z : State) (w73 : Addr) (h0 : Heap) (n0 : Nat) (v : Option Value) (h : Heap) (L : List Loc) : Prop := v = some (.int (1 : Int32)) ∧ Fr n0 L ∧ h = h0
set_option maxRecDepth 65536 in
set_option maxHeartbeats 40000000 in
theorem rm5 (l : Launch) (Z : State) (a0 : Array Value) (hw : ∀ d ∈ tables_1, d.before a0 Z = true) (ws : List Jvm.Cond) (w73 : Addr) (h0 : Heap) (n0 : Nat) (O0 : Old Z n0 h0) (SF_w73_game : Fld Z Z.heap w73 zs1 "game" "Z" (.int (1 : Int32))) :
    MetFree l (⟨zs1, zs4, "()Z"⟩ : MethodName) (head1 (Jvm.Cond.code (⟨zs1, zs4, "()Z"⟩ : MethodName) prog_43_method_8_code 1 (some .boolean) :: ws) ({ frames := 0, cells := 0, slots := 0, locals := 0 } : Room)) (fun a U => a = #[(.ref w73)] ∧ Z.Warmed39 U.vm ∧ U.heap = h0) (fun _ _ _ _ _ => True) (fun _ U o U' => ∃ v L, o = .returned v ∧ Q5 Z w73 h0 n0 v U'.heap L ∧ FrameEnd U o U' L ({ frames := 0, cells := 0, slots := 0, locals := 0 } : Room).cells ({ frames := 0, cells := 0, slots := 0, locals := 0 } : Room).slots) := by
  refine MetFree.of_bodySF (plainFor_of_name pn_1) hisR ?_
  intro p e s m args below meth c s₁ Bd hml0 hP hK
  obtain ⟨rfl, hZ, hh⟩ := hP
  have hx := Bd.exec
  have hby := Bd.bytes
  have hml : c.maxLocals = 1 := hml0
  have hown : s.vm.findClass zs1 = some m.cls := findClass_of_methodNamed Bd.named
  have hnm := (name_of_methodNamed Bd.named Bd.method).1
  have X0 : Stand p l e ({ frames := 0, cells := 0, slots := 0, locals := 0 } : Room) s m #[(.ref w73)] below meth c s₁ [] 0 0 := Stand.of_body Bd
  have e0 : s₁.heap = h0 := by rw [← hh, Bd.state]; rfl
  have N0 := Fr.nil n0
  refine own_out ?_
  refine own_via (fun t k => castTop (ef_1 m w73) (XS.aloadN X0.here hx rfl (hb hby d1_0) rfl rfl k)) ?_
  obtain ⟨T243, X243, e243, st243⟩ := getF X0 hx hZ hown (host := "") (Or.inl (wd hw 36 rfl)) Via.refl e0 (SF_w73_game.ext O0.2) (g := (mkF m 1 #[rv w73] [(.ref w73)])) rfl rfl (hb hby d1_1)
  refine own_via (fun t k => st243 t (XS.ifYes X243.here hx rfl (pc0 := 4) (pc' := 21) rfl (hb hby d1_4) rfl ((if0 _ _).trans (feq (by decide : ¬ ((1 : Int32) = (0 : Int32)))).2) (by decide) (by decide) (XS.iconst X243.here hx rfl (hb hby d1_21) (XS.goto X243.here hx rfl (pc0 := 22) (pc' := 26) rfl (hb hby d1_22) (by decide) (by decide) k)))) ?_
  show own_Goes p e below (T243.setTop (mkF m 26 #[rv w73] [(.int (1 : Int32))])) _
  obtain ⟨fs, hr, hrun, hended, hW, hsame⟩ := X243.leave (v := some (.int (1 : Int32))) (fun h => by rw [Bd.returns] at h; cases h)
  refine own_end (t := T243.setFrames fs) ?_ ⟨_, hrun, hended, _, _, rfl, ?_, ⟨_, rfl⟩, hW, hsame.mono (by decide) (by decide)⟩
  · exact retN X243 hx (t := .boolean) Bd.returns (by simp) (hb hby d1_26) hr
  · show Q5 Z w73 h0 n0 _ T243.heap _
    rw [e243]
    exact ⟨rfl, N0, rfl⟩
def Q6 (Z : State) (w75 : Addr) (h0 : Heap) (n0 : Nat) (v : Option Value) (h : Heap) (L : List Loc) : Prop := v = some (.int (1 : Int32)) ∧ Fr n0 L ∧ h = h0
set_option maxRecDepth 65536 in
set_option maxHeartbeats 40000000 in
theorem rm6 (l : Launch) (Z : State) (a0 : Array Value) (hw : ∀ d ∈ tables_1, d.before a0 Z = true) (ws : List Jvm.Cond) (w75 : Addr) (h0 : Heap) (n0 : Nat) (O0 : Old Z n0 h0) (SF_w75_game : Fld Z Z.heap w75 zs1 "game" "Z" (.int (1 : Int32))) :
    MetFree l (⟨zs1, zs4, "()Z"⟩ : MethodName) (head1 (Jvm.Cond.code (⟨zs1, zs4, "()Z"⟩ : MethodName) prog_43_method_8_code 1 (some .boolean) :: ws) ({ frames := 0, cells := 0, slots := 0, locals := 0 } : Room)) (fun a U => a = #[(.ref w75)] ∧ Z.Warmed39 U.vm ∧ U.heap = h0) (fun _ _ _ _ _ => True) (fun _ U o U' => ∃ v L, o = .returned v ∧ Q6 Z w75 h0 n0 v U'.heap L ∧ FrameEnd U o U' L ({ frames := 0, cells := 0, slots := 0, locals := 0 } : Room).cells ({ frames := 0, cells := 0, slots := 0, locals := 0 } : Room).slots) := by
  refine MetFree.of_bodySF (plainFor_of_name pn_1) hisR ?_
  intro p e s m args below meth c s₁ Bd hml0 hP hK
  obtain ⟨rfl, hZ, hh⟩ := hP
  have hx := Bd.exec
  have hby := Bd.bytes
  have hml : c.maxLocals = 1 := hml0
  have hown : s.vm.findClass zs1 = some m.cls := findClass_of_methodNamed Bd.named
  have hnm := (name_of_methodNamed Bd.named Bd.method).1
  have X0 : Stand p l e ({ frames := 0, cells := 0, slots := 0, locals := 0 } : Room) s m #[(.ref w75)] below meth c s₁ [] 0 0 := Stand.of_body Bd
  have e0 : s₁.heap = h0 := by rw [← hh, Bd.state]; rfl
  have N0 := Fr.nil n0
  refine own_out ?_
  refine own_via (fun t k => castTop (ef_1 m w75) (XS.aloadN X0.here hx rfl (hb hby d1_0) rfl rfl k)) ?_
  obtain ⟨T256, X256, e256, st256⟩ := getF X0 hx hZ hown (host := "") (Or.inl (wd hw 36 rfl)) Via.refl e0 (SF_w75_game.ext O0.2) (g := (mkF m 1 #[rv w75] [(.ref w75)])) rfl rfl (hb hby d1_1)
  refine own_via (fun t k => st256 t (XS.ifYes X256.here hx rfl (pc0 := 4) (pc' := 21) rfl (hb hby d1_4) rfl ((if0 _ _).trans (feq (by decide : ¬ ((1 : Int32) = (0 : Int32)))).2) (by decide) (by decide) (XS.iconst X256.here hx rfl (hb hby d1_21) (XS.goto X256.here hx rfl (pc0 := 22) (pc' := 26) rfl (hb hby d1_22) (by decide) (by decide) k)))) ?_
  show own_Goes p e below (T256.setTop (mkF m 26 #[rv w75] [(.int (1 : Int32))])) _
  obtain ⟨fs, hr, hrun, hended, hW, hsame⟩ := X256.leave (v := some (.int (1 : Int32))) (fun h => by rw [Bd.returns] at h; cases h)
  refine own_end (t := T256.setFrames fs) ?_ ⟨_, hrun, hended, _, _, rfl, ?_, ⟨_, rfl⟩, hW, hsame.mono (by decide) (by decide)⟩
  · exact retN X256 hx (t := .boolean) Bd.returns (by simp) (hb hby d1_26) hr
  · show Q6 Z w75 h0 n0 _ T256.heap _
    rw [e256]
    exact ⟨rfl, N0, rfl⟩
theorem d1_7 : decode prog_43_method_8_code 7 = .ok (.aload_n 0, 1) := by decide +kernel
theorem d1_8 : decode prog_43_method_8_code 8 = .ok (.getstatic 22, 3) := by decide +kernel
theorem d1_11 : decode prog_43_method_8_code 11 = .ok (.if_acmp .eq 10, 3) := by decide +kernel
def Q7 (Z : State) (w77 : Addr) (h0 : Heap) (n0 : Nat) (v : Option Value) (h : Heap) (L : List Loc) : Prop := v = some (.int (1 : Int32)) ∧ Fr n0 L ∧ h = h0
set_option maxRecDepth 65536 in
set_option maxHeartbeats 40000000 in
theorem rm7 (l : Launch) (Z : State) (a0 : Array Value) (hw : ∀ d ∈ tables_1, d.before a0 Z = true) (ws : List Jvm.Cond) (w77 : Addr) (h0 : Heap) (n0 : Nat) (O0 : Old Z n0 h0) (SF_w77_game : Fld Z Z.heap w77 zs1 "game" "Z" (.int (0 : Int32))) (S_Result_FORFEIT_WIN : Sta Z Z.heap zs1 "FORFEIT_WIN" zs2 (.ref w77)) :
    MetFree l (⟨zs1, zs4, "()Z"⟩ : MethodName) (head1 (Jvm.Cond.code (⟨zs1, zs4, "()Z"⟩ : MethodName) prog_43_method_8_code 1 (some .boolean) :: ws) ({ frames := 0, cells := 0, slots := 0, locals := 0 } : Room)) (fun a U => a = #[(.ref w77)] ∧ Z.Warmed39 U.vm ∧ U.heap = h0) (fun _ _ _ _ _ => True) (fun _ U o U' => ∃ v L, o = .returned v ∧ Q7 Z w77 h0 n0 v U'.heap L ∧ FrameEnd U o U' L ({ frames := 0, cells := 0, slots := 0, locals := 0 } : Room).cells ({ frames := 0, cells := 0, slots := 0, locals := 0 } : Room).slots) := by
  refine MetFree.of_bodySF (plainFor_of_name pn_1) hisR ?_
  intro p e s m args below meth c s₁ Bd hml0 hP hK
  obtain ⟨rfl, hZ, hh⟩ := hP
  have hx := Bd.exec
  have hby := Bd.bytes
  have hml : c.maxLocals = 1 := hml0
  have hown : s.vm.findClass zs1 = some m.cls := findClass_of_methodNamed Bd.named
  have hnm := (name_of_methodNamed Bd.named Bd.method).1
  have X0 : Stand p l e ({ frames := 0, cells := 0, slots := 0, locals := 0 } : Room) s m #[(.ref w77)] below meth c s₁ [] 0 0 := Stand.of_body Bd
  have e0 : s₁.heap = h0 := by rw [← hh, Bd.state]; rfl
  have N0 := Fr.nil n0
  refine own_out ?_
  refine own_via (fun t k => castTop (ef_1 m w77) (XS.aloadN X0.here hx rfl (hb hby d1_0) rfl rfl k)) ?_
  obtain ⟨T269, X269, e269, st269⟩ := getF X0 hx hZ hown (host := "") (Or.inl (wd hw 36 rfl)) Via.refl e0 (SF_w77_game.ext O0.2) (g := (mkF m 1 #[rv w77] [(.ref w77)])) rfl rfl (hb hby d1_1)
  refine own_via (fun t k => st269 t (XS.ifNo X269.here hx rfl (hb hby d1_4) rfl ((if0 _ _).trans (teq (by decide : (0 : Int32) = (0 : Int32))).2) (XS.aloadN X269.here hx rfl (hb hby d1_7) rfl rfl k))) ?_
  show own_Goes p e below (T269.setTop (mkF m 8 #[rv w77] [(.ref w77)])) _
  obtain ⟨T270, X270, e270, st270⟩ := getS2 X269 hx hZ hown (host := "") (Or.inl (wd hw 38 rfl)) Via.refl e269 (S_Result_FORFEIT_WIN.ext O0.2) (g := (mkF m 8 #[rv w77] [(.ref w77)])) rfl (hb hby d1_8)
  refine own_via (fun t k => st270 t (Jvm.RoadKit.acmp (g := (mkF m 11 #[rv w77] [(.ref w77), (.ref w77)])) X270 hx rfl rfl rfl (pc0 := 11) (pc' := 21) (same := true) rfl (hb hby d1_11) rfl (decide_eq_true rfl) (by decide) (by decide) (XS.iconst X270.here hx rfl (hb hby d1_21) (XS.goto X270.here hx rfl (pc0 := 22) (pc' := 26) rfl (hb hby d1_22) (by decide) (by decide) k)))) ?_
  show own_Goes p e below (T270.setTop (mkF m 26 #[rv w77] [(.int (1 : Int32))])) _
  obtain ⟨fs, hr, hrun, hended, hW, hsame⟩ := X270.leave (v := some (.int (1 : Int32))) (fun h => by rw [Bd.returns] at h; cases h)
  refine own_end (t := T270.setFrames fs) ?_ ⟨_, hrun, hended, _, _, rfl, ?_, ⟨_, rfl⟩, hW, hsame.mono (by decide) (by decide)⟩
  · exact retN X270 hx (t := .boolean) Bd.returns (by simp) (hb hby d1_26) hr
  · show Q7 Z w77 h0 n0 _ T270.heap _
    rw [e270]
    exact ⟨rfl, N0, rfl⟩
theorem d1_14 : decode prog_43_method_8_code 14 = .ok (.aload_n 0, 1) := by decide +kernel
theorem d1_15 : decode prog_43_method_8_code 15 = .ok (.getstatic 25, 3) := by decide +kernel
theorem d1_18 : decode prog_43_method_8_code 18 = .ok (.if_acmp .ne 7, 3) := by decide +kernel
def Q8 (Z : State) (w79 : Addr) (w77 : Addr) (h0 : Heap) (n0 : Nat) (v : Option Value) (h : Heap) (L : List Loc) : Prop := v = some (.int (1 : Int32)) ∧ Fr n0 L ∧ h = h0
set_option maxRecDepth 65536 in
set_option maxHeartbeats 40000000 in
theorem rm8 (l : Launch) (Z : State) (a0 : Array Value) (hw : ∀ d ∈ tables_1, d.before a0 Z = true) (ws : List Jvm.Cond) (w79 : Addr) (w77 : Addr) (h0 : Heap) (n0 : Nat) (O0 : Old Z n0 h0) (SF_w79_game : Fld Z Z.heap w79 zs1 "game" "Z" (.int (0 : Int32))) (S_Result_FORFEIT_WIN : Sta Z Z.heap zs1 "FORFEIT_WIN" zs2 (.ref w77)) (SF_w79_ordinal : Fld Z Z.heap w79 zs3 "ordinal" "I" (.int (7 : Int32))) (SF_w77_ordinal : Fld Z Z.heap w77 zs3 "ordinal" "I" (.int (6 : Int32))) (S_Result_FORFEIT_LOSS : Sta Z Z.heap zs1 zs5 zs2 (.ref w79)) :
    MetFree l (⟨zs1, zs4, "()Z"⟩ : MethodName) (head1 (Jvm.Cond.code (⟨zs1, zs4, "()Z"⟩ : MethodName) prog_43_method_8_code 1 (some .boolean) :: ws) ({ frames := 0, cells := 0, slots := 0, locals := 0 } : Room)) (fun a U => a = #[(.ref w79)] ∧ Z.Warmed39 U.vm ∧ U.heap = h0) (fun _ _ _ _ _ => True) (fun _ U o U' => ∃ v L, o = .returned v ∧ Q8 Z w79 w77 h0 n0 v U'.heap L ∧ FrameEnd U o U' L ({ frames := 0, cells := 0, slots := 0, locals := 0 } : Room).cells ({ frames := 0, cells := 0, slots := 0, locals := 0 } : Room).slots) := by
  refine MetFree.of_bodySF (plainFor_of_name pn_1) hisR ?_
  intro p e s m args below meth c s₁ Bd hml0 hP hK
  obtain ⟨rfl, hZ, hh⟩ := hP
  have hx := Bd.exec
  have hby := Bd.bytes
  have hml : c.maxLocals = 1 := hml0
  have hown : s.vm.findClass zs1 = some m.cls := findClass_of_methodNamed Bd.named
  have hnm := (name_of_methodNamed Bd.named Bd.method).1
  have X0 : Stand p l e ({ frames := 0, cells := 0, slots := 0, locals := 0 } : Room) s m #[(.ref w79)] below meth c s₁ [] 0 0 := Stand.of_body Bd
  have e0 : s₁.heap = h0 := by rw [← hh, Bd.state]; rfl
  have N0 := Fr.nil n0
  refine own_out ?_
  refine own_via (fun t k => castTop (ef_1 m w79) (XS.aloadN X0.here hx rfl (hb hby d1_0) rfl rfl k)) ?_
  obtain ⟨T283, X283, e283, st283⟩ := getF X0 hx hZ hown (host := "") (Or.inl (wd hw 36 rfl)) Via.refl e0 (SF_w79_game.ext O0.2) (g := (mkF m 1 #[rv w79] [(.ref w79)])) rfl rfl (hb hby d1_1)
  refine own_via (fun t k => st283 t (XS.ifNo X283.here hx rfl (hb hby d1_4) rfl ((if0 _ _).trans (teq (by decide : (0 : Int32) = (0 : Int32))).2) (XS.aloadN X283.here hx rfl (hb hby d1_7) rfl rfl k))) ?_
  show own_Goes p e below (T283.setTop (mkF m 8 #[rv w79] [(.ref w79)])) _
  obtain ⟨T284, X284, e284, st284⟩ := getS2 X283 hx hZ hown (host := "") (Or.inl (wd hw 38 rfl)) Via.refl e283 (S_Result_FORFEIT_WIN.ext O0.2) (g := (mkF m 8 #[rv w79] [(.ref w79)])) rfl (hb hby d1_8)
  refine own_via (fun t k => st284 t (Jvm.RoadKit.acmp (g := (mkF m 11 #[rv w79] [(.ref w77), (.ref w79)])) X284 hx rfl rfl rfl (pc0 := 11) (pc' := 14) (same := false) rfl (hb hby d1_11) rfl (decide_eq_false fun q => (Fld.ne SF_w79_ordinal SF_w77_ordinal (by decide)) (Value.ref.inj q)) (by decide) (by decide) (XS.aloadN X284.here hx rfl (hb hby d1_14) rfl rfl k))) ?_
  show own_Goes p e below (T284.setTop (mkF m 15 #[rv w79] [(.ref w79)])) _
  obtain ⟨T285, X285, e285, st285⟩ := getS2 X284 hx hZ hown (host := "") (Or.inl (wd hw 39 rfl)) Via.refl e284 (S_Result_FORFEIT_LOSS.ext O0.2) (g := (mkF m 15 #[rv w79] [(.ref w79)])) rfl (hb hby d1_15)
  refine own_via (fun t k => st285 t (Jvm.RoadKit.acmp (g := (mkF m 18 #[rv w79] [(.ref w79), (.ref w79)])) X285 hx rfl rfl rfl (pc0 := 18) (pc' := 21) (same := true) rfl (hb hby d1_18) rfl (decide_eq_true rfl) (by decide) (by decide) (XS.iconst X285.here hx rfl (hb hby d1_21) (XS.goto X285.here hx rfl (pc0 := 22) (pc' := 26) rfl (hb hby d1_22) (by decide) (by decide) k)))) ?_
  show own_Goes p e below (T285.setTop (mkF m 26 #[rv w79] [(.int (1 : Int32))])) _
  obtain ⟨fs, hr, hrun, hended, hW, hsame⟩ := X285.leave (v := some (.int (1 : Int32))) (fun h => by rw [Bd.returns] at h; cases h)
  refine own_end (t := T285.setFrames fs) ?_ ⟨_, hrun, hended, _, _, rfl, ?_, ⟨_, rfl⟩, hW, hsame.mono (by decide) (by decide)⟩
  · exact retN X285 hx (t := .boolean) Bd.returns (by simp) (hb hby d1_26) hr
  · show Q8 Z w79 w77 h0 n0 _ T285.heap _
    rw [e285]
    exact ⟨rfl, N0, rfl⟩
theorem d1_25 : decode prog_43_method_8_code 25 = .ok (.iconst 0, 1) := by decide +kernel
def Q9 (Z : State) (w81 : Addr) (w77 : Addr) (w79 : Addr) (h0 : Heap) (n0 : Nat) (v : Option Value) (h : Heap) (L : List Loc) : Prop := v = some (.int (0 : Int32)) ∧ Fr n0 L ∧ h = h0
set_option maxRecDepth 65536 in
set_option maxHeartbeats 40000000 in
theorem rm9 (l : Launch) (Z : State) (a0 : Array Value) (hw : ∀ d ∈ tables_1, d.before a0 Z = true) (ws : List Jvm.Cond) (w81 : Addr) (w77 : Addr) (w79 : Addr) (h0 : Heap) (n0 : Nat) (O0 : Old Z n0 h0) (SF_w81_game : Fld Z Z.heap w81 zs1 "game" "Z" (.int (0 : Int32))) (S_Result_FORFEIT_WIN : Sta Z Z.heap zs1 "FORFEIT_WIN" zs2 (.ref w77)) (SF_w81_ordinal : Fld Z Z.heap w81 zs3 "ordinal" "I" (.int (8 : Int32))) (SF_w77_ordinal : Fld Z Z.heap w77 zs3 "ordinal" "I" (.int (6 : Int32))) (S_Result_FORFEIT_LOSS : Sta Z Z.heap zs1 zs5 zs2 (.ref w79)) (SF_w79_ordinal : Fld Z Z.heap w79 zs3 "ordinal" "I" (.int (7 : Int32))) :
    MetFree l (⟨zs1, zs4, "()Z"⟩ : MethodName) (head1 (Jvm.Cond.code (⟨zs1, zs4, "()Z"⟩ : MethodName) prog_43_method_8_code 1 (some .boolean) :: ws) ({ frames := 0, cells := 0, slots := 0, locals := 0 } : Room)) (fun a U => a = #[(.ref w81)] ∧ Z.Warmed39 U.vm ∧ U.heap = h0) (fun _ _ _ _ _ => True) (fun _ U o U' => ∃ v L, o = .returned v ∧ Q9 Z w81 w77 w79 h0 n0 v U'.heap L ∧ FrameEnd U o U' L ({ frames := 0, cells := 0, slots := 0, locals := 0 } : Room).cells ({ frames := 0, cells := 0, slots := 0, locals := 0 } : Room).slots) := by
  refine MetFree.of_bodySF (plainFor_of_name pn_1) hisR ?_
  intro p e s m args below meth c s₁ Bd hml0 hP hK
  obtain ⟨rfl, hZ, hh⟩ := hP
  have hx := Bd.exec
  have hby := Bd.bytes
  have hml : c.maxLocals = 1 := hml0
  have hown : s.vm.findClass zs1 = some m.cls := findClass_of_methodNamed Bd.named
  have hnm := (name_of_methodNamed Bd.named Bd.method).1
  have X0 : Stand p l e ({ frames := 0, cells := 0, slots := 0, locals := 0 } : Room) s m #[(.ref w81)] below meth c s₁ [] 0 0 := Stand.of_body Bd
  have e0 : s₁.heap = h0 := by rw [← hh, Bd.state]; rfl
  have N0 := Fr.nil n0
  refine own_out ?_
  refine own_via (fun t k => castTop (ef_1 m w81) (XS.aloadN X0.here hx rfl (hb hby d1_0) rfl rfl k)) ?_
  obtain ⟨T298, X298, e298, st298⟩ := getF X0 hx hZ hown (host := "") (Or.inl (wd hw 36 rfl)) Via.refl e0 (SF_w81_game.ext O0.2) (g := (mkF m 1 #[rv w81] [(.ref w81)])) rfl rfl (hb hby d1_1)
  refine own_via (fun t k => st298 t (XS.ifNo X298.here hx rfl (hb hby d1_4) rfl ((if0 _ _).trans (teq (by decide : (0 : Int32) = (0 : Int32))).2) (XS.aloadN X298.here hx rfl (hb hby d1_7) rfl rfl k))) ?_
  show own_Goes p e below (T298.setTop (mkF m 8 #[rv w81] [(.ref w81)])) _
  obtain ⟨T299, X299, e299, st299⟩ := getS2 X298 hx hZ hown (host := "") (Or.inl (wd hw 38 rfl)) Via.refl e298 (S_Result_FORFEIT_WIN.ext O0.2) (g := (mkF m 8 #[rv w81] [(.ref w81)])) rfl (hb hby d1_8)
  refine own_via (fun t k => st299 t (Jvm.RoadKit.acmp (g := (mkF m 11 #[rv w81] [(.ref w77), (.ref w81)])) X299 hx rfl rfl rfl (pc0 := 11) (pc' := 14) (same := false) rfl (hb hby d1_11) rfl (decide_eq_false fun q => (Fld.ne SF_w81_ordinal SF_w77_ordinal (by decide)) (Value.ref.inj q)) (by decide) (by decide) (XS.aloadN X299.here hx rfl (hb hby d1_14) rfl rfl k))) ?_
  show own_Goes p e below (T299.setTop (mkF m 15 #[rv w81] [(.ref w81)])) _
  obtain ⟨T300, X300, e300, st300⟩ := getS2 X299 hx hZ hown (host := "") (Or.inl (wd hw 39 rfl)) Via.refl e299 (S_Result_FORFEIT_LOSS.ext O0.2) (g := (mkF m 15 #[rv w81] [(.ref w81)])) rfl (hb hby d1_15)
  refine own_via (fun t k => st300 t (Jvm.RoadKit.acmp (g := (mkF m 18 #[rv w81] [(.ref w79), (.ref w81)])) X300 hx rfl rfl rfl (pc0 := 18) (pc' := 25) (same := false) rfl (hb hby d1_18) rfl (decide_eq_false fun q => (Fld.ne SF_w81_ordinal SF_w79_ordinal (by decide)) (Value.ref.inj q)) (by decide) (by decide) (XS.iconst X300.here hx rfl (hb hby d1_25) k))) ?_
  show own_Goes p e below (T300.setTop (mkF m 26 #[rv w81] [(.int (0 : Int32))])) _
  obtain ⟨fs, hr, hrun, hended, hW, hsame⟩ := X300.leave (v := some (.int (0 : Int32))) (fun h => by rw [Bd.returns] at h; cases h)
  refine own_end (t := T300.setFrames fs) ?_ ⟨_, hrun, hended, _, _, rfl, ?_, ⟨_, rfl⟩, hW, hsame.mono (by decide) (by decide)⟩
  · exact retN X300 hx (t := .boolean) Bd.returns (by simp) (hb hby d1_26) hr
  · show Q9 Z w81 w77 w79 h0 n0 _ T300.heap _
    rw [e300]
    exact ⟨rfl, N0, rfl⟩
def Q10 (Z : State) (w83 : Addr) (w77 : Addr) (w79 : Addr) (h0 : Heap) (n0 : Nat) (v : Option Value) (h : Heap) (L : List Loc) : Prop := v = some (.int (0 : Int32)) ∧ Fr n0 L ∧ h = h0
set_option maxRecDepth 65536 in
set_option maxHeartbeats 40000000 in
theorem rm10 (l : Launch) (Z : State) (a0 : Array Value) (hw : ∀ d ∈ tables_1, d.before a0 Z = true) (ws : List Jvm.Cond) (w83 : Addr) (w77 : Addr) (w79 : Addr) (h0 : Heap) (n0 : Nat) (O0 : Old Z n0 h0) (SF_w83_game : Fld Z Z.heap w83 zs1 "game" "Z" (.int (0 : Int32))) (S_Result_FORFEIT_WIN : Sta Z Z.heap zs1 "FORFEIT_WIN" zs2 (.ref w77)) (SF_w83_ordinal : Fld Z Z.heap w83 zs3 "ordinal" "I" (.int (9 : Int32))) (SF_w77_ordinal : Fld Z Z.heap w77 zs3 "ordinal" "I" (.int (6 : Int32))) (S_Result_FORFEIT_LOSS : Sta Z Z.heap zs1 zs5 zs2 (.ref w79)) (SF_w79_ordinal : Fld Z Z.heap w79 zs3 "ordinal" "I" (.int (7 : Int32))) :
    MetFree l (⟨zs1, zs4, "()Z"⟩ : MethodName) (head1 (Jvm.Cond.code (⟨zs1, zs4, "()Z"⟩ : MethodName) prog_43_method_8_code 1 (some .boolean) :: ws) ({ frames := 0, cells := 0, slots := 0, locals := 0 } : Room)) (fun a U => a = #[(.ref w83)] ∧ Z.Warmed39 U.vm ∧ U.heap = h0) (fun _ _ _ _ _ => True) (fun _ U o U' => ∃ v L, o = .returned v ∧ Q10 Z w83 w77 w79 h0 n0 v U'.heap L ∧ FrameEnd U o U' L ({ frames := 0, cells := 0, slots := 0, locals := 0 } : Room).cells ({ frames := 0, cells := 0, slots := 0, locals := 0 } : Room).slots) := by
  refine MetFree.of_bodySF (plainFor_of_name pn_1) hisR ?_
  intro p e s m args below meth c s₁ Bd hml0 hP hK
  obtain ⟨rfl, hZ, hh⟩ := hP
  have hx := Bd.exec
  have hby := Bd.bytes
  have hml : c.maxLocals = 1 := hml0
  have hown : s.vm.findClass zs1 = some m.cls := findClass_of_methodNamed Bd.named
  have hnm := (name_of_methodNamed Bd.named Bd.method).1
  have X0 : Stand p l e ({ frames := 0, cells := 0, slots := 0, locals := 0 } : Room) s m #[(.ref w83)] below meth c s₁ [] 0 0 := Stand.of_body Bd
  have e0 : s₁.heap = h0 := by rw [← hh, Bd.state]; rfl
  have N0 := Fr.nil n0
  refine own_out ?_
  refine own_via (fun t k => castTop (ef_1 m w83) (XS.aloadN X0.here hx rfl (hb hby d1_0) rfl rfl k)) ?_
  obtain ⟨T313, X313, e313, st313⟩ := getF X0 hx hZ hown (host := "") (Or.inl (wd hw 36 rfl)) Via.refl e0 (SF_w83_game.ext O0.2) (g := (mkF m 1 #[rv w83] [(.ref w83)])) rfl rfl (hb hby d1_1)
  refine own_via (fun t k => st313 t (XS.ifNo X313.here hx rfl (hb hby d1_4) rfl ((if0 _ _).trans (teq (by decide : (0 : Int32) = (0 : Int32))).2) (XS.aloadN X313.here hx rfl (hb hby d1_7) rfl rfl k))) ?_
  show own_Goes p e below (T313.setTop (mkF m 8 #[rv w83] [(.ref w83)])) _
  obtain ⟨T314, X314, e314, st314⟩ := getS2 X313 hx hZ hown (host := "") (Or.inl (wd hw 38 rfl)) Via.refl e313 (S_Result_FORFEIT_WIN.ext O0.2) (g := (mkF m 8 #[rv w83] [(.ref w83)])) rfl (hb hby d1_8)
  refine own_via (fun t k => st314 t (Jvm.RoadKit.acmp (g := (mkF m 11 #[rv w83] [(.ref w77), (.ref w83)])) X314 hx rfl rfl rfl (pc0 := 11) (pc' := 14) (same := false) rfl (hb hby d1_11) rfl (decide_eq_false fun q => (Fld.ne SF_w83_ordinal SF_w77_ordinal (by decide)) (Value.ref.inj q)) (by decide) (by decide) (XS.aloadN X314.here hx rfl (hb hby d1_14) rfl rfl k))) ?_
  show own_Goes p e below (T314.setTop (mkF m 15 #[rv w83] [(.ref w83)])) _
  obtain ⟨T315, X315, e315, st315⟩ := getS2 X314 hx hZ hown (host := "") (Or.inl (wd hw 39 rfl)) Via.refl e314 (S_Result_FORFEIT_LOSS.ext O0.2) (g := (mkF m 15 #[rv w83] [(.ref w83)])) rfl (hb hby d1_15)
  refine own_via (fun t k => st315 t (Jvm.RoadKit.acmp (g := (mkF m 18 #[rv w83] [(.ref w79), (.ref w83)])) X315 hx rfl rfl rfl (pc0 := 18) (pc' := 25) (same := false) rfl (hb hby d1_18) rfl (decide_eq_false fun q => (Fld.ne SF_w83_ordinal SF_w79_ordinal (by decide)) (Value.ref.inj q)) (by decide) (by decide) (XS.iconst X315.here hx rfl (hb hby d1_25) k))) ?_
  show own_Goes p e below (T315.setTop (mkF m 26 #[rv w83] [(.int (0 : Int32))])) _
  obtain ⟨fs, hr, hrun, hended, hW, hsame⟩ := X315.leave (v := some (.int (0 : Int32))) (fun h => by rw [Bd.returns] at h; cases h)
  refine own_end (t := T315.setFrames fs) ?_ ⟨_, hrun, hended, _, _, rfl, ?_, ⟨_, rfl⟩, hW, hsame.mono (by decide) (by decide)⟩
  · exact retN X315 hx (t := .boolean) Bd.returns (by simp) (hb hby d1_26) hr
  · show Q10 Z w83 w77 w79 h0 n0 _ T315.heap _
    rw [e315]
    exact ⟨rfl, N0, rfl⟩
def Q11 (Z : State) (w85 : Addr) (w77 : Addr) (w79 : Addr) (h0 : Heap) (n0 : Nat) (v : Option Value) (h : Heap) (L : List Loc) : Prop := v = some (.int (0 : Int32)) ∧ Fr n0 L ∧ h = h0
set_option maxRecDepth 65536 in
set_option maxHeartbeats 40000000 in
theorem rm11 (l : Launch) (Z : State) (a0 : Array Value) (hw : ∀ d ∈ tables_1, d.before a0 Z = true) (ws : List Jvm.Cond) (w85 : Addr) (w77 : Addr) (w79 : Addr) (h0 : Heap) (n0 : Nat) (O0 : Old Z n0 h0) (SF_w85_game : Fld Z Z.heap w85 zs1 "game" "Z" (.int (0 : Int32))) (S_Result_FORFEIT_WIN : Sta Z Z.heap zs1 "FORFEIT_WIN" zs2 (.ref w77)) (SF_w85_ordinal : Fld Z Z.heap w85 zs3 "ordinal" "I" (.int (10 : Int32))) (SF_w77_ordinal : Fld Z Z.heap w77 zs3 "ordinal" "I" (.int (6 : Int32))) (S_Result_FORFEIT_LOSS : Sta Z Z.heap zs1 zs5 zs2 (.ref w79)) (SF_w79_ordinal : Fld Z Z.heap w79 zs3 "ordinal" "I" (.int (7 : Int32))) :
    MetFree l (⟨zs1, zs4, "()Z"⟩ : MethodName) (head1 (Jvm.Cond.code (⟨zs1, zs4, "()Z"⟩ : MethodName) prog_43_method_8_code 1 (some .boolean) :: ws) ({ frames := 0, cells := 0, slots := 0, locals := 0 } : Room)) (fun a U => a = #[(.ref w85)] ∧ Z.Warmed39 U.vm ∧ U.heap = h0) (fun _ _ _ _ _ => True) (fun _ U o U' => ∃ v L, o = .returned v ∧ Q11 Z w85 w77 w79 h0 n0 v U'.heap L ∧ FrameEnd U o U' L ({ frames := 0, cells := 0, slots := 0, locals := 0 } : Room).cells ({ frames := 0, cells := 0, slots := 0, locals := 0 } : Room).slots) := by
  refine MetFree.of_bodySF (plainFor_of_name pn_1) hisR ?_
  intro p e s m args below meth c s₁ Bd hml0 hP hK
  obtain ⟨rfl, hZ, hh⟩ := hP
  have hx := Bd.exec
  have hby := Bd.bytes
  have hml : c.maxLocals = 1 := hml0
  have hown : s.vm.findClass zs1 = some m.cls := findClass_of_methodNamed Bd.named
  have hnm := (name_of_methodNamed Bd.named Bd.method).1
  have X0 : Stand p l e ({ frames := 0, cells := 0, slots := 0, locals := 0 } : Room) s m #[(.ref w85)] below meth c s₁ [] 0 0 := Stand.of_body Bd
  have e0 : s₁.heap = h0 := by rw [← hh, Bd.state]; rfl
  have N0 := Fr.nil n0
  refine own_out ?_
  refine own_via (fun t k => castTop (ef_1 m w85) (XS.aloadN X0.here hx rfl (hb hby d1_0) rfl rfl k)) ?_
  obtain ⟨T328, X328, e328, st328⟩ := getF X0 hx hZ hown (host := "") (Or.inl (wd hw 36 rfl)) Via.refl e0 (SF_w85_game.ext O0.2) (g := (mkF m 1 #[rv w85] [(.ref w85)])) rfl rfl (hb hby d1_1)
  refine own_via (fun t k => st328 t (XS.ifNo X328.here hx rfl (hb hby d1_4) rfl ((if0 _ _).trans (teq (by decide : (0 : Int32) = (0 : Int32))).2) (XS.aloadN X328.here hx rfl (hb hby d1_7) rfl rfl k))) ?_
  show own_Goes p e below (T328.setTop (mkF m 8 #[rv w85] [(.ref w85)])) _
  obtain ⟨T329, X329, e329, st329⟩ := getS2 X328 hx hZ hown (host := "") (Or.inl (wd hw 38 rfl)) Via.refl e328 (S_Result_FORFEIT_WIN.ext O0.2) (g := (mkF m 8 #[rv w85] [(.ref w85)])) rfl (hb hby d1_8)
  refine own_via (fun t k => st329 t (Jvm.RoadKit.acmp (g := (mkF m 11 #[rv w85] [(.ref w77), (.ref w85)])) X329 hx rfl rfl rfl (pc0 := 11) (pc' := 14) (same := false) rfl (hb hby d1_11) rfl (decide_eq_false fun q => (Fld.ne SF_w85_ordinal SF_w77_ordinal (by decide)) (Value.ref.inj q)) (by decide) (by decide) (XS.aloadN X329.here hx rfl (hb hby d1_14) rfl rfl k))) ?_
  show own_Goes p e below (T329.setTop (mkF m 15 #[rv w85] [(.ref w85)])) _
  obtain ⟨T330, X330, e330, st330⟩ := getS2 X329 hx hZ hown (host := "") (Or.inl (wd hw 39 rfl)) Via.refl e329 (S_Result_FORFEIT_LOSS.ext O0.2) (g := (mkF m 15 #[rv w85] [(.ref w85)])) rfl (hb hby d1_15)
  refine own_via (fun t k => st330 t (Jvm.RoadKit.acmp (g := (mkF m 18 #[rv w85] [(.ref w79), (.ref w85)])) X330 hx rfl rfl rfl (pc0 := 18) (pc' := 25) (same := false) rfl (hb hby d1_18) rfl (decide_eq_false fun q => (Fld.ne SF_w85_ordinal SF_w79_ordinal (by decide)) (Value.ref.inj q)) (by decide) (by decide) (XS.iconst X330.here hx rfl (hb hby d1_25) k))) ?_
  show own_Goes p e below (T330.setTop (mkF m 26 #[rv w85] [(.int (0 : Int32))])) _
  obtain ⟨fs, hr, hrun, hended, hW, hsame⟩ := X330.leave (v := some (.int (0 : Int32))) (fun h => by rw [Bd.returns] at h; cases h)
  refine own_end (t := T330.setFrames fs) ?_ ⟨_, hrun, hended, _, _, rfl, ?_, ⟨_, rfl⟩, hW, hsame.mono (by decide) (by decide)⟩
  · exact retN X330 hx (t := .boolean) Bd.returns (by simp) (hb hby d1_26) hr
  · show Q11 Z w85 w77 w79 h0 n0 _ T330.heap _
    rw [e330]
    exact ⟨rfl, N0, rfl⟩
def Q12 (Z : State) (w87 : Addr) (w77 : Addr) (w79 : Addr) (h0 : Heap) (n0 : Nat) (v : Option Value) (h : Heap) (L : List Loc) : Prop := v = some (.int (0 : Int32)) ∧ Fr n0 L ∧ h = h0
set_option maxRecDepth 65536 in
set_option maxHeartbeats 40000000 in
theorem rm12 (l : Launch) (Z : State) (a0 : Array Value) (hw : ∀ d ∈ tables_1, d.before a0 Z = true) (ws : List Jvm.Cond) (w87 : Addr) (w77 : Addr) (w79 : Addr) (h0 : Heap) (n0 : Nat) (O0 : Old Z n0 h0) (SF_w87_game : Fld Z Z.heap w87 zs1 "game" "Z" (.int (0 : Int32))) (S_Result_FORFEIT_WIN : Sta Z Z.heap zs1 "FORFEIT_WIN" zs2 (.ref w77)) (SF_w87_ordinal : Fld Z Z.heap w87 zs3 "ordinal" "I" (.int (11 : Int32))) (SF_w77_ordinal : Fld Z Z.heap w77 zs3 "ordinal" "I" (.int (6 : Int32))) (S_Result_FORFEIT_LOSS : Sta Z Z.heap zs1 zs5 zs2 (.ref w79)) (SF_w79_ordinal : Fld Z Z.heap w79 zs3 "ordinal" "I" (.int (7 : Int32))) :
    MetFree l (⟨zs1, zs4, "()Z"⟩ : MethodName) (head1 (Jvm.Cond.code (⟨zs1, zs4, "()Z"⟩ : MethodName) prog_43_method_8_code 1 (some .boolean) :: ws) ({ frames := 0, cells := 0, slots := 0, locals := 0 } : Room)) (fun a U => a = #[(.ref w87)] ∧ Z.Warmed39 U.vm ∧ U.heap = h0) (fun _ _ _ _ _ => True) (fun _ U o U' => ∃ v L, o = .returned v ∧ Q12 Z w87 w77 w79 h0 n0 v U'.heap L ∧ FrameEnd U o U' L ({ frames := 0, cells := 0, slots := 0, locals := 0 } : Room).cells ({ frames := 0, cells := 0, slots := 0, locals := 0 } : Room).slots) := by
  refine MetFree.of_bodySF (plainFor_of_name pn_1) hisR ?_
  intro p e s m args below meth c s₁ Bd hml0 hP hK
  obtain ⟨rfl, hZ, hh⟩ := hP
  have hx := Bd.exec
  have hby := Bd.bytes
  have hml : c.maxLocals = 1 := hml0
  have hown : s.vm.findClass zs1 = some m.cls := findClass_of_methodNamed Bd.named
  have hnm := (name_of_methodNamed Bd.named Bd.method).1
  have X0 : Stand p l e ({ frames := 0, cells := 0, slots := 0, locals := 0 } : Room) s m #[(.ref w87)] below meth c s₁ [] 0 0 := Stand.of_body Bd
  have e0 : s₁.heap = h0 := by rw [← hh, Bd.state]; rfl
  have N0 := Fr.nil n0
  refine own_out ?_
  refine own_via (fun t k => castTop (ef_1 m w87) (XS.aloadN X0.here hx rfl (hb hby d1_0) rfl rfl k)) ?_
  obtain ⟨T343, X343, e343, st343⟩ := getF X0 hx hZ hown (host := "") (Or.inl (wd hw 36 rfl)) Via.refl e0 (SF_w87_game.ext O0.2) (g := (mkF m 1 #[rv w87] [(.ref w87)])) rfl rfl (hb hby d1_1)
  refine own_via (fun t k => st343 t (XS.ifNo X343.here hx rfl (hb hby d1_4) rfl ((if0 _ _).trans (teq (by decide : (0 : Int32) = (0 : Int32))).2) (XS.aloadN X343.here hx rfl (hb hby d1_7) rfl rfl k))) ?_
  show own_Goes p e below (T343.setTop (mkF m 8 #[rv w87] [(.ref w87)])) _
  obtain ⟨T344, X344, e344, st344⟩ := getS2 X343 hx hZ hown (host := "") (Or.inl (wd hw 38 rfl)) Via.refl e343 (S_Result_FORFEIT_WIN.ext O0.2) (g := (mkF m 8 #[rv w87] [(.ref w87)])) rfl (hb hby d1_8)
  refine own_via (fun t k => st344 t (Jvm.RoadKit.acmp (g := (mkF m 11 #[rv w87] [(.ref w77), (.ref w87)])) X344 hx rfl rfl rfl (pc0 := 11) (pc' := 14) (same := false) rfl (hb hby d1_11) rfl (decide_eq_false fun q => (Fld.ne SF_w87_ordinal SF_w77_ordinal (by decide)) (Value.ref.inj q)) (by decide) (by decide) (XS.aloadN X344.here hx rfl (hb hby d1_14) rfl rfl k))) ?_
  show own_Goes p e below (T344.setTop (mkF m 15 #[rv w87] [(.ref w87)])) _
  obtain ⟨T345, X345, e345, st345⟩ := getS2 X344 hx hZ hown (host := "") (Or.inl (wd hw 39 rfl)) Via.refl e344 (S_Result_FORFEIT_LOSS.ext O0.2) (g := (mkF m 15 #[rv w87] [(.ref w87)])) rfl (hb hby d1_15)
  refine own_via (fun t k => st345 t (Jvm.RoadKit.acmp (g := (mkF m 18 #[rv w87] [(.ref w79), (.ref w87)])) X345 hx rfl rfl rfl (pc0 := 18) (pc' := 25) (same := false) rfl (hb hby d1_18) rfl (decide_eq_false fun q => (Fld.ne SF_w87_ordinal SF_w79_ordinal (by decide)) (Value.ref.inj q)) (by decide) (by decide) (XS.iconst X345.here hx rfl (hb hby d1_25) k))) ?_
  show own_Goes p e below (T345.setTop (mkF m 26 #[rv w87] [(.int (0 : Int32))])) _
  obtain ⟨fs, hr, hrun, hended, hW, hsame⟩ := X345.leave (v := some (.int (0 : Int32))) (fun h => by rw [Bd.returns] at h; cases h)
  refine own_end (t := T345.setFrames fs) ?_ ⟨_, hrun, hended, _, _, rfl, ?_, ⟨_, rfl⟩, hW, hsame.mono (by decide) (by decide)⟩
  · exact retN X345 hx (t := .boolean) Bd.returns (by simp) (hb hby d1_26) hr
  · show Q12 Z w87 w77 w79 h0 n0 _ T345.heap _
    rw [e345]
    exact ⟨rfl, N0, rfl⟩
def Q13 (Z : State) (w89 : Addr) (w77 : Addr) (w79 : Addr) (h0 : Heap) (n0 : Nat) (v : Option Value) (h : Heap) (L : List Loc) : Prop := v = some (.int (0 : Int32)) ∧ Fr n0 L ∧ h = h0
set_option maxRecDepth 65536 in
set_option maxHeartbeats 40000000 in
theorem rm13 (l : Launch) (Z : State) (a0 : Array Value) (hw : ∀ d ∈ tables_1, d.before a0 Z = true) (ws : List Jvm.Cond) (w89 : Addr) (w77 : Addr) (w79 : Addr) (h0 : Heap) (n0 : Nat) (O0 : Old Z n0 h0) (SF_w89_game : Fld Z Z.heap w89 zs1 "game" "Z" (.int (0 : Int32))) (S_Result_FORFEIT_WIN : Sta Z Z.heap zs1 "FORFEIT_WIN" zs2 (.ref w77)) (SF_w89_ordinal : Fld Z Z.heap w89 zs3 "ordinal" "I" (.int (12 : Int32))) (SF_w77_ordinal : Fld Z Z.heap w77 zs3 "ordinal" "I" (.int (6 : Int32))) (S_Result_FORFEIT_LOSS : Sta Z Z.heap zs1 zs5 zs2 (.ref w79)) (SF_w79_ordinal : Fld Z Z.heap w79 zs3 "ordinal" "I" (.int (7 : Int32))) :
    MetFree l (⟨zs1, zs4, "()Z"⟩ : MethodName) (head1 (Jvm.Cond.code (⟨zs1, zs4, "()Z"⟩ : MethodName) prog_43_method_8_code 1 (some .boolean) :: ws) ({ frames := 0, cells := 0, slots := 0, locals := 0 } : Room)) (fun a U => a = #[(.ref w89)] ∧ Z.Warmed39 U.vm ∧ U.heap = h0) (fun _ _ _ _ _ => True) (fun _ U o U' => ∃ v L, o = .returned v ∧ Q13 Z w89 w77 w79 h0 n0 v U'.heap L ∧ FrameEnd U o U' L ({ frames := 0, cells := 0, slots := 0, locals := 0 } : Room).cells ({ frames := 0, cells := 0, slots := 0, locals := 0 } : Room).slots) := by
  refine MetFree.of_bodySF (plainFor_of_name pn_1) hisR ?_
  intro p e s m args below meth c s₁ Bd hml0 hP hK
  obtain ⟨rfl, hZ, hh⟩ := hP
  have hx := Bd.exec
  have hby := Bd.bytes
  have hml : c.maxLocals = 1 := hml0
  have hown : s.vm.findClass zs1 = some m.cls := findClass_of_methodNamed Bd.named
  have hnm := (name_of_methodNamed Bd.named Bd.method).1
  have X0 : Stand p l e ({ frames := 0, cells := 0, slots := 0, locals := 0 } : Room) s m #[(.ref w89)] below meth c s₁ [] 0 0 := Stand.of_body Bd
  have e0 : s₁.heap = h0 := by rw [← hh, Bd.state]; rfl
  have N0 := Fr.nil n0
  refine own_out ?_
  refine own_via (fun t k => castTop (ef_1 m w89) (XS.aloadN X0.here hx rfl (hb hby d1_0) rfl rfl k)) ?_
  obtain ⟨T358, X358, e358, st358⟩ := getF X0 hx hZ hown (host := "") (Or.inl (wd hw 36 rfl)) Via.refl e0 (SF_w89_game.ext O0.2) (g := (mkF m 1 #[rv w89] [(.ref w89)])) rfl rfl (hb hby d1_1)
  refine own_via (fun t k => st358 t (XS.ifNo X358.here hx rfl (hb hby d1_4) rfl ((if0 _ _).trans (teq (by decide : (0 : Int32) = (0 : Int32))).2) (XS.aloadN X358.here hx rfl (hb hby d1_7) rfl rfl k))) ?_
  show own_Goes p e below (T358.setTop (mkF m 8 #[rv w89] [(.ref w89)])) _
  obtain ⟨T359, X359, e359, st359⟩ := getS2 X358 hx hZ hown (host := "") (Or.inl (wd hw 38 rfl)) Via.refl e358 (S_Result_FORFEIT_WIN.ext O0.2) (g := (mkF m 8 #[rv w89] [(.ref w89)])) rfl (hb hby d1_8)
  refine own_via (fun t k => st359 t (Jvm.RoadKit.acmp (g := (mkF m 11 #[rv w89] [(.ref w77), (.ref w89)])) X359 hx rfl rfl rfl (pc0 := 11) (pc' := 14) (same := false) rfl (hb hby d1_11) rfl (decide_eq_false fun q => (Fld.ne SF_w89_ordinal SF_w77_ordinal (by decide)) (Value.ref.inj q)) (by decide) (by decide) (XS.aloadN X359.here hx rfl (hb hby d1_14) rfl rfl k))) ?_
  show own_Goes p e below (T359.setTop (mkF m 15 #[rv w89] [(.ref w89)])) _
  obtain ⟨T360, X360, e360, st360⟩ := getS2 X359 hx hZ hown (host := "") (Or.inl (wd hw 39 rfl)) Via.refl e359 (S_Result_FORFEIT_LOSS.ext O0.2) (g := (mkF m 15 #[rv w89] [(.ref w89)])) rfl (hb hby d1_15)
  refine own_via (fun t k => st360 t (Jvm.RoadKit.acmp (g := (mkF m 18 #[rv w89] [(.ref w79), (.ref w89)])) X360 hx rfl rfl rfl (pc0 := 18) (pc' := 25) (same := false) rfl (hb hby d1_18) rfl (decide_eq_false fun q => (Fld.ne SF_w89_ordinal SF_w79_ordinal (by decide)) (Value.ref.inj q)) (by decide) (by decide) (XS.iconst X360.here hx rfl (hb hby d1_25) k))) ?_
  show own_Goes p e below (T360.setTop (mkF m 26 #[rv w89] [(.int (0 : Int32))])) _
  obtain ⟨fs, hr, hrun, hended, hW, hsame⟩ := X360.leave (v := some (.int (0 : Int32))) (fun h => by rw [Bd.returns] at h; cases h)
  refine own_end (t := T360.setFrames fs) ?_ ⟨_, hrun, hended, _, _, rfl, ?_, ⟨_, rfl⟩, hW, hsame.mono (by decide) (by decide)⟩
  · exact retN X360 hx (t := .boolean) Bd.returns (by simp) (hb hby d1_26) hr
  · show Q13 Z w89 w77 w79 h0 n0 _ T360.heap _
    rw [e360]
    exact ⟨rfl, N0, rfl⟩
theorem ef_2 (m : MethodId) (x0 : Int32) : entryFrame m #[(.int x0)] maxLocals = mkF m 0 #[iv x0, .unset, .unset, .unset] [] := by first | (simp [entryFrame, mkF, argsToLocals, Value.category, maxLocals]; done) | rfl
theorem pn_2 : plainName "com/example/rondier/rondier/model/ResultIsGameOrForfeitPinLaw" = true := by first | (simp [plainName, overriddenIn]; done) | decide +kernel
set_option maxRecDepth 65536 in
set_option maxHeartbeats 40000000 in
theorem rm0 (l : Launch) (Z : State) (a0 : Array Value) (hw : ∀ d ∈ tables_1, d.before a0 Z = true) (ws : List Jvm.Cond) (i0 : Int32) (w65 : Addr) (w67 : Addr) (w69 : Addr) (w71 : Addr) (w73 : Addr) (w75 : Addr) (w77 : Addr) (w79 : Addr) (w81 : Addr) (w83 : Addr) (w85 : Addr) (w87 : Addr) (w89 : Addr) (h0 : Heap) (n0 : Nat) (O0 : Old Z n0 h0) (S_Result_WIN : Sta Z Z.heap zs1 "WIN" zs2 (.ref w65)) (SE_w65 : Exa Z Z.heap w65 zs1) (S_Result_DRAW : Sta Z Z.heap zs1 "DRAW" zs2 (.ref w67)) (SE_w67 : Exa Z Z.heap w67 zs1) (S_Result_LOSS : Sta Z Z.heap zs1 "LOSS" zs2 (.ref w69)) (SE_w69 : Exa Z Z.heap w69 zs1) (S_Result_UNRATED_WIN : Sta Z Z.heap zs1 "UNRATED_WIN" zs2 (.ref w71)) (SE_w71 : Exa Z Z.heap w71 zs1) (S_Result_UNRATED_DRAW : Sta Z Z.heap zs1 "UNRATED_DRAW" zs2 (.ref w73)) (SE_w73 : Exa Z Z.heap w73 zs1) (S_Result_UNRATED_LOSS : Sta Z Z.heap zs1 "UNRATED_LOSS" zs2 (.ref w75)) (SE_w75 : Exa Z Z.heap w75 zs1) (S_Result_FORFEIT_WIN : Sta Z Z.heap zs1 "FORFEIT_WIN" zs2 (.ref w77)) (SE_w77 : Exa Z Z.heap w77 zs1) (S_Result_FORFEIT_LOSS : Sta Z Z.heap zs1 zs5 zs2 (.ref w79)) (SE_w79 : Exa Z Z.heap w79 zs1) (S_Result_PAIRING_ALLOCATED_BYE : Sta Z Z.heap zs1 "PAIRING_ALLOCATED_BYE" zs2 (.ref w81)) (SE_w81 : Exa Z Z.heap w81 zs1) (S_Result_FULL_POINT_BYE : Sta Z Z.heap zs1 "FULL_POINT_BYE" zs2 (.ref w83)) (SE_w83 : Exa Z Z.heap w83 zs1) (S_Result_HALF_POINT_BYE : Sta Z Z.heap zs1 "HALF_POINT_BYE" zs2 (.ref w85)) (SE_w85 : Exa Z Z.heap w85 zs1) (S_Result_ZERO_POINT_BYE : Sta Z Z.heap zs1 "ZERO_POINT_BYE" zs2 (.ref w87)) (SE_w87 : Exa Z Z.heap w87 zs1) (S_Result_NOT_PLAYED : Sta Z Z.heap zs1 "NOT_PLAYED" zs2 (.ref w89)) (SE_w89 : Exa Z Z.heap w89 zs1) (SF_w65_game : Fld Z Z.heap w65 zs1 "game" "Z" (.int (1 : Int32))) (SF_w67_game : Fld Z Z.heap w67 zs1 "game" "Z" (.int (1 : Int32))) (SF_w69_game : Fld Z Z.heap w69 zs1 "game" "Z" (.int (1 : Int32))) (SF_w71_game : Fld Z Z.heap w71 zs1 "game" "Z" (.int (1 : Int32))) (SF_w73_game : Fld Z Z.heap w73 zs1 "game" "Z" (.int (1 : Int32))) (SF_w75_game : Fld Z Z.heap w75 zs1 "game" "Z" (.int (1 : Int32))) (SF_w77_game : Fld Z Z.heap w77 zs1 "game" "Z" (.int (0 : Int32))) (SF_w79_game : Fld Z Z.heap w79 zs1 "game" "Z" (.int (0 : Int32))) (SF_w79_ordinal : Fld Z Z.heap w79 zs3 "ordinal" "I" (.int (7 : Int32))) (SF_w77_ordinal : Fld Z Z.heap w77 zs3 "ordinal" "I" (.int (6 : Int32))) (SF_w81_game : Fld Z Z.heap w81 zs1 "game" "Z" (.int (0 : Int32))) (SF_w81_ordinal : Fld Z Z.heap w81 zs3 "ordinal" "I" (.int (8 : Int32))) (SF_w83_game : Fld Z Z.heap w83 zs1 "game" "Z" (.int (0 : Int32))) (SF_w83_ordinal : Fld Z Z.heap w83 zs3 "ordinal" "I" (.int (9 : Int32))) (SF_w85_game : Fld Z Z.heap w85 zs1 "game" "Z" (.int (0 : Int32))) (SF_w85_ordinal : Fld Z Z.heap w85 zs3 "ordinal" "I" (.int (10 : Int32))) (SF_w87_game : Fld Z Z.heap w87 zs1 "game" "Z" (.int (0 : Int32))) (SF_w87_ordinal : Fld Z Z.heap w87 zs3 "ordinal" "I" (.int (11 : Int32))) (SF_w89_game : Fld Z Z.heap w89 zs1 "game" "Z" (.int (0 : Int32))) (SF_w89_ordinal : Fld Z Z.heap w89 zs3 "ordinal" "I" (.int (12 : Int32))) :
    MetFree l x (head1 (Jvm.Cond.code x code maxLocals ret :: ws) room_1) (fun a U => a = #[(.int i0)] ∧ Z.Warmed39 U.vm ∧ U.heap = h0) (fun _ _ _ _ _ => True) (fun _ U o U' => ∃ v L, o = .returned v ∧ own_Q0 n0 v L ∧ FrameEnd U o U' L room_1.cells room_1.slots) := by
  refine MetFree.of_bodySF (plainFor_of_name pn_2) hisR ?_
  intro p e s m args below meth c s₁ Bd hml0 hP hK
  obtain ⟨rfl, hZ, hh⟩ := hP
  have hx := Bd.exec
  have hby := Bd.bytes
  have hml : c.maxLocals = 4 := hml0
  have hown : s.vm.findClass "com/example/rondier/rondier/model/ResultIsGameOrForfeitPinLaw" = some m.cls := findClass_of_methodNamed Bd.named
  have hnm := (name_of_methodNamed Bd.named Bd.method).1
  have X0 : Stand p l e room_1 s m #[(.int i0)] below meth c s₁ [] 0 0 := Stand.of_body Bd
  have e0 : s₁.heap = h0 := by rw [← hh, Bd.state]; rfl
  have N0 := Fr.nil n0
  refine own_out ?_
  show own_Goes p e below _ (own_G s below n0)
  refine own_via (fun t k => castTop (ef_2 m i0) (XS.bipush X0.here hx rfl (hb hby at_0) k)) ?_
  obtain ⟨T111, h111, k111, X111, e111, E111, A111, O111, st111⟩ := newR X0 hx hZ hown (wd hw 0 rfl) (wd hw 1 rfl) e0 (g := (mkF m 2 #[iv i0, .unset, .unset, .unset] [(.int (13 : Int32))])) rfl (hb hby at_2) rfl (by decide) (cap := 13) (by decide) (by decide) (by decide) (by decide)
  obtain ⟨b112, q111⟩ : ∃ z, z = h0.size := ⟨_, rfl⟩
  rw [← q111] at A111 st111
  refine own_via (fun t k => st111 t k) ?_
  have g113 : n0 ≤ b112 := Nat.le_trans (own_old O0) (Nat.le_of_eq q111.symm)
  have B114 : h0.size ≤ b112 := Nat.le_trans (Nat.le_refl _) (Nat.le_of_eq q111.symm)
  have V115 : Arv Z h111 b112 k111 (.object zs1) (13 : Int32) [] .null := Arv.new A111 (by decide)
  show own_Goes p e below (T111.setTop (mkF m 5 #[iv i0, .unset, .unset, .unset] [(.ref b112)])) _
  refine own_via (fun t k => XS.dup X111.here hx rfl (hb hby at_5) rfl rfl (XS.iconst X111.here hx rfl (hb hby at_6) k)) ?_
  have O117 : Old Z n0 h111 := (O0.ext E111)
  obtain ⟨T116, X116, e116, st116⟩ := getS2 X111 hx hZ hown (host := "") (Or.inl (wd hw 2 rfl)) Via.refl e111 (S_Result_WIN.ext O117.2) (g := (mkF m 7 #[iv i0, .unset, .unset, .unset] [(.int (0 : Int32)), (.ref b112), (.ref b112)])) rfl (hb hby at_7)
  refine own_via (fun t k => st116 t k) ?_
  have V118 : Arv Z h111 b112 k111 (.object zs1) (13 : Int32) [.null] .null := V115.pad (pad_rep [] .null 1)
  obtain ⟨cl119, Ar119, qq119, S119, M119, H119, G119⟩ := id (V118)
  have hin119 : ¬ ((0 : Int32) < 0 ∨ cl119.slots.size ≤ ((0 : Int32)).toNatClampNeg) := inb_of S119 ⟨by decide, by decide⟩
  obtain ⟨T119, h119, X119, e119, W119, st119⟩ := stR X116 hx hZ e116 Ar119 (j := (0 : Int32)) hin119 rfl (Sto.ofV Ar119 qq119 O111 (Ins.self (SE_w65.ext O117.2))) (g := (mkF m 10 #[iv i0, .unset, .unset, .unset] [(.ref w65), (.int (0 : Int32)), (.ref b112), (.ref b112)])) rfl rfl (hb hby at_10)
  refine own_via (fun t k => st119 t k) ?_
  have V120 : Arv Z h119 b112 k111 (.object zs1) (13 : Int32) [(.ref w65)] .null := Arv.set Ar119 qq119 S119 M119 H119 G119 rfl W119 0 rfl (Nat.le_of_ble_eq_true rfl)
  have N119 := Fr.snoc X119 N0 g113
  show own_Goes p e below (T119.setTop (mkF m 11 #[iv i0, .unset, .unset, .unset] [(.ref b112)])) _
  refine own_via (fun t k => XS.dup X119.here hx rfl (hb hby at_11) rfl rfl (XS.iconst X119.here hx rfl (hb hby at_12) k)) ?_
  have O122 : Old Z n0 h119 := (O117.wr W119 g113)
  obtain ⟨T121, X121, e121, st121⟩ := getS2 X119 hx hZ hown (host := "") (Or.inl (wd hw 6 rfl)) Via.refl e119 (S_Result_DRAW.ext O122.2) (g := (mkF m 13 #[iv i0, .unset, .unset, .unset] [(.int (1 : Int32)), (.ref b112), (.ref b112)])) rfl (hb hby at_13)
  refine own_via (fun t k => st121 t k) ?_
  have V123 : Arv Z h119 b112 k111 (.object zs1) (13 : Int32) [(.ref w65), .null] .null := V120.pad (pad_rep [(.ref w65)] .null 1)
  obtain ⟨cl124, Ar124, qq124, S124, M124, H124, G124⟩ := id (V123)
  have hin124 : ¬ ((1 : Int32) < 0 ∨ cl124.slots.size ≤ ((1 : Int32)).toNatClampNeg) := inb_of S124 ⟨by decide, by decide⟩
  obtain ⟨T124, h124, X124, e124, W124, st124⟩ := stR X121 hx hZ e121 Ar124 (j := (1 : Int32)) hin124 rfl (Sto.ofV Ar124 qq124 O111 (Ins.self (SE_w67.ext O122.2))) (g := (mkF m 16 #[iv i0, .unset, .unset, .unset] [(.ref w67), (.int (1 : Int32)), (.ref b112), (.ref b112)])) rfl rfl (hb hby at_16)
  refine own_via (fun t k => st124 t k) ?_
  have V125 : Arv Z h124 b112 k111 (.object zs1) (13 : Int32) [(.ref w65), (.ref w67)] .null := Arv.set Ar124 qq124 S124 M124 H124 G124 rfl W124 1 rfl (Nat.le_of_ble_eq_true rfl)
  have N124 := Fr.snoc X124 N119 g113
  show own_Goes p e below (T124.setTop (mkF m 17 #[iv i0, .unset, .unset, .unset] [(.ref b112)])) _
  refine own_via (fun t k => XS.dup X124.here hx rfl (hb hby at_17) rfl rfl (XS.iconst X124.here hx rfl (hb hby at_18) k)) ?_
  have O127 : Old Z n0 h124 := (O122.wr W124 g113)
  obtain ⟨T126, X126, e126, st126⟩ := getS2 X124 hx hZ hown (host := "") (Or.inl (wd hw 8 rfl)) Via.refl e124 (S_Result_LOSS.ext O127.2) (g := (mkF m 19 #[iv i0, .unset, .unset, .unset] [(.int (2 : Int32)), (.ref b112), (.ref b112)])) rfl (hb hby at_19)
  refine own_via (fun t k => st126 t k) ?_
  have V128 : Arv Z h124 b112 k111 (.object zs1) (13 : Int32) [(.ref w65), (.ref w67), .null] .null := V125.pad (pad_rep [(.ref w65), (.ref w67)] .null 1)
  obtain ⟨cl129, Ar129, qq129, S129, M129, H129, G129⟩ := id (V128)
  have hin129 : ¬ ((2 : Int32) < 0 ∨ cl129.slots.size ≤ ((2 : Int32)).toNatClampNeg) := inb_of S129 ⟨by decide, by decide⟩
  obtain ⟨T129, h129, X129, e129, W129, st129⟩ := stR X126 hx hZ e126 Ar129 (j := (2 : Int32)) hin129 rfl (Sto.ofV Ar129 qq129 O111 (Ins.self (SE_w69.ext O127.2))) (g := (mkF m 22 #[iv i0, .unset, .unset, .unset] [(.ref w69), (.int (2 : Int32)), (.ref b112), (.ref b112)])) rfl rfl (hb hby at_22)
  refine own_via (fun t k => st129 t k) ?_
  have V130 : Arv Z h129 b112 k111 (.object zs1) (13 : Int32) [(.ref w65), (.ref w67), (.ref w69)] .null := Arv.set Ar129 qq129 S129 M129 H129 G129 rfl W129 2 rfl (Nat.le_of_ble_eq_true rfl)
  have N129 := Fr.snoc X129 N124 g113
  show own_Goes p e below (T129.setTop (mkF m 23 #[iv i0, .unset, .unset, .unset] [(.ref b112)])) _
  refine own_via (fun t k => XS.dup X129.here hx rfl (hb hby at_23) rfl rfl (XS.iconst X129.here hx rfl (hb hby at_24) k)) ?_
  have O132 : Old Z n0 h129 := (O127.wr W129 g113)
  obtain ⟨T131, X131, e131, st131⟩ := getS2 X129 hx hZ hown (host := "") (Or.inl (wd hw 10 rfl)) Via.refl e129 (S_Result_UNRATED_WIN.ext O132.2) (g := (mkF m 25 #[iv i0, .unset, .unset, .unset] [(.int (3 : Int32)), (.ref b112), (.ref b112)])) rfl (hb hby at_25)
  refine own_via (fun t k => st131 t k) ?_
  have V133 : Arv Z h129 b112 k111 (.object zs1) (13 : Int32) [(.ref w65), (.ref w67), (.ref w69), .null] .null := V130.pad (pad_rep [(.ref w65), (.ref w67), (.ref w69)] .null 1)
  obtain ⟨cl134, Ar134, qq134, S134, M134, H134, G134⟩ := id (V133)
  have hin134 : ¬ ((3 : Int32) < 0 ∨ cl134.slots.size ≤ ((3 : Int32)).toNatClampNeg) := inb_of S134 ⟨by decide, by decide⟩
  obtain ⟨T134, h134, X134, e134, W134, st134⟩ := stR X131 hx hZ e131 Ar134 (j := (3 : Int32)) hin134 rfl (Sto.ofV Ar134 qq134 O111 (Ins.self (SE_w71.ext O132.2))) (g := (mkF m 28 #[iv i0, .unset, .unset, .unset] [(.ref w71), (.int (3 : Int32)), (.ref b112), (.ref b112)])) rfl rfl (hb hby at_28)
  refine own_via (fun t k => st134 t k) ?_
  have V135 : Arv Z h134 b112 k111 (.object zs1) (13 : Int32) [(.ref w65), (.ref w67), (.ref w69), (.ref w71)] .null := Arv.set Ar134 qq134 S134 M134 H134 G134 rfl W134 3 rfl (Nat.le_of_ble_eq_true rfl)
  have N134 := Fr.snoc X134 N129 g113
  show own_Goes p e below (T134.setTop (mkF m 29 #[iv i0, .unset, .unset, .unset] [(.ref b112)])) _
  refine own_via (fun t k => XS.dup X134.here hx rfl (hb hby at_29) rfl rfl (XS.iconst X134.here hx rfl (hb hby at_30) k)) ?_
  have O137 : Old Z n0 h134 := (O132.wr W134 g113)
  obtain ⟨T136, X136, e136, st136⟩ := getS2 X134 hx hZ hown (host := "") (Or.inl (wd hw 12 rfl)) Via.refl e134 (S_Result_UNRATED_DRAW.ext O137.2) (g := (mkF m 31 #[iv i0, .unset, .unset, .unset] [(.int (4 : Int32)), (.ref b112), (.ref b112)])) rfl (hb hby at_31)
  refine own_via (fun t k => st136 t k) ?_
  have V138 : Arv Z h134 b112 k111 (.object zs1) (13 : Int32) [(.ref w65), (.ref w67), (.ref w69), (.ref w71), .null] .null := V135.pad (pad_rep [(.ref w65), (.ref w67), (.ref w69), (.ref w71)] .null 1)
  obtain ⟨cl139, Ar139, qq139, S139, M139, H139, G139⟩ := id (V138)
  have hin139 : ¬ ((4 : Int32) < 0 ∨ cl139.slots.size ≤ ((4 : Int32)).toNatClampNeg) := inb_of S139 ⟨by decide, by decide⟩
  obtain ⟨T139, h139, X139, e139, W139, st139⟩ := stR X136 hx hZ e136 Ar139 (j := (4 : Int32)) hin139 rfl (Sto.ofV Ar139 qq139 O111 (Ins.self (SE_w73.ext O137.2))) (g := (mkF m 34 #[iv i0, .unset, .unset, .unset] [(.ref w73), (.int (4 : Int32)), (.ref b112), (.ref b112)])) rfl rfl (hb hby at_34)
  refine own_via (fun t k => st139 t k) ?_
  have V140 : Arv Z h139 b112 k111 (.object zs1) (13 : Int32) [(.ref w65), (.ref w67), (.ref w69), (.ref w71), (.ref w73)] .null := Arv.set Ar139 qq139 S139 M139 H139 G139 rfl W139 4 rfl (Nat.le_of_ble_eq_true rfl)
  have N139 := Fr.snoc X139 N134 g113
  show own_Goes p e below (T139.setTop (mkF m 35 #[iv i0, .unset, .unset, .unset] [(.ref b112)])) _
  refine own_via (fun t k => XS.dup X139.here hx rfl (hb hby at_35) rfl rfl (XS.iconst X139.here hx rfl (hb hby at_36) k)) ?_
  have O142 : Old Z n0 h139 := (O137.wr W139 g113)
  obtain ⟨T141, X141, e141, st141⟩ := getS2 X139 hx hZ hown (host := "") (Or.inl (wd hw 14 rfl)) Via.refl e139 (S_Result_UNRATED_LOSS.ext O142.2) (g := (mkF m 37 #[iv i0, .unset, .unset, .unset] [(.int (5 : Int32)), (.ref b112), (.ref b112)])) rfl (hb hby at_37)
  refine own_via (fun t k => st141 t k) ?_
  have V143 : Arv Z h139 b112 k111 (.object zs1) (13 : Int32) [(.ref w65), (.ref w67), (.ref w69), (.ref w71), (.ref w73), .null] .null := V140.pad (pad_rep [(.ref w65), (.ref w67), (.ref w69), (.ref w71), (.ref w73)] .null 1)
  obtain ⟨cl144, Ar144, qq144, S144, M144, H144, G144⟩ := id (V143)
  have hin144 : ¬ ((5 : Int32) < 0 ∨ cl144.slots.size ≤ ((5 : Int32)).toNatClampNeg) := inb_of S144 ⟨by decide, by decide⟩
  obtain ⟨T144, h144, X144, e144, W144, st144⟩ := stR X141 hx hZ e141 Ar144 (j := (5 : Int32)) hin144 rfl (Sto.ofV Ar144 qq144 O111 (Ins.self (SE_w75.ext O142.2))) (g := (mkF m 40 #[iv i0, .unset, .unset, .unset] [(.ref w75), (.int (5 : Int32)), (.ref b112), (.ref b112)])) rfl rfl (hb hby at_40)
  refine own_via (fun t k => st144 t k) ?_
  have V145 : Arv Z h144 b112 k111 (.object zs1) (13 : Int32) [(.ref w65), (.ref w67), (.ref w69), (.ref w71), (.ref w73), (.ref w75)] .null := Arv.set Ar144 qq144 S144 M144 H144 G144 rfl W144 5 rfl (Nat.le_of_ble_eq_true rfl)
  have N144 := Fr.snoc X144 N139 g113
  show own_Goes p e below (T144.setTop (mkF m 41 #[iv i0, .unset, .unset, .unset] [(.ref b112)])) _
  refine own_via (fun t k => XS.dup X144.here hx rfl (hb hby at_41) rfl rfl (XS.bipush X144.here hx rfl (hb hby at_42) k)) ?_
  have O147 : Old Z n0 h144 := (O142.wr W144 g113)
  obtain ⟨T146, X146, e146, st146⟩ := getS2 X144 hx hZ hown (host := "") (Or.inl (wd hw 16 rfl)) Via.refl e144 (S_Result_FORFEIT_WIN.ext O147.2) (g := (mkF m 44 #[iv i0, .unset, .unset, .unset] [(.int (6 : Int32)), (.ref b112), (.ref b112)])) rfl (hb hby at_44)
  refine own_via (fun t k => st146 t k) ?_
  have V148 : Arv Z h144 b112 k111 (.object zs1) (13 : Int32) [(.ref w65), (.ref w67), (.ref w69), (.ref w71), (.ref w73), (.ref w75), .null] .null := V145.pad (pad_rep [(.ref w65), (.ref w67), (.ref w69), (.ref w71), (.ref w73), (.ref w75)] .null 1)
  obtain ⟨cl149, Ar149, qq149, S149, M149, H149, G149⟩ := id (V148)
  have hin149 : ¬ ((6 : Int32) < 0 ∨ cl149.slots.size ≤ ((6 : Int32)).toNatClampNeg) := inb_of S149 ⟨by decide, by decide⟩
  obtain ⟨T149, h149, X149, e149, W149, st149⟩ := stR X146 hx hZ e146 Ar149 (j := (6 : Int32)) hin149 rfl (Sto.ofV Ar149 qq149 O111 (Ins.self (SE_w77.ext O147.2))) (g := (mkF m 47 #[iv i0, .unset, .unset, .unset] [(.ref w77), (.int (6 : Int32)), (.ref b112), (.ref b112)])) rfl rfl (hb hby at_47)
  refine own_via (fun t k => st149 t k) ?_
  have V150 : Arv Z h149 b112 k111 (.object zs1) (13 : Int32) [(.ref w65), (.ref w67), (.ref w69), (.ref w71), (.ref w73), (.ref w75), (.ref w77)] .null := Arv.set Ar149 qq149 S149 M149 H149 G149 rfl W149 6 rfl (Nat.le_of_ble_eq_true rfl)
  have N149 := Fr.snoc X149 N144 g113
  show own_Goes p e below (T149.setTop (mkF m 48 #[iv i0, .unset, .unset, .unset] [(.ref b112)])) _
  refine own_via (fun t k => XS.dup X149.here hx rfl (hb hby at_48) rfl rfl (XS.bipush X149.here hx rfl (hb hby at_49) k)) ?_
  have O152 : Old Z n0 h149 := (O147.wr W149 g113)
  obtain ⟨T151, X151, e151, st151⟩ := getS2 X149 hx hZ hown (host := "") (Or.inl (wd hw 18 rfl)) Via.refl e149 (S_Result_FORFEIT_LOSS.ext O152.2) (g := (mkF m 51 #[iv i0, .unset, .unset, .unset] [(.int (7 : Int32)), (.ref b112), (.ref b112)])) rfl (hb hby at_51)
  refine own_via (fun t k => st151 t k) ?_
  have V153 : Arv Z h149 b112 k111 (.object zs1) (13 : Int32) [(.ref w65), (.ref w67), (.ref w69), (.ref w71), (.ref w73), (.ref w75), (.ref w77), .null] .null := V150.pad (pad_rep [(.ref w65), (.ref w67), (.ref w69), (.ref w71), (.ref w73), (.ref w75), (.ref w77)] .null 1)
  obtain ⟨cl154, Ar154, qq154, S154, M154, H154, G154⟩ := id (V153)
  have hin154 : ¬ ((7 : Int32) < 0 ∨ cl154.slots.size ≤ ((7 : Int32)).toNatClampNeg) := inb_of S154 ⟨by decide, by decide⟩
  obtain ⟨T154, h154, X154, e154, W154, st154⟩ := stR X151 hx hZ e151 Ar154 (j := (7 : Int32)) hin154 rfl (Sto.ofV Ar154 qq154 O111 (Ins.self (SE_w79.ext O152.2))) (g := (mkF m 54 #[iv i0, .unset, .unset, .unset] [(.ref w79), (.int (7 : Int32)), (.ref b112), (.ref b112)])) rfl rfl (hb hby at_54)
  refine own_via (fun t k => st154 t k) ?_
  have V155 : Arv Z h154 b112 k111 (.object zs1) (13 : Int32) [(.ref w65), (.ref w67), (.ref w69), (.ref w71), (.ref w73), (.ref w75), (.ref w77), (.ref w79)] .null := Arv.set Ar154 qq154 S154 M154 H154 G154 rfl W154 7 rfl (Nat.le_of_ble_eq_true rfl)
  have N154 := Fr.snoc X154 N149 g113
  show own_Goes p e below (T154.setTop (mkF m 55 #[iv i0, .unset, .unset, .unset] [(.ref b112)])) _
  refine own_via (fun t k => XS.dup X154.here hx rfl (hb hby at_55) rfl rfl (XS.bipush X154.here hx rfl (hb hby at_56) k)) ?_
  have O157 : Old Z n0 h154 := (O152.wr W154 g113)
  obtain ⟨T156, X156, e156, st156⟩ := getS2 X154 hx hZ hown (host := "") (Or.inl (wd hw 20 rfl)) Via.refl e154 (S_Result_PAIRING_ALLOCATED_BYE.ext O157.2) (g := (mkF m 58 #[iv i0, .unset, .unset, .unset] [(.int (8 : Int32)), (.ref b112), (.ref b112)])) rfl (hb hby at_58)
  refine own_via (fun t k => st156 t k) ?_
  have V158 : Arv Z h154 b112 k111 (.object zs1) (13 : Int32) [(.ref w65), (.ref w67), (.ref w69), (.ref w71), (.ref w73), (.ref w75), (.ref w77), (.ref w79), .null] .null := V155.pad (pad_rep [(.ref w65), (.ref w67), (.ref w69), (.ref w71), (.ref w73), (.ref w75), (.ref w77), (.ref w79)] .null 1)
  obtain ⟨cl159, Ar159, qq159, S159, M159, H159, G159⟩ := id (V158)
  have hin159 : ¬ ((8 : Int32) < 0 ∨ cl159.slots.size ≤ ((8 : Int32)).toNatClampNeg) := inb_of S159 ⟨by decide, by decide⟩
  obtain ⟨T159, h159, X159, e159, W159, st159⟩ := stR X156 hx hZ e156 Ar159 (j := (8 : Int32)) hin159 rfl (Sto.ofV Ar159 qq159 O111 (Ins.self (SE_w81.ext O157.2))) (g := (mkF m 61 #[iv i0, .unset, .unset, .unset] [(.ref w81), (.int (8 : Int32)), (.ref b112), (.ref b112)])) rfl rfl (hb hby at_61)
  refine own_via (fun t k => st159 t k) ?_
  have V160 : Arv Z h159 b112 k111 (.object zs1) (13 : Int32) [(.ref w65), (.ref w67), (.ref w69), (.ref w71), (.ref w73), (.ref w75), (.ref w77), (.ref w79), (.ref w81)] .null := Arv.set Ar159 qq159 S159 M159 H159 G159 rfl W159 8 rfl (Nat.le_of_ble_eq_true rfl)
  have N159 := Fr.snoc X159 N154 g113
  show own_Goes p e below (T159.setTop (mkF m 62 #[iv i0, .unset, .unset, .unset] [(.ref b112)])) _
  refine own_via (fun t k => XS.dup X159.here hx rfl (hb hby at_62) rfl rfl (XS.bipush X159.here hx rfl (hb hby at_63) k)) ?_
  have O162 : Old Z n0 h159 := (O157.wr W159 g113)
  obtain ⟨T161, X161, e161, st161⟩ := getS2 X159 hx hZ hown (host := "") (Or.inl (wd hw 22 rfl)) Via.refl e159 (S_Result_FULL_POINT_BYE.ext O162.2) (g := (mkF m 65 #[iv i0, .unset, .unset, .unset] [(.int (9 : Int32)), (.ref b112), (.ref b112)])) rfl (hb hby at_65)
  refine own_via (fun t k => st161 t k) ?_
  have V163 : Arv Z h159 b112 k111 (.object zs1) (13 : Int32) [(.ref w65), (.ref w67), (.ref w69), (.ref w71), (.ref w73), (.ref w75), (.ref w77), (.ref w79), (.ref w81), .null] .null := V160.pad (pad_rep [(.ref w65), (.ref w67), (.ref w69), (.ref w71), (.ref w73), (.ref w75), (.ref w77), (.ref w79), (.ref w81)] .null 1)
  obtain ⟨cl164, Ar164, qq164, S164, M164, H164, G164⟩ := id (V163)
  have hin164 : ¬ ((9 : Int32) < 0 ∨ cl164.slots.size ≤ ((9 : Int32)).toNatClampNeg) := inb_of S164 ⟨by decide, by decide⟩
  obtain ⟨T164, h164, X164, e164, W164, st164⟩ := stR X161 hx hZ e161 Ar164 (j := (9 : Int32)) hin164 rfl (Sto.ofV Ar164 qq164 O111 (Ins.self (SE_w83.ext O162.2))) (g := (mkF m 68 #[iv i0, .unset, .unset, .unset] [(.ref w83), (.int (9 : Int32)), (.ref b112), (.ref b112)])) rfl rfl (hb hby at_68)
  refine own_via (fun t k => st164 t k) ?_
  have V165 : Arv Z h164 b112 k111 (.object zs1) (13 : Int32) [(.ref w65), (.ref w67), (.ref w69), (.ref w71), (.ref w73), (.ref w75), (.ref w77), (.ref w79), (.ref w81), (.ref w83)] .null := Arv.set Ar164 qq164 S164 M164 H164 G164 rfl W164 9 rfl (Nat.le_of_ble_eq_true rfl)
  have N164 := Fr.snoc X164 N159 g113
  show own_Goes p e below (T164.setTop (mkF m 69 #[iv i0, .unset, .unset, .unset] [(.ref b112)])) _
  refine own_via (fun t k => XS.dup X164.here hx rfl (hb hby at_69) rfl rfl (XS.bipush X164.here hx rfl (hb hby at_70) k)) ?_
  have O167 : Old Z n0 h164 := (O162.wr W164 g113)
  obtain ⟨T166, X166, e166, st166⟩ := getS2 X164 hx hZ hown (host := "") (Or.inl (wd hw 24 rfl)) Via.refl e164 (S_Result_HALF_POINT_BYE.ext O167.2) (g := (mkF m 72 #[iv i0, .unset, .unset, .unset] [(.int (10 : Int32)), (.ref b112), (.ref b112)])) rfl (hb hby at_72)
  refine own_via (fun t k => st166 t k) ?_
  have V168 : Arv Z h164 b112 k111 (.object zs1) (13 : Int32) [(.ref w65), (.ref w67), (.ref w69), (.ref w71), (.ref w73), (.ref w75), (.ref w77), (.ref w79), (.ref w81), (.ref w83), .null] .null := V165.pad (pad_rep [(.ref w65), (.ref w67), (.ref w69), (.ref w71), (.ref w73), (.ref w75), (.ref w77), (.ref w79), (.ref w81), (.ref w83)] .null 1)
  obtain ⟨cl169, Ar169, qq169, S169, M169, H169, G169⟩ := id (V168)
  have hin169 : ¬ ((10 : Int32) < 0 ∨ cl169.slots.size ≤ ((10 : Int32)).toNatClampNeg) := inb_of S169 ⟨by decide, by decide⟩
  obtain ⟨T169, h169, X169, e169, W169, st169⟩ := stR X166 hx hZ e166 Ar169 (j := (10 : Int32)) hin169 rfl (Sto.ofV Ar169 qq169 O111 (Ins.self (SE_w85.ext O167.2))) (g := (mkF m 75 #[iv i0, .unset, .unset, .unset] [(.ref w85), (.int (10 : Int32)), (.ref b112), (.ref b112)])) rfl rfl (hb hby at_75)
  refine own_via (fun t k => st169 t k) ?_
  have V170 : Arv Z h169 b112 k111 (.object zs1) (13 : Int32) [(.ref w65), (.ref w67), (.ref w69), (.ref w71), (.ref w73), (.ref w75), (.ref w77), (.ref w79), (.ref w81), (.ref w83), (.ref w85)] .null := Arv.set Ar169 qq169 S169 M169 H169 G169 rfl W169 10 rfl (Nat.le_of_ble_eq_true rfl)
  have N169 := Fr.snoc X169 N164 g113
  show own_Goes p e below (T169.setTop (mkF m 76 #[iv i0, .unset, .unset, .unset] [(.ref b112)])) _
  refine own_via (fun t k => XS.dup X169.here hx rfl (hb hby at_76) rfl rfl (XS.bipush X169.here hx rfl (hb hby at_77) k)) ?_
  have O172 : Old Z n0 h169 := (O167.wr W169 g113)
  obtain ⟨T171, X171, e171, st171⟩ := getS2 X169 hx hZ hown (host := "") (Or.inl (wd hw 26 rfl)) Via.refl e169 (S_Result_ZERO_POINT_BYE.ext O172.2) (g := (mkF m 79 #[iv i0, .unset, .unset, .unset] [(.int (11 : Int32)), (.ref b112), (.ref b112)])) rfl (hb hby at_79)
  refine own_via (fun t k => st171 t k) ?_
  have V173 : Arv Z h169 b112 k111 (.object zs1) (13 : Int32) [(.ref w65), (.ref w67), (.ref w69), (.ref w71), (.ref w73), (.ref w75), (.ref w77), (.ref w79), (.ref w81), (.ref w83), (.ref w85), .null] .null := V170.pad (pad_rep [(.ref w65), (.ref w67), (.ref w69), (.ref w71), (.ref w73), (.ref w75), (.ref w77), (.ref w79), (.ref w81), (.ref w83), (.ref w85)] .null 1)
  obtain ⟨cl174, Ar174, qq174, S174, M174, H174, G174⟩ := id (V173)
  have hin174 : ¬ ((11 : Int32) < 0 ∨ cl174.slots.size ≤ ((11 : Int32)).toNatClampNeg) := inb_of S174 ⟨by decide, by decide⟩
  obtain ⟨T174, h174, X174, e174, W174, st174⟩ := stR X171 hx hZ e171 Ar174 (j := (11 : Int32)) hin174 rfl (Sto.ofV Ar174 qq174 O111 (Ins.self (SE_w87.ext O172.2))) (g := (mkF m 82 #[iv i0, .unset, .unset, .unset] [(.ref w87), (.int (11 : Int32)), (.ref b112), (.ref b112)])) rfl rfl (hb hby at_82)
  refine own_via (fun t k => st174 t k) ?_
  have V175 : Arv Z h174 b112 k111 (.object zs1) (13 : Int32) [(.ref w65), (.ref w67), (.ref w69), (.ref w71), (.ref w73), (.ref w75), (.ref w77), (.ref w79), (.ref w81), (.ref w83), (.ref w85), (.ref w87)] .null := Arv.set Ar174 qq174 S174 M174 H174 G174 rfl W174 11 rfl (Nat.le_of_ble_eq_true rfl)
  have N174 := Fr.snoc X174 N169 g113
  show own_Goes p e below (T174.setTop (mkF m 83 #[iv i0, .unset, .unset, .unset] [(.ref b112)])) _
  refine own_via (fun t k => XS.dup X174.here hx rfl (hb hby at_83) rfl rfl (XS.bipush X174.here hx rfl (hb hby at_84) k)) ?_
  have O177 : Old Z n0 h174 := (O172.wr W174 g113)
  obtain ⟨T176, X176, e176, st176⟩ := getS2 X174 hx hZ hown (host := "") (Or.inl (wd hw 28 rfl)) Via.refl e174 (S_Result_NOT_PLAYED.ext O177.2) (g := (mkF m 86 #[iv i0, .unset, .unset, .unset] [(.int (12 : Int32)), (.ref b112), (.ref b112)])) rfl (hb hby at_86)
  refine own_via (fun t k => st176 t k) ?_
  have V178 : Arv Z h174 b112 k111 (.object zs1) (13 : Int32) [(.ref w65), (.ref w67), (.ref w69), (.ref w71), (.ref w73), (.ref w75), (.ref w77), (.ref w79), (.ref w81), (.ref w83), (.ref w85), (.ref w87), .null] .null := V175.pad (pad_rep [(.ref w65), (.ref w67), (.ref w69), (.ref w71), (.ref w73), (.ref w75), (.ref w77), (.ref w79), (.ref w81), (.ref w83), (.ref w85), (.ref w87)] .null 1)
  obtain ⟨cl179, Ar179, qq179, S179, M179, H179, G179⟩ := id (V178)
  have hin179 : ¬ ((12 : Int32) < 0 ∨ cl179.slots.size ≤ ((12 : Int32)).toNatClampNeg) := inb_of S179 ⟨by decide, by decide⟩
  obtain ⟨T179, h179, X179, e179, W179, st179⟩ := stR X176 hx hZ e176 Ar179 (j := (12 : Int32)) hin179 rfl (Sto.ofV Ar179 qq179 O111 (Ins.self (SE_w89.ext O177.2))) (g := (mkF m 89 #[iv i0, .unset, .unset, .unset] [(.ref w89), (.int (12 : Int32)), (.ref b112), (.ref b112)])) rfl rfl (hb hby at_89)
  refine own_via (fun t k => st179 t k) ?_
  have V180 : Arv Z h179 b112 k111 (.object zs1) (13 : Int32) [(.ref w65), (.ref w67), (.ref w69), (.ref w71), (.ref w73), (.ref w75), (.ref w77), (.ref w79), (.ref w81), (.ref w83), (.ref w85), (.ref w87), (.ref w89)] .null := Arv.set Ar179 qq179 S179 M179 H179 G179 rfl W179 12 rfl (Nat.le_of_ble_eq_true rfl)
  have N179 := Fr.snoc X179 N174 g113
  show own_Goes p e below (T179.setTop (mkF m 90 #[iv i0, .unset, .unset, .unset] [(.ref b112)])) _
  refine own_via (fun t k => XS.astoreN X179.here hx rfl (hb hby at_90) rfl rfl (l' := #[iv i0, rv b112, .unset, .unset]) rfl (XS.iloadN X179.here hx rfl (hb hby at_91) rfl (X179.ldcInt hx hown (mvT hZ (wd hw 30 rfl)) (g := (mkF m 92 #[iv i0, rv b112, .unset, .unset] [(.int i0)])) rfl (hb hby at_92) t (XS.iand X179.here hx rfl (hb hby at_94) rfl (XS.bipush X179.here hx rfl (hb hby at_95) (iremM (g := (mkF m 97 #[iv i0, rv b112, .unset, .unset] [(.int (13 : Int32)), (.int (i0 &&& (2147483647 : Int32)))])) X179 hx rfl (hb hby at_97) rfl (by decide) k)))))) ?_
  show own_Goes p e below (T179.setTop (mkF m 98 #[iv i0, rv b112, .unset, .unset] [(.int ((i0 &&& (2147483647 : Int32)) % (13 : Int32)))])) _
  rcases own_mod_13 i0 with qs | qs | qs | qs | qs | qs | qs | qs | qs | qs | qs | qs | qs
  · have qs181 := qs
    rw [qs]
    show own_Goes p e below (T179.setTop (mkF m 98 #[iv i0, rv b112, .unset, .unset] [(.int (0 : Int32))])) _
    refine own_via (fun t k => XS.istoreN X179.here hx rfl (hb hby at_98) rfl (l' := #[iv i0, rv b112, iv (0 : Int32), .unset]) rfl (XS.iloadN X179.here hx rfl (hb hby at_99) rfl (XS.bipush X179.here hx rfl (hb hby at_100) (XS.icmpNo X179.here hx rfl (hb hby at_102) rfl (tlt (by decide : (0 : Int32) < (8 : Int32))).2.1 (XS.iconst X179.here hx rfl (hb hby at_105) (XS.goto X179.here hx rfl (pc0 := 106) (pc' := 110) rfl (hb hby at_106) (by decide) (by decide) (XS.istoreN X179.here hx rfl (hb hby at_110) rfl (l' := #[iv i0, rv b112, iv (0 : Int32), iv (1 : Int32)]) rfl (XS.aloadN X179.here hx rfl (hb hby at_111) rfl rfl (XS.iloadN X179.here hx rfl (hb hby at_112) rfl k))))))))) ?_
    show own_Goes p e below (T179.setTop (mkF m 113 #[iv i0, rv b112, iv (0 : Int32), iv (1 : Int32)] [(.int (0 : Int32)), (.ref b112)])) _
    obtain ⟨cl182, Ar182, qq182, S182, M182, H182, G182⟩ := id (V180)
    have hin182 : ¬ ((0 : Int32) < 0 ∨ cl182.slots.size ≤ ((0 : Int32)).toNatClampNeg) := inb_of S182 ⟨by decide, by decide⟩
    refine own_via (fun t k => X179.aaload hx (j := (0 : Int32)) (v := (.ref w65)) (by rw [e179]; exact Ar182.1) (State.isArrayOf_alike hZ.alike Ar182.2.1) rfl Ar182.2.2 hin182 (Has.at H182 hin182 rfl) (g := (mkF m 113 #[iv i0, rv b112, iv (0 : Int32), iv (1 : Int32)] [(.int (0 : Int32)), (.ref b112)])) rfl rfl (hb hby at_113) t k) ?_
    have O192 : Old Z n0 h179 := (O177.wr W179 g113)
    obtain ⟨_, T183, _, X183, hQ183, st183⟩ := own_cv X179 hx hZ hown (wd hw 31 rfl) (wd hw 32 rfl) (wd hw 34 rfl) (wd hw 33 rfl) (wd hw 35 rfl) (wd hw 3 rfl) (by decide) (rm1 l Z a0 hw [] w65 h179 n0 O192 SF_w65_game) e179 (SE_w65.ext O192.2) (g := (mkF m 114 #[iv i0, rv b112, iv (0 : Int32), iv (1 : Int32)] [(.ref w65)])) rfl (by rw [hml]; rfl) (rest := []) (W := 0) (lenOf pd_1 rfl) rfl (by show 2 * 0 + _ ≤ _; exact Nat.le_of_eq rfl) (hb hby at_114) (by decide) (by decide) (by decide) (by decide)
    obtain ⟨rfl, Nq183, hh193⟩ := hQ183
    have N183 := Fr.app N179 Nq183
    refine own_via (fun t k => st183 t (XS.iloadN X183.here hx rfl (hb hby at_117) rfl (XS.icmpNo X183.here hx rfl (hb hby at_118) rfl (teq (by decide : (1 : Int32) = (1 : Int32))).2 (XS.iconst X183.here hx rfl (hb hby at_121) (XS.goto X183.here hx rfl (pc0 := 122) (pc' := 126) rfl (hb hby at_122) (by decide) (by decide) k))))) ?_
    show own_Goes p e below (T183.setTop (mkF m 126 #[iv i0, rv b112, iv (0 : Int32), iv (1 : Int32)] [(.int (1 : Int32))])) _
    obtain ⟨fs, hr, hrun, hended, hW, hsame⟩ := X183.leave (v := some (.int (1 : Int32))) (fun h => by rw [Bd.returns] at h; cases h)
    refine own_end (t := T183.setFrames fs) ?_ ⟨_, hrun, hended, _, _, rfl, ?_, ⟨_, rfl⟩, hW, hsame.mono (by decide) (by decide)⟩
    · exact retN X183 hx (t := .boolean) Bd.returns (by simp) (hb hby at_126) hr
    · exact ⟨rfl, N183⟩
  · have qs194 := qs
    rw [qs]
    show own_Goes p e below (T179.setTop (mkF m 98 #[iv i0, rv b112, .unset, .unset] [(.int (1 : Int32))])) _
    refine own_via (fun t k => XS.istoreN X179.here hx rfl (hb hby at_98) rfl (l' := #[iv i0, rv b112, iv (1 : Int32), .unset]) rfl (XS.iloadN X179.here hx rfl (hb hby at_99) rfl (XS.bipush X179.here hx rfl (hb hby at_100) (XS.icmpNo X179.here hx rfl (hb hby at_102) rfl (tlt (by decide : (1 : Int32) < (8 : Int32))).2.1 (XS.iconst X179.here hx rfl (hb hby at_105) (XS.goto X179.here hx rfl (pc0 := 106) (pc' := 110) rfl (hb hby at_106) (by decide) (by decide) (XS.istoreN X179.here hx rfl (hb hby at_110) rfl (l' := #[iv i0, rv b112, iv (1 : Int32), iv (1 : Int32)]) rfl (XS.aloadN X179.here hx rfl (hb hby at_111) rfl rfl (XS.iloadN X179.here hx rfl (hb hby at_112) rfl k))))))))) ?_
    show own_Goes p e below (T179.setTop (mkF m 113 #[iv i0, rv b112, iv (1 : Int32), iv (1 : Int32)] [(.int (1 : Int32)), (.ref b112)])) _
    obtain ⟨cl195, Ar195, qq195, S195, M195, H195, G195⟩ := id (V180)
    have hin195 : ¬ ((1 : Int32) < 0 ∨ cl195.slots.size ≤ ((1 : Int32)).toNatClampNeg) := inb_of S195 ⟨by decide, by decide⟩
    refine own_via (fun t k => X179.aaload hx (j := (1 : Int32)) (v := (.ref w67)) (by rw [e179]; exact Ar195.1) (State.isArrayOf_alike hZ.alike Ar195.2.1) rfl Ar195.2.2 hin195 (Has.at H195 hin195 rfl) (g := (mkF m 113 #[iv i0, rv b112, iv (1 : Int32), iv (1 : Int32)] [(.int (1 : Int32)), (.ref b112)])) rfl rfl (hb hby at_113) t k) ?_
    have O205 : Old Z n0 h179 := (O177.wr W179 g113)
    obtain ⟨_, T196, _, X196, hQ196, st196⟩ := own_cv X179 hx hZ hown (wd hw 31 rfl) (wd hw 32 rfl) (wd hw 34 rfl) (wd hw 33 rfl) (wd hw 35 rfl) (wd hw 3 rfl) (by decide) (rm2 l Z a0 hw [] w67 h179 n0 O205 SF_w67_game) e179 (SE_w67.ext O205.2) (g := (mkF m 114 #[iv i0, rv b112, iv (1 : Int32), iv (1 : Int32)] [(.ref w67)])) rfl (by rw [hml]; rfl) (rest := []) (W := 0) (lenOf pd_1 rfl) rfl (by show 2 * 0 + _ ≤ _; exact Nat.le_of_eq rfl) (hb hby at_114) (by decide) (by decide) (by decide) (by decide)
    obtain ⟨rfl, Nq196, hh206⟩ := hQ196
    have N196 := Fr.app N179 Nq196
    refine own_via (fun t k => st196 t (XS.iloadN X196.here hx rfl (hb hby at_117) rfl (XS.icmpNo X196.here hx rfl (hb hby at_118) rfl (teq (by decide : (1 : Int32) = (1 : Int32))).2 (XS.iconst X196.here hx rfl (hb hby at_121) (XS.goto X196.here hx rfl (pc0 := 122) (pc' := 126) rfl (hb hby at_122) (by decide) (by decide) k))))) ?_
    show own_Goes p e below (T196.setTop (mkF m 126 #[iv i0, rv b112, iv (1 : Int32), iv (1 : Int32)] [(.int (1 : Int32))])) _
    obtain ⟨fs, hr, hrun, hended, hW, hsame⟩ := X196.leave (v := some (.int (1 : Int32))) (fun h => by rw [Bd.returns] at h; cases h)
    refine own_end (t := T196.setFrames fs) ?_ ⟨_, hrun, hended, _, _, rfl, ?_, ⟨_, rfl⟩, hW, hsame.mono (by decide) (by decide)⟩
    · exact retN X196 hx (t := .boolean) Bd.returns (by simp) (hb hby at_126) hr
    · exact ⟨rfl, N196⟩
  · have qs207 := qs
    rw [qs]
    show own_Goes p e below (T179.setTop (mkF m 98 #[iv i0, rv b112, .unset, .unset] [(.int (2 : Int32))])) _
    refine own_via (fun t k => XS.istoreN X179.here hx rfl (hb hby at_98) rfl (l' := #[iv i0, rv b112, iv (2 : Int32), .unset]) rfl (XS.iloadN X179.here hx rfl (hb hby at_99) rfl (XS.bipush X179.here hx rfl (hb hby at_100) (XS.icmpNo X179.here hx rfl (hb hby at_102) rfl (tlt (by decide : (2 : Int32) < (8 : Int32))).2.1 (XS.iconst X179.here hx rfl (hb hby at_105) (XS.goto X179.here hx rfl (pc0 := 106) (pc' := 110) rfl (hb hby at_106) (by decide) (by decide) (XS.istoreN X179.here hx rfl (hb hby at_110) rfl (l' := #[iv i0, rv b112, iv (2 : Int32), iv (1 : Int32)]) rfl (XS.aloadN X179.here hx rfl (hb hby at_111) rfl rfl (XS.iloadN X179.here hx rfl (hb hby at_112) rfl k))))))))) ?_
    show own_Goes p e below (T179.setTop (mkF m 113 #[iv i0, rv b112, iv (2 : Int32), iv (1 : Int32)] [(.int (2 : Int32)), (.ref b112)])) _
    obtain ⟨cl208, Ar208, qq208, S208, M208, H208, G208⟩ := id (V180)
    have hin208 : ¬ ((2 : Int32) < 0 ∨ cl208.slots.size ≤ ((2 : Int32)).toNatClampNeg) := inb_of S208 ⟨by decide, by decide⟩
    refine own_via (fun t k => X179.aaload hx (j := (2 : Int32)) (v := (.ref w69)) (by rw [e179]; exact Ar208.1) (State.isArrayOf_alike hZ.alike Ar208.2.1) rfl Ar208.2.2 hin208 (Has.at H208 hin208 rfl) (g := (mkF m 113 #[iv i0, rv b112, iv (2 : Int32), iv (1 : Int32)] [(.int (2 : Int32)), (.ref b112)])) rfl rfl (hb hby at_113) t k) ?_
    have O218 : Old Z n0 h179 := (O177.wr W179 g113)
    obtain ⟨_, T209, _, X209, hQ209, st209⟩ := own_cv X179 hx hZ hown (wd hw 31 rfl) (wd hw 32 rfl) (wd hw 34 rfl) (wd hw 33 rfl) (wd hw 35 rfl) (wd hw 3 rfl) (by decide) (rm3 l Z a0 hw [] w69 h179 n0 O218 SF_w69_game) e179 (SE_w69.ext O218.2) (g := (mkF m 114 #[iv i0, rv b112, iv (2 : Int32), iv (1 : Int32)] [(.ref w69)])) rfl (by rw [hml]; rfl) (rest := []) (W := 0) (lenOf pd_1 rfl) rfl (by show 2 * 0 + _ ≤ _; exact Nat.le_of_eq rfl) (hb hby at_114) (by decide) (by decide) (by decide) (by decide)
    obtain ⟨rfl, Nq209, hh219⟩ := hQ209
    have N209 := Fr.app N179 Nq209
    refine own_via (fun t k => st209 t (XS.iloadN X209.here hx rfl (hb hby at_117) rfl (XS.icmpNo X209.here hx rfl (hb hby at_118) rfl (teq (by decide : (1 : Int32) = (1 : Int32))).2 (XS.iconst X209.here hx rfl (hb hby at_121) (XS.goto X209.here hx rfl (pc0 := 122) (pc' := 126) rfl (hb hby at_122) (by decide) (by decide) k))))) ?_
    show own_Goes p e below (T209.setTop (mkF m 126 #[iv i0, rv b112, iv (2 : Int32), iv (1 : Int32)] [(.int (1 : Int32))])) _
    obtain ⟨fs, hr, hrun, hended, hW, hsame⟩ := X209.leave (v := some (.int (1 : Int32))) (fun h => by rw [Bd.returns] at h; cases h)
    refine own_end (t := T209.setFrames fs) ?_ ⟨_, hrun, hended, _, _, rfl, ?_, ⟨_, rfl⟩, hW, hsame.mono (by decide) (by decide)⟩
    · exact retN X209 hx (t := .boolean) Bd.returns (by simp) (hb hby at_126) hr
    · exact ⟨rfl, N209⟩
  · have qs220 := qs
    rw [qs]
    show own_Goes p e below (T179.setTop (mkF m 98 #[iv i0, rv b112, .unset, .unset] [(.int (3 : Int32))])) _
    refine own_via (fun t k => XS.istoreN X179.here hx rfl (hb hby at_98) rfl (l' := #[iv i0, rv b112, iv (3 : Int32), .unset]) rfl (XS.iloadN X179.here hx rfl (hb hby at_99) rfl (XS.bipush X179.here hx rfl (hb hby at_100) (XS.icmpNo X179.here hx rfl (hb hby at_102) rfl (tlt (by decide : (3 : Int32) < (8 : Int32))).2.1 (XS.iconst X179.here hx rfl (hb hby at_105) (XS.goto X179.here hx rfl (pc0 := 106) (pc' := 110) rfl (hb hby at_106) (by decide) (by decide) (XS.istoreN X179.here hx rfl (hb hby at_110) rfl (l' := #[iv i0, rv b112, iv (3 : Int32), iv (1 : Int32)]) rfl (XS.aloadN X179.here hx rfl (hb hby at_111) rfl rfl (XS.iloadN X179.here hx rfl (hb hby at_112) rfl k))))))))) ?_
    show own_Goes p e below (T179.setTop (mkF m 113 #[iv i0, rv b112, iv (3 : Int32), iv (1 : Int32)] [(.int (3 : Int32)), (.ref b112)])) _
    obtain ⟨cl221, Ar221, qq221, S221, M221, H221, G221⟩ := id (V180)
    have hin221 : ¬ ((3 : Int32) < 0 ∨ cl221.slots.size ≤ ((3 : Int32)).toNatClampNeg) := inb_of S221 ⟨by decide, by decide⟩
    refine own_via (fun t k => X179.aaload hx (j := (3 : Int32)) (v := (.ref w71)) (by rw [e179]; exact Ar221.1) (State.isArrayOf_alike hZ.alike Ar221.2.1) rfl Ar221.2.2 hin221 (Has.at H221 hin221 rfl) (g := (mkF m 113 #[iv i0, rv b112, iv (3 : Int32), iv (1 : Int32)] [(.int (3 : Int32)), (.ref b112)])) rfl rfl (hb hby at_113) t k) ?_
    have O231 : Old Z n0 h179 := (O177.wr W179 g113)
    obtain ⟨_, T222, _, X222, hQ222, st222⟩ := own_cv X179 hx hZ hown (wd hw 31 rfl) (wd hw 32 rfl) (wd hw 34 rfl) (wd hw 33 rfl) (wd hw 35 rfl) (wd hw 3 rfl) (by decide) (rm4 l Z a0 hw [] w71 h179 n0 O231 SF_w71_game) e179 (SE_w71.ext O231.2) (g := (mkF m 114 #[iv i0, rv b112, iv (3 : Int32), iv (1 : Int32)] [(.ref w71)])) rfl (by rw [hml]; rfl) (rest := []) (W := 0) (lenOf pd_1 rfl) rfl (by show 2 * 0 + _ ≤ _; exact Nat.le_of_eq rfl) (hb hby at_114) (by decide) (by decide) (by decide) (by decide)
    obtain ⟨rfl, Nq222, hh232⟩ := hQ222
    have N222 := Fr.app N179 Nq222
    refine own_via (fun t k => st222 t (XS.iloadN X222.here hx rfl (hb hby at_117) rfl (XS.icmpNo X222.here hx rfl (hb hby at_118) rfl (teq (by decide : (1 : Int32) = (1 : Int32))).2 (XS.iconst X222.here hx rfl (hb hby at_121) (XS.goto X222.here hx rfl (pc0 := 122) (pc' := 126) rfl (hb hby at_122) (by decide) (by decide) k))))) ?_
    show own_Goes p e below (T222.setTop (mkF m 126 #[iv i0, rv b112, iv (3 : Int32), iv (1 : Int32)] [(.int (1 : Int32))])) _
    obtain ⟨fs, hr, hrun, hended, hW, hsame⟩ := X222.leave (v := some (.int (1 : Int32))) (fun h => by rw [Bd.returns] at h; cases h)
    refine own_end (t := T222.setFrames fs) ?_ ⟨_, hrun, hended, _, _, rfl, ?_, ⟨_, rfl⟩, hW, hsame.mono (by decide) (by decide)⟩
    · exact retN X222 hx (t := .boolean) Bd.returns (by simp) (hb hby at_126) hr
    · exact ⟨rfl, N222⟩
  · have qs233 := qs
    rw [qs]
    show own_Goes p e below (T179.setTop (mkF m 98 #[iv i0, rv b112, .unset, .unset] [(.int (4 : Int32))])) _
    refine own_via (fun t k => XS.istoreN X179.here hx rfl (hb hby at_98) rfl (l' := #[iv i0, rv b112, iv (4 : Int32), .unset]) rfl (XS.iloadN X179.here hx rfl (hb hby at_99) rfl (XS.bipush X179.here hx rfl (hb hby at_100) (XS.icmpNo X179.here hx rfl (hb hby at_102) rfl (tlt (by decide : (4 : Int32) < (8 : Int32))).2.1 (XS.iconst X179.here hx rfl (hb hby at_105) (XS.goto X179.here hx rfl (pc0 := 106) (pc' := 110) rfl (hb hby at_106) (by decide) (by decide) (XS.istoreN X179.here hx rfl (hb hby at_110) rfl (l' := #[iv i0, rv b112, iv (4 : Int32), iv (1 : Int32)]) rfl (XS.aloadN X179.here hx rfl (hb hby at_111) rfl rfl (XS.iloadN X179.here hx rfl (hb hby at_112) rfl k))))))))) ?_
    show own_Goes p e below (T179.setTop (mkF m 113 #[iv i0, rv b112, iv (4 : Int32), iv (1 : Int32)] [(.int (4 : Int32)), (.ref b112)])) _
    obtain ⟨cl234, Ar234, qq234, S234, M234, H234, G234⟩ := id (V180)
    have hin234 : ¬ ((4 : Int32) < 0 ∨ cl234.slots.size ≤ ((4 : Int32)).toNatClampNeg) := inb_of S234 ⟨by decide, by decide⟩
    refine own_via (fun t k => X179.aaload hx (j := (4 : Int32)) (v := (.ref w73)) (by rw [e179]; exact Ar234.1) (State.isArrayOf_alike hZ.alike Ar234.2.1) rfl Ar234.2.2 hin234 (Has.at H234 hin234 rfl) (g := (mkF m 113 #[iv i0, rv b112, iv (4 : Int32), iv (1 : Int32)] [(.int (4 : Int32)), (.ref b112)])) rfl rfl (hb hby at_113) t k) ?_
    have O244 : Old Z n0 h179 := (O177.wr W179 g113)
    obtain ⟨_, T235, _, X235, hQ235, st235⟩ := own_cv X179 hx hZ hown (wd hw 31 rfl) (wd hw 32 rfl) (wd hw 34 rfl) (wd hw 33 rfl) (wd hw 35 rfl) (wd hw 3 rfl) (by decide) (rm5 l Z a0 hw [] w73 h179 n0 O244 SF_w73_game) e179 (SE_w73.ext O244.2) (g := (mkF m 114 #[iv i0, rv b112, iv (4 : Int32), iv (1 : Int32)] [(.ref w73)])) rfl (by rw [hml]; rfl) (rest := []) (W := 0) (lenOf pd_1 rfl) rfl (by show 2 * 0 + _ ≤ _; exact Nat.le_of_eq rfl) (hb hby at_114) (by decide) (by decide) (by decide) (by decide)
    obtain ⟨rfl, Nq235, hh245⟩ := hQ235
    have N235 := Fr.app N179 Nq235
    refine own_via (fun t k => st235 t (XS.iloadN X235.here hx rfl (hb hby at_117) rfl (XS.icmpNo X235.here hx rfl (hb hby at_118) rfl (teq (by decide : (1 : Int32) = (1 : Int32))).2 (XS.iconst X235.here hx rfl (hb hby at_121) (XS.goto X235.here hx rfl (pc0 := 122) (pc' := 126) rfl (hb hby at_122) (by decide) (by decide) k))))) ?_
    show own_Goes p e below (T235.setTop (mkF m 126 #[iv i0, rv b112, iv (4 : Int32), iv (1 : Int32)] [(.int (1 : Int32))])) _
    obtain ⟨fs, hr, hrun, hended, hW, hsame⟩ := X235.leave (v := some (.int (1 : Int32))) (fun h => by rw [Bd.returns] at h; cases h)
    refine own_end (t := T235.setFrames fs) ?_ ⟨_, hrun, hended, _, _, rfl, ?_, ⟨_, rfl⟩, hW, hsame.mono (by decide) (by decide)⟩
    · exact retN X235 hx (t := .boolean) Bd.returns (by simp) (hb hby at_126) hr
    · exact ⟨rfl, N235⟩
  · have qs246 := qs
    rw [qs]
    show own_Goes p e below (T179.setTop (mkF m 98 #[iv i0, rv b112, .unset, .unset] [(.int (5 : Int32))])) _
    refine own_via (fun t k => XS.istoreN X179.here hx rfl (hb hby at_98) rfl (l' := #[iv i0, rv b112, iv (5 : Int32), .unset]) rfl (XS.iloadN X179.here hx rfl (hb hby at_99) rfl (XS.bipush X179.here hx rfl (hb hby at_100) (XS.icmpNo X179.here hx rfl (hb hby at_102) rfl (tlt (by decide : (5 : Int32) < (8 : Int32))).2.1 (XS.iconst X179.here hx rfl (hb hby at_105) (XS.goto X179.here hx rfl (pc0 := 106) (pc' := 110) rfl (hb hby at_106) (by decide) (by decide) (XS.istoreN X179.here hx rfl (hb hby at_110) rfl (l' := #[iv i0, rv b112, iv (5 : Int32), iv (1 : Int32)]) rfl (XS.aloadN X179.here hx rfl (hb hby at_111) rfl rfl (XS.iloadN X179.here hx rfl (hb hby at_112) rfl k))))))))) ?_
    show own_Goes p e below (T179.setTop (mkF m 113 #[iv i0, rv b112, iv (5 : Int32), iv (1 : Int32)] [(.int (5 : Int32)), (.ref b112)])) _
    obtain ⟨cl247, Ar247, qq247, S247, M247, H247, G247⟩ := id (V180)
    have hin247 : ¬ ((5 : Int32) < 0 ∨ cl247.slots.size ≤ ((5 : Int32)).toNatClampNeg) := inb_of S247 ⟨by decide, by decide⟩
    refine own_via (fun t k => X179.aaload hx (j := (5 : Int32)) (v := (.ref w75)) (by rw [e179]; exact Ar247.1) (State.isArrayOf_alike hZ.alike Ar247.2.1) rfl Ar247.2.2 hin247 (Has.at H247 hin247 rfl) (g := (mkF m 113 #[iv i0, rv b112, iv (5 : Int32), iv (1 : Int32)] [(.int (5 : Int32)), (.ref b112)])) rfl rfl (hb hby at_113) t k) ?_
    have O257 : Old Z n0 h179 := (O177.wr W179 g113)
    obtain ⟨_, T248, _, X248, hQ248, st248⟩ := own_cv X179 hx hZ hown (wd hw 31 rfl) (wd hw 32 rfl) (wd hw 34 rfl) (wd hw 33 rfl) (wd hw 35 rfl) (wd hw 3 rfl) (by decide) (rm6 l Z a0 hw [] w75 h179 n0 O257 SF_w75_game) e179 (SE_w75.ext O257.2) (g := (mkF m 114 #[iv i0, rv b112, iv (5 : Int32), iv (1 : Int32)] [(.ref w75)])) rfl (by rw [hml]; rfl) (rest := []) (W := 0) (lenOf pd_1 rfl) rfl (by show 2 * 0 + _ ≤ _; exact Nat.le_of_eq rfl) (hb hby at_114) (by decide) (by decide) (by decide) (by decide)
    obtain ⟨rfl, Nq248, hh258⟩ := hQ248
    have N248 := Fr.app N179 Nq248
    refine own_via (fun t k => st248 t (XS.iloadN X248.here hx rfl (hb hby at_117) rfl (XS.icmpNo X248.here hx rfl (hb hby at_118) rfl (teq (by decide : (1 : Int32) = (1 : Int32))).2 (XS.iconst X248.here hx rfl (hb hby at_121) (XS.goto X248.here hx rfl (pc0 := 122) (pc' := 126) rfl (hb hby at_122) (by decide) (by decide) k))))) ?_
    show own_Goes p e below (T248.setTop (mkF m 126 #[iv i0, rv b112, iv (5 : Int32), iv (1 : Int32)] [(.int (1 : Int32))])) _
    obtain ⟨fs, hr, hrun, hended, hW, hsame⟩ := X248.leave (v := some (.int (1 : Int32))) (fun h => by rw [Bd.returns] at h; cases h)
    refine own_end (t := T248.setFrames fs) ?_ ⟨_, hrun, hended, _, _, rfl, ?_, ⟨_, rfl⟩, hW, hsame.mono (by decide) (by decide)⟩
    · exact retN X248 hx (t := .boolean) Bd.returns (by simp) (hb hby at_126) hr
    · exact ⟨rfl, N248⟩
  · have qs259 := qs
    rw [qs]
    show own_Goes p e below (T179.setTop (mkF m 98 #[iv i0, rv b112, .unset, .unset] [(.int (6 : Int32))])) _
    refine own_via (fun t k => XS.istoreN X179.here hx rfl (hb hby at_98) rfl (l' := #[iv i0, rv b112, iv (6 : Int32), .unset]) rfl (XS.iloadN X179.here hx rfl (hb hby at_99) rfl (XS.bipush X179.here hx rfl (hb hby at_100) (XS.icmpNo X179.here hx rfl (hb hby at_102) rfl (tlt (by decide : (6 : Int32) < (8 : Int32))).2.1 (XS.iconst X179.here hx rfl (hb hby at_105) (XS.goto X179.here hx rfl (pc0 := 106) (pc' := 110) rfl (hb hby at_106) (by decide) (by decide) (XS.istoreN X179.here hx rfl (hb hby at_110) rfl (l' := #[iv i0, rv b112, iv (6 : Int32), iv (1 : Int32)]) rfl (XS.aloadN X179.here hx rfl (hb hby at_111) rfl rfl (XS.iloadN X179.here hx rfl (hb hby at_112) rfl k))))))))) ?_
    show own_Goes p e below (T179.setTop (mkF m 113 #[iv i0, rv b112, iv (6 : Int32), iv (1 : Int32)] [(.int (6 : Int32)), (.ref b112)])) _
    obtain ⟨cl260, Ar260, qq260, S260, M260, H260, G260⟩ := id (V180)
    have hin260 : ¬ ((6 : Int32) < 0 ∨ cl260.slots.size ≤ ((6 : Int32)).toNatClampNeg) := inb_of S260 ⟨by decide, by decide⟩
    refine own_via (fun t k => X179.aaload hx (j := (6 : Int32)) (v := (.ref w77)) (by rw [e179]; exact Ar260.1) (State.isArrayOf_alike hZ.alike Ar260.2.1) rfl Ar260.2.2 hin260 (Has.at H260 hin260 rfl) (g := (mkF m 113 #[iv i0, rv b112, iv (6 : Int32), iv (1 : Int32)] [(.int (6 : Int32)), (.ref b112)])) rfl rfl (hb hby at_113) t k) ?_
    have O271 : Old Z n0 h179 := (O177.wr W179 g113)
    obtain ⟨_, T261, _, X261, hQ261, st261⟩ := own_cv X179 hx hZ hown (wd hw 31 rfl) (wd hw 32 rfl) (wd hw 34 rfl) (wd hw 33 rfl) (wd hw 35 rfl) (wd hw 3 rfl) (by decide) (rm7 l Z a0 hw [] w77 h179 n0 O271 SF_w77_game S_Result_FORFEIT_WIN) e179 (SE_w77.ext O271.2) (g := (mkF m 114 #[iv i0, rv b112, iv (6 : Int32), iv (1 : Int32)] [(.ref w77)])) rfl (by rw [hml]; rfl) (rest := []) (W := 0) (lenOf pd_1 rfl) rfl (by show 2 * 0 + _ ≤ _; exact Nat.le_of_eq rfl) (hb hby at_114) (by decide) (by decide) (by decide) (by decide)
    obtain ⟨rfl, Nq261, hh272⟩ := hQ261
    have N261 := Fr.app N179 Nq261
    refine own_via (fun t k => st261 t (XS.iloadN X261.here hx rfl (hb hby at_117) rfl (XS.icmpNo X261.here hx rfl (hb hby at_118) rfl (teq (by decide : (1 : Int32) = (1 : Int32))).2 (XS.iconst X261.here hx rfl (hb hby at_121) (XS.goto X261.here hx rfl (pc0 := 122) (pc' := 126) rfl (hb hby at_122) (by decide) (by decide) k))))) ?_
    show own_Goes p e below (T261.setTop (mkF m 126 #[iv i0, rv b112, iv (6 : Int32), iv (1 : Int32)] [(.int (1 : Int32))])) _
    obtain ⟨fs, hr, hrun, hended, hW, hsame⟩ := X261.leave (v := some (.int (1 : Int32))) (fun h => by rw [Bd.returns] at h; cases h)
    refine own_end (t := T261.setFrames fs) ?_ ⟨_, hrun, hended, _, _, rfl, ?_, ⟨_, rfl⟩, hW, hsame.mono (by decide) (by decide)⟩
    · exact retN X261 hx (t := .boolean) Bd.returns (by simp) (hb hby at_126) hr
    · exact ⟨rfl, N261⟩
  · have qs273 := qs
    rw [qs]
    show own_Goes p e below (T179.setTop (mkF m 98 #[iv i0, rv b112, .unset, .unset] [(.int (7 : Int32))])) _
    refine own_via (fun t k => XS.istoreN X179.here hx rfl (hb hby at_98) rfl (l' := #[iv i0, rv b112, iv (7 : Int32), .unset]) rfl (XS.iloadN X179.here hx rfl (hb hby at_99) rfl (XS.bipush X179.here hx rfl (hb hby at_100) (XS.icmpNo X179.here hx rfl (hb hby at_102) rfl (tlt (by decide : (7 : Int32) < (8 : Int32))).2.1 (XS.iconst X179.here hx rfl (hb hby at_105) (XS.goto X179.here hx rfl (pc0 := 106) (pc' := 110) rfl (hb hby at_106) (by decide) (by decide) (XS.istoreN X179.here hx rfl (hb hby at_110) rfl (l' := #[iv i0, rv b112, iv (7 : Int32), iv (1 : Int32)]) rfl (XS.aloadN X179.here hx rfl (hb hby at_111) rfl rfl (XS.iloadN X179.here hx rfl (hb hby at_112) rfl k))))))))) ?_
    show own_Goes p e below (T179.setTop (mkF m 113 #[iv i0, rv b112, iv (7 : Int32), iv (1 : Int32)] [(.int (7 : Int32)), (.ref b112)])) _
    obtain ⟨cl274, Ar274, qq274, S274, M274, H274, G274⟩ := id (V180)
    have hin274 : ¬ ((7 : Int32) < 0 ∨ cl274.slots.size ≤ ((7 : Int32)).toNatClampNeg) := inb_of S274 ⟨by decide, by decide⟩
    refine own_via (fun t k => X179.aaload hx (j := (7 : Int32)) (v := (.ref w79)) (by rw [e179]; exact Ar274.1) (State.isArrayOf_alike hZ.alike Ar274.2.1) rfl Ar274.2.2 hin274 (Has.at H274 hin274 rfl) (g := (mkF m 113 #[iv i0, rv b112, iv (7 : Int32), iv (1 : Int32)] [(.int (7 : Int32)), (.ref b112)])) rfl rfl (hb hby at_113) t k) ?_
    have O286 : Old Z n0 h179 := (O177.wr W179 g113)
    obtain ⟨_, T275, _, X275, hQ275, st275⟩ := own_cv X179 hx hZ hown (wd hw 31 rfl) (wd hw 32 rfl) (wd hw 34 rfl) (wd hw 33 rfl) (wd hw 35 rfl) (wd hw 3 rfl) (by decide) (rm8 l Z a0 hw [] w79 w77 h179 n0 O286 SF_w79_game S_Result_FORFEIT_WIN SF_w79_ordinal SF_w77_ordinal S_Result_FORFEIT_LOSS) e179 (SE_w79.ext O286.2) (g := (mkF m 114 #[iv i0, rv b112, iv (7 : Int32), iv (1 : Int32)] [(.ref w79)])) rfl (by rw [hml]; rfl) (rest := []) (W := 0) (lenOf pd_1 rfl) rfl (by show 2 * 0 + _ ≤ _; exact Nat.le_of_eq rfl) (hb hby at_114) (by decide) (by decide) (by decide) (by decide)
    obtain ⟨rfl, Nq275, hh287⟩ := hQ275
    have N275 := Fr.app N179 Nq275
    refine own_via (fun t k => st275 t (XS.iloadN X275.here hx rfl (hb hby at_117) rfl (XS.icmpNo X275.here hx rfl (hb hby at_118) rfl (teq (by decide : (1 : Int32) = (1 : Int32))).2 (XS.iconst X275.here hx rfl (hb hby at_121) (XS.goto X275.here hx rfl (pc0 := 122) (pc' := 126) rfl (hb hby at_122) (by decide) (by decide) k))))) ?_
    show own_Goes p e below (T275.setTop (mkF m 126 #[iv i0, rv b112, iv (7 : Int32), iv (1 : Int32)] [(.int (1 : Int32))])) _
    obtain ⟨fs, hr, hrun, hended, hW, hsame⟩ := X275.leave (v := some (.int (1 : Int32))) (fun h => by rw [Bd.returns] at h; cases h)
    refine own_end (t := T275.setFrames fs) ?_ ⟨_, hrun, hended, _, _, rfl, ?_, ⟨_, rfl⟩, hW, hsame.mono (by decide) (by decide)⟩
    · exact retN X275 hx (t := .boolean) Bd.returns (by simp) (hb hby at_126) hr
    · exact ⟨rfl, N275⟩
  · have qs288 := qs
    rw [qs]
    show own_Goes p e below (T179.setTop (mkF m 98 #[iv i0, rv b112, .unset, .unset] [(.int (8 : Int32))])) _
    refine own_via (fun t k => XS.istoreN X179.here hx rfl (hb hby at_98) rfl (l' := #[iv i0, rv b112, iv (8 : Int32), .unset]) rfl (XS.iloadN X179.here hx rfl (hb hby at_99) rfl (XS.bipush X179.here hx rfl (hb hby at_100) (XS.icmpYes X179.here hx rfl (pc0 := 102) (pc' := 109) rfl (hb hby at_102) rfl (flt (by decide : ¬ ((8 : Int32) < (8 : Int32)))).2.1 (by decide) (by decide) (XS.iconst X179.here hx rfl (hb hby at_109) (XS.istoreN X179.here hx rfl (hb hby at_110) rfl (l' := #[iv i0, rv b112, iv (8 : Int32), iv (0 : Int32)]) rfl (XS.aloadN X179.here hx rfl (hb hby at_111) rfl rfl (XS.iloadN X179.here hx rfl (hb hby at_112) rfl k)))))))) ?_
    show own_Goes p e below (T179.setTop (mkF m 113 #[iv i0, rv b112, iv (8 : Int32), iv (0 : Int32)] [(.int (8 : Int32)), (.ref b112)])) _
    obtain ⟨cl289, Ar289, qq289, S289, M289, H289, G289⟩ := id (V180)
    have hin289 : ¬ ((8 : Int32) < 0 ∨ cl289.slots.size ≤ ((8 : Int32)).toNatClampNeg) := inb_of S289 ⟨by decide, by decide⟩
    refine own_via (fun t k => X179.aaload hx (j := (8 : Int32)) (v := (.ref w81)) (by rw [e179]; exact Ar289.1) (State.isArrayOf_alike hZ.alike Ar289.2.1) rfl Ar289.2.2 hin289 (Has.at H289 hin289 rfl) (g := (mkF m 113 #[iv i0, rv b112, iv (8 : Int32), iv (0 : Int32)] [(.int (8 : Int32)), (.ref b112)])) rfl rfl (hb hby at_113) t k) ?_
    have O301 : Old Z n0 h179 := (O177.wr W179 g113)
    obtain ⟨_, T290, _, X290, hQ290, st290⟩ := own_cv X179 hx hZ hown (wd hw 31 rfl) (wd hw 32 rfl) (wd hw 34 rfl) (wd hw 33 rfl) (wd hw 35 rfl) (wd hw 3 rfl) (by decide) (rm9 l Z a0 hw [] w81 w77 w79 h179 n0 O301 SF_w81_game S_Result_FORFEIT_WIN SF_w81_ordinal SF_w77_ordinal S_Result_FORFEIT_LOSS SF_w79_ordinal) e179 (SE_w81.ext O301.2) (g := (mkF m 114 #[iv i0, rv b112, iv (8 : Int32), iv (0 : Int32)] [(.ref w81)])) rfl (by rw [hml]; rfl) (rest := []) (W := 0) (lenOf pd_1 rfl) rfl (by show 2 * 0 + _ ≤ _; exact Nat.le_of_eq rfl) (hb hby at_114) (by decide) (by decide) (by decide) (by decide)
    obtain ⟨rfl, Nq290, hh302⟩ := hQ290
    have N290 := Fr.app N179 Nq290
    refine own_via (fun t k => st290 t (XS.iloadN X290.here hx rfl (hb hby at_117) rfl (XS.icmpNo X290.here hx rfl (hb hby at_118) rfl (teq (by decide : (0 : Int32) = (0 : Int32))).2 (XS.iconst X290.here hx rfl (hb hby at_121) (XS.goto X290.here hx rfl (pc0 := 122) (pc' := 126) rfl (hb hby at_122) (by decide) (by decide) k))))) ?_
    show own_Goes p e below (T290.setTop (mkF m 126 #[iv i0, rv b112, iv (8 : Int32), iv (0 : Int32)] [(.int (1 : Int32))])) _
    obtain ⟨fs, hr, hrun, hended, hW, hsame⟩ := X290.leave (v := some (.int (1 : Int32))) (fun h => by rw [Bd.returns] at h; cases h)
    refine own_end (t := T290.setFrames fs) ?_ ⟨_, hrun, hended, _, _, rfl, ?_, ⟨_, rfl⟩, hW, hsame.mono (by decide) (by decide)⟩
    · exact retN X290 hx (t := .boolean) Bd.returns (by simp) (hb hby at_126) hr
    · exact ⟨rfl, N290⟩
  · have qs303 := qs
    rw [qs]
    show own_Goes p e below (T179.setTop (mkF m 98 #[iv i0, rv b112, .unset, .unset] [(.int (9 : Int32))])) _
    refine own_via (fun t k => XS.istoreN X179.here hx rfl (hb hby at_98) rfl (l' := #[iv i0, rv b112, iv (9 : Int32), .unset]) rfl (XS.iloadN X179.here hx rfl (hb hby at_99) rfl (XS.bipush X179.here hx rfl (hb hby at_100) (XS.icmpYes X179.here hx rfl (pc0 := 102) (pc' := 109) rfl (hb hby at_102) rfl (flt (by decide : ¬ ((9 : Int32) < (8 : Int32)))).2.1 (by decide) (by decide) (XS.iconst X179.here hx rfl (hb hby at_109) (XS.istoreN X179.here hx rfl (hb hby at_110) rfl (l' := #[iv i0, rv b112, iv (9 : Int32), iv (0 : Int32)]) rfl (XS.aloadN X179.here hx rfl (hb hby at_111) rfl rfl (XS.iloadN X179.here hx rfl (hb hby at_112) rfl k)))))))) ?_
    show own_Goes p e below (T179.setTop (mkF m 113 #[iv i0, rv b112, iv (9 : Int32), iv (0 : Int32)] [(.int (9 : Int32)), (.ref b112)])) _
    obtain ⟨cl304, Ar304, qq304, S304, M304, H304, G304⟩ := id (V180)
    have hin304 : ¬ ((9 : Int32) < 0 ∨ cl304.slots.size ≤ ((9 : Int32)).toNatClampNeg) := inb_of S304 ⟨by decide, by decide⟩
    refine own_via (fun t k => X179.aaload hx (j := (9 : Int32)) (v := (.ref w83)) (by rw [e179]; exact Ar304.1) (State.isArrayOf_alike hZ.alike Ar304.2.1) rfl Ar304.2.2 hin304 (Has.at H304 hin304 rfl) (g := (mkF m 113 #[iv i0, rv b112, iv (9 : Int32), iv (0 : Int32)] [(.int (9 : Int32)), (.ref b112)])) rfl rfl (hb hby at_113) t k) ?_
    have O316 : Old Z n0 h179 := (O177.wr W179 g113)
    obtain ⟨_, T305, _, X305, hQ305, st305⟩ := own_cv X179 hx hZ hown (wd hw 31 rfl) (wd hw 32 rfl) (wd hw 34 rfl) (wd hw 33 rfl) (wd hw 35 rfl) (wd hw 3 rfl) (by decide) (rm10 l Z a0 hw [] w83 w77 w79 h179 n0 O316 SF_w83_game S_Result_FORFEIT_WIN SF_w83_ordinal SF_w77_ordinal S_Result_FORFEIT_LOSS SF_w79_ordinal) e179 (SE_w83.ext O316.2) (g := (mkF m 114 #[iv i0, rv b112, iv (9 : Int32), iv (0 : Int32)] [(.ref w83)])) rfl (by rw [hml]; rfl) (rest := []) (W := 0) (lenOf pd_1 rfl) rfl (by show 2 * 0 + _ ≤ _; exact Nat.le_of_eq rfl) (hb hby at_114) (by decide) (by decide) (by decide) (by decide)
    obtain ⟨rfl, Nq305, hh317⟩ := hQ305
    have N305 := Fr.app N179 Nq305
    refine own_via (fun t k => st305 t (XS.iloadN X305.here hx rfl (hb hby at_117) rfl (XS.icmpNo X305.here hx rfl (hb hby at_118) rfl (teq (by decide : (0 : Int32) = (0 : Int32))).2 (XS.iconst X305.here hx rfl (hb hby at_121) (XS.goto X305.here hx rfl (pc0 := 122) (pc' := 126) rfl (hb hby at_122) (by decide) (by decide) k))))) ?_
    show own_Goes p e below (T305.setTop (mkF m 126 #[iv i0, rv b112, iv (9 : Int32), iv (0 : Int32)] [(.int (1 : Int32))])) _
    obtain ⟨fs, hr, hrun, hended, hW, hsame⟩ := X305.leave (v := some (.int (1 : Int32))) (fun h => by rw [Bd.returns] at h; cases h)
    refine own_end (t := T305.setFrames fs) ?_ ⟨_, hrun, hended, _, _, rfl, ?_, ⟨_, rfl⟩, hW, hsame.mono (by decide) (by decide)⟩
    · exact retN X305 hx (t := .boolean) Bd.returns (by simp) (hb hby at_126) hr
    · exact ⟨rfl, N305⟩
  · have qs318 := qs
    rw [qs]
    show own_Goes p e below (T179.setTop (mkF m 98 #[iv i0, rv b112, .unset, .unset] [(.int (10 : Int32))])) _
    refine own_via (fun t k => XS.istoreN X179.here hx rfl (hb hby at_98) rfl (l' := #[iv i0, rv b112, iv (10 : Int32), .unset]) rfl (XS.iloadN X179.here hx rfl (hb hby at_99) rfl (XS.bipush X179.here hx rfl (hb hby at_100) (XS.icmpYes X179.here hx rfl (pc0 := 102) (pc' := 109) rfl (hb hby at_102) rfl (flt (by decide : ¬ ((10 : Int32) < (8 : Int32)))).2.1 (by decide) (by decide) (XS.iconst X179.here hx rfl (hb hby at_109) (XS.istoreN X179.here hx rfl (hb hby at_110) rfl (l' := #[iv i0, rv b112, iv (10 : Int32), iv (0 : Int32)]) rfl (XS.aloadN X179.here hx rfl (hb hby at_111) rfl rfl (XS.iloadN X179.here hx rfl (hb hby at_112) rfl k)))))))) ?_
    show own_Goes p e below (T179.setTop (mkF m 113 #[iv i0, rv b112, iv (10 : Int32), iv (0 : Int32)] [(.int (10 : Int32)), (.ref b112)])) _
    obtain ⟨cl319, Ar319, qq319, S319, M319, H319, G319⟩ := id (V180)
    have hin319 : ¬ ((10 : Int32) < 0 ∨ cl319.slots.size ≤ ((10 : Int32)).toNatClampNeg) := inb_of S319 ⟨by decide, by decide⟩
    refine own_via (fun t k => X179.aaload hx (j := (10 : Int32)) (v := (.ref w85)) (by rw [e179]; exact Ar319.1) (State.isArrayOf_alike hZ.alike Ar319.2.1) rfl Ar319.2.2 hin319 (Has.at H319 hin319 rfl) (g := (mkF m 113 #[iv i0, rv b112, iv (10 : Int32), iv (0 : Int32)] [(.int (10 : Int32)), (.ref b112)])) rfl rfl (hb hby at_113) t k) ?_
    have O331 : Old Z n0 h179 := (O177.wr W179 g113)
    obtain ⟨_, T320, _, X320, hQ320, st320⟩ := own_cv X179 hx hZ hown (wd hw 31 rfl) (wd hw 32 rfl) (wd hw 34 rfl) (wd hw 33 rfl) (wd hw 35 rfl) (wd hw 3 rfl) (by decide) (rm11 l Z a0 hw [] w85 w77 w79 h179 n0 O331 SF_w85_game S_Result_FORFEIT_WIN SF_w85_ordinal SF_w77_ordinal S_Result_FORFEIT_LOSS SF_w79_ordinal) e179 (SE_w85.ext O331.2) (g := (mkF m 114 #[iv i0, rv b112, iv (10 : Int32), iv (0 : Int32)] [(.ref w85)])) rfl (by rw [hml]; rfl) (rest := []) (W := 0) (lenOf pd_1 rfl) rfl (by show 2 * 0 + _ ≤ _; exact Nat.le_of_eq rfl) (hb hby at_114) (by decide) (by decide) (by decide) (by decide)
    obtain ⟨rfl, Nq320, hh332⟩ := hQ320
    have N320 := Fr.app N179 Nq320
    refine own_via (fun t k => st320 t (XS.iloadN X320.here hx rfl (hb hby at_117) rfl (XS.icmpNo X320.here hx rfl (hb hby at_118) rfl (teq (by decide : (0 : Int32) = (0 : Int32))).2 (XS.iconst X320.here hx rfl (hb hby at_121) (XS.goto X320.here hx rfl (pc0 := 122) (pc' := 126) rfl (hb hby at_122) (by decide) (by decide) k))))) ?_
    show own_Goes p e below (T320.setTop (mkF m 126 #[iv i0, rv b112, iv (10 : Int32), iv (0 : Int32)] [(.int (1 : Int32))])) _
    obtain ⟨fs, hr, hrun, hended, hW, hsame⟩ := X320.leave (v := some (.int (1 : Int32))) (fun h => by rw [Bd.returns] at h; cases h)
    refine own_end (t := T320.setFrames fs) ?_ ⟨_, hrun, hended, _, _, rfl, ?_, ⟨_, rfl⟩, hW, hsame.mono (by decide) (by decide)⟩
    · exact retN X320 hx (t := .boolean) Bd.returns (by simp) (hb hby at_126) hr
    · exact ⟨rfl, N320⟩
  · have qs333 := qs
    rw [qs]
    show own_Goes p e below (T179.setTop (mkF m 98 #[iv i0, rv b112, .unset, .unset] [(.int (11 : Int32))])) _
    refine own_via (fun t k => XS.istoreN X179.here hx rfl (hb hby at_98) rfl (l' := #[iv i0, rv b112, iv (11 : Int32), .unset]) rfl (XS.iloadN X179.here hx rfl (hb hby at_99) rfl (XS.bipush X179.here hx rfl (hb hby at_100) (XS.icmpYes X179.here hx rfl (pc0 := 102) (pc' := 109) rfl (hb hby at_102) rfl (flt (by decide : ¬ ((11 : Int32) < (8 : Int32)))).2.1 (by decide) (by decide) (XS.iconst X179.here hx rfl (hb hby at_109) (XS.istoreN X179.here hx rfl (hb hby at_110) rfl (l' := #[iv i0, rv b112, iv (11 : Int32), iv (0 : Int32)]) rfl (XS.aloadN X179.here hx rfl (hb hby at_111) rfl rfl (XS.iloadN X179.here hx rfl (hb hby at_112) rfl k)))))))) ?_
    show own_Goes p e below (T179.setTop (mkF m 113 #[iv i0, rv b112, iv (11 : Int32), iv (0 : Int32)] [(.int (11 : Int32)), (.ref b112)])) _
    obtain ⟨cl334, Ar334, qq334, S334, M334, H334, G334⟩ := id (V180)
    have hin334 : ¬ ((11 : Int32) < 0 ∨ cl334.slots.size ≤ ((11 : Int32)).toNatClampNeg) := inb_of S334 ⟨by decide, by decide⟩
    refine own_via (fun t k => X179.aaload hx (j := (11 : Int32)) (v := (.ref w87)) (by rw [e179]; exact Ar334.1) (State.isArrayOf_alike hZ.alike Ar334.2.1) rfl Ar334.2.2 hin334 (Has.at H334 hin334 rfl) (g := (mkF m 113 #[iv i0, rv b112, iv (11 : Int32), iv (0 : Int32)] [(.int (11 : Int32)), (.ref b112)])) rfl rfl (hb hby at_113) t k) ?_
    have O346 : Old Z n0 h179 := (O177.wr W179 g113)
    obtain ⟨_, T335, _, X335, hQ335, st335⟩ := own_cv X179 hx hZ hown (wd hw 31 rfl) (wd hw 32 rfl) (wd hw 34 rfl) (wd hw 33 rfl) (wd hw 35 rfl) (wd hw 3 rfl) (by decide) (rm12 l Z a0 hw [] w87 w77 w79 h179 n0 O346 SF_w87_game S_Result_FORFEIT_WIN SF_w87_ordinal SF_w77_ordinal S_Result_FORFEIT_LOSS SF_w79_ordinal) e179 (SE_w87.ext O346.2) (g := (mkF m 114 #[iv i0, rv b112, iv (11 : Int32), iv (0 : Int32)] [(.ref w87)])) rfl (by rw [hml]; rfl) (rest := []) (W := 0) (lenOf pd_1 rfl) rfl (by show 2 * 0 + _ ≤ _; exact Nat.le_of_eq rfl) (hb hby at_114) (by decide) (by decide) (by decide) (by decide)
    obtain ⟨rfl, Nq335, hh347⟩ := hQ335
    have N335 := Fr.app N179 Nq335
    refine own_via (fun t k => st335 t (XS.iloadN X335.here hx rfl (hb hby at_117) rfl (XS.icmpNo X335.here hx rfl (hb hby at_118) rfl (teq (by decide : (0 : Int32) = (0 : Int32))).2 (XS.iconst X335.here hx rfl (hb hby at_121) (XS.goto X335.here hx rfl (pc0 := 122) (pc' := 126) rfl (hb hby at_122) (by decide) (by decide) k))))) ?_
    show own_Goes p e below (T335.setTop (mkF m 126 #[iv i0, rv b112, iv (11 : Int32), iv (0 : Int32)] [(.int (1 : Int32))])) _
    obtain ⟨fs, hr, hrun, hended, hW, hsame⟩ := X335.leave (v := some (.int (1 : Int32))) (fun h => by rw [Bd.returns] at h; cases h)
    refine own_end (t := T335.setFrames fs) ?_ ⟨_, hrun, hended, _, _, rfl, ?_, ⟨_, rfl⟩, hW, hsame.mono (by decide) (by decide)⟩
    · exact retN X335 hx (t := .boolean) Bd.returns (by simp) (hb hby at_126) hr
    · exact ⟨rfl, N335⟩
  · have qs348 := qs
    rw [qs]
    show own_Goes p e below (T179.setTop (mkF m 98 #[iv i0, rv b112, .unset, .unset] [(.int (12 : Int32))])) _
    refine own_via (fun t k => XS.istoreN X179.here hx rfl (hb hby at_98) rfl (l' := #[iv i0, rv b112, iv (12 : Int32), .unset]) rfl (XS.iloadN X179.here hx rfl (hb hby at_99) rfl (XS.bipush X179.here hx rfl (hb hby at_100) (XS.icmpYes X179.here hx rfl (pc0 := 102) (pc' := 109) rfl (hb hby at_102) rfl (flt (by decide : ¬ ((12 : Int32) < (8 : Int32)))).2.1 (by decide) (by decide) (XS.iconst X179.here hx rfl (hb hby at_109) (XS.istoreN X179.here hx rfl (hb hby at_110) rfl (l' := #[iv i0, rv b112, iv (12 : Int32), iv (0 : Int32)]) rfl (XS.aloadN X179.here hx rfl (hb hby at_111) rfl rfl (XS.iloadN X179.here hx rfl (hb hby at_112) rfl k)))))))) ?_
    show own_Goes p e below (T179.setTop (mkF m 113 #[iv i0, rv b112, iv (12 : Int32), iv (0 : Int32)] [(.int (12 : Int32)), (.ref b112)])) _
    obtain ⟨cl349, Ar349, qq349, S349, M349, H349, G349⟩ := id (V180)
    have hin349 : ¬ ((12 : Int32) < 0 ∨ cl349.slots.size ≤ ((12 : Int32)).toNatClampNeg) := inb_of S349 ⟨by decide, by decide⟩
    refine own_via (fun t k => X179.aaload hx (j := (12 : Int32)) (v := (.ref w89)) (by rw [e179]; exact Ar349.1) (State.isArrayOf_alike hZ.alike Ar349.2.1) rfl Ar349.2.2 hin349 (Has.at H349 hin349 rfl) (g := (mkF m 113 #[iv i0, rv b112, iv (12 : Int32), iv (0 : Int32)] [(.int (12 : Int32)), (.ref b112)])) rfl rfl (hb hby at_113) t k) ?_
    have O361 : Old Z n0 h179 := (O177.wr W179 g113)
    obtain ⟨_, T350, _, X350, hQ350, st350⟩ := own_cv X179 hx hZ hown (wd hw 31 rfl) (wd hw 32 rfl) (wd hw 34 rfl) (wd hw 33 rfl) (wd hw 35 rfl) (wd hw 3 rfl) (by decide) (rm13 l Z a0 hw [] w89 w77 w79 h179 n0 O361 SF_w89_game S_Result_FORFEIT_WIN SF_w89_ordinal SF_w77_ordinal S_Result_FORFEIT_LOSS SF_w79_ordinal) e179 (SE_w89.ext O361.2) (g := (mkF m 114 #[iv i0, rv b112, iv (12 : Int32), iv (0 : Int32)] [(.ref w89)])) rfl (by rw [hml]; rfl) (rest := []) (W := 0) (lenOf pd_1 rfl) rfl (by show 2 * 0 + _ ≤ _; exact Nat.le_of_eq rfl) (hb hby at_114) (by decide) (by decide) (by decide) (by decide)
    obtain ⟨rfl, Nq350, hh362⟩ := hQ350
    have N350 := Fr.app N179 Nq350
    refine own_via (fun t k => st350 t (XS.iloadN X350.here hx rfl (hb hby at_117) rfl (XS.icmpNo X350.here hx rfl (hb hby at_118) rfl (teq (by decide : (0 : Int32) = (0 : Int32))).2 (XS.iconst X350.here hx rfl (hb hby at_121) (XS.goto X350.here hx rfl (pc0 := 122) (pc' := 126) rfl (hb hby at_122) (by decide) (by decide) k))))) ?_
    show own_Goes p e below (T350.setTop (mkF m 126 #[iv i0, rv b112, iv (12 : Int32), iv (0 : Int32)] [(.int (1 : Int32))])) _
    obtain ⟨fs, hr, hrun, hended, hW, hsame⟩ := X350.leave (v := some (.int (1 : Int32))) (fun h => by rw [Bd.returns] at h; cases h)
    refine own_end (t := T350.setFrames fs) ?_ ⟨_, hrun, hended, _, _, rfl, ?_, ⟨_, rfl⟩, hW, hsame.mono (by decide) (by decide)⟩
    · exact retN X350 hx (t := .boolean) Bd.returns (by simp) (hb hby at_126) hr
    · exact ⟨rfl, N350⟩
set_option maxRecDepth 65536 in
set_option maxHeartbeats 40000000 in
theorem comes_1 {Post : Tables → Env → Array Value → State → Outcome → State → Prop} (hpost : ∀ tb e args s v u, (limb_1_1.after args s (.returned v) u = true ∧ limb_1_2.after args s (.returned v) u = true ∧ True) → FrameEnd s (.returned v) u (Jvm.fieldLocs frame_1_writes args s ++ Jvm.arrayLocs frame_1_arrays args s ++ Jvm.staticLocs frame_1_statics s) 16 128 → Post tb e args s (.returned v) u) :
    ArmFor flags0 classFile x code maxLocals ret World_1 tables_1 room_1 Calls_1 rest_1 Pre_1 Post := by
  intro l hfl _ _ p e ha hc hk s m args below hf hA hF happ hP
  obtain ⟨hcalls, hrest, hpre⟩ := hP
  obtain ⟨-, -, -, hnamed, -, -, -, hat⟩ := (Spec.applies_iff hf).mp happ
  obtain ⟨hg, hn⟩ := and_e (Cond.before_iff.mp (show (Jvm.Cond.and given_1 narrow_1).before args s = true from hpre))
  obtain ⟨g363, g364⟩ := and_e hg
  obtain ⟨w0, rfl⟩ : ∃ w0 : Value, args = #[w0] := by
    have hs : args.size = 1 := by simpa [Cond.value, given_1] using g363
    obtain ⟨L⟩ := args
    match L, hs with
    | [w0], _ => exact ⟨w0, rfl⟩
  have hw := fun d (hd : d ∈ tables_1) => atoms_spec (ws := Jvm.Cond.code x code maxLocals ret :: tables_1) hat d (List.mem_cons_of_mem _ hd)
  have hfit : Fit s := fun {y c} hc i hi => by
    obtain ⟨ha, rfl⟩ := Array.getElem?_eq_some_iff.mp hc
    have q := List.all_eq_true.mp ((Array.all_eq_true_iff_forall_mem.mp hF) _ (Array.getElem_mem ha)) i (List.mem_range.mpr hi)
    simpa [Array.getElem?_eq_getElem hi] using q
  obtain ⟨n1, n2⟩ := and_e hn
  obtain ⟨n3, n4⟩ := and_e n2
  obtain ⟨n5, n6⟩ := and_e n4
  obtain ⟨n7, n8⟩ := and_e n6
  obtain ⟨n9, n10⟩ := and_e n8
  obtain ⟨n11, n12⟩ := and_e n10
  obtain ⟨n13, n14⟩ := and_e n12
  obtain ⟨n15, n16⟩ := and_e n14
  obtain ⟨n17, n18⟩ := and_e n16
  obtain ⟨n19, n20⟩ := and_e n18
  obtain ⟨n21, n22⟩ := and_e n20
  obtain ⟨n23, n24⟩ := and_e n22
  obtain ⟨n25, n26⟩ := and_e n24
  obtain ⟨n27, n28⟩ := and_e n26
  obtain ⟨n29, n30⟩ := and_e n28
  obtain ⟨n31, n32⟩ := and_e n30
  obtain ⟨n33, n34⟩ := and_e n32
  obtain ⟨n35, n36⟩ := and_e n34
  obtain ⟨n37, n38⟩ := and_e n36
  obtain ⟨n39, n40⟩ := and_e n38
  obtain ⟨n41, n42⟩ := and_e n40
  obtain ⟨n43, n44⟩ := and_e n42
  obtain ⟨n45, n46⟩ := and_e n44
  obtain ⟨n47, n48⟩ := and_e n46
  obtain ⟨n49, n50⟩ := and_e n48
  obtain ⟨n51, n52⟩ := and_e n50
  obtain ⟨n53, n54⟩ := and_e n52
  obtain ⟨n55, n56⟩ := and_e n54
  obtain ⟨n57, n58⟩ := and_e n56
  obtain ⟨n59, n60⟩ := and_e n58
  obtain ⟨n61, n62⟩ := and_e n60
  obtain ⟨n63, n64⟩ := and_e n62
  obtain ⟨w65, ev66⟩ := exa_v n1
  have S_Result_WIN : Sta s s.heap zs1 "WIN" zs2 (.ref w65) := Sta.start ev66 (Or.inr ⟨(wd hw 3 rfl), (wd hw 4 rfl)⟩)
  have SE_w65 : Exa s s.heap w65 zs1 := Exa.start ev66 n1
  obtain ⟨w67, ev68⟩ := exa_v n3
  have S_Result_DRAW : Sta s s.heap zs1 "DRAW" zs2 (.ref w67) := Sta.start ev68 (Or.inr ⟨(wd hw 3 rfl), (wd hw 7 rfl)⟩)
  have SE_w67 : Exa s s.heap w67 zs1 := Exa.start ev68 n3
  obtain ⟨w69, ev70⟩ := exa_v n5
  have S_Result_LOSS : Sta s s.heap zs1 "LOSS" zs2 (.ref w69) := Sta.start ev70 (Or.inr ⟨(wd hw 3 rfl), (wd hw 9 rfl)⟩)
  have SE_w69 : Exa s s.heap w69 zs1 := Exa.start ev70 n5
  obtain ⟨w71, ev72⟩ := exa_v n7
  have S_Result_UNRATED_WIN : Sta s s.heap zs1 "UNRATED_WIN" zs2 (.ref w71) := Sta.start ev72 (Or.inr ⟨(wd hw 3 rfl), (wd hw 11 rfl)⟩)
  have SE_w71 : Exa s s.heap w71 zs1 := Exa.start ev72 n7
  obtain ⟨w73, ev74⟩ := exa_v n9
  have S_Result_UNRATED_DRAW : Sta s s.heap zs1 "UNRATED_DRAW" zs2 (.ref w73) := Sta.start ev74 (Or.inr ⟨(wd hw 3 rfl), (wd hw 13 rfl)⟩)
  have SE_w73 : Exa s s.heap w73 zs1 := Exa.start ev74 n9
  obtain ⟨w75, ev76⟩ := exa_v n11
  have S_Result_UNRATED_LOSS : Sta s s.heap zs1 "UNRATED_LOSS" zs2 (.ref w75) := Sta.start ev76 (Or.inr ⟨(wd hw 3 rfl), (wd hw 15 rfl)⟩)
  have SE_w75 : Exa s s.heap w75 zs1 := Exa.start ev76 n11
  obtain ⟨w77, ev78⟩ := exa_v n13
  have S_Result_FORFEIT_WIN : Sta s s.heap zs1 "FORFEIT_WIN" zs2 (.ref w77) := Sta.start ev78 (Or.inr ⟨(wd hw 3 rfl), (wd hw 17 rfl)⟩)
  have SE_w77 : Exa s s.heap w77 zs1 := Exa.start ev78 n13
  obtain ⟨w79, ev80⟩ := exa_v n15
  have S_Result_FORFEIT_LOSS : Sta s s.heap zs1 zs5 zs2 (.ref w79) := Sta.start ev80 (Or.inr ⟨(wd hw 3 rfl), (wd hw 19 rfl)⟩)
  have SE_w79 : Exa s s.heap w79 zs1 := Exa.start ev80 n15
  obtain ⟨w81, ev82⟩ := exa_v n17
  have S_Result_PAIRING_ALLOCATED_BYE : Sta s s.heap zs1 "PAIRING_ALLOCATED_BYE" zs2 (.ref w81) := Sta.start ev82 (Or.inr ⟨(wd hw 3 rfl), (wd hw 21 rfl)⟩)
  have SE_w81 : Exa s s.heap w81 zs1 := Exa.start ev82 n17
  obtain ⟨w83, ev84⟩ := exa_v n19
  have S_Result_FULL_POINT_BYE : Sta s s.heap zs1 "FULL_POINT_BYE" zs2 (.ref w83) := Sta.start ev84 (Or.inr ⟨(wd hw 3 rfl), (wd hw 23 rfl)⟩)
  have SE_w83 : Exa s s.heap w83 zs1 := Exa.start ev84 n19
  obtain ⟨w85, ev86⟩ := exa_v n21
  have S_Result_HALF_POINT_BYE : Sta s s.heap zs1 "HALF_POINT_BYE" zs2 (.ref w85) := Sta.start ev86 (Or.inr ⟨(wd hw 3 rfl), (wd hw 25 rfl)⟩)
  have SE_w85 : Exa s s.heap w85 zs1 := Exa.start ev86 n21
  obtain ⟨w87, ev88⟩ := exa_v n23
  have S_Result_ZERO_POINT_BYE : Sta s s.heap zs1 "ZERO_POINT_BYE" zs2 (.ref w87) := Sta.start ev88 (Or.inr ⟨(wd hw 3 rfl), (wd hw 27 rfl)⟩)
  have SE_w87 : Exa s s.heap w87 zs1 := Exa.start ev88 n23
  obtain ⟨w89, ev90⟩ := exa_v n25
  have S_Result_NOT_PLAYED : Sta s s.heap zs1 "NOT_PLAYED" zs2 (.ref w89) := Sta.start ev90 (Or.inr ⟨(wd hw 3 rfl), (wd hw 29 rfl)⟩)
  have SE_w89 : Exa s s.heap w89 zs1 := Exa.start ev90 n25
  have ev91 := Cond.eq_int (show (Jvm.Cond.eq _ _).holds _ _ _ _ _ = true from Cond.before_iff.mpr n27) rfl
  have SF_w65_game : Fld s s.heap w65 zs1 "game" "Z" (.int (1 : Int32)) := Fld.start ((fld_at ev66).symm.trans ev91)
  have ev92 := Cond.eq_int (show (Jvm.Cond.eq _ _).holds _ _ _ _ _ = true from Cond.before_iff.mpr n29) rfl
  have SF_w71_game : Fld s s.heap w71 zs1 "game" "Z" (.int (1 : Int32)) := Fld.start ((fld_at ev72).symm.trans ev92)
  have ev93 := Cond.eq_int (show (Jvm.Cond.eq _ _).holds _ _ _ _ _ = true from Cond.before_iff.mpr n31) rfl
  have SF_w77_game : Fld s s.heap w77 zs1 "game" "Z" (.int (0 : Int32)) := Fld.start ((fld_at ev78).symm.trans ev93)
  have ev94 := Cond.eq_int (show (Jvm.Cond.eq _ _).holds _ _ _ _ _ = true from Cond.before_iff.mpr n33) rfl
  have SF_w75_game : Fld s s.heap w75 zs1 "game" "Z" (.int (1 : Int32)) := Fld.start ((fld_at ev76).symm.trans ev94)
  have ev95 := Cond.eq_int (show (Jvm.Cond.eq _ _).holds _ _ _ _ _ = true from Cond.before_iff.mpr n35) rfl
  have SF_w79_game : Fld s s.heap w79 zs1 "game" "Z" (.int (0 : Int32)) := Fld.start ((fld_at ev80).symm.trans ev95)
  have ev96 := Cond.eq_int (show (Jvm.Cond.eq _ _).holds _ _ _ _ _ = true from Cond.before_iff.mpr n37) rfl
  have SF_w79_ordinal : Fld s s.heap w79 zs3 "ordinal" "I" (.int (7 : Int32)) := Fld.start ((fld_at ev80).symm.trans ev96)
  have ev97 := Cond.eq_int (show (Jvm.Cond.eq _ _).holds _ _ _ _ _ = true from Cond.before_iff.mpr n39) rfl
  have SF_w77_ordinal : Fld s s.heap w77 zs3 "ordinal" "I" (.int (6 : Int32)) := Fld.start ((fld_at ev78).symm.trans ev97)
  have ev98 := Cond.eq_int (show (Jvm.Cond.eq _ _).holds _ _ _ _ _ = true from Cond.before_iff.mpr n41) rfl
  have SF_w83_game : Fld s s.heap w83 zs1 "game" "Z" (.int (0 : Int32)) := Fld.start ((fld_at ev84).symm.trans ev98)
  have ev99 := Cond.eq_int (show (Jvm.Cond.eq _ _).holds _ _ _ _ _ = true from Cond.before_iff.mpr n43) rfl
  have SF_w83_ordinal : Fld s s.heap w83 zs3 "ordinal" "I" (.int (9 : Int32)) := Fld.start ((fld_at ev84).symm.trans ev99)
  have ev100 := Cond.eq_int (show (Jvm.Cond.eq _ _).holds _ _ _ _ _ = true from Cond.before_iff.mpr n45) rfl
  have SF_w69_game : Fld s s.heap w69 zs1 "game" "Z" (.int (1 : Int32)) := Fld.start ((fld_at ev70).symm.trans ev100)
  have ev101 := Cond.eq_int (show (Jvm.Cond.eq _ _).holds _ _ _ _ _ = true from Cond.before_iff.mpr n47) rfl
  have SF_w87_game : Fld s s.heap w87 zs1 "game" "Z" (.int (0 : Int32)) := Fld.start ((fld_at ev88).symm.trans ev101)
  have ev102 := Cond.eq_int (show (Jvm.Cond.eq _ _).holds _ _ _ _ _ = true from Cond.before_iff.mpr n49) rfl
  have SF_w87_ordinal : Fld s s.heap w87 zs3 "ordinal" "I" (.int (11 : Int32)) := Fld.start ((fld_at ev88).symm.trans ev102)
  have ev103 := Cond.eq_int (show (Jvm.Cond.eq _ _).holds _ _ _ _ _ = true from Cond.before_iff.mpr n51) rfl
  have SF_w67_game : Fld s s.heap w67 zs1 "game" "Z" (.int (1 : Int32)) := Fld.start ((fld_at ev68).symm.trans ev103)
  have ev104 := Cond.eq_int (show (Jvm.Cond.eq _ _).holds _ _ _ _ _ = true from Cond.before_iff.mpr n53) rfl
  have SF_w81_game : Fld s s.heap w81 zs1 "game" "Z" (.int (0 : Int32)) := Fld.start ((fld_at ev82).symm.trans ev104)
  have ev105 := Cond.eq_int (show (Jvm.Cond.eq _ _).holds _ _ _ _ _ = true from Cond.before_iff.mpr n55) rfl
  have SF_w81_ordinal : Fld s s.heap w81 zs3 "ordinal" "I" (.int (8 : Int32)) := Fld.start ((fld_at ev82).symm.trans ev105)
  have ev106 := Cond.eq_int (show (Jvm.Cond.eq _ _).holds _ _ _ _ _ = true from Cond.before_iff.mpr n57) rfl
  have SF_w85_game : Fld s s.heap w85 zs1 "game" "Z" (.int (0 : Int32)) := Fld.start ((fld_at ev86).symm.trans ev106)
  have ev107 := Cond.eq_int (show (Jvm.Cond.eq _ _).holds _ _ _ _ _ = true from Cond.before_iff.mpr n59) rfl
  have SF_w85_ordinal : Fld s s.heap w85 zs3 "ordinal" "I" (.int (10 : Int32)) := Fld.start ((fld_at ev86).symm.trans ev107)
  have ev108 := Cond.eq_int (show (Jvm.Cond.eq _ _).holds _ _ _ _ _ = true from Cond.before_iff.mpr n61) rfl
  have SF_w89_game : Fld s s.heap w89 zs1 "game" "Z" (.int (0 : Int32)) := Fld.start ((fld_at ev90).symm.trans ev108)
  have ev109 := Cond.eq_int (show (Jvm.Cond.eq _ _).holds _ _ _ _ _ = true from Cond.before_iff.mpr n63) rfl
  have SF_w89_ordinal : Fld s s.heap w89 zs3 "ordinal" "I" (.int (12 : Int32)) := Fld.start ((fld_at ev90).symm.trans ev109)
  have ev110 := Cond.eq_int (show (Jvm.Cond.eq _ _).holds _ _ _ _ _ = true from Cond.before_iff.mpr n64) rfl
  have SF_w73_game : Fld s s.heap w73 zs1 "game" "Z" (.int (1 : Int32)) := Fld.start ((fld_at ev74).symm.trans ev110)
  obtain ⟨i0, ei0⟩ := is_v g364
  obtain rfl : w0 = (.int i0) := Option.some.inj ei0
  obtain ⟨n, o, h1, h2, h3, _, L, rfl, ⟨rfl, N⟩, hq⟩ := rm0 l s _ hw tables_1 i0 w65 w67 w69 w71 w73 w75 w77 w79 w81 w83 w85 w87 w89 s.heap s.heap.size (Old.start s) S_Result_WIN SE_w65 S_Result_DRAW SE_w67 S_Result_LOSS SE_w69 S_Result_UNRATED_WIN SE_w71 S_Result_UNRATED_DRAW SE_w73 S_Result_UNRATED_LOSS SE_w75 S_Result_FORFEIT_WIN SE_w77 S_Result_FORFEIT_LOSS SE_w79 S_Result_PAIRING_ALLOCATED_BYE SE_w81 S_Result_FULL_POINT_BYE SE_w83 S_Result_HALF_POINT_BYE SE_w85 S_Result_ZERO_POINT_BYE SE_w87 S_Result_NOT_PLAYED SE_w89 SF_w65_game SF_w67_game SF_w69_game SF_w71_game SF_w73_game SF_w75_game SF_w77_game SF_w79_game SF_w79_ordinal SF_w77_ordinal SF_w81_game SF_w81_ordinal SF_w83_game SF_w83_ordinal SF_w85_game SF_w85_ordinal SF_w87_game SF_w87_ordinal SF_w89_game SF_w89_ordinal p e ha hc hk s m _ below hf ((Spec.applies_iff_loose hf).mp happ).1 ⟨rfl, State.Warmed39.refl s, rfl⟩ trivial
  refine ⟨n, _, h1, h2, h3, hpost _ _ _ _ _ _ ⟨Cond.after_iff.mpr rfl, Cond.after_iff.mpr (eq_i res_at (Term.int_eval (1)) rfl), trivial⟩ ⟨hq.1, hq.2.1, (hq.2.2.sift fun y hy => Or.inr (N y hy)).mono (by decide) (by decide)⟩⟩
theorem main_1_1 : Claimed_1_1 := comes_1 fun _ _ _ _ _ _ h hF => ⟨h.1, hF⟩
theorem main_1_2 : Claimed_1_2 := comes_1 fun _ _ _ _ _ _ h hF => ⟨h.2.1, hF⟩
end Jvm.Pilot.@@N@@
namespace Jvm.Pilot.@@N@@
open Jvm Jvm.ClassFile Sem Op Lib Jvm.Free Jvm.Stand Jvm.Pilot.@@N@@.Jvm.D
/-! MADE BY PROGRAM (witnessworld.py) out of the Statement's table words and the real class files: 13 classes; the members and pool entries that the words name. The judged class is class 1, her method 1. -/
namespace start1
open Jvm.ClassFile
def u (s : String) : CpInfo := .utf8 (stringToUtf16 s)
/-- a pool by its gaps: so many unusable entries, then the entry; so many at the end -/
def gap : Nat → List CpInfo → List CpInfo
  | 0, r => r
  | n + 1, r => .unusable :: gap n r
def poolList (es : List (Nat × CpInfo)) (last : Nat) : List CpInfo := es.foldr (fun e r => gap e.1 (e.2 :: r)) (gap last [])
def pool (es : List (Nat × CpInfo)) (last : Nat) : Array CpInfo := ⟨poolList es last⟩
def fileOf (pool : Array CpInfo) (this : Nat) (attrs : Array Attribute := #[]) (ms : Array MethodInfo := #[]) (fl : Nat := 33) (sup : Nat := 0) (ifs : Array Nat := #[]) (fds : Array FieldInfo := #[]) : ClassFile where
  minorVersion := 0
  majorVersion := 65
  constantPool := pool
  accessFlags := fl
  thisClass := this
  superClass := sup
  interfaces := ifs
  fields := fds
  methods := ms
  attributes := attrs
def plain (name : String) (sup : Option ClassId) : Class where
  name := name
  kind := .ordinary
  loader := none
  accessFlags := 33
  super := sup
  interfaces := #[]
  cf := none
  fields := #[]
  methods := #[]
  instanceTypes := #[]
  staticTypes := #[]
  resolved := #[]
  callSites := []
  init := .initialized
  statics := none
  mirror := none

def pool0 : Array CpInfo := pool [(5, u "<init>"), (0, u "()V"), (1, .class_ 10), (1, u "java/lang/Object")] 113

def k0m0 : Method := { name := "<init>", desc := "()V", sig := { parameters := [], returnType := none }, accessFlags := 1, code := none }
/-- java/lang/Object -/
def k0 : Class := { plain "java/lang/Object" none with
  accessFlags := 33
  interfaces := #[]
  cf := some (fileOf pool0 8 #[] #[{ accessFlags := 1, nameIndex := 5, descriptorIndex := 6, attributes := #[] }] 33 0 #[] #[])
  fields := #[]
  methods := #[k0m0]
  instanceTypes := #[]
  staticTypes := #[]
  resolved := Array.replicate 124 none
  statics := none }

def pool1 : Array CpInfo := pool [(2, .class_ 4), (1, u "java/lang/Object"), (0, u "<init>"), (0, u "()V"), (0, .class_ 8), (0, u "com/example/rondier/rondier/model/Result"), (0, .fieldref 7 10), (0, .nameAndType 11 12), (0, u "WIN"), (0, u "Lcom/example/rondier/rondier/model/Result;"), (0, .fieldref 7 14), (0, .nameAndType 15 12), (0, u "DRAW"), (0, .fieldref 7 17), (0, .nameAndType 18 12), (0, u "LOSS"), (0, .fieldref 7 20), (0, .nameAndType 21 12), (0, u "UNRATED_WIN"), (0, .fieldref 7 23), (0, .nameAndType 24 12), (0, u "UNRATED_DRAW"), (0, .fieldref 7 26), (0, .nameAndType 27 12), (0, u "UNRATED_LOSS"), (0, .fieldref 7 29), (0, .nameAndType 30 12), (0, u "FORFEIT_WIN"), (0, .fieldref 7 32), (0, .nameAndType 33 12), (0, u "FORFEIT_LOSS"), (0, .fieldref 7 35), (0, .nameAndType 36 12), (0, u "PAIRING_ALLOCATED_BYE"), (0, .fieldref 7 38), (0, .nameAndType 39 12), (0, u "FULL_POINT_BYE"), (0, .fieldref 7 41), (0, .nameAndType 42 12), (0, u "HALF_POINT_BYE"), (0, .fieldref 7 44), (0, .nameAndType 45 12), (0, u "ZERO_POINT_BYE"), (0, .fieldref 7 47), (0, .nameAndType 48 12), (0, u "NOT_PLAYED"), (0, .integer 2147483647), (0, .methodref 7 51), (0, .nameAndType 52 53), (0, u "isGameOrForfeit"), (0, u "()Z"), (0, .class_ 55), (0, u "com/example/rondier/rondier/model/ResultIsGameOrForfeitPinLaw"), (2, u "law"), (0, u "(I)Z")] 5

def k1m0 : Method := { name := "<init>", desc := "()V", sig := { parameters := [], returnType := none }, accessFlags := 1, code := none }
def k1c1 : Code := { maxStack := 4, maxLocals := 4, code := code, exceptionTable := #[], attributes := #[] }
def k1m1 : Method := { name := "law", desc := "(I)Z", sig := { parameters := [.int], returnType := some .boolean }, accessFlags := 9, code := some k1c1 }
/-- com/example/rondier/rondier/model/ResultIsGameOrForfeitPinLaw -/
def k1 : Class := { plain "com/example/rondier/rondier/model/ResultIsGameOrForfeitPinLaw" (some 0) with
  accessFlags := 49
  interfaces := #[]
  cf := some (fileOf pool1 54 #[] #[{ accessFlags := 1, nameIndex := 5, descriptorIndex := 6, attributes := #[] }, { accessFlags := 9, nameIndex := 58, descriptorIndex := 59, attributes := #[] }] 49 2 #[] #[])
  fields := #[]
  methods := #[k1m0, k1m1]
  instanceTypes := #[]
  staticTypes := #[]
  resolved := Array.replicate 65 none
  statics := none }

def pool2 : Array CpInfo := pool [(1, .class_ 2), (0, u "java/lang/constant/Constable"), (0, .class_ 4), (0, u "java/lang/Object")] 6

/-- java/lang/constant/Constable -/
def k2 : Class := { plain "java/lang/constant/Constable" (some 0) with
  accessFlags := 1537
  interfaces := #[]
  cf := some (fileOf pool2 1 #[] #[] 1537 3 #[] #[])
  fields := #[]
  methods := #[]
  instanceTypes := #[]
  staticTypes := #[]
  resolved := Array.replicate 11 none
  statics := none }

def pool3 : Array CpInfo := pool [(1, .class_ 2), (0, u "java/lang/Comparable"), (0, .class_ 4), (0, u "java/lang/Object")] 7

/-- java/lang/Comparable -/
def k3 : Class := { plain "java/lang/Comparable" (some 0) with
  accessFlags := 1537
  interfaces := #[]
  cf := some (fileOf pool3 1 #[] #[] 1537 3 #[] #[])
  fields := #[]
  methods := #[]
  instanceTypes := #[]
  staticTypes := #[]
  resolved := Array.replicate 12 none
  statics := none }

def pool4 : Array CpInfo := pool [(1, .class_ 2), (0, u "java/io/Serializable"), (0, .class_ 4), (0, u "java/lang/Object")] 2

/-- java/io/Serializable -/
def k4 : Class := { plain "java/io/Serializable" (some 0) with
  accessFlags := 1537
  interfaces := #[]
  cf := some (fileOf pool4 1 #[] #[] 1537 3 #[] #[])
  fields := #[]
  methods := #[]
  instanceTypes := #[]
  staticTypes := #[]
  resolved := Array.replicate 7 none
  statics := none }

def pool5 : Array CpInfo := pool [(2, .class_ 4), (1, u "java/lang/Enum"), (0, u "name"), (0, u "Ljava/lang/String;"), (2, u "ordinal"), (0, u "I"), (1, .class_ 14), (1, u "java/lang/Object"), (4, u "hash"), (86, .class_ 108), (1, u "java/lang/Enum$EnumDesc"), (2, .class_ 112), (0, u "java/lang/constant/Constable"), (0, .class_ 114), (0, u "java/lang/Comparable"), (0, .class_ 116), (0, u "java/io/Serializable")] 87

/-- java/lang/Enum -/
def k5 : Class := { plain "java/lang/Enum" (some 0) with
  accessFlags := 1057
  interfaces := #[2, 3, 4]
  cf := some (fileOf pool5 2 #[.nestMembers #[106]] #[] 1057 12 #[111, 113, 115] #[{ accessFlags := 18, nameIndex := 5, descriptorIndex := 6, attributes := #[] }, { accessFlags := 18, nameIndex := 9, descriptorIndex := 10, attributes := #[] }, { accessFlags := 2, nameIndex := 19, descriptorIndex := 10, attributes := #[] }])
  fields := #[{ name := "name", type := (.object "java/lang/String"), accessFlags := 18, slot := 0, constantValue := 0 }, { name := "ordinal", type := .int, accessFlags := 18, slot := 1, constantValue := 0 }, { name := "hash", type := .int, accessFlags := 2, slot := 2, constantValue := 0 }]
  methods := #[]
  instanceTypes := #[(.object "java/lang/String"), .int, .int]
  staticTypes := #[]
  resolved := Array.replicate 204 none
  statics := none }

def pool6 : Array CpInfo := pool [(1, .class_ 2), (0, u "com/example/rondier/rondier/model/Result"), (2, u "WIN"), (0, u "Lcom/example/rondier/rondier/model/Result;"), (2, u "DRAW"), (2, u "LOSS"), (2, u "UNRATED_WIN"), (2, u "UNRATED_DRAW"), (2, u "UNRATED_LOSS"), (0, .fieldref 1 23), (0, .nameAndType 24 6), (0, u "FORFEIT_WIN"), (0, .fieldref 1 26), (0, .nameAndType 27 6), (0, u "FORFEIT_LOSS"), (2, u "PAIRING_ALLOCATED_BYE"), (2, u "FULL_POINT_BYE"), (2, u "HALF_POINT_BYE"), (2, u "ZERO_POINT_BYE"), (2, u "NOT_PLAYED"), (2, u "$VALUES"), (0, u "[Lcom/example/rondier/rondier/model/Result;"), (6, .class_ 55), (1, u "java/lang/Enum"), (8, u "code"), (0, u "C"), (2, u "halfPoints"), (0, u "I"), (0, .fieldref 1 71), (0, .nameAndType 72 73), (0, u "game"), (0, u "Z"), (54, u "()Z"), (0, u "isGameOrForfeit")] 7

def k6c0 : Code := { maxStack := 2, maxLocals := 1, code := prog_43_method_8_code, exceptionTable := #[], attributes := #[] }
def k6m0 : Method := { name := "isGameOrForfeit", desc := "()Z", sig := { parameters := [], returnType := some .boolean }, accessFlags := 1, code := some k6c0 }
/-- com/example/rondier/rondier/model/Result -/
def k6 : Class := { plain "com/example/rondier/rondier/model/Result" (some 5) with
  accessFlags := 16433
  interfaces := #[]
  cf := some (fileOf pool6 1 #[] #[{ accessFlags := 1, nameIndex := 129, descriptorIndex := 128, attributes := #[] }] 16433 53 #[] #[{ accessFlags := 16409, nameIndex := 5, descriptorIndex := 6, attributes := #[] }, { accessFlags := 16409, nameIndex := 9, descriptorIndex := 6, attributes := #[] }, { accessFlags := 16409, nameIndex := 12, descriptorIndex := 6, attributes := #[] }, { accessFlags := 16409, nameIndex := 15, descriptorIndex := 6, attributes := #[] }, { accessFlags := 16409, nameIndex := 18, descriptorIndex := 6, attributes := #[] }, { accessFlags := 16409, nameIndex := 21, descriptorIndex := 6, attributes := #[] }, { accessFlags := 16409, nameIndex := 24, descriptorIndex := 6, attributes := #[] }, { accessFlags := 16409, nameIndex := 27, descriptorIndex := 6, attributes := #[] }, { accessFlags := 16409, nameIndex := 30, descriptorIndex := 6, attributes := #[] }, { accessFlags := 16409, nameIndex := 33, descriptorIndex := 6, attributes := #[] }, { accessFlags := 16409, nameIndex := 36, descriptorIndex := 6, attributes := #[] }, { accessFlags := 16409, nameIndex := 39, descriptorIndex := 6, attributes := #[] }, { accessFlags := 16409, nameIndex := 42, descriptorIndex := 6, attributes := #[] }, { accessFlags := 18, nameIndex := 64, descriptorIndex := 65, attributes := #[] }, { accessFlags := 18, nameIndex := 68, descriptorIndex := 69, attributes := #[] }, { accessFlags := 18, nameIndex := 72, descriptorIndex := 73, attributes := #[] }, { accessFlags := 4122, nameIndex := 45, descriptorIndex := 46, attributes := #[] }])
  fields := #[{ name := "WIN", type := (.object "com/example/rondier/rondier/model/Result"), accessFlags := 16409, slot := 0, constantValue := 0 }, { name := "DRAW", type := (.object "com/example/rondier/rondier/model/Result"), accessFlags := 16409, slot := 1, constantValue := 0 }, { name := "LOSS", type := (.object "com/example/rondier/rondier/model/Result"), accessFlags := 16409, slot := 2, constantValue := 0 }, { name := "UNRATED_WIN", type := (.object "com/example/rondier/rondier/model/Result"), accessFlags := 16409, slot := 3, constantValue := 0 }, { name := "UNRATED_DRAW", type := (.object "com/example/rondier/rondier/model/Result"), accessFlags := 16409, slot := 4, constantValue := 0 }, { name := "UNRATED_LOSS", type := (.object "com/example/rondier/rondier/model/Result"), accessFlags := 16409, slot := 5, constantValue := 0 }, { name := "FORFEIT_WIN", type := (.object "com/example/rondier/rondier/model/Result"), accessFlags := 16409, slot := 6, constantValue := 0 }, { name := "FORFEIT_LOSS", type := (.object "com/example/rondier/rondier/model/Result"), accessFlags := 16409, slot := 7, constantValue := 0 }, { name := "PAIRING_ALLOCATED_BYE", type := (.object "com/example/rondier/rondier/model/Result"), accessFlags := 16409, slot := 8, constantValue := 0 }, { name := "FULL_POINT_BYE", type := (.object "com/example/rondier/rondier/model/Result"), accessFlags := 16409, slot := 9, constantValue := 0 }, { name := "HALF_POINT_BYE", type := (.object "com/example/rondier/rondier/model/Result"), accessFlags := 16409, slot := 10, constantValue := 0 }, { name := "ZERO_POINT_BYE", type := (.object "com/example/rondier/rondier/model/Result"), accessFlags := 16409, slot := 11, constantValue := 0 }, { name := "NOT_PLAYED", type := (.object "com/example/rondier/rondier/model/Result"), accessFlags := 16409, slot := 12, constantValue := 0 }, { name := "code", type := .char, accessFlags := 18, slot := 3, constantValue := 0 }, { name := "halfPoints", type := .int, accessFlags := 18, slot := 4, constantValue := 0 }, { name := "game", type := .boolean, accessFlags := 18, slot := 5, constantValue := 0 }, { name := "$VALUES", type := (.array (.object "com/example/rondier/rondier/model/Result")), accessFlags := 4122, slot := 13, constantValue := 0 }]
  methods := #[k6m0]
  instanceTypes := #[(.object "java/lang/String"), .int, .int, .char, .int, .boolean]
  staticTypes := #[(.object "com/example/rondier/rondier/model/Result"), (.object "com/example/rondier/rondier/model/Result"), (.object "com/example/rondier/rondier/model/Result"), (.object "com/example/rondier/rondier/model/Result"), (.object "com/example/rondier/rondier/model/Result"), (.object "com/example/rondier/rondier/model/Result"), (.object "com/example/rondier/rondier/model/Result"), (.object "com/example/rondier/rondier/model/Result"), (.object "com/example/rondier/rondier/model/Result"), (.object "com/example/rondier/rondier/model/Result"), (.object "com/example/rondier/rondier/model/Result"), (.object "com/example/rondier/rondier/model/Result"), (.object "com/example/rondier/rondier/model/Result"), (.array (.object "com/example/rondier/rondier/model/Result"))]
  resolved := Array.replicate 137 none
  statics := some 0 }

def pool7 : Array CpInfo := pool [(1, u "java/lang/Cloneable"), (0, .class_ 1), (0, u "java/lang/Object"), (0, .class_ 3)] 3

/-- java/lang/Cloneable -/
def k7 : Class := { plain "java/lang/Cloneable" (some 0) with
  accessFlags := 1537
  interfaces := #[]
  cf := some (fileOf pool7 2 #[] #[] 1537 4 #[] #[])
  fields := #[]
  methods := #[]
  instanceTypes := #[]
  staticTypes := #[]
  resolved := Array.replicate 8 none
  statics := none }

/-- the primitive byte -/
def k8 : Class := { plain "byte" none with kind := .primitive 'B', accessFlags := 0x411 }
/-- [B -/
def k9 : Class := { plain "[B" (some 0) with kind := .array 8 .byte, interfaces := #[7, 4], accessFlags := 1041 }

/-- the primitive int -/
def k10 : Class := { plain "int" none with kind := .primitive 'I', accessFlags := 0x411 }
/-- [I -/
def k11 : Class := { plain "[I" (some 0) with kind := .array 10 .int, interfaces := #[7, 4], accessFlags := 1041 }

/-- [Lcom/example/rondier/rondier/model/Result; -/
def k12 : Class := { plain "[Lcom/example/rondier/rondier/model/Result;" (some 0) with kind := .array 6 (.object "com/example/rondier/rondier/model/Result"), interfaces := #[7, 4], accessFlags := 1041 }

def heap : Heap := #[{ cls := 6, slots := #[.ref 1, .ref 2, .ref 3, .ref 4, .ref 5, .ref 6, .ref 7, .ref 8, .ref 9, .ref 10, .ref 11, .ref 12, .ref 13, .null], vm := .statics 6 },
  { cls := 6, slots := #[.null, .int 0, .int 0, .int 0, .int 0, .int 1], vm := .none },
  { cls := 6, slots := #[.null, .int 0, .int 0, .int 0, .int 0, .int 1], vm := .none },
  { cls := 6, slots := #[.null, .int 0, .int 0, .int 0, .int 0, .int 1], vm := .none },
  { cls := 6, slots := #[.null, .int 0, .int 0, .int 0, .int 0, .int 1], vm := .none },
  { cls := 6, slots := #[.null, .int 0, .int 0, .int 0, .int 0, .int 1], vm := .none },
  { cls := 6, slots := #[.null, .int 0, .int 0, .int 0, .int 0, .int 1], vm := .none },
  { cls := 6, slots := #[.null, .int 6, .int 0, .int 0, .int 0, .int 0], vm := .none },
  { cls := 6, slots := #[.null, .int 7, .int 0, .int 0, .int 0, .int 0], vm := .none },
  { cls := 6, slots := #[.null, .int 8, .int 0, .int 0, .int 0, .int 0], vm := .none },
  { cls := 6, slots := #[.null, .int 9, .int 0, .int 0, .int 0, .int 0], vm := .none },
  { cls := 6, slots := #[.null, .int 10, .int 0, .int 0, .int 0, .int 0], vm := .none },
  { cls := 6, slots := #[.null, .int 11, .int 0, .int 0, .int 0, .int 0], vm := .none },
  { cls := 6, slots := #[.null, .int 12, .int 0, .int 0, .int 0, .int 0], vm := .none }]
def classes : Array Class := #[k0, k1, k2, k3, k4, k5, k6, k7, k8, k9, k10, k11, k12]
def interned : List (Array UInt16 × Addr) := []
def slotsUsed : Nat := 92
def theMethod : MethodId := ⟨1, 1⟩
def args0 : Array Value := #[.int 5]
def aboutOver (below : List Frame) : State where
  vm := { classes := classes, interned := interned.toArray }
  heap := heap
  slotsUsed := slotsUsed
  threads := #[{ frames := .invoking theMethod args0 :: below }]
def below0 : List Frame := [.native { method := ⟨0, 0⟩, args := #[] }]
def about1 : State := aboutOver below0
def p0 : Program := .bare "" "" ""
def e0 : Env := launch0.env 0 0 0
theorem w_frames : about1.frames = Frame.invoking theMethod args0 :: below0 := rfl
set_option maxRecDepth 65536 in
theorem w_args : argsFit about1.vm theMethod args0 = true := by decide +kernel
set_option maxRecDepth 65536 in
theorem w_heap : heapFits about1 = true := by decide +kernel
set_option maxRecDepth 65536 in
theorem w_runnable : about1.curStatus? = some .runnable := by decide +kernel
set_option maxRecDepth 65536 in
theorem w_alone : about1.alone = true := by decide +kernel
set_option maxRecDepth 65536 in
theorem w_named : about1.methodNamed? x = some theMethod := by decide +kernel
set_option maxRecDepth 65536 in
theorem w_hears : about1.hears theMethod below0 = true := by decide +kernel
set_option maxRecDepth 65536 in
theorem w_ripe : about1.ripe theMethod args0 below0 = true := by decide +kernel
theorem w_running : about1.status = .running := rfl
set_option maxRecDepth 65536 in
theorem w_room : about1.hasRoom e0.platform room_1 = true :=
  launch0.hasRoom_least _ room_1 (by decide +kernel) (by decide +kernel) (by decide +kernel) (by decide +kernel) (by decide +kernel) (by decide +kernel)
theorem allAtoms_all (ts : List Jvm.Cond) (a : Array Jvm.Value) (st : Jvm.State) : (allAtoms ts).before a st = ts.all (fun c => c.before a st) := by
  induction ts with
  | nil => rfl
  | cons c t ih =>
    show (Jvm.Cond.and c (allAtoms t)).before a st = _
    rw [Jvm.Cond.before_and, ih, List.all_cons]
def words1 : List Jvm.Cond := Jvm.Cond.code x code maxLocals ret :: tables_1
/-- a 'code' word, met by the world's own term for the bytes: nothing is compared byte by byte -/
theorem code_word {y : MethodName} {bytes : ByteArray} {mx : Nat} {rt : Option FieldType} {a : Array Value} {s : State} {m : MethodId} {meth : Method} {c : Code} (h1 : s.methodNamed? y = some m) (h2 : s.vm.method? m = some meth) (h3 : meth.code = some c) (h4 : c.code = bytes)
    (h5 : (c.maxLocals == mx && c.exceptionTable.isEmpty && decide (c.maxStack ≤ mostOperands) && decide (meth.sig.returnType = rt) && !meth.locks && decide (parseMethodDescriptor y.desc = some meth.sig)) = true) : (Jvm.Cond.code y bytes mx rt).before a s = true := by
  simp only [Bool.and_eq_true, beq_iff_eq, Bool.not_eq_true', decide_eq_true_eq] at h5
  obtain ⟨⟨⟨⟨⟨g1, g2⟩, g3⟩, g4⟩, g5⟩, g6⟩ := h5
  simp [Cond.before, Cond.holds, Cond.value, h1, h2, h3, h4, g1, g2, g3, g4, g5, g6]
def isCode : Jvm.Cond → Bool
  | .code _ _ _ _ => true
  | _ => false
theorem all_split {L : List Jvm.Cond} {P : Jvm.Cond → Bool} (h1 : L.all (fun c => isCode c || P c) = true) (h2 : ∀ c ∈ L.filter isCode, P c = true) : L.all P = true := by
  refine List.all_eq_true.mpr fun c hc => ?_
  have h := List.all_eq_true.mp h1 c hc
  rcases Bool.eq_false_or_eq_true (isCode c) with hi | hi
  · exact h2 c (List.mem_filter.mpr ⟨hc, hi⟩)
  · simpa [hi] using h
set_option maxRecDepth 65536 in
theorem w_c0 : (Jvm.Cond.code x code maxLocals ret).before args0 about1 = true := code_word (m := ⟨1, 1⟩) (meth := k1m1) (c := k1c1) (by decide +kernel) rfl rfl rfl (by decide +kernel)
set_option maxRecDepth 65536 in
theorem w_c1 : (Jvm.Cond.code ({ cls := "com/example/rondier/rondier/model/Result", name := "isGameOrForfeit", desc := "()Z" } : Jvm.MethodName) prog_43_method_8_code (1 : Nat) (Option.some Jvm.ClassFile.FieldType.boolean)).before args0 about1 = true := code_word (m := ⟨6, 0⟩) (meth := k6m0) (c := k6c0) (by decide +kernel) rfl rfl rfl (by decide +kernel)
def codes1 : List Jvm.Cond := [Jvm.Cond.code x code maxLocals ret, Jvm.Cond.code ({ cls := "com/example/rondier/rondier/model/Result", name := "isGameOrForfeit", desc := "()Z" } : Jvm.MethodName) prog_43_method_8_code (1 : Nat) (Option.some Jvm.ClassFile.FieldType.boolean)]
set_option maxRecDepth 65536 in
theorem codes_eq : words1.filter isCode = codes1 := rfl
theorem w_codes : ∀ c ∈ words1.filter isCode, c.before args0 about1 = true := by
  rw [codes_eq]
  intro c hc
  simp only [codes1, List.mem_cons, List.not_mem_nil, or_false] at hc
  rcases hc with rfl | rfl
  · exact w_c0
  · exact w_c1
set_option maxRecDepth 65536 in
theorem w_t1 : (words1.take 24).all (fun c => isCode c || c.before args0 about1) = true := by decide +kernel
set_option maxRecDepth 65536 in
theorem w_t2 : (words1.drop 24).all (fun c => isCode c || c.before args0 about1) = true := by decide +kernel
theorem w_tables : (allAtoms (Jvm.Cond.code x code maxLocals ret :: tables_1)).before args0 about1 = true := by
  rw [allAtoms_all]
  show words1.all (fun c => c.before args0 about1) = true
  refine all_split ?_ w_codes
  rw [← List.take_append_drop 24 words1, List.all_append, w_t1, w_t2]
  rfl
set_option maxRecDepth 65536 in
theorem w_case : (Jvm.Cond.and given_1 narrow_1).before args0 about1 = true := by decide +kernel
theorem w_applies : (headSpec (Jvm.Cond.code x code maxLocals ret :: tables_1) room_1).applies x e0.platform about1 = true :=
  (Spec.applies_iff w_frames).mpr ⟨w_running, w_runnable, w_alone, w_named, w_hears, w_ripe, w_room, w_tables⟩
theorem atStart : AtStart classFile x code maxLocals ret World_1 tables_1 room_1 Calls_1 rest_1 Pre_1 launch0 p0 e0 about1 theMethod args0 below0 :=
  ⟨lists_1, trivial, launch0.admits_env _ _ _, launch0.least_env, fairChoices_fair.cas, fairChoices_fair.clock, w_frames, w_args, w_heap, w_applies, trivial, trivial, w_case⟩
end start1
theorem witness_1 : WitnessClaimed_1 := ⟨start1.p0, start1.e0, start1.about1, start1.theMethod, start1.args0, start1.below0, start1.atStart⟩
end Jvm.Pilot.@@N@@
