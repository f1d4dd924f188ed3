import JvmDerived
import JvmDerived.Pilot.@@N@@Statement
import JvmDerived.Pilot.@@N@@Code
set_option linter.unusedVariables false
set_option linter.unusedSimpArgs false
@@BLOCK:NumsL.lean.txt@@
namespace Jvm.RoadKit
open Sem ClassFile Op Lib Jvm.Stand Jvm.Free Jvm.LawKit
section New
variable {p : Program} {l : Launch} {e : Env} {R : Room} {s : State} {m : MethodId} {args : Array Value} {below : List Frame} {meth : Method} {c : Code} {T : State} {locs : List Loc} {cells slots : Nat}
theorem retI (X : Stand p l e R s m args below meth c T locs cells slots) (hx : p.tables.exec = Jvm.exec) {pc : Nat} {Ls : Array Slot} {z : Int32} {rest : List Value} (hret : meth.sig.returnType = some .int) (hd : decode c.code pc = .ok (.ireturn, 1)) {fs : List Frame}
    (hl : ∀ (f : JFrame) (acts : List Action), f.method = m → f.locked = none → f.entered = [] → (doReturn e (T.setTop f) acts (some (.int z))).1 = T.setFrames fs) : Steps p.tables e below (T.setTop (mkF m pc Ls (.int z :: rest))) (T.setFrames fs) := by
  have hm' : T.vm.method? m = some meth := X.method'
  have hn : narrow .int (.int z) = .int z := rfl
  show Steps p.tables e below (T.setTop { method := m, pc := pc, locals := Ls, stack := _ :: rest, locked := none }) _
  jvm_step X.here [X.here.top, hx, hd, hm', hret, hn]
  first | (intro acts; rw [hl _ acts rfl rfl rfl]) | rw [hl _ _ rfl rfl rfl]
  exact Steps.refl _
end New
end Jvm.RoadKit
namespace Jvm.Pilot.@@N@@
open Jvm Jvm.ClassFile Sem Op Lib Jvm.Free Jvm.Stand Jvm.LawKit Jvm.RoadKit Bundle Jvm.Pilot.@@N@@.Jvm.D
/-! own_Goes: from S the run comes to some state of which G holds: such a goal may be split in the middle of a walk -/
def own_Goes (p : Program) (e : Env) (below : List Frame) (S : State) (G : State → Prop) : Prop := ∃ t, Steps p.tables e below S t ∧ G t
theorem own_via {p : Program} {e : Env} {below : List Frame} {S S' : State} {G : State → Prop} (f : ∀ t, Steps p.tables e below S' t → Steps p.tables e below S t) (h : own_Goes p e below S' G) : own_Goes p e below S G := by
  obtain ⟨t, h1, h2⟩ := h
  exact ⟨t, f t h1, h2⟩
theorem own_end {p : Program} {e : Env} {below : List Frame} {S t : State} {G : State → Prop} (h : Steps p.tables e below S t) (g : G t) : own_Goes p e below S G := ⟨t, h, g⟩
theorem own_out {p : Program} {e : Env} {below : List Frame} {S : State} {P : State → Outcome → Prop} (h : own_Goes p e below S (fun t => ∃ o, t.status = .running ∧ Ended t below o ∧ P t o)) : ∃ t o, Steps p.tables e below S t ∧ t.status = .running ∧ Ended t below o ∧ P t o := by
  obtain ⟨t, h1, o, h2, h3, h4⟩ := h
  exact ⟨t, o, h1, h2, h3, h4⟩
theorem wd {a0 : Array Value} {Z : State} (hw : ∀ d ∈ tables_1, d.before a0 Z = true) (i : Nat) {d : Jvm.Cond} (h : tables_1[i]? = some d) : d.before a0 Z = true := hw _ (List.mem_of_getElem? h)
theorem own_old {Z : State} {n0 : Nat} {h : Heap} (O : Old Z n0 h) : n0 ≤ h.size := by rw [← O.1]; exact O.2.1
def own_Q0 (n0 : Nat) (v : Option Value) (L : List Loc) : Prop := v = some (.int (1 : Int32)) ∧ Fr n0 L
def own_G (s : State) (below : List Frame) (n0 : Nat) (t : State) : Prop := ∃ o, t.status = .running ∧ Ended t below o ∧ ∃ v L, o = .returned v ∧ own_Q0 n0 v L ∧ FrameEnd s o t L room_1.cells room_1.slots
def own_Len (Z : State) (h : Heap) (a : Addr) (ty : FieldType) (n : Int32) : Prop := ∃ k vs d, Arv Z h a k ty n vs d
theorem own_len_ext {Z : State} {h h' : Heap} {a : Addr} {ty : FieldType} {n : Int32} (F : own_Len Z h a ty n) (E : Ext h h') : own_Len Z h' a ty n := by
  obtain ⟨k, vs, d, V⟩ := F
  exact ⟨k, vs, d, V.ext E⟩
theorem own_len_other {Z : State} {h h' : Heap} {a b : Addr} {sl : Nat} {v : Value} {ty : FieldType} {n : Int32} (F : own_Len Z h b ty n) (W : Wr h h' a sl v) (q : b ≠ a) : own_Len Z h' b ty n := by
  obtain ⟨k, vs, d, V⟩ := F
  exact ⟨k, vs, d, V.other W q⟩
theorem own_len_keep {Z : State} {h h' : Heap} {a : Addr} {ws : List Addr} {ty : FieldType} {n : Int32} (F : own_Len Z h a ty n) (K : Keep h h' ws) (q : a ∉ ws) : own_Len Z h' a ty n := by
  obtain ⟨k, vs, d, V⟩ := F
  exact ⟨k, vs, d, V.keep K q⟩
theorem own_len_lt {Z : State} {h : Heap} {a : Addr} {ty : FieldType} {n : Int32} (F : own_Len Z h a ty n) : a < h.size := by
  obtain ⟨k, vs, d, V⟩ := F
  exact V.lt
theorem own_c2 (x : Int32) : x.toUInt32.toUInt16.toUInt32.toInt32.toUInt32.toUInt16.toUInt32.toInt32 = x.toUInt32.toUInt16.toUInt32.toInt32 := by rw [UInt32.toUInt32_toInt32, UInt16.toUInt16_toUInt32]
theorem own_b2 (x : Int32) : x.toInt8.toInt32.toInt8.toInt32 = x.toInt8.toInt32 := by rw [Int8.toInt8_toInt32]
section Calls
variable {p : Program} {l : Launch} {e : Env} {R : Room} {s : State} {m : MethodId} {args : Array Value} {below : List Frame} {meth : Method} {c : Code} {T : State} {locs : List Loc} {cells slots : Nat} {Z : State} {a0 : Array Value} {h : Heap} {own C : String} {index : Nat} {y : MethodName} {bytes : ByteArray} {maxL : Nat} {rm : Room} {Q : Option Value → Heap → List Loc → Prop} {a : Addr} {argsL : List Value} {g : JFrame}
/-! a call by its contract, in one step: virtual (the class's own method), a constructor, static -/
theorem own_cv {ret : Option FieldType} (X : Stand p l e R s m args below meth c T locs cells slots) (hx : p.tables.exec = Jvm.exec) (hZ : Z.Warmed39 s.vm) (hown : s.vm.findClass own = some m.cls) (w1 : (Jvm.Cond.methodLink own index y).before a0 Z = true) (w2 : (Jvm.Cond.declares y).before a0 Z = true) (w3 : (Jvm.Cond.selects C y y).before a0 Z = true) (w4 : (Jvm.Cond.instanceMethod y).before a0 Z = true) (wc : (Jvm.Cond.code y bytes maxL ret).before a0 Z = true) (wz : (Jvm.Cond.initialized y.cls).before a0 Z = true) (hy : y.cls ≠ "java/lang/invoke/MethodHandle" ∧ y.cls ≠ "java/lang/invoke/VarHandle")
    (hM : MetFree l y (head1 [Jvm.Cond.code y bytes maxL ret] rm) (fun A U => A = (.ref a :: argsL).toArray ∧ Z.Warmed39 U.vm ∧ U.heap = h) (fun _ _ _ _ _ => True) (fun _ U o U' => ∃ v L, o = .returned v ∧ Q v U'.heap L ∧ FrameEnd U o U' L rm.cells rm.slots)) (eT : T.heap = h) (E : Exa Z h a C) (hg : g.method = m) (hsize : g.locals.size = c.maxLocals) {rest : List Value} {W : Nat}
    (hlen : ∀ sig, parseMethodDescriptor y.desc = some sig → argsL.length = sig.parameters.length) (hstack : g.stack = argsL.reverse ++ .ref a :: rest) (hW : 2 * g.monitorRoom + (rest.map fun v => v.category).sum ≤ W) (hdg : decode c.code g.pc = .ok (.invokevirtual index, 3)) (r1 : rm.frames + 1 ≤ R.frames) (r2 : W + (maxL + 11) + rm.locals ≤ R.locals) (r3 : cells + rm.cells ≤ R.cells) (r4 : slots + rm.slots ≤ R.slots) :
    ∃ (v : Option Value) (T' : State) (L : List Loc), Stand p l e R s m args below meth c T' (locs ++ L) (cells + rm.cells) (slots + rm.slots) ∧ Q v T'.heap L ∧ ∀ t, Steps p.tables e below (T'.setTop { g with pc := g.pc + 3, stack := v.toList ++ rest }) t → Steps p.tables e below (T.setTop g) t := by
  obtain ⟨cq, kq, qa, -, qc⟩ := isOf hZ eT E
  obtain ⟨v, _, ⟨T', L', c', n'⟩, -, X', ⟨Lc, hQ, l1, y1, z1⟩, st⟩ := X.virtualBack hx (y := y) (z := y) hown (mvT hZ w1) (mvT hZ w2) (notFace_of_selects (args := #[]) (mvT hZ w3)) (mvT hZ w3) (mvT hZ w4) hy (backOf (W := W) hM hZ wc wz r1 r2) qa qc (g := g) hg hsize (Steps.refl _) (argsL := argsL) (rest := rest) hlen hstack hW hdg (fun _ _ => ⟨rfl, eT, r3, r4⟩)
  dsimp only [Pt.U, Pt.locs, Pt.cells, Pt.slots] at X' l1 y1 z1 st hQ
  subst l1 y1 z1
  exact ⟨v, T', Lc, X', hQ, fun t k => st.trans k⟩
theorem own_ci (X : Stand p l e R s m args below meth c T locs cells slots) (hx : p.tables.exec = Jvm.exec) (hZ : Z.Warmed39 s.vm) (hown : s.vm.findClass own = some m.cls) (w1 : (Jvm.Cond.methodLink own index y).before a0 Z = true) (w4 : (Jvm.Cond.instanceMethod y).before a0 Z = true) (wc : (Jvm.Cond.code y bytes maxL none).before a0 Z = true) (wz : (Jvm.Cond.initialized y.cls).before a0 Z = true) (hi : y.name = "<init>") (hy : y.cls ≠ "java/lang/invoke/MethodHandle" ∧ y.cls ≠ "java/lang/invoke/VarHandle")
    (hM : MetFree l y (head1 [Jvm.Cond.code y bytes maxL none] rm) (fun A U => A = (.ref a :: argsL).toArray ∧ Z.Warmed39 U.vm ∧ U.heap = h) (fun _ _ _ _ _ => True) (fun _ U o U' => ∃ v L, o = .returned v ∧ Q v U'.heap L ∧ FrameEnd U o U' L rm.cells rm.slots)) (eT : T.heap = h) (hg : g.method = m) (hsize : g.locals.size = c.maxLocals) {rest : List Value} {W : Nat}
    (hlen : ∀ sig, parseMethodDescriptor y.desc = some sig → argsL.length = sig.parameters.length) (hstack : g.stack = argsL.reverse ++ .ref a :: rest) (hW : 2 * g.monitorRoom + (rest.map fun v => v.category).sum ≤ W) (hdg : decode c.code g.pc = .ok (.invokespecial index, 3)) (r1 : rm.frames + 1 ≤ R.frames) (r2 : W + (maxL + 11) + rm.locals ≤ R.locals) (r3 : cells + rm.cells ≤ R.cells) (r4 : slots + rm.slots ≤ R.slots) :
    ∃ (v : Option Value) (T' : State) (L : List Loc), Stand p l e R s m args below meth c T' (locs ++ L) (cells + rm.cells) (slots + rm.slots) ∧ Q v T'.heap L ∧ ∀ t, Steps p.tables e below (T'.setTop { g with pc := g.pc + 3, stack := v.toList ++ rest }) t → Steps p.tables e below (T.setTop g) t := by
  obtain ⟨v, _, ⟨T', L', c', n'⟩, -, X', ⟨Lc, hQ, l1, y1, z1⟩, st⟩ := X.specialBack hx (y := y) hi hown (mvT hZ w1) (mvT hZ w4) (mvT hZ wc) hy (backOf (W := W) hM hZ wc wz r1 r2) (g := g) hg hsize (Steps.refl _) (a := a) (argsL := argsL) (rest := rest) hlen hstack hW hdg (fun _ _ => ⟨rfl, eT, r3, r4⟩)
  dsimp only [Pt.U, Pt.locs, Pt.cells, Pt.slots] at X' l1 y1 z1 st hQ
  subst l1 y1 z1
  exact ⟨v, T', Lc, X', hQ, fun t k => st.trans k⟩
theorem own_cs {ret : Option FieldType} (X : Stand p l e R s m args below meth c T locs cells slots) (hx : p.tables.exec = Jvm.exec) (hZ : Z.Warmed39 s.vm) (hown : s.vm.findClass own = some m.cls) (w1 : (Jvm.Cond.methodLink own index y).before a0 Z = true) (w4 : (Jvm.Cond.static y).before a0 Z = true) (wc : (Jvm.Cond.code y bytes maxL ret).before a0 Z = true) (wz : (Jvm.Cond.initialized y.cls).before a0 Z = true) (hy : y.cls ≠ "java/lang/invoke/MethodHandle" ∧ y.cls ≠ "java/lang/invoke/VarHandle")
    (hM : MetFree l y (head1 [Jvm.Cond.code y bytes maxL ret] rm) (fun A U => A = argsL.toArray ∧ Z.Warmed39 U.vm ∧ U.heap = h) (fun _ _ _ _ _ => True) (fun _ U o U' => ∃ v L, o = .returned v ∧ Q v U'.heap L ∧ FrameEnd U o U' L rm.cells rm.slots)) (eT : T.heap = h) (hg : g.method = m) (hsize : g.locals.size = c.maxLocals) {rest : List Value} {W : Nat}
    (hlen : ∀ sig, parseMethodDescriptor y.desc = some sig → argsL.length = sig.parameters.length) (hstack : g.stack = argsL.reverse ++ rest) (hW : 2 * g.monitorRoom + (rest.map fun v => v.category).sum ≤ W) (hdg : decode c.code g.pc = .ok (.invokestatic index, 3)) (r1 : rm.frames + 1 ≤ R.frames) (r2 : W + (maxL + 11) + rm.locals ≤ R.locals) (r3 : cells + rm.cells ≤ R.cells) (r4 : slots + rm.slots ≤ R.slots) :
    ∃ (v : Option Value) (T' : State) (L : List Loc), Stand p l e R s m args below meth c T' (locs ++ L) (cells + rm.cells) (slots + rm.slots) ∧ Q v T'.heap L ∧ ∀ t, Steps p.tables e below (T'.setTop { g with pc := g.pc + 3, stack := v.toList ++ rest }) t → Steps p.tables e below (T.setTop g) t := by
  obtain ⟨v, _, ⟨T', L', c', n'⟩, -, X', ⟨Lc, hQ, l1, y1, z1⟩, st⟩ := Jvm.LawKit.callS X hx (y := y) hown (mvT hZ w1) (mvT hZ w4) (mvT hZ wz) (mvT hZ wc) hy (backOf (W := W) hM hZ wc wz r1 r2) (g := g) hg hsize (argsL := argsL) (rest := rest) hlen hstack hW hdg (fun _ _ => ⟨rfl, eT, r3, r4⟩)
  dsimp only [Pt.U, Pt.locs, Pt.cells, Pt.slots] at X' l1 y1 z1 st hQ
  subst l1 y1 z1
  exact ⟨v, T', Lc, X', hQ, st⟩
end Calls
theorem own_eq_ref {args : Array Value} {s : State} {a b : Term} {w : Addr} (h : (Jvm.Cond.eq a b).value args s none s [] = some true) (hb : b.eval args s none [] s = some (.ref w)) : a.eval args s none [] s = some (.ref w) := by
  obtain ⟨x, y, e1, e2, k1, k2⟩ := cmp_v (Or.inl h)
  rw [hb] at e2
  cases e2
  have hx : x.isRef = true := by cases x <;> simp_all [Kin, Value.isRef]
  have q := gotT (eq_R e1 hb hx rfl) h
  rw [e1, q]
theorem own_ne_ref {args : Array Value} {s : State} {a b : Term} {u w : Addr} (h : (Jvm.Cond.not (Jvm.Cond.eq a b)).value args s none s [] = some true) (ha : a.eval args s none [] s = some (.ref u)) (hb : b.eval args s none [] s = some (.ref w)) : u ≠ w := fun q => gotF (eq_R ha hb rfl rfl) (not_v h) (by rw [q])
theorem own_nn_mask (x m : Int32) (k : Nat) (hk : k < 32) (hm : m.toBitVec.toNat = 2 ^ k - 1) : ¬ ((x &&& m) < (0 : Int32)) := by
  rw [Int32.lt_iff_toInt_lt, Jvm.Kit.i32_mask x m hk hm]
  have h := Int.emod_nonneg x.toInt (show ((2 : Int) ^ k) ≠ 0 from Int.ne_of_gt (Int.pow_pos (by decide)))
  rw [Int32.toInt_zero]
  omega
theorem own_lt_mask (x m : Int32) (k : Nat) (hk : k < 32) (hm : m.toBitVec.toNat = 2 ^ k - 1) {n : Int32} (hn : n.toInt = 2 ^ k) : (x &&& m) < n := by
  rw [Int32.lt_iff_toInt_lt, Jvm.Kit.i32_mask x m hk hm, hn]
  exact Int.emod_lt_of_pos _ (Int.pow_pos (by decide))
theorem own_nn_rem {x : Int32} (n : Int32) (h : ¬ (x < (0 : Int32))) : ¬ (x % n < (0 : Int32)) := by
  rw [Int32.lt_iff_toInt_lt, Int32.toInt_zero] at h ⊢
  rw [Int32.toInt_mod]
  have := Int.tmod_nonneg n.toInt (show 0 ≤ x.toInt by omega)
  omega
theorem own_pos {n : Int32} (h : (0 : Int32) < n) : 0 < n.toInt := by
  rw [Int32.lt_iff_toInt_lt, Int32.toInt_zero] at h
  exact h
theorem own_ne0 {n : Int32} (h : (0 : Int32) < n) : n ≠ 0 := fun q => by
  rw [q] at h
  exact absurd h (by decide)
theorem own_lt_rem {x : Int32} (n : Int32) (h : ¬ (x < (0 : Int32))) (hn : 0 < n.toInt) : x % n < n := by
  rw [Int32.lt_iff_toInt_lt] at h ⊢
  rw [Int32.toInt_zero] at h
  rw [Jvm.Kit.i32_rem_nonneg (by omega)]
  exact Int.emod_lt_of_pos _ hn
theorem own_modlo (x n : Int32) (hn : 0 < n.toInt) : 0 ≤ ((x &&& (2147483647 : Int32)) % n).toInt := by
  have a := Jvm.Kit.i32_mask x 2147483647 (k := 31) (by decide) (by decide)
  rw [Jvm.Kit.i32_rem_nonneg (by omega)]
  exact Int.emod_nonneg _ (by omega)
theorem own_modhi (x n : Int32) (hn : 0 < n.toInt) : ((x &&& (2147483647 : Int32)) % n).toInt < n.toInt := by
  have a := Jvm.Kit.i32_mask x 2147483647 (k := 31) (by decide) (by decide)
  rw [Jvm.Kit.i32_rem_nonneg (by omega)]
  exact Int.emod_lt_of_pos _ hn
theorem own_cases_2 (y : Int32) (h0 : 0 ≤ y.toInt) (h1 : y.toInt < 2) : y = (0 : Int32) ∨ y = (1 : Int32) := by
  have e : ∀ k : Int32, y.toInt = k.toInt → y = k := fun k q => Int32.toInt_inj.mp q
  rcases (by omega : y.toInt = 0 ∨ y.toInt = 1) with q | q
  · exact Or.inl (e 0 (q.trans rfl))
  · exact Or.inr <| (e 1 (q.trans rfl))
theorem own_cnt (n r : Int32) (h : ¬ (n < (0 : Int32))) (hr : r = 0 ∨ r = 1) : ((((n <<< ((1 : Int32) &&& 31)) ||| r).toUInt32 >>> ((1 : Int32) &&& 31).toUInt32).toInt32) = n := by
  have hn : n.toBitVec.getLsbD 31 = false := by
    rw [Int32.lt_iff_toInt_lt, Int32.toInt_zero] at h
    have e : n.toInt = n.toBitVec.toInt := rfl
    rw [e, BitVec.toInt_eq_msb_cond] at h
    rw [← BitVec.msb_eq_getLsbD_last]
    cases hm : n.toBitVec.msb with
    | false => rfl
    | true => rw [hm] at h; have := n.toBitVec.isLt; simp at h; omega
  apply Int32.toBitVec_inj.mp
  show ((n <<< ((1 : Int32) &&& 31)) ||| r).toBitVec >>> (((1 : Int32) &&& 31).toUInt32.toBitVec % 32) = n.toBitVec
  rw [Int32.toBitVec_or, Int32.toBitVec_shiftLeft]
  have s1 : (((1 : Int32) &&& 31).toUInt32.toBitVec % 32) = 1#32 := by decide
  have s2 : ((1 : Int32) &&& 31).toBitVec.smod 32 = 1#32 := by decide
  rw [s1, s2]
  apply BitVec.eq_of_getLsbD_eq
  intro i hi
  rw [BitVec.ushiftRight_eq', BitVec.shiftLeft_eq']
  have hr0 : ∀ j, 0 < j → r.toBitVec.getLsbD j = false := by
    intro j hj
    rcases hr with rfl | rfl
    · simp [show (0 : Int32).toBitVec = 0#32 from rfl]
    · rw [show (1 : Int32).toBitVec = 1#32 from rfl, BitVec.getLsbD_one]; simp; omega
  have t1 : (1#32).toNat = 1 := rfl
  rw [t1, BitVec.getLsbD_ushiftRight, BitVec.getLsbD_or, BitVec.getLsbD_shiftLeft, hr0 _ (by omega), show 1 + i - 1 = i by omega]
  by_cases e : i = 31
  · subst e
    rw [hn]
    decide
  · have a1 : decide (1 + i < 32) = true := by simp; omega
    have a2 : decide (1 + i < 1) = false := by simp
    rw [a1, a2]
    simp
theorem own_rep1 (n : Int32) : ¬ ((((n <<< ((1 : Int32) &&& 31)) ||| (1 : Int32)) &&& (1 : Int32)) = (0 : Int32)) := by
  intro q
  have q1 := congrArg (fun z : Int32 => z.toBitVec.getLsbD 0) q
  simp at q1
theorem own_rep0 (n : Int32) : (((n <<< ((1 : Int32) &&& 31)) ||| (0 : Int32)) &&& (1 : Int32)) = (0 : Int32) := by
  apply Int32.toBitVec_inj.mp
  have s2 : ((1 : Int32) &&& 31).toBitVec.smod 32 = 1#32 := by decide
  rw [Int32.toBitVec_and, Int32.toBitVec_or, Int32.toBitVec_shiftLeft, s2, BitVec.shiftLeft_eq']
  apply BitVec.eq_of_getLsbD_eq
  intro i hi
  by_cases e : i = 0
  · subst e; simp
  · simp [BitVec.getLsbD_one, e]

abbrev zs1 : String := "com/example/kempt_envelope/kemptenvelope/JsonTape"
abbrev zs2 : String := "com/example/kempt_envelope/kemptenvelope/JsonTapeClosePinLaw"
abbrev zs3 : String := "com/example/kempt_envelope/kemptenvelope/JsonTape$Decoded"
abbrev zs4 : String := "[Lcom/example/kempt_envelope/kemptenvelope/JsonTape$Decoded;"
theorem d1_0 : decode prog_17_method_1_code 0 = .ok (.aload_n 0, 1) := by decide +kernel
theorem d1_1 : decode prog_17_method_1_code 1 = .ok (.invokespecial 3, 3) := by decide +kernel
theorem d1_4 : decode prog_17_method_1_code 4 = .ok (.aload_n 0, 1) := by decide +kernel
theorem d1_5 : decode prog_17_method_1_code 5 = .ok (.bipush 64, 2) := by decide +kernel
theorem d1_7 : decode prog_17_method_1_code 7 = .ok (.anewarray 9, 3) := by decide +kernel
theorem d1_10 : decode prog_17_method_1_code 10 = .ok (.putfield 11, 3) := by decide +kernel
theorem d1_13 : decode prog_17_method_1_code 13 = .ok (.aload_n 0, 1) := by decide +kernel
theorem d1_14 : decode prog_17_method_1_code 14 = .ok (.iconst 1, 1) := by decide +kernel
theorem d1_15 : decode prog_17_method_1_code 15 = .ok (.anewarray 15, 3) := by decide +kernel
theorem d1_18 : decode prog_17_method_1_code 18 = .ok (.putfield 17, 3) := by decide +kernel
theorem d1_21 : decode prog_17_method_1_code 21 = .ok (.aload_n 0, 1) := by decide +kernel
theorem d1_22 : decode prog_17_method_1_code 22 = .ok (.aload_n 1, 1) := by decide +kernel
theorem d1_23 : decode prog_17_method_1_code 23 = .ok (.putfield 21, 3) := by decide +kernel
theorem d1_26 : decode prog_17_method_1_code 26 = .ok (.aload_n 0, 1) := by decide +kernel
theorem d1_27 : decode prog_17_method_1_code 27 = .ok (.sipush 16384, 3) := by decide +kernel
theorem d1_30 : decode prog_17_method_1_code 30 = .ok (.aload_n 1, 1) := by decide +kernel
theorem d1_31 : decode prog_17_method_1_code 31 = .ok (.arraylength, 1) := by decide +kernel
theorem d1_32 : decode prog_17_method_1_code 32 = .ok (.bipush 8, 2) := by decide +kernel
theorem d1_34 : decode prog_17_method_1_code 34 = .ok (.idiv, 1) := by decide +kernel
theorem d1_35 : decode prog_17_method_1_code 35 = .ok (.bipush 16, 2) := by decide +kernel
theorem d1_37 : decode prog_17_method_1_code 37 = .ok (.iadd, 1) := by decide +kernel
theorem d1_38 : decode prog_17_method_1_code 38 = .ok (.invokestatic 25, 3) := by decide +kernel
theorem d3_0 : decode jdk_29_method_69_code 0 = .ok (.iload_n 0, 1) := by decide +kernel
theorem d3_1 : decode jdk_29_method_69_code 1 = .ok (.iload_n 1, 1) := by decide +kernel
theorem d3_2 : decode jdk_29_method_69_code 2 = .ok (.if_icmp .gt 7, 3) := by decide +kernel
theorem d3_9 : decode jdk_29_method_69_code 9 = .ok (.iload_n 1, 1) := by decide +kernel
theorem d3_10 : decode jdk_29_method_69_code 10 = .ok (.ireturn, 1) := by decide +kernel
theorem ef_1 (m : MethodId) (x0 : Int32) (x1 : Int32) : entryFrame m #[(.int x0), (.int x1)] 2 = mkF m 0 #[iv x0, iv x1] [] := by first | (simp [entryFrame, mkF, argsToLocals, Value.category]; done) | rfl
def Q1 (Z : State)  (h0 : Heap) (n0 : Nat) (v : Option Value) (h : Heap) (L : List Loc) : Prop := v = some (.int (16 : Int32)) ∧ Fr n0 L ∧ h = h0
set_option maxRecDepth 65536 in
set_option maxHeartbeats 40000000 in
theorem rm1 (l : Launch) (Z : State) (a0 : Array Value) (hw : ∀ d ∈ tables_1, d.before a0 Z = true) (ws : List Jvm.Cond)  (h0 : Heap) (n0 : Nat) (O0 : Old Z n0 h0) :
    MetFree l (⟨"java/lang/Math", "min", "(II)I"⟩ : MethodName) (head1 (Jvm.Cond.code (⟨"java/lang/Math", "min", "(II)I"⟩ : MethodName) jdk_29_method_69_code 2 (some .int) :: ws) ({ frames := 0, cells := 0, slots := 0, locals := 0 } : Room)) (fun a U => a = #[(.int (16384 : Int32)), (.int (16 : Int32))] ∧ Z.Warmed39 U.vm ∧ U.heap = h0) (fun _ _ _ _ _ => True) (fun _ U o U' => ∃ v L, o = .returned v ∧ Q1 Z  h0 n0 v U'.heap L ∧ FrameEnd U o U' L ({ frames := 0, cells := 0, slots := 0, locals := 0 } : Room).cells ({ frames := 0, cells := 0, slots := 0, locals := 0 } : Room).slots) := by
  refine MetFree.of_bodySF (Jvm.Free.JP.mathPlain rfl (by decide +kernel)) hisR ?_
  intro p e s m args below meth c s₁ Bd hml0 hP hK
  obtain ⟨rfl, hZ, hh⟩ := hP
  have hx := Bd.exec
  have hby := Bd.bytes
  have hml : c.maxLocals = 2 := hml0
  have hown : s.vm.findClass "java/lang/Math" = some m.cls := findClass_of_methodNamed Bd.named
  have hnm := (name_of_methodNamed Bd.named Bd.method).1
  have X0 : Stand p l e ({ frames := 0, cells := 0, slots := 0, locals := 0 } : Room) s m #[(.int (16384 : Int32)), (.int (16 : Int32))] below meth c s₁ [] 0 0 := Stand.of_body Bd
  have e0 : s₁.heap = h0 := by rw [← hh, Bd.state]; rfl
  have N0 := Fr.nil n0
  refine own_out ?_
  refine own_via (fun t k => castTop (ef_1 m (16384 : Int32) (16 : Int32)) (XS.iloadN X0.here hx rfl (hb hby d3_0) rfl (XS.iloadN X0.here hx rfl (hb hby d3_1) rfl (XS.icmpYes X0.here hx rfl (pc0 := 2) (pc' := 9) rfl (hb hby d3_2) rfl (tlt (by decide : (16 : Int32) < (16384 : Int32))).2.2.1 (by decide) (by decide) (XS.iloadN X0.here hx rfl (hb hby d3_9) rfl k))))) ?_
  show own_Goes p e below (s₁.setTop (mkF m 10 #[iv (16384 : Int32), iv (16 : Int32)] [(.int (16 : Int32))])) _
  obtain ⟨fs, hr, hrun, hended, hW, hsame⟩ := X0.leave (v := some (.int (16 : Int32))) (fun h => by rw [Bd.returns] at h; cases h)
  refine own_end (t := s₁.setFrames fs) ?_ ⟨_, hrun, hended, _, _, rfl, ?_, ⟨_, rfl⟩, hW, hsame.mono (by decide) (by decide)⟩
  · exact retI X0 hx Bd.returns (hb hby d3_10) hr
  · show Q1 Z  h0 n0 _ s₁.heap _
    rw [e0]
    exact ⟨rfl, N0, rfl⟩
theorem pd_1 : parseMethodDescriptor "(II)I" = some ⟨[.int, .int], some .int⟩ := by decide +kernel
theorem d1_41 : decode prog_17_method_1_code 41 = .ok (.newarray .int, 2) := by decide +kernel
theorem d1_43 : decode prog_17_method_1_code 43 = .ok (.putfield 31, 3) := by decide +kernel
theorem d1_46 : decode prog_17_method_1_code 46 = .ok (.aload_n 0, 1) := by decide +kernel
theorem d1_47 : decode prog_17_method_1_code 47 = .ok (.getfield 17, 3) := by decide +kernel
theorem d1_50 : decode prog_17_method_1_code 50 = .ok (.iconst 0, 1) := by decide +kernel
theorem d1_51 : decode prog_17_method_1_code 51 = .ok (.aload_n 0, 1) := by decide +kernel
theorem d1_52 : decode prog_17_method_1_code 52 = .ok (.getfield 31, 3) := by decide +kernel
theorem d1_55 : decode prog_17_method_1_code 55 = .ok (.aastore, 1) := by decide +kernel
theorem d1_56 : decode prog_17_method_1_code 56 = .ok (.return_, 1) := by decide +kernel
theorem ef_2 (m : MethodId) (x0 : Addr) (x1 : Addr) : entryFrame m #[(.ref x0), (.ref x1)] 2 = mkF m 0 #[rv x0, rv x1] [] := by first | (simp [entryFrame, mkF, argsToLocals, Value.category]; done) | rfl
theorem pn_1 : plainName "com/example/kempt_envelope/kemptenvelope/JsonTape" = true := by first | (simp [plainName, overriddenIn]; done) | decide +kernel
def Q2 (Z : State) (a32 : Addr) (a33 : Addr) (p39 : Int32) (h0 : Heap) (n0 : Nat) (v : Option Value) (h : Heap) (L : List Loc) : Prop := (∃ (b82 : Addr) (k81 : ClassId), v = none ∧ Fr n0 L ∧ Keep h0 h [a32] ∧ Exa Z h a32 zs1 ∧ Fld Z h a32 zs1 "text" "[B" (.ref a33) ∧ Fld Z h a32 zs1 "first" "[I" (.ref b82) ∧ Fld Z h a32 zs1 "length" "I" (.int p39) ∧ h0.size ≤ b82 ∧ Arv Z h b82 k81 .int (16 : Int32) [(.int (0 : Int32)), (.int (0 : Int32)), (.int (0 : Int32)), (.int (0 : Int32)), (.int (0 : Int32)), (.int (0 : Int32)), (.int (0 : Int32)), (.int (0 : Int32))] (.int (0 : Int32)) ∧ Exa Z h b82 "[I")
set_option maxRecDepth 65536 in
set_option maxHeartbeats 40000000 in
theorem rm2 (l : Launch) (Z : State) (a0 : Array Value) (hw : ∀ d ∈ tables_1, d.before a0 Z = true) (ws : List Jvm.Cond) (a32 : Addr) (a33 : Addr) (p39 : Int32) (h0 : Heap) (n0 : Nat) (O0 : Old Z n0 h0) (pF_a32_kept : Fld Z h0 a32 zs1 "kept" zs4 .null) (pE_a32 : Exa Z h0 a32 zs1) (pG_a32 : n0 ≤ a32) (pF_a32_chunks : Fld Z h0 a32 zs1 "chunks" "[[I" .null) (pF_a32_text : Fld Z h0 a32 zs1 "text" "[B" .null) (pL_a33 : own_Len Z h0 a33 .byte (4 : Int32)) (pN_a33_a32 : a33 ≠ a32) (pF_a32_first : Fld Z h0 a32 zs1 "first" "[I" .null) (pF_a32_length : Fld Z h0 a32 zs1 "length" "I" (.int p39)) :
    MetFree l (⟨zs1, "<init>", "([B)V"⟩ : MethodName) (head1 (Jvm.Cond.code (⟨zs1, "<init>", "([B)V"⟩ : MethodName) prog_17_method_1_code 2 none :: ws) ({ frames := 1, cells := 3, slots := 81, locals := 14 } : Room)) (fun a U => a = #[(.ref a32), (.ref a33)] ∧ Z.Warmed39 U.vm ∧ U.heap = h0) (fun _ _ _ _ _ => True) (fun _ U o U' => ∃ v L, o = .returned v ∧ Q2 Z a32 a33 p39 h0 n0 v U'.heap L ∧ FrameEnd U o U' L ({ frames := 1, cells := 3, slots := 81, locals := 14 } : Room).cells ({ frames := 1, cells := 3, slots := 81, locals := 14 } : Room).slots) := by
  refine MetFree.of_bodySF (plainFor_of_name pn_1) hisR ?_
  intro p e s m args below meth c s₁ Bd hml0 hP hK
  obtain ⟨rfl, hZ, hh⟩ := hP
  have hx := Bd.exec
  have hby := Bd.bytes
  have hml : c.maxLocals = 2 := hml0
  have hown : s.vm.findClass zs1 = some m.cls := findClass_of_methodNamed Bd.named
  have hnm := (name_of_methodNamed Bd.named Bd.method).1
  have X0 : Stand p l e ({ frames := 1, cells := 3, slots := 81, locals := 14 } : Room) s m #[(.ref a32), (.ref a33)] below meth c s₁ [] 0 0 := Stand.of_body Bd
  have e0 : s₁.heap = h0 := by rw [← hh, Bd.state]; rfl
  have N0 := Fr.nil n0
  refine own_out ?_
  refine own_via (fun t k => castTop (ef_2 m a32 a33) (XS.aloadN X0.here hx rfl (hb hby d1_0) rfl rfl k)) ?_
  obtain ⟨T40, X40, e40, st40⟩ := initO X0 hx hZ hown (wd hw 7 rfl) (wd hw 8 rfl) (wd hw 9 rfl) e0 (g := (mkF m 1 #[rv a32, rv a33] [(.ref a32)])) rfl (by rw [hml]; rfl) rfl (hb hby d1_1) (by decide) (W := 0) (by show 2 * 0 + _ ≤ _; exact Nat.le_of_eq rfl) (by decide)
  refine own_via (fun t k => st40 t (XS.aloadN X40.here hx rfl (hb hby d1_4) rfl rfl (XS.bipush X40.here hx rfl (hb hby d1_5) k))) ?_
  show own_Goes p e below (T40.setTop (mkF m 7 #[rv a32, rv a33] [(.int (64 : Int32)), (.ref a32)])) _
  obtain ⟨T41, h41, k41, X41, e41, E41, A41, O41, st41⟩ := newR X40 hx hZ hown (wd hw 10 rfl) (wd hw 11 rfl) e40 (g := (mkF m 7 #[rv a32, rv a33] [(.int (64 : Int32)), (.ref a32)])) rfl (hb hby d1_7) rfl (by decide) (cap := 64) (by decide) (by decide) (by decide) (by decide)
  obtain ⟨b42, q41⟩ : ∃ z, z = h0.size := ⟨_, rfl⟩
  rw [← q41] at A41 st41
  refine own_via (fun t k => st41 t k) ?_
  have g43 : n0 ≤ b42 := Nat.le_trans (own_old O0) (Nat.le_of_eq q41.symm)
  have B44 : h0.size ≤ b42 := Nat.le_trans (Nat.le_refl _) (Nat.le_of_eq q41.symm)
  have V45 : Arv Z h41 b42 k41 (.object zs3) (64 : Int32) [] .null := Arv.new A41 (by decide)
  show own_Goes p e below (T41.setTop (mkF m 10 #[rv a32, rv a33] [(.ref b42), (.ref a32)])) _
  have F46 : Fld Z h41 a32 zs1 "kept" zs4 .null := (pF_a32_kept.ext E41)
  have E47 : Exa Z h41 a32 zs1 := (pE_a32.ext E41)
  obtain ⟨T48, h48, X48, e48, W48, st48⟩ := putF X41 hx hZ hown (host := "") (Or.inl (wd hw 12 rfl)) Via.refl e41 F46 E47 (Or.inr ⟨(wd hw 13 rfl), rfl, hnm⟩) (wd hw 2 rfl) (ty := (.array (.object zs3))) (by decide) rfl rfl (g := (mkF m 10 #[rv a32, rv a33] [(.ref b42), (.ref a32)])) rfl rfl (hb hby d1_10)
  refine own_via (fun t k => st48 t k) ?_
  have Fw48 : Fld Z h48 a32 zs1 "kept" zs4 (.ref b42) := F46.same W48
  have N48 := Fr.snoc X48 N0 pG_a32
  show own_Goes p e below (T48.setTop (mkF m 13 #[rv a32, rv a33] [])) _
  refine own_via (fun t k => XS.aloadN X48.here hx rfl (hb hby d1_13) rfl rfl (XS.iconst X48.here hx rfl (hb hby d1_14) k)) ?_
  obtain ⟨T49, h49, k49, X49, e49, E49, A49, -, O49, st49⟩ := newRA X48 hx hZ hown (C := "[I") (ty := .int) (by decide) (wd hw 14 rfl) (wd hw 15 rfl) e48 (g := (mkF m 15 #[rv a32, rv a33] [(.int (1 : Int32)), (.ref a32)])) rfl (hb hby d1_15) rfl (by decide) (cap := 1) (by decide) (by decide) (by decide) (by decide) (ad := "[[I") (by decide)
  obtain ⟨b50, q49⟩ : ∃ z, z = h48.size := ⟨_, rfl⟩
  rw [← q49] at A49 st49
  refine own_via (fun t k => st49 t k) ?_
  have V52 : Arv Z h48 b42 k41 (.object zs3) (64 : Int32) [] .null := (V45.other W48 (Ne.symm (Nat.ne_of_lt (Nat.lt_of_lt_of_le pE_a32.lt B44))))
  have N51 : b42 ≠ b50 := Nat.ne_of_lt (Nat.lt_of_lt_of_le V52.lt (Nat.le_of_eq q49.symm))
  have O54 : Old Z n0 h48 := ((O0.ext E41).wr W48 pG_a32)
  have g53 : n0 ≤ b50 := Nat.le_trans (own_old O54) (Nat.le_of_eq q49.symm)
  have Z56 : h0.size ≤ h48.size := (Nat.le_trans (Nat.le_trans (Nat.le_refl _) E41.1) (Nat.le_of_eq W48.size.symm))
  have B55 : h0.size ≤ b50 := Nat.le_trans Z56 (Nat.le_of_eq q49.symm)
  have V57 : Arv Z h49 b50 k49 (.array .int) (1 : Int32) [] .null := Arv.new A49 (by decide)
  show own_Goes p e below (T49.setTop (mkF m 18 #[rv a32, rv a33] [(.ref b50), (.ref a32)])) _
  have F58 : Fld Z h49 a32 zs1 "chunks" "[[I" .null := (((pF_a32_chunks.ext E41).other W48 (Or.inr (slot_ne (Or.inl (wd hw 17 rfl)) (Or.inr (wd hw 13 rfl)) (by decide) (t := (.array (.array .int))) (t' := (.array (.object zs3))) (by decide) (by decide)))).ext E49)
  have E59 : Exa Z h49 a32 zs1 := ((E47.wr W48).ext E49)
  obtain ⟨T60, h60, X60, e60, W60, st60⟩ := putF X49 hx hZ hown (host := "") (Or.inl (wd hw 16 rfl)) Via.refl e49 F58 E59 (Or.inl (wd hw 17 rfl)) (wd hw 2 rfl) (ty := (.array (.array .int))) (by decide) rfl rfl (g := (mkF m 18 #[rv a32, rv a33] [(.ref b50), (.ref a32)])) rfl rfl (hb hby d1_18)
  refine own_via (fun t k => st60 t k) ?_
  have Fw60 : Fld Z h60 a32 zs1 "chunks" "[[I" (.ref b50) := F58.same W60
  have N60 := Fr.snoc X60 N48 pG_a32
  show own_Goes p e below (T60.setTop (mkF m 21 #[rv a32, rv a33] [])) _
  refine own_via (fun t k => XS.aloadN X60.here hx rfl (hb hby d1_21) rfl rfl (XS.aloadN X60.here hx rfl (hb hby d1_22) rfl rfl k)) ?_
  have F61 : Fld Z h60 a32 zs1 "text" "[B" .null := ((((pF_a32_text.ext E41).other W48 (Or.inr (slot_ne (Or.inr (wd hw 19 rfl)) (Or.inr (wd hw 13 rfl)) (by decide) (t := (.array .byte)) (t' := (.array (.object zs3))) (by decide) (by decide)))).ext E49).other W60 (Or.inr (slot_ne (Or.inr (wd hw 19 rfl)) (Or.inl (wd hw 17 rfl)) (by decide) (t := (.array .byte)) (t' := (.array (.array .int))) (by decide) (by decide))))
  have E62 : Exa Z h60 a32 zs1 := (E59.wr W60)
  obtain ⟨T63, h63, X63, e63, W63, st63⟩ := putF X60 hx hZ hown (host := "") (Or.inl (wd hw 18 rfl)) Via.refl e60 F61 E62 (Or.inr ⟨(wd hw 19 rfl), rfl, hnm⟩) (wd hw 2 rfl) (ty := (.array .byte)) (by decide) rfl rfl (g := (mkF m 23 #[rv a32, rv a33] [(.ref a33), (.ref a32)])) rfl rfl (hb hby d1_23)
  refine own_via (fun t k => st63 t k) ?_
  have Fw63 : Fld Z h63 a32 zs1 "text" "[B" (.ref a33) := F61.same W63
  have N63 := Fr.snoc X63 N60 pG_a32
  show own_Goes p e below (T63.setTop (mkF m 26 #[rv a32, rv a33] [])) _
  refine own_via (fun t k => XS.aloadN X63.here hx rfl (hb hby d1_26) rfl rfl (XS.sipush X63.here hx rfl (hb hby d1_27) (XS.aloadN X63.here hx rfl (hb hby d1_30) rfl rfl k))) ?_
  show own_Goes p e below (T63.setTop (mkF m 31 #[rv a32, rv a33] [(.ref a33), (.int (16384 : Int32)), (.ref a32)])) _
  have L64 : own_Len Z h63 a33 .byte (4 : Int32) := (own_len_other (own_len_other (own_len_ext (own_len_other (own_len_ext pL_a33 E41) W48 pN_a33_a32) E49) W60 pN_a33_a32) W63 pN_a33_a32)
  obtain ⟨_, _, _, V65⟩ := id (L64)
  obtain ⟨cl65, Ar65, -, S65, M65, -, -⟩ := id (V65)
  refine own_via (fun t k => X63.arraylength hx (by rw [e63]; exact Ar65.1) (State.isArrayOf_alike hZ.alike Ar65.2.1) (g := (mkF m 31 #[rv a32, rv a33] [(.ref a33), (.int (16384 : Int32)), (.ref a32)])) rfl rfl (hb hby d1_31) t k) ?_
  rw [len_of S65 M65]
  show own_Goes p e below (T63.setTop (mkF m 32 #[rv a32, rv a33] [(.int (4 : Int32)), (.int (16384 : Int32)), (.ref a32)])) _
  refine own_via (fun t k => XS.bipush X63.here hx rfl (hb hby d1_32) (XS.idiv X63.here hx rfl (hb hby d1_34) rfl (by decide) (XS.bipush X63.here hx rfl (hb hby d1_35) (XS.iadd X63.here hx rfl (hb hby d1_37) rfl k)))) ?_
  show own_Goes p e below (T63.setTop (mkF m 38 #[rv a32, rv a33] [(.int (16 : Int32)), (.int (16384 : Int32)), (.ref a32)])) _
  have O79 : Old Z n0 h63 := (((O54.ext E49).wr W60 pG_a32).wr W63 pG_a32)
  obtain ⟨_, T66, _, X66, hQ66, st66⟩ := own_cs X63 hx hZ hown (wd hw 20 rfl) (wd hw 21 rfl) (wd hw 23 rfl) (wd hw 22 rfl) (by decide) (rm1 l Z a0 hw []  h63 n0 O79 ) e63 (g := (mkF m 38 #[rv a32, rv a33] [(.int (16 : Int32)), (.int (16384 : Int32)), (.ref a32)])) rfl (by rw [hml]; rfl) (rest := [(.ref a32)]) (W := 1) (lenOf pd_1 rfl) rfl (by show 2 * 0 + _ ≤ _; exact Nat.le_of_eq rfl) (hb hby d1_38) (by decide) (by decide) (by decide) (by decide)
  obtain ⟨rfl, Nq66, hh80⟩ := hQ66
  have N66 := Fr.app N63 Nq66
  refine own_via (fun t k => st66 t k) ?_
  obtain ⟨T81, h81, k81, X81, e81, E81, A81, a81x, st81⟩ := newPE X66 hx hZ (wd hw 24 rfl) hh80 (g := (mkF m 41 #[rv a32, rv a33] [(.int (16 : Int32)), (.ref a32)])) rfl (hb hby d1_41) rfl (by decide) (cap := 16) (by decide) (by decide) (by decide) (by decide) (ad := "[I") (by decide)
  obtain ⟨b82, q81⟩ : ∃ z, z = h63.size := ⟨_, rfl⟩
  rw [← q81] at A81 st81 a81x
  refine own_via (fun t k => st81 t k) ?_
  have V84 : Arv Z h63 b42 k41 (.object zs3) (64 : Int32) [] .null := (((V52.ext E49).other W60 (Ne.symm (Nat.ne_of_lt (Nat.lt_of_lt_of_le pE_a32.lt B44)))).other W63 (Ne.symm (Nat.ne_of_lt (Nat.lt_of_lt_of_le pE_a32.lt B44))))
  have N83 : b42 ≠ b82 := Nat.ne_of_lt (Nat.lt_of_lt_of_le V84.lt (Nat.le_of_eq q81.symm))
  have V86 : Arv Z h63 b50 k49 (.array .int) (1 : Int32) [] .null := ((V57.other W60 (Ne.symm (Nat.ne_of_lt (Nat.lt_of_lt_of_le pE_a32.lt B55)))).other W63 (Ne.symm (Nat.ne_of_lt (Nat.lt_of_lt_of_le pE_a32.lt B55))))
  have N85 : b50 ≠ b82 := Nat.ne_of_lt (Nat.lt_of_lt_of_le V86.lt (Nat.le_of_eq q81.symm))
  have g87 : n0 ≤ b82 := Nat.le_trans (own_old O79) (Nat.le_of_eq q81.symm)
  have Z89 : h0.size ≤ h63.size := (Nat.le_trans (Nat.le_trans (Nat.le_trans Z56 E49.1) (Nat.le_of_eq W60.size.symm)) (Nat.le_of_eq W63.size.symm))
  have B88 : h0.size ≤ b82 := Nat.le_trans Z89 (Nat.le_of_eq q81.symm)
  have V90 : Arv Z h81 b82 k81 .int (16 : Int32) [(.int (0 : Int32)), (.int (0 : Int32)), (.int (0 : Int32)), (.int (0 : Int32)), (.int (0 : Int32)), (.int (0 : Int32)), (.int (0 : Int32)), (.int (0 : Int32))] (.int (0 : Int32)) := (Arv.new A81 (by decide)).pad (pad_rep [] (.int (0 : Int32)) 8)
  show own_Goes p e below (T81.setTop (mkF m 43 #[rv a32, rv a33] [(.ref b82), (.ref a32)])) _
  have F91 : Fld Z h81 a32 zs1 "first" "[I" .null := ((((((pF_a32_first.ext E41).other W48 (Or.inr (slot_ne (Or.inl (wd hw 26 rfl)) (Or.inr (wd hw 13 rfl)) (by decide) (t := (.array .int)) (t' := (.array (.object zs3))) (by decide) (by decide)))).ext E49).other W60 (Or.inr (slot_ne (Or.inl (wd hw 26 rfl)) (Or.inl (wd hw 17 rfl)) (by decide) (t := (.array .int)) (t' := (.array (.array .int))) (by decide) (by decide)))).other W63 (Or.inr (slot_ne (Or.inl (wd hw 26 rfl)) (Or.inr (wd hw 19 rfl)) (by decide) (t := (.array .int)) (t' := (.array .byte)) (by decide) (by decide)))).ext E81)
  have E92 : Exa Z h81 a32 zs1 := ((E62.wr W63).ext E81)
  obtain ⟨T93, h93, X93, e93, W93, st93⟩ := putF X81 hx hZ hown (host := "") (Or.inl (wd hw 25 rfl)) Via.refl e81 F91 E92 (Or.inl (wd hw 26 rfl)) (wd hw 2 rfl) (ty := (.array .int)) (by decide) rfl rfl (g := (mkF m 43 #[rv a32, rv a33] [(.ref b82), (.ref a32)])) rfl rfl (hb hby d1_43)
  refine own_via (fun t k => st93 t k) ?_
  have Fw93 : Fld Z h93 a32 zs1 "first" "[I" (.ref b82) := F91.same W93
  have N93 := Fr.snoc X93 N66 pG_a32
  show own_Goes p e below (T93.setTop (mkF m 46 #[rv a32, rv a33] [])) _
  refine own_via (fun t k => XS.aloadN X93.here hx rfl (hb hby d1_46) rfl rfl k) ?_
  have F94 : Fld Z h93 a32 zs1 "chunks" "[[I" (.ref b50) := (((Fw60.other W63 (Or.inr (slot_ne (Or.inl (wd hw 17 rfl)) (Or.inr (wd hw 19 rfl)) (by decide) (t := (.array (.array .int))) (t' := (.array .byte)) (by decide) (by decide)))).ext E81).other W93 (Or.inr (slot_ne (Or.inl (wd hw 17 rfl)) (Or.inl (wd hw 26 rfl)) (by decide) (t := (.array (.array .int))) (t' := (.array .int)) (by decide) (by decide))))
  obtain ⟨T95, X95, e95, st95⟩ := getF X93 hx hZ hown (host := "") (Or.inl (wd hw 16 rfl)) Via.refl e93 F94 (g := (mkF m 47 #[rv a32, rv a33] [(.ref a32)])) rfl rfl (hb hby d1_47)
  refine own_via (fun t k => st95 t (XS.iconst X95.here hx rfl (hb hby d1_50) (XS.aloadN X95.here hx rfl (hb hby d1_51) rfl rfl k))) ?_
  show own_Goes p e below (T95.setTop (mkF m 52 #[rv a32, rv a33] [(.ref a32), (.int (0 : Int32)), (.ref b50)])) _
  obtain ⟨T96, X96, e96, st96⟩ := getF X95 hx hZ hown (host := "") (Or.inl (wd hw 25 rfl)) Via.refl e95 Fw93 (g := (mkF m 52 #[rv a32, rv a33] [(.ref a32), (.int (0 : Int32)), (.ref b50)])) rfl rfl (hb hby d1_52)
  refine own_via (fun t k => st96 t k) ?_
  have V97 : Arv Z h93 b50 k49 (.array .int) (1 : Int32) [] .null := ((V86.ext E81).other W93 (Ne.symm (Nat.ne_of_lt (Nat.lt_of_lt_of_le pE_a32.lt B55))))
  have V98 : Arv Z h93 b50 k49 (.array .int) (1 : Int32) [.null] .null := V97.pad (pad_rep [] .null 1)
  obtain ⟨cl99, Ar99, qq99, S99, M99, H99, G99⟩ := id (V98)
  have hin99 : ¬ ((0 : Int32) < 0 ∨ cl99.slots.size ≤ ((0 : Int32)).toNatClampNeg) := inb_of S99 ⟨by decide, by decide⟩
  have E100 : Exa Z h93 b82 "[I" := (a81x.wr W93)
  obtain ⟨T99, h99, X99, e99, W99, st99⟩ := stR X96 hx hZ e96 Ar99 (j := (0 : Int32)) hin99 rfl (Sto.ofVA Ar99 qq99 O49 (Ins.self E100)) (g := (mkF m 55 #[rv a32, rv a33] [(.ref b82), (.int (0 : Int32)), (.ref b50)])) rfl rfl (hb hby d1_55)
  refine own_via (fun t k => st99 t k) ?_
  have V101 : Arv Z h99 b50 k49 (.array .int) (1 : Int32) [(.ref b82)] .null := Arv.set Ar99 qq99 S99 M99 H99 G99 rfl W99 0 rfl (Nat.le_of_ble_eq_true rfl)
  have N99 := Fr.snoc X99 N93 g53
  show own_Goes p e below (T99.setTop (mkF m 56 #[rv a32, rv a33] [])) _
  obtain ⟨fs, hr, hrun, hended, hW, hsame⟩ := X99.leave (v := none) (fun _ => rfl)
  refine own_end (t := T99.setFrames fs) ?_ ⟨_, hrun, hended, _, _, rfl, ?_, ⟨_, rfl⟩, hW, hsame.mono (by decide) (by decide)⟩
  · exact X99.returnOut hx Bd.returns (hb hby d1_56) hr
  have E102 : Exa Z h99 a32 zs1 := ((E92.wr W93).wr W99)
  have F103 : Fld Z h99 a32 zs1 "text" "[B" (.ref a33) := (((Fw63.ext E81).other W93 (Or.inr (slot_ne (Or.inr (wd hw 19 rfl)) (Or.inl (wd hw 26 rfl)) (by decide) (t := (.array .byte)) (t' := (.array .int)) (by decide) (by decide)))).other W99 (Or.inl (Nat.ne_of_lt (Nat.lt_of_lt_of_le pE_a32.lt B55))))
  have F104 : Fld Z h99 a32 zs1 "first" "[I" (.ref b82) := (Fw93.other W99 (Or.inl (Nat.ne_of_lt (Nat.lt_of_lt_of_le pE_a32.lt B55))))
  have F105 : Fld Z h99 a32 zs1 "length" "I" (.int p39) := ((((((((pF_a32_length.ext E41).other W48 (Or.inr (slot_ne (Or.inl (wd hw 39 rfl)) (Or.inr (wd hw 13 rfl)) (by decide) (t := .int) (t' := (.array (.object zs3))) (by decide) (by decide)))).ext E49).other W60 (Or.inr (slot_ne (Or.inl (wd hw 39 rfl)) (Or.inl (wd hw 17 rfl)) (by decide) (t := .int) (t' := (.array (.array .int))) (by decide) (by decide)))).other W63 (Or.inr (slot_ne (Or.inl (wd hw 39 rfl)) (Or.inr (wd hw 19 rfl)) (by decide) (t := .int) (t' := (.array .byte)) (by decide) (by decide)))).ext E81).other W93 (Or.inr (slot_ne (Or.inl (wd hw 39 rfl)) (Or.inl (wd hw 26 rfl)) (by decide) (t := .int) (t' := (.array .int)) (by decide) (by decide)))).other W99 (Or.inl (Nat.ne_of_lt (Nat.lt_of_lt_of_le pE_a32.lt B55))))
  have V106 : Arv Z h99 b82 k81 .int (16 : Int32) [(.int (0 : Int32)), (.int (0 : Int32)), (.int (0 : Int32)), (.int (0 : Int32)), (.int (0 : Int32)), (.int (0 : Int32)), (.int (0 : Int32)), (.int (0 : Int32))] (.int (0 : Int32)) := ((V90.other W93 (Ne.symm (Nat.ne_of_lt (Nat.lt_of_lt_of_le pE_a32.lt B88)))).other W99 (Ne.symm N85))
  have E107 : Exa Z h99 b82 "[I" := (E100.wr W99)
  · show Q2 Z a32 a33 p39 h0 n0 _ T99.heap _
    rw [e99]
    exact ⟨b82, k81, rfl, N99, (((((((((Keep.refl h0 [a32]).ext E41).wr W48 (Or.inl (List.mem_of_getElem? (i := 0) rfl))).ext E49).wr W60 (Or.inl (List.mem_of_getElem? (i := 0) rfl))).wr W63 (Or.inl (List.mem_of_getElem? (i := 0) rfl))).ext E81).wr W93 (Or.inl (List.mem_of_getElem? (i := 0) rfl))).wr W99 (Or.inr B55)), E102, F103, F104, F105, B88, V106, E107⟩
theorem pd_2 : parseMethodDescriptor "([B)V" = some ⟨[(.array .byte)], none⟩ := by decide +kernel
theorem d4_0 : decode prog_17_method_5_code 0 = .ok (.aload_n 0, 1) := by decide +kernel
theorem d4_1 : decode prog_17_method_5_code 1 = .ok (.iload_n 1, 1) := by decide +kernel
theorem d4_2 : decode prog_17_method_5_code 2 = .ok (.invokevirtual 52, 3) := by decide +kernel
theorem d5_0 : decode prog_17_method_2_code 0 = .ok (.aload_n 0, 1) := by decide +kernel
theorem d5_1 : decode prog_17_method_2_code 1 = .ok (.getfield 34, 3) := by decide +kernel
theorem d5_4 : decode prog_17_method_2_code 4 = .ok (.aload_n 0, 1) := by decide +kernel
theorem d5_5 : decode prog_17_method_2_code 5 = .ok (.getfield 31, 3) := by decide +kernel
theorem d5_8 : decode prog_17_method_2_code 8 = .ok (.arraylength, 1) := by decide +kernel
theorem d5_9 : decode prog_17_method_2_code 9 = .ok (.if_icmp .ge 25, 3) := by decide +kernel
theorem d5_12 : decode prog_17_method_2_code 12 = .ok (.aload_n 0, 1) := by decide +kernel
theorem d5_13 : decode prog_17_method_2_code 13 = .ok (.getfield 31, 3) := by decide +kernel
theorem d5_16 : decode prog_17_method_2_code 16 = .ok (.aload_n 0, 1) := by decide +kernel
theorem d5_17 : decode prog_17_method_2_code 17 = .ok (.getfield 34, 3) := by decide +kernel
theorem d5_20 : decode prog_17_method_2_code 20 = .ok (.iload_n 1, 1) := by decide +kernel
theorem d5_21 : decode prog_17_method_2_code 21 = .ok (.iastore, 1) := by decide +kernel
theorem d5_22 : decode prog_17_method_2_code 22 = .ok (.aload_n 0, 1) := by decide +kernel
theorem d5_23 : decode prog_17_method_2_code 23 = .ok (.dup, 1) := by decide +kernel
theorem d5_24 : decode prog_17_method_2_code 24 = .ok (.getfield 34, 3) := by decide +kernel
theorem d5_27 : decode prog_17_method_2_code 27 = .ok (.dup_x1, 1) := by decide +kernel
theorem d5_28 : decode prog_17_method_2_code 28 = .ok (.iconst 1, 1) := by decide +kernel
theorem d5_29 : decode prog_17_method_2_code 29 = .ok (.iadd, 1) := by decide +kernel
theorem d5_30 : decode prog_17_method_2_code 30 = .ok (.putfield 34, 3) := by decide +kernel
theorem d5_33 : decode prog_17_method_2_code 33 = .ok (.ireturn, 1) := by decide +kernel
theorem ef_3 (m : MethodId) (x0 : Addr) (x1 : Int32) : entryFrame m #[(.ref x0), (.int x1)] 2 = mkF m 0 #[rv x0, iv x1] [] := by first | (simp [entryFrame, mkF, argsToLocals, Value.category]; done) | rfl
def Q3 (Z : State) (a200 : Addr) (p201 : Int32) (a208 : Addr) (k217 : ClassId) (p209 : Int32) (p210 : Int32) (p211 : Int32) (p212 : Int32) (p213 : Int32) (p214 : Int32) (p215 : Int32) (p216 : Int32) (a202 : Addr) (h0 : Heap) (n0 : Nat) (v : Option Value) (h : Heap) (L : List Loc) : Prop := v = some (.int (0 : Int32)) ∧ Fr n0 L ∧ Keep h0 h [a208, a200] ∧ Arv Z h a208 k217 .int (16 : Int32) [(.int p201), (.int p210), (.int p211), (.int p212), (.int p213), (.int p214), (.int p215), (.int p216)] (.int (0 : Int32)) ∧ Exa Z h a208 "[I" ∧ Exa Z h a200 zs1 ∧ Fld Z h a200 zs1 "text" "[B" (.ref a202) ∧ Fld Z h a200 zs1 "first" "[I" (.ref a208) ∧ Fld Z h a200 zs1 "length" "I" (.int (1 : Int32))
set_option maxRecDepth 65536 in
set_option maxHeartbeats 40000000 in
theorem rm3 (l : Launch) (Z : State) (a0 : Array Value) (hw : ∀ d ∈ tables_1, d.before a0 Z = true) (ws : List Jvm.Cond) (a200 : Addr) (p201 : Int32) (a208 : Addr) (k217 : ClassId) (p209 : Int32) (p210 : Int32) (p211 : Int32) (p212 : Int32) (p213 : Int32) (p214 : Int32) (p215 : Int32) (p216 : Int32) (a202 : Addr) (h0 : Heap) (n0 : Nat) (O0 : Old Z n0 h0) (pF_a200_length : Fld Z h0 a200 zs1 "length" "I" (.int (0 : Int32))) (pF_a200_first : Fld Z h0 a200 zs1 "first" "[I" (.ref a208)) (pL_a208 : own_Len Z h0 a208 .int (16 : Int32)) (pV_a208 : Arv Z h0 a208 k217 .int (16 : Int32) [(.int p209), (.int p210), (.int p211), (.int p212), (.int p213), (.int p214), (.int p215), (.int p216)] (.int (0 : Int32))) (pG_a208 : n0 ≤ a208) (pN_a200_a208 : a200 ≠ a208) (pE_a200 : Exa Z h0 a200 zs1) (pG_a200 : n0 ≤ a200) (pE_a208 : Exa Z h0 a208 "[I") (pF_a200_text : Fld Z h0 a200 zs1 "text" "[B" (.ref a202)) :
    MetFree l (⟨zs1, "add", "(I)I"⟩ : MethodName) (head1 (Jvm.Cond.code (⟨zs1, "add", "(I)I"⟩ : MethodName) prog_17_method_2_code 2 (some .int) :: ws) ({ frames := 0, cells := 0, slots := 0, locals := 0 } : Room)) (fun a U => a = #[(.ref a200), (.int p201)] ∧ Z.Warmed39 U.vm ∧ U.heap = h0) (fun _ _ _ _ _ => True) (fun _ U o U' => ∃ v L, o = .returned v ∧ Q3 Z a200 p201 a208 k217 p209 p210 p211 p212 p213 p214 p215 p216 a202 h0 n0 v U'.heap L ∧ FrameEnd U o U' L ({ frames := 0, cells := 0, slots := 0, locals := 0 } : Room).cells ({ frames := 0, cells := 0, slots := 0, locals := 0 } : Room).slots) := by
  refine MetFree.of_bodySF (plainFor_of_name pn_1) hisR ?_
  intro p e s m args below meth c s₁ Bd hml0 hP hK
  obtain ⟨rfl, hZ, hh⟩ := hP
  have hx := Bd.exec
  have hby := Bd.bytes
  have hml : c.maxLocals = 2 := hml0
  have hown : s.vm.findClass zs1 = some m.cls := findClass_of_methodNamed Bd.named
  have hnm := (name_of_methodNamed Bd.named Bd.method).1
  have X0 : Stand p l e ({ frames := 0, cells := 0, slots := 0, locals := 0 } : Room) s m #[(.ref a200), (.int p201)] below meth c s₁ [] 0 0 := Stand.of_body Bd
  have e0 : s₁.heap = h0 := by rw [← hh, Bd.state]; rfl
  have N0 := Fr.nil n0
  refine own_out ?_
  refine own_via (fun t k => castTop (ef_3 m a200 p201) (XS.aloadN X0.here hx rfl (hb hby d5_0) rfl rfl k)) ?_
  obtain ⟨T225, X225, e225, st225⟩ := getF X0 hx hZ hown (host := "") (Or.inl (wd hw 38 rfl)) Via.refl e0 pF_a200_length (g := (mkF m 1 #[rv a200, iv p201] [(.ref a200)])) rfl rfl (hb hby d5_1)
  refine own_via (fun t k => st225 t (XS.aloadN X225.here hx rfl (hb hby d5_4) rfl rfl k)) ?_
  obtain ⟨T226, X226, e226, st226⟩ := getF X225 hx hZ hown (host := "") (Or.inl (wd hw 25 rfl)) Via.refl e225 pF_a200_first (g := (mkF m 5 #[rv a200, iv p201] [(.ref a200), (.int (0 : Int32))])) rfl rfl (hb hby d5_5)
  refine own_via (fun t k => st226 t k) ?_
  obtain ⟨_, _, _, V227⟩ := id (pL_a208)
  obtain ⟨cl227, Ar227, -, S227, M227, -, -⟩ := id (V227)
  refine own_via (fun t k => X226.arraylength hx (by rw [e226]; exact Ar227.1) (State.isArrayOf_alike hZ.alike Ar227.2.1) (g := (mkF m 8 #[rv a200, iv p201] [(.ref a208), (.int (0 : Int32))])) rfl rfl (hb hby d5_8) t k) ?_
  rw [len_of S227 M227]
  show own_Goes p e below (T226.setTop (mkF m 9 #[rv a200, iv p201] [(.int (16 : Int32)), (.int (0 : Int32))])) _
  refine own_via (fun t k => XS.icmpNo X226.here hx rfl (hb hby d5_9) rfl (tlt (by decide : (0 : Int32) < (16 : Int32))).2.1 (XS.aloadN X226.here hx rfl (hb hby d5_12) rfl rfl k)) ?_
  obtain ⟨T228, X228, e228, st228⟩ := getF X226 hx hZ hown (host := "") (Or.inl (wd hw 25 rfl)) Via.refl e226 pF_a200_first (g := (mkF m 13 #[rv a200, iv p201] [(.ref a200)])) rfl rfl (hb hby d5_13)
  refine own_via (fun t k => st228 t (XS.aloadN X228.here hx rfl (hb hby d5_16) rfl rfl k)) ?_
  obtain ⟨T229, X229, e229, st229⟩ := getF X228 hx hZ hown (host := "") (Or.inl (wd hw 38 rfl)) Via.refl e228 pF_a200_length (g := (mkF m 17 #[rv a200, iv p201] [(.ref a200), (.ref a208)])) rfl rfl (hb hby d5_17)
  refine own_via (fun t k => st229 t (XS.iloadN X229.here hx rfl (hb hby d5_20) rfl k)) ?_
  obtain ⟨cl230, Ar230, qq230, S230, M230, H230, G230⟩ := id (pV_a208)
  have hin230 : ¬ ((0 : Int32) < 0 ∨ cl230.slots.size ≤ ((0 : Int32)).toNatClampNeg) := inb_of S230 ⟨by decide, by decide⟩
  obtain ⟨T230, h230, X230, e230, W230, st230⟩ := stI X229 hx hZ e229 Ar230 (j := (0 : Int32)) hin230 (g := (mkF m 21 #[rv a200, iv p201] [(.int p201), (.int (0 : Int32)), (.ref a208)])) rfl rfl (hb hby d5_21)
  refine own_via (fun t k => st230 t k) ?_
  have V231 : Arv Z h230 a208 k217 .int (16 : Int32) [(.int p201), (.int p210), (.int p211), (.int p212), (.int p213), (.int p214), (.int p215), (.int p216)] (.int (0 : Int32)) := Arv.set Ar230 qq230 S230 M230 H230 G230 rfl W230 0 rfl (Nat.le_of_ble_eq_true rfl)
  have N230 := Fr.snoc X230 N0 pG_a208
  show own_Goes p e below (T230.setTop (mkF m 22 #[rv a200, iv p201] [])) _
  refine own_via (fun t k => XS.aloadN X230.here hx rfl (hb hby d5_22) rfl rfl (XS.dup X230.here hx rfl (hb hby d5_23) rfl rfl k)) ?_
  have F232 : Fld Z h230 a200 zs1 "length" "I" (.int (0 : Int32)) := (pF_a200_length.other W230 (Or.inl pN_a200_a208))
  obtain ⟨T233, X233, e233, st233⟩ := getF X230 hx hZ hown (host := "") (Or.inl (wd hw 38 rfl)) Via.refl e230 F232 (g := (mkF m 24 #[rv a200, iv p201] [(.ref a200), (.ref a200)])) rfl rfl (hb hby d5_24)
  refine own_via (fun t k => st233 t (XS.dupX1 X233.here hx rfl (hb hby d5_27) rfl rfl rfl (XS.iconst X233.here hx rfl (hb hby d5_28) (XS.iadd X233.here hx rfl (hb hby d5_29) rfl k)))) ?_
  show own_Goes p e below (T233.setTop (mkF m 30 #[rv a200, iv p201] [(.int (1 : Int32)), (.ref a200), (.int (0 : Int32))])) _
  have E234 : Exa Z h230 a200 zs1 := (pE_a200.wr W230)
  obtain ⟨T235, h235, X235, e235, W235, st235⟩ := putF X233 hx hZ hown (host := "") (Or.inl (wd hw 38 rfl)) Via.refl e233 F232 E234 (Or.inl (wd hw 39 rfl)) (wd hw 2 rfl) (ty := .int) (by decide) rfl rfl (g := (mkF m 30 #[rv a200, iv p201] [(.int (1 : Int32)), (.ref a200), (.int (0 : Int32))])) rfl rfl (hb hby d5_30)
  refine own_via (fun t k => st235 t k) ?_
  have Fw235 : Fld Z h235 a200 zs1 "length" "I" (.int (1 : Int32)) := F232.same W235
  have N235 := Fr.snoc X235 N230 pG_a200
  show own_Goes p e below (T235.setTop (mkF m 33 #[rv a200, iv p201] [(.int (0 : Int32))])) _
  obtain ⟨fs, hr, hrun, hended, hW, hsame⟩ := X235.leave (v := some (.int (0 : Int32))) (fun h => by rw [Bd.returns] at h; cases h)
  refine own_end (t := T235.setFrames fs) ?_ ⟨_, hrun, hended, _, _, rfl, ?_, ⟨_, rfl⟩, hW, hsame.mono (by decide) (by decide)⟩
  · exact retI X235 hx Bd.returns (hb hby d5_33) hr
  have V236 : Arv Z h235 a208 k217 .int (16 : Int32) [(.int p201), (.int p210), (.int p211), (.int p212), (.int p213), (.int p214), (.int p215), (.int p216)] (.int (0 : Int32)) := (V231.other W235 (Ne.symm pN_a200_a208))
  have E237 : Exa Z h235 a208 "[I" := ((pE_a208.wr W230).wr W235)
  have E238 : Exa Z h235 a200 zs1 := (E234.wr W235)
  have F239 : Fld Z h235 a200 zs1 "text" "[B" (.ref a202) := ((pF_a200_text.other W230 (Or.inl pN_a200_a208)).other W235 (Or.inr (slot_ne (Or.inr (wd hw 19 rfl)) (Or.inl (wd hw 39 rfl)) (by decide) (t := (.array .byte)) (t' := .int) (by decide) (by decide))))
  have F240 : Fld Z h235 a200 zs1 "first" "[I" (.ref a208) := ((pF_a200_first.other W230 (Or.inl pN_a200_a208)).other W235 (Or.inr (slot_ne (Or.inl (wd hw 26 rfl)) (Or.inl (wd hw 39 rfl)) (by decide) (t := (.array .int)) (t' := .int) (by decide) (by decide))))
  · show Q3 Z a200 p201 a208 k217 p209 p210 p211 p212 p213 p214 p215 p216 a202 h0 n0 _ T235.heap _
    rw [e235]
    exact ⟨rfl, N235, (((Keep.refl h0 [a208, a200]).wr W230 (Or.inl (List.mem_of_getElem? (i := 0) rfl))).wr W235 (Or.inl (List.mem_of_getElem? (i := 1) rfl))), V236, E237, E238, F239, F240, Fw235⟩
theorem pd_3 : parseMethodDescriptor "(I)I" = some ⟨[.int], some .int⟩ := by decide +kernel
theorem d4_5 : decode prog_17_method_5_code 5 = .ok (.istore_n 2, 1) := by decide +kernel
theorem d4_6 : decode prog_17_method_5_code 6 = .ok (.aload_n 0, 1) := by decide +kernel
theorem d4_7 : decode prog_17_method_5_code 7 = .ok (.iconst 0, 1) := by decide +kernel
theorem d4_8 : decode prog_17_method_5_code 8 = .ok (.invokevirtual 52, 3) := by decide +kernel
def Q4 (Z : State) (a248 : Addr) (a255 : Addr) (k264 : ClassId) (p256 : Int32) (p257 : Int32) (p258 : Int32) (p259 : Int32) (p260 : Int32) (p261 : Int32) (p262 : Int32) (p263 : Int32) (a249 : Addr) (h0 : Heap) (n0 : Nat) (v : Option Value) (h : Heap) (L : List Loc) : Prop := v = some (.int (1 : Int32)) ∧ Fr n0 L ∧ Keep h0 h [a255, a248] ∧ Exa Z h a255 "[I" ∧ Arv Z h a255 k264 .int (16 : Int32) [(.int p256), (.int (0 : Int32)), (.int p258), (.int p259), (.int p260), (.int p261), (.int p262), (.int p263)] (.int (0 : Int32)) ∧ Exa Z h a248 zs1 ∧ Fld Z h a248 zs1 "text" "[B" (.ref a249) ∧ Fld Z h a248 zs1 "first" "[I" (.ref a255) ∧ Fld Z h a248 zs1 "length" "I" (.int (2 : Int32))
set_option maxRecDepth 65536 in
set_option maxHeartbeats 40000000 in
theorem rm4 (l : Launch) (Z : State) (a0 : Array Value) (hw : ∀ d ∈ tables_1, d.before a0 Z = true) (ws : List Jvm.Cond) (a248 : Addr) (a255 : Addr) (k264 : ClassId) (p256 : Int32) (p257 : Int32) (p258 : Int32) (p259 : Int32) (p260 : Int32) (p261 : Int32) (p262 : Int32) (p263 : Int32) (a249 : Addr) (h0 : Heap) (n0 : Nat) (O0 : Old Z n0 h0) (pF_a248_length : Fld Z h0 a248 zs1 "length" "I" (.int (1 : Int32))) (pF_a248_first : Fld Z h0 a248 zs1 "first" "[I" (.ref a255)) (pL_a255 : own_Len Z h0 a255 .int (16 : Int32)) (pV_a255 : Arv Z h0 a255 k264 .int (16 : Int32) [(.int p256), (.int p257), (.int p258), (.int p259), (.int p260), (.int p261), (.int p262), (.int p263)] (.int (0 : Int32))) (pG_a255 : n0 ≤ a255) (pN_a248_a255 : a248 ≠ a255) (pE_a248 : Exa Z h0 a248 zs1) (pG_a248 : n0 ≤ a248) (pE_a255 : Exa Z h0 a255 "[I") (pF_a248_text : Fld Z h0 a248 zs1 "text" "[B" (.ref a249)) :
    MetFree l (⟨zs1, "add", "(I)I"⟩ : MethodName) (head1 (Jvm.Cond.code (⟨zs1, "add", "(I)I"⟩ : MethodName) prog_17_method_2_code 2 (some .int) :: ws) ({ frames := 0, cells := 0, slots := 0, locals := 0 } : Room)) (fun a U => a = #[(.ref a248), (.int (0 : Int32))] ∧ Z.Warmed39 U.vm ∧ U.heap = h0) (fun _ _ _ _ _ => True) (fun _ U o U' => ∃ v L, o = .returned v ∧ Q4 Z a248 a255 k264 p256 p257 p258 p259 p260 p261 p262 p263 a249 h0 n0 v U'.heap L ∧ FrameEnd U o U' L ({ frames := 0, cells := 0, slots := 0, locals := 0 } : Room).cells ({ frames := 0, cells := 0, slots := 0, locals := 0 } : Room).slots) := by
  refine MetFree.of_bodySF (plainFor_of_name pn_1) hisR ?_
  intro p e s m args below meth c s₁ Bd hml0 hP hK
  obtain ⟨rfl, hZ, hh⟩ := hP
  have hx := Bd.exec
  have hby := Bd.bytes
  have hml : c.maxLocals = 2 := hml0
  have hown : s.vm.findClass zs1 = some m.cls := findClass_of_methodNamed Bd.named
  have hnm := (name_of_methodNamed Bd.named Bd.method).1
  have X0 : Stand p l e ({ frames := 0, cells := 0, slots := 0, locals := 0 } : Room) s m #[(.ref a248), (.int (0 : Int32))] below meth c s₁ [] 0 0 := Stand.of_body Bd
  have e0 : s₁.heap = h0 := by rw [← hh, Bd.state]; rfl
  have N0 := Fr.nil n0
  refine own_out ?_
  refine own_via (fun t k => castTop (ef_3 m a248 (0 : Int32)) (XS.aloadN X0.here hx rfl (hb hby d5_0) rfl rfl k)) ?_
  obtain ⟨T272, X272, e272, st272⟩ := getF X0 hx hZ hown (host := "") (Or.inl (wd hw 38 rfl)) Via.refl e0 pF_a248_length (g := (mkF m 1 #[rv a248, iv (0 : Int32)] [(.ref a248)])) rfl rfl (hb hby d5_1)
  refine own_via (fun t k => st272 t (XS.aloadN X272.here hx rfl (hb hby d5_4) rfl rfl k)) ?_
  obtain ⟨T273, X273, e273, st273⟩ := getF X272 hx hZ hown (host := "") (Or.inl (wd hw 25 rfl)) Via.refl e272 pF_a248_first (g := (mkF m 5 #[rv a248, iv (0 : Int32)] [(.ref a248), (.int (1 : Int32))])) rfl rfl (hb hby d5_5)
  refine own_via (fun t k => st273 t k) ?_
  obtain ⟨_, _, _, V274⟩ := id (pL_a255)
  obtain ⟨cl274, Ar274, -, S274, M274, -, -⟩ := id (V274)
  refine own_via (fun t k => X273.arraylength hx (by rw [e273]; exact Ar274.1) (State.isArrayOf_alike hZ.alike Ar274.2.1) (g := (mkF m 8 #[rv a248, iv (0 : Int32)] [(.ref a255), (.int (1 : Int32))])) rfl rfl (hb hby d5_8) t k) ?_
  rw [len_of S274 M274]
  show own_Goes p e below (T273.setTop (mkF m 9 #[rv a248, iv (0 : Int32)] [(.int (16 : Int32)), (.int (1 : Int32))])) _
  refine own_via (fun t k => XS.icmpNo X273.here hx rfl (hb hby d5_9) rfl (tlt (by decide : (1 : Int32) < (16 : Int32))).2.1 (XS.aloadN X273.here hx rfl (hb hby d5_12) rfl rfl k)) ?_
  obtain ⟨T275, X275, e275, st275⟩ := getF X273 hx hZ hown (host := "") (Or.inl (wd hw 25 rfl)) Via.refl e273 pF_a248_first (g := (mkF m 13 #[rv a248, iv (0 : Int32)] [(.ref a248)])) rfl rfl (hb hby d5_13)
  refine own_via (fun t k => st275 t (XS.aloadN X275.here hx rfl (hb hby d5_16) rfl rfl k)) ?_
  obtain ⟨T276, X276, e276, st276⟩ := getF X275 hx hZ hown (host := "") (Or.inl (wd hw 38 rfl)) Via.refl e275 pF_a248_length (g := (mkF m 17 #[rv a248, iv (0 : Int32)] [(.ref a248), (.ref a255)])) rfl rfl (hb hby d5_17)
  refine own_via (fun t k => st276 t (XS.iloadN X276.here hx rfl (hb hby d5_20) rfl k)) ?_
  obtain ⟨cl277, Ar277, qq277, S277, M277, H277, G277⟩ := id (pV_a255)
  have hin277 : ¬ ((1 : Int32) < 0 ∨ cl277.slots.size ≤ ((1 : Int32)).toNatClampNeg) := inb_of S277 ⟨by decide, by decide⟩
  obtain ⟨T277, h277, X277, e277, W277, st277⟩ := stI X276 hx hZ e276 Ar277 (j := (1 : Int32)) hin277 (g := (mkF m 21 #[rv a248, iv (0 : Int32)] [(.int (0 : Int32)), (.int (1 : Int32)), (.ref a255)])) rfl rfl (hb hby d5_21)
  refine own_via (fun t k => st277 t k) ?_
  have V278 : Arv Z h277 a255 k264 .int (16 : Int32) [(.int p256), (.int (0 : Int32)), (.int p258), (.int p259), (.int p260), (.int p261), (.int p262), (.int p263)] (.int (0 : Int32)) := Arv.set Ar277 qq277 S277 M277 H277 G277 rfl W277 1 rfl (Nat.le_of_ble_eq_true rfl)
  have N277 := Fr.snoc X277 N0 pG_a255
  show own_Goes p e below (T277.setTop (mkF m 22 #[rv a248, iv (0 : Int32)] [])) _
  refine own_via (fun t k => XS.aloadN X277.here hx rfl (hb hby d5_22) rfl rfl (XS.dup X277.here hx rfl (hb hby d5_23) rfl rfl k)) ?_
  have F279 : Fld Z h277 a248 zs1 "length" "I" (.int (1 : Int32)) := (pF_a248_length.other W277 (Or.inl pN_a248_a255))
  obtain ⟨T280, X280, e280, st280⟩ := getF X277 hx hZ hown (host := "") (Or.inl (wd hw 38 rfl)) Via.refl e277 F279 (g := (mkF m 24 #[rv a248, iv (0 : Int32)] [(.ref a248), (.ref a248)])) rfl rfl (hb hby d5_24)
  refine own_via (fun t k => st280 t (XS.dupX1 X280.here hx rfl (hb hby d5_27) rfl rfl rfl (XS.iconst X280.here hx rfl (hb hby d5_28) (XS.iadd X280.here hx rfl (hb hby d5_29) rfl k)))) ?_
  show own_Goes p e below (T280.setTop (mkF m 30 #[rv a248, iv (0 : Int32)] [(.int (2 : Int32)), (.ref a248), (.int (1 : Int32))])) _
  have E281 : Exa Z h277 a248 zs1 := (pE_a248.wr W277)
  obtain ⟨T282, h282, X282, e282, W282, st282⟩ := putF X280 hx hZ hown (host := "") (Or.inl (wd hw 38 rfl)) Via.refl e280 F279 E281 (Or.inl (wd hw 39 rfl)) (wd hw 2 rfl) (ty := .int) (by decide) rfl rfl (g := (mkF m 30 #[rv a248, iv (0 : Int32)] [(.int (2 : Int32)), (.ref a248), (.int (1 : Int32))])) rfl rfl (hb hby d5_30)
  refine own_via (fun t k => st282 t k) ?_
  have Fw282 : Fld Z h282 a248 zs1 "length" "I" (.int (2 : Int32)) := F279.same W282
  have N282 := Fr.snoc X282 N277 pG_a248
  show own_Goes p e below (T282.setTop (mkF m 33 #[rv a248, iv (0 : Int32)] [(.int (1 : Int32))])) _
  obtain ⟨fs, hr, hrun, hended, hW, hsame⟩ := X282.leave (v := some (.int (1 : Int32))) (fun h => by rw [Bd.returns] at h; cases h)
  refine own_end (t := T282.setFrames fs) ?_ ⟨_, hrun, hended, _, _, rfl, ?_, ⟨_, rfl⟩, hW, hsame.mono (by decide) (by decide)⟩
  · exact retI X282 hx Bd.returns (hb hby d5_33) hr
  have E283 : Exa Z h282 a255 "[I" := ((pE_a255.wr W277).wr W282)
  have V284 : Arv Z h282 a255 k264 .int (16 : Int32) [(.int p256), (.int (0 : Int32)), (.int p258), (.int p259), (.int p260), (.int p261), (.int p262), (.int p263)] (.int (0 : Int32)) := (V278.other W282 (Ne.symm pN_a248_a255))
  have E285 : Exa Z h282 a248 zs1 := (E281.wr W282)
  have F286 : Fld Z h282 a248 zs1 "text" "[B" (.ref a249) := ((pF_a248_text.other W277 (Or.inl pN_a248_a255)).other W282 (Or.inr (slot_ne (Or.inr (wd hw 19 rfl)) (Or.inl (wd hw 39 rfl)) (by decide) (t := (.array .byte)) (t' := .int) (by decide) (by decide))))
  have F287 : Fld Z h282 a248 zs1 "first" "[I" (.ref a255) := ((pF_a248_first.other W277 (Or.inl pN_a248_a255)).other W282 (Or.inr (slot_ne (Or.inl (wd hw 26 rfl)) (Or.inl (wd hw 39 rfl)) (by decide) (t := (.array .int)) (t' := .int) (by decide) (by decide))))
  · show Q4 Z a248 a255 k264 p256 p257 p258 p259 p260 p261 p262 p263 a249 h0 n0 _ T282.heap _
    rw [e282]
    exact ⟨rfl, N282, (((Keep.refl h0 [a255, a248]).wr W277 (Or.inl (List.mem_of_getElem? (i := 0) rfl))).wr W282 (Or.inl (List.mem_of_getElem? (i := 1) rfl))), E283, V284, E285, F286, F287, Fw282⟩
theorem d4_11 : decode prog_17_method_5_code 11 = .ok (.pop, 1) := by decide +kernel
theorem d4_12 : decode prog_17_method_5_code 12 = .ok (.aload_n 0, 1) := by decide +kernel
theorem d4_13 : decode prog_17_method_5_code 13 = .ok (.iconst 0, 1) := by decide +kernel
theorem d4_14 : decode prog_17_method_5_code 14 = .ok (.invokevirtual 52, 3) := by decide +kernel
def Q5 (Z : State) (a297 : Addr) (a304 : Addr) (k313 : ClassId) (p305 : Int32) (p306 : Int32) (p307 : Int32) (p308 : Int32) (p309 : Int32) (p310 : Int32) (p311 : Int32) (p312 : Int32) (a298 : Addr) (h0 : Heap) (n0 : Nat) (v : Option Value) (h : Heap) (L : List Loc) : Prop := v = some (.int (2 : Int32)) ∧ Fr n0 L ∧ Keep h0 h [a304, a297] ∧ Exa Z h a304 "[I" ∧ Arv Z h a304 k313 .int (16 : Int32) [(.int p305), (.int p306), (.int (0 : Int32)), (.int p308), (.int p309), (.int p310), (.int p311), (.int p312)] (.int (0 : Int32)) ∧ Exa Z h a297 zs1 ∧ Fld Z h a297 zs1 "text" "[B" (.ref a298) ∧ Fld Z h a297 zs1 "first" "[I" (.ref a304) ∧ Fld Z h a297 zs1 "length" "I" (.int (3 : Int32))
set_option maxRecDepth 65536 in
set_option maxHeartbeats 40000000 in
theorem rm5 (l : Launch) (Z : State) (a0 : Array Value) (hw : ∀ d ∈ tables_1, d.before a0 Z = true) (ws : List Jvm.Cond) (a297 : Addr) (a304 : Addr) (k313 : ClassId) (p305 : Int32) (p306 : Int32) (p307 : Int32) (p308 : Int32) (p309 : Int32) (p310 : Int32) (p311 : Int32) (p312 : Int32) (a298 : Addr) (h0 : Heap) (n0 : Nat) (O0 : Old Z n0 h0) (pF_a297_length : Fld Z h0 a297 zs1 "length" "I" (.int (2 : Int32))) (pF_a297_first : Fld Z h0 a297 zs1 "first" "[I" (.ref a304)) (pL_a304 : own_Len Z h0 a304 .int (16 : Int32)) (pV_a304 : Arv Z h0 a304 k313 .int (16 : Int32) [(.int p305), (.int p306), (.int p307), (.int p308), (.int p309), (.int p310), (.int p311), (.int p312)] (.int (0 : Int32))) (pG_a304 : n0 ≤ a304) (pN_a297_a304 : a297 ≠ a304) (pE_a297 : Exa Z h0 a297 zs1) (pG_a297 : n0 ≤ a297) (pE_a304 : Exa Z h0 a304 "[I") (pF_a297_text : Fld Z h0 a297 zs1 "text" "[B" (.ref a298)) :
    MetFree l (⟨zs1, "add", "(I)I"⟩ : MethodName) (head1 (Jvm.Cond.code (⟨zs1, "add", "(I)I"⟩ : MethodName) prog_17_method_2_code 2 (some .int) :: ws) ({ frames := 0, cells := 0, slots := 0, locals := 0 } : Room)) (fun a U => a = #[(.ref a297), (.int (0 : Int32))] ∧ Z.Warmed39 U.vm ∧ U.heap = h0) (fun _ _ _ _ _ => True) (fun _ U o U' => ∃ v L, o = .returned v ∧ Q5 Z a297 a304 k313 p305 p306 p307 p308 p309 p310 p311 p312 a298 h0 n0 v U'.heap L ∧ FrameEnd U o U' L ({ frames := 0, cells := 0, slots := 0, locals := 0 } : Room).cells ({ frames := 0, cells := 0, slots := 0, locals := 0 } : Room).slots) := by
  refine MetFree.of_bodySF (plainFor_of_name pn_1) hisR ?_
  intro p e s m args below meth c s₁ Bd hml0 hP hK
  obtain ⟨rfl, hZ, hh⟩ := hP
  have hx := Bd.exec
  have hby := Bd.bytes
  have hml : c.maxLocals = 2 := hml0
  have hown : s.vm.findClass zs1 = some m.cls := findClass_of_methodNamed Bd.named
  have hnm := (name_of_methodNamed Bd.named Bd.method).1
  have X0 : Stand p l e ({ frames := 0, cells := 0, slots := 0, locals := 0 } : Room) s m #[(.ref a297), (.int (0 : Int32))] below meth c s₁ [] 0 0 := Stand.of_body Bd
  have e0 : s₁.heap = h0 := by rw [← hh, Bd.state]; rfl
  have N0 := Fr.nil n0
  refine own_out ?_
  refine own_via (fun t k => castTop (ef_3 m a297 (0 : Int32)) (XS.aloadN X0.here hx rfl (hb hby d5_0) rfl rfl k)) ?_
  obtain ⟨T321, X321, e321, st321⟩ := getF X0 hx hZ hown (host := "") (Or.inl (wd hw 38 rfl)) Via.refl e0 pF_a297_length (g := (mkF m 1 #[rv a297, iv (0 : Int32)] [(.ref a297)])) rfl rfl (hb hby d5_1)
  refine own_via (fun t k => st321 t (XS.aloadN X321.here hx rfl (hb hby d5_4) rfl rfl k)) ?_
  obtain ⟨T322, X322, e322, st322⟩ := getF X321 hx hZ hown (host := "") (Or.inl (wd hw 25 rfl)) Via.refl e321 pF_a297_first (g := (mkF m 5 #[rv a297, iv (0 : Int32)] [(.ref a297), (.int (2 : Int32))])) rfl rfl (hb hby d5_5)
  refine own_via (fun t k => st322 t k) ?_
  obtain ⟨_, _, _, V323⟩ := id (pL_a304)
  obtain ⟨cl323, Ar323, -, S323, M323, -, -⟩ := id (V323)
  refine own_via (fun t k => X322.arraylength hx (by rw [e322]; exact Ar323.1) (State.isArrayOf_alike hZ.alike Ar323.2.1) (g := (mkF m 8 #[rv a297, iv (0 : Int32)] [(.ref a304), (.int (2 : Int32))])) rfl rfl (hb hby d5_8) t k) ?_
  rw [len_of S323 M323]
  show own_Goes p e below (T322.setTop (mkF m 9 #[rv a297, iv (0 : Int32)] [(.int (16 : Int32)), (.int (2 : Int32))])) _
  refine own_via (fun t k => XS.icmpNo X322.here hx rfl (hb hby d5_9) rfl (tlt (by decide : (2 : Int32) < (16 : Int32))).2.1 (XS.aloadN X322.here hx rfl (hb hby d5_12) rfl rfl k)) ?_
  obtain ⟨T324, X324, e324, st324⟩ := getF X322 hx hZ hown (host := "") (Or.inl (wd hw 25 rfl)) Via.refl e322 pF_a297_first (g := (mkF m 13 #[rv a297, iv (0 : Int32)] [(.ref a297)])) rfl rfl (hb hby d5_13)
  refine own_via (fun t k => st324 t (XS.aloadN X324.here hx rfl (hb hby d5_16) rfl rfl k)) ?_
  obtain ⟨T325, X325, e325, st325⟩ := getF X324 hx hZ hown (host := "") (Or.inl (wd hw 38 rfl)) Via.refl e324 pF_a297_length (g := (mkF m 17 #[rv a297, iv (0 : Int32)] [(.ref a297), (.ref a304)])) rfl rfl (hb hby d5_17)
  refine own_via (fun t k => st325 t (XS.iloadN X325.here hx rfl (hb hby d5_20) rfl k)) ?_
  obtain ⟨cl326, Ar326, qq326, S326, M326, H326, G326⟩ := id (pV_a304)
  have hin326 : ¬ ((2 : Int32) < 0 ∨ cl326.slots.size ≤ ((2 : Int32)).toNatClampNeg) := inb_of S326 ⟨by decide, by decide⟩
  obtain ⟨T326, h326, X326, e326, W326, st326⟩ := stI X325 hx hZ e325 Ar326 (j := (2 : Int32)) hin326 (g := (mkF m 21 #[rv a297, iv (0 : Int32)] [(.int (0 : Int32)), (.int (2 : Int32)), (.ref a304)])) rfl rfl (hb hby d5_21)
  refine own_via (fun t k => st326 t k) ?_
  have V327 : Arv Z h326 a304 k313 .int (16 : Int32) [(.int p305), (.int p306), (.int (0 : Int32)), (.int p308), (.int p309), (.int p310), (.int p311), (.int p312)] (.int (0 : Int32)) := Arv.set Ar326 qq326 S326 M326 H326 G326 rfl W326 2 rfl (Nat.le_of_ble_eq_true rfl)
  have N326 := Fr.snoc X326 N0 pG_a304
  show own_Goes p e below (T326.setTop (mkF m 22 #[rv a297, iv (0 : Int32)] [])) _
  refine own_via (fun t k => XS.aloadN X326.here hx rfl (hb hby d5_22) rfl rfl (XS.dup X326.here hx rfl (hb hby d5_23) rfl rfl k)) ?_
  have F328 : Fld Z h326 a297 zs1 "length" "I" (.int (2 : Int32)) := (pF_a297_length.other W326 (Or.inl pN_a297_a304))
  obtain ⟨T329, X329, e329, st329⟩ := getF X326 hx hZ hown (host := "") (Or.inl (wd hw 38 rfl)) Via.refl e326 F328 (g := (mkF m 24 #[rv a297, iv (0 : Int32)] [(.ref a297), (.ref a297)])) rfl rfl (hb hby d5_24)
  refine own_via (fun t k => st329 t (XS.dupX1 X329.here hx rfl (hb hby d5_27) rfl rfl rfl (XS.iconst X329.here hx rfl (hb hby d5_28) (XS.iadd X329.here hx rfl (hb hby d5_29) rfl k)))) ?_
  show own_Goes p e below (T329.setTop (mkF m 30 #[rv a297, iv (0 : Int32)] [(.int (3 : Int32)), (.ref a297), (.int (2 : Int32))])) _
  have E330 : Exa Z h326 a297 zs1 := (pE_a297.wr W326)
  obtain ⟨T331, h331, X331, e331, W331, st331⟩ := putF X329 hx hZ hown (host := "") (Or.inl (wd hw 38 rfl)) Via.refl e329 F328 E330 (Or.inl (wd hw 39 rfl)) (wd hw 2 rfl) (ty := .int) (by decide) rfl rfl (g := (mkF m 30 #[rv a297, iv (0 : Int32)] [(.int (3 : Int32)), (.ref a297), (.int (2 : Int32))])) rfl rfl (hb hby d5_30)
  refine own_via (fun t k => st331 t k) ?_
  have Fw331 : Fld Z h331 a297 zs1 "length" "I" (.int (3 : Int32)) := F328.same W331
  have N331 := Fr.snoc X331 N326 pG_a297
  show own_Goes p e below (T331.setTop (mkF m 33 #[rv a297, iv (0 : Int32)] [(.int (2 : Int32))])) _
  obtain ⟨fs, hr, hrun, hended, hW, hsame⟩ := X331.leave (v := some (.int (2 : Int32))) (fun h => by rw [Bd.returns] at h; cases h)
  refine own_end (t := T331.setFrames fs) ?_ ⟨_, hrun, hended, _, _, rfl, ?_, ⟨_, rfl⟩, hW, hsame.mono (by decide) (by decide)⟩
  · exact retI X331 hx Bd.returns (hb hby d5_33) hr
  have E332 : Exa Z h331 a304 "[I" := ((pE_a304.wr W326).wr W331)
  have V333 : Arv Z h331 a304 k313 .int (16 : Int32) [(.int p305), (.int p306), (.int (0 : Int32)), (.int p308), (.int p309), (.int p310), (.int p311), (.int p312)] (.int (0 : Int32)) := (V327.other W331 (Ne.symm pN_a297_a304))
  have E334 : Exa Z h331 a297 zs1 := (E330.wr W331)
  have F335 : Fld Z h331 a297 zs1 "text" "[B" (.ref a298) := ((pF_a297_text.other W326 (Or.inl pN_a297_a304)).other W331 (Or.inr (slot_ne (Or.inr (wd hw 19 rfl)) (Or.inl (wd hw 39 rfl)) (by decide) (t := (.array .byte)) (t' := .int) (by decide) (by decide))))
  have F336 : Fld Z h331 a297 zs1 "first" "[I" (.ref a304) := ((pF_a297_first.other W326 (Or.inl pN_a297_a304)).other W331 (Or.inr (slot_ne (Or.inl (wd hw 26 rfl)) (Or.inl (wd hw 39 rfl)) (by decide) (t := (.array .int)) (t' := .int) (by decide) (by decide))))
  · show Q5 Z a297 a304 k313 p305 p306 p307 p308 p309 p310 p311 p312 a298 h0 n0 _ T331.heap _
    rw [e331]
    exact ⟨rfl, N331, (((Keep.refl h0 [a304, a297]).wr W326 (Or.inl (List.mem_of_getElem? (i := 0) rfl))).wr W331 (Or.inl (List.mem_of_getElem? (i := 1) rfl))), E332, V333, E334, F335, F336, Fw331⟩
theorem d4_17 : decode prog_17_method_5_code 17 = .ok (.pop, 1) := by decide +kernel
theorem d4_18 : decode prog_17_method_5_code 18 = .ok (.iload_n 2, 1) := by decide +kernel
theorem d4_19 : decode prog_17_method_5_code 19 = .ok (.ireturn, 1) := by decide +kernel
theorem ef_4 (m : MethodId) (x0 : Addr) (x1 : Int32) : entryFrame m #[(.ref x0), (.int x1)] 3 = mkF m 0 #[rv x0, iv x1, .unset] [] := by first | (simp [entryFrame, mkF, argsToLocals, Value.category]; done) | rfl
def Q6 (Z : State) (a174 : Addr) (p175 : Int32) (a182 : Addr) (k191 : ClassId) (p183 : Int32) (p184 : Int32) (p185 : Int32) (p186 : Int32) (p187 : Int32) (p188 : Int32) (p189 : Int32) (p190 : Int32) (a176 : Addr) (h0 : Heap) (n0 : Nat) (v : Option Value) (h : Heap) (L : List Loc) : Prop := v = some (.int (0 : Int32)) ∧ Fr n0 L ∧ Keep h0 h [a182, a174] ∧ Exa Z h a182 "[I" ∧ Arv Z h a182 k191 .int (16 : Int32) [(.int p175), (.int (0 : Int32)), (.int (0 : Int32)), (.int p186), (.int p187), (.int p188), (.int p189), (.int p190)] (.int (0 : Int32)) ∧ Exa Z h a174 zs1 ∧ Fld Z h a174 zs1 "text" "[B" (.ref a176) ∧ Fld Z h a174 zs1 "first" "[I" (.ref a182) ∧ Fld Z h a174 zs1 "length" "I" (.int (3 : Int32))
set_option maxRecDepth 65536 in
set_option maxHeartbeats 40000000 in
theorem rm6 (l : Launch) (Z : State) (a0 : Array Value) (hw : ∀ d ∈ tables_1, d.before a0 Z = true) (ws : List Jvm.Cond) (a174 : Addr) (p175 : Int32) (a182 : Addr) (k191 : ClassId) (p183 : Int32) (p184 : Int32) (p185 : Int32) (p186 : Int32) (p187 : Int32) (p188 : Int32) (p189 : Int32) (p190 : Int32) (a176 : Addr) (h0 : Heap) (n0 : Nat) (O0 : Old Z n0 h0) (pF_a174_length : Fld Z h0 a174 zs1 "length" "I" (.int (0 : Int32))) (pF_a174_first : Fld Z h0 a174 zs1 "first" "[I" (.ref a182)) (pL_a182 : own_Len Z h0 a182 .int (16 : Int32)) (pV_a182 : Arv Z h0 a182 k191 .int (16 : Int32) [(.int p183), (.int p184), (.int p185), (.int p186), (.int p187), (.int p188), (.int p189), (.int p190)] (.int (0 : Int32))) (pG_a182 : n0 ≤ a182) (pN_a174_a182 : a174 ≠ a182) (pE_a174 : Exa Z h0 a174 zs1) (pG_a174 : n0 ≤ a174) (pE_a182 : Exa Z h0 a182 "[I") (pF_a174_text : Fld Z h0 a174 zs1 "text" "[B" (.ref a176)) :
    MetFree l (⟨zs1, "open", "(I)I"⟩ : MethodName) (head1 (Jvm.Cond.code (⟨zs1, "open", "(I)I"⟩ : MethodName) prog_17_method_5_code 3 (some .int) :: ws) ({ frames := 1, cells := 0, slots := 0, locals := 13 } : Room)) (fun a U => a = #[(.ref a174), (.int p175)] ∧ Z.Warmed39 U.vm ∧ U.heap = h0) (fun _ _ _ _ _ => True) (fun _ U o U' => ∃ v L, o = .returned v ∧ Q6 Z a174 p175 a182 k191 p183 p184 p185 p186 p187 p188 p189 p190 a176 h0 n0 v U'.heap L ∧ FrameEnd U o U' L ({ frames := 1, cells := 0, slots := 0, locals := 13 } : Room).cells ({ frames := 1, cells := 0, slots := 0, locals := 13 } : Room).slots) := by
  refine MetFree.of_bodySF (plainFor_of_name pn_1) hisR ?_
  intro p e s m args below meth c s₁ Bd hml0 hP hK
  obtain ⟨rfl, hZ, hh⟩ := hP
  have hx := Bd.exec
  have hby := Bd.bytes
  have hml : c.maxLocals = 3 := hml0
  have hown : s.vm.findClass zs1 = some m.cls := findClass_of_methodNamed Bd.named
  have hnm := (name_of_methodNamed Bd.named Bd.method).1
  have X0 : Stand p l e ({ frames := 1, cells := 0, slots := 0, locals := 13 } : Room) s m #[(.ref a174), (.int p175)] below meth c s₁ [] 0 0 := Stand.of_body Bd
  have e0 : s₁.heap = h0 := by rw [← hh, Bd.state]; rfl
  have N0 := Fr.nil n0
  refine own_out ?_
  refine own_via (fun t k => castTop (ef_4 m a174 p175) (XS.aloadN X0.here hx rfl (hb hby d4_0) rfl rfl (XS.iloadN X0.here hx rfl (hb hby d4_1) rfl k))) ?_
  show own_Goes p e below (s₁.setTop (mkF m 2 #[rv a174, iv p175, .unset] [(.int p175), (.ref a174)])) _
  obtain ⟨_, T199, _, X199, hQ199, st199⟩ := own_cv X0 hx hZ hown (wd hw 33 rfl) (wd hw 34 rfl) (wd hw 36 rfl) (wd hw 35 rfl) (wd hw 37 rfl) (wd hw 3 rfl) (by decide) (rm3 l Z a0 hw [] a174 p175 a182 k191 p183 p184 p185 p186 p187 p188 p189 p190 a176 h0 n0 O0 pF_a174_length pF_a174_first pL_a182 pV_a182 pG_a182 pN_a174_a182 pE_a174 pG_a174 pE_a182 pF_a174_text) e0 pE_a174 (g := (mkF m 2 #[rv a174, iv p175, .unset] [(.int p175), (.ref a174)])) rfl (by rw [hml]; rfl) (rest := []) (W := 0) (lenOf pd_3 rfl) rfl (by show 2 * 0 + _ ≤ _; exact Nat.le_of_eq rfl) (hb hby d4_2) (by decide) (by decide) (by decide) (by decide)
  obtain ⟨h199, e199⟩ : ∃ z, T199.heap = z := ⟨_, rfl⟩
  rw [e199] at hQ199
  obtain ⟨rfl, Nq199, K199, vx241, ex242, ex243, fx244, fx245, fx246⟩ := hQ199
  have N199 := Fr.app N0 Nq199
  refine own_via (fun t k => st199 t (XS.istoreN X199.here hx rfl (hb hby d4_5) rfl (l' := #[rv a174, iv p175, iv (0 : Int32)]) rfl (XS.aloadN X199.here hx rfl (hb hby d4_6) rfl rfl (XS.iconst X199.here hx rfl (hb hby d4_7) k)))) ?_
  show own_Goes p e below (T199.setTop (mkF m 8 #[rv a174, iv p175, iv (0 : Int32)] [(.int (0 : Int32)), (.ref a174)])) _
  have l288 : own_Len Z h199 a182 .int (16 : Int32) := ⟨_, _, _, vx241⟩
  have O289 : Old Z n0 h199 := (O0.keep K199 (allS pG_a182 (allS pG_a174 all0)))
  obtain ⟨_, T247, _, X247, hQ247, st247⟩ := own_cv X199 hx hZ hown (wd hw 33 rfl) (wd hw 34 rfl) (wd hw 36 rfl) (wd hw 35 rfl) (wd hw 37 rfl) (wd hw 3 rfl) (by decide) (rm4 l Z a0 hw [] a174 a182 k191 p175 p184 p185 p186 p187 p188 p189 p190 a176 h199 n0 O289 fx246 fx245 l288 vx241 pG_a182 pN_a174_a182 ex243 pG_a174 ex242 fx244) e199 ex243 (g := (mkF m 8 #[rv a174, iv p175, iv (0 : Int32)] [(.int (0 : Int32)), (.ref a174)])) rfl (by rw [hml]; rfl) (rest := []) (W := 0) (lenOf pd_3 rfl) rfl (by show 2 * 0 + _ ≤ _; exact Nat.le_of_eq rfl) (hb hby d4_8) (by decide) (by decide) (by decide) (by decide)
  obtain ⟨h247, e247⟩ : ∃ z, T247.heap = z := ⟨_, rfl⟩
  rw [e247] at hQ247
  obtain ⟨rfl, Nq247, K247, ex290, vx291, ex292, fx293, fx294, fx295⟩ := hQ247
  have N247 := Fr.app N199 Nq247
  refine own_via (fun t k => st247 t (XS.pop X247.here hx rfl (hb hby d4_11) rfl rfl (XS.aloadN X247.here hx rfl (hb hby d4_12) rfl rfl (XS.iconst X247.here hx rfl (hb hby d4_13) k)))) ?_
  show own_Goes p e below (T247.setTop (mkF m 14 #[rv a174, iv p175, iv (0 : Int32)] [(.int (0 : Int32)), (.ref a174)])) _
  have l337 : own_Len Z h247 a182 .int (16 : Int32) := ⟨_, _, _, vx291⟩
  have O338 : Old Z n0 h247 := (O289.keep K247 (allS pG_a182 (allS pG_a174 all0)))
  obtain ⟨_, T296, _, X296, hQ296, st296⟩ := own_cv X247 hx hZ hown (wd hw 33 rfl) (wd hw 34 rfl) (wd hw 36 rfl) (wd hw 35 rfl) (wd hw 37 rfl) (wd hw 3 rfl) (by decide) (rm5 l Z a0 hw [] a174 a182 k191 p175 (0 : Int32) p185 p186 p187 p188 p189 p190 a176 h247 n0 O338 fx295 fx294 l337 vx291 pG_a182 pN_a174_a182 ex292 pG_a174 ex290 fx293) e247 ex292 (g := (mkF m 14 #[rv a174, iv p175, iv (0 : Int32)] [(.int (0 : Int32)), (.ref a174)])) rfl (by rw [hml]; rfl) (rest := []) (W := 0) (lenOf pd_3 rfl) rfl (by show 2 * 0 + _ ≤ _; exact Nat.le_of_eq rfl) (hb hby d4_14) (by decide) (by decide) (by decide) (by decide)
  obtain ⟨h296, e296⟩ : ∃ z, T296.heap = z := ⟨_, rfl⟩
  rw [e296] at hQ296
  obtain ⟨rfl, Nq296, K296, ex339, vx340, ex341, fx342, fx343, fx344⟩ := hQ296
  have N296 := Fr.app N247 Nq296
  refine own_via (fun t k => st296 t (XS.pop X296.here hx rfl (hb hby d4_17) rfl rfl (XS.iloadN X296.here hx rfl (hb hby d4_18) rfl k))) ?_
  show own_Goes p e below (T296.setTop (mkF m 19 #[rv a174, iv p175, iv (0 : Int32)] [(.int (0 : Int32))])) _
  obtain ⟨fs, hr, hrun, hended, hW, hsame⟩ := X296.leave (v := some (.int (0 : Int32))) (fun h => by rw [Bd.returns] at h; cases h)
  refine own_end (t := T296.setFrames fs) ?_ ⟨_, hrun, hended, _, _, rfl, ?_, ⟨_, rfl⟩, hW, hsame.mono (by decide) (by decide)⟩
  · exact retI X296 hx Bd.returns (hb hby d4_19) hr
  · show Q6 Z a174 p175 a182 k191 p183 p184 p185 p186 p187 p188 p189 p190 a176 h0 n0 _ T296.heap _
    rw [e296]
    exact ⟨rfl, N296, ((((Keep.refl h0 [a182, a174]).trans K199 (allS (Or.inl (List.mem_of_getElem? (i := 0) rfl)) (allS (Or.inl (List.mem_of_getElem? (i := 1) rfl)) all0))).trans K247 (allS (Or.inl (List.mem_of_getElem? (i := 0) rfl)) (allS (Or.inl (List.mem_of_getElem? (i := 1) rfl)) all0))).trans K296 (allS (Or.inl (List.mem_of_getElem? (i := 0) rfl)) (allS (Or.inl (List.mem_of_getElem? (i := 1) rfl)) all0))), ex339, vx340, ex341, fx342, fx343, fx344⟩
theorem d6_0 : decode prog_17_method_6_code 0 = .ok (.aload_n 0, 1) := by decide +kernel
theorem d6_1 : decode prog_17_method_6_code 1 = .ok (.iload_n 1, 1) := by decide +kernel
theorem d6_2 : decode prog_17_method_6_code 2 = .ok (.iconst 1, 1) := by decide +kernel
theorem d6_3 : decode prog_17_method_6_code 3 = .ok (.iadd, 1) := by decide +kernel
theorem d6_4 : decode prog_17_method_6_code 4 = .ok (.aload_n 0, 1) := by decide +kernel
theorem d6_5 : decode prog_17_method_6_code 5 = .ok (.getfield 34, 3) := by decide +kernel
theorem d6_8 : decode prog_17_method_6_code 8 = .ok (.invokevirtual 55, 3) := by decide +kernel
theorem d7_0 : decode prog_17_method_29_code 0 = .ok (.iload_n 1, 1) := by decide +kernel
theorem d7_1 : decode prog_17_method_29_code 1 = .ok (.sipush 16384, 3) := by decide +kernel
theorem d7_4 : decode prog_17_method_29_code 4 = .ok (.if_icmp .ge 13, 3) := by decide +kernel
theorem d7_7 : decode prog_17_method_29_code 7 = .ok (.aload_n 0, 1) := by decide +kernel
theorem d7_8 : decode prog_17_method_29_code 8 = .ok (.getfield 31, 3) := by decide +kernel
theorem d7_11 : decode prog_17_method_29_code 11 = .ok (.iload_n 1, 1) := by decide +kernel
theorem d7_12 : decode prog_17_method_29_code 12 = .ok (.iload_n 2, 1) := by decide +kernel
theorem d7_13 : decode prog_17_method_29_code 13 = .ok (.iastore, 1) := by decide +kernel
theorem d7_14 : decode prog_17_method_29_code 14 = .ok (.goto 19, 3) := by decide +kernel
theorem d7_33 : decode prog_17_method_29_code 33 = .ok (.return_, 1) := by decide +kernel
theorem ef_5 (m : MethodId) (x0 : Addr) (x1 : Int32) (x2 : Int32) : entryFrame m #[(.ref x0), (.int x1), (.int x2)] 3 = mkF m 0 #[rv x0, iv x1, iv x2] [] := by first | (simp [entryFrame, mkF, argsToLocals, Value.category]; done) | rfl
def Q7 (Z : State) (a475 : Addr) (p476 : Int32) (a483 : Addr) (k492 : ClassId) (p484 : Int32) (p485 : Int32) (p486 : Int32) (p487 : Int32) (p488 : Int32) (p489 : Int32) (p490 : Int32) (p491 : Int32) (h0 : Heap) (n0 : Nat) (v : Option Value) (h : Heap) (L : List Loc) : Prop := v = none ∧ Fr n0 L ∧ Keep h0 h [a483] ∧ Exa Z h a483 "[I" ∧ Arv Z h a483 k492 .int (16 : Int32) [(.int p484), (.int p476), (.int p486), (.int p487), (.int p488), (.int p489), (.int p490), (.int p491)] (.int (0 : Int32))
set_option maxRecDepth 65536 in
set_option maxHeartbeats 40000000 in
theorem rm7 (l : Launch) (Z : State) (a0 : Array Value) (hw : ∀ d ∈ tables_1, d.before a0 Z = true) (ws : List Jvm.Cond) (a475 : Addr) (p476 : Int32) (a483 : Addr) (k492 : ClassId) (p484 : Int32) (p485 : Int32) (p486 : Int32) (p487 : Int32) (p488 : Int32) (p489 : Int32) (p490 : Int32) (p491 : Int32) (h0 : Heap) (n0 : Nat) (O0 : Old Z n0 h0) (pF_a475_first : Fld Z h0 a475 zs1 "first" "[I" (.ref a483)) (pV_a483 : Arv Z h0 a483 k492 .int (16 : Int32) [(.int p484), (.int p485), (.int p486), (.int p487), (.int p488), (.int p489), (.int p490), (.int p491)] (.int (0 : Int32))) (pG_a483 : n0 ≤ a483) (pE_a483 : Exa Z h0 a483 "[I") :
    MetFree l (⟨zs1, "set", "(II)V"⟩ : MethodName) (head1 (Jvm.Cond.code (⟨zs1, "set", "(II)V"⟩ : MethodName) prog_17_method_29_code 3 none :: ws) ({ frames := 0, cells := 0, slots := 0, locals := 0 } : Room)) (fun a U => a = #[(.ref a475), (.int (1 : Int32)), (.int p476)] ∧ Z.Warmed39 U.vm ∧ U.heap = h0) (fun _ _ _ _ _ => True) (fun _ U o U' => ∃ v L, o = .returned v ∧ Q7 Z a475 p476 a483 k492 p484 p485 p486 p487 p488 p489 p490 p491 h0 n0 v U'.heap L ∧ FrameEnd U o U' L ({ frames := 0, cells := 0, slots := 0, locals := 0 } : Room).cells ({ frames := 0, cells := 0, slots := 0, locals := 0 } : Room).slots) := by
  refine MetFree.of_bodySF (plainFor_of_name pn_1) hisR ?_
  intro p e s m args below meth c s₁ Bd hml0 hP hK
  obtain ⟨rfl, hZ, hh⟩ := hP
  have hx := Bd.exec
  have hby := Bd.bytes
  have hml : c.maxLocals = 3 := hml0
  have hown : s.vm.findClass zs1 = some m.cls := findClass_of_methodNamed Bd.named
  have hnm := (name_of_methodNamed Bd.named Bd.method).1
  have X0 : Stand p l e ({ frames := 0, cells := 0, slots := 0, locals := 0 } : Room) s m #[(.ref a475), (.int (1 : Int32)), (.int p476)] below meth c s₁ [] 0 0 := Stand.of_body Bd
  have e0 : s₁.heap = h0 := by rw [← hh, Bd.state]; rfl
  have N0 := Fr.nil n0
  refine own_out ?_
  refine own_via (fun t k => castTop (ef_5 m a475 (1 : Int32) p476) (XS.iloadN X0.here hx rfl (hb hby d7_0) rfl (XS.sipush X0.here hx rfl (hb hby d7_1) (XS.icmpNo X0.here hx rfl (hb hby d7_4) rfl (tlt (by decide : (1 : Int32) < (16384 : Int32))).2.1 (XS.aloadN X0.here hx rfl (hb hby d7_7) rfl rfl k))))) ?_
  show own_Goes p e below (s₁.setTop (mkF m 8 #[rv a475, iv (1 : Int32), iv p476] [(.ref a475)])) _
  obtain ⟨T508, X508, e508, st508⟩ := getF X0 hx hZ hown (host := "") (Or.inl (wd hw 25 rfl)) Via.refl e0 pF_a475_first (g := (mkF m 8 #[rv a475, iv (1 : Int32), iv p476] [(.ref a475)])) rfl rfl (hb hby d7_8)
  refine own_via (fun t k => st508 t (XS.iloadN X508.here hx rfl (hb hby d7_11) rfl (XS.iloadN X508.here hx rfl (hb hby d7_12) rfl k))) ?_
  show own_Goes p e below (T508.setTop (mkF m 13 #[rv a475, iv (1 : Int32), iv p476] [(.int p476), (.int (1 : Int32)), (.ref a483)])) _
  obtain ⟨cl509, Ar509, qq509, S509, M509, H509, G509⟩ := id (pV_a483)
  have hin509 : ¬ ((1 : Int32) < 0 ∨ cl509.slots.size ≤ ((1 : Int32)).toNatClampNeg) := inb_of S509 ⟨by decide, by decide⟩
  obtain ⟨T509, h509, X509, e509, W509, st509⟩ := stI X508 hx hZ e508 Ar509 (j := (1 : Int32)) hin509 (g := (mkF m 13 #[rv a475, iv (1 : Int32), iv p476] [(.int p476), (.int (1 : Int32)), (.ref a483)])) rfl rfl (hb hby d7_13)
  refine own_via (fun t k => st509 t k) ?_
  have V510 : Arv Z h509 a483 k492 .int (16 : Int32) [(.int p484), (.int p476), (.int p486), (.int p487), (.int p488), (.int p489), (.int p490), (.int p491)] (.int (0 : Int32)) := Arv.set Ar509 qq509 S509 M509 H509 G509 rfl W509 1 rfl (Nat.le_of_ble_eq_true rfl)
  have N509 := Fr.snoc X509 N0 pG_a483
  show own_Goes p e below (T509.setTop (mkF m 14 #[rv a475, iv (1 : Int32), iv p476] [])) _
  refine own_via (fun t k => XS.goto X509.here hx rfl (pc0 := 14) (pc' := 33) rfl (hb hby d7_14) (by decide) (by decide) k) ?_
  obtain ⟨fs, hr, hrun, hended, hW, hsame⟩ := X509.leave (v := none) (fun _ => rfl)
  refine own_end (t := T509.setFrames fs) ?_ ⟨_, hrun, hended, _, _, rfl, ?_, ⟨_, rfl⟩, hW, hsame.mono (by decide) (by decide)⟩
  · exact X509.returnOut hx Bd.returns (hb hby d7_33) hr
  have E511 : Exa Z h509 a483 "[I" := (pE_a483.wr W509)
  · show Q7 Z a475 p476 a483 k492 p484 p485 p486 p487 p488 p489 p490 p491 h0 n0 _ T509.heap _
    rw [e509]
    exact ⟨rfl, N509, ((Keep.refl h0 [a483]).wr W509 (Or.inl (List.mem_of_getElem? (i := 0) rfl))), E511, V510⟩
theorem pd_4 : parseMethodDescriptor "(II)V" = some ⟨[.int, .int], none⟩ := by decide +kernel
theorem own_selPriv {args : Array Value} {s : State} {y : MethodName} {n : Nat} (hw : (Jvm.Cond.instantiable y.cls n).before args s = true) (hi : (Jvm.Cond.instanceMethod y).before args s = true) (hp : s.PrivateAt y) (hy : y.cls ≠ "java/lang/invoke/MethodHandle" ∧ y.cls ≠ "java/lang/invoke/VarHandle") : (Jvm.Cond.selects y.cls y y).before args s = true := by
  obtain ⟨c, k, h1, h2, -, h4, -⟩ := Cond.instantiable_spec hw
  exact selects_self_of_private h1 h2 (by cases hk : k.isInterface <;> simp_all) hp hi hy
theorem d6_11 : decode prog_17_method_6_code 11 = .ok (.aload_n 0, 1) := by decide +kernel
theorem d6_12 : decode prog_17_method_6_code 12 = .ok (.iload_n 1, 1) := by decide +kernel
theorem d6_13 : decode prog_17_method_6_code 13 = .ok (.iconst 2, 1) := by decide +kernel
theorem d6_14 : decode prog_17_method_6_code 14 = .ok (.iadd, 1) := by decide +kernel
theorem d6_15 : decode prog_17_method_6_code 15 = .ok (.iload_n 2, 1) := by decide +kernel
theorem d6_16 : decode prog_17_method_6_code 16 = .ok (.iconst 1, 1) := by decide +kernel
theorem d6_17 : decode prog_17_method_6_code 17 = .ok (.ishl, 1) := by decide +kernel
theorem d6_18 : decode prog_17_method_6_code 18 = .ok (.iload_n 3, 1) := by decide +kernel
theorem d6_19 : decode prog_17_method_6_code 19 = .ok (.ifCond .eq 7, 3) := by decide +kernel
theorem d6_26 : decode prog_17_method_6_code 26 = .ok (.iconst 0, 1) := by decide +kernel
theorem d6_27 : decode prog_17_method_6_code 27 = .ok (.ior, 1) := by decide +kernel
theorem d6_28 : decode prog_17_method_6_code 28 = .ok (.invokevirtual 55, 3) := by decide +kernel
def Q8 (Z : State) (a515 : Addr) (p516 : Int32) (a523 : Addr) (k532 : ClassId) (p525 : Int32) (p524 : Int32) (p526 : Int32) (p527 : Int32) (p528 : Int32) (p529 : Int32) (p530 : Int32) (p531 : Int32) (h0 : Heap) (n0 : Nat) (v : Option Value) (h : Heap) (L : List Loc) : Prop := v = none ∧ Fr n0 L ∧ Keep h0 h [a523] ∧ Exa Z h a523 "[I" ∧ Arv Z h a523 k532 .int (16 : Int32) [(.int p525), (.int p524), (.int p516), (.int p527), (.int p528), (.int p529), (.int p530), (.int p531)] (.int (0 : Int32))
set_option maxRecDepth 65536 in
set_option maxHeartbeats 40000000 in
theorem rm8 (l : Launch) (Z : State) (a0 : Array Value) (hw : ∀ d ∈ tables_1, d.before a0 Z = true) (ws : List Jvm.Cond) (a515 : Addr) (p516 : Int32) (a523 : Addr) (k532 : ClassId) (p525 : Int32) (p524 : Int32) (p526 : Int32) (p527 : Int32) (p528 : Int32) (p529 : Int32) (p530 : Int32) (p531 : Int32) (h0 : Heap) (n0 : Nat) (O0 : Old Z n0 h0) (pF_a515_first : Fld Z h0 a515 zs1 "first" "[I" (.ref a523)) (pV_a523 : Arv Z h0 a523 k532 .int (16 : Int32) [(.int p525), (.int p524), (.int p526), (.int p527), (.int p528), (.int p529), (.int p530), (.int p531)] (.int (0 : Int32))) (pG_a523 : n0 ≤ a523) (pE_a523 : Exa Z h0 a523 "[I") :
    MetFree l (⟨zs1, "set", "(II)V"⟩ : MethodName) (head1 (Jvm.Cond.code (⟨zs1, "set", "(II)V"⟩ : MethodName) prog_17_method_29_code 3 none :: ws) ({ frames := 0, cells := 0, slots := 0, locals := 0 } : Room)) (fun a U => a = #[(.ref a515), (.int (2 : Int32)), (.int p516)] ∧ Z.Warmed39 U.vm ∧ U.heap = h0) (fun _ _ _ _ _ => True) (fun _ U o U' => ∃ v L, o = .returned v ∧ Q8 Z a515 p516 a523 k532 p525 p524 p526 p527 p528 p529 p530 p531 h0 n0 v U'.heap L ∧ FrameEnd U o U' L ({ frames := 0, cells := 0, slots := 0, locals := 0 } : Room).cells ({ frames := 0, cells := 0, slots := 0, locals := 0 } : Room).slots) := by
  refine MetFree.of_bodySF (plainFor_of_name pn_1) hisR ?_
  intro p e s m args below meth c s₁ Bd hml0 hP hK
  obtain ⟨rfl, hZ, hh⟩ := hP
  have hx := Bd.exec
  have hby := Bd.bytes
  have hml : c.maxLocals = 3 := hml0
  have hown : s.vm.findClass zs1 = some m.cls := findClass_of_methodNamed Bd.named
  have hnm := (name_of_methodNamed Bd.named Bd.method).1
  have X0 : Stand p l e ({ frames := 0, cells := 0, slots := 0, locals := 0 } : Room) s m #[(.ref a515), (.int (2 : Int32)), (.int p516)] below meth c s₁ [] 0 0 := Stand.of_body Bd
  have e0 : s₁.heap = h0 := by rw [← hh, Bd.state]; rfl
  have N0 := Fr.nil n0
  refine own_out ?_
  refine own_via (fun t k => castTop (ef_5 m a515 (2 : Int32) p516) (XS.iloadN X0.here hx rfl (hb hby d7_0) rfl (XS.sipush X0.here hx rfl (hb hby d7_1) (XS.icmpNo X0.here hx rfl (hb hby d7_4) rfl (tlt (by decide : (2 : Int32) < (16384 : Int32))).2.1 (XS.aloadN X0.here hx rfl (hb hby d7_7) rfl rfl k))))) ?_
  show own_Goes p e below (s₁.setTop (mkF m 8 #[rv a515, iv (2 : Int32), iv p516] [(.ref a515)])) _
  obtain ⟨T548, X548, e548, st548⟩ := getF X0 hx hZ hown (host := "") (Or.inl (wd hw 25 rfl)) Via.refl e0 pF_a515_first (g := (mkF m 8 #[rv a515, iv (2 : Int32), iv p516] [(.ref a515)])) rfl rfl (hb hby d7_8)
  refine own_via (fun t k => st548 t (XS.iloadN X548.here hx rfl (hb hby d7_11) rfl (XS.iloadN X548.here hx rfl (hb hby d7_12) rfl k))) ?_
  show own_Goes p e below (T548.setTop (mkF m 13 #[rv a515, iv (2 : Int32), iv p516] [(.int p516), (.int (2 : Int32)), (.ref a523)])) _
  obtain ⟨cl549, Ar549, qq549, S549, M549, H549, G549⟩ := id (pV_a523)
  have hin549 : ¬ ((2 : Int32) < 0 ∨ cl549.slots.size ≤ ((2 : Int32)).toNatClampNeg) := inb_of S549 ⟨by decide, by decide⟩
  obtain ⟨T549, h549, X549, e549, W549, st549⟩ := stI X548 hx hZ e548 Ar549 (j := (2 : Int32)) hin549 (g := (mkF m 13 #[rv a515, iv (2 : Int32), iv p516] [(.int p516), (.int (2 : Int32)), (.ref a523)])) rfl rfl (hb hby d7_13)
  refine own_via (fun t k => st549 t k) ?_
  have V550 : Arv Z h549 a523 k532 .int (16 : Int32) [(.int p525), (.int p524), (.int p516), (.int p527), (.int p528), (.int p529), (.int p530), (.int p531)] (.int (0 : Int32)) := Arv.set Ar549 qq549 S549 M549 H549 G549 rfl W549 2 rfl (Nat.le_of_ble_eq_true rfl)
  have N549 := Fr.snoc X549 N0 pG_a523
  show own_Goes p e below (T549.setTop (mkF m 14 #[rv a515, iv (2 : Int32), iv p516] [])) _
  refine own_via (fun t k => XS.goto X549.here hx rfl (pc0 := 14) (pc' := 33) rfl (hb hby d7_14) (by decide) (by decide) k) ?_
  obtain ⟨fs, hr, hrun, hended, hW, hsame⟩ := X549.leave (v := none) (fun _ => rfl)
  refine own_end (t := T549.setFrames fs) ?_ ⟨_, hrun, hended, _, _, rfl, ?_, ⟨_, rfl⟩, hW, hsame.mono (by decide) (by decide)⟩
  · exact X549.returnOut hx Bd.returns (hb hby d7_33) hr
  have E551 : Exa Z h549 a523 "[I" := (pE_a523.wr W549)
  · show Q8 Z a515 p516 a523 k532 p525 p524 p526 p527 p528 p529 p530 p531 h0 n0 _ T549.heap _
    rw [e549]
    exact ⟨rfl, N549, ((Keep.refl h0 [a523]).wr W549 (Or.inl (List.mem_of_getElem? (i := 0) rfl))), E551, V550⟩
theorem d6_31 : decode prog_17_method_6_code 31 = .ok (.return_, 1) := by decide +kernel
theorem ef_6 (m : MethodId) (x0 : Addr) (x1 : Int32) (x2 : Int32) (x3 : Int32) : entryFrame m #[(.ref x0), (.int x1), (.int x2), (.int x3)] 4 = mkF m 0 #[rv x0, iv x1, iv x2, iv x3] [] := by first | (simp [entryFrame, mkF, argsToLocals, Value.category]; done) | rfl
def Q9 (Z : State) (a440 : Addr) (p441 : Int32) (p458 : Int32) (a448 : Addr) (k457 : ClassId) (p449 : Int32) (p450 : Int32) (p451 : Int32) (p452 : Int32) (p453 : Int32) (p454 : Int32) (p455 : Int32) (p456 : Int32) (h0 : Heap) (n0 : Nat) (v : Option Value) (h : Heap) (L : List Loc) : Prop := v = none ∧ Fr n0 L ∧ Keep h0 h [a448] ∧ Exa Z h a448 "[I" ∧ Arv Z h a448 k457 .int (16 : Int32) [(.int p449), (.int p458), (.int ((p441 <<< ((1 : Int32) &&& 31)) ||| (0 : Int32))), (.int p452), (.int p453), (.int p454), (.int p455), (.int p456)] (.int (0 : Int32))
set_option maxRecDepth 65536 in
set_option maxHeartbeats 40000000 in
theorem rm9 (l : Launch) (Z : State) (a0 : Array Value) (hw : ∀ d ∈ tables_1, d.before a0 Z = true) (ws : List Jvm.Cond) (a440 : Addr) (p441 : Int32) (p458 : Int32) (a448 : Addr) (k457 : ClassId) (p449 : Int32) (p450 : Int32) (p451 : Int32) (p452 : Int32) (p453 : Int32) (p454 : Int32) (p455 : Int32) (p456 : Int32) (h0 : Heap) (n0 : Nat) (O0 : Old Z n0 h0) (pF_a440_length : Fld Z h0 a440 zs1 "length" "I" (.int p458)) (pF_a440_first : Fld Z h0 a440 zs1 "first" "[I" (.ref a448)) (pV_a448 : Arv Z h0 a448 k457 .int (16 : Int32) [(.int p449), (.int p450), (.int p451), (.int p452), (.int p453), (.int p454), (.int p455), (.int p456)] (.int (0 : Int32))) (pG_a448 : n0 ≤ a448) (pE_a448 : Exa Z h0 a448 "[I") (pE_a440 : Exa Z h0 a440 zs1) (pN_a440_a448 : a440 ≠ a448) :
    MetFree l (⟨zs1, "close", "(IIZ)V"⟩ : MethodName) (head1 (Jvm.Cond.code (⟨zs1, "close", "(IIZ)V"⟩ : MethodName) prog_17_method_6_code 4 none :: ws) ({ frames := 1, cells := 0, slots := 0, locals := 14 } : Room)) (fun a U => a = #[(.ref a440), (.int (0 : Int32)), (.int p441), (.int (0 : Int32))] ∧ Z.Warmed39 U.vm ∧ U.heap = h0) (fun _ _ _ _ _ => True) (fun _ U o U' => ∃ v L, o = .returned v ∧ Q9 Z a440 p441 p458 a448 k457 p449 p450 p451 p452 p453 p454 p455 p456 h0 n0 v U'.heap L ∧ FrameEnd U o U' L ({ frames := 1, cells := 0, slots := 0, locals := 14 } : Room).cells ({ frames := 1, cells := 0, slots := 0, locals := 14 } : Room).slots) := by
  refine MetFree.of_bodySF (plainFor_of_name pn_1) hisR ?_
  intro p e s m args below meth c s₁ Bd hml0 hP hK
  obtain ⟨rfl, hZ, hh⟩ := hP
  have hx := Bd.exec
  have hby := Bd.bytes
  have hml : c.maxLocals = 4 := hml0
  have hown : s.vm.findClass zs1 = some m.cls := findClass_of_methodNamed Bd.named
  have hnm := (name_of_methodNamed Bd.named Bd.method).1
  have X0 : Stand p l e ({ frames := 1, cells := 0, slots := 0, locals := 14 } : Room) s m #[(.ref a440), (.int (0 : Int32)), (.int p441), (.int (0 : Int32))] below meth c s₁ [] 0 0 := Stand.of_body Bd
  have e0 : s₁.heap = h0 := by rw [← hh, Bd.state]; rfl
  have N0 := Fr.nil n0
  refine own_out ?_
  refine own_via (fun t k => castTop (ef_6 m a440 (0 : Int32) p441 (0 : Int32)) (XS.aloadN X0.here hx rfl (hb hby d6_0) rfl rfl (XS.iloadN X0.here hx rfl (hb hby d6_1) rfl (XS.iconst X0.here hx rfl (hb hby d6_2) (XS.iadd X0.here hx rfl (hb hby d6_3) rfl (XS.aloadN X0.here hx rfl (hb hby d6_4) rfl rfl k)))))) ?_
  show own_Goes p e below (s₁.setTop (mkF m 5 #[rv a440, iv (0 : Int32), iv p441, iv (0 : Int32)] [(.ref a440), (.int (1 : Int32)), (.ref a440)])) _
  obtain ⟨T473, X473, e473, st473⟩ := getF X0 hx hZ hown (host := "") (Or.inl (wd hw 38 rfl)) Via.refl e0 pF_a440_length (g := (mkF m 5 #[rv a440, iv (0 : Int32), iv p441, iv (0 : Int32)] [(.ref a440), (.int (1 : Int32)), (.ref a440)])) rfl rfl (hb hby d6_5)
  refine own_via (fun t k => st473 t k) ?_
  obtain ⟨cq474, q474, q474'⟩ := pE_a440.cell
  obtain ⟨_, _, ⟨T474, L474, c474, n474⟩, -, X474, ⟨Lc474, hQ474, l474, y474, z474⟩, st474⟩ := X473.privateBack hx (y := (⟨zs1, "set", "(II)V"⟩ : MethodName)) hown (mvT hZ (wd hw 46 rfl)) (mvT hZ (wd hw 47 rfl)) (own_selPriv (mvT hZ (wd hw 2 rfl)) (mvT hZ (wd hw 47 rfl)) (Cond.privateMethod_at (mvP hZ (wd hw 48 rfl) (args := #[]))) (by decide)) (Cond.privateMethod_at (mvP hZ (wd hw 48 rfl) (args := #[]))) (mvT hZ (wd hw 49 rfl)) (by decide) (backOf (W := 0) (rm7 l Z a0 hw [] a440 p458 a448 k457 p449 p450 p451 p452 p453 p454 p455 p456 h0 n0 O0 pF_a440_first pV_a448 pG_a448 pE_a448) hZ (wd hw 49 rfl) (wd hw 3 rfl) (by decide) (by decide)) (g := (mkF m 8 #[rv a440, iv (0 : Int32), iv p441, iv (0 : Int32)] [(.int p458), (.int (1 : Int32)), (.ref a440)])) rfl (by rw [hml]; rfl) (Steps.refl _) (a := a440) (by rw [e473]; exact q474) q474' (argsL := [(.int (1 : Int32)), (.int p458)]) (rest := []) (lenOf pd_4 rfl) rfl (by show 2 * 0 + _ ≤ _; exact Nat.le_of_eq rfl) (hb hby d6_8) (fun _ _ => ⟨rfl, e473, (by decide : 0 + 0 ≤ _), (by decide : 0 + 0 ≤ _)⟩)
  dsimp only [Pt.U, Pt.locs, Pt.cells, Pt.slots] at X474 l474 y474 z474 st474 hQ474
  subst l474 y474 z474
  obtain ⟨h474, e474⟩ : ∃ z, T474.heap = z := ⟨_, rfl⟩
  rw [e474] at hQ474
  obtain ⟨rfl, Nq474, K474, ex512, vx513⟩ := hQ474
  have N474 := Fr.app N0 Nq474
  refine own_via (fun t k => st474.trans (XS.aloadN X474.here hx rfl (hb hby d6_11) rfl rfl (XS.iloadN X474.here hx rfl (hb hby d6_12) rfl (XS.iconst X474.here hx rfl (hb hby d6_13) (XS.iadd X474.here hx rfl (hb hby d6_14) rfl (XS.iloadN X474.here hx rfl (hb hby d6_15) rfl (XS.iconst X474.here hx rfl (hb hby d6_16) (XS.ishl X474.here hx rfl (hb hby d6_17) rfl (XS.iloadN X474.here hx rfl (hb hby d6_18) rfl (XS.ifYes X474.here hx rfl (pc0 := 19) (pc' := 26) rfl (hb hby d6_19) rfl ((if0 _ _).trans (teq (by decide : (0 : Int32) = (0 : Int32))).1) (by decide) (by decide) (XS.iconst X474.here hx rfl (hb hby d6_26) (XS.ior X474.here hx rfl (hb hby d6_27) rfl k)))))))))))) ?_
  show own_Goes p e below (T474.setTop (mkF m 28 #[rv a440, iv (0 : Int32), iv p441, iv (0 : Int32)] [(.int ((p441 <<< ((1 : Int32) &&& 31)) ||| (0 : Int32))), (.int (2 : Int32)), (.ref a440)])) _
  have F552 : Fld Z h474 a440 zs1 "first" "[I" (.ref a448) := (pF_a440_first.keep K474 (ninS pN_a440_a448 nin0))
  have O553 : Old Z n0 h474 := (O0.keep K474 (allS pG_a448 all0))
  have E554 : Exa Z h474 a440 zs1 := (pE_a440.keep K474)
  obtain ⟨cq514, q514, q514'⟩ := E554.cell
  obtain ⟨_, _, ⟨T514, L514, c514, n514⟩, -, X514, ⟨Lc514, hQ514, l514, y514, z514⟩, st514⟩ := X474.privateBack hx (y := (⟨zs1, "set", "(II)V"⟩ : MethodName)) hown (mvT hZ (wd hw 46 rfl)) (mvT hZ (wd hw 47 rfl)) (own_selPriv (mvT hZ (wd hw 2 rfl)) (mvT hZ (wd hw 47 rfl)) (Cond.privateMethod_at (mvP hZ (wd hw 48 rfl) (args := #[]))) (by decide)) (Cond.privateMethod_at (mvP hZ (wd hw 48 rfl) (args := #[]))) (mvT hZ (wd hw 49 rfl)) (by decide) (backOf (W := 0) (rm8 l Z a0 hw [] a440 ((p441 <<< ((1 : Int32) &&& 31)) ||| (0 : Int32)) a448 k457 p449 p458 p451 p452 p453 p454 p455 p456 h474 n0 O553 F552 vx513 pG_a448 ex512) hZ (wd hw 49 rfl) (wd hw 3 rfl) (by decide) (by decide)) (g := (mkF m 28 #[rv a440, iv (0 : Int32), iv p441, iv (0 : Int32)] [(.int ((p441 <<< ((1 : Int32) &&& 31)) ||| (0 : Int32))), (.int (2 : Int32)), (.ref a440)])) rfl (by rw [hml]; rfl) (Steps.refl _) (a := a440) (by rw [e474]; exact q514) q514' (argsL := [(.int (2 : Int32)), (.int ((p441 <<< ((1 : Int32) &&& 31)) ||| (0 : Int32)))]) (rest := []) (lenOf pd_4 rfl) rfl (by show 2 * 0 + _ ≤ _; exact Nat.le_of_eq rfl) (hb hby d6_28) (fun _ _ => ⟨rfl, e474, (by decide : 0 + 0 ≤ _), (by decide : 0 + 0 ≤ _)⟩)
  dsimp only [Pt.U, Pt.locs, Pt.cells, Pt.slots] at X514 l514 y514 z514 st514 hQ514
  subst l514 y514 z514
  obtain ⟨h514, e514⟩ : ∃ z, T514.heap = z := ⟨_, rfl⟩
  rw [e514] at hQ514
  obtain ⟨rfl, Nq514, K514, ex555, vx556⟩ := hQ514
  have N514 := Fr.app N474 Nq514
  refine own_via (fun t k => st514.trans k) ?_
  obtain ⟨fs, hr, hrun, hended, hW, hsame⟩ := X514.leave (v := none) (fun _ => rfl)
  refine own_end (t := T514.setFrames fs) ?_ ⟨_, hrun, hended, _, _, rfl, ?_, ⟨_, rfl⟩, hW, hsame.mono (by decide) (by decide)⟩
  · exact X514.returnOut hx Bd.returns (hb hby d6_31) hr
  · show Q9 Z a440 p441 p458 a448 k457 p449 p450 p451 p452 p453 p454 p455 p456 h0 n0 _ T514.heap _
    rw [e514]
    exact ⟨rfl, N514, (((Keep.refl h0 [a448]).trans K474 (allS (Or.inl (List.mem_of_getElem? (i := 0) rfl)) all0)).trans K514 (allS (Or.inl (List.mem_of_getElem? (i := 0) rfl)) all0)), ex555, vx556⟩
theorem pd_5 : parseMethodDescriptor "(IIZ)V" = some ⟨[.int, .int, .boolean], none⟩ := by decide +kernel
theorem d8_0 : decode prog_17_method_17_code 0 = .ok (.aload_n 0, 1) := by decide +kernel
theorem d8_1 : decode prog_17_method_17_code 1 = .ok (.iload_n 1, 1) := by decide +kernel
theorem d8_2 : decode prog_17_method_17_code 2 = .ok (.invokevirtual 87, 3) := by decide +kernel
theorem d9_0 : decode prog_17_method_28_code 0 = .ok (.iload_n 1, 1) := by decide +kernel
theorem d9_1 : decode prog_17_method_28_code 1 = .ok (.sipush 16384, 3) := by decide +kernel
theorem d9_4 : decode prog_17_method_28_code 4 = .ok (.if_icmp .ge 12, 3) := by decide +kernel
theorem d9_7 : decode prog_17_method_28_code 7 = .ok (.aload_n 0, 1) := by decide +kernel
theorem d9_8 : decode prog_17_method_28_code 8 = .ok (.getfield 31, 3) := by decide +kernel
theorem d9_11 : decode prog_17_method_28_code 11 = .ok (.iload_n 1, 1) := by decide +kernel
theorem d9_12 : decode prog_17_method_28_code 12 = .ok (.iaload, 1) := by decide +kernel
theorem d9_13 : decode prog_17_method_28_code 13 = .ok (.goto 18, 3) := by decide +kernel
theorem d9_31 : decode prog_17_method_28_code 31 = .ok (.ireturn, 1) := by decide +kernel
theorem ef_7 (m : MethodId) (x0 : Addr) (x1 : Int32) : entryFrame m #[(.ref x0), (.int x1)] 2 = mkF m 0 #[rv x0, iv x1] [] := by first | (simp [entryFrame, mkF, argsToLocals, Value.category]; done) | rfl
def Q10 (Z : State) (a594 : Addr) (a601 : Addr) (k611 : ClassId) (p603 : Int32) (p604 : Int32) (p605 : Int32) (p606 : Int32) (p607 : Int32) (p608 : Int32) (p609 : Int32) (p610 : Int32) (h0 : Heap) (n0 : Nat) (v : Option Value) (h : Heap) (L : List Loc) : Prop := v = some (.int p603) ∧ Fr n0 L ∧ h = h0
set_option maxRecDepth 65536 in
set_option maxHeartbeats 40000000 in
theorem rm10 (l : Launch) (Z : State) (a0 : Array Value) (hw : ∀ d ∈ tables_1, d.before a0 Z = true) (ws : List Jvm.Cond) (a594 : Addr) (a601 : Addr) (k611 : ClassId) (p603 : Int32) (p604 : Int32) (p605 : Int32) (p606 : Int32) (p607 : Int32) (p608 : Int32) (p609 : Int32) (p610 : Int32) (h0 : Heap) (n0 : Nat) (O0 : Old Z n0 h0) (pF_a594_first : Fld Z h0 a594 zs1 "first" "[I" (.ref a601)) (pV_a601 : Arv Z h0 a601 k611 .int (16 : Int32) [(.int p603), (.int p604), (.int p605), (.int p606), (.int p607), (.int p608), (.int p609), (.int p610)] (.int (0 : Int32))) :
    MetFree l (⟨zs1, "get", "(I)I"⟩ : MethodName) (head1 (Jvm.Cond.code (⟨zs1, "get", "(I)I"⟩ : MethodName) prog_17_method_28_code 2 (some .int) :: ws) ({ frames := 0, cells := 0, slots := 0, locals := 0 } : Room)) (fun a U => a = #[(.ref a594), (.int (0 : Int32))] ∧ Z.Warmed39 U.vm ∧ U.heap = h0) (fun _ _ _ _ _ => True) (fun _ U o U' => ∃ v L, o = .returned v ∧ Q10 Z a594 a601 k611 p603 p604 p605 p606 p607 p608 p609 p610 h0 n0 v U'.heap L ∧ FrameEnd U o U' L ({ frames := 0, cells := 0, slots := 0, locals := 0 } : Room).cells ({ frames := 0, cells := 0, slots := 0, locals := 0 } : Room).slots) := by
  refine MetFree.of_bodySF (plainFor_of_name pn_1) hisR ?_
  intro p e s m args below meth c s₁ Bd hml0 hP hK
  obtain ⟨rfl, hZ, hh⟩ := hP
  have hx := Bd.exec
  have hby := Bd.bytes
  have hml : c.maxLocals = 2 := hml0
  have hown : s.vm.findClass zs1 = some m.cls := findClass_of_methodNamed Bd.named
  have hnm := (name_of_methodNamed Bd.named Bd.method).1
  have X0 : Stand p l e ({ frames := 0, cells := 0, slots := 0, locals := 0 } : Room) s m #[(.ref a594), (.int (0 : Int32))] below meth c s₁ [] 0 0 := Stand.of_body Bd
  have e0 : s₁.heap = h0 := by rw [← hh, Bd.state]; rfl
  have N0 := Fr.nil n0
  refine own_out ?_
  refine own_via (fun t k => castTop (ef_7 m a594 (0 : Int32)) (XS.iloadN X0.here hx rfl (hb hby d9_0) rfl (XS.sipush X0.here hx rfl (hb hby d9_1) (XS.icmpNo X0.here hx rfl (hb hby d9_4) rfl (tlt (by decide : (0 : Int32) < (16384 : Int32))).2.1 (XS.aloadN X0.here hx rfl (hb hby d9_7) rfl rfl k))))) ?_
  show own_Goes p e below (s₁.setTop (mkF m 8 #[rv a594, iv (0 : Int32)] [(.ref a594)])) _
  obtain ⟨T627, X627, e627, st627⟩ := getF X0 hx hZ hown (host := "") (Or.inl (wd hw 25 rfl)) Via.refl e0 pF_a594_first (g := (mkF m 8 #[rv a594, iv (0 : Int32)] [(.ref a594)])) rfl rfl (hb hby d9_8)
  refine own_via (fun t k => st627 t (XS.iloadN X627.here hx rfl (hb hby d9_11) rfl k)) ?_
  obtain ⟨cl628, Ar628, qq628, S628, M628, H628, G628⟩ := id (pV_a601)
  have hin628 : ¬ ((0 : Int32) < 0 ∨ cl628.slots.size ≤ ((0 : Int32)).toNatClampNeg) := inb_of S628 ⟨by decide, by decide⟩
  refine own_via (fun t k => X627.iaload hx (j := (0 : Int32)) (v := (.int p603)) (by rw [e627]; exact Ar628.1) (State.isArrayOf_alike hZ.alike Ar628.2.1) Ar628.2.2 hin628 (Has.at H628 hin628 rfl) (g := (mkF m 12 #[rv a594, iv (0 : Int32)] [(.int (0 : Int32)), (.ref a601)])) rfl rfl (hb hby d9_12) t (XS.goto X627.here hx rfl (pc0 := 13) (pc' := 31) rfl (hb hby d9_13) (by decide) (by decide) k)) ?_
  obtain ⟨fs, hr, hrun, hended, hW, hsame⟩ := X627.leave (v := some (.int p603)) (fun h => by rw [Bd.returns] at h; cases h)
  refine own_end (t := T627.setFrames fs) ?_ ⟨_, hrun, hended, _, _, rfl, ?_, ⟨_, rfl⟩, hW, hsame.mono (by decide) (by decide)⟩
  · exact retI X627 hx Bd.returns (hb hby d9_31) hr
  · show Q10 Z a594 a601 k611 p603 p604 p605 p606 p607 p608 p609 p610 h0 n0 _ T627.heap _
    rw [e627]
    exact ⟨rfl, N0, rfl⟩
theorem d8_5 : decode prog_17_method_17_code 5 = .ok (.ireturn, 1) := by decide +kernel
theorem ef_8 (m : MethodId) (x0 : Addr) (x1 : Int32) : entryFrame m #[(.ref x0), (.int x1)] 2 = mkF m 0 #[rv x0, iv x1] [] := by first | (simp [entryFrame, mkF, argsToLocals, Value.category]; done) | rfl
def Q11 (Z : State) (a560 : Addr) (a567 : Addr) (k577 : ClassId) (p569 : Int32) (p570 : Int32) (p571 : Int32) (p572 : Int32) (p573 : Int32) (p574 : Int32) (p575 : Int32) (p576 : Int32) (h0 : Heap) (n0 : Nat) (v : Option Value) (h : Heap) (L : List Loc) : Prop := v = some (.int p569) ∧ Fr n0 L ∧ h = h0
set_option maxRecDepth 65536 in
set_option maxHeartbeats 40000000 in
theorem rm11 (l : Launch) (Z : State) (a0 : Array Value) (hw : ∀ d ∈ tables_1, d.before a0 Z = true) (ws : List Jvm.Cond) (a560 : Addr) (a567 : Addr) (k577 : ClassId) (p569 : Int32) (p570 : Int32) (p571 : Int32) (p572 : Int32) (p573 : Int32) (p574 : Int32) (p575 : Int32) (p576 : Int32) (h0 : Heap) (n0 : Nat) (O0 : Old Z n0 h0) (pF_a560_first : Fld Z h0 a560 zs1 "first" "[I" (.ref a567)) (pV_a567 : Arv Z h0 a567 k577 .int (16 : Int32) [(.int p569), (.int p570), (.int p571), (.int p572), (.int p573), (.int p574), (.int p575), (.int p576)] (.int (0 : Int32))) (pE_a560 : Exa Z h0 a560 zs1) :
    MetFree l (⟨zs1, "offset", "(I)I"⟩ : MethodName) (head1 (Jvm.Cond.code (⟨zs1, "offset", "(I)I"⟩ : MethodName) prog_17_method_17_code 2 (some .int) :: ws) ({ frames := 1, cells := 0, slots := 0, locals := 13 } : Room)) (fun a U => a = #[(.ref a560), (.int (0 : Int32))] ∧ Z.Warmed39 U.vm ∧ U.heap = h0) (fun _ _ _ _ _ => True) (fun _ U o U' => ∃ v L, o = .returned v ∧ Q11 Z a560 a567 k577 p569 p570 p571 p572 p573 p574 p575 p576 h0 n0 v U'.heap L ∧ FrameEnd U o U' L ({ frames := 1, cells := 0, slots := 0, locals := 13 } : Room).cells ({ frames := 1, cells := 0, slots := 0, locals := 13 } : Room).slots) := by
  refine MetFree.of_bodySF (plainFor_of_name pn_1) hisR ?_
  intro p e s m args below meth c s₁ Bd hml0 hP hK
  obtain ⟨rfl, hZ, hh⟩ := hP
  have hx := Bd.exec
  have hby := Bd.bytes
  have hml : c.maxLocals = 2 := hml0
  have hown : s.vm.findClass zs1 = some m.cls := findClass_of_methodNamed Bd.named
  have hnm := (name_of_methodNamed Bd.named Bd.method).1
  have X0 : Stand p l e ({ frames := 1, cells := 0, slots := 0, locals := 13 } : Room) s m #[(.ref a560), (.int (0 : Int32))] below meth c s₁ [] 0 0 := Stand.of_body Bd
  have e0 : s₁.heap = h0 := by rw [← hh, Bd.state]; rfl
  have N0 := Fr.nil n0
  refine own_out ?_
  refine own_via (fun t k => castTop (ef_8 m a560 (0 : Int32)) (XS.aloadN X0.here hx rfl (hb hby d8_0) rfl rfl (XS.iloadN X0.here hx rfl (hb hby d8_1) rfl k))) ?_
  show own_Goes p e below (s₁.setTop (mkF m 2 #[rv a560, iv (0 : Int32)] [(.int (0 : Int32)), (.ref a560)])) _
  obtain ⟨cq593, q593, q593'⟩ := pE_a560.cell
  obtain ⟨_, _, ⟨T593, L593, c593, n593⟩, -, X593, ⟨Lc593, hQ593, l593, y593, z593⟩, st593⟩ := X0.privateBack hx (y := (⟨zs1, "get", "(I)I"⟩ : MethodName)) hown (mvT hZ (wd hw 55 rfl)) (mvT hZ (wd hw 56 rfl)) (own_selPriv (mvT hZ (wd hw 2 rfl)) (mvT hZ (wd hw 56 rfl)) (Cond.privateMethod_at (mvP hZ (wd hw 57 rfl) (args := #[]))) (by decide)) (Cond.privateMethod_at (mvP hZ (wd hw 57 rfl) (args := #[]))) (mvT hZ (wd hw 58 rfl)) (by decide) (backOf (W := 0) (rm10 l Z a0 hw [] a560 a567 k577 p569 p570 p571 p572 p573 p574 p575 p576 h0 n0 O0 pF_a560_first pV_a567) hZ (wd hw 58 rfl) (wd hw 3 rfl) (by decide) (by decide)) (g := (mkF m 2 #[rv a560, iv (0 : Int32)] [(.int (0 : Int32)), (.ref a560)])) rfl (by rw [hml]; rfl) (Steps.refl _) (a := a560) (by rw [e0]; exact q593) q593' (argsL := [(.int (0 : Int32))]) (rest := []) (lenOf pd_3 rfl) rfl (by show 2 * 0 + _ ≤ _; exact Nat.le_of_eq rfl) (hb hby d8_2) (fun _ _ => ⟨rfl, e0, (by decide : 0 + 0 ≤ _), (by decide : 0 + 0 ≤ _)⟩)
  dsimp only [Pt.U, Pt.locs, Pt.cells, Pt.slots] at X593 l593 y593 z593 st593 hQ593
  subst l593 y593 z593
  obtain ⟨rfl, Nq593, hh629⟩ := hQ593
  have N593 := Fr.app N0 Nq593
  refine own_via (fun t k => st593.trans k) ?_
  obtain ⟨fs, hr, hrun, hended, hW, hsame⟩ := X593.leave (v := some (.int p569)) (fun h => by rw [Bd.returns] at h; cases h)
  refine own_end (t := T593.setFrames fs) ?_ ⟨_, hrun, hended, _, _, rfl, ?_, ⟨_, rfl⟩, hW, hsame.mono (by decide) (by decide)⟩
  · exact retI X593 hx Bd.returns (hb hby d8_5) hr
  · show Q11 Z a560 a567 k577 p569 p570 p571 p572 p573 p574 p575 p576 h0 n0 _ T593.heap _
    rw [hh629]
    exact ⟨rfl, N593, rfl⟩
theorem d10_0 : decode prog_17_method_10_code 0 = .ok (.aload_n 0, 1) := by decide +kernel
theorem d10_1 : decode prog_17_method_10_code 1 = .ok (.getfield 21, 3) := by decide +kernel
theorem d10_4 : decode prog_17_method_10_code 4 = .ok (.aload_n 0, 1) := by decide +kernel
theorem d10_5 : decode prog_17_method_10_code 5 = .ok (.iload_n 1, 1) := by decide +kernel
theorem d10_6 : decode prog_17_method_10_code 6 = .ok (.invokevirtual 87, 3) := by decide +kernel
theorem own_ge0 {y : Int32} (h : ¬ (y < (0 : Int32))) : 0 ≤ y.toInt := by
  rw [Int32.lt_iff_toInt_lt, Int32.toInt_zero] at h
  omega
theorem own_lti {y n : Int32} (h : y < n) {N : Int} (hn : n.toInt = N) : y.toInt < N := by
  rw [Int32.lt_iff_toInt_lt, hn] at h
  exact h
theorem d10_9 : decode prog_17_method_10_code 9 = .ok (.baload, 1) := by decide +kernel
theorem d10_10 : decode prog_17_method_10_code 10 = .ok (.istore_n 2, 1) := by decide +kernel
theorem d10_11 : decode prog_17_method_10_code 11 = .ok (.iload_n 2, 1) := by decide +kernel
theorem d10_12 : decode prog_17_method_10_code 12 = .ok (.bipush 123, 2) := by decide +kernel
theorem d10_14 : decode prog_17_method_10_code 14 = .ok (.if_icmp .eq 9, 3) := by decide +kernel
theorem d10_23 : decode prog_17_method_10_code 23 = .ok (.aload_n 0, 1) := by decide +kernel
theorem d10_24 : decode prog_17_method_10_code 24 = .ok (.iload_n 1, 1) := by decide +kernel
theorem d10_25 : decode prog_17_method_10_code 25 = .ok (.iconst 1, 1) := by decide +kernel
theorem d10_26 : decode prog_17_method_10_code 26 = .ok (.iadd, 1) := by decide +kernel
theorem d10_27 : decode prog_17_method_10_code 27 = .ok (.invokevirtual 87, 3) := by decide +kernel
def Q12 (Z : State) (a672 : Addr) (a679 : Addr) (k689 : ClassId) (p681 : Int32) (p682 : Int32) (p683 : Int32) (p684 : Int32) (p685 : Int32) (p686 : Int32) (p687 : Int32) (p688 : Int32) (h0 : Heap) (n0 : Nat) (v : Option Value) (h : Heap) (L : List Loc) : Prop := v = some (.int p682) ∧ Fr n0 L ∧ h = h0
set_option maxRecDepth 65536 in
set_option maxHeartbeats 40000000 in
theorem rm12 (l : Launch) (Z : State) (a0 : Array Value) (hw : ∀ d ∈ tables_1, d.before a0 Z = true) (ws : List Jvm.Cond) (a672 : Addr) (a679 : Addr) (k689 : ClassId) (p681 : Int32) (p682 : Int32) (p683 : Int32) (p684 : Int32) (p685 : Int32) (p686 : Int32) (p687 : Int32) (p688 : Int32) (h0 : Heap) (n0 : Nat) (O0 : Old Z n0 h0) (pF_a672_first : Fld Z h0 a672 zs1 "first" "[I" (.ref a679)) (pV_a679 : Arv Z h0 a679 k689 .int (16 : Int32) [(.int p681), (.int p682), (.int p683), (.int p684), (.int p685), (.int p686), (.int p687), (.int p688)] (.int (0 : Int32))) :
    MetFree l (⟨zs1, "get", "(I)I"⟩ : MethodName) (head1 (Jvm.Cond.code (⟨zs1, "get", "(I)I"⟩ : MethodName) prog_17_method_28_code 2 (some .int) :: ws) ({ frames := 0, cells := 0, slots := 0, locals := 0 } : Room)) (fun a U => a = #[(.ref a672), (.int (1 : Int32))] ∧ Z.Warmed39 U.vm ∧ U.heap = h0) (fun _ _ _ _ _ => True) (fun _ U o U' => ∃ v L, o = .returned v ∧ Q12 Z a672 a679 k689 p681 p682 p683 p684 p685 p686 p687 p688 h0 n0 v U'.heap L ∧ FrameEnd U o U' L ({ frames := 0, cells := 0, slots := 0, locals := 0 } : Room).cells ({ frames := 0, cells := 0, slots := 0, locals := 0 } : Room).slots) := by
  refine MetFree.of_bodySF (plainFor_of_name pn_1) hisR ?_
  intro p e s m args below meth c s₁ Bd hml0 hP hK
  obtain ⟨rfl, hZ, hh⟩ := hP
  have hx := Bd.exec
  have hby := Bd.bytes
  have hml : c.maxLocals = 2 := hml0
  have hown : s.vm.findClass zs1 = some m.cls := findClass_of_methodNamed Bd.named
  have hnm := (name_of_methodNamed Bd.named Bd.method).1
  have X0 : Stand p l e ({ frames := 0, cells := 0, slots := 0, locals := 0 } : Room) s m #[(.ref a672), (.int (1 : Int32))] below meth c s₁ [] 0 0 := Stand.of_body Bd
  have e0 : s₁.heap = h0 := by rw [← hh, Bd.state]; rfl
  have N0 := Fr.nil n0
  refine own_out ?_
  refine own_via (fun t k => castTop (ef_7 m a672 (1 : Int32)) (XS.iloadN X0.here hx rfl (hb hby d9_0) rfl (XS.sipush X0.here hx rfl (hb hby d9_1) (XS.icmpNo X0.here hx rfl (hb hby d9_4) rfl (tlt (by decide : (1 : Int32) < (16384 : Int32))).2.1 (XS.aloadN X0.here hx rfl (hb hby d9_7) rfl rfl k))))) ?_
  show own_Goes p e below (s₁.setTop (mkF m 8 #[rv a672, iv (1 : Int32)] [(.ref a672)])) _
  obtain ⟨T706, X706, e706, st706⟩ := getF X0 hx hZ hown (host := "") (Or.inl (wd hw 25 rfl)) Via.refl e0 pF_a672_first (g := (mkF m 8 #[rv a672, iv (1 : Int32)] [(.ref a672)])) rfl rfl (hb hby d9_8)
  refine own_via (fun t k => st706 t (XS.iloadN X706.here hx rfl (hb hby d9_11) rfl k)) ?_
  obtain ⟨cl707, Ar707, qq707, S707, M707, H707, G707⟩ := id (pV_a679)
  have hin707 : ¬ ((1 : Int32) < 0 ∨ cl707.slots.size ≤ ((1 : Int32)).toNatClampNeg) := inb_of S707 ⟨by decide, by decide⟩
  refine own_via (fun t k => X706.iaload hx (j := (1 : Int32)) (v := (.int p682)) (by rw [e706]; exact Ar707.1) (State.isArrayOf_alike hZ.alike Ar707.2.1) Ar707.2.2 hin707 (Has.at H707 hin707 rfl) (g := (mkF m 12 #[rv a672, iv (1 : Int32)] [(.int (1 : Int32)), (.ref a679)])) rfl rfl (hb hby d9_12) t (XS.goto X706.here hx rfl (pc0 := 13) (pc' := 31) rfl (hb hby d9_13) (by decide) (by decide) k)) ?_
  obtain ⟨fs, hr, hrun, hended, hW, hsame⟩ := X706.leave (v := some (.int p682)) (fun h => by rw [Bd.returns] at h; cases h)
  refine own_end (t := T706.setFrames fs) ?_ ⟨_, hrun, hended, _, _, rfl, ?_, ⟨_, rfl⟩, hW, hsame.mono (by decide) (by decide)⟩
  · exact retI X706 hx Bd.returns (hb hby d9_31) hr
  · show Q12 Z a672 a679 k689 p681 p682 p683 p684 p685 p686 p687 p688 h0 n0 _ T706.heap _
    rw [e706]
    exact ⟨rfl, N0, rfl⟩
theorem d10_30 : decode prog_17_method_10_code 30 = .ok (.goto 6, 3) := by decide +kernel
theorem d10_36 : decode prog_17_method_10_code 36 = .ok (.ireturn, 1) := by decide +kernel
theorem d10_17 : decode prog_17_method_10_code 17 = .ok (.iload_n 2, 1) := by decide +kernel
theorem d10_18 : decode prog_17_method_10_code 18 = .ok (.bipush 91, 2) := by decide +kernel
theorem d10_20 : decode prog_17_method_10_code 20 = .ok (.if_icmp .ne 13, 3) := by decide +kernel
theorem ef_9 (m : MethodId) (x0 : Addr) (x1 : Int32) : entryFrame m #[(.ref x0), (.int x1)] 3 = mkF m 0 #[rv x0, iv x1, .unset] [] := by first | (simp [entryFrame, mkF, argsToLocals, Value.category]; done) | rfl
def Q13 (Z : State) (a635 : Addr) (a636 : Addr) (a640 : Addr) (k650 : ClassId) (p642 : Int32) (p643 : Int32) (p644 : Int32) (p645 : Int32) (p646 : Int32) (p647 : Int32) (p648 : Int32) (p649 : Int32) (k639 : ClassId) (p637 : Int32) (p638 : Int32) (h0 : Heap) (n0 : Nat) (v : Option Value) (h : Heap) (L : List Loc) : Prop := v = some (.int p643) ∧ Fr n0 L ∧ h = h0
set_option maxRecDepth 65536 in
set_option maxHeartbeats 40000000 in
theorem rm13 (l : Launch) (Z : State) (a0 : Array Value) (hw : ∀ d ∈ tables_1, d.before a0 Z = true) (ws : List Jvm.Cond) (a635 : Addr) (a636 : Addr) (a640 : Addr) (k650 : ClassId) (p642 : Int32) (p643 : Int32) (p644 : Int32) (p645 : Int32) (p646 : Int32) (p647 : Int32) (p648 : Int32) (p649 : Int32) (k639 : ClassId) (p637 : Int32) (p638 : Int32) (h0 : Heap) (n0 : Nat) (O0 : Old Z n0 h0) (pF_a635_text : Fld Z h0 a635 zs1 "text" "[B" (.ref a636)) (pF_a635_first : Fld Z h0 a635 zs1 "first" "[I" (.ref a640)) (pV_a640 : Arv Z h0 a640 k650 .int (16 : Int32) [(.int p642), (.int p643), (.int p644), (.int p645), (.int p646), (.int p647), (.int p648), (.int p649)] (.int (0 : Int32))) (pE_a635 : Exa Z h0 a635 zs1) (pC656 : ¬ (p642 < (0 : Int32))) (pC657 : p642 < (2 : Int32)) (pV_a636 : Arv Z h0 a636 k639 .byte (4 : Int32) [(.int (123 : Int32)), (.int (91 : Int32)), (.int p637), (.int p638)] (.int (0 : Int32))) :
    MetFree l (⟨zs1, "next", "(I)I"⟩ : MethodName) (head1 (Jvm.Cond.code (⟨zs1, "next", "(I)I"⟩ : MethodName) prog_17_method_10_code 3 (some .int) :: ws) ({ frames := 1, cells := 0, slots := 0, locals := 14 } : Room)) (fun a U => a = #[(.ref a635), (.int (0 : Int32))] ∧ Z.Warmed39 U.vm ∧ U.heap = h0) (fun _ _ _ _ _ => True) (fun _ U o U' => ∃ v L, o = .returned v ∧ Q13 Z a635 a636 a640 k650 p642 p643 p644 p645 p646 p647 p648 p649 k639 p637 p638 h0 n0 v U'.heap L ∧ FrameEnd U o U' L ({ frames := 1, cells := 0, slots := 0, locals := 14 } : Room).cells ({ frames := 1, cells := 0, slots := 0, locals := 14 } : Room).slots) := by
  refine MetFree.of_bodySF (plainFor_of_name pn_1) hisR ?_
  intro p e s m args below meth c s₁ Bd hml0 hP hK
  obtain ⟨rfl, hZ, hh⟩ := hP
  have hx := Bd.exec
  have hby := Bd.bytes
  have hml : c.maxLocals = 3 := hml0
  have hown : s.vm.findClass zs1 = some m.cls := findClass_of_methodNamed Bd.named
  have hnm := (name_of_methodNamed Bd.named Bd.method).1
  have X0 : Stand p l e ({ frames := 1, cells := 0, slots := 0, locals := 14 } : Room) s m #[(.ref a635), (.int (0 : Int32))] below meth c s₁ [] 0 0 := Stand.of_body Bd
  have e0 : s₁.heap = h0 := by rw [← hh, Bd.state]; rfl
  have N0 := Fr.nil n0
  refine own_out ?_
  refine own_via (fun t k => castTop (ef_9 m a635 (0 : Int32)) (XS.aloadN X0.here hx rfl (hb hby d10_0) rfl rfl k)) ?_
  obtain ⟨T666, X666, e666, st666⟩ := getF X0 hx hZ hown (host := "") (Or.inl (wd hw 18 rfl)) Via.refl e0 pF_a635_text (g := (mkF m 1 #[rv a635, iv (0 : Int32), .unset] [(.ref a635)])) rfl rfl (hb hby d10_1)
  refine own_via (fun t k => st666 t (XS.aloadN X666.here hx rfl (hb hby d10_4) rfl rfl (XS.iloadN X666.here hx rfl (hb hby d10_5) rfl k))) ?_
  show own_Goes p e below (T666.setTop (mkF m 6 #[rv a635, iv (0 : Int32), .unset] [(.int (0 : Int32)), (.ref a635), (.ref a636)])) _
  obtain ⟨cq667, q667, q667'⟩ := pE_a635.cell
  obtain ⟨_, _, ⟨T667, L667, c667, n667⟩, -, X667, ⟨Lc667, hQ667, l667, y667, z667⟩, st667⟩ := X666.privateBack hx (y := (⟨zs1, "get", "(I)I"⟩ : MethodName)) hown (mvT hZ (wd hw 55 rfl)) (mvT hZ (wd hw 56 rfl)) (own_selPriv (mvT hZ (wd hw 2 rfl)) (mvT hZ (wd hw 56 rfl)) (Cond.privateMethod_at (mvP hZ (wd hw 57 rfl) (args := #[]))) (by decide)) (Cond.privateMethod_at (mvP hZ (wd hw 57 rfl) (args := #[]))) (mvT hZ (wd hw 58 rfl)) (by decide) (backOf (W := 1) (rm10 l Z a0 hw [] a635 a640 k650 p642 p643 p644 p645 p646 p647 p648 p649 h0 n0 O0 pF_a635_first pV_a640) hZ (wd hw 58 rfl) (wd hw 3 rfl) (by decide) (by decide)) (g := (mkF m 6 #[rv a635, iv (0 : Int32), .unset] [(.int (0 : Int32)), (.ref a635), (.ref a636)])) rfl (by rw [hml]; rfl) (Steps.refl _) (a := a635) (by rw [e666]; exact q667) q667' (argsL := [(.int (0 : Int32))]) (rest := [(.ref a636)]) (lenOf pd_3 rfl) rfl (by show 2 * 0 + _ ≤ _; exact Nat.le_of_eq rfl) (hb hby d10_6) (fun _ _ => ⟨rfl, e666, (by decide : 0 + 0 ≤ _), (by decide : 0 + 0 ≤ _)⟩)
  dsimp only [Pt.U, Pt.locs, Pt.cells, Pt.slots] at X667 l667 y667 z667 st667 hQ667
  subst l667 y667 z667
  obtain ⟨rfl, Nq667, hh668⟩ := hQ667
  have N667 := Fr.app N0 Nq667
  refine own_via (fun t k => st667.trans k) ?_
  show own_Goes p e below (T667.setTop (mkF m 9 #[rv a635, iv (0 : Int32), .unset] [(.int p642), (.ref a636)])) _
  rcases own_cases_2 _ (own_ge0 pC656) (own_lti pC657 (by decide)) with qs | qs
  · have qs669 := qs
    rw [qs]
    show own_Goes p e below (T667.setTop (mkF m 9 #[rv a635, iv (0 : Int32), .unset] [(.int (0 : Int32)), (.ref a636)])) _
    obtain ⟨cl670, Ar670, qq670, S670, M670, H670, G670⟩ := id (pV_a636)
    have hin670 : ¬ ((0 : Int32) < 0 ∨ cl670.slots.size ≤ ((0 : Int32)).toNatClampNeg) := inb_of S670 ⟨by decide, by decide⟩
    refine own_via (fun t k => X667.baloadBytes hx (j := (0 : Int32)) (v := (.int (123 : Int32))) (by rw [hh668]; exact Ar670.1) (State.isArrayOf_alike hZ.alike Ar670.2.1) Ar670.2.2 hin670 (Has.at H670 hin670 rfl) (g := (mkF m 9 #[rv a635, iv (0 : Int32), .unset] [(.int (0 : Int32)), (.ref a636)])) rfl rfl (hb hby d10_9) t (XS.istoreN X667.here hx rfl (hb hby d10_10) rfl (l' := #[rv a635, iv (0 : Int32), iv (123 : Int32)]) rfl (XS.iloadN X667.here hx rfl (hb hby d10_11) rfl (XS.bipush X667.here hx rfl (hb hby d10_12) (XS.icmpYes X667.here hx rfl (pc0 := 14) (pc' := 23) rfl (hb hby d10_14) rfl (teq (by decide : (123 : Int32) = (123 : Int32))).1 (by decide) (by decide) (XS.aloadN X667.here hx rfl (hb hby d10_23) rfl rfl (XS.iloadN X667.here hx rfl (hb hby d10_24) rfl (XS.iconst X667.here hx rfl (hb hby d10_25) (XS.iadd X667.here hx rfl (hb hby d10_26) rfl k))))))))) ?_
    show own_Goes p e below (T667.setTop (mkF m 27 #[rv a635, iv (0 : Int32), iv (123 : Int32)] [(.int (1 : Int32)), (.ref a635)])) _
    obtain ⟨cq671, q671, q671'⟩ := pE_a635.cell
    obtain ⟨_, _, ⟨T671, L671, c671, n671⟩, -, X671, ⟨Lc671, hQ671, l671, y671, z671⟩, st671⟩ := X667.privateBack hx (y := (⟨zs1, "get", "(I)I"⟩ : MethodName)) hown (mvT hZ (wd hw 55 rfl)) (mvT hZ (wd hw 56 rfl)) (own_selPriv (mvT hZ (wd hw 2 rfl)) (mvT hZ (wd hw 56 rfl)) (Cond.privateMethod_at (mvP hZ (wd hw 57 rfl) (args := #[]))) (by decide)) (Cond.privateMethod_at (mvP hZ (wd hw 57 rfl) (args := #[]))) (mvT hZ (wd hw 58 rfl)) (by decide) (backOf (W := 0) (rm12 l Z a0 hw [] a635 a640 k650 p642 p643 p644 p645 p646 p647 p648 p649 h0 n0 O0 pF_a635_first pV_a640) hZ (wd hw 58 rfl) (wd hw 3 rfl) (by decide) (by decide)) (g := (mkF m 27 #[rv a635, iv (0 : Int32), iv (123 : Int32)] [(.int (1 : Int32)), (.ref a635)])) rfl (by rw [hml]; rfl) (Steps.refl _) (a := a635) (by rw [hh668]; exact q671) q671' (argsL := [(.int (1 : Int32))]) (rest := []) (lenOf pd_3 rfl) rfl (by show 2 * 0 + _ ≤ _; exact Nat.le_of_eq rfl) (hb hby d10_27) (fun _ _ => ⟨rfl, hh668, (by decide : 0 + 0 ≤ _), (by decide : 0 + 0 ≤ _)⟩)
    dsimp only [Pt.U, Pt.locs, Pt.cells, Pt.slots] at X671 l671 y671 z671 st671 hQ671
    subst l671 y671 z671
    obtain ⟨rfl, Nq671, hh708⟩ := hQ671
    have N671 := Fr.app N667 Nq671
    refine own_via (fun t k => st671.trans (XS.goto X671.here hx rfl (pc0 := 30) (pc' := 36) rfl (hb hby d10_30) (by decide) (by decide) k)) ?_
    obtain ⟨fs, hr, hrun, hended, hW, hsame⟩ := X671.leave (v := some (.int p643)) (fun h => by rw [Bd.returns] at h; cases h)
    refine own_end (t := T671.setFrames fs) ?_ ⟨_, hrun, hended, _, _, rfl, ?_, ⟨_, rfl⟩, hW, hsame.mono (by decide) (by decide)⟩
    · exact retI X671 hx Bd.returns (hb hby d10_36) hr
    · show Q13 Z a635 a636 a640 k650 p642 p643 p644 p645 p646 p647 p648 p649 k639 p637 p638 h0 n0 _ T671.heap _
      rw [hh708]
      exact ⟨rfl, N671, rfl⟩
  · have qs709 := qs
    rw [qs]
    show own_Goes p e below (T667.setTop (mkF m 9 #[rv a635, iv (0 : Int32), .unset] [(.int (1 : Int32)), (.ref a636)])) _
    obtain ⟨cl710, Ar710, qq710, S710, M710, H710, G710⟩ := id (pV_a636)
    have hin710 : ¬ ((1 : Int32) < 0 ∨ cl710.slots.size ≤ ((1 : Int32)).toNatClampNeg) := inb_of S710 ⟨by decide, by decide⟩
    refine own_via (fun t k => X667.baloadBytes hx (j := (1 : Int32)) (v := (.int (91 : Int32))) (by rw [hh668]; exact Ar710.1) (State.isArrayOf_alike hZ.alike Ar710.2.1) Ar710.2.2 hin710 (Has.at H710 hin710 rfl) (g := (mkF m 9 #[rv a635, iv (0 : Int32), .unset] [(.int (1 : Int32)), (.ref a636)])) rfl rfl (hb hby d10_9) t (XS.istoreN X667.here hx rfl (hb hby d10_10) rfl (l' := #[rv a635, iv (0 : Int32), iv (91 : Int32)]) rfl (XS.iloadN X667.here hx rfl (hb hby d10_11) rfl (XS.bipush X667.here hx rfl (hb hby d10_12) (XS.icmpNo X667.here hx rfl (hb hby d10_14) rfl (feq (by decide : ¬ ((91 : Int32) = (123 : Int32)))).1 (XS.iloadN X667.here hx rfl (hb hby d10_17) rfl (XS.bipush X667.here hx rfl (hb hby d10_18) (XS.icmpNo X667.here hx rfl (hb hby d10_20) rfl (teq (by decide : (91 : Int32) = (91 : Int32))).2 (XS.aloadN X667.here hx rfl (hb hby d10_23) rfl rfl (XS.iloadN X667.here hx rfl (hb hby d10_24) rfl (XS.iconst X667.here hx rfl (hb hby d10_25) (XS.iadd X667.here hx rfl (hb hby d10_26) rfl k)))))))))))) ?_
    show own_Goes p e below (T667.setTop (mkF m 27 #[rv a635, iv (0 : Int32), iv (91 : Int32)] [(.int (1 : Int32)), (.ref a635)])) _
    obtain ⟨cq711, q711, q711'⟩ := pE_a635.cell
    obtain ⟨_, _, ⟨T711, L711, c711, n711⟩, -, X711, ⟨Lc711, hQ711, l711, y711, z711⟩, st711⟩ := X667.privateBack hx (y := (⟨zs1, "get", "(I)I"⟩ : MethodName)) hown (mvT hZ (wd hw 55 rfl)) (mvT hZ (wd hw 56 rfl)) (own_selPriv (mvT hZ (wd hw 2 rfl)) (mvT hZ (wd hw 56 rfl)) (Cond.privateMethod_at (mvP hZ (wd hw 57 rfl) (args := #[]))) (by decide)) (Cond.privateMethod_at (mvP hZ (wd hw 57 rfl) (args := #[]))) (mvT hZ (wd hw 58 rfl)) (by decide) (backOf (W := 0) (rm12 l Z a0 hw [] a635 a640 k650 p642 p643 p644 p645 p646 p647 p648 p649 h0 n0 O0 pF_a635_first pV_a640) hZ (wd hw 58 rfl) (wd hw 3 rfl) (by decide) (by decide)) (g := (mkF m 27 #[rv a635, iv (0 : Int32), iv (91 : Int32)] [(.int (1 : Int32)), (.ref a635)])) rfl (by rw [hml]; rfl) (Steps.refl _) (a := a635) (by rw [hh668]; exact q711) q711' (argsL := [(.int (1 : Int32))]) (rest := []) (lenOf pd_3 rfl) rfl (by show 2 * 0 + _ ≤ _; exact Nat.le_of_eq rfl) (hb hby d10_27) (fun _ _ => ⟨rfl, hh668, (by decide : 0 + 0 ≤ _), (by decide : 0 + 0 ≤ _)⟩)
    dsimp only [Pt.U, Pt.locs, Pt.cells, Pt.slots] at X711 l711 y711 z711 st711 hQ711
    subst l711 y711 z711
    obtain ⟨rfl, Nq711, hh712⟩ := hQ711
    have N711 := Fr.app N667 Nq711
    refine own_via (fun t k => st711.trans (XS.goto X711.here hx rfl (pc0 := 30) (pc' := 36) rfl (hb hby d10_30) (by decide) (by decide) k)) ?_
    obtain ⟨fs, hr, hrun, hended, hW, hsame⟩ := X711.leave (v := some (.int p643)) (fun h => by rw [Bd.returns] at h; cases h)
    refine own_end (t := T711.setFrames fs) ?_ ⟨_, hrun, hended, _, _, rfl, ?_, ⟨_, rfl⟩, hW, hsame.mono (by decide) (by decide)⟩
    · exact retI X711 hx Bd.returns (hb hby d10_36) hr
    · show Q13 Z a635 a636 a640 k650 p642 p643 p644 p645 p646 p647 p648 p649 k639 p637 p638 h0 n0 _ T711.heap _
      rw [hh712]
      exact ⟨rfl, N711, rfl⟩
theorem d11_0 : decode prog_17_method_15_code 0 = .ok (.aload_n 0, 1) := by decide +kernel
theorem d11_1 : decode prog_17_method_15_code 1 = .ok (.iload_n 1, 1) := by decide +kernel
theorem d11_2 : decode prog_17_method_15_code 2 = .ok (.iconst 2, 1) := by decide +kernel
theorem d11_3 : decode prog_17_method_15_code 3 = .ok (.iadd, 1) := by decide +kernel
theorem d11_4 : decode prog_17_method_15_code 4 = .ok (.invokevirtual 87, 3) := by decide +kernel
def Q14 (Z : State) (a751 : Addr) (a758 : Addr) (k768 : ClassId) (p760 : Int32) (p761 : Int32) (p762 : Int32) (p763 : Int32) (p764 : Int32) (p765 : Int32) (p766 : Int32) (p767 : Int32) (h0 : Heap) (n0 : Nat) (v : Option Value) (h : Heap) (L : List Loc) : Prop := v = some (.int p762) ∧ Fr n0 L ∧ h = h0
set_option maxRecDepth 65536 in
set_option maxHeartbeats 40000000 in
theorem rm14 (l : Launch) (Z : State) (a0 : Array Value) (hw : ∀ d ∈ tables_1, d.before a0 Z = true) (ws : List Jvm.Cond) (a751 : Addr) (a758 : Addr) (k768 : ClassId) (p760 : Int32) (p761 : Int32) (p762 : Int32) (p763 : Int32) (p764 : Int32) (p765 : Int32) (p766 : Int32) (p767 : Int32) (h0 : Heap) (n0 : Nat) (O0 : Old Z n0 h0) (pF_a751_first : Fld Z h0 a751 zs1 "first" "[I" (.ref a758)) (pV_a758 : Arv Z h0 a758 k768 .int (16 : Int32) [(.int p760), (.int p761), (.int p762), (.int p763), (.int p764), (.int p765), (.int p766), (.int p767)] (.int (0 : Int32))) :
    MetFree l (⟨zs1, "get", "(I)I"⟩ : MethodName) (head1 (Jvm.Cond.code (⟨zs1, "get", "(I)I"⟩ : MethodName) prog_17_method_28_code 2 (some .int) :: ws) ({ frames := 0, cells := 0, slots := 0, locals := 0 } : Room)) (fun a U => a = #[(.ref a751), (.int (2 : Int32))] ∧ Z.Warmed39 U.vm ∧ U.heap = h0) (fun _ _ _ _ _ => True) (fun _ U o U' => ∃ v L, o = .returned v ∧ Q14 Z a751 a758 k768 p760 p761 p762 p763 p764 p765 p766 p767 h0 n0 v U'.heap L ∧ FrameEnd U o U' L ({ frames := 0, cells := 0, slots := 0, locals := 0 } : Room).cells ({ frames := 0, cells := 0, slots := 0, locals := 0 } : Room).slots) := by
  refine MetFree.of_bodySF (plainFor_of_name pn_1) hisR ?_
  intro p e s m args below meth c s₁ Bd hml0 hP hK
  obtain ⟨rfl, hZ, hh⟩ := hP
  have hx := Bd.exec
  have hby := Bd.bytes
  have hml : c.maxLocals = 2 := hml0
  have hown : s.vm.findClass zs1 = some m.cls := findClass_of_methodNamed Bd.named
  have hnm := (name_of_methodNamed Bd.named Bd.method).1
  have X0 : Stand p l e ({ frames := 0, cells := 0, slots := 0, locals := 0 } : Room) s m #[(.ref a751), (.int (2 : Int32))] below meth c s₁ [] 0 0 := Stand.of_body Bd
  have e0 : s₁.heap = h0 := by rw [← hh, Bd.state]; rfl
  have N0 := Fr.nil n0
  refine own_out ?_
  refine own_via (fun t k => castTop (ef_7 m a751 (2 : Int32)) (XS.iloadN X0.here hx rfl (hb hby d9_0) rfl (XS.sipush X0.here hx rfl (hb hby d9_1) (XS.icmpNo X0.here hx rfl (hb hby d9_4) rfl (tlt (by decide : (2 : Int32) < (16384 : Int32))).2.1 (XS.aloadN X0.here hx rfl (hb hby d9_7) rfl rfl k))))) ?_
  show own_Goes p e below (s₁.setTop (mkF m 8 #[rv a751, iv (2 : Int32)] [(.ref a751)])) _
  obtain ⟨T784, X784, e784, st784⟩ := getF X0 hx hZ hown (host := "") (Or.inl (wd hw 25 rfl)) Via.refl e0 pF_a751_first (g := (mkF m 8 #[rv a751, iv (2 : Int32)] [(.ref a751)])) rfl rfl (hb hby d9_8)
  refine own_via (fun t k => st784 t (XS.iloadN X784.here hx rfl (hb hby d9_11) rfl k)) ?_
  obtain ⟨cl785, Ar785, qq785, S785, M785, H785, G785⟩ := id (pV_a758)
  have hin785 : ¬ ((2 : Int32) < 0 ∨ cl785.slots.size ≤ ((2 : Int32)).toNatClampNeg) := inb_of S785 ⟨by decide, by decide⟩
  refine own_via (fun t k => X784.iaload hx (j := (2 : Int32)) (v := (.int p762)) (by rw [e784]; exact Ar785.1) (State.isArrayOf_alike hZ.alike Ar785.2.1) Ar785.2.2 hin785 (Has.at H785 hin785 rfl) (g := (mkF m 12 #[rv a751, iv (2 : Int32)] [(.int (2 : Int32)), (.ref a758)])) rfl rfl (hb hby d9_12) t (XS.goto X784.here hx rfl (pc0 := 13) (pc' := 31) rfl (hb hby d9_13) (by decide) (by decide) k)) ?_
  obtain ⟨fs, hr, hrun, hended, hW, hsame⟩ := X784.leave (v := some (.int p762)) (fun h => by rw [Bd.returns] at h; cases h)
  refine own_end (t := T784.setFrames fs) ?_ ⟨_, hrun, hended, _, _, rfl, ?_, ⟨_, rfl⟩, hW, hsame.mono (by decide) (by decide)⟩
  · exact retI X784 hx Bd.returns (hb hby d9_31) hr
  · show Q14 Z a751 a758 k768 p760 p761 p762 p763 p764 p765 p766 p767 h0 n0 _ T784.heap _
    rw [e784]
    exact ⟨rfl, N0, rfl⟩
theorem d11_7 : decode prog_17_method_15_code 7 = .ok (.iconst 1, 1) := by decide +kernel
theorem d11_8 : decode prog_17_method_15_code 8 = .ok (.iushr, 1) := by decide +kernel
theorem d11_9 : decode prog_17_method_15_code 9 = .ok (.ireturn, 1) := by decide +kernel
theorem ef_10 (m : MethodId) (x0 : Addr) (x1 : Int32) : entryFrame m #[(.ref x0), (.int x1)] 2 = mkF m 0 #[rv x0, iv x1] [] := by first | (simp [entryFrame, mkF, argsToLocals, Value.category]; done) | rfl
def Q15 (Z : State) (a717 : Addr) (a724 : Addr) (k734 : ClassId) (p726 : Int32) (p727 : Int32) (p728 : Int32) (p729 : Int32) (p730 : Int32) (p731 : Int32) (p732 : Int32) (p733 : Int32) (h0 : Heap) (n0 : Nat) (v : Option Value) (h : Heap) (L : List Loc) : Prop := v = some (.int ((p728.toUInt32 >>> ((1 : Int32) &&& 31).toUInt32).toInt32)) ∧ Fr n0 L ∧ h = h0
set_option maxRecDepth 65536 in
set_option maxHeartbeats 40000000 in
theorem rm15 (l : Launch) (Z : State) (a0 : Array Value) (hw : ∀ d ∈ tables_1, d.before a0 Z = true) (ws : List Jvm.Cond) (a717 : Addr) (a724 : Addr) (k734 : ClassId) (p726 : Int32) (p727 : Int32) (p728 : Int32) (p729 : Int32) (p730 : Int32) (p731 : Int32) (p732 : Int32) (p733 : Int32) (h0 : Heap) (n0 : Nat) (O0 : Old Z n0 h0) (pF_a717_first : Fld Z h0 a717 zs1 "first" "[I" (.ref a724)) (pV_a724 : Arv Z h0 a724 k734 .int (16 : Int32) [(.int p726), (.int p727), (.int p728), (.int p729), (.int p730), (.int p731), (.int p732), (.int p733)] (.int (0 : Int32))) (pE_a717 : Exa Z h0 a717 zs1) :
    MetFree l (⟨zs1, "count", "(I)I"⟩ : MethodName) (head1 (Jvm.Cond.code (⟨zs1, "count", "(I)I"⟩ : MethodName) prog_17_method_15_code 2 (some .int) :: ws) ({ frames := 1, cells := 0, slots := 0, locals := 13 } : Room)) (fun a U => a = #[(.ref a717), (.int (0 : Int32))] ∧ Z.Warmed39 U.vm ∧ U.heap = h0) (fun _ _ _ _ _ => True) (fun _ U o U' => ∃ v L, o = .returned v ∧ Q15 Z a717 a724 k734 p726 p727 p728 p729 p730 p731 p732 p733 h0 n0 v U'.heap L ∧ FrameEnd U o U' L ({ frames := 1, cells := 0, slots := 0, locals := 13 } : Room).cells ({ frames := 1, cells := 0, slots := 0, locals := 13 } : Room).slots) := by
  refine MetFree.of_bodySF (plainFor_of_name pn_1) hisR ?_
  intro p e s m args below meth c s₁ Bd hml0 hP hK
  obtain ⟨rfl, hZ, hh⟩ := hP
  have hx := Bd.exec
  have hby := Bd.bytes
  have hml : c.maxLocals = 2 := hml0
  have hown : s.vm.findClass zs1 = some m.cls := findClass_of_methodNamed Bd.named
  have hnm := (name_of_methodNamed Bd.named Bd.method).1
  have X0 : Stand p l e ({ frames := 1, cells := 0, slots := 0, locals := 13 } : Room) s m #[(.ref a717), (.int (0 : Int32))] below meth c s₁ [] 0 0 := Stand.of_body Bd
  have e0 : s₁.heap = h0 := by rw [← hh, Bd.state]; rfl
  have N0 := Fr.nil n0
  refine own_out ?_
  refine own_via (fun t k => castTop (ef_10 m a717 (0 : Int32)) (XS.aloadN X0.here hx rfl (hb hby d11_0) rfl rfl (XS.iloadN X0.here hx rfl (hb hby d11_1) rfl (XS.iconst X0.here hx rfl (hb hby d11_2) (XS.iadd X0.here hx rfl (hb hby d11_3) rfl k))))) ?_
  show own_Goes p e below (s₁.setTop (mkF m 4 #[rv a717, iv (0 : Int32)] [(.int (2 : Int32)), (.ref a717)])) _
  obtain ⟨cq750, q750, q750'⟩ := pE_a717.cell
  obtain ⟨_, _, ⟨T750, L750, c750, n750⟩, -, X750, ⟨Lc750, hQ750, l750, y750, z750⟩, st750⟩ := X0.privateBack hx (y := (⟨zs1, "get", "(I)I"⟩ : MethodName)) hown (mvT hZ (wd hw 55 rfl)) (mvT hZ (wd hw 56 rfl)) (own_selPriv (mvT hZ (wd hw 2 rfl)) (mvT hZ (wd hw 56 rfl)) (Cond.privateMethod_at (mvP hZ (wd hw 57 rfl) (args := #[]))) (by decide)) (Cond.privateMethod_at (mvP hZ (wd hw 57 rfl) (args := #[]))) (mvT hZ (wd hw 58 rfl)) (by decide) (backOf (W := 0) (rm14 l Z a0 hw [] a717 a724 k734 p726 p727 p728 p729 p730 p731 p732 p733 h0 n0 O0 pF_a717_first pV_a724) hZ (wd hw 58 rfl) (wd hw 3 rfl) (by decide) (by decide)) (g := (mkF m 4 #[rv a717, iv (0 : Int32)] [(.int (2 : Int32)), (.ref a717)])) rfl (by rw [hml]; rfl) (Steps.refl _) (a := a717) (by rw [e0]; exact q750) q750' (argsL := [(.int (2 : Int32))]) (rest := []) (lenOf pd_3 rfl) rfl (by show 2 * 0 + _ ≤ _; exact Nat.le_of_eq rfl) (hb hby d11_4) (fun _ _ => ⟨rfl, e0, (by decide : 0 + 0 ≤ _), (by decide : 0 + 0 ≤ _)⟩)
  dsimp only [Pt.U, Pt.locs, Pt.cells, Pt.slots] at X750 l750 y750 z750 st750 hQ750
  subst l750 y750 z750
  obtain ⟨rfl, Nq750, hh786⟩ := hQ750
  have N750 := Fr.app N0 Nq750
  refine own_via (fun t k => st750.trans (XS.iconst X750.here hx rfl (hb hby d11_7) (XS.iushr X750.here hx rfl (hb hby d11_8) rfl k))) ?_
  show own_Goes p e below (T750.setTop (mkF m 9 #[rv a717, iv (0 : Int32)] [(.int ((p728.toUInt32 >>> ((1 : Int32) &&& 31).toUInt32).toInt32))])) _
  obtain ⟨fs, hr, hrun, hended, hW, hsame⟩ := X750.leave (v := some (.int ((p728.toUInt32 >>> ((1 : Int32) &&& 31).toUInt32).toInt32))) (fun h => by rw [Bd.returns] at h; cases h)
  refine own_end (t := T750.setFrames fs) ?_ ⟨_, hrun, hended, _, _, rfl, ?_, ⟨_, rfl⟩, hW, hsame.mono (by decide) (by decide)⟩
  · exact retI X750 hx Bd.returns (hb hby d11_9) hr
  · show Q15 Z a717 a724 k734 p726 p727 p728 p729 p730 p731 p732 p733 h0 n0 _ T750.heap _
    rw [hh786]
    exact ⟨rfl, N750, rfl⟩
theorem d12_0 : decode prog_17_method_16_code 0 = .ok (.aload_n 0, 1) := by decide +kernel
theorem d12_1 : decode prog_17_method_16_code 1 = .ok (.iload_n 1, 1) := by decide +kernel
theorem d12_2 : decode prog_17_method_16_code 2 = .ok (.iconst 2, 1) := by decide +kernel
theorem d12_3 : decode prog_17_method_16_code 3 = .ok (.iadd, 1) := by decide +kernel
theorem d12_4 : decode prog_17_method_16_code 4 = .ok (.invokevirtual 87, 3) := by decide +kernel
theorem d12_7 : decode prog_17_method_16_code 7 = .ok (.iconst 1, 1) := by decide +kernel
theorem d12_8 : decode prog_17_method_16_code 8 = .ok (.iand, 1) := by decide +kernel
theorem d12_9 : decode prog_17_method_16_code 9 = .ok (.ifCond .eq 7, 3) := by decide +kernel
theorem d12_16 : decode prog_17_method_16_code 16 = .ok (.iconst 0, 1) := by decide +kernel
theorem d12_17 : decode prog_17_method_16_code 17 = .ok (.ireturn, 1) := by decide +kernel
theorem ef_11 (m : MethodId) (x0 : Addr) (x1 : Int32) : entryFrame m #[(.ref x0), (.int x1)] 2 = mkF m 0 #[rv x0, iv x1] [] := by first | (simp [entryFrame, mkF, argsToLocals, Value.category]; done) | rfl
def Q16 (Z : State) (a789 : Addr) (a796 : Addr) (k806 : ClassId) (p798 : Int32) (p799 : Int32) (p800 : Int32) (p801 : Int32) (p802 : Int32) (p803 : Int32) (p804 : Int32) (p805 : Int32) (h0 : Heap) (n0 : Nat) (v : Option Value) (h : Heap) (L : List Loc) : Prop := v = some (.int (0 : Int32)) ∧ Fr n0 L ∧ h = h0
set_option maxRecDepth 65536 in
set_option maxHeartbeats 40000000 in
theorem rm16 (l : Launch) (Z : State) (a0 : Array Value) (hw : ∀ d ∈ tables_1, d.before a0 Z = true) (ws : List Jvm.Cond) (a789 : Addr) (a796 : Addr) (k806 : ClassId) (p798 : Int32) (p799 : Int32) (p800 : Int32) (p801 : Int32) (p802 : Int32) (p803 : Int32) (p804 : Int32) (p805 : Int32) (h0 : Heap) (n0 : Nat) (O0 : Old Z n0 h0) (pF_a789_first : Fld Z h0 a789 zs1 "first" "[I" (.ref a796)) (pV_a796 : Arv Z h0 a796 k806 .int (16 : Int32) [(.int p798), (.int p799), (.int p800), (.int p801), (.int p802), (.int p803), (.int p804), (.int p805)] (.int (0 : Int32))) (pE_a789 : Exa Z h0 a789 zs1) (pC822 : (p800 &&& (1 : Int32)) = (0 : Int32)) :
    MetFree l (⟨zs1, "repeats", "(I)Z"⟩ : MethodName) (head1 (Jvm.Cond.code (⟨zs1, "repeats", "(I)Z"⟩ : MethodName) prog_17_method_16_code 2 (some .boolean) :: ws) ({ frames := 1, cells := 0, slots := 0, locals := 13 } : Room)) (fun a U => a = #[(.ref a789), (.int (0 : Int32))] ∧ Z.Warmed39 U.vm ∧ U.heap = h0) (fun _ _ _ _ _ => True) (fun _ U o U' => ∃ v L, o = .returned v ∧ Q16 Z a789 a796 k806 p798 p799 p800 p801 p802 p803 p804 p805 h0 n0 v U'.heap L ∧ FrameEnd U o U' L ({ frames := 1, cells := 0, slots := 0, locals := 13 } : Room).cells ({ frames := 1, cells := 0, slots := 0, locals := 13 } : Room).slots) := by
  refine MetFree.of_bodySF (plainFor_of_name pn_1) hisR ?_
  intro p e s m args below meth c s₁ Bd hml0 hP hK
  obtain ⟨rfl, hZ, hh⟩ := hP
  have hx := Bd.exec
  have hby := Bd.bytes
  have hml : c.maxLocals = 2 := hml0
  have hown : s.vm.findClass zs1 = some m.cls := findClass_of_methodNamed Bd.named
  have hnm := (name_of_methodNamed Bd.named Bd.method).1
  have X0 : Stand p l e ({ frames := 1, cells := 0, slots := 0, locals := 13 } : Room) s m #[(.ref a789), (.int (0 : Int32))] below meth c s₁ [] 0 0 := Stand.of_body Bd
  have e0 : s₁.heap = h0 := by rw [← hh, Bd.state]; rfl
  have N0 := Fr.nil n0
  refine own_out ?_
  refine own_via (fun t k => castTop (ef_11 m a789 (0 : Int32)) (XS.aloadN X0.here hx rfl (hb hby d12_0) rfl rfl (XS.iloadN X0.here hx rfl (hb hby d12_1) rfl (XS.iconst X0.here hx rfl (hb hby d12_2) (XS.iadd X0.here hx rfl (hb hby d12_3) rfl k))))) ?_
  show own_Goes p e below (s₁.setTop (mkF m 4 #[rv a789, iv (0 : Int32)] [(.int (2 : Int32)), (.ref a789)])) _
  obtain ⟨cq823, q823, q823'⟩ := pE_a789.cell
  obtain ⟨_, _, ⟨T823, L823, c823, n823⟩, -, X823, ⟨Lc823, hQ823, l823, y823, z823⟩, st823⟩ := X0.privateBack hx (y := (⟨zs1, "get", "(I)I"⟩ : MethodName)) hown (mvT hZ (wd hw 55 rfl)) (mvT hZ (wd hw 56 rfl)) (own_selPriv (mvT hZ (wd hw 2 rfl)) (mvT hZ (wd hw 56 rfl)) (Cond.privateMethod_at (mvP hZ (wd hw 57 rfl) (args := #[]))) (by decide)) (Cond.privateMethod_at (mvP hZ (wd hw 57 rfl) (args := #[]))) (mvT hZ (wd hw 58 rfl)) (by decide) (backOf (W := 0) (rm14 l Z a0 hw [] a789 a796 k806 p798 p799 p800 p801 p802 p803 p804 p805 h0 n0 O0 pF_a789_first pV_a796) hZ (wd hw 58 rfl) (wd hw 3 rfl) (by decide) (by decide)) (g := (mkF m 4 #[rv a789, iv (0 : Int32)] [(.int (2 : Int32)), (.ref a789)])) rfl (by rw [hml]; rfl) (Steps.refl _) (a := a789) (by rw [e0]; exact q823) q823' (argsL := [(.int (2 : Int32))]) (rest := []) (lenOf pd_3 rfl) rfl (by show 2 * 0 + _ ≤ _; exact Nat.le_of_eq rfl) (hb hby d12_4) (fun _ _ => ⟨rfl, e0, (by decide : 0 + 0 ≤ _), (by decide : 0 + 0 ≤ _)⟩)
  dsimp only [Pt.U, Pt.locs, Pt.cells, Pt.slots] at X823 l823 y823 z823 st823 hQ823
  subst l823 y823 z823
  obtain ⟨rfl, Nq823, hh824⟩ := hQ823
  have N823 := Fr.app N0 Nq823
  refine own_via (fun t k => st823.trans (XS.iconst X823.here hx rfl (hb hby d12_7) (XS.iand X823.here hx rfl (hb hby d12_8) rfl (XS.ifYes X823.here hx rfl (pc0 := 9) (pc' := 16) rfl (hb hby d12_9) rfl ((if0 _ _).trans (teq pC822).1) (by decide) (by decide) (XS.iconst X823.here hx rfl (hb hby d12_16) k))))) ?_
  show own_Goes p e below (T823.setTop (mkF m 17 #[rv a789, iv (0 : Int32)] [(.int (0 : Int32))])) _
  obtain ⟨fs, hr, hrun, hended, hW, hsame⟩ := X823.leave (v := some (.int (0 : Int32))) (fun h => by rw [Bd.returns] at h; cases h)
  refine own_end (t := T823.setFrames fs) ?_ ⟨_, hrun, hended, _, _, rfl, ?_, ⟨_, rfl⟩, hW, hsame.mono (by decide) (by decide)⟩
  · exact retN X823 hx (t := .boolean) Bd.returns (by simp) (hb hby d12_17) hr
  · show Q16 Z a789 a796 k806 p798 p799 p800 p801 p802 p803 p804 p805 h0 n0 _ T823.heap _
    rw [hh824]
    exact ⟨rfl, N823, rfl⟩
theorem pd_6 : parseMethodDescriptor "(I)Z" = some ⟨[.int], some .boolean⟩ := by decide +kernel
set_option maxRecDepth 65536 in
set_option maxHeartbeats 40000000 in
theorem sfx1 (l : Launch) (Z : State) (a0 : Array Value) (hw : ∀ d ∈ tables_1, d.before a0 Z = true) (ws : List Jvm.Cond) {p : Program} {e : Env} {s : State} {m : MethodId} {below : List Frame} {meth : Method} {c : Code} {s₁ : State} (p414 : Int32) (p415 : Int32) (p416 : Int32) (p408 : Int32) (p409 : Int32) (p410 : Int32) (a411 : Addr) (a412 : Addr) (p413 : Int32) (p407 : Int32) (a418 : Addr) (k426 : ClassId) (p419 : Int32) (p420 : Int32) (p421 : Int32) (p422 : Int32) (p423 : Int32) (p424 : Int32) (p425 : Int32) (k417 : ClassId) (Bd : BodyLoose p l x (head1 (Jvm.Cond.code x code maxLocals ret :: ws) room_1) code maxLocals ret e s m #[(.int p414), (.int p415), (.int p416)] below meth c s₁) (hZ : Z.Warmed39 s.vm) (hml : c.maxLocals = 11) {T0 : State} {locs0 : List Loc} (X0 : Stand p l e room_1 s m #[(.int p414), (.int p415), (.int p416)] below meth c T0 locs0 8 120) (h0 : Heap) (e0 : T0.heap = h0) (n0 : Nat) (O0 : Old Z n0 h0) (N0 : Fr n0 locs0) (pF_a412_length : Fld Z h0 a412 zs1 "length" "I" (.int (3 : Int32))) (pF_a412_first : Fld Z h0 a412 zs1 "first" "[I" (.ref a418)) (pV_a418 : Arv Z h0 a418 k426 .int (16 : Int32) [(.int p413), (.int p419), (.int p420), (.int p421), (.int p422), (.int p423), (.int p424), (.int p425)] (.int (0 : Int32))) (pG_a418 : n0 ≤ a418) (pE_a418 : Exa Z h0 a418 "[I") (pE_a412 : Exa Z h0 a412 zs1) (pN_a412_a418 : a412 ≠ a418) (pF_a412_text : Fld Z h0 a412 zs1 "text" "[B" (.ref a411)) (pC431 : ¬ (p413 < (0 : Int32))) (pC432 : p413 < (2 : Int32)) (pV_a411 : Arv Z h0 a411 k417 .byte (4 : Int32) [(.int (123 : Int32)), (.int (91 : Int32)), (.int (49 : Int32)), (.int (110 : Int32))] (.int (0 : Int32))) (pN_a411_a418 : a411 ≠ a418) (pC435 : ¬ (p407 < (0 : Int32))) :
    own_Goes p e below (T0.setTop (mkF m 141 #[iv p408, iv p409, iv p410, rv a411, rv a412, iv (0 : Int32), iv p413, iv (0 : Int32), iv (0 : Int32), iv p407, iv (0 : Int32)] [])) (own_G s below n0) := by
  have hx := Bd.exec
  have hby := Bd.bytes
  have hown : s.vm.findClass zs2 = some m.cls := findClass_of_methodNamed Bd.named
  have hnm := (name_of_methodNamed Bd.named Bd.method).1
  show own_Goes p e below (T0.setTop (mkF m 141 #[iv p408, iv p409, iv p410, rv a411, rv a412, iv (0 : Int32), iv p413, iv (0 : Int32), iv (0 : Int32), iv p407, iv (0 : Int32)] [])) _
  refine own_via (fun t k => XS.aload X0.here hx rfl (hb hby at_141) rfl rfl (XS.iload X0.here hx rfl (hb hby at_143) rfl (XS.iload X0.here hx rfl (hb hby at_145) rfl (XS.iload X0.here hx rfl (hb hby at_147) rfl k)))) ?_
  show own_Goes p e below (T0.setTop (mkF m 149 #[iv p408, iv p409, iv p410, rv a411, rv a412, iv (0 : Int32), iv p413, iv (0 : Int32), iv (0 : Int32), iv p407, iv (0 : Int32)] [(.int (0 : Int32)), (.int p407), (.int (0 : Int32)), (.ref a412)])) _
  obtain ⟨_, T439, _, X439, hQ439, st439⟩ := own_cv X0 hx hZ hown (wd hw 41 rfl) (wd hw 42 rfl) (wd hw 44 rfl) (wd hw 43 rfl) (wd hw 45 rfl) (wd hw 3 rfl) (by decide) (rm9 l Z a0 hw [] a412 p407 (3 : Int32) a418 k426 p413 p419 p420 p421 p422 p423 p424 p425 h0 n0 O0 pF_a412_length pF_a412_first pV_a418 pG_a418 pE_a418 pE_a412 pN_a412_a418) e0 pE_a412 (g := (mkF m 149 #[iv p408, iv p409, iv p410, rv a411, rv a412, iv (0 : Int32), iv p413, iv (0 : Int32), iv (0 : Int32), iv p407, iv (0 : Int32)] [(.int (0 : Int32)), (.int p407), (.int (0 : Int32)), (.ref a412)])) rfl (by rw [hml]; rfl) (rest := []) (W := 0) (lenOf pd_5 rfl) rfl (by show 2 * 0 + _ ≤ _; exact Nat.le_of_eq rfl) (hb hby at_149) (by decide) (by decide) (by decide) (by decide)
  obtain ⟨h439, e439⟩ : ∃ z, T439.heap = z := ⟨_, rfl⟩
  rw [e439] at hQ439
  obtain ⟨rfl, Nq439, K439, ex557, vx558⟩ := hQ439
  have N439 := Fr.app N0 Nq439
  refine own_via (fun t k => st439 t (XS.iload X439.here hx rfl (hb hby at_152) rfl (XS.iload X439.here hx rfl (hb hby at_154) rfl (XS.icmpNo X439.here hx rfl (hb hby at_156) rfl (teq (by decide : (0 : Int32) = (0 : Int32))).2 (XS.aload X439.here hx rfl (hb hby at_159) rfl rfl (XS.iload X439.here hx rfl (hb hby at_161) rfl k)))))) ?_
  show own_Goes p e below (T439.setTop (mkF m 163 #[iv p408, iv p409, iv p410, rv a411, rv a412, iv (0 : Int32), iv p413, iv (0 : Int32), iv (0 : Int32), iv p407, iv (0 : Int32)] [(.int (0 : Int32)), (.ref a412)])) _
  have F630 : Fld Z h439 a412 zs1 "first" "[I" (.ref a418) := (pF_a412_first.keep K439 (ninS pN_a412_a418 nin0))
  have E631 : Exa Z h439 a412 zs1 := (pE_a412.keep K439)
  have O632 : Old Z n0 h439 := (O0.keep K439 (allS pG_a418 all0))
  obtain ⟨_, T559, _, X559, hQ559, st559⟩ := own_cv X439 hx hZ hown (wd hw 50 rfl) (wd hw 51 rfl) (wd hw 53 rfl) (wd hw 52 rfl) (wd hw 54 rfl) (wd hw 3 rfl) (by decide) (rm11 l Z a0 hw [] a412 a418 k426 p413 (3 : Int32) ((p407 <<< ((1 : Int32) &&& 31)) ||| (0 : Int32)) p421 p422 p423 p424 p425 h439 n0 O632 F630 vx558 E631) e439 E631 (g := (mkF m 163 #[iv p408, iv p409, iv p410, rv a411, rv a412, iv (0 : Int32), iv p413, iv (0 : Int32), iv (0 : Int32), iv p407, iv (0 : Int32)] [(.int (0 : Int32)), (.ref a412)])) rfl (by rw [hml]; rfl) (rest := []) (W := 0) (lenOf pd_3 rfl) rfl (by show 2 * 0 + _ ≤ _; exact Nat.le_of_eq rfl) (hb hby at_163) (by decide) (by decide) (by decide) (by decide)
  obtain ⟨rfl, Nq559, hh633⟩ := hQ559
  have N559 := Fr.app N439 Nq559
  refine own_via (fun t k => st559 t (XS.iload X559.here hx rfl (hb hby at_166) rfl (XS.icmpNo X559.here hx rfl (hb hby at_168) rfl (teq (rfl : p413 = p413)).2 (XS.aload X559.here hx rfl (hb hby at_171) rfl rfl (XS.iload X559.here hx rfl (hb hby at_173) rfl k))))) ?_
  show own_Goes p e below (T559.setTop (mkF m 175 #[iv p408, iv p409, iv p410, rv a411, rv a412, iv (0 : Int32), iv p413, iv (0 : Int32), iv (0 : Int32), iv p407, iv (0 : Int32)] [(.int (0 : Int32)), (.ref a412)])) _
  have F713 : Fld Z h439 a412 zs1 "text" "[B" (.ref a411) := (pF_a412_text.keep K439 (ninS pN_a412_a418 nin0))
  have V714 : Arv Z h439 a411 k417 .byte (4 : Int32) [(.int (123 : Int32)), (.int (91 : Int32)), (.int (49 : Int32)), (.int (110 : Int32))] (.int (0 : Int32)) := (pV_a411.keep K439 (ninS pN_a411_a418 nin0))
  obtain ⟨_, T634, _, X634, hQ634, st634⟩ := own_cv X559 hx hZ hown (wd hw 59 rfl) (wd hw 60 rfl) (wd hw 62 rfl) (wd hw 61 rfl) (wd hw 63 rfl) (wd hw 3 rfl) (by decide) (rm13 l Z a0 hw [] a412 a411 a418 k426 p413 (3 : Int32) ((p407 <<< ((1 : Int32) &&& 31)) ||| (0 : Int32)) p421 p422 p423 p424 p425 k417 (49 : Int32) (110 : Int32) h439 n0 O632 F713 F630 vx558 E631 pC431 pC432 V714) hh633 E631 (g := (mkF m 175 #[iv p408, iv p409, iv p410, rv a411, rv a412, iv (0 : Int32), iv p413, iv (0 : Int32), iv (0 : Int32), iv p407, iv (0 : Int32)] [(.int (0 : Int32)), (.ref a412)])) rfl (by rw [hml]; rfl) (rest := []) (W := 0) (lenOf pd_3 rfl) rfl (by show 2 * 0 + _ ≤ _; exact Nat.le_of_eq rfl) (hb hby at_175) (by decide) (by decide) (by decide) (by decide)
  obtain ⟨rfl, Nq634, hh715⟩ := hQ634
  have N634 := Fr.app N559 Nq634
  refine own_via (fun t k => st634 t (XS.iload X634.here hx rfl (hb hby at_178) rfl (XS.iconst X634.here hx rfl (hb hby at_180) (XS.iadd X634.here hx rfl (hb hby at_181) rfl (XS.iload X634.here hx rfl (hb hby at_182) rfl (XS.iadd X634.here hx rfl (hb hby at_184) rfl (XS.icmpNo X634.here hx rfl (hb hby at_185) rfl (teq (by decide : (3 : Int32) = (3 : Int32))).2 (XS.aload X634.here hx rfl (hb hby at_188) rfl rfl (XS.iload X634.here hx rfl (hb hby at_190) rfl k))))))))) ?_
  show own_Goes p e below (T634.setTop (mkF m 192 #[iv p408, iv p409, iv p410, rv a411, rv a412, iv (0 : Int32), iv p413, iv (0 : Int32), iv (0 : Int32), iv p407, iv (0 : Int32)] [(.int (0 : Int32)), (.ref a412)])) _
  obtain ⟨_, T716, _, X716, hQ716, st716⟩ := own_cv X634 hx hZ hown (wd hw 64 rfl) (wd hw 65 rfl) (wd hw 67 rfl) (wd hw 66 rfl) (wd hw 68 rfl) (wd hw 3 rfl) (by decide) (rm15 l Z a0 hw [] a412 a418 k426 p413 (3 : Int32) ((p407 <<< ((1 : Int32) &&& 31)) ||| (0 : Int32)) p421 p422 p423 p424 p425 h439 n0 O632 F630 vx558 E631) hh715 E631 (g := (mkF m 192 #[iv p408, iv p409, iv p410, rv a411, rv a412, iv (0 : Int32), iv p413, iv (0 : Int32), iv (0 : Int32), iv p407, iv (0 : Int32)] [(.int (0 : Int32)), (.ref a412)])) rfl (by rw [hml]; rfl) (rest := []) (W := 0) (lenOf pd_3 rfl) rfl (by show 2 * 0 + _ ≤ _; exact Nat.le_of_eq rfl) (hb hby at_192) (by decide) (by decide) (by decide) (by decide)
  obtain ⟨rfl, Nq716, hh787⟩ := hQ716
  have N716 := Fr.app N634 Nq716
  refine own_via (fun t k => st716 t (XS.iload X716.here hx rfl (hb hby at_195) rfl (XS.icmpNo X716.here hx rfl (hb hby at_197) rfl (teq (own_cnt p407 0 pC435 (by decide))).2 (XS.aload X716.here hx rfl (hb hby at_200) rfl rfl (XS.iload X716.here hx rfl (hb hby at_202) rfl k))))) ?_
  show own_Goes p e below (T716.setTop (mkF m 204 #[iv p408, iv p409, iv p410, rv a411, rv a412, iv (0 : Int32), iv p413, iv (0 : Int32), iv (0 : Int32), iv p407, iv (0 : Int32)] [(.int (0 : Int32)), (.ref a412)])) _
  obtain ⟨_, T788, _, X788, hQ788, st788⟩ := own_cv X716 hx hZ hown (wd hw 69 rfl) (wd hw 70 rfl) (wd hw 72 rfl) (wd hw 71 rfl) (wd hw 73 rfl) (wd hw 3 rfl) (by decide) (rm16 l Z a0 hw [] a412 a418 k426 p413 (3 : Int32) ((p407 <<< ((1 : Int32) &&& 31)) ||| (0 : Int32)) p421 p422 p423 p424 p425 h439 n0 O632 F630 vx558 E631 (own_rep0 p407)) hh787 E631 (g := (mkF m 204 #[iv p408, iv p409, iv p410, rv a411, rv a412, iv (0 : Int32), iv p413, iv (0 : Int32), iv (0 : Int32), iv p407, iv (0 : Int32)] [(.int (0 : Int32)), (.ref a412)])) rfl (by rw [hml]; rfl) (rest := []) (W := 0) (lenOf pd_6 rfl) rfl (by show 2 * 0 + _ ≤ _; exact Nat.le_of_eq rfl) (hb hby at_204) (by decide) (by decide) (by decide) (by decide)
  obtain ⟨rfl, Nq788, hh825⟩ := hQ788
  have N788 := Fr.app N716 Nq788
  refine own_via (fun t k => st788 t (XS.iload X788.here hx rfl (hb hby at_207) rfl (XS.icmpNo X788.here hx rfl (hb hby at_209) rfl (teq (by decide : (0 : Int32) = (0 : Int32))).2 (XS.iconst X788.here hx rfl (hb hby at_212) (XS.goto X788.here hx rfl (pc0 := 213) (pc' := 217) rfl (hb hby at_213) (by decide) (by decide) k))))) ?_
  show own_Goes p e below (T788.setTop (mkF m 217 #[iv p408, iv p409, iv p410, rv a411, rv a412, iv (0 : Int32), iv p413, iv (0 : Int32), iv (0 : Int32), iv p407, iv (0 : Int32)] [(.int (1 : Int32))])) _
  obtain ⟨fs, hr, hrun, hended, hW, hsame⟩ := X788.leave (v := some (.int (1 : Int32))) (fun h => by rw [Bd.returns] at h; cases h)
  refine own_end (t := T788.setFrames fs) ?_ ⟨_, hrun, hended, _, _, rfl, ?_, ⟨_, rfl⟩, hW, hsame.mono (by decide) (by decide)⟩
  · exact retN X788 hx (t := .boolean) Bd.returns (by simp) (hb hby at_217) hr
  · exact ⟨rfl, N788⟩
theorem d6_22 : decode prog_17_method_6_code 22 = .ok (.iconst 1, 1) := by decide +kernel
theorem d6_23 : decode prog_17_method_6_code 23 = .ok (.goto 4, 3) := by decide +kernel
def Q17 (Z : State) (a859 : Addr) (p860 : Int32) (p877 : Int32) (a867 : Addr) (k876 : ClassId) (p868 : Int32) (p869 : Int32) (p870 : Int32) (p871 : Int32) (p872 : Int32) (p873 : Int32) (p874 : Int32) (p875 : Int32) (h0 : Heap) (n0 : Nat) (v : Option Value) (h : Heap) (L : List Loc) : Prop := v = none ∧ Fr n0 L ∧ Keep h0 h [a867] ∧ Exa Z h a867 "[I" ∧ Arv Z h a867 k876 .int (16 : Int32) [(.int p868), (.int p877), (.int ((p860 <<< ((1 : Int32) &&& 31)) ||| (1 : Int32))), (.int p871), (.int p872), (.int p873), (.int p874), (.int p875)] (.int (0 : Int32))
set_option maxRecDepth 65536 in
set_option maxHeartbeats 40000000 in
theorem rm17 (l : Launch) (Z : State) (a0 : Array Value) (hw : ∀ d ∈ tables_1, d.before a0 Z = true) (ws : List Jvm.Cond) (a859 : Addr) (p860 : Int32) (p877 : Int32) (a867 : Addr) (k876 : ClassId) (p868 : Int32) (p869 : Int32) (p870 : Int32) (p871 : Int32) (p872 : Int32) (p873 : Int32) (p874 : Int32) (p875 : Int32) (h0 : Heap) (n0 : Nat) (O0 : Old Z n0 h0) (pF_a859_length : Fld Z h0 a859 zs1 "length" "I" (.int p877)) (pF_a859_first : Fld Z h0 a859 zs1 "first" "[I" (.ref a867)) (pV_a867 : Arv Z h0 a867 k876 .int (16 : Int32) [(.int p868), (.int p869), (.int p870), (.int p871), (.int p872), (.int p873), (.int p874), (.int p875)] (.int (0 : Int32))) (pG_a867 : n0 ≤ a867) (pE_a867 : Exa Z h0 a867 "[I") (pE_a859 : Exa Z h0 a859 zs1) (pN_a859_a867 : a859 ≠ a867) :
    MetFree l (⟨zs1, "close", "(IIZ)V"⟩ : MethodName) (head1 (Jvm.Cond.code (⟨zs1, "close", "(IIZ)V"⟩ : MethodName) prog_17_method_6_code 4 none :: ws) ({ frames := 1, cells := 0, slots := 0, locals := 14 } : Room)) (fun a U => a = #[(.ref a859), (.int (0 : Int32)), (.int p860), (.int (1 : Int32))] ∧ Z.Warmed39 U.vm ∧ U.heap = h0) (fun _ _ _ _ _ => True) (fun _ U o U' => ∃ v L, o = .returned v ∧ Q17 Z a859 p860 p877 a867 k876 p868 p869 p870 p871 p872 p873 p874 p875 h0 n0 v U'.heap L ∧ FrameEnd U o U' L ({ frames := 1, cells := 0, slots := 0, locals := 14 } : Room).cells ({ frames := 1, cells := 0, slots := 0, locals := 14 } : Room).slots) := by
  refine MetFree.of_bodySF (plainFor_of_name pn_1) hisR ?_
  intro p e s m args below meth c s₁ Bd hml0 hP hK
  obtain ⟨rfl, hZ, hh⟩ := hP
  have hx := Bd.exec
  have hby := Bd.bytes
  have hml : c.maxLocals = 4 := hml0
  have hown : s.vm.findClass zs1 = some m.cls := findClass_of_methodNamed Bd.named
  have hnm := (name_of_methodNamed Bd.named Bd.method).1
  have X0 : Stand p l e ({ frames := 1, cells := 0, slots := 0, locals := 14 } : Room) s m #[(.ref a859), (.int (0 : Int32)), (.int p860), (.int (1 : Int32))] below meth c s₁ [] 0 0 := Stand.of_body Bd
  have e0 : s₁.heap = h0 := by rw [← hh, Bd.state]; rfl
  have N0 := Fr.nil n0
  refine own_out ?_
  refine own_via (fun t k => castTop (ef_6 m a859 (0 : Int32) p860 (1 : Int32)) (XS.aloadN X0.here hx rfl (hb hby d6_0) rfl rfl (XS.iloadN X0.here hx rfl (hb hby d6_1) rfl (XS.iconst X0.here hx rfl (hb hby d6_2) (XS.iadd X0.here hx rfl (hb hby d6_3) rfl (XS.aloadN X0.here hx rfl (hb hby d6_4) rfl rfl k)))))) ?_
  show own_Goes p e below (s₁.setTop (mkF m 5 #[rv a859, iv (0 : Int32), iv p860, iv (1 : Int32)] [(.ref a859), (.int (1 : Int32)), (.ref a859)])) _
  obtain ⟨T892, X892, e892, st892⟩ := getF X0 hx hZ hown (host := "") (Or.inl (wd hw 38 rfl)) Via.refl e0 pF_a859_length (g := (mkF m 5 #[rv a859, iv (0 : Int32), iv p860, iv (1 : Int32)] [(.ref a859), (.int (1 : Int32)), (.ref a859)])) rfl rfl (hb hby d6_5)
  refine own_via (fun t k => st892 t k) ?_
  obtain ⟨cq893, q893, q893'⟩ := pE_a859.cell
  obtain ⟨_, _, ⟨T893, L893, c893, n893⟩, -, X893, ⟨Lc893, hQ893, l893, y893, z893⟩, st893⟩ := X892.privateBack hx (y := (⟨zs1, "set", "(II)V"⟩ : MethodName)) hown (mvT hZ (wd hw 46 rfl)) (mvT hZ (wd hw 47 rfl)) (own_selPriv (mvT hZ (wd hw 2 rfl)) (mvT hZ (wd hw 47 rfl)) (Cond.privateMethod_at (mvP hZ (wd hw 48 rfl) (args := #[]))) (by decide)) (Cond.privateMethod_at (mvP hZ (wd hw 48 rfl) (args := #[]))) (mvT hZ (wd hw 49 rfl)) (by decide) (backOf (W := 0) (rm7 l Z a0 hw [] a859 p877 a867 k876 p868 p869 p870 p871 p872 p873 p874 p875 h0 n0 O0 pF_a859_first pV_a867 pG_a867 pE_a867) hZ (wd hw 49 rfl) (wd hw 3 rfl) (by decide) (by decide)) (g := (mkF m 8 #[rv a859, iv (0 : Int32), iv p860, iv (1 : Int32)] [(.int p877), (.int (1 : Int32)), (.ref a859)])) rfl (by rw [hml]; rfl) (Steps.refl _) (a := a859) (by rw [e892]; exact q893) q893' (argsL := [(.int (1 : Int32)), (.int p877)]) (rest := []) (lenOf pd_4 rfl) rfl (by show 2 * 0 + _ ≤ _; exact Nat.le_of_eq rfl) (hb hby d6_8) (fun _ _ => ⟨rfl, e892, (by decide : 0 + 0 ≤ _), (by decide : 0 + 0 ≤ _)⟩)
  dsimp only [Pt.U, Pt.locs, Pt.cells, Pt.slots] at X893 l893 y893 z893 st893 hQ893
  subst l893 y893 z893
  obtain ⟨h893, e893⟩ : ∃ z, T893.heap = z := ⟨_, rfl⟩
  rw [e893] at hQ893
  obtain ⟨rfl, Nq893, K893, ex894, vx895⟩ := hQ893
  have N893 := Fr.app N0 Nq893
  refine own_via (fun t k => st893.trans (XS.aloadN X893.here hx rfl (hb hby d6_11) rfl rfl (XS.iloadN X893.here hx rfl (hb hby d6_12) rfl (XS.iconst X893.here hx rfl (hb hby d6_13) (XS.iadd X893.here hx rfl (hb hby d6_14) rfl (XS.iloadN X893.here hx rfl (hb hby d6_15) rfl (XS.iconst X893.here hx rfl (hb hby d6_16) (XS.ishl X893.here hx rfl (hb hby d6_17) rfl (XS.iloadN X893.here hx rfl (hb hby d6_18) rfl (XS.ifNo X893.here hx rfl (hb hby d6_19) rfl ((if0 _ _).trans (feq (by decide : ¬ ((1 : Int32) = (0 : Int32)))).1) (XS.iconst X893.here hx rfl (hb hby d6_22) (XS.goto X893.here hx rfl (pc0 := 23) (pc' := 27) rfl (hb hby d6_23) (by decide) (by decide) k)))))))))))) ?_
  show own_Goes p e below (T893.setTop (mkF m 27 #[rv a859, iv (0 : Int32), iv p860, iv (1 : Int32)] [(.int (1 : Int32)), (.int (p860 <<< ((1 : Int32) &&& 31))), (.int (2 : Int32)), (.ref a859)])) _
  refine own_via (fun t k => XS.ior X893.here hx rfl (hb hby d6_27) rfl k) ?_
  have F897 : Fld Z h893 a859 zs1 "first" "[I" (.ref a867) := (pF_a859_first.keep K893 (ninS pN_a859_a867 nin0))
  have O898 : Old Z n0 h893 := (O0.keep K893 (allS pG_a867 all0))
  have E899 : Exa Z h893 a859 zs1 := (pE_a859.keep K893)
  obtain ⟨cq896, q896, q896'⟩ := E899.cell
  obtain ⟨_, _, ⟨T896, L896, c896, n896⟩, -, X896, ⟨Lc896, hQ896, l896, y896, z896⟩, st896⟩ := X893.privateBack hx (y := (⟨zs1, "set", "(II)V"⟩ : MethodName)) hown (mvT hZ (wd hw 46 rfl)) (mvT hZ (wd hw 47 rfl)) (own_selPriv (mvT hZ (wd hw 2 rfl)) (mvT hZ (wd hw 47 rfl)) (Cond.privateMethod_at (mvP hZ (wd hw 48 rfl) (args := #[]))) (by decide)) (Cond.privateMethod_at (mvP hZ (wd hw 48 rfl) (args := #[]))) (mvT hZ (wd hw 49 rfl)) (by decide) (backOf (W := 0) (rm8 l Z a0 hw [] a859 ((p860 <<< ((1 : Int32) &&& 31)) ||| (1 : Int32)) a867 k876 p868 p877 p870 p871 p872 p873 p874 p875 h893 n0 O898 F897 vx895 pG_a867 ex894) hZ (wd hw 49 rfl) (wd hw 3 rfl) (by decide) (by decide)) (g := (mkF m 28 #[rv a859, iv (0 : Int32), iv p860, iv (1 : Int32)] [(.int ((p860 <<< ((1 : Int32) &&& 31)) ||| (1 : Int32))), (.int (2 : Int32)), (.ref a859)])) rfl (by rw [hml]; rfl) (Steps.refl _) (a := a859) (by rw [e893]; exact q896) q896' (argsL := [(.int (2 : Int32)), (.int ((p860 <<< ((1 : Int32) &&& 31)) ||| (1 : Int32)))]) (rest := []) (lenOf pd_4 rfl) rfl (by show 2 * 0 + _ ≤ _; exact Nat.le_of_eq rfl) (hb hby d6_28) (fun _ _ => ⟨rfl, e893, (by decide : 0 + 0 ≤ _), (by decide : 0 + 0 ≤ _)⟩)
  dsimp only [Pt.U, Pt.locs, Pt.cells, Pt.slots] at X896 l896 y896 z896 st896 hQ896
  subst l896 y896 z896
  obtain ⟨h896, e896⟩ : ∃ z, T896.heap = z := ⟨_, rfl⟩
  rw [e896] at hQ896
  obtain ⟨rfl, Nq896, K896, ex900, vx901⟩ := hQ896
  have N896 := Fr.app N893 Nq896
  refine own_via (fun t k => st896.trans k) ?_
  obtain ⟨fs, hr, hrun, hended, hW, hsame⟩ := X896.leave (v := none) (fun _ => rfl)
  refine own_end (t := T896.setFrames fs) ?_ ⟨_, hrun, hended, _, _, rfl, ?_, ⟨_, rfl⟩, hW, hsame.mono (by decide) (by decide)⟩
  · exact X896.returnOut hx Bd.returns (hb hby d6_31) hr
  · show Q17 Z a859 p860 p877 a867 k876 p868 p869 p870 p871 p872 p873 p874 p875 h0 n0 _ T896.heap _
    rw [e896]
    exact ⟨rfl, N896, (((Keep.refl h0 [a867]).trans K893 (allS (Or.inl (List.mem_of_getElem? (i := 0) rfl)) all0)).trans K896 (allS (Or.inl (List.mem_of_getElem? (i := 0) rfl)) all0)), ex900, vx901⟩
theorem d12_12 : decode prog_17_method_16_code 12 = .ok (.iconst 1, 1) := by decide +kernel
theorem d12_13 : decode prog_17_method_16_code 13 = .ok (.goto 4, 3) := by decide +kernel
def Q18 (Z : State) (a916 : Addr) (a923 : Addr) (k933 : ClassId) (p925 : Int32) (p926 : Int32) (p927 : Int32) (p928 : Int32) (p929 : Int32) (p930 : Int32) (p931 : Int32) (p932 : Int32) (h0 : Heap) (n0 : Nat) (v : Option Value) (h : Heap) (L : List Loc) : Prop := v = some (.int (1 : Int32)) ∧ Fr n0 L ∧ h = h0
set_option maxRecDepth 65536 in
set_option maxHeartbeats 40000000 in
theorem rm18 (l : Launch) (Z : State) (a0 : Array Value) (hw : ∀ d ∈ tables_1, d.before a0 Z = true) (ws : List Jvm.Cond) (a916 : Addr) (a923 : Addr) (k933 : ClassId) (p925 : Int32) (p926 : Int32) (p927 : Int32) (p928 : Int32) (p929 : Int32) (p930 : Int32) (p931 : Int32) (p932 : Int32) (h0 : Heap) (n0 : Nat) (O0 : Old Z n0 h0) (pF_a916_first : Fld Z h0 a916 zs1 "first" "[I" (.ref a923)) (pV_a923 : Arv Z h0 a923 k933 .int (16 : Int32) [(.int p925), (.int p926), (.int p927), (.int p928), (.int p929), (.int p930), (.int p931), (.int p932)] (.int (0 : Int32))) (pE_a916 : Exa Z h0 a916 zs1) (pC949 : ¬ ((p927 &&& (1 : Int32)) = (0 : Int32))) :
    MetFree l (⟨zs1, "repeats", "(I)Z"⟩ : MethodName) (head1 (Jvm.Cond.code (⟨zs1, "repeats", "(I)Z"⟩ : MethodName) prog_17_method_16_code 2 (some .boolean) :: ws) ({ frames := 1, cells := 0, slots := 0, locals := 13 } : Room)) (fun a U => a = #[(.ref a916), (.int (0 : Int32))] ∧ Z.Warmed39 U.vm ∧ U.heap = h0) (fun _ _ _ _ _ => True) (fun _ U o U' => ∃ v L, o = .returned v ∧ Q18 Z a916 a923 k933 p925 p926 p927 p928 p929 p930 p931 p932 h0 n0 v U'.heap L ∧ FrameEnd U o U' L ({ frames := 1, cells := 0, slots := 0, locals := 13 } : Room).cells ({ frames := 1, cells := 0, slots := 0, locals := 13 } : Room).slots) := by
  refine MetFree.of_bodySF (plainFor_of_name pn_1) hisR ?_
  intro p e s m args below meth c s₁ Bd hml0 hP hK
  obtain ⟨rfl, hZ, hh⟩ := hP
  have hx := Bd.exec
  have hby := Bd.bytes
  have hml : c.maxLocals = 2 := hml0
  have hown : s.vm.findClass zs1 = some m.cls := findClass_of_methodNamed Bd.named
  have hnm := (name_of_methodNamed Bd.named Bd.method).1
  have X0 : Stand p l e ({ frames := 1, cells := 0, slots := 0, locals := 13 } : Room) s m #[(.ref a916), (.int (0 : Int32))] below meth c s₁ [] 0 0 := Stand.of_body Bd
  have e0 : s₁.heap = h0 := by rw [← hh, Bd.state]; rfl
  have N0 := Fr.nil n0
  refine own_out ?_
  refine own_via (fun t k => castTop (ef_11 m a916 (0 : Int32)) (XS.aloadN X0.here hx rfl (hb hby d12_0) rfl rfl (XS.iloadN X0.here hx rfl (hb hby d12_1) rfl (XS.iconst X0.here hx rfl (hb hby d12_2) (XS.iadd X0.here hx rfl (hb hby d12_3) rfl k))))) ?_
  show own_Goes p e below (s₁.setTop (mkF m 4 #[rv a916, iv (0 : Int32)] [(.int (2 : Int32)), (.ref a916)])) _
  obtain ⟨cq950, q950, q950'⟩ := pE_a916.cell
  obtain ⟨_, _, ⟨T950, L950, c950, n950⟩, -, X950, ⟨Lc950, hQ950, l950, y950, z950⟩, st950⟩ := X0.privateBack hx (y := (⟨zs1, "get", "(I)I"⟩ : MethodName)) hown (mvT hZ (wd hw 55 rfl)) (mvT hZ (wd hw 56 rfl)) (own_selPriv (mvT hZ (wd hw 2 rfl)) (mvT hZ (wd hw 56 rfl)) (Cond.privateMethod_at (mvP hZ (wd hw 57 rfl) (args := #[]))) (by decide)) (Cond.privateMethod_at (mvP hZ (wd hw 57 rfl) (args := #[]))) (mvT hZ (wd hw 58 rfl)) (by decide) (backOf (W := 0) (rm14 l Z a0 hw [] a916 a923 k933 p925 p926 p927 p928 p929 p930 p931 p932 h0 n0 O0 pF_a916_first pV_a923) hZ (wd hw 58 rfl) (wd hw 3 rfl) (by decide) (by decide)) (g := (mkF m 4 #[rv a916, iv (0 : Int32)] [(.int (2 : Int32)), (.ref a916)])) rfl (by rw [hml]; rfl) (Steps.refl _) (a := a916) (by rw [e0]; exact q950) q950' (argsL := [(.int (2 : Int32))]) (rest := []) (lenOf pd_3 rfl) rfl (by show 2 * 0 + _ ≤ _; exact Nat.le_of_eq rfl) (hb hby d12_4) (fun _ _ => ⟨rfl, e0, (by decide : 0 + 0 ≤ _), (by decide : 0 + 0 ≤ _)⟩)
  dsimp only [Pt.U, Pt.locs, Pt.cells, Pt.slots] at X950 l950 y950 z950 st950 hQ950
  subst l950 y950 z950
  obtain ⟨rfl, Nq950, hh951⟩ := hQ950
  have N950 := Fr.app N0 Nq950
  refine own_via (fun t k => st950.trans (XS.iconst X950.here hx rfl (hb hby d12_7) (XS.iand X950.here hx rfl (hb hby d12_8) rfl (XS.ifNo X950.here hx rfl (hb hby d12_9) rfl ((if0 _ _).trans (feq pC949).1) (XS.iconst X950.here hx rfl (hb hby d12_12) (XS.goto X950.here hx rfl (pc0 := 13) (pc' := 17) rfl (hb hby d12_13) (by decide) (by decide) k)))))) ?_
  show own_Goes p e below (T950.setTop (mkF m 17 #[rv a916, iv (0 : Int32)] [(.int (1 : Int32))])) _
  obtain ⟨fs, hr, hrun, hended, hW, hsame⟩ := X950.leave (v := some (.int (1 : Int32))) (fun h => by rw [Bd.returns] at h; cases h)
  refine own_end (t := T950.setFrames fs) ?_ ⟨_, hrun, hended, _, _, rfl, ?_, ⟨_, rfl⟩, hW, hsame.mono (by decide) (by decide)⟩
  · exact retN X950 hx (t := .boolean) Bd.returns (by simp) (hb hby d12_17) hr
  · show Q18 Z a916 a923 k933 p925 p926 p927 p928 p929 p930 p931 p932 h0 n0 _ T950.heap _
    rw [hh951]
    exact ⟨rfl, N950, rfl⟩
set_option maxRecDepth 65536 in
set_option maxHeartbeats 40000000 in
theorem sfx2 (l : Launch) (Z : State) (a0 : Array Value) (hw : ∀ d ∈ tables_1, d.before a0 Z = true) (ws : List Jvm.Cond) {p : Program} {e : Env} {s : State} {m : MethodId} {below : List Frame} {meth : Method} {c : Code} {s₁ : State} (p833 : Int32) (p834 : Int32) (p835 : Int32) (p827 : Int32) (p828 : Int32) (p829 : Int32) (a830 : Addr) (a831 : Addr) (p832 : Int32) (p826 : Int32) (a837 : Addr) (k845 : ClassId) (p838 : Int32) (p839 : Int32) (p840 : Int32) (p841 : Int32) (p842 : Int32) (p843 : Int32) (p844 : Int32) (k836 : ClassId) (Bd : BodyLoose p l x (head1 (Jvm.Cond.code x code maxLocals ret :: ws) room_1) code maxLocals ret e s m #[(.int p833), (.int p834), (.int p835)] below meth c s₁) (hZ : Z.Warmed39 s.vm) (hml : c.maxLocals = 11) {T0 : State} {locs0 : List Loc} (X0 : Stand p l e room_1 s m #[(.int p833), (.int p834), (.int p835)] below meth c T0 locs0 8 120) (h0 : Heap) (e0 : T0.heap = h0) (n0 : Nat) (O0 : Old Z n0 h0) (N0 : Fr n0 locs0) (pF_a831_length : Fld Z h0 a831 zs1 "length" "I" (.int (3 : Int32))) (pF_a831_first : Fld Z h0 a831 zs1 "first" "[I" (.ref a837)) (pV_a837 : Arv Z h0 a837 k845 .int (16 : Int32) [(.int p832), (.int p838), (.int p839), (.int p840), (.int p841), (.int p842), (.int p843), (.int p844)] (.int (0 : Int32))) (pG_a837 : n0 ≤ a837) (pE_a837 : Exa Z h0 a837 "[I") (pE_a831 : Exa Z h0 a831 zs1) (pN_a831_a837 : a831 ≠ a837) (pF_a831_text : Fld Z h0 a831 zs1 "text" "[B" (.ref a830)) (pC850 : ¬ (p832 < (0 : Int32))) (pC851 : p832 < (2 : Int32)) (pV_a830 : Arv Z h0 a830 k836 .byte (4 : Int32) [(.int (123 : Int32)), (.int (91 : Int32)), (.int (49 : Int32)), (.int (110 : Int32))] (.int (0 : Int32))) (pN_a830_a837 : a830 ≠ a837) (pC854 : ¬ (p826 < (0 : Int32))) :
    own_Goes p e below (T0.setTop (mkF m 141 #[iv p827, iv p828, iv p829, rv a830, rv a831, iv (0 : Int32), iv p832, iv (0 : Int32), iv (0 : Int32), iv p826, iv (1 : Int32)] [])) (own_G s below n0) := by
  have hx := Bd.exec
  have hby := Bd.bytes
  have hown : s.vm.findClass zs2 = some m.cls := findClass_of_methodNamed Bd.named
  have hnm := (name_of_methodNamed Bd.named Bd.method).1
  show own_Goes p e below (T0.setTop (mkF m 141 #[iv p827, iv p828, iv p829, rv a830, rv a831, iv (0 : Int32), iv p832, iv (0 : Int32), iv (0 : Int32), iv p826, iv (1 : Int32)] [])) _
  refine own_via (fun t k => XS.aload X0.here hx rfl (hb hby at_141) rfl rfl (XS.iload X0.here hx rfl (hb hby at_143) rfl (XS.iload X0.here hx rfl (hb hby at_145) rfl (XS.iload X0.here hx rfl (hb hby at_147) rfl k)))) ?_
  show own_Goes p e below (T0.setTop (mkF m 149 #[iv p827, iv p828, iv p829, rv a830, rv a831, iv (0 : Int32), iv p832, iv (0 : Int32), iv (0 : Int32), iv p826, iv (1 : Int32)] [(.int (1 : Int32)), (.int p826), (.int (0 : Int32)), (.ref a831)])) _
  obtain ⟨_, T858, _, X858, hQ858, st858⟩ := own_cv X0 hx hZ hown (wd hw 41 rfl) (wd hw 42 rfl) (wd hw 44 rfl) (wd hw 43 rfl) (wd hw 45 rfl) (wd hw 3 rfl) (by decide) (rm17 l Z a0 hw [] a831 p826 (3 : Int32) a837 k845 p832 p838 p839 p840 p841 p842 p843 p844 h0 n0 O0 pF_a831_length pF_a831_first pV_a837 pG_a837 pE_a837 pE_a831 pN_a831_a837) e0 pE_a831 (g := (mkF m 149 #[iv p827, iv p828, iv p829, rv a830, rv a831, iv (0 : Int32), iv p832, iv (0 : Int32), iv (0 : Int32), iv p826, iv (1 : Int32)] [(.int (1 : Int32)), (.int p826), (.int (0 : Int32)), (.ref a831)])) rfl (by rw [hml]; rfl) (rest := []) (W := 0) (lenOf pd_5 rfl) rfl (by show 2 * 0 + _ ≤ _; exact Nat.le_of_eq rfl) (hb hby at_149) (by decide) (by decide) (by decide) (by decide)
  obtain ⟨h858, e858⟩ : ∃ z, T858.heap = z := ⟨_, rfl⟩
  rw [e858] at hQ858
  obtain ⟨rfl, Nq858, K858, ex902, vx903⟩ := hQ858
  have N858 := Fr.app N0 Nq858
  refine own_via (fun t k => st858 t (XS.iload X858.here hx rfl (hb hby at_152) rfl (XS.iload X858.here hx rfl (hb hby at_154) rfl (XS.icmpNo X858.here hx rfl (hb hby at_156) rfl (teq (by decide : (0 : Int32) = (0 : Int32))).2 (XS.aload X858.here hx rfl (hb hby at_159) rfl rfl (XS.iload X858.here hx rfl (hb hby at_161) rfl k)))))) ?_
  show own_Goes p e below (T858.setTop (mkF m 163 #[iv p827, iv p828, iv p829, rv a830, rv a831, iv (0 : Int32), iv p832, iv (0 : Int32), iv (0 : Int32), iv p826, iv (1 : Int32)] [(.int (0 : Int32)), (.ref a831)])) _
  have F905 : Fld Z h858 a831 zs1 "first" "[I" (.ref a837) := (pF_a831_first.keep K858 (ninS pN_a831_a837 nin0))
  have E906 : Exa Z h858 a831 zs1 := (pE_a831.keep K858)
  have O907 : Old Z n0 h858 := (O0.keep K858 (allS pG_a837 all0))
  obtain ⟨_, T904, _, X904, hQ904, st904⟩ := own_cv X858 hx hZ hown (wd hw 50 rfl) (wd hw 51 rfl) (wd hw 53 rfl) (wd hw 52 rfl) (wd hw 54 rfl) (wd hw 3 rfl) (by decide) (rm11 l Z a0 hw [] a831 a837 k845 p832 (3 : Int32) ((p826 <<< ((1 : Int32) &&& 31)) ||| (1 : Int32)) p840 p841 p842 p843 p844 h858 n0 O907 F905 vx903 E906) e858 E906 (g := (mkF m 163 #[iv p827, iv p828, iv p829, rv a830, rv a831, iv (0 : Int32), iv p832, iv (0 : Int32), iv (0 : Int32), iv p826, iv (1 : Int32)] [(.int (0 : Int32)), (.ref a831)])) rfl (by rw [hml]; rfl) (rest := []) (W := 0) (lenOf pd_3 rfl) rfl (by show 2 * 0 + _ ≤ _; exact Nat.le_of_eq rfl) (hb hby at_163) (by decide) (by decide) (by decide) (by decide)
  obtain ⟨rfl, Nq904, hh908⟩ := hQ904
  have N904 := Fr.app N858 Nq904
  refine own_via (fun t k => st904 t (XS.iload X904.here hx rfl (hb hby at_166) rfl (XS.icmpNo X904.here hx rfl (hb hby at_168) rfl (teq (rfl : p832 = p832)).2 (XS.aload X904.here hx rfl (hb hby at_171) rfl rfl (XS.iload X904.here hx rfl (hb hby at_173) rfl k))))) ?_
  show own_Goes p e below (T904.setTop (mkF m 175 #[iv p827, iv p828, iv p829, rv a830, rv a831, iv (0 : Int32), iv p832, iv (0 : Int32), iv (0 : Int32), iv p826, iv (1 : Int32)] [(.int (0 : Int32)), (.ref a831)])) _
  have F910 : Fld Z h858 a831 zs1 "text" "[B" (.ref a830) := (pF_a831_text.keep K858 (ninS pN_a831_a837 nin0))
  have V911 : Arv Z h858 a830 k836 .byte (4 : Int32) [(.int (123 : Int32)), (.int (91 : Int32)), (.int (49 : Int32)), (.int (110 : Int32))] (.int (0 : Int32)) := (pV_a830.keep K858 (ninS pN_a830_a837 nin0))
  obtain ⟨_, T909, _, X909, hQ909, st909⟩ := own_cv X904 hx hZ hown (wd hw 59 rfl) (wd hw 60 rfl) (wd hw 62 rfl) (wd hw 61 rfl) (wd hw 63 rfl) (wd hw 3 rfl) (by decide) (rm13 l Z a0 hw [] a831 a830 a837 k845 p832 (3 : Int32) ((p826 <<< ((1 : Int32) &&& 31)) ||| (1 : Int32)) p840 p841 p842 p843 p844 k836 (49 : Int32) (110 : Int32) h858 n0 O907 F910 F905 vx903 E906 pC850 pC851 V911) hh908 E906 (g := (mkF m 175 #[iv p827, iv p828, iv p829, rv a830, rv a831, iv (0 : Int32), iv p832, iv (0 : Int32), iv (0 : Int32), iv p826, iv (1 : Int32)] [(.int (0 : Int32)), (.ref a831)])) rfl (by rw [hml]; rfl) (rest := []) (W := 0) (lenOf pd_3 rfl) rfl (by show 2 * 0 + _ ≤ _; exact Nat.le_of_eq rfl) (hb hby at_175) (by decide) (by decide) (by decide) (by decide)
  obtain ⟨rfl, Nq909, hh912⟩ := hQ909
  have N909 := Fr.app N904 Nq909
  refine own_via (fun t k => st909 t (XS.iload X909.here hx rfl (hb hby at_178) rfl (XS.iconst X909.here hx rfl (hb hby at_180) (XS.iadd X909.here hx rfl (hb hby at_181) rfl (XS.iload X909.here hx rfl (hb hby at_182) rfl (XS.iadd X909.here hx rfl (hb hby at_184) rfl (XS.icmpNo X909.here hx rfl (hb hby at_185) rfl (teq (by decide : (3 : Int32) = (3 : Int32))).2 (XS.aload X909.here hx rfl (hb hby at_188) rfl rfl (XS.iload X909.here hx rfl (hb hby at_190) rfl k))))))))) ?_
  show own_Goes p e below (T909.setTop (mkF m 192 #[iv p827, iv p828, iv p829, rv a830, rv a831, iv (0 : Int32), iv p832, iv (0 : Int32), iv (0 : Int32), iv p826, iv (1 : Int32)] [(.int (0 : Int32)), (.ref a831)])) _
  obtain ⟨_, T913, _, X913, hQ913, st913⟩ := own_cv X909 hx hZ hown (wd hw 64 rfl) (wd hw 65 rfl) (wd hw 67 rfl) (wd hw 66 rfl) (wd hw 68 rfl) (wd hw 3 rfl) (by decide) (rm15 l Z a0 hw [] a831 a837 k845 p832 (3 : Int32) ((p826 <<< ((1 : Int32) &&& 31)) ||| (1 : Int32)) p840 p841 p842 p843 p844 h858 n0 O907 F905 vx903 E906) hh912 E906 (g := (mkF m 192 #[iv p827, iv p828, iv p829, rv a830, rv a831, iv (0 : Int32), iv p832, iv (0 : Int32), iv (0 : Int32), iv p826, iv (1 : Int32)] [(.int (0 : Int32)), (.ref a831)])) rfl (by rw [hml]; rfl) (rest := []) (W := 0) (lenOf pd_3 rfl) rfl (by show 2 * 0 + _ ≤ _; exact Nat.le_of_eq rfl) (hb hby at_192) (by decide) (by decide) (by decide) (by decide)
  obtain ⟨rfl, Nq913, hh914⟩ := hQ913
  have N913 := Fr.app N909 Nq913
  refine own_via (fun t k => st913 t (XS.iload X913.here hx rfl (hb hby at_195) rfl (XS.icmpNo X913.here hx rfl (hb hby at_197) rfl (teq (own_cnt p826 1 pC854 (by decide))).2 (XS.aload X913.here hx rfl (hb hby at_200) rfl rfl (XS.iload X913.here hx rfl (hb hby at_202) rfl k))))) ?_
  show own_Goes p e below (T913.setTop (mkF m 204 #[iv p827, iv p828, iv p829, rv a830, rv a831, iv (0 : Int32), iv p832, iv (0 : Int32), iv (0 : Int32), iv p826, iv (1 : Int32)] [(.int (0 : Int32)), (.ref a831)])) _
  obtain ⟨_, T915, _, X915, hQ915, st915⟩ := own_cv X913 hx hZ hown (wd hw 69 rfl) (wd hw 70 rfl) (wd hw 72 rfl) (wd hw 71 rfl) (wd hw 73 rfl) (wd hw 3 rfl) (by decide) (rm18 l Z a0 hw [] a831 a837 k845 p832 (3 : Int32) ((p826 <<< ((1 : Int32) &&& 31)) ||| (1 : Int32)) p840 p841 p842 p843 p844 h858 n0 O907 F905 vx903 E906 (own_rep1 p826)) hh914 E906 (g := (mkF m 204 #[iv p827, iv p828, iv p829, rv a830, rv a831, iv (0 : Int32), iv p832, iv (0 : Int32), iv (0 : Int32), iv p826, iv (1 : Int32)] [(.int (0 : Int32)), (.ref a831)])) rfl (by rw [hml]; rfl) (rest := []) (W := 0) (lenOf pd_6 rfl) rfl (by show 2 * 0 + _ ≤ _; exact Nat.le_of_eq rfl) (hb hby at_204) (by decide) (by decide) (by decide) (by decide)
  obtain ⟨rfl, Nq915, hh952⟩ := hQ915
  have N915 := Fr.app N913 Nq915
  refine own_via (fun t k => st915 t (XS.iload X915.here hx rfl (hb hby at_207) rfl (XS.icmpNo X915.here hx rfl (hb hby at_209) rfl (teq (by decide : (1 : Int32) = (1 : Int32))).2 (XS.iconst X915.here hx rfl (hb hby at_212) (XS.goto X915.here hx rfl (pc0 := 213) (pc' := 217) rfl (hb hby at_213) (by decide) (by decide) k))))) ?_
  show own_Goes p e below (T915.setTop (mkF m 217 #[iv p827, iv p828, iv p829, rv a830, rv a831, iv (0 : Int32), iv p832, iv (0 : Int32), iv (0 : Int32), iv p826, iv (1 : Int32)] [(.int (1 : Int32))])) _
  obtain ⟨fs, hr, hrun, hended, hW, hsame⟩ := X915.leave (v := some (.int (1 : Int32))) (fun h => by rw [Bd.returns] at h; cases h)
  refine own_end (t := T915.setFrames fs) ?_ ⟨_, hrun, hended, _, _, rfl, ?_, ⟨_, rfl⟩, hW, hsame.mono (by decide) (by decide)⟩
  · exact retN X915 hx (t := .boolean) Bd.returns (by simp) (hb hby at_217) hr
  · exact ⟨rfl, N915⟩
set_option maxRecDepth 65536 in
set_option maxHeartbeats 40000000 in
theorem sfx3 (l : Launch) (Z : State) (a0 : Array Value) (hw : ∀ d ∈ tables_1, d.before a0 Z = true) (ws : List Jvm.Cond) {p : Program} {e : Env} {s : State} {m : MethodId} {below : List Frame} {meth : Method} {c : Code} {s₁ : State} (p385 : Int32) (p386 : Int32) (p387 : Int32) (p379 : Int32) (p380 : Int32) (p381 : Int32) (a382 : Addr) (a383 : Addr) (p384 : Int32) (a389 : Addr) (k397 : ClassId) (p390 : Int32) (p391 : Int32) (p392 : Int32) (p393 : Int32) (p394 : Int32) (p395 : Int32) (p396 : Int32) (k388 : ClassId) (Bd : BodyLoose p l x (head1 (Jvm.Cond.code x code maxLocals ret :: ws) room_1) code maxLocals ret e s m #[(.int p385), (.int p386), (.int p387)] below meth c s₁) (hZ : Z.Warmed39 s.vm) (hml : c.maxLocals = 11) {T0 : State} {locs0 : List Loc} (X0 : Stand p l e room_1 s m #[(.int p385), (.int p386), (.int p387)] below meth c T0 locs0 8 120) (h0 : Heap) (e0 : T0.heap = h0) (n0 : Nat) (O0 : Old Z n0 h0) (N0 : Fr n0 locs0) (pF_a383_length : Fld Z h0 a383 zs1 "length" "I" (.int (3 : Int32))) (pF_a383_first : Fld Z h0 a383 zs1 "first" "[I" (.ref a389)) (pV_a389 : Arv Z h0 a389 k397 .int (16 : Int32) [(.int p384), (.int p390), (.int p391), (.int p392), (.int p393), (.int p394), (.int p395), (.int p396)] (.int (0 : Int32))) (pG_a389 : n0 ≤ a389) (pE_a389 : Exa Z h0 a389 "[I") (pE_a383 : Exa Z h0 a383 zs1) (pN_a383_a389 : a383 ≠ a389) (pF_a383_text : Fld Z h0 a383 zs1 "text" "[B" (.ref a382)) (pC402 : ¬ (p384 < (0 : Int32))) (pC403 : p384 < (2 : Int32)) (pV_a382 : Arv Z h0 a382 k388 .byte (4 : Int32) [(.int (123 : Int32)), (.int (91 : Int32)), (.int (49 : Int32)), (.int (110 : Int32))] (.int (0 : Int32))) (pN_a382_a389 : a382 ≠ a389) :
    own_Goes p e below (T0.setTop (mkF m 122 #[iv p379, iv p380, iv p381, rv a382, rv a383, iv (0 : Int32), iv p384, iv (0 : Int32), iv (0 : Int32), .unset, .unset] [])) (own_G s below n0) := by
  have hx := Bd.exec
  have hby := Bd.bytes
  have hown : s.vm.findClass zs2 = some m.cls := findClass_of_methodNamed Bd.named
  have hnm := (name_of_methodNamed Bd.named Bd.method).1
  show own_Goes p e below (T0.setTop (mkF m 122 #[iv p379, iv p380, iv p381, rv a382, rv a383, iv (0 : Int32), iv p384, iv (0 : Int32), iv (0 : Int32), .unset, .unset] [])) _
  refine own_via (fun t k => XS.iloadN X0.here hx rfl (hb hby at_122) rfl (X0.ldcInt hx hown (mvT hZ (wd hw 40 rfl)) (g := (mkF m 123 #[iv p379, iv p380, iv p381, rv a382, rv a383, iv (0 : Int32), iv p384, iv (0 : Int32), iv (0 : Int32), .unset, .unset] [(.int p380)])) rfl (hb hby at_123) t (XS.iand X0.here hx rfl (hb hby at_125) rfl (XS.istore X0.here hx rfl (hb hby at_126) rfl (l' := #[iv p379, iv p380, iv p381, rv a382, rv a383, iv (0 : Int32), iv p384, iv (0 : Int32), iv (0 : Int32), iv (p380 &&& (2147483647 : Int32)), .unset]) rfl (XS.iloadN X0.here hx rfl (hb hby at_128) rfl (XS.iconst X0.here hx rfl (hb hby at_129) (XS.iand X0.here hx rfl (hb hby at_130) rfl k))))))) ?_
  show own_Goes p e below (T0.setTop (mkF m 131 #[iv p379, iv p380, iv p381, rv a382, rv a383, iv (0 : Int32), iv p384, iv (0 : Int32), iv (0 : Int32), iv (p380 &&& (2147483647 : Int32)), .unset] [(.int (p381 &&& (1 : Int32)))])) _
  by_cases hc406 : (p381 &&& (1 : Int32)) = (0 : Int32)
  · refine own_via (fun t k => XS.ifYes X0.here hx rfl (pc0 := 131) (pc' := 138) rfl (hb hby at_131) rfl ((if0 _ _).trans (teq hc406).1) (by decide) (by decide) (XS.iconst X0.here hx rfl (hb hby at_138) (XS.istore X0.here hx rfl (hb hby at_139) rfl (l' := #[iv p379, iv p380, iv p381, rv a382, rv a383, iv (0 : Int32), iv p384, iv (0 : Int32), iv (0 : Int32), iv (p380 &&& (2147483647 : Int32)), iv (0 : Int32)]) rfl k))) ?_
    show own_Goes p e below (T0.setTop (mkF m 141 #[iv p379, iv p380, iv p381, rv a382, rv a383, iv (0 : Int32), iv p384, iv (0 : Int32), iv (0 : Int32), iv (p380 &&& (2147483647 : Int32)), iv (0 : Int32)] [])) _
    exact sfx1 l Z a0 hw ws p385 p386 p387 p379 p380 p381 a382 a383 p384 (p380 &&& (2147483647 : Int32)) a389 k397 p390 p391 p392 p393 p394 p395 p396 k388 Bd hZ hml X0 h0 e0 n0 O0 N0 pF_a383_length pF_a383_first pV_a389 pG_a389 pE_a389 pE_a383 pN_a383_a389 pF_a383_text pC402 pC403 pV_a382 pN_a382_a389 (own_nn_mask p380 (2147483647 : Int32) 31 (by decide) (by decide))
  · refine own_via (fun t k => XS.ifNo X0.here hx rfl (hb hby at_131) rfl ((if0 _ _).trans (feq hc406).1) (XS.iconst X0.here hx rfl (hb hby at_134) (XS.goto X0.here hx rfl (pc0 := 135) (pc' := 139) rfl (hb hby at_135) (by decide) (by decide) (XS.istore X0.here hx rfl (hb hby at_139) rfl (l' := #[iv p379, iv p380, iv p381, rv a382, rv a383, iv (0 : Int32), iv p384, iv (0 : Int32), iv (0 : Int32), iv (p380 &&& (2147483647 : Int32)), iv (1 : Int32)]) rfl k)))) ?_
    show own_Goes p e below (T0.setTop (mkF m 141 #[iv p379, iv p380, iv p381, rv a382, rv a383, iv (0 : Int32), iv p384, iv (0 : Int32), iv (0 : Int32), iv (p380 &&& (2147483647 : Int32)), iv (1 : Int32)] [])) _
    exact sfx2 l Z a0 hw ws p385 p386 p387 p379 p380 p381 a382 a383 p384 (p380 &&& (2147483647 : Int32)) a389 k397 p390 p391 p392 p393 p394 p395 p396 k388 Bd hZ hml X0 h0 e0 n0 O0 N0 pF_a383_length pF_a383_first pV_a389 pG_a389 pE_a389 pE_a383 pN_a383_a389 pF_a383_text pC402 pC403 pV_a382 pN_a382_a389 (own_nn_mask p380 (2147483647 : Int32) 31 (by decide) (by decide))
def Q19 (Z : State) (a954 : Addr) (a961 : Addr) (k970 : ClassId) (p962 : Int32) (p963 : Int32) (p964 : Int32) (p965 : Int32) (p966 : Int32) (p967 : Int32) (p968 : Int32) (p969 : Int32) (a955 : Addr) (h0 : Heap) (n0 : Nat) (v : Option Value) (h : Heap) (L : List Loc) : Prop := v = some (.int (3 : Int32)) ∧ Fr n0 L ∧ Keep h0 h [a961, a954] ∧ Exa Z h a961 "[I" ∧ Arv Z h a961 k970 .int (16 : Int32) [(.int p962), (.int p963), (.int p964), (.int (3 : Int32)), (.int p966), (.int p967), (.int p968), (.int p969)] (.int (0 : Int32)) ∧ Exa Z h a954 zs1 ∧ Fld Z h a954 zs1 "text" "[B" (.ref a955) ∧ Fld Z h a954 zs1 "first" "[I" (.ref a961) ∧ Fld Z h a954 zs1 "length" "I" (.int (4 : Int32))
set_option maxRecDepth 65536 in
set_option maxHeartbeats 40000000 in
theorem rm19 (l : Launch) (Z : State) (a0 : Array Value) (hw : ∀ d ∈ tables_1, d.before a0 Z = true) (ws : List Jvm.Cond) (a954 : Addr) (a961 : Addr) (k970 : ClassId) (p962 : Int32) (p963 : Int32) (p964 : Int32) (p965 : Int32) (p966 : Int32) (p967 : Int32) (p968 : Int32) (p969 : Int32) (a955 : Addr) (h0 : Heap) (n0 : Nat) (O0 : Old Z n0 h0) (pF_a954_length : Fld Z h0 a954 zs1 "length" "I" (.int (3 : Int32))) (pF_a954_first : Fld Z h0 a954 zs1 "first" "[I" (.ref a961)) (pL_a961 : own_Len Z h0 a961 .int (16 : Int32)) (pV_a961 : Arv Z h0 a961 k970 .int (16 : Int32) [(.int p962), (.int p963), (.int p964), (.int p965), (.int p966), (.int p967), (.int p968), (.int p969)] (.int (0 : Int32))) (pG_a961 : n0 ≤ a961) (pN_a954_a961 : a954 ≠ a961) (pE_a954 : Exa Z h0 a954 zs1) (pG_a954 : n0 ≤ a954) (pE_a961 : Exa Z h0 a961 "[I") (pF_a954_text : Fld Z h0 a954 zs1 "text" "[B" (.ref a955)) :
    MetFree l (⟨zs1, "add", "(I)I"⟩ : MethodName) (head1 (Jvm.Cond.code (⟨zs1, "add", "(I)I"⟩ : MethodName) prog_17_method_2_code 2 (some .int) :: ws) ({ frames := 0, cells := 0, slots := 0, locals := 0 } : Room)) (fun a U => a = #[(.ref a954), (.int (3 : Int32))] ∧ Z.Warmed39 U.vm ∧ U.heap = h0) (fun _ _ _ _ _ => True) (fun _ U o U' => ∃ v L, o = .returned v ∧ Q19 Z a954 a961 k970 p962 p963 p964 p965 p966 p967 p968 p969 a955 h0 n0 v U'.heap L ∧ FrameEnd U o U' L ({ frames := 0, cells := 0, slots := 0, locals := 0 } : Room).cells ({ frames := 0, cells := 0, slots := 0, locals := 0 } : Room).slots) := by
  refine MetFree.of_bodySF (plainFor_of_name pn_1) hisR ?_
  intro p e s m args below meth c s₁ Bd hml0 hP hK
  obtain ⟨rfl, hZ, hh⟩ := hP
  have hx := Bd.exec
  have hby := Bd.bytes
  have hml : c.maxLocals = 2 := hml0
  have hown : s.vm.findClass zs1 = some m.cls := findClass_of_methodNamed Bd.named
  have hnm := (name_of_methodNamed Bd.named Bd.method).1
  have X0 : Stand p l e ({ frames := 0, cells := 0, slots := 0, locals := 0 } : Room) s m #[(.ref a954), (.int (3 : Int32))] below meth c s₁ [] 0 0 := Stand.of_body Bd
  have e0 : s₁.heap = h0 := by rw [← hh, Bd.state]; rfl
  have N0 := Fr.nil n0
  refine own_out ?_
  refine own_via (fun t k => castTop (ef_3 m a954 (3 : Int32)) (XS.aloadN X0.here hx rfl (hb hby d5_0) rfl rfl k)) ?_
  obtain ⟨T980, X980, e980, st980⟩ := getF X0 hx hZ hown (host := "") (Or.inl (wd hw 38 rfl)) Via.refl e0 pF_a954_length (g := (mkF m 1 #[rv a954, iv (3 : Int32)] [(.ref a954)])) rfl rfl (hb hby d5_1)
  refine own_via (fun t k => st980 t (XS.aloadN X980.here hx rfl (hb hby d5_4) rfl rfl k)) ?_
  obtain ⟨T981, X981, e981, st981⟩ := getF X980 hx hZ hown (host := "") (Or.inl (wd hw 25 rfl)) Via.refl e980 pF_a954_first (g := (mkF m 5 #[rv a954, iv (3 : Int32)] [(.ref a954), (.int (3 : Int32))])) rfl rfl (hb hby d5_5)
  refine own_via (fun t k => st981 t k) ?_
  obtain ⟨_, _, _, V982⟩ := id (pL_a961)
  obtain ⟨cl982, Ar982, -, S982, M982, -, -⟩ := id (V982)
  refine own_via (fun t k => X981.arraylength hx (by rw [e981]; exact Ar982.1) (State.isArrayOf_alike hZ.alike Ar982.2.1) (g := (mkF m 8 #[rv a954, iv (3 : Int32)] [(.ref a961), (.int (3 : Int32))])) rfl rfl (hb hby d5_8) t k) ?_
  rw [len_of S982 M982]
  show own_Goes p e below (T981.setTop (mkF m 9 #[rv a954, iv (3 : Int32)] [(.int (16 : Int32)), (.int (3 : Int32))])) _
  refine own_via (fun t k => XS.icmpNo X981.here hx rfl (hb hby d5_9) rfl (tlt (by decide : (3 : Int32) < (16 : Int32))).2.1 (XS.aloadN X981.here hx rfl (hb hby d5_12) rfl rfl k)) ?_
  obtain ⟨T983, X983, e983, st983⟩ := getF X981 hx hZ hown (host := "") (Or.inl (wd hw 25 rfl)) Via.refl e981 pF_a954_first (g := (mkF m 13 #[rv a954, iv (3 : Int32)] [(.ref a954)])) rfl rfl (hb hby d5_13)
  refine own_via (fun t k => st983 t (XS.aloadN X983.here hx rfl (hb hby d5_16) rfl rfl k)) ?_
  obtain ⟨T984, X984, e984, st984⟩ := getF X983 hx hZ hown (host := "") (Or.inl (wd hw 38 rfl)) Via.refl e983 pF_a954_length (g := (mkF m 17 #[rv a954, iv (3 : Int32)] [(.ref a954), (.ref a961)])) rfl rfl (hb hby d5_17)
  refine own_via (fun t k => st984 t (XS.iloadN X984.here hx rfl (hb hby d5_20) rfl k)) ?_
  obtain ⟨cl985, Ar985, qq985, S985, M985, H985, G985⟩ := id (pV_a961)
  have hin985 : ¬ ((3 : Int32) < 0 ∨ cl985.slots.size ≤ ((3 : Int32)).toNatClampNeg) := inb_of S985 ⟨by decide, by decide⟩
  obtain ⟨T985, h985, X985, e985, W985, st985⟩ := stI X984 hx hZ e984 Ar985 (j := (3 : Int32)) hin985 (g := (mkF m 21 #[rv a954, iv (3 : Int32)] [(.int (3 : Int32)), (.int (3 : Int32)), (.ref a961)])) rfl rfl (hb hby d5_21)
  refine own_via (fun t k => st985 t k) ?_
  have V986 : Arv Z h985 a961 k970 .int (16 : Int32) [(.int p962), (.int p963), (.int p964), (.int (3 : Int32)), (.int p966), (.int p967), (.int p968), (.int p969)] (.int (0 : Int32)) := Arv.set Ar985 qq985 S985 M985 H985 G985 rfl W985 3 rfl (Nat.le_of_ble_eq_true rfl)
  have N985 := Fr.snoc X985 N0 pG_a961
  show own_Goes p e below (T985.setTop (mkF m 22 #[rv a954, iv (3 : Int32)] [])) _
  refine own_via (fun t k => XS.aloadN X985.here hx rfl (hb hby d5_22) rfl rfl (XS.dup X985.here hx rfl (hb hby d5_23) rfl rfl k)) ?_
  have F987 : Fld Z h985 a954 zs1 "length" "I" (.int (3 : Int32)) := (pF_a954_length.other W985 (Or.inl pN_a954_a961))
  obtain ⟨T988, X988, e988, st988⟩ := getF X985 hx hZ hown (host := "") (Or.inl (wd hw 38 rfl)) Via.refl e985 F987 (g := (mkF m 24 #[rv a954, iv (3 : Int32)] [(.ref a954), (.ref a954)])) rfl rfl (hb hby d5_24)
  refine own_via (fun t k => st988 t (XS.dupX1 X988.here hx rfl (hb hby d5_27) rfl rfl rfl (XS.iconst X988.here hx rfl (hb hby d5_28) (XS.iadd X988.here hx rfl (hb hby d5_29) rfl k)))) ?_
  show own_Goes p e below (T988.setTop (mkF m 30 #[rv a954, iv (3 : Int32)] [(.int (4 : Int32)), (.ref a954), (.int (3 : Int32))])) _
  have E989 : Exa Z h985 a954 zs1 := (pE_a954.wr W985)
  obtain ⟨T990, h990, X990, e990, W990, st990⟩ := putF X988 hx hZ hown (host := "") (Or.inl (wd hw 38 rfl)) Via.refl e988 F987 E989 (Or.inl (wd hw 39 rfl)) (wd hw 2 rfl) (ty := .int) (by decide) rfl rfl (g := (mkF m 30 #[rv a954, iv (3 : Int32)] [(.int (4 : Int32)), (.ref a954), (.int (3 : Int32))])) rfl rfl (hb hby d5_30)
  refine own_via (fun t k => st990 t k) ?_
  have Fw990 : Fld Z h990 a954 zs1 "length" "I" (.int (4 : Int32)) := F987.same W990
  have N990 := Fr.snoc X990 N985 pG_a954
  show own_Goes p e below (T990.setTop (mkF m 33 #[rv a954, iv (3 : Int32)] [(.int (3 : Int32))])) _
  obtain ⟨fs, hr, hrun, hended, hW, hsame⟩ := X990.leave (v := some (.int (3 : Int32))) (fun h => by rw [Bd.returns] at h; cases h)
  refine own_end (t := T990.setFrames fs) ?_ ⟨_, hrun, hended, _, _, rfl, ?_, ⟨_, rfl⟩, hW, hsame.mono (by decide) (by decide)⟩
  · exact retI X990 hx Bd.returns (hb hby d5_33) hr
  have E991 : Exa Z h990 a961 "[I" := ((pE_a961.wr W985).wr W990)
  have V992 : Arv Z h990 a961 k970 .int (16 : Int32) [(.int p962), (.int p963), (.int p964), (.int (3 : Int32)), (.int p966), (.int p967), (.int p968), (.int p969)] (.int (0 : Int32)) := (V986.other W990 (Ne.symm pN_a954_a961))
  have E993 : Exa Z h990 a954 zs1 := (E989.wr W990)
  have F994 : Fld Z h990 a954 zs1 "text" "[B" (.ref a955) := ((pF_a954_text.other W985 (Or.inl pN_a954_a961)).other W990 (Or.inr (slot_ne (Or.inr (wd hw 19 rfl)) (Or.inl (wd hw 39 rfl)) (by decide) (t := (.array .byte)) (t' := .int) (by decide) (by decide))))
  have F995 : Fld Z h990 a954 zs1 "first" "[I" (.ref a961) := ((pF_a954_first.other W985 (Or.inl pN_a954_a961)).other W990 (Or.inr (slot_ne (Or.inl (wd hw 26 rfl)) (Or.inl (wd hw 39 rfl)) (by decide) (t := (.array .int)) (t' := .int) (by decide) (by decide))))
  · show Q19 Z a954 a961 k970 p962 p963 p964 p965 p966 p967 p968 p969 a955 h0 n0 _ T990.heap _
    rw [e990]
    exact ⟨rfl, N990, (((Keep.refl h0 [a961, a954]).wr W985 (Or.inl (List.mem_of_getElem? (i := 0) rfl))).wr W990 (Or.inl (List.mem_of_getElem? (i := 1) rfl))), E991, V992, E993, F994, F995, Fw990⟩
set_option maxRecDepth 65536 in
set_option maxHeartbeats 40000000 in
theorem sfx4 (l : Launch) (Z : State) (a0 : Array Value) (hw : ∀ d ∈ tables_1, d.before a0 Z = true) (ws : List Jvm.Cond) {p : Program} {e : Env} {s : State} {m : MethodId} {below : List Frame} {meth : Method} {c : Code} {s₁ : State} (p1037 : Int32) (p1038 : Int32) (p1039 : Int32) (p1031 : Int32) (p1032 : Int32) (p1033 : Int32) (a1034 : Addr) (a1035 : Addr) (p1036 : Int32) (p1030 : Int32) (a1041 : Addr) (k1049 : ClassId) (p1042 : Int32) (p1043 : Int32) (p1044 : Int32) (p1045 : Int32) (p1046 : Int32) (p1047 : Int32) (p1048 : Int32) (k1040 : ClassId) (Bd : BodyLoose p l x (head1 (Jvm.Cond.code x code maxLocals ret :: ws) room_1) code maxLocals ret e s m #[(.int p1037), (.int p1038), (.int p1039)] below meth c s₁) (hZ : Z.Warmed39 s.vm) (hml : c.maxLocals = 11) {T0 : State} {locs0 : List Loc} (X0 : Stand p l e room_1 s m #[(.int p1037), (.int p1038), (.int p1039)] below meth c T0 locs0 8 120) (h0 : Heap) (e0 : T0.heap = h0) (n0 : Nat) (O0 : Old Z n0 h0) (N0 : Fr n0 locs0) (pF_a1035_length : Fld Z h0 a1035 zs1 "length" "I" (.int (4 : Int32))) (pF_a1035_first : Fld Z h0 a1035 zs1 "first" "[I" (.ref a1041)) (pV_a1041 : Arv Z h0 a1041 k1049 .int (16 : Int32) [(.int p1036), (.int p1042), (.int p1043), (.int p1044), (.int p1045), (.int p1046), (.int p1047), (.int p1048)] (.int (0 : Int32))) (pG_a1041 : n0 ≤ a1041) (pE_a1041 : Exa Z h0 a1041 "[I") (pE_a1035 : Exa Z h0 a1035 zs1) (pN_a1035_a1041 : a1035 ≠ a1041) (pF_a1035_text : Fld Z h0 a1035 zs1 "text" "[B" (.ref a1034)) (pC1054 : ¬ (p1036 < (0 : Int32))) (pC1055 : p1036 < (2 : Int32)) (pV_a1034 : Arv Z h0 a1034 k1040 .byte (4 : Int32) [(.int (123 : Int32)), (.int (91 : Int32)), (.int (49 : Int32)), (.int (110 : Int32))] (.int (0 : Int32))) (pN_a1034_a1041 : a1034 ≠ a1041) (pC1058 : ¬ (p1030 < (0 : Int32))) :
    own_Goes p e below (T0.setTop (mkF m 141 #[iv p1031, iv p1032, iv p1033, rv a1034, rv a1035, iv (0 : Int32), iv p1036, iv (0 : Int32), iv (1 : Int32), iv p1030, iv (0 : Int32)] [])) (own_G s below n0) := by
  have hx := Bd.exec
  have hby := Bd.bytes
  have hown : s.vm.findClass zs2 = some m.cls := findClass_of_methodNamed Bd.named
  have hnm := (name_of_methodNamed Bd.named Bd.method).1
  show own_Goes p e below (T0.setTop (mkF m 141 #[iv p1031, iv p1032, iv p1033, rv a1034, rv a1035, iv (0 : Int32), iv p1036, iv (0 : Int32), iv (1 : Int32), iv p1030, iv (0 : Int32)] [])) _
  refine own_via (fun t k => XS.aload X0.here hx rfl (hb hby at_141) rfl rfl (XS.iload X0.here hx rfl (hb hby at_143) rfl (XS.iload X0.here hx rfl (hb hby at_145) rfl (XS.iload X0.here hx rfl (hb hby at_147) rfl k)))) ?_
  show own_Goes p e below (T0.setTop (mkF m 149 #[iv p1031, iv p1032, iv p1033, rv a1034, rv a1035, iv (0 : Int32), iv p1036, iv (0 : Int32), iv (1 : Int32), iv p1030, iv (0 : Int32)] [(.int (0 : Int32)), (.int p1030), (.int (0 : Int32)), (.ref a1035)])) _
  obtain ⟨_, T1062, _, X1062, hQ1062, st1062⟩ := own_cv X0 hx hZ hown (wd hw 41 rfl) (wd hw 42 rfl) (wd hw 44 rfl) (wd hw 43 rfl) (wd hw 45 rfl) (wd hw 3 rfl) (by decide) (rm9 l Z a0 hw [] a1035 p1030 (4 : Int32) a1041 k1049 p1036 p1042 p1043 p1044 p1045 p1046 p1047 p1048 h0 n0 O0 pF_a1035_length pF_a1035_first pV_a1041 pG_a1041 pE_a1041 pE_a1035 pN_a1035_a1041) e0 pE_a1035 (g := (mkF m 149 #[iv p1031, iv p1032, iv p1033, rv a1034, rv a1035, iv (0 : Int32), iv p1036, iv (0 : Int32), iv (1 : Int32), iv p1030, iv (0 : Int32)] [(.int (0 : Int32)), (.int p1030), (.int (0 : Int32)), (.ref a1035)])) rfl (by rw [hml]; rfl) (rest := []) (W := 0) (lenOf pd_5 rfl) rfl (by show 2 * 0 + _ ≤ _; exact Nat.le_of_eq rfl) (hb hby at_149) (by decide) (by decide) (by decide) (by decide)
  obtain ⟨h1062, e1062⟩ : ∃ z, T1062.heap = z := ⟨_, rfl⟩
  rw [e1062] at hQ1062
  obtain ⟨rfl, Nq1062, K1062, ex1063, vx1064⟩ := hQ1062
  have N1062 := Fr.app N0 Nq1062
  refine own_via (fun t k => st1062 t (XS.iload X1062.here hx rfl (hb hby at_152) rfl (XS.iload X1062.here hx rfl (hb hby at_154) rfl (XS.icmpNo X1062.here hx rfl (hb hby at_156) rfl (teq (by decide : (0 : Int32) = (0 : Int32))).2 (XS.aload X1062.here hx rfl (hb hby at_159) rfl rfl (XS.iload X1062.here hx rfl (hb hby at_161) rfl k)))))) ?_
  show own_Goes p e below (T1062.setTop (mkF m 163 #[iv p1031, iv p1032, iv p1033, rv a1034, rv a1035, iv (0 : Int32), iv p1036, iv (0 : Int32), iv (1 : Int32), iv p1030, iv (0 : Int32)] [(.int (0 : Int32)), (.ref a1035)])) _
  have F1066 : Fld Z h1062 a1035 zs1 "first" "[I" (.ref a1041) := (pF_a1035_first.keep K1062 (ninS pN_a1035_a1041 nin0))
  have E1067 : Exa Z h1062 a1035 zs1 := (pE_a1035.keep K1062)
  have O1068 : Old Z n0 h1062 := (O0.keep K1062 (allS pG_a1041 all0))
  obtain ⟨_, T1065, _, X1065, hQ1065, st1065⟩ := own_cv X1062 hx hZ hown (wd hw 50 rfl) (wd hw 51 rfl) (wd hw 53 rfl) (wd hw 52 rfl) (wd hw 54 rfl) (wd hw 3 rfl) (by decide) (rm11 l Z a0 hw [] a1035 a1041 k1049 p1036 (4 : Int32) ((p1030 <<< ((1 : Int32) &&& 31)) ||| (0 : Int32)) p1044 p1045 p1046 p1047 p1048 h1062 n0 O1068 F1066 vx1064 E1067) e1062 E1067 (g := (mkF m 163 #[iv p1031, iv p1032, iv p1033, rv a1034, rv a1035, iv (0 : Int32), iv p1036, iv (0 : Int32), iv (1 : Int32), iv p1030, iv (0 : Int32)] [(.int (0 : Int32)), (.ref a1035)])) rfl (by rw [hml]; rfl) (rest := []) (W := 0) (lenOf pd_3 rfl) rfl (by show 2 * 0 + _ ≤ _; exact Nat.le_of_eq rfl) (hb hby at_163) (by decide) (by decide) (by decide) (by decide)
  obtain ⟨rfl, Nq1065, hh1069⟩ := hQ1065
  have N1065 := Fr.app N1062 Nq1065
  refine own_via (fun t k => st1065 t (XS.iload X1065.here hx rfl (hb hby at_166) rfl (XS.icmpNo X1065.here hx rfl (hb hby at_168) rfl (teq (rfl : p1036 = p1036)).2 (XS.aload X1065.here hx rfl (hb hby at_171) rfl rfl (XS.iload X1065.here hx rfl (hb hby at_173) rfl k))))) ?_
  show own_Goes p e below (T1065.setTop (mkF m 175 #[iv p1031, iv p1032, iv p1033, rv a1034, rv a1035, iv (0 : Int32), iv p1036, iv (0 : Int32), iv (1 : Int32), iv p1030, iv (0 : Int32)] [(.int (0 : Int32)), (.ref a1035)])) _
  have F1071 : Fld Z h1062 a1035 zs1 "text" "[B" (.ref a1034) := (pF_a1035_text.keep K1062 (ninS pN_a1035_a1041 nin0))
  have V1072 : Arv Z h1062 a1034 k1040 .byte (4 : Int32) [(.int (123 : Int32)), (.int (91 : Int32)), (.int (49 : Int32)), (.int (110 : Int32))] (.int (0 : Int32)) := (pV_a1034.keep K1062 (ninS pN_a1034_a1041 nin0))
  obtain ⟨_, T1070, _, X1070, hQ1070, st1070⟩ := own_cv X1065 hx hZ hown (wd hw 59 rfl) (wd hw 60 rfl) (wd hw 62 rfl) (wd hw 61 rfl) (wd hw 63 rfl) (wd hw 3 rfl) (by decide) (rm13 l Z a0 hw [] a1035 a1034 a1041 k1049 p1036 (4 : Int32) ((p1030 <<< ((1 : Int32) &&& 31)) ||| (0 : Int32)) p1044 p1045 p1046 p1047 p1048 k1040 (49 : Int32) (110 : Int32) h1062 n0 O1068 F1071 F1066 vx1064 E1067 pC1054 pC1055 V1072) hh1069 E1067 (g := (mkF m 175 #[iv p1031, iv p1032, iv p1033, rv a1034, rv a1035, iv (0 : Int32), iv p1036, iv (0 : Int32), iv (1 : Int32), iv p1030, iv (0 : Int32)] [(.int (0 : Int32)), (.ref a1035)])) rfl (by rw [hml]; rfl) (rest := []) (W := 0) (lenOf pd_3 rfl) rfl (by show 2 * 0 + _ ≤ _; exact Nat.le_of_eq rfl) (hb hby at_175) (by decide) (by decide) (by decide) (by decide)
  obtain ⟨rfl, Nq1070, hh1073⟩ := hQ1070
  have N1070 := Fr.app N1065 Nq1070
  refine own_via (fun t k => st1070 t (XS.iload X1070.here hx rfl (hb hby at_178) rfl (XS.iconst X1070.here hx rfl (hb hby at_180) (XS.iadd X1070.here hx rfl (hb hby at_181) rfl (XS.iload X1070.here hx rfl (hb hby at_182) rfl (XS.iadd X1070.here hx rfl (hb hby at_184) rfl (XS.icmpNo X1070.here hx rfl (hb hby at_185) rfl (teq (by decide : (4 : Int32) = (4 : Int32))).2 (XS.aload X1070.here hx rfl (hb hby at_188) rfl rfl (XS.iload X1070.here hx rfl (hb hby at_190) rfl k))))))))) ?_
  show own_Goes p e below (T1070.setTop (mkF m 192 #[iv p1031, iv p1032, iv p1033, rv a1034, rv a1035, iv (0 : Int32), iv p1036, iv (0 : Int32), iv (1 : Int32), iv p1030, iv (0 : Int32)] [(.int (0 : Int32)), (.ref a1035)])) _
  obtain ⟨_, T1074, _, X1074, hQ1074, st1074⟩ := own_cv X1070 hx hZ hown (wd hw 64 rfl) (wd hw 65 rfl) (wd hw 67 rfl) (wd hw 66 rfl) (wd hw 68 rfl) (wd hw 3 rfl) (by decide) (rm15 l Z a0 hw [] a1035 a1041 k1049 p1036 (4 : Int32) ((p1030 <<< ((1 : Int32) &&& 31)) ||| (0 : Int32)) p1044 p1045 p1046 p1047 p1048 h1062 n0 O1068 F1066 vx1064 E1067) hh1073 E1067 (g := (mkF m 192 #[iv p1031, iv p1032, iv p1033, rv a1034, rv a1035, iv (0 : Int32), iv p1036, iv (0 : Int32), iv (1 : Int32), iv p1030, iv (0 : Int32)] [(.int (0 : Int32)), (.ref a1035)])) rfl (by rw [hml]; rfl) (rest := []) (W := 0) (lenOf pd_3 rfl) rfl (by show 2 * 0 + _ ≤ _; exact Nat.le_of_eq rfl) (hb hby at_192) (by decide) (by decide) (by decide) (by decide)
  obtain ⟨rfl, Nq1074, hh1075⟩ := hQ1074
  have N1074 := Fr.app N1070 Nq1074
  refine own_via (fun t k => st1074 t (XS.iload X1074.here hx rfl (hb hby at_195) rfl (XS.icmpNo X1074.here hx rfl (hb hby at_197) rfl (teq (own_cnt p1030 0 pC1058 (by decide))).2 (XS.aload X1074.here hx rfl (hb hby at_200) rfl rfl (XS.iload X1074.here hx rfl (hb hby at_202) rfl k))))) ?_
  show own_Goes p e below (T1074.setTop (mkF m 204 #[iv p1031, iv p1032, iv p1033, rv a1034, rv a1035, iv (0 : Int32), iv p1036, iv (0 : Int32), iv (1 : Int32), iv p1030, iv (0 : Int32)] [(.int (0 : Int32)), (.ref a1035)])) _
  obtain ⟨_, T1076, _, X1076, hQ1076, st1076⟩ := own_cv X1074 hx hZ hown (wd hw 69 rfl) (wd hw 70 rfl) (wd hw 72 rfl) (wd hw 71 rfl) (wd hw 73 rfl) (wd hw 3 rfl) (by decide) (rm16 l Z a0 hw [] a1035 a1041 k1049 p1036 (4 : Int32) ((p1030 <<< ((1 : Int32) &&& 31)) ||| (0 : Int32)) p1044 p1045 p1046 p1047 p1048 h1062 n0 O1068 F1066 vx1064 E1067 (own_rep0 p1030)) hh1075 E1067 (g := (mkF m 204 #[iv p1031, iv p1032, iv p1033, rv a1034, rv a1035, iv (0 : Int32), iv p1036, iv (0 : Int32), iv (1 : Int32), iv p1030, iv (0 : Int32)] [(.int (0 : Int32)), (.ref a1035)])) rfl (by rw [hml]; rfl) (rest := []) (W := 0) (lenOf pd_6 rfl) rfl (by show 2 * 0 + _ ≤ _; exact Nat.le_of_eq rfl) (hb hby at_204) (by decide) (by decide) (by decide) (by decide)
  obtain ⟨rfl, Nq1076, hh1077⟩ := hQ1076
  have N1076 := Fr.app N1074 Nq1076
  refine own_via (fun t k => st1076 t (XS.iload X1076.here hx rfl (hb hby at_207) rfl (XS.icmpNo X1076.here hx rfl (hb hby at_209) rfl (teq (by decide : (0 : Int32) = (0 : Int32))).2 (XS.iconst X1076.here hx rfl (hb hby at_212) (XS.goto X1076.here hx rfl (pc0 := 213) (pc' := 217) rfl (hb hby at_213) (by decide) (by decide) k))))) ?_
  show own_Goes p e below (T1076.setTop (mkF m 217 #[iv p1031, iv p1032, iv p1033, rv a1034, rv a1035, iv (0 : Int32), iv p1036, iv (0 : Int32), iv (1 : Int32), iv p1030, iv (0 : Int32)] [(.int (1 : Int32))])) _
  obtain ⟨fs, hr, hrun, hended, hW, hsame⟩ := X1076.leave (v := some (.int (1 : Int32))) (fun h => by rw [Bd.returns] at h; cases h)
  refine own_end (t := T1076.setFrames fs) ?_ ⟨_, hrun, hended, _, _, rfl, ?_, ⟨_, rfl⟩, hW, hsame.mono (by decide) (by decide)⟩
  · exact retN X1076 hx (t := .boolean) Bd.returns (by simp) (hb hby at_217) hr
  · exact ⟨rfl, N1076⟩
set_option maxRecDepth 65536 in
set_option maxHeartbeats 40000000 in
theorem sfx5 (l : Launch) (Z : State) (a0 : Array Value) (hw : ∀ d ∈ tables_1, d.before a0 Z = true) (ws : List Jvm.Cond) {p : Program} {e : Env} {s : State} {m : MethodId} {below : List Frame} {meth : Method} {c : Code} {s₁ : State} (p1085 : Int32) (p1086 : Int32) (p1087 : Int32) (p1079 : Int32) (p1080 : Int32) (p1081 : Int32) (a1082 : Addr) (a1083 : Addr) (p1084 : Int32) (p1078 : Int32) (a1089 : Addr) (k1097 : ClassId) (p1090 : Int32) (p1091 : Int32) (p1092 : Int32) (p1093 : Int32) (p1094 : Int32) (p1095 : Int32) (p1096 : Int32) (k1088 : ClassId) (Bd : BodyLoose p l x (head1 (Jvm.Cond.code x code maxLocals ret :: ws) room_1) code maxLocals ret e s m #[(.int p1085), (.int p1086), (.int p1087)] below meth c s₁) (hZ : Z.Warmed39 s.vm) (hml : c.maxLocals = 11) {T0 : State} {locs0 : List Loc} (X0 : Stand p l e room_1 s m #[(.int p1085), (.int p1086), (.int p1087)] below meth c T0 locs0 8 120) (h0 : Heap) (e0 : T0.heap = h0) (n0 : Nat) (O0 : Old Z n0 h0) (N0 : Fr n0 locs0) (pF_a1083_length : Fld Z h0 a1083 zs1 "length" "I" (.int (4 : Int32))) (pF_a1083_first : Fld Z h0 a1083 zs1 "first" "[I" (.ref a1089)) (pV_a1089 : Arv Z h0 a1089 k1097 .int (16 : Int32) [(.int p1084), (.int p1090), (.int p1091), (.int p1092), (.int p1093), (.int p1094), (.int p1095), (.int p1096)] (.int (0 : Int32))) (pG_a1089 : n0 ≤ a1089) (pE_a1089 : Exa Z h0 a1089 "[I") (pE_a1083 : Exa Z h0 a1083 zs1) (pN_a1083_a1089 : a1083 ≠ a1089) (pF_a1083_text : Fld Z h0 a1083 zs1 "text" "[B" (.ref a1082)) (pC1102 : ¬ (p1084 < (0 : Int32))) (pC1103 : p1084 < (2 : Int32)) (pV_a1082 : Arv Z h0 a1082 k1088 .byte (4 : Int32) [(.int (123 : Int32)), (.int (91 : Int32)), (.int (49 : Int32)), (.int (110 : Int32))] (.int (0 : Int32))) (pN_a1082_a1089 : a1082 ≠ a1089) (pC1106 : ¬ (p1078 < (0 : Int32))) :
    own_Goes p e below (T0.setTop (mkF m 141 #[iv p1079, iv p1080, iv p1081, rv a1082, rv a1083, iv (0 : Int32), iv p1084, iv (0 : Int32), iv (1 : Int32), iv p1078, iv (1 : Int32)] [])) (own_G s below n0) := by
  have hx := Bd.exec
  have hby := Bd.bytes
  have hown : s.vm.findClass zs2 = some m.cls := findClass_of_methodNamed Bd.named
  have hnm := (name_of_methodNamed Bd.named Bd.method).1
  show own_Goes p e below (T0.setTop (mkF m 141 #[iv p1079, iv p1080, iv p1081, rv a1082, rv a1083, iv (0 : Int32), iv p1084, iv (0 : Int32), iv (1 : Int32), iv p1078, iv (1 : Int32)] [])) _
  refine own_via (fun t k => XS.aload X0.here hx rfl (hb hby at_141) rfl rfl (XS.iload X0.here hx rfl (hb hby at_143) rfl (XS.iload X0.here hx rfl (hb hby at_145) rfl (XS.iload X0.here hx rfl (hb hby at_147) rfl k)))) ?_
  show own_Goes p e below (T0.setTop (mkF m 149 #[iv p1079, iv p1080, iv p1081, rv a1082, rv a1083, iv (0 : Int32), iv p1084, iv (0 : Int32), iv (1 : Int32), iv p1078, iv (1 : Int32)] [(.int (1 : Int32)), (.int p1078), (.int (0 : Int32)), (.ref a1083)])) _
  obtain ⟨_, T1110, _, X1110, hQ1110, st1110⟩ := own_cv X0 hx hZ hown (wd hw 41 rfl) (wd hw 42 rfl) (wd hw 44 rfl) (wd hw 43 rfl) (wd hw 45 rfl) (wd hw 3 rfl) (by decide) (rm17 l Z a0 hw [] a1083 p1078 (4 : Int32) a1089 k1097 p1084 p1090 p1091 p1092 p1093 p1094 p1095 p1096 h0 n0 O0 pF_a1083_length pF_a1083_first pV_a1089 pG_a1089 pE_a1089 pE_a1083 pN_a1083_a1089) e0 pE_a1083 (g := (mkF m 149 #[iv p1079, iv p1080, iv p1081, rv a1082, rv a1083, iv (0 : Int32), iv p1084, iv (0 : Int32), iv (1 : Int32), iv p1078, iv (1 : Int32)] [(.int (1 : Int32)), (.int p1078), (.int (0 : Int32)), (.ref a1083)])) rfl (by rw [hml]; rfl) (rest := []) (W := 0) (lenOf pd_5 rfl) rfl (by show 2 * 0 + _ ≤ _; exact Nat.le_of_eq rfl) (hb hby at_149) (by decide) (by decide) (by decide) (by decide)
  obtain ⟨h1110, e1110⟩ : ∃ z, T1110.heap = z := ⟨_, rfl⟩
  rw [e1110] at hQ1110
  obtain ⟨rfl, Nq1110, K1110, ex1111, vx1112⟩ := hQ1110
  have N1110 := Fr.app N0 Nq1110
  refine own_via (fun t k => st1110 t (XS.iload X1110.here hx rfl (hb hby at_152) rfl (XS.iload X1110.here hx rfl (hb hby at_154) rfl (XS.icmpNo X1110.here hx rfl (hb hby at_156) rfl (teq (by decide : (0 : Int32) = (0 : Int32))).2 (XS.aload X1110.here hx rfl (hb hby at_159) rfl rfl (XS.iload X1110.here hx rfl (hb hby at_161) rfl k)))))) ?_
  show own_Goes p e below (T1110.setTop (mkF m 163 #[iv p1079, iv p1080, iv p1081, rv a1082, rv a1083, iv (0 : Int32), iv p1084, iv (0 : Int32), iv (1 : Int32), iv p1078, iv (1 : Int32)] [(.int (0 : Int32)), (.ref a1083)])) _
  have F1114 : Fld Z h1110 a1083 zs1 "first" "[I" (.ref a1089) := (pF_a1083_first.keep K1110 (ninS pN_a1083_a1089 nin0))
  have E1115 : Exa Z h1110 a1083 zs1 := (pE_a1083.keep K1110)
  have O1116 : Old Z n0 h1110 := (O0.keep K1110 (allS pG_a1089 all0))
  obtain ⟨_, T1113, _, X1113, hQ1113, st1113⟩ := own_cv X1110 hx hZ hown (wd hw 50 rfl) (wd hw 51 rfl) (wd hw 53 rfl) (wd hw 52 rfl) (wd hw 54 rfl) (wd hw 3 rfl) (by decide) (rm11 l Z a0 hw [] a1083 a1089 k1097 p1084 (4 : Int32) ((p1078 <<< ((1 : Int32) &&& 31)) ||| (1 : Int32)) p1092 p1093 p1094 p1095 p1096 h1110 n0 O1116 F1114 vx1112 E1115) e1110 E1115 (g := (mkF m 163 #[iv p1079, iv p1080, iv p1081, rv a1082, rv a1083, iv (0 : Int32), iv p1084, iv (0 : Int32), iv (1 : Int32), iv p1078, iv (1 : Int32)] [(.int (0 : Int32)), (.ref a1083)])) rfl (by rw [hml]; rfl) (rest := []) (W := 0) (lenOf pd_3 rfl) rfl (by show 2 * 0 + _ ≤ _; exact Nat.le_of_eq rfl) (hb hby at_163) (by decide) (by decide) (by decide) (by decide)
  obtain ⟨rfl, Nq1113, hh1117⟩ := hQ1113
  have N1113 := Fr.app N1110 Nq1113
  refine own_via (fun t k => st1113 t (XS.iload X1113.here hx rfl (hb hby at_166) rfl (XS.icmpNo X1113.here hx rfl (hb hby at_168) rfl (teq (rfl : p1084 = p1084)).2 (XS.aload X1113.here hx rfl (hb hby at_171) rfl rfl (XS.iload X1113.here hx rfl (hb hby at_173) rfl k))))) ?_
  show own_Goes p e below (T1113.setTop (mkF m 175 #[iv p1079, iv p1080, iv p1081, rv a1082, rv a1083, iv (0 : Int32), iv p1084, iv (0 : Int32), iv (1 : Int32), iv p1078, iv (1 : Int32)] [(.int (0 : Int32)), (.ref a1083)])) _
  have F1119 : Fld Z h1110 a1083 zs1 "text" "[B" (.ref a1082) := (pF_a1083_text.keep K1110 (ninS pN_a1083_a1089 nin0))
  have V1120 : Arv Z h1110 a1082 k1088 .byte (4 : Int32) [(.int (123 : Int32)), (.int (91 : Int32)), (.int (49 : Int32)), (.int (110 : Int32))] (.int (0 : Int32)) := (pV_a1082.keep K1110 (ninS pN_a1082_a1089 nin0))
  obtain ⟨_, T1118, _, X1118, hQ1118, st1118⟩ := own_cv X1113 hx hZ hown (wd hw 59 rfl) (wd hw 60 rfl) (wd hw 62 rfl) (wd hw 61 rfl) (wd hw 63 rfl) (wd hw 3 rfl) (by decide) (rm13 l Z a0 hw [] a1083 a1082 a1089 k1097 p1084 (4 : Int32) ((p1078 <<< ((1 : Int32) &&& 31)) ||| (1 : Int32)) p1092 p1093 p1094 p1095 p1096 k1088 (49 : Int32) (110 : Int32) h1110 n0 O1116 F1119 F1114 vx1112 E1115 pC1102 pC1103 V1120) hh1117 E1115 (g := (mkF m 175 #[iv p1079, iv p1080, iv p1081, rv a1082, rv a1083, iv (0 : Int32), iv p1084, iv (0 : Int32), iv (1 : Int32), iv p1078, iv (1 : Int32)] [(.int (0 : Int32)), (.ref a1083)])) rfl (by rw [hml]; rfl) (rest := []) (W := 0) (lenOf pd_3 rfl) rfl (by show 2 * 0 + _ ≤ _; exact Nat.le_of_eq rfl) (hb hby at_175) (by decide) (by decide) (by decide) (by decide)
  obtain ⟨rfl, Nq1118, hh1121⟩ := hQ1118
  have N1118 := Fr.app N1113 Nq1118
  refine own_via (fun t k => st1118 t (XS.iload X1118.here hx rfl (hb hby at_178) rfl (XS.iconst X1118.here hx rfl (hb hby at_180) (XS.iadd X1118.here hx rfl (hb hby at_181) rfl (XS.iload X1118.here hx rfl (hb hby at_182) rfl (XS.iadd X1118.here hx rfl (hb hby at_184) rfl (XS.icmpNo X1118.here hx rfl (hb hby at_185) rfl (teq (by decide : (4 : Int32) = (4 : Int32))).2 (XS.aload X1118.here hx rfl (hb hby at_188) rfl rfl (XS.iload X1118.here hx rfl (hb hby at_190) rfl k))))))))) ?_
  show own_Goes p e below (T1118.setTop (mkF m 192 #[iv p1079, iv p1080, iv p1081, rv a1082, rv a1083, iv (0 : Int32), iv p1084, iv (0 : Int32), iv (1 : Int32), iv p1078, iv (1 : Int32)] [(.int (0 : Int32)), (.ref a1083)])) _
  obtain ⟨_, T1122, _, X1122, hQ1122, st1122⟩ := own_cv X1118 hx hZ hown (wd hw 64 rfl) (wd hw 65 rfl) (wd hw 67 rfl) (wd hw 66 rfl) (wd hw 68 rfl) (wd hw 3 rfl) (by decide) (rm15 l Z a0 hw [] a1083 a1089 k1097 p1084 (4 : Int32) ((p1078 <<< ((1 : Int32) &&& 31)) ||| (1 : Int32)) p1092 p1093 p1094 p1095 p1096 h1110 n0 O1116 F1114 vx1112 E1115) hh1121 E1115 (g := (mkF m 192 #[iv p1079, iv p1080, iv p1081, rv a1082, rv a1083, iv (0 : Int32), iv p1084, iv (0 : Int32), iv (1 : Int32), iv p1078, iv (1 : Int32)] [(.int (0 : Int32)), (.ref a1083)])) rfl (by rw [hml]; rfl) (rest := []) (W := 0) (lenOf pd_3 rfl) rfl (by show 2 * 0 + _ ≤ _; exact Nat.le_of_eq rfl) (hb hby at_192) (by decide) (by decide) (by decide) (by decide)
  obtain ⟨rfl, Nq1122, hh1123⟩ := hQ1122
  have N1122 := Fr.app N1118 Nq1122
  refine own_via (fun t k => st1122 t (XS.iload X1122.here hx rfl (hb hby at_195) rfl (XS.icmpNo X1122.here hx rfl (hb hby at_197) rfl (teq (own_cnt p1078 1 pC1106 (by decide))).2 (XS.aload X1122.here hx rfl (hb hby at_200) rfl rfl (XS.iload X1122.here hx rfl (hb hby at_202) rfl k))))) ?_
  show own_Goes p e below (T1122.setTop (mkF m 204 #[iv p1079, iv p1080, iv p1081, rv a1082, rv a1083, iv (0 : Int32), iv p1084, iv (0 : Int32), iv (1 : Int32), iv p1078, iv (1 : Int32)] [(.int (0 : Int32)), (.ref a1083)])) _
  obtain ⟨_, T1124, _, X1124, hQ1124, st1124⟩ := own_cv X1122 hx hZ hown (wd hw 69 rfl) (wd hw 70 rfl) (wd hw 72 rfl) (wd hw 71 rfl) (wd hw 73 rfl) (wd hw 3 rfl) (by decide) (rm18 l Z a0 hw [] a1083 a1089 k1097 p1084 (4 : Int32) ((p1078 <<< ((1 : Int32) &&& 31)) ||| (1 : Int32)) p1092 p1093 p1094 p1095 p1096 h1110 n0 O1116 F1114 vx1112 E1115 (own_rep1 p1078)) hh1123 E1115 (g := (mkF m 204 #[iv p1079, iv p1080, iv p1081, rv a1082, rv a1083, iv (0 : Int32), iv p1084, iv (0 : Int32), iv (1 : Int32), iv p1078, iv (1 : Int32)] [(.int (0 : Int32)), (.ref a1083)])) rfl (by rw [hml]; rfl) (rest := []) (W := 0) (lenOf pd_6 rfl) rfl (by show 2 * 0 + _ ≤ _; exact Nat.le_of_eq rfl) (hb hby at_204) (by decide) (by decide) (by decide) (by decide)
  obtain ⟨rfl, Nq1124, hh1125⟩ := hQ1124
  have N1124 := Fr.app N1122 Nq1124
  refine own_via (fun t k => st1124 t (XS.iload X1124.here hx rfl (hb hby at_207) rfl (XS.icmpNo X1124.here hx rfl (hb hby at_209) rfl (teq (by decide : (1 : Int32) = (1 : Int32))).2 (XS.iconst X1124.here hx rfl (hb hby at_212) (XS.goto X1124.here hx rfl (pc0 := 213) (pc' := 217) rfl (hb hby at_213) (by decide) (by decide) k))))) ?_
  show own_Goes p e below (T1124.setTop (mkF m 217 #[iv p1079, iv p1080, iv p1081, rv a1082, rv a1083, iv (0 : Int32), iv p1084, iv (0 : Int32), iv (1 : Int32), iv p1078, iv (1 : Int32)] [(.int (1 : Int32))])) _
  obtain ⟨fs, hr, hrun, hended, hW, hsame⟩ := X1124.leave (v := some (.int (1 : Int32))) (fun h => by rw [Bd.returns] at h; cases h)
  refine own_end (t := T1124.setFrames fs) ?_ ⟨_, hrun, hended, _, _, rfl, ?_, ⟨_, rfl⟩, hW, hsame.mono (by decide) (by decide)⟩
  · exact retN X1124 hx (t := .boolean) Bd.returns (by simp) (hb hby at_217) hr
  · exact ⟨rfl, N1124⟩
set_option maxRecDepth 65536 in
set_option maxHeartbeats 40000000 in
theorem sfx6 (l : Launch) (Z : State) (a0 : Array Value) (hw : ∀ d ∈ tables_1, d.before a0 Z = true) (ws : List Jvm.Cond) {p : Program} {e : Env} {s : State} {m : MethodId} {below : List Frame} {meth : Method} {c : Code} {s₁ : State} (p1008 : Int32) (p1009 : Int32) (p1010 : Int32) (p1002 : Int32) (p1003 : Int32) (p1004 : Int32) (a1005 : Addr) (a1006 : Addr) (p1007 : Int32) (a1012 : Addr) (k1020 : ClassId) (p1013 : Int32) (p1014 : Int32) (p1015 : Int32) (p1016 : Int32) (p1017 : Int32) (p1018 : Int32) (p1019 : Int32) (k1011 : ClassId) (Bd : BodyLoose p l x (head1 (Jvm.Cond.code x code maxLocals ret :: ws) room_1) code maxLocals ret e s m #[(.int p1008), (.int p1009), (.int p1010)] below meth c s₁) (hZ : Z.Warmed39 s.vm) (hml : c.maxLocals = 11) {T0 : State} {locs0 : List Loc} (X0 : Stand p l e room_1 s m #[(.int p1008), (.int p1009), (.int p1010)] below meth c T0 locs0 8 120) (h0 : Heap) (e0 : T0.heap = h0) (n0 : Nat) (O0 : Old Z n0 h0) (N0 : Fr n0 locs0) (pF_a1006_length : Fld Z h0 a1006 zs1 "length" "I" (.int (4 : Int32))) (pF_a1006_first : Fld Z h0 a1006 zs1 "first" "[I" (.ref a1012)) (pV_a1012 : Arv Z h0 a1012 k1020 .int (16 : Int32) [(.int p1007), (.int p1013), (.int p1014), (.int p1015), (.int p1016), (.int p1017), (.int p1018), (.int p1019)] (.int (0 : Int32))) (pG_a1012 : n0 ≤ a1012) (pE_a1012 : Exa Z h0 a1012 "[I") (pE_a1006 : Exa Z h0 a1006 zs1) (pN_a1006_a1012 : a1006 ≠ a1012) (pF_a1006_text : Fld Z h0 a1006 zs1 "text" "[B" (.ref a1005)) (pC1025 : ¬ (p1007 < (0 : Int32))) (pC1026 : p1007 < (2 : Int32)) (pV_a1005 : Arv Z h0 a1005 k1011 .byte (4 : Int32) [(.int (123 : Int32)), (.int (91 : Int32)), (.int (49 : Int32)), (.int (110 : Int32))] (.int (0 : Int32))) (pN_a1005_a1012 : a1005 ≠ a1012) :
    own_Goes p e below (T0.setTop (mkF m 122 #[iv p1002, iv p1003, iv p1004, rv a1005, rv a1006, iv (0 : Int32), iv p1007, iv (0 : Int32), iv (1 : Int32), .unset, .unset] [])) (own_G s below n0) := by
  have hx := Bd.exec
  have hby := Bd.bytes
  have hown : s.vm.findClass zs2 = some m.cls := findClass_of_methodNamed Bd.named
  have hnm := (name_of_methodNamed Bd.named Bd.method).1
  show own_Goes p e below (T0.setTop (mkF m 122 #[iv p1002, iv p1003, iv p1004, rv a1005, rv a1006, iv (0 : Int32), iv p1007, iv (0 : Int32), iv (1 : Int32), .unset, .unset] [])) _
  refine own_via (fun t k => XS.iloadN X0.here hx rfl (hb hby at_122) rfl (X0.ldcInt hx hown (mvT hZ (wd hw 40 rfl)) (g := (mkF m 123 #[iv p1002, iv p1003, iv p1004, rv a1005, rv a1006, iv (0 : Int32), iv p1007, iv (0 : Int32), iv (1 : Int32), .unset, .unset] [(.int p1003)])) rfl (hb hby at_123) t (XS.iand X0.here hx rfl (hb hby at_125) rfl (XS.istore X0.here hx rfl (hb hby at_126) rfl (l' := #[iv p1002, iv p1003, iv p1004, rv a1005, rv a1006, iv (0 : Int32), iv p1007, iv (0 : Int32), iv (1 : Int32), iv (p1003 &&& (2147483647 : Int32)), .unset]) rfl (XS.iloadN X0.here hx rfl (hb hby at_128) rfl (XS.iconst X0.here hx rfl (hb hby at_129) (XS.iand X0.here hx rfl (hb hby at_130) rfl k))))))) ?_
  show own_Goes p e below (T0.setTop (mkF m 131 #[iv p1002, iv p1003, iv p1004, rv a1005, rv a1006, iv (0 : Int32), iv p1007, iv (0 : Int32), iv (1 : Int32), iv (p1003 &&& (2147483647 : Int32)), .unset] [(.int (p1004 &&& (1 : Int32)))])) _
  by_cases hc1029 : (p1004 &&& (1 : Int32)) = (0 : Int32)
  · refine own_via (fun t k => XS.ifYes X0.here hx rfl (pc0 := 131) (pc' := 138) rfl (hb hby at_131) rfl ((if0 _ _).trans (teq hc1029).1) (by decide) (by decide) (XS.iconst X0.here hx rfl (hb hby at_138) (XS.istore X0.here hx rfl (hb hby at_139) rfl (l' := #[iv p1002, iv p1003, iv p1004, rv a1005, rv a1006, iv (0 : Int32), iv p1007, iv (0 : Int32), iv (1 : Int32), iv (p1003 &&& (2147483647 : Int32)), iv (0 : Int32)]) rfl k))) ?_
    show own_Goes p e below (T0.setTop (mkF m 141 #[iv p1002, iv p1003, iv p1004, rv a1005, rv a1006, iv (0 : Int32), iv p1007, iv (0 : Int32), iv (1 : Int32), iv (p1003 &&& (2147483647 : Int32)), iv (0 : Int32)] [])) _
    exact sfx4 l Z a0 hw ws p1008 p1009 p1010 p1002 p1003 p1004 a1005 a1006 p1007 (p1003 &&& (2147483647 : Int32)) a1012 k1020 p1013 p1014 p1015 p1016 p1017 p1018 p1019 k1011 Bd hZ hml X0 h0 e0 n0 O0 N0 pF_a1006_length pF_a1006_first pV_a1012 pG_a1012 pE_a1012 pE_a1006 pN_a1006_a1012 pF_a1006_text pC1025 pC1026 pV_a1005 pN_a1005_a1012 (own_nn_mask p1003 (2147483647 : Int32) 31 (by decide) (by decide))
  · refine own_via (fun t k => XS.ifNo X0.here hx rfl (hb hby at_131) rfl ((if0 _ _).trans (feq hc1029).1) (XS.iconst X0.here hx rfl (hb hby at_134) (XS.goto X0.here hx rfl (pc0 := 135) (pc' := 139) rfl (hb hby at_135) (by decide) (by decide) (XS.istore X0.here hx rfl (hb hby at_139) rfl (l' := #[iv p1002, iv p1003, iv p1004, rv a1005, rv a1006, iv (0 : Int32), iv p1007, iv (0 : Int32), iv (1 : Int32), iv (p1003 &&& (2147483647 : Int32)), iv (1 : Int32)]) rfl k)))) ?_
    show own_Goes p e below (T0.setTop (mkF m 141 #[iv p1002, iv p1003, iv p1004, rv a1005, rv a1006, iv (0 : Int32), iv p1007, iv (0 : Int32), iv (1 : Int32), iv (p1003 &&& (2147483647 : Int32)), iv (1 : Int32)] [])) _
    exact sfx5 l Z a0 hw ws p1008 p1009 p1010 p1002 p1003 p1004 a1005 a1006 p1007 (p1003 &&& (2147483647 : Int32)) a1012 k1020 p1013 p1014 p1015 p1016 p1017 p1018 p1019 k1011 Bd hZ hml X0 h0 e0 n0 O0 N0 pF_a1006_length pF_a1006_first pV_a1012 pG_a1012 pE_a1012 pE_a1006 pN_a1006_a1012 pF_a1006_text pC1025 pC1026 pV_a1005 pN_a1005_a1012 (own_nn_mask p1003 (2147483647 : Int32) 31 (by decide) (by decide))
set_option maxRecDepth 65536 in
set_option maxHeartbeats 40000000 in
theorem sfx7 (l : Launch) (Z : State) (a0 : Array Value) (hw : ∀ d ∈ tables_1, d.before a0 Z = true) (ws : List Jvm.Cond) {p : Program} {e : Env} {s : State} {m : MethodId} {below : List Frame} {meth : Method} {c : Code} {s₁ : State} (p358 : Int32) (p359 : Int32) (p360 : Int32) (p353 : Int32) (p354 : Int32) (p355 : Int32) (a356 : Addr) (a357 : Addr) (p352 : Int32) (a362 : Addr) (k370 : ClassId) (p363 : Int32) (p364 : Int32) (p365 : Int32) (p366 : Int32) (p367 : Int32) (p368 : Int32) (p369 : Int32) (k361 : ClassId) (Bd : BodyLoose p l x (head1 (Jvm.Cond.code x code maxLocals ret :: ws) room_1) code maxLocals ret e s m #[(.int p358), (.int p359), (.int p360)] below meth c s₁) (hZ : Z.Warmed39 s.vm) (hml : c.maxLocals = 11) {T0 : State} {locs0 : List Loc} (X0 : Stand p l e room_1 s m #[(.int p358), (.int p359), (.int p360)] below meth c T0 locs0 8 120) (h0 : Heap) (e0 : T0.heap = h0) (n0 : Nat) (O0 : Old Z n0 h0) (N0 : Fr n0 locs0) (pF_a357_length : Fld Z h0 a357 zs1 "length" "I" (.int (3 : Int32))) (pF_a357_first : Fld Z h0 a357 zs1 "first" "[I" (.ref a362)) (pV_a362 : Arv Z h0 a362 k370 .int (16 : Int32) [(.int p352), (.int p363), (.int p364), (.int p365), (.int p366), (.int p367), (.int p368), (.int p369)] (.int (0 : Int32))) (pG_a362 : n0 ≤ a362) (pE_a362 : Exa Z h0 a362 "[I") (pE_a357 : Exa Z h0 a357 zs1) (pN_a357_a362 : a357 ≠ a362) (pF_a357_text : Fld Z h0 a357 zs1 "text" "[B" (.ref a356)) (pC375 : ¬ (p352 < (0 : Int32))) (pC376 : p352 < (2 : Int32)) (pV_a356 : Arv Z h0 a356 k361 .byte (4 : Int32) [(.int (123 : Int32)), (.int (91 : Int32)), (.int (49 : Int32)), (.int (110 : Int32))] (.int (0 : Int32))) (pN_a356_a362 : a356 ≠ a362) (pL_a362 : own_Len Z h0 a362 .int (16 : Int32)) (pG_a357 : n0 ≤ a357) (pN_a356_a357 : a356 ≠ a357) :
    own_Goes p e below (T0.setTop (mkF m 105 #[iv p353, iv p354, iv p355, rv a356, rv a357, iv (0 : Int32), iv p352, iv (0 : Int32), iv (0 : Int32), .unset, .unset] [])) (own_G s below n0) := by
  have hx := Bd.exec
  have hby := Bd.bytes
  have hown : s.vm.findClass zs2 = some m.cls := findClass_of_methodNamed Bd.named
  have hnm := (name_of_methodNamed Bd.named Bd.method).1
  show own_Goes p e below (T0.setTop (mkF m 105 #[iv p353, iv p354, iv p355, rv a356, rv a357, iv (0 : Int32), iv p352, iv (0 : Int32), iv (0 : Int32), .unset, .unset] [])) _
  refine own_via (fun t k => XS.iloadN X0.here hx rfl (hb hby at_105) rfl (XS.bipush X0.here hx rfl (hb hby at_106) (XS.iand X0.here hx rfl (hb hby at_108) rfl k))) ?_
  show own_Goes p e below (T0.setTop (mkF m 109 #[iv p353, iv p354, iv p355, rv a356, rv a357, iv (0 : Int32), iv p352, iv (0 : Int32), iv (0 : Int32), .unset, .unset] [(.int (p353 &&& (16 : Int32)))])) _
  by_cases hc378 : (p353 &&& (16 : Int32)) = (0 : Int32)
  · refine own_via (fun t k => XS.ifYes X0.here hx rfl (pc0 := 109) (pc' := 122) rfl (hb hby at_109) rfl ((if0 _ _).trans (teq hc378).1) (by decide) (by decide) k) ?_
    exact sfx3 l Z a0 hw ws p358 p359 p360 p353 p354 p355 a356 a357 p352 a362 k370 p363 p364 p365 p366 p367 p368 p369 k361 Bd hZ hml X0 h0 e0 n0 O0 N0 pF_a357_length pF_a357_first pV_a362 pG_a362 pE_a362 pE_a357 pN_a357_a362 pF_a357_text pC375 pC376 pV_a356 pN_a356_a362
  · refine own_via (fun t k => XS.ifNo X0.here hx rfl (hb hby at_109) rfl ((if0 _ _).trans (feq hc378).1) (XS.aload X0.here hx rfl (hb hby at_112) rfl rfl (XS.iconst X0.here hx rfl (hb hby at_114) k))) ?_
    show own_Goes p e below (T0.setTop (mkF m 115 #[iv p353, iv p354, iv p355, rv a356, rv a357, iv (0 : Int32), iv p352, iv (0 : Int32), iv (0 : Int32), .unset, .unset] [(.int (3 : Int32)), (.ref a357)])) _
    obtain ⟨_, T953, _, X953, hQ953, st953⟩ := own_cv X0 hx hZ hown (wd hw 74 rfl) (wd hw 34 rfl) (wd hw 36 rfl) (wd hw 35 rfl) (wd hw 37 rfl) (wd hw 3 rfl) (by decide) (rm19 l Z a0 hw [] a357 a362 k370 p352 p363 p364 p365 p366 p367 p368 p369 a356 h0 n0 O0 pF_a357_length pF_a357_first pL_a362 pV_a362 pG_a362 pN_a357_a362 pE_a357 pG_a357 pE_a362 pF_a357_text) e0 pE_a357 (g := (mkF m 115 #[iv p353, iv p354, iv p355, rv a356, rv a357, iv (0 : Int32), iv p352, iv (0 : Int32), iv (0 : Int32), .unset, .unset] [(.int (3 : Int32)), (.ref a357)])) rfl (by rw [hml]; rfl) (rest := []) (W := 0) (lenOf pd_3 rfl) rfl (by show 2 * 0 + _ ≤ _; exact Nat.le_of_eq rfl) (hb hby at_115) (by decide) (by decide) (by decide) (by decide)
    obtain ⟨h953, e953⟩ : ∃ z, T953.heap = z := ⟨_, rfl⟩
    rw [e953] at hQ953
    obtain ⟨rfl, Nq953, K953, ex996, vx997, ex998, fx999, fx1000, fx1001⟩ := hQ953
    have N953 := Fr.app N0 Nq953
    refine own_via (fun t k => st953 t (XS.pop X953.here hx rfl (hb hby at_118) rfl rfl (XS.iinc X953.here hx rfl (hb hby at_119) rfl (l' := #[iv p353, iv p354, iv p355, rv a356, rv a357, iv (0 : Int32), iv p352, iv (0 : Int32), iv (1 : Int32), .unset, .unset]) rfl k))) ?_
    show own_Goes p e below (T953.setTop (mkF m 122 #[iv p353, iv p354, iv p355, rv a356, rv a357, iv (0 : Int32), iv p352, iv (0 : Int32), iv (1 : Int32), .unset, .unset] [])) _
    have V1126 : Arv Z h953 a356 k361 .byte (4 : Int32) [(.int (123 : Int32)), (.int (91 : Int32)), (.int (49 : Int32)), (.int (110 : Int32))] (.int (0 : Int32)) := (pV_a356.keep K953 (ninS pN_a356_a362 (ninS pN_a356_a357 nin0)))
    have O1127 : Old Z n0 h953 := (O0.keep K953 (allS pG_a362 (allS pG_a357 all0)))
    exact sfx6 l Z a0 hw ws p358 p359 p360 p353 p354 p355 a356 a357 p352 a362 k370 p363 p364 (3 : Int32) p366 p367 p368 p369 k361 Bd hZ hml X953 h953 e953 n0 O1127 N953 fx1001 fx1000 vx997 pG_a362 ex996 ex998 pN_a357_a362 fx999 pC375 pC376 V1126 pN_a356_a362
def Q20 (Z : State) (a1168 : Addr) (a1175 : Addr) (k1184 : ClassId) (p1176 : Int32) (p1177 : Int32) (p1178 : Int32) (p1179 : Int32) (p1180 : Int32) (p1181 : Int32) (p1182 : Int32) (p1183 : Int32) (a1169 : Addr) (h0 : Heap) (n0 : Nat) (v : Option Value) (h : Heap) (L : List Loc) : Prop := v = some (.int (4 : Int32)) ∧ Fr n0 L ∧ Keep h0 h [a1175, a1168] ∧ Exa Z h a1175 "[I" ∧ Arv Z h a1175 k1184 .int (16 : Int32) [(.int p1176), (.int p1177), (.int p1178), (.int p1179), (.int (3 : Int32)), (.int p1181), (.int p1182), (.int p1183)] (.int (0 : Int32)) ∧ Exa Z h a1168 zs1 ∧ Fld Z h a1168 zs1 "text" "[B" (.ref a1169) ∧ Fld Z h a1168 zs1 "first" "[I" (.ref a1175) ∧ Fld Z h a1168 zs1 "length" "I" (.int (5 : Int32))
set_option maxRecDepth 65536 in
set_option maxHeartbeats 40000000 in
theorem rm20 (l : Launch) (Z : State) (a0 : Array Value) (hw : ∀ d ∈ tables_1, d.before a0 Z = true) (ws : List Jvm.Cond) (a1168 : Addr) (a1175 : Addr) (k1184 : ClassId) (p1176 : Int32) (p1177 : Int32) (p1178 : Int32) (p1179 : Int32) (p1180 : Int32) (p1181 : Int32) (p1182 : Int32) (p1183 : Int32) (a1169 : Addr) (h0 : Heap) (n0 : Nat) (O0 : Old Z n0 h0) (pF_a1168_length : Fld Z h0 a1168 zs1 "length" "I" (.int (4 : Int32))) (pF_a1168_first : Fld Z h0 a1168 zs1 "first" "[I" (.ref a1175)) (pL_a1175 : own_Len Z h0 a1175 .int (16 : Int32)) (pV_a1175 : Arv Z h0 a1175 k1184 .int (16 : Int32) [(.int p1176), (.int p1177), (.int p1178), (.int p1179), (.int p1180), (.int p1181), (.int p1182), (.int p1183)] (.int (0 : Int32))) (pG_a1175 : n0 ≤ a1175) (pN_a1168_a1175 : a1168 ≠ a1175) (pE_a1168 : Exa Z h0 a1168 zs1) (pG_a1168 : n0 ≤ a1168) (pE_a1175 : Exa Z h0 a1175 "[I") (pF_a1168_text : Fld Z h0 a1168 zs1 "text" "[B" (.ref a1169)) :
    MetFree l (⟨zs1, "add", "(I)I"⟩ : MethodName) (head1 (Jvm.Cond.code (⟨zs1, "add", "(I)I"⟩ : MethodName) prog_17_method_2_code 2 (some .int) :: ws) ({ frames := 0, cells := 0, slots := 0, locals := 0 } : Room)) (fun a U => a = #[(.ref a1168), (.int (3 : Int32))] ∧ Z.Warmed39 U.vm ∧ U.heap = h0) (fun _ _ _ _ _ => True) (fun _ U o U' => ∃ v L, o = .returned v ∧ Q20 Z a1168 a1175 k1184 p1176 p1177 p1178 p1179 p1180 p1181 p1182 p1183 a1169 h0 n0 v U'.heap L ∧ FrameEnd U o U' L ({ frames := 0, cells := 0, slots := 0, locals := 0 } : Room).cells ({ frames := 0, cells := 0, slots := 0, locals := 0 } : Room).slots) := by
  refine MetFree.of_bodySF (plainFor_of_name pn_1) hisR ?_
  intro p e s m args below meth c s₁ Bd hml0 hP hK
  obtain ⟨rfl, hZ, hh⟩ := hP
  have hx := Bd.exec
  have hby := Bd.bytes
  have hml : c.maxLocals = 2 := hml0
  have hown : s.vm.findClass zs1 = some m.cls := findClass_of_methodNamed Bd.named
  have hnm := (name_of_methodNamed Bd.named Bd.method).1
  have X0 : Stand p l e ({ frames := 0, cells := 0, slots := 0, locals := 0 } : Room) s m #[(.ref a1168), (.int (3 : Int32))] below meth c s₁ [] 0 0 := Stand.of_body Bd
  have e0 : s₁.heap = h0 := by rw [← hh, Bd.state]; rfl
  have N0 := Fr.nil n0
  refine own_out ?_
  refine own_via (fun t k => castTop (ef_3 m a1168 (3 : Int32)) (XS.aloadN X0.here hx rfl (hb hby d5_0) rfl rfl k)) ?_
  obtain ⟨T1194, X1194, e1194, st1194⟩ := getF X0 hx hZ hown (host := "") (Or.inl (wd hw 38 rfl)) Via.refl e0 pF_a1168_length (g := (mkF m 1 #[rv a1168, iv (3 : Int32)] [(.ref a1168)])) rfl rfl (hb hby d5_1)
  refine own_via (fun t k => st1194 t (XS.aloadN X1194.here hx rfl (hb hby d5_4) rfl rfl k)) ?_
  obtain ⟨T1195, X1195, e1195, st1195⟩ := getF X1194 hx hZ hown (host := "") (Or.inl (wd hw 25 rfl)) Via.refl e1194 pF_a1168_first (g := (mkF m 5 #[rv a1168, iv (3 : Int32)] [(.ref a1168), (.int (4 : Int32))])) rfl rfl (hb hby d5_5)
  refine own_via (fun t k => st1195 t k) ?_
  obtain ⟨_, _, _, V1196⟩ := id (pL_a1175)
  obtain ⟨cl1196, Ar1196, -, S1196, M1196, -, -⟩ := id (V1196)
  refine own_via (fun t k => X1195.arraylength hx (by rw [e1195]; exact Ar1196.1) (State.isArrayOf_alike hZ.alike Ar1196.2.1) (g := (mkF m 8 #[rv a1168, iv (3 : Int32)] [(.ref a1175), (.int (4 : Int32))])) rfl rfl (hb hby d5_8) t k) ?_
  rw [len_of S1196 M1196]
  show own_Goes p e below (T1195.setTop (mkF m 9 #[rv a1168, iv (3 : Int32)] [(.int (16 : Int32)), (.int (4 : Int32))])) _
  refine own_via (fun t k => XS.icmpNo X1195.here hx rfl (hb hby d5_9) rfl (tlt (by decide : (4 : Int32) < (16 : Int32))).2.1 (XS.aloadN X1195.here hx rfl (hb hby d5_12) rfl rfl k)) ?_
  obtain ⟨T1197, X1197, e1197, st1197⟩ := getF X1195 hx hZ hown (host := "") (Or.inl (wd hw 25 rfl)) Via.refl e1195 pF_a1168_first (g := (mkF m 13 #[rv a1168, iv (3 : Int32)] [(.ref a1168)])) rfl rfl (hb hby d5_13)
  refine own_via (fun t k => st1197 t (XS.aloadN X1197.here hx rfl (hb hby d5_16) rfl rfl k)) ?_
  obtain ⟨T1198, X1198, e1198, st1198⟩ := getF X1197 hx hZ hown (host := "") (Or.inl (wd hw 38 rfl)) Via.refl e1197 pF_a1168_length (g := (mkF m 17 #[rv a1168, iv (3 : Int32)] [(.ref a1168), (.ref a1175)])) rfl rfl (hb hby d5_17)
  refine own_via (fun t k => st1198 t (XS.iloadN X1198.here hx rfl (hb hby d5_20) rfl k)) ?_
  obtain ⟨cl1199, Ar1199, qq1199, S1199, M1199, H1199, G1199⟩ := id (pV_a1175)
  have hin1199 : ¬ ((4 : Int32) < 0 ∨ cl1199.slots.size ≤ ((4 : Int32)).toNatClampNeg) := inb_of S1199 ⟨by decide, by decide⟩
  obtain ⟨T1199, h1199, X1199, e1199, W1199, st1199⟩ := stI X1198 hx hZ e1198 Ar1199 (j := (4 : Int32)) hin1199 (g := (mkF m 21 #[rv a1168, iv (3 : Int32)] [(.int (3 : Int32)), (.int (4 : Int32)), (.ref a1175)])) rfl rfl (hb hby d5_21)
  refine own_via (fun t k => st1199 t k) ?_
  have V1200 : Arv Z h1199 a1175 k1184 .int (16 : Int32) [(.int p1176), (.int p1177), (.int p1178), (.int p1179), (.int (3 : Int32)), (.int p1181), (.int p1182), (.int p1183)] (.int (0 : Int32)) := Arv.set Ar1199 qq1199 S1199 M1199 H1199 G1199 rfl W1199 4 rfl (Nat.le_of_ble_eq_true rfl)
  have N1199 := Fr.snoc X1199 N0 pG_a1175
  show own_Goes p e below (T1199.setTop (mkF m 22 #[rv a1168, iv (3 : Int32)] [])) _
  refine own_via (fun t k => XS.aloadN X1199.here hx rfl (hb hby d5_22) rfl rfl (XS.dup X1199.here hx rfl (hb hby d5_23) rfl rfl k)) ?_
  have F1201 : Fld Z h1199 a1168 zs1 "length" "I" (.int (4 : Int32)) := (pF_a1168_length.other W1199 (Or.inl pN_a1168_a1175))
  obtain ⟨T1202, X1202, e1202, st1202⟩ := getF X1199 hx hZ hown (host := "") (Or.inl (wd hw 38 rfl)) Via.refl e1199 F1201 (g := (mkF m 24 #[rv a1168, iv (3 : Int32)] [(.ref a1168), (.ref a1168)])) rfl rfl (hb hby d5_24)
  refine own_via (fun t k => st1202 t (XS.dupX1 X1202.here hx rfl (hb hby d5_27) rfl rfl rfl (XS.iconst X1202.here hx rfl (hb hby d5_28) (XS.iadd X1202.here hx rfl (hb hby d5_29) rfl k)))) ?_
  show own_Goes p e below (T1202.setTop (mkF m 30 #[rv a1168, iv (3 : Int32)] [(.int (5 : Int32)), (.ref a1168), (.int (4 : Int32))])) _
  have E1203 : Exa Z h1199 a1168 zs1 := (pE_a1168.wr W1199)
  obtain ⟨T1204, h1204, X1204, e1204, W1204, st1204⟩ := putF X1202 hx hZ hown (host := "") (Or.inl (wd hw 38 rfl)) Via.refl e1202 F1201 E1203 (Or.inl (wd hw 39 rfl)) (wd hw 2 rfl) (ty := .int) (by decide) rfl rfl (g := (mkF m 30 #[rv a1168, iv (3 : Int32)] [(.int (5 : Int32)), (.ref a1168), (.int (4 : Int32))])) rfl rfl (hb hby d5_30)
  refine own_via (fun t k => st1204 t k) ?_
  have Fw1204 : Fld Z h1204 a1168 zs1 "length" "I" (.int (5 : Int32)) := F1201.same W1204
  have N1204 := Fr.snoc X1204 N1199 pG_a1168
  show own_Goes p e below (T1204.setTop (mkF m 33 #[rv a1168, iv (3 : Int32)] [(.int (4 : Int32))])) _
  obtain ⟨fs, hr, hrun, hended, hW, hsame⟩ := X1204.leave (v := some (.int (4 : Int32))) (fun h => by rw [Bd.returns] at h; cases h)
  refine own_end (t := T1204.setFrames fs) ?_ ⟨_, hrun, hended, _, _, rfl, ?_, ⟨_, rfl⟩, hW, hsame.mono (by decide) (by decide)⟩
  · exact retI X1204 hx Bd.returns (hb hby d5_33) hr
  have E1205 : Exa Z h1204 a1175 "[I" := ((pE_a1175.wr W1199).wr W1204)
  have V1206 : Arv Z h1204 a1175 k1184 .int (16 : Int32) [(.int p1176), (.int p1177), (.int p1178), (.int p1179), (.int (3 : Int32)), (.int p1181), (.int p1182), (.int p1183)] (.int (0 : Int32)) := (V1200.other W1204 (Ne.symm pN_a1168_a1175))
  have E1207 : Exa Z h1204 a1168 zs1 := (E1203.wr W1204)
  have F1208 : Fld Z h1204 a1168 zs1 "text" "[B" (.ref a1169) := ((pF_a1168_text.other W1199 (Or.inl pN_a1168_a1175)).other W1204 (Or.inr (slot_ne (Or.inr (wd hw 19 rfl)) (Or.inl (wd hw 39 rfl)) (by decide) (t := (.array .byte)) (t' := .int) (by decide) (by decide))))
  have F1209 : Fld Z h1204 a1168 zs1 "first" "[I" (.ref a1175) := ((pF_a1168_first.other W1199 (Or.inl pN_a1168_a1175)).other W1204 (Or.inr (slot_ne (Or.inl (wd hw 26 rfl)) (Or.inl (wd hw 39 rfl)) (by decide) (t := (.array .int)) (t' := .int) (by decide) (by decide))))
  · show Q20 Z a1168 a1175 k1184 p1176 p1177 p1178 p1179 p1180 p1181 p1182 p1183 a1169 h0 n0 _ T1204.heap _
    rw [e1204]
    exact ⟨rfl, N1204, (((Keep.refl h0 [a1175, a1168]).wr W1199 (Or.inl (List.mem_of_getElem? (i := 0) rfl))).wr W1204 (Or.inl (List.mem_of_getElem? (i := 1) rfl))), E1205, V1206, E1207, F1208, F1209, Fw1204⟩
set_option maxRecDepth 65536 in
set_option maxHeartbeats 40000000 in
theorem sfx8 (l : Launch) (Z : State) (a0 : Array Value) (hw : ∀ d ∈ tables_1, d.before a0 Z = true) (ws : List Jvm.Cond) {p : Program} {e : Env} {s : State} {m : MethodId} {below : List Frame} {meth : Method} {c : Code} {s₁ : State} (p1251 : Int32) (p1252 : Int32) (p1253 : Int32) (p1245 : Int32) (p1246 : Int32) (p1247 : Int32) (a1248 : Addr) (a1249 : Addr) (p1250 : Int32) (p1244 : Int32) (a1255 : Addr) (k1263 : ClassId) (p1256 : Int32) (p1257 : Int32) (p1258 : Int32) (p1259 : Int32) (p1260 : Int32) (p1261 : Int32) (p1262 : Int32) (k1254 : ClassId) (Bd : BodyLoose p l x (head1 (Jvm.Cond.code x code maxLocals ret :: ws) room_1) code maxLocals ret e s m #[(.int p1251), (.int p1252), (.int p1253)] below meth c s₁) (hZ : Z.Warmed39 s.vm) (hml : c.maxLocals = 11) {T0 : State} {locs0 : List Loc} (X0 : Stand p l e room_1 s m #[(.int p1251), (.int p1252), (.int p1253)] below meth c T0 locs0 8 120) (h0 : Heap) (e0 : T0.heap = h0) (n0 : Nat) (O0 : Old Z n0 h0) (N0 : Fr n0 locs0) (pF_a1249_length : Fld Z h0 a1249 zs1 "length" "I" (.int (5 : Int32))) (pF_a1249_first : Fld Z h0 a1249 zs1 "first" "[I" (.ref a1255)) (pV_a1255 : Arv Z h0 a1255 k1263 .int (16 : Int32) [(.int p1250), (.int p1256), (.int p1257), (.int p1258), (.int p1259), (.int p1260), (.int p1261), (.int p1262)] (.int (0 : Int32))) (pG_a1255 : n0 ≤ a1255) (pE_a1255 : Exa Z h0 a1255 "[I") (pE_a1249 : Exa Z h0 a1249 zs1) (pN_a1249_a1255 : a1249 ≠ a1255) (pF_a1249_text : Fld Z h0 a1249 zs1 "text" "[B" (.ref a1248)) (pC1268 : ¬ (p1250 < (0 : Int32))) (pC1269 : p1250 < (2 : Int32)) (pV_a1248 : Arv Z h0 a1248 k1254 .byte (4 : Int32) [(.int (123 : Int32)), (.int (91 : Int32)), (.int (49 : Int32)), (.int (110 : Int32))] (.int (0 : Int32))) (pN_a1248_a1255 : a1248 ≠ a1255) (pC1272 : ¬ (p1244 < (0 : Int32))) :
    own_Goes p e below (T0.setTop (mkF m 141 #[iv p1245, iv p1246, iv p1247, rv a1248, rv a1249, iv (0 : Int32), iv p1250, iv (0 : Int32), iv (2 : Int32), iv p1244, iv (0 : Int32)] [])) (own_G s below n0) := by
  have hx := Bd.exec
  have hby := Bd.bytes
  have hown : s.vm.findClass zs2 = some m.cls := findClass_of_methodNamed Bd.named
  have hnm := (name_of_methodNamed Bd.named Bd.method).1
  show own_Goes p e below (T0.setTop (mkF m 141 #[iv p1245, iv p1246, iv p1247, rv a1248, rv a1249, iv (0 : Int32), iv p1250, iv (0 : Int32), iv (2 : Int32), iv p1244, iv (0 : Int32)] [])) _
  refine own_via (fun t k => XS.aload X0.here hx rfl (hb hby at_141) rfl rfl (XS.iload X0.here hx rfl (hb hby at_143) rfl (XS.iload X0.here hx rfl (hb hby at_145) rfl (XS.iload X0.here hx rfl (hb hby at_147) rfl k)))) ?_
  show own_Goes p e below (T0.setTop (mkF m 149 #[iv p1245, iv p1246, iv p1247, rv a1248, rv a1249, iv (0 : Int32), iv p1250, iv (0 : Int32), iv (2 : Int32), iv p1244, iv (0 : Int32)] [(.int (0 : Int32)), (.int p1244), (.int (0 : Int32)), (.ref a1249)])) _
  obtain ⟨_, T1276, _, X1276, hQ1276, st1276⟩ := own_cv X0 hx hZ hown (wd hw 41 rfl) (wd hw 42 rfl) (wd hw 44 rfl) (wd hw 43 rfl) (wd hw 45 rfl) (wd hw 3 rfl) (by decide) (rm9 l Z a0 hw [] a1249 p1244 (5 : Int32) a1255 k1263 p1250 p1256 p1257 p1258 p1259 p1260 p1261 p1262 h0 n0 O0 pF_a1249_length pF_a1249_first pV_a1255 pG_a1255 pE_a1255 pE_a1249 pN_a1249_a1255) e0 pE_a1249 (g := (mkF m 149 #[iv p1245, iv p1246, iv p1247, rv a1248, rv a1249, iv (0 : Int32), iv p1250, iv (0 : Int32), iv (2 : Int32), iv p1244, iv (0 : Int32)] [(.int (0 : Int32)), (.int p1244), (.int (0 : Int32)), (.ref a1249)])) rfl (by rw [hml]; rfl) (rest := []) (W := 0) (lenOf pd_5 rfl) rfl (by show 2 * 0 + _ ≤ _; exact Nat.le_of_eq rfl) (hb hby at_149) (by decide) (by decide) (by decide) (by decide)
  obtain ⟨h1276, e1276⟩ : ∃ z, T1276.heap = z := ⟨_, rfl⟩
  rw [e1276] at hQ1276
  obtain ⟨rfl, Nq1276, K1276, ex1277, vx1278⟩ := hQ1276
  have N1276 := Fr.app N0 Nq1276
  refine own_via (fun t k => st1276 t (XS.iload X1276.here hx rfl (hb hby at_152) rfl (XS.iload X1276.here hx rfl (hb hby at_154) rfl (XS.icmpNo X1276.here hx rfl (hb hby at_156) rfl (teq (by decide : (0 : Int32) = (0 : Int32))).2 (XS.aload X1276.here hx rfl (hb hby at_159) rfl rfl (XS.iload X1276.here hx rfl (hb hby at_161) rfl k)))))) ?_
  show own_Goes p e below (T1276.setTop (mkF m 163 #[iv p1245, iv p1246, iv p1247, rv a1248, rv a1249, iv (0 : Int32), iv p1250, iv (0 : Int32), iv (2 : Int32), iv p1244, iv (0 : Int32)] [(.int (0 : Int32)), (.ref a1249)])) _
  have F1280 : Fld Z h1276 a1249 zs1 "first" "[I" (.ref a1255) := (pF_a1249_first.keep K1276 (ninS pN_a1249_a1255 nin0))
  have E1281 : Exa Z h1276 a1249 zs1 := (pE_a1249.keep K1276)
  have O1282 : Old Z n0 h1276 := (O0.keep K1276 (allS pG_a1255 all0))
  obtain ⟨_, T1279, _, X1279, hQ1279, st1279⟩ := own_cv X1276 hx hZ hown (wd hw 50 rfl) (wd hw 51 rfl) (wd hw 53 rfl) (wd hw 52 rfl) (wd hw 54 rfl) (wd hw 3 rfl) (by decide) (rm11 l Z a0 hw [] a1249 a1255 k1263 p1250 (5 : Int32) ((p1244 <<< ((1 : Int32) &&& 31)) ||| (0 : Int32)) p1258 p1259 p1260 p1261 p1262 h1276 n0 O1282 F1280 vx1278 E1281) e1276 E1281 (g := (mkF m 163 #[iv p1245, iv p1246, iv p1247, rv a1248, rv a1249, iv (0 : Int32), iv p1250, iv (0 : Int32), iv (2 : Int32), iv p1244, iv (0 : Int32)] [(.int (0 : Int32)), (.ref a1249)])) rfl (by rw [hml]; rfl) (rest := []) (W := 0) (lenOf pd_3 rfl) rfl (by show 2 * 0 + _ ≤ _; exact Nat.le_of_eq rfl) (hb hby at_163) (by decide) (by decide) (by decide) (by decide)
  obtain ⟨rfl, Nq1279, hh1283⟩ := hQ1279
  have N1279 := Fr.app N1276 Nq1279
  refine own_via (fun t k => st1279 t (XS.iload X1279.here hx rfl (hb hby at_166) rfl (XS.icmpNo X1279.here hx rfl (hb hby at_168) rfl (teq (rfl : p1250 = p1250)).2 (XS.aload X1279.here hx rfl (hb hby at_171) rfl rfl (XS.iload X1279.here hx rfl (hb hby at_173) rfl k))))) ?_
  show own_Goes p e below (T1279.setTop (mkF m 175 #[iv p1245, iv p1246, iv p1247, rv a1248, rv a1249, iv (0 : Int32), iv p1250, iv (0 : Int32), iv (2 : Int32), iv p1244, iv (0 : Int32)] [(.int (0 : Int32)), (.ref a1249)])) _
  have F1285 : Fld Z h1276 a1249 zs1 "text" "[B" (.ref a1248) := (pF_a1249_text.keep K1276 (ninS pN_a1249_a1255 nin0))
  have V1286 : Arv Z h1276 a1248 k1254 .byte (4 : Int32) [(.int (123 : Int32)), (.int (91 : Int32)), (.int (49 : Int32)), (.int (110 : Int32))] (.int (0 : Int32)) := (pV_a1248.keep K1276 (ninS pN_a1248_a1255 nin0))
  obtain ⟨_, T1284, _, X1284, hQ1284, st1284⟩ := own_cv X1279 hx hZ hown (wd hw 59 rfl) (wd hw 60 rfl) (wd hw 62 rfl) (wd hw 61 rfl) (wd hw 63 rfl) (wd hw 3 rfl) (by decide) (rm13 l Z a0 hw [] a1249 a1248 a1255 k1263 p1250 (5 : Int32) ((p1244 <<< ((1 : Int32) &&& 31)) ||| (0 : Int32)) p1258 p1259 p1260 p1261 p1262 k1254 (49 : Int32) (110 : Int32) h1276 n0 O1282 F1285 F1280 vx1278 E1281 pC1268 pC1269 V1286) hh1283 E1281 (g := (mkF m 175 #[iv p1245, iv p1246, iv p1247, rv a1248, rv a1249, iv (0 : Int32), iv p1250, iv (0 : Int32), iv (2 : Int32), iv p1244, iv (0 : Int32)] [(.int (0 : Int32)), (.ref a1249)])) rfl (by rw [hml]; rfl) (rest := []) (W := 0) (lenOf pd_3 rfl) rfl (by show 2 * 0 + _ ≤ _; exact Nat.le_of_eq rfl) (hb hby at_175) (by decide) (by decide) (by decide) (by decide)
  obtain ⟨rfl, Nq1284, hh1287⟩ := hQ1284
  have N1284 := Fr.app N1279 Nq1284
  refine own_via (fun t k => st1284 t (XS.iload X1284.here hx rfl (hb hby at_178) rfl (XS.iconst X1284.here hx rfl (hb hby at_180) (XS.iadd X1284.here hx rfl (hb hby at_181) rfl (XS.iload X1284.here hx rfl (hb hby at_182) rfl (XS.iadd X1284.here hx rfl (hb hby at_184) rfl (XS.icmpNo X1284.here hx rfl (hb hby at_185) rfl (teq (by decide : (5 : Int32) = (5 : Int32))).2 (XS.aload X1284.here hx rfl (hb hby at_188) rfl rfl (XS.iload X1284.here hx rfl (hb hby at_190) rfl k))))))))) ?_
  show own_Goes p e below (T1284.setTop (mkF m 192 #[iv p1245, iv p1246, iv p1247, rv a1248, rv a1249, iv (0 : Int32), iv p1250, iv (0 : Int32), iv (2 : Int32), iv p1244, iv (0 : Int32)] [(.int (0 : Int32)), (.ref a1249)])) _
  obtain ⟨_, T1288, _, X1288, hQ1288, st1288⟩ := own_cv X1284 hx hZ hown (wd hw 64 rfl) (wd hw 65 rfl) (wd hw 67 rfl) (wd hw 66 rfl) (wd hw 68 rfl) (wd hw 3 rfl) (by decide) (rm15 l Z a0 hw [] a1249 a1255 k1263 p1250 (5 : Int32) ((p1244 <<< ((1 : Int32) &&& 31)) ||| (0 : Int32)) p1258 p1259 p1260 p1261 p1262 h1276 n0 O1282 F1280 vx1278 E1281) hh1287 E1281 (g := (mkF m 192 #[iv p1245, iv p1246, iv p1247, rv a1248, rv a1249, iv (0 : Int32), iv p1250, iv (0 : Int32), iv (2 : Int32), iv p1244, iv (0 : Int32)] [(.int (0 : Int32)), (.ref a1249)])) rfl (by rw [hml]; rfl) (rest := []) (W := 0) (lenOf pd_3 rfl) rfl (by show 2 * 0 + _ ≤ _; exact Nat.le_of_eq rfl) (hb hby at_192) (by decide) (by decide) (by decide) (by decide)
  obtain ⟨rfl, Nq1288, hh1289⟩ := hQ1288
  have N1288 := Fr.app N1284 Nq1288
  refine own_via (fun t k => st1288 t (XS.iload X1288.here hx rfl (hb hby at_195) rfl (XS.icmpNo X1288.here hx rfl (hb hby at_197) rfl (teq (own_cnt p1244 0 pC1272 (by decide))).2 (XS.aload X1288.here hx rfl (hb hby at_200) rfl rfl (XS.iload X1288.here hx rfl (hb hby at_202) rfl k))))) ?_
  show own_Goes p e below (T1288.setTop (mkF m 204 #[iv p1245, iv p1246, iv p1247, rv a1248, rv a1249, iv (0 : Int32), iv p1250, iv (0 : Int32), iv (2 : Int32), iv p1244, iv (0 : Int32)] [(.int (0 : Int32)), (.ref a1249)])) _
  obtain ⟨_, T1290, _, X1290, hQ1290, st1290⟩ := own_cv X1288 hx hZ hown (wd hw 69 rfl) (wd hw 70 rfl) (wd hw 72 rfl) (wd hw 71 rfl) (wd hw 73 rfl) (wd hw 3 rfl) (by decide) (rm16 l Z a0 hw [] a1249 a1255 k1263 p1250 (5 : Int32) ((p1244 <<< ((1 : Int32) &&& 31)) ||| (0 : Int32)) p1258 p1259 p1260 p1261 p1262 h1276 n0 O1282 F1280 vx1278 E1281 (own_rep0 p1244)) hh1289 E1281 (g := (mkF m 204 #[iv p1245, iv p1246, iv p1247, rv a1248, rv a1249, iv (0 : Int32), iv p1250, iv (0 : Int32), iv (2 : Int32), iv p1244, iv (0 : Int32)] [(.int (0 : Int32)), (.ref a1249)])) rfl (by rw [hml]; rfl) (rest := []) (W := 0) (lenOf pd_6 rfl) rfl (by show 2 * 0 + _ ≤ _; exact Nat.le_of_eq rfl) (hb hby at_204) (by decide) (by decide) (by decide) (by decide)
  obtain ⟨rfl, Nq1290, hh1291⟩ := hQ1290
  have N1290 := Fr.app N1288 Nq1290
  refine own_via (fun t k => st1290 t (XS.iload X1290.here hx rfl (hb hby at_207) rfl (XS.icmpNo X1290.here hx rfl (hb hby at_209) rfl (teq (by decide : (0 : Int32) = (0 : Int32))).2 (XS.iconst X1290.here hx rfl (hb hby at_212) (XS.goto X1290.here hx rfl (pc0 := 213) (pc' := 217) rfl (hb hby at_213) (by decide) (by decide) k))))) ?_
  show own_Goes p e below (T1290.setTop (mkF m 217 #[iv p1245, iv p1246, iv p1247, rv a1248, rv a1249, iv (0 : Int32), iv p1250, iv (0 : Int32), iv (2 : Int32), iv p1244, iv (0 : Int32)] [(.int (1 : Int32))])) _
  obtain ⟨fs, hr, hrun, hended, hW, hsame⟩ := X1290.leave (v := some (.int (1 : Int32))) (fun h => by rw [Bd.returns] at h; cases h)
  refine own_end (t := T1290.setFrames fs) ?_ ⟨_, hrun, hended, _, _, rfl, ?_, ⟨_, rfl⟩, hW, hsame.mono (by decide) (by decide)⟩
  · exact retN X1290 hx (t := .boolean) Bd.returns (by simp) (hb hby at_217) hr
  · exact ⟨rfl, N1290⟩
set_option maxRecDepth 65536 in
set_option maxHeartbeats 40000000 in
theorem sfx9 (l : Launch) (Z : State) (a0 : Array Value) (hw : ∀ d ∈ tables_1, d.before a0 Z = true) (ws : List Jvm.Cond) {p : Program} {e : Env} {s : State} {m : MethodId} {below : List Frame} {meth : Method} {c : Code} {s₁ : State} (p1299 : Int32) (p1300 : Int32) (p1301 : Int32) (p1293 : Int32) (p1294 : Int32) (p1295 : Int32) (a1296 : Addr) (a1297 : Addr) (p1298 : Int32) (p1292 : Int32) (a1303 : Addr) (k1311 : ClassId) (p1304 : Int32) (p1305 : Int32) (p1306 : Int32) (p1307 : Int32) (p1308 : Int32) (p1309 : Int32) (p1310 : Int32) (k1302 : ClassId) (Bd : BodyLoose p l x (head1 (Jvm.Cond.code x code maxLocals ret :: ws) room_1) code maxLocals ret e s m #[(.int p1299), (.int p1300), (.int p1301)] below meth c s₁) (hZ : Z.Warmed39 s.vm) (hml : c.maxLocals = 11) {T0 : State} {locs0 : List Loc} (X0 : Stand p l e room_1 s m #[(.int p1299), (.int p1300), (.int p1301)] below meth c T0 locs0 8 120) (h0 : Heap) (e0 : T0.heap = h0) (n0 : Nat) (O0 : Old Z n0 h0) (N0 : Fr n0 locs0) (pF_a1297_length : Fld Z h0 a1297 zs1 "length" "I" (.int (5 : Int32))) (pF_a1297_first : Fld Z h0 a1297 zs1 "first" "[I" (.ref a1303)) (pV_a1303 : Arv Z h0 a1303 k1311 .int (16 : Int32) [(.int p1298), (.int p1304), (.int p1305), (.int p1306), (.int p1307), (.int p1308), (.int p1309), (.int p1310)] (.int (0 : Int32))) (pG_a1303 : n0 ≤ a1303) (pE_a1303 : Exa Z h0 a1303 "[I") (pE_a1297 : Exa Z h0 a1297 zs1) (pN_a1297_a1303 : a1297 ≠ a1303) (pF_a1297_text : Fld Z h0 a1297 zs1 "text" "[B" (.ref a1296)) (pC1316 : ¬ (p1298 < (0 : Int32))) (pC1317 : p1298 < (2 : Int32)) (pV_a1296 : Arv Z h0 a1296 k1302 .byte (4 : Int32) [(.int (123 : Int32)), (.int (91 : Int32)), (.int (49 : Int32)), (.int (110 : Int32))] (.int (0 : Int32))) (pN_a1296_a1303 : a1296 ≠ a1303) (pC1320 : ¬ (p1292 < (0 : Int32))) :
    own_Goes p e below (T0.setTop (mkF m 141 #[iv p1293, iv p1294, iv p1295, rv a1296, rv a1297, iv (0 : Int32), iv p1298, iv (0 : Int32), iv (2 : Int32), iv p1292, iv (1 : Int32)] [])) (own_G s below n0) := by
  have hx := Bd.exec
  have hby := Bd.bytes
  have hown : s.vm.findClass zs2 = some m.cls := findClass_of_methodNamed Bd.named
  have hnm := (name_of_methodNamed Bd.named Bd.method).1
  show own_Goes p e below (T0.setTop (mkF m 141 #[iv p1293, iv p1294, iv p1295, rv a1296, rv a1297, iv (0 : Int32), iv p1298, iv (0 : Int32), iv (2 : Int32), iv p1292, iv (1 : Int32)] [])) _
  refine own_via (fun t k => XS.aload X0.here hx rfl (hb hby at_141) rfl rfl (XS.iload X0.here hx rfl (hb hby at_143) rfl (XS.iload X0.here hx rfl (hb hby at_145) rfl (XS.iload X0.here hx rfl (hb hby at_147) rfl k)))) ?_
  show own_Goes p e below (T0.setTop (mkF m 149 #[iv p1293, iv p1294, iv p1295, rv a1296, rv a1297, iv (0 : Int32), iv p1298, iv (0 : Int32), iv (2 : Int32), iv p1292, iv (1 : Int32)] [(.int (1 : Int32)), (.int p1292), (.int (0 : Int32)), (.ref a1297)])) _
  obtain ⟨_, T1324, _, X1324, hQ1324, st1324⟩ := own_cv X0 hx hZ hown (wd hw 41 rfl) (wd hw 42 rfl) (wd hw 44 rfl) (wd hw 43 rfl) (wd hw 45 rfl) (wd hw 3 rfl) (by decide) (rm17 l Z a0 hw [] a1297 p1292 (5 : Int32) a1303 k1311 p1298 p1304 p1305 p1306 p1307 p1308 p1309 p1310 h0 n0 O0 pF_a1297_length pF_a1297_first pV_a1303 pG_a1303 pE_a1303 pE_a1297 pN_a1297_a1303) e0 pE_a1297 (g := (mkF m 149 #[iv p1293, iv p1294, iv p1295, rv a1296, rv a1297, iv (0 : Int32), iv p1298, iv (0 : Int32), iv (2 : Int32), iv p1292, iv (1 : Int32)] [(.int (1 : Int32)), (.int p1292), (.int (0 : Int32)), (.ref a1297)])) rfl (by rw [hml]; rfl) (rest := []) (W := 0) (lenOf pd_5 rfl) rfl (by show 2 * 0 + _ ≤ _; exact Nat.le_of_eq rfl) (hb hby at_149) (by decide) (by decide) (by decide) (by decide)
  obtain ⟨h1324, e1324⟩ : ∃ z, T1324.heap = z := ⟨_, rfl⟩
  rw [e1324] at hQ1324
  obtain ⟨rfl, Nq1324, K1324, ex1325, vx1326⟩ := hQ1324
  have N1324 := Fr.app N0 Nq1324
  refine own_via (fun t k => st1324 t (XS.iload X1324.here hx rfl (hb hby at_152) rfl (XS.iload X1324.here hx rfl (hb hby at_154) rfl (XS.icmpNo X1324.here hx rfl (hb hby at_156) rfl (teq (by decide : (0 : Int32) = (0 : Int32))).2 (XS.aload X1324.here hx rfl (hb hby at_159) rfl rfl (XS.iload X1324.here hx rfl (hb hby at_161) rfl k)))))) ?_
  show own_Goes p e below (T1324.setTop (mkF m 163 #[iv p1293, iv p1294, iv p1295, rv a1296, rv a1297, iv (0 : Int32), iv p1298, iv (0 : Int32), iv (2 : Int32), iv p1292, iv (1 : Int32)] [(.int (0 : Int32)), (.ref a1297)])) _
  have F1328 : Fld Z h1324 a1297 zs1 "first" "[I" (.ref a1303) := (pF_a1297_first.keep K1324 (ninS pN_a1297_a1303 nin0))
  have E1329 : Exa Z h1324 a1297 zs1 := (pE_a1297.keep K1324)
  have O1330 : Old Z n0 h1324 := (O0.keep K1324 (allS pG_a1303 all0))
  obtain ⟨_, T1327, _, X1327, hQ1327, st1327⟩ := own_cv X1324 hx hZ hown (wd hw 50 rfl) (wd hw 51 rfl) (wd hw 53 rfl) (wd hw 52 rfl) (wd hw 54 rfl) (wd hw 3 rfl) (by decide) (rm11 l Z a0 hw [] a1297 a1303 k1311 p1298 (5 : Int32) ((p1292 <<< ((1 : Int32) &&& 31)) ||| (1 : Int32)) p1306 p1307 p1308 p1309 p1310 h1324 n0 O1330 F1328 vx1326 E1329) e1324 E1329 (g := (mkF m 163 #[iv p1293, iv p1294, iv p1295, rv a1296, rv a1297, iv (0 : Int32), iv p1298, iv (0 : Int32), iv (2 : Int32), iv p1292, iv (1 : Int32)] [(.int (0 : Int32)), (.ref a1297)])) rfl (by rw [hml]; rfl) (rest := []) (W := 0) (lenOf pd_3 rfl) rfl (by show 2 * 0 + _ ≤ _; exact Nat.le_of_eq rfl) (hb hby at_163) (by decide) (by decide) (by decide) (by decide)
  obtain ⟨rfl, Nq1327, hh1331⟩ := hQ1327
  have N1327 := Fr.app N1324 Nq1327
  refine own_via (fun t k => st1327 t (XS.iload X1327.here hx rfl (hb hby at_166) rfl (XS.icmpNo X1327.here hx rfl (hb hby at_168) rfl (teq (rfl : p1298 = p1298)).2 (XS.aload X1327.here hx rfl (hb hby at_171) rfl rfl (XS.iload X1327.here hx rfl (hb hby at_173) rfl k))))) ?_
  show own_Goes p e below (T1327.setTop (mkF m 175 #[iv p1293, iv p1294, iv p1295, rv a1296, rv a1297, iv (0 : Int32), iv p1298, iv (0 : Int32), iv (2 : Int32), iv p1292, iv (1 : Int32)] [(.int (0 : Int32)), (.ref a1297)])) _
  have F1333 : Fld Z h1324 a1297 zs1 "text" "[B" (.ref a1296) := (pF_a1297_text.keep K1324 (ninS pN_a1297_a1303 nin0))
  have V1334 : Arv Z h1324 a1296 k1302 .byte (4 : Int32) [(.int (123 : Int32)), (.int (91 : Int32)), (.int (49 : Int32)), (.int (110 : Int32))] (.int (0 : Int32)) := (pV_a1296.keep K1324 (ninS pN_a1296_a1303 nin0))
  obtain ⟨_, T1332, _, X1332, hQ1332, st1332⟩ := own_cv X1327 hx hZ hown (wd hw 59 rfl) (wd hw 60 rfl) (wd hw 62 rfl) (wd hw 61 rfl) (wd hw 63 rfl) (wd hw 3 rfl) (by decide) (rm13 l Z a0 hw [] a1297 a1296 a1303 k1311 p1298 (5 : Int32) ((p1292 <<< ((1 : Int32) &&& 31)) ||| (1 : Int32)) p1306 p1307 p1308 p1309 p1310 k1302 (49 : Int32) (110 : Int32) h1324 n0 O1330 F1333 F1328 vx1326 E1329 pC1316 pC1317 V1334) hh1331 E1329 (g := (mkF m 175 #[iv p1293, iv p1294, iv p1295, rv a1296, rv a1297, iv (0 : Int32), iv p1298, iv (0 : Int32), iv (2 : Int32), iv p1292, iv (1 : Int32)] [(.int (0 : Int32)), (.ref a1297)])) rfl (by rw [hml]; rfl) (rest := []) (W := 0) (lenOf pd_3 rfl) rfl (by show 2 * 0 + _ ≤ _; exact Nat.le_of_eq rfl) (hb hby at_175) (by decide) (by decide) (by decide) (by decide)
  obtain ⟨rfl, Nq1332, hh1335⟩ := hQ1332
  have N1332 := Fr.app N1327 Nq1332
  refine own_via (fun t k => st1332 t (XS.iload X1332.here hx rfl (hb hby at_178) rfl (XS.iconst X1332.here hx rfl (hb hby at_180) (XS.iadd X1332.here hx rfl (hb hby at_181) rfl (XS.iload X1332.here hx rfl (hb hby at_182) rfl (XS.iadd X1332.here hx rfl (hb hby at_184) rfl (XS.icmpNo X1332.here hx rfl (hb hby at_185) rfl (teq (by decide : (5 : Int32) = (5 : Int32))).2 (XS.aload X1332.here hx rfl (hb hby at_188) rfl rfl (XS.iload X1332.here hx rfl (hb hby at_190) rfl k))))))))) ?_
  show own_Goes p e below (T1332.setTop (mkF m 192 #[iv p1293, iv p1294, iv p1295, rv a1296, rv a1297, iv (0 : Int32), iv p1298, iv (0 : Int32), iv (2 : Int32), iv p1292, iv (1 : Int32)] [(.int (0 : Int32)), (.ref a1297)])) _
  obtain ⟨_, T1336, _, X1336, hQ1336, st1336⟩ := own_cv X1332 hx hZ hown (wd hw 64 rfl) (wd hw 65 rfl) (wd hw 67 rfl) (wd hw 66 rfl) (wd hw 68 rfl) (wd hw 3 rfl) (by decide) (rm15 l Z a0 hw [] a1297 a1303 k1311 p1298 (5 : Int32) ((p1292 <<< ((1 : Int32) &&& 31)) ||| (1 : Int32)) p1306 p1307 p1308 p1309 p1310 h1324 n0 O1330 F1328 vx1326 E1329) hh1335 E1329 (g := (mkF m 192 #[iv p1293, iv p1294, iv p1295, rv a1296, rv a1297, iv (0 : Int32), iv p1298, iv (0 : Int32), iv (2 : Int32), iv p1292, iv (1 : Int32)] [(.int (0 : Int32)), (.ref a1297)])) rfl (by rw [hml]; rfl) (rest := []) (W := 0) (lenOf pd_3 rfl) rfl (by show 2 * 0 + _ ≤ _; exact Nat.le_of_eq rfl) (hb hby at_192) (by decide) (by decide) (by decide) (by decide)
  obtain ⟨rfl, Nq1336, hh1337⟩ := hQ1336
  have N1336 := Fr.app N1332 Nq1336
  refine own_via (fun t k => st1336 t (XS.iload X1336.here hx rfl (hb hby at_195) rfl (XS.icmpNo X1336.here hx rfl (hb hby at_197) rfl (teq (own_cnt p1292 1 pC1320 (by decide))).2 (XS.aload X1336.here hx rfl (hb hby at_200) rfl rfl (XS.iload X1336.here hx rfl (hb hby at_202) rfl k))))) ?_
  show own_Goes p e below (T1336.setTop (mkF m 204 #[iv p1293, iv p1294, iv p1295, rv a1296, rv a1297, iv (0 : Int32), iv p1298, iv (0 : Int32), iv (2 : Int32), iv p1292, iv (1 : Int32)] [(.int (0 : Int32)), (.ref a1297)])) _
  obtain ⟨_, T1338, _, X1338, hQ1338, st1338⟩ := own_cv X1336 hx hZ hown (wd hw 69 rfl) (wd hw 70 rfl) (wd hw 72 rfl) (wd hw 71 rfl) (wd hw 73 rfl) (wd hw 3 rfl) (by decide) (rm18 l Z a0 hw [] a1297 a1303 k1311 p1298 (5 : Int32) ((p1292 <<< ((1 : Int32) &&& 31)) ||| (1 : Int32)) p1306 p1307 p1308 p1309 p1310 h1324 n0 O1330 F1328 vx1326 E1329 (own_rep1 p1292)) hh1337 E1329 (g := (mkF m 204 #[iv p1293, iv p1294, iv p1295, rv a1296, rv a1297, iv (0 : Int32), iv p1298, iv (0 : Int32), iv (2 : Int32), iv p1292, iv (1 : Int32)] [(.int (0 : Int32)), (.ref a1297)])) rfl (by rw [hml]; rfl) (rest := []) (W := 0) (lenOf pd_6 rfl) rfl (by show 2 * 0 + _ ≤ _; exact Nat.le_of_eq rfl) (hb hby at_204) (by decide) (by decide) (by decide) (by decide)
  obtain ⟨rfl, Nq1338, hh1339⟩ := hQ1338
  have N1338 := Fr.app N1336 Nq1338
  refine own_via (fun t k => st1338 t (XS.iload X1338.here hx rfl (hb hby at_207) rfl (XS.icmpNo X1338.here hx rfl (hb hby at_209) rfl (teq (by decide : (1 : Int32) = (1 : Int32))).2 (XS.iconst X1338.here hx rfl (hb hby at_212) (XS.goto X1338.here hx rfl (pc0 := 213) (pc' := 217) rfl (hb hby at_213) (by decide) (by decide) k))))) ?_
  show own_Goes p e below (T1338.setTop (mkF m 217 #[iv p1293, iv p1294, iv p1295, rv a1296, rv a1297, iv (0 : Int32), iv p1298, iv (0 : Int32), iv (2 : Int32), iv p1292, iv (1 : Int32)] [(.int (1 : Int32))])) _
  obtain ⟨fs, hr, hrun, hended, hW, hsame⟩ := X1338.leave (v := some (.int (1 : Int32))) (fun h => by rw [Bd.returns] at h; cases h)
  refine own_end (t := T1338.setFrames fs) ?_ ⟨_, hrun, hended, _, _, rfl, ?_, ⟨_, rfl⟩, hW, hsame.mono (by decide) (by decide)⟩
  · exact retN X1338 hx (t := .boolean) Bd.returns (by simp) (hb hby at_217) hr
  · exact ⟨rfl, N1338⟩
set_option maxRecDepth 65536 in
set_option maxHeartbeats 40000000 in
theorem sfx10 (l : Launch) (Z : State) (a0 : Array Value) (hw : ∀ d ∈ tables_1, d.before a0 Z = true) (ws : List Jvm.Cond) {p : Program} {e : Env} {s : State} {m : MethodId} {below : List Frame} {meth : Method} {c : Code} {s₁ : State} (p1222 : Int32) (p1223 : Int32) (p1224 : Int32) (p1216 : Int32) (p1217 : Int32) (p1218 : Int32) (a1219 : Addr) (a1220 : Addr) (p1221 : Int32) (a1226 : Addr) (k1234 : ClassId) (p1227 : Int32) (p1228 : Int32) (p1229 : Int32) (p1230 : Int32) (p1231 : Int32) (p1232 : Int32) (p1233 : Int32) (k1225 : ClassId) (Bd : BodyLoose p l x (head1 (Jvm.Cond.code x code maxLocals ret :: ws) room_1) code maxLocals ret e s m #[(.int p1222), (.int p1223), (.int p1224)] below meth c s₁) (hZ : Z.Warmed39 s.vm) (hml : c.maxLocals = 11) {T0 : State} {locs0 : List Loc} (X0 : Stand p l e room_1 s m #[(.int p1222), (.int p1223), (.int p1224)] below meth c T0 locs0 8 120) (h0 : Heap) (e0 : T0.heap = h0) (n0 : Nat) (O0 : Old Z n0 h0) (N0 : Fr n0 locs0) (pF_a1220_length : Fld Z h0 a1220 zs1 "length" "I" (.int (5 : Int32))) (pF_a1220_first : Fld Z h0 a1220 zs1 "first" "[I" (.ref a1226)) (pV_a1226 : Arv Z h0 a1226 k1234 .int (16 : Int32) [(.int p1221), (.int p1227), (.int p1228), (.int p1229), (.int p1230), (.int p1231), (.int p1232), (.int p1233)] (.int (0 : Int32))) (pG_a1226 : n0 ≤ a1226) (pE_a1226 : Exa Z h0 a1226 "[I") (pE_a1220 : Exa Z h0 a1220 zs1) (pN_a1220_a1226 : a1220 ≠ a1226) (pF_a1220_text : Fld Z h0 a1220 zs1 "text" "[B" (.ref a1219)) (pC1239 : ¬ (p1221 < (0 : Int32))) (pC1240 : p1221 < (2 : Int32)) (pV_a1219 : Arv Z h0 a1219 k1225 .byte (4 : Int32) [(.int (123 : Int32)), (.int (91 : Int32)), (.int (49 : Int32)), (.int (110 : Int32))] (.int (0 : Int32))) (pN_a1219_a1226 : a1219 ≠ a1226) :
    own_Goes p e below (T0.setTop (mkF m 122 #[iv p1216, iv p1217, iv p1218, rv a1219, rv a1220, iv (0 : Int32), iv p1221, iv (0 : Int32), iv (2 : Int32), .unset, .unset] [])) (own_G s below n0) := by
  have hx := Bd.exec
  have hby := Bd.bytes
  have hown : s.vm.findClass zs2 = some m.cls := findClass_of_methodNamed Bd.named
  have hnm := (name_of_methodNamed Bd.named Bd.method).1
  show own_Goes p e below (T0.setTop (mkF m 122 #[iv p1216, iv p1217, iv p1218, rv a1219, rv a1220, iv (0 : Int32), iv p1221, iv (0 : Int32), iv (2 : Int32), .unset, .unset] [])) _
  refine own_via (fun t k => XS.iloadN X0.here hx rfl (hb hby at_122) rfl (X0.ldcInt hx hown (mvT hZ (wd hw 40 rfl)) (g := (mkF m 123 #[iv p1216, iv p1217, iv p1218, rv a1219, rv a1220, iv (0 : Int32), iv p1221, iv (0 : Int32), iv (2 : Int32), .unset, .unset] [(.int p1217)])) rfl (hb hby at_123) t (XS.iand X0.here hx rfl (hb hby at_125) rfl (XS.istore X0.here hx rfl (hb hby at_126) rfl (l' := #[iv p1216, iv p1217, iv p1218, rv a1219, rv a1220, iv (0 : Int32), iv p1221, iv (0 : Int32), iv (2 : Int32), iv (p1217 &&& (2147483647 : Int32)), .unset]) rfl (XS.iloadN X0.here hx rfl (hb hby at_128) rfl (XS.iconst X0.here hx rfl (hb hby at_129) (XS.iand X0.here hx rfl (hb hby at_130) rfl k))))))) ?_
  show own_Goes p e below (T0.setTop (mkF m 131 #[iv p1216, iv p1217, iv p1218, rv a1219, rv a1220, iv (0 : Int32), iv p1221, iv (0 : Int32), iv (2 : Int32), iv (p1217 &&& (2147483647 : Int32)), .unset] [(.int (p1218 &&& (1 : Int32)))])) _
  by_cases hc1243 : (p1218 &&& (1 : Int32)) = (0 : Int32)
  · refine own_via (fun t k => XS.ifYes X0.here hx rfl (pc0 := 131) (pc' := 138) rfl (hb hby at_131) rfl ((if0 _ _).trans (teq hc1243).1) (by decide) (by decide) (XS.iconst X0.here hx rfl (hb hby at_138) (XS.istore X0.here hx rfl (hb hby at_139) rfl (l' := #[iv p1216, iv p1217, iv p1218, rv a1219, rv a1220, iv (0 : Int32), iv p1221, iv (0 : Int32), iv (2 : Int32), iv (p1217 &&& (2147483647 : Int32)), iv (0 : Int32)]) rfl k))) ?_
    show own_Goes p e below (T0.setTop (mkF m 141 #[iv p1216, iv p1217, iv p1218, rv a1219, rv a1220, iv (0 : Int32), iv p1221, iv (0 : Int32), iv (2 : Int32), iv (p1217 &&& (2147483647 : Int32)), iv (0 : Int32)] [])) _
    exact sfx8 l Z a0 hw ws p1222 p1223 p1224 p1216 p1217 p1218 a1219 a1220 p1221 (p1217 &&& (2147483647 : Int32)) a1226 k1234 p1227 p1228 p1229 p1230 p1231 p1232 p1233 k1225 Bd hZ hml X0 h0 e0 n0 O0 N0 pF_a1220_length pF_a1220_first pV_a1226 pG_a1226 pE_a1226 pE_a1220 pN_a1220_a1226 pF_a1220_text pC1239 pC1240 pV_a1219 pN_a1219_a1226 (own_nn_mask p1217 (2147483647 : Int32) 31 (by decide) (by decide))
  · refine own_via (fun t k => XS.ifNo X0.here hx rfl (hb hby at_131) rfl ((if0 _ _).trans (feq hc1243).1) (XS.iconst X0.here hx rfl (hb hby at_134) (XS.goto X0.here hx rfl (pc0 := 135) (pc' := 139) rfl (hb hby at_135) (by decide) (by decide) (XS.istore X0.here hx rfl (hb hby at_139) rfl (l' := #[iv p1216, iv p1217, iv p1218, rv a1219, rv a1220, iv (0 : Int32), iv p1221, iv (0 : Int32), iv (2 : Int32), iv (p1217 &&& (2147483647 : Int32)), iv (1 : Int32)]) rfl k)))) ?_
    show own_Goes p e below (T0.setTop (mkF m 141 #[iv p1216, iv p1217, iv p1218, rv a1219, rv a1220, iv (0 : Int32), iv p1221, iv (0 : Int32), iv (2 : Int32), iv (p1217 &&& (2147483647 : Int32)), iv (1 : Int32)] [])) _
    exact sfx9 l Z a0 hw ws p1222 p1223 p1224 p1216 p1217 p1218 a1219 a1220 p1221 (p1217 &&& (2147483647 : Int32)) a1226 k1234 p1227 p1228 p1229 p1230 p1231 p1232 p1233 k1225 Bd hZ hml X0 h0 e0 n0 O0 N0 pF_a1220_length pF_a1220_first pV_a1226 pG_a1226 pE_a1226 pE_a1220 pN_a1220_a1226 pF_a1220_text pC1239 pC1240 pV_a1219 pN_a1219_a1226 (own_nn_mask p1217 (2147483647 : Int32) 31 (by decide) (by decide))
set_option maxRecDepth 65536 in
set_option maxHeartbeats 40000000 in
theorem sfx11 (l : Launch) (Z : State) (a0 : Array Value) (hw : ∀ d ∈ tables_1, d.before a0 Z = true) (ws : List Jvm.Cond) {p : Program} {e : Env} {s : State} {m : MethodId} {below : List Frame} {meth : Method} {c : Code} {s₁ : State} (p1146 : Int32) (p1147 : Int32) (p1148 : Int32) (p1141 : Int32) (p1142 : Int32) (p1143 : Int32) (a1144 : Addr) (a1145 : Addr) (p1140 : Int32) (a1150 : Addr) (k1158 : ClassId) (p1151 : Int32) (p1152 : Int32) (p1153 : Int32) (p1154 : Int32) (p1155 : Int32) (p1156 : Int32) (p1157 : Int32) (k1149 : ClassId) (Bd : BodyLoose p l x (head1 (Jvm.Cond.code x code maxLocals ret :: ws) room_1) code maxLocals ret e s m #[(.int p1146), (.int p1147), (.int p1148)] below meth c s₁) (hZ : Z.Warmed39 s.vm) (hml : c.maxLocals = 11) {T0 : State} {locs0 : List Loc} (X0 : Stand p l e room_1 s m #[(.int p1146), (.int p1147), (.int p1148)] below meth c T0 locs0 8 120) (h0 : Heap) (e0 : T0.heap = h0) (n0 : Nat) (O0 : Old Z n0 h0) (N0 : Fr n0 locs0) (pF_a1145_length : Fld Z h0 a1145 zs1 "length" "I" (.int (4 : Int32))) (pF_a1145_first : Fld Z h0 a1145 zs1 "first" "[I" (.ref a1150)) (pV_a1150 : Arv Z h0 a1150 k1158 .int (16 : Int32) [(.int p1140), (.int p1151), (.int p1152), (.int p1153), (.int p1154), (.int p1155), (.int p1156), (.int p1157)] (.int (0 : Int32))) (pG_a1150 : n0 ≤ a1150) (pE_a1150 : Exa Z h0 a1150 "[I") (pE_a1145 : Exa Z h0 a1145 zs1) (pN_a1145_a1150 : a1145 ≠ a1150) (pF_a1145_text : Fld Z h0 a1145 zs1 "text" "[B" (.ref a1144)) (pC1163 : ¬ (p1140 < (0 : Int32))) (pC1164 : p1140 < (2 : Int32)) (pV_a1144 : Arv Z h0 a1144 k1149 .byte (4 : Int32) [(.int (123 : Int32)), (.int (91 : Int32)), (.int (49 : Int32)), (.int (110 : Int32))] (.int (0 : Int32))) (pN_a1144_a1150 : a1144 ≠ a1150) (pL_a1150 : own_Len Z h0 a1150 .int (16 : Int32)) (pG_a1145 : n0 ≤ a1145) (pN_a1144_a1145 : a1144 ≠ a1145) :
    own_Goes p e below (T0.setTop (mkF m 105 #[iv p1141, iv p1142, iv p1143, rv a1144, rv a1145, iv (0 : Int32), iv p1140, iv (0 : Int32), iv (1 : Int32), .unset, .unset] [])) (own_G s below n0) := by
  have hx := Bd.exec
  have hby := Bd.bytes
  have hown : s.vm.findClass zs2 = some m.cls := findClass_of_methodNamed Bd.named
  have hnm := (name_of_methodNamed Bd.named Bd.method).1
  show own_Goes p e below (T0.setTop (mkF m 105 #[iv p1141, iv p1142, iv p1143, rv a1144, rv a1145, iv (0 : Int32), iv p1140, iv (0 : Int32), iv (1 : Int32), .unset, .unset] [])) _
  refine own_via (fun t k => XS.iloadN X0.here hx rfl (hb hby at_105) rfl (XS.bipush X0.here hx rfl (hb hby at_106) (XS.iand X0.here hx rfl (hb hby at_108) rfl k))) ?_
  show own_Goes p e below (T0.setTop (mkF m 109 #[iv p1141, iv p1142, iv p1143, rv a1144, rv a1145, iv (0 : Int32), iv p1140, iv (0 : Int32), iv (1 : Int32), .unset, .unset] [(.int (p1141 &&& (16 : Int32)))])) _
  by_cases hc1166 : (p1141 &&& (16 : Int32)) = (0 : Int32)
  · refine own_via (fun t k => XS.ifYes X0.here hx rfl (pc0 := 109) (pc' := 122) rfl (hb hby at_109) rfl ((if0 _ _).trans (teq hc1166).1) (by decide) (by decide) k) ?_
    exact sfx6 l Z a0 hw ws p1146 p1147 p1148 p1141 p1142 p1143 a1144 a1145 p1140 a1150 k1158 p1151 p1152 p1153 p1154 p1155 p1156 p1157 k1149 Bd hZ hml X0 h0 e0 n0 O0 N0 pF_a1145_length pF_a1145_first pV_a1150 pG_a1150 pE_a1150 pE_a1145 pN_a1145_a1150 pF_a1145_text pC1163 pC1164 pV_a1144 pN_a1144_a1150
  · refine own_via (fun t k => XS.ifNo X0.here hx rfl (hb hby at_109) rfl ((if0 _ _).trans (feq hc1166).1) (XS.aload X0.here hx rfl (hb hby at_112) rfl rfl (XS.iconst X0.here hx rfl (hb hby at_114) k))) ?_
    show own_Goes p e below (T0.setTop (mkF m 115 #[iv p1141, iv p1142, iv p1143, rv a1144, rv a1145, iv (0 : Int32), iv p1140, iv (0 : Int32), iv (1 : Int32), .unset, .unset] [(.int (3 : Int32)), (.ref a1145)])) _
    obtain ⟨_, T1167, _, X1167, hQ1167, st1167⟩ := own_cv X0 hx hZ hown (wd hw 74 rfl) (wd hw 34 rfl) (wd hw 36 rfl) (wd hw 35 rfl) (wd hw 37 rfl) (wd hw 3 rfl) (by decide) (rm20 l Z a0 hw [] a1145 a1150 k1158 p1140 p1151 p1152 p1153 p1154 p1155 p1156 p1157 a1144 h0 n0 O0 pF_a1145_length pF_a1145_first pL_a1150 pV_a1150 pG_a1150 pN_a1145_a1150 pE_a1145 pG_a1145 pE_a1150 pF_a1145_text) e0 pE_a1145 (g := (mkF m 115 #[iv p1141, iv p1142, iv p1143, rv a1144, rv a1145, iv (0 : Int32), iv p1140, iv (0 : Int32), iv (1 : Int32), .unset, .unset] [(.int (3 : Int32)), (.ref a1145)])) rfl (by rw [hml]; rfl) (rest := []) (W := 0) (lenOf pd_3 rfl) rfl (by show 2 * 0 + _ ≤ _; exact Nat.le_of_eq rfl) (hb hby at_115) (by decide) (by decide) (by decide) (by decide)
    obtain ⟨h1167, e1167⟩ : ∃ z, T1167.heap = z := ⟨_, rfl⟩
    rw [e1167] at hQ1167
    obtain ⟨rfl, Nq1167, K1167, ex1210, vx1211, ex1212, fx1213, fx1214, fx1215⟩ := hQ1167
    have N1167 := Fr.app N0 Nq1167
    refine own_via (fun t k => st1167 t (XS.pop X1167.here hx rfl (hb hby at_118) rfl rfl (XS.iinc X1167.here hx rfl (hb hby at_119) rfl (l' := #[iv p1141, iv p1142, iv p1143, rv a1144, rv a1145, iv (0 : Int32), iv p1140, iv (0 : Int32), iv (2 : Int32), .unset, .unset]) rfl k))) ?_
    show own_Goes p e below (T1167.setTop (mkF m 122 #[iv p1141, iv p1142, iv p1143, rv a1144, rv a1145, iv (0 : Int32), iv p1140, iv (0 : Int32), iv (2 : Int32), .unset, .unset] [])) _
    have V1340 : Arv Z h1167 a1144 k1149 .byte (4 : Int32) [(.int (123 : Int32)), (.int (91 : Int32)), (.int (49 : Int32)), (.int (110 : Int32))] (.int (0 : Int32)) := (pV_a1144.keep K1167 (ninS pN_a1144_a1150 (ninS pN_a1144_a1145 nin0)))
    have O1341 : Old Z n0 h1167 := (O0.keep K1167 (allS pG_a1150 (allS pG_a1145 all0)))
    exact sfx10 l Z a0 hw ws p1146 p1147 p1148 p1141 p1142 p1143 a1144 a1145 p1140 a1150 k1158 p1151 p1152 p1153 (3 : Int32) p1155 p1156 p1157 k1149 Bd hZ hml X1167 h1167 e1167 n0 O1341 N1167 fx1215 fx1214 vx1211 pG_a1150 ex1210 ex1212 pN_a1145_a1150 fx1213 pC1163 pC1164 V1340 pN_a1144_a1150
set_option maxRecDepth 65536 in
set_option maxHeartbeats 40000000 in
theorem sfx12 (l : Launch) (Z : State) (a0 : Array Value) (hw : ∀ d ∈ tables_1, d.before a0 Z = true) (ws : List Jvm.Cond) {p : Program} {e : Env} {s : State} {m : MethodId} {below : List Frame} {meth : Method} {c : Code} {s₁ : State} (p155 : Int32) (p156 : Int32) (p157 : Int32) (p150 : Int32) (p151 : Int32) (p152 : Int32) (a153 : Addr) (a154 : Addr) (a159 : Addr) (k168 : ClassId) (p160 : Int32) (p161 : Int32) (p162 : Int32) (p163 : Int32) (p164 : Int32) (p165 : Int32) (p166 : Int32) (p167 : Int32) (k158 : ClassId) (Bd : BodyLoose p l x (head1 (Jvm.Cond.code x code maxLocals ret :: ws) room_1) code maxLocals ret e s m #[(.int p155), (.int p156), (.int p157)] below meth c s₁) (hZ : Z.Warmed39 s.vm) (hml : c.maxLocals = 11) {T0 : State} {locs0 : List Loc} (X0 : Stand p l e room_1 s m #[(.int p155), (.int p156), (.int p157)] below meth c T0 locs0 8 120) (h0 : Heap) (e0 : T0.heap = h0) (n0 : Nat) (O0 : Old Z n0 h0) (N0 : Fr n0 locs0) (pF_a154_length : Fld Z h0 a154 zs1 "length" "I" (.int (0 : Int32))) (pF_a154_first : Fld Z h0 a154 zs1 "first" "[I" (.ref a159)) (pL_a159 : own_Len Z h0 a159 .int (16 : Int32)) (pV_a159 : Arv Z h0 a159 k168 .int (16 : Int32) [(.int p160), (.int p161), (.int p162), (.int p163), (.int p164), (.int p165), (.int p166), (.int p167)] (.int (0 : Int32))) (pG_a159 : n0 ≤ a159) (pN_a154_a159 : a154 ≠ a159) (pE_a154 : Exa Z h0 a154 zs1) (pG_a154 : n0 ≤ a154) (pE_a159 : Exa Z h0 a159 "[I") (pF_a154_text : Fld Z h0 a154 zs1 "text" "[B" (.ref a153)) (pV_a153 : Arv Z h0 a153 k158 .byte (4 : Int32) [(.int (123 : Int32)), (.int (91 : Int32)), (.int (49 : Int32)), (.int (110 : Int32))] (.int (0 : Int32))) (pN_a153_a154 : a153 ≠ a154) (pN_a153_a159 : a153 ≠ a159) :
    own_Goes p e below (T0.setTop (mkF m 69 #[iv p150, iv p151, iv p152, rv a153, rv a154, iv (0 : Int32), .unset, .unset, .unset, .unset, .unset] [])) (own_G s below n0) := by
  have hx := Bd.exec
  have hby := Bd.bytes
  have hown : s.vm.findClass zs2 = some m.cls := findClass_of_methodNamed Bd.named
  have hnm := (name_of_methodNamed Bd.named Bd.method).1
  show own_Goes p e below (T0.setTop (mkF m 69 #[iv p150, iv p151, iv p152, rv a153, rv a154, iv (0 : Int32), .unset, .unset, .unset, .unset, .unset] [])) _
  refine own_via (fun t k => XS.iloadN X0.here hx rfl (hb hby at_69) rfl (XS.iconst X0.here hx rfl (hb hby at_70) (XS.iushr X0.here hx rfl (hb hby at_71) rfl (XS.iconst X0.here hx rfl (hb hby at_72) (XS.iand X0.here hx rfl (hb hby at_73) rfl (XS.istore X0.here hx rfl (hb hby at_74) rfl (l' := #[iv p150, iv p151, iv p152, rv a153, rv a154, iv (0 : Int32), iv (((p150.toUInt32 >>> ((2 : Int32) &&& 31).toUInt32).toInt32) &&& (1 : Int32)), .unset, .unset, .unset, .unset]) rfl (XS.aload X0.here hx rfl (hb hby at_76) rfl rfl (XS.iload X0.here hx rfl (hb hby at_78) rfl k)))))))) ?_
  show own_Goes p e below (T0.setTop (mkF m 80 #[iv p150, iv p151, iv p152, rv a153, rv a154, iv (0 : Int32), iv (((p150.toUInt32 >>> ((2 : Int32) &&& 31).toUInt32).toInt32) &&& (1 : Int32)), .unset, .unset, .unset, .unset] [(.int (((p150.toUInt32 >>> ((2 : Int32) &&& 31).toUInt32).toInt32) &&& (1 : Int32))), (.ref a154)])) _
  obtain ⟨_, T173, _, X173, hQ173, st173⟩ := own_cv X0 hx hZ hown (wd hw 28 rfl) (wd hw 29 rfl) (wd hw 31 rfl) (wd hw 30 rfl) (wd hw 32 rfl) (wd hw 3 rfl) (by decide) (rm6 l Z a0 hw [] a154 (((p150.toUInt32 >>> ((2 : Int32) &&& 31).toUInt32).toInt32) &&& (1 : Int32)) a159 k168 p160 p161 p162 p163 p164 p165 p166 p167 a153 h0 n0 O0 pF_a154_length pF_a154_first pL_a159 pV_a159 pG_a159 pN_a154_a159 pE_a154 pG_a154 pE_a159 pF_a154_text) e0 pE_a154 (g := (mkF m 80 #[iv p150, iv p151, iv p152, rv a153, rv a154, iv (0 : Int32), iv (((p150.toUInt32 >>> ((2 : Int32) &&& 31).toUInt32).toInt32) &&& (1 : Int32)), .unset, .unset, .unset, .unset] [(.int (((p150.toUInt32 >>> ((2 : Int32) &&& 31).toUInt32).toInt32) &&& (1 : Int32))), (.ref a154)])) rfl (by rw [hml]; rfl) (rest := []) (W := 0) (lenOf pd_3 rfl) rfl (by show 2 * 0 + _ ≤ _; exact Nat.le_of_eq rfl) (hb hby at_80) (by decide) (by decide) (by decide) (by decide)
  obtain ⟨h173, e173⟩ : ∃ z, T173.heap = z := ⟨_, rfl⟩
  rw [e173] at hQ173
  obtain ⟨rfl, Nq173, K173, ex345, vx346, ex347, fx348, fx349, fx350⟩ := hQ173
  have N173 := Fr.app N0 Nq173
  refine own_via (fun t k => st173 t (XS.istore X173.here hx rfl (hb hby at_83) rfl (l' := #[iv p150, iv p151, iv p152, rv a153, rv a154, iv (0 : Int32), iv (((p150.toUInt32 >>> ((2 : Int32) &&& 31).toUInt32).toInt32) &&& (1 : Int32)), iv (0 : Int32), .unset, .unset, .unset]) rfl (XS.iconst X173.here hx rfl (hb hby at_85) (XS.istore X173.here hx rfl (hb hby at_86) rfl (l' := #[iv p150, iv p151, iv p152, rv a153, rv a154, iv (0 : Int32), iv (((p150.toUInt32 >>> ((2 : Int32) &&& 31).toUInt32).toInt32) &&& (1 : Int32)), iv (0 : Int32), iv (0 : Int32), .unset, .unset]) rfl (XS.iloadN X173.here hx rfl (hb hby at_88) rfl (XS.bipush X173.here hx rfl (hb hby at_89) (XS.iand X173.here hx rfl (hb hby at_91) rfl k))))))) ?_
  show own_Goes p e below (T173.setTop (mkF m 92 #[iv p150, iv p151, iv p152, rv a153, rv a154, iv (0 : Int32), iv (((p150.toUInt32 >>> ((2 : Int32) &&& 31).toUInt32).toInt32) &&& (1 : Int32)), iv (0 : Int32), iv (0 : Int32), .unset, .unset] [(.int (p150 &&& (8 : Int32)))])) _
  by_cases hc351 : (p150 &&& (8 : Int32)) = (0 : Int32)
  · refine own_via (fun t k => XS.ifYes X173.here hx rfl (pc0 := 92) (pc' := 105) rfl (hb hby at_92) rfl ((if0 _ _).trans (teq hc351).1) (by decide) (by decide) k) ?_
    have V1128 : Arv Z h173 a153 k158 .byte (4 : Int32) [(.int (123 : Int32)), (.int (91 : Int32)), (.int (49 : Int32)), (.int (110 : Int32))] (.int (0 : Int32)) := (pV_a153.keep K173 (ninS pN_a153_a159 (ninS pN_a153_a154 nin0)))
    have l1129 : own_Len Z h173 a159 .int (16 : Int32) := ⟨_, _, _, vx346⟩
    have O1130 : Old Z n0 h173 := (O0.keep K173 (allS pG_a159 (allS pG_a154 all0)))
    exact sfx7 l Z a0 hw ws p155 p156 p157 p150 p151 p152 a153 a154 (((p150.toUInt32 >>> ((2 : Int32) &&& 31).toUInt32).toInt32) &&& (1 : Int32)) a159 k168 (0 : Int32) (0 : Int32) p163 p164 p165 p166 p167 k158 Bd hZ hml X173 h173 e173 n0 O1130 N173 fx350 fx349 vx346 pG_a159 ex345 ex347 pN_a154_a159 fx348 (own_nn_mask ((p150.toUInt32 >>> ((2 : Int32) &&& 31).toUInt32).toInt32) (1 : Int32) 1 (by decide) (by decide)) (own_lt_mask ((p150.toUInt32 >>> ((2 : Int32) &&& 31).toUInt32).toInt32) (1 : Int32) 1 (by decide) (by decide) (by decide)) V1128 pN_a153_a159 l1129 pG_a154 pN_a153_a154
  · refine own_via (fun t k => XS.ifNo X173.here hx rfl (hb hby at_92) rfl ((if0 _ _).trans (feq hc351).1) (XS.aload X173.here hx rfl (hb hby at_95) rfl rfl (XS.iconst X173.here hx rfl (hb hby at_97) k))) ?_
    show own_Goes p e below (T173.setTop (mkF m 98 #[iv p150, iv p151, iv p152, rv a153, rv a154, iv (0 : Int32), iv (((p150.toUInt32 >>> ((2 : Int32) &&& 31).toUInt32).toInt32) &&& (1 : Int32)), iv (0 : Int32), iv (0 : Int32), .unset, .unset] [(.int (3 : Int32)), (.ref a154)])) _
    have l1132 : own_Len Z h173 a159 .int (16 : Int32) := ⟨_, _, _, vx346⟩
    have O1133 : Old Z n0 h173 := (O0.keep K173 (allS pG_a159 (allS pG_a154 all0)))
    obtain ⟨_, T1131, _, X1131, hQ1131, st1131⟩ := own_cv X173 hx hZ hown (wd hw 74 rfl) (wd hw 34 rfl) (wd hw 36 rfl) (wd hw 35 rfl) (wd hw 37 rfl) (wd hw 3 rfl) (by decide) (rm19 l Z a0 hw [] a154 a159 k168 (((p150.toUInt32 >>> ((2 : Int32) &&& 31).toUInt32).toInt32) &&& (1 : Int32)) (0 : Int32) (0 : Int32) p163 p164 p165 p166 p167 a153 h173 n0 O1133 fx350 fx349 l1132 vx346 pG_a159 pN_a154_a159 ex347 pG_a154 ex345 fx348) e173 ex347 (g := (mkF m 98 #[iv p150, iv p151, iv p152, rv a153, rv a154, iv (0 : Int32), iv (((p150.toUInt32 >>> ((2 : Int32) &&& 31).toUInt32).toInt32) &&& (1 : Int32)), iv (0 : Int32), iv (0 : Int32), .unset, .unset] [(.int (3 : Int32)), (.ref a154)])) rfl (by rw [hml]; rfl) (rest := []) (W := 0) (lenOf pd_3 rfl) rfl (by show 2 * 0 + _ ≤ _; exact Nat.le_of_eq rfl) (hb hby at_98) (by decide) (by decide) (by decide) (by decide)
    obtain ⟨h1131, e1131⟩ : ∃ z, T1131.heap = z := ⟨_, rfl⟩
    rw [e1131] at hQ1131
    obtain ⟨rfl, Nq1131, K1131, ex1134, vx1135, ex1136, fx1137, fx1138, fx1139⟩ := hQ1131
    have N1131 := Fr.app N173 Nq1131
    refine own_via (fun t k => st1131 t (XS.pop X1131.here hx rfl (hb hby at_101) rfl rfl (XS.iinc X1131.here hx rfl (hb hby at_102) rfl (l' := #[iv p150, iv p151, iv p152, rv a153, rv a154, iv (0 : Int32), iv (((p150.toUInt32 >>> ((2 : Int32) &&& 31).toUInt32).toInt32) &&& (1 : Int32)), iv (0 : Int32), iv (1 : Int32), .unset, .unset]) rfl k))) ?_
    show own_Goes p e below (T1131.setTop (mkF m 105 #[iv p150, iv p151, iv p152, rv a153, rv a154, iv (0 : Int32), iv (((p150.toUInt32 >>> ((2 : Int32) &&& 31).toUInt32).toInt32) &&& (1 : Int32)), iv (0 : Int32), iv (1 : Int32), .unset, .unset] [])) _
    have V1342 : Arv Z h1131 a153 k158 .byte (4 : Int32) [(.int (123 : Int32)), (.int (91 : Int32)), (.int (49 : Int32)), (.int (110 : Int32))] (.int (0 : Int32)) := ((pV_a153.keep K173 (ninS pN_a153_a159 (ninS pN_a153_a154 nin0))).keep K1131 (ninS pN_a153_a159 (ninS pN_a153_a154 nin0)))
    have l1343 : own_Len Z h1131 a159 .int (16 : Int32) := ⟨_, _, _, vx1135⟩
    have O1344 : Old Z n0 h1131 := (O1133.keep K1131 (allS pG_a159 (allS pG_a154 all0)))
    exact sfx11 l Z a0 hw ws p155 p156 p157 p150 p151 p152 a153 a154 (((p150.toUInt32 >>> ((2 : Int32) &&& 31).toUInt32).toInt32) &&& (1 : Int32)) a159 k168 (0 : Int32) (0 : Int32) (3 : Int32) p164 p165 p166 p167 k158 Bd hZ hml X1131 h1131 e1131 n0 O1344 N1131 fx1139 fx1138 vx1135 pG_a159 ex1134 ex1136 pN_a154_a159 fx1137 (own_nn_mask ((p150.toUInt32 >>> ((2 : Int32) &&& 31).toUInt32).toInt32) (1 : Int32) 1 (by decide) (by decide)) (own_lt_mask ((p150.toUInt32 >>> ((2 : Int32) &&& 31).toUInt32).toInt32) (1 : Int32) 1 (by decide) (by decide) (by decide)) V1342 pN_a153_a159 l1343 pG_a154 pN_a153_a154
def Q21 (Z : State) (a1346 : Addr) (a1353 : Addr) (k1362 : ClassId) (p1354 : Int32) (p1355 : Int32) (p1356 : Int32) (p1357 : Int32) (p1358 : Int32) (p1359 : Int32) (p1360 : Int32) (p1361 : Int32) (a1347 : Addr) (h0 : Heap) (n0 : Nat) (v : Option Value) (h : Heap) (L : List Loc) : Prop := v = some (.int (0 : Int32)) ∧ Fr n0 L ∧ Keep h0 h [a1353, a1346] ∧ Arv Z h a1353 k1362 .int (16 : Int32) [(.int (2 : Int32)), (.int p1355), (.int p1356), (.int p1357), (.int p1358), (.int p1359), (.int p1360), (.int p1361)] (.int (0 : Int32)) ∧ Exa Z h a1353 "[I" ∧ Exa Z h a1346 zs1 ∧ Fld Z h a1346 zs1 "text" "[B" (.ref a1347) ∧ Fld Z h a1346 zs1 "first" "[I" (.ref a1353) ∧ Fld Z h a1346 zs1 "length" "I" (.int (1 : Int32))
set_option maxRecDepth 65536 in
set_option maxHeartbeats 40000000 in
theorem rm21 (l : Launch) (Z : State) (a0 : Array Value) (hw : ∀ d ∈ tables_1, d.before a0 Z = true) (ws : List Jvm.Cond) (a1346 : Addr) (a1353 : Addr) (k1362 : ClassId) (p1354 : Int32) (p1355 : Int32) (p1356 : Int32) (p1357 : Int32) (p1358 : Int32) (p1359 : Int32) (p1360 : Int32) (p1361 : Int32) (a1347 : Addr) (h0 : Heap) (n0 : Nat) (O0 : Old Z n0 h0) (pF_a1346_length : Fld Z h0 a1346 zs1 "length" "I" (.int (0 : Int32))) (pF_a1346_first : Fld Z h0 a1346 zs1 "first" "[I" (.ref a1353)) (pL_a1353 : own_Len Z h0 a1353 .int (16 : Int32)) (pV_a1353 : Arv Z h0 a1353 k1362 .int (16 : Int32) [(.int p1354), (.int p1355), (.int p1356), (.int p1357), (.int p1358), (.int p1359), (.int p1360), (.int p1361)] (.int (0 : Int32))) (pG_a1353 : n0 ≤ a1353) (pN_a1346_a1353 : a1346 ≠ a1353) (pE_a1346 : Exa Z h0 a1346 zs1) (pG_a1346 : n0 ≤ a1346) (pE_a1353 : Exa Z h0 a1353 "[I") (pF_a1346_text : Fld Z h0 a1346 zs1 "text" "[B" (.ref a1347)) :
    MetFree l (⟨zs1, "add", "(I)I"⟩ : MethodName) (head1 (Jvm.Cond.code (⟨zs1, "add", "(I)I"⟩ : MethodName) prog_17_method_2_code 2 (some .int) :: ws) ({ frames := 0, cells := 0, slots := 0, locals := 0 } : Room)) (fun a U => a = #[(.ref a1346), (.int (2 : Int32))] ∧ Z.Warmed39 U.vm ∧ U.heap = h0) (fun _ _ _ _ _ => True) (fun _ U o U' => ∃ v L, o = .returned v ∧ Q21 Z a1346 a1353 k1362 p1354 p1355 p1356 p1357 p1358 p1359 p1360 p1361 a1347 h0 n0 v U'.heap L ∧ FrameEnd U o U' L ({ frames := 0, cells := 0, slots := 0, locals := 0 } : Room).cells ({ frames := 0, cells := 0, slots := 0, locals := 0 } : Room).slots) := by
  refine MetFree.of_bodySF (plainFor_of_name pn_1) hisR ?_
  intro p e s m args below meth c s₁ Bd hml0 hP hK
  obtain ⟨rfl, hZ, hh⟩ := hP
  have hx := Bd.exec
  have hby := Bd.bytes
  have hml : c.maxLocals = 2 := hml0
  have hown : s.vm.findClass zs1 = some m.cls := findClass_of_methodNamed Bd.named
  have hnm := (name_of_methodNamed Bd.named Bd.method).1
  have X0 : Stand p l e ({ frames := 0, cells := 0, slots := 0, locals := 0 } : Room) s m #[(.ref a1346), (.int (2 : Int32))] below meth c s₁ [] 0 0 := Stand.of_body Bd
  have e0 : s₁.heap = h0 := by rw [← hh, Bd.state]; rfl
  have N0 := Fr.nil n0
  refine own_out ?_
  refine own_via (fun t k => castTop (ef_3 m a1346 (2 : Int32)) (XS.aloadN X0.here hx rfl (hb hby d5_0) rfl rfl k)) ?_
  obtain ⟨T1368, X1368, e1368, st1368⟩ := getF X0 hx hZ hown (host := "") (Or.inl (wd hw 38 rfl)) Via.refl e0 pF_a1346_length (g := (mkF m 1 #[rv a1346, iv (2 : Int32)] [(.ref a1346)])) rfl rfl (hb hby d5_1)
  refine own_via (fun t k => st1368 t (XS.aloadN X1368.here hx rfl (hb hby d5_4) rfl rfl k)) ?_
  obtain ⟨T1369, X1369, e1369, st1369⟩ := getF X1368 hx hZ hown (host := "") (Or.inl (wd hw 25 rfl)) Via.refl e1368 pF_a1346_first (g := (mkF m 5 #[rv a1346, iv (2 : Int32)] [(.ref a1346), (.int (0 : Int32))])) rfl rfl (hb hby d5_5)
  refine own_via (fun t k => st1369 t k) ?_
  obtain ⟨_, _, _, V1370⟩ := id (pL_a1353)
  obtain ⟨cl1370, Ar1370, -, S1370, M1370, -, -⟩ := id (V1370)
  refine own_via (fun t k => X1369.arraylength hx (by rw [e1369]; exact Ar1370.1) (State.isArrayOf_alike hZ.alike Ar1370.2.1) (g := (mkF m 8 #[rv a1346, iv (2 : Int32)] [(.ref a1353), (.int (0 : Int32))])) rfl rfl (hb hby d5_8) t k) ?_
  rw [len_of S1370 M1370]
  show own_Goes p e below (T1369.setTop (mkF m 9 #[rv a1346, iv (2 : Int32)] [(.int (16 : Int32)), (.int (0 : Int32))])) _
  refine own_via (fun t k => XS.icmpNo X1369.here hx rfl (hb hby d5_9) rfl (tlt (by decide : (0 : Int32) < (16 : Int32))).2.1 (XS.aloadN X1369.here hx rfl (hb hby d5_12) rfl rfl k)) ?_
  obtain ⟨T1371, X1371, e1371, st1371⟩ := getF X1369 hx hZ hown (host := "") (Or.inl (wd hw 25 rfl)) Via.refl e1369 pF_a1346_first (g := (mkF m 13 #[rv a1346, iv (2 : Int32)] [(.ref a1346)])) rfl rfl (hb hby d5_13)
  refine own_via (fun t k => st1371 t (XS.aloadN X1371.here hx rfl (hb hby d5_16) rfl rfl k)) ?_
  obtain ⟨T1372, X1372, e1372, st1372⟩ := getF X1371 hx hZ hown (host := "") (Or.inl (wd hw 38 rfl)) Via.refl e1371 pF_a1346_length (g := (mkF m 17 #[rv a1346, iv (2 : Int32)] [(.ref a1346), (.ref a1353)])) rfl rfl (hb hby d5_17)
  refine own_via (fun t k => st1372 t (XS.iloadN X1372.here hx rfl (hb hby d5_20) rfl k)) ?_
  obtain ⟨cl1373, Ar1373, qq1373, S1373, M1373, H1373, G1373⟩ := id (pV_a1353)
  have hin1373 : ¬ ((0 : Int32) < 0 ∨ cl1373.slots.size ≤ ((0 : Int32)).toNatClampNeg) := inb_of S1373 ⟨by decide, by decide⟩
  obtain ⟨T1373, h1373, X1373, e1373, W1373, st1373⟩ := stI X1372 hx hZ e1372 Ar1373 (j := (0 : Int32)) hin1373 (g := (mkF m 21 #[rv a1346, iv (2 : Int32)] [(.int (2 : Int32)), (.int (0 : Int32)), (.ref a1353)])) rfl rfl (hb hby d5_21)
  refine own_via (fun t k => st1373 t k) ?_
  have V1374 : Arv Z h1373 a1353 k1362 .int (16 : Int32) [(.int (2 : Int32)), (.int p1355), (.int p1356), (.int p1357), (.int p1358), (.int p1359), (.int p1360), (.int p1361)] (.int (0 : Int32)) := Arv.set Ar1373 qq1373 S1373 M1373 H1373 G1373 rfl W1373 0 rfl (Nat.le_of_ble_eq_true rfl)
  have N1373 := Fr.snoc X1373 N0 pG_a1353
  show own_Goes p e below (T1373.setTop (mkF m 22 #[rv a1346, iv (2 : Int32)] [])) _
  refine own_via (fun t k => XS.aloadN X1373.here hx rfl (hb hby d5_22) rfl rfl (XS.dup X1373.here hx rfl (hb hby d5_23) rfl rfl k)) ?_
  have F1375 : Fld Z h1373 a1346 zs1 "length" "I" (.int (0 : Int32)) := (pF_a1346_length.other W1373 (Or.inl pN_a1346_a1353))
  obtain ⟨T1376, X1376, e1376, st1376⟩ := getF X1373 hx hZ hown (host := "") (Or.inl (wd hw 38 rfl)) Via.refl e1373 F1375 (g := (mkF m 24 #[rv a1346, iv (2 : Int32)] [(.ref a1346), (.ref a1346)])) rfl rfl (hb hby d5_24)
  refine own_via (fun t k => st1376 t (XS.dupX1 X1376.here hx rfl (hb hby d5_27) rfl rfl rfl (XS.iconst X1376.here hx rfl (hb hby d5_28) (XS.iadd X1376.here hx rfl (hb hby d5_29) rfl k)))) ?_
  show own_Goes p e below (T1376.setTop (mkF m 30 #[rv a1346, iv (2 : Int32)] [(.int (1 : Int32)), (.ref a1346), (.int (0 : Int32))])) _
  have E1377 : Exa Z h1373 a1346 zs1 := (pE_a1346.wr W1373)
  obtain ⟨T1378, h1378, X1378, e1378, W1378, st1378⟩ := putF X1376 hx hZ hown (host := "") (Or.inl (wd hw 38 rfl)) Via.refl e1376 F1375 E1377 (Or.inl (wd hw 39 rfl)) (wd hw 2 rfl) (ty := .int) (by decide) rfl rfl (g := (mkF m 30 #[rv a1346, iv (2 : Int32)] [(.int (1 : Int32)), (.ref a1346), (.int (0 : Int32))])) rfl rfl (hb hby d5_30)
  refine own_via (fun t k => st1378 t k) ?_
  have Fw1378 : Fld Z h1378 a1346 zs1 "length" "I" (.int (1 : Int32)) := F1375.same W1378
  have N1378 := Fr.snoc X1378 N1373 pG_a1346
  show own_Goes p e below (T1378.setTop (mkF m 33 #[rv a1346, iv (2 : Int32)] [(.int (0 : Int32))])) _
  obtain ⟨fs, hr, hrun, hended, hW, hsame⟩ := X1378.leave (v := some (.int (0 : Int32))) (fun h => by rw [Bd.returns] at h; cases h)
  refine own_end (t := T1378.setFrames fs) ?_ ⟨_, hrun, hended, _, _, rfl, ?_, ⟨_, rfl⟩, hW, hsame.mono (by decide) (by decide)⟩
  · exact retI X1378 hx Bd.returns (hb hby d5_33) hr
  have V1379 : Arv Z h1378 a1353 k1362 .int (16 : Int32) [(.int (2 : Int32)), (.int p1355), (.int p1356), (.int p1357), (.int p1358), (.int p1359), (.int p1360), (.int p1361)] (.int (0 : Int32)) := (V1374.other W1378 (Ne.symm pN_a1346_a1353))
  have E1380 : Exa Z h1378 a1353 "[I" := ((pE_a1353.wr W1373).wr W1378)
  have E1381 : Exa Z h1378 a1346 zs1 := (E1377.wr W1378)
  have F1382 : Fld Z h1378 a1346 zs1 "text" "[B" (.ref a1347) := ((pF_a1346_text.other W1373 (Or.inl pN_a1346_a1353)).other W1378 (Or.inr (slot_ne (Or.inr (wd hw 19 rfl)) (Or.inl (wd hw 39 rfl)) (by decide) (t := (.array .byte)) (t' := .int) (by decide) (by decide))))
  have F1383 : Fld Z h1378 a1346 zs1 "first" "[I" (.ref a1353) := ((pF_a1346_first.other W1373 (Or.inl pN_a1346_a1353)).other W1378 (Or.inr (slot_ne (Or.inl (wd hw 26 rfl)) (Or.inl (wd hw 39 rfl)) (by decide) (t := (.array .int)) (t' := .int) (by decide) (by decide))))
  · show Q21 Z a1346 a1353 k1362 p1354 p1355 p1356 p1357 p1358 p1359 p1360 p1361 a1347 h0 n0 _ T1378.heap _
    rw [e1378]
    exact ⟨rfl, N1378, (((Keep.refl h0 [a1353, a1346]).wr W1373 (Or.inl (List.mem_of_getElem? (i := 0) rfl))).wr W1378 (Or.inl (List.mem_of_getElem? (i := 1) rfl))), V1379, E1380, E1381, F1382, F1383, Fw1378⟩
def Q22 (Z : State) (a1440 : Addr) (p1441 : Int32) (a1448 : Addr) (k1457 : ClassId) (p1449 : Int32) (p1450 : Int32) (p1451 : Int32) (p1452 : Int32) (p1453 : Int32) (p1454 : Int32) (p1455 : Int32) (p1456 : Int32) (a1442 : Addr) (h0 : Heap) (n0 : Nat) (v : Option Value) (h : Heap) (L : List Loc) : Prop := v = some (.int (1 : Int32)) ∧ Fr n0 L ∧ Keep h0 h [a1448, a1440] ∧ Exa Z h a1448 "[I" ∧ Arv Z h a1448 k1457 .int (16 : Int32) [(.int p1449), (.int p1441), (.int p1451), (.int p1452), (.int p1453), (.int p1454), (.int p1455), (.int p1456)] (.int (0 : Int32)) ∧ Exa Z h a1440 zs1 ∧ Fld Z h a1440 zs1 "text" "[B" (.ref a1442) ∧ Fld Z h a1440 zs1 "first" "[I" (.ref a1448) ∧ Fld Z h a1440 zs1 "length" "I" (.int (2 : Int32))
set_option maxRecDepth 65536 in
set_option maxHeartbeats 40000000 in
theorem rm22 (l : Launch) (Z : State) (a0 : Array Value) (hw : ∀ d ∈ tables_1, d.before a0 Z = true) (ws : List Jvm.Cond) (a1440 : Addr) (p1441 : Int32) (a1448 : Addr) (k1457 : ClassId) (p1449 : Int32) (p1450 : Int32) (p1451 : Int32) (p1452 : Int32) (p1453 : Int32) (p1454 : Int32) (p1455 : Int32) (p1456 : Int32) (a1442 : Addr) (h0 : Heap) (n0 : Nat) (O0 : Old Z n0 h0) (pF_a1440_length : Fld Z h0 a1440 zs1 "length" "I" (.int (1 : Int32))) (pF_a1440_first : Fld Z h0 a1440 zs1 "first" "[I" (.ref a1448)) (pL_a1448 : own_Len Z h0 a1448 .int (16 : Int32)) (pV_a1448 : Arv Z h0 a1448 k1457 .int (16 : Int32) [(.int p1449), (.int p1450), (.int p1451), (.int p1452), (.int p1453), (.int p1454), (.int p1455), (.int p1456)] (.int (0 : Int32))) (pG_a1448 : n0 ≤ a1448) (pN_a1440_a1448 : a1440 ≠ a1448) (pE_a1440 : Exa Z h0 a1440 zs1) (pG_a1440 : n0 ≤ a1440) (pE_a1448 : Exa Z h0 a1448 "[I") (pF_a1440_text : Fld Z h0 a1440 zs1 "text" "[B" (.ref a1442)) :
    MetFree l (⟨zs1, "add", "(I)I"⟩ : MethodName) (head1 (Jvm.Cond.code (⟨zs1, "add", "(I)I"⟩ : MethodName) prog_17_method_2_code 2 (some .int) :: ws) ({ frames := 0, cells := 0, slots := 0, locals := 0 } : Room)) (fun a U => a = #[(.ref a1440), (.int p1441)] ∧ Z.Warmed39 U.vm ∧ U.heap = h0) (fun _ _ _ _ _ => True) (fun _ U o U' => ∃ v L, o = .returned v ∧ Q22 Z a1440 p1441 a1448 k1457 p1449 p1450 p1451 p1452 p1453 p1454 p1455 p1456 a1442 h0 n0 v U'.heap L ∧ FrameEnd U o U' L ({ frames := 0, cells := 0, slots := 0, locals := 0 } : Room).cells ({ frames := 0, cells := 0, slots := 0, locals := 0 } : Room).slots) := by
  refine MetFree.of_bodySF (plainFor_of_name pn_1) hisR ?_
  intro p e s m args below meth c s₁ Bd hml0 hP hK
  obtain ⟨rfl, hZ, hh⟩ := hP
  have hx := Bd.exec
  have hby := Bd.bytes
  have hml : c.maxLocals = 2 := hml0
  have hown : s.vm.findClass zs1 = some m.cls := findClass_of_methodNamed Bd.named
  have hnm := (name_of_methodNamed Bd.named Bd.method).1
  have X0 : Stand p l e ({ frames := 0, cells := 0, slots := 0, locals := 0 } : Room) s m #[(.ref a1440), (.int p1441)] below meth c s₁ [] 0 0 := Stand.of_body Bd
  have e0 : s₁.heap = h0 := by rw [← hh, Bd.state]; rfl
  have N0 := Fr.nil n0
  refine own_out ?_
  refine own_via (fun t k => castTop (ef_3 m a1440 p1441) (XS.aloadN X0.here hx rfl (hb hby d5_0) rfl rfl k)) ?_
  obtain ⟨T1465, X1465, e1465, st1465⟩ := getF X0 hx hZ hown (host := "") (Or.inl (wd hw 38 rfl)) Via.refl e0 pF_a1440_length (g := (mkF m 1 #[rv a1440, iv p1441] [(.ref a1440)])) rfl rfl (hb hby d5_1)
  refine own_via (fun t k => st1465 t (XS.aloadN X1465.here hx rfl (hb hby d5_4) rfl rfl k)) ?_
  obtain ⟨T1466, X1466, e1466, st1466⟩ := getF X1465 hx hZ hown (host := "") (Or.inl (wd hw 25 rfl)) Via.refl e1465 pF_a1440_first (g := (mkF m 5 #[rv a1440, iv p1441] [(.ref a1440), (.int (1 : Int32))])) rfl rfl (hb hby d5_5)
  refine own_via (fun t k => st1466 t k) ?_
  obtain ⟨_, _, _, V1467⟩ := id (pL_a1448)
  obtain ⟨cl1467, Ar1467, -, S1467, M1467, -, -⟩ := id (V1467)
  refine own_via (fun t k => X1466.arraylength hx (by rw [e1466]; exact Ar1467.1) (State.isArrayOf_alike hZ.alike Ar1467.2.1) (g := (mkF m 8 #[rv a1440, iv p1441] [(.ref a1448), (.int (1 : Int32))])) rfl rfl (hb hby d5_8) t k) ?_
  rw [len_of S1467 M1467]
  show own_Goes p e below (T1466.setTop (mkF m 9 #[rv a1440, iv p1441] [(.int (16 : Int32)), (.int (1 : Int32))])) _
  refine own_via (fun t k => XS.icmpNo X1466.here hx rfl (hb hby d5_9) rfl (tlt (by decide : (1 : Int32) < (16 : Int32))).2.1 (XS.aloadN X1466.here hx rfl (hb hby d5_12) rfl rfl k)) ?_
  obtain ⟨T1468, X1468, e1468, st1468⟩ := getF X1466 hx hZ hown (host := "") (Or.inl (wd hw 25 rfl)) Via.refl e1466 pF_a1440_first (g := (mkF m 13 #[rv a1440, iv p1441] [(.ref a1440)])) rfl rfl (hb hby d5_13)
  refine own_via (fun t k => st1468 t (XS.aloadN X1468.here hx rfl (hb hby d5_16) rfl rfl k)) ?_
  obtain ⟨T1469, X1469, e1469, st1469⟩ := getF X1468 hx hZ hown (host := "") (Or.inl (wd hw 38 rfl)) Via.refl e1468 pF_a1440_length (g := (mkF m 17 #[rv a1440, iv p1441] [(.ref a1440), (.ref a1448)])) rfl rfl (hb hby d5_17)
  refine own_via (fun t k => st1469 t (XS.iloadN X1469.here hx rfl (hb hby d5_20) rfl k)) ?_
  obtain ⟨cl1470, Ar1470, qq1470, S1470, M1470, H1470, G1470⟩ := id (pV_a1448)
  have hin1470 : ¬ ((1 : Int32) < 0 ∨ cl1470.slots.size ≤ ((1 : Int32)).toNatClampNeg) := inb_of S1470 ⟨by decide, by decide⟩
  obtain ⟨T1470, h1470, X1470, e1470, W1470, st1470⟩ := stI X1469 hx hZ e1469 Ar1470 (j := (1 : Int32)) hin1470 (g := (mkF m 21 #[rv a1440, iv p1441] [(.int p1441), (.int (1 : Int32)), (.ref a1448)])) rfl rfl (hb hby d5_21)
  refine own_via (fun t k => st1470 t k) ?_
  have V1471 : Arv Z h1470 a1448 k1457 .int (16 : Int32) [(.int p1449), (.int p1441), (.int p1451), (.int p1452), (.int p1453), (.int p1454), (.int p1455), (.int p1456)] (.int (0 : Int32)) := Arv.set Ar1470 qq1470 S1470 M1470 H1470 G1470 rfl W1470 1 rfl (Nat.le_of_ble_eq_true rfl)
  have N1470 := Fr.snoc X1470 N0 pG_a1448
  show own_Goes p e below (T1470.setTop (mkF m 22 #[rv a1440, iv p1441] [])) _
  refine own_via (fun t k => XS.aloadN X1470.here hx rfl (hb hby d5_22) rfl rfl (XS.dup X1470.here hx rfl (hb hby d5_23) rfl rfl k)) ?_
  have F1472 : Fld Z h1470 a1440 zs1 "length" "I" (.int (1 : Int32)) := (pF_a1440_length.other W1470 (Or.inl pN_a1440_a1448))
  obtain ⟨T1473, X1473, e1473, st1473⟩ := getF X1470 hx hZ hown (host := "") (Or.inl (wd hw 38 rfl)) Via.refl e1470 F1472 (g := (mkF m 24 #[rv a1440, iv p1441] [(.ref a1440), (.ref a1440)])) rfl rfl (hb hby d5_24)
  refine own_via (fun t k => st1473 t (XS.dupX1 X1473.here hx rfl (hb hby d5_27) rfl rfl rfl (XS.iconst X1473.here hx rfl (hb hby d5_28) (XS.iadd X1473.here hx rfl (hb hby d5_29) rfl k)))) ?_
  show own_Goes p e below (T1473.setTop (mkF m 30 #[rv a1440, iv p1441] [(.int (2 : Int32)), (.ref a1440), (.int (1 : Int32))])) _
  have E1474 : Exa Z h1470 a1440 zs1 := (pE_a1440.wr W1470)
  obtain ⟨T1475, h1475, X1475, e1475, W1475, st1475⟩ := putF X1473 hx hZ hown (host := "") (Or.inl (wd hw 38 rfl)) Via.refl e1473 F1472 E1474 (Or.inl (wd hw 39 rfl)) (wd hw 2 rfl) (ty := .int) (by decide) rfl rfl (g := (mkF m 30 #[rv a1440, iv p1441] [(.int (2 : Int32)), (.ref a1440), (.int (1 : Int32))])) rfl rfl (hb hby d5_30)
  refine own_via (fun t k => st1475 t k) ?_
  have Fw1475 : Fld Z h1475 a1440 zs1 "length" "I" (.int (2 : Int32)) := F1472.same W1475
  have N1475 := Fr.snoc X1475 N1470 pG_a1440
  show own_Goes p e below (T1475.setTop (mkF m 33 #[rv a1440, iv p1441] [(.int (1 : Int32))])) _
  obtain ⟨fs, hr, hrun, hended, hW, hsame⟩ := X1475.leave (v := some (.int (1 : Int32))) (fun h => by rw [Bd.returns] at h; cases h)
  refine own_end (t := T1475.setFrames fs) ?_ ⟨_, hrun, hended, _, _, rfl, ?_, ⟨_, rfl⟩, hW, hsame.mono (by decide) (by decide)⟩
  · exact retI X1475 hx Bd.returns (hb hby d5_33) hr
  have E1476 : Exa Z h1475 a1448 "[I" := ((pE_a1448.wr W1470).wr W1475)
  have V1477 : Arv Z h1475 a1448 k1457 .int (16 : Int32) [(.int p1449), (.int p1441), (.int p1451), (.int p1452), (.int p1453), (.int p1454), (.int p1455), (.int p1456)] (.int (0 : Int32)) := (V1471.other W1475 (Ne.symm pN_a1440_a1448))
  have E1478 : Exa Z h1475 a1440 zs1 := (E1474.wr W1475)
  have F1479 : Fld Z h1475 a1440 zs1 "text" "[B" (.ref a1442) := ((pF_a1440_text.other W1470 (Or.inl pN_a1440_a1448)).other W1475 (Or.inr (slot_ne (Or.inr (wd hw 19 rfl)) (Or.inl (wd hw 39 rfl)) (by decide) (t := (.array .byte)) (t' := .int) (by decide) (by decide))))
  have F1480 : Fld Z h1475 a1440 zs1 "first" "[I" (.ref a1448) := ((pF_a1440_first.other W1470 (Or.inl pN_a1440_a1448)).other W1475 (Or.inr (slot_ne (Or.inl (wd hw 26 rfl)) (Or.inl (wd hw 39 rfl)) (by decide) (t := (.array .int)) (t' := .int) (by decide) (by decide))))
  · show Q22 Z a1440 p1441 a1448 k1457 p1449 p1450 p1451 p1452 p1453 p1454 p1455 p1456 a1442 h0 n0 _ T1475.heap _
    rw [e1475]
    exact ⟨rfl, N1475, (((Keep.refl h0 [a1448, a1440]).wr W1470 (Or.inl (List.mem_of_getElem? (i := 0) rfl))).wr W1475 (Or.inl (List.mem_of_getElem? (i := 1) rfl))), E1476, V1477, E1478, F1479, F1480, Fw1475⟩
def Q23 (Z : State) (a1497 : Addr) (a1504 : Addr) (k1513 : ClassId) (p1505 : Int32) (p1506 : Int32) (p1507 : Int32) (p1508 : Int32) (p1509 : Int32) (p1510 : Int32) (p1511 : Int32) (p1512 : Int32) (a1498 : Addr) (h0 : Heap) (n0 : Nat) (v : Option Value) (h : Heap) (L : List Loc) : Prop := v = some (.int (3 : Int32)) ∧ Fr n0 L ∧ Keep h0 h [a1504, a1497] ∧ Exa Z h a1504 "[I" ∧ Arv Z h a1504 k1513 .int (16 : Int32) [(.int p1505), (.int p1506), (.int p1507), (.int (0 : Int32)), (.int p1509), (.int p1510), (.int p1511), (.int p1512)] (.int (0 : Int32)) ∧ Exa Z h a1497 zs1 ∧ Fld Z h a1497 zs1 "text" "[B" (.ref a1498) ∧ Fld Z h a1497 zs1 "first" "[I" (.ref a1504) ∧ Fld Z h a1497 zs1 "length" "I" (.int (4 : Int32))
set_option maxRecDepth 65536 in
set_option maxHeartbeats 40000000 in
theorem rm23 (l : Launch) (Z : State) (a0 : Array Value) (hw : ∀ d ∈ tables_1, d.before a0 Z = true) (ws : List Jvm.Cond) (a1497 : Addr) (a1504 : Addr) (k1513 : ClassId) (p1505 : Int32) (p1506 : Int32) (p1507 : Int32) (p1508 : Int32) (p1509 : Int32) (p1510 : Int32) (p1511 : Int32) (p1512 : Int32) (a1498 : Addr) (h0 : Heap) (n0 : Nat) (O0 : Old Z n0 h0) (pF_a1497_length : Fld Z h0 a1497 zs1 "length" "I" (.int (3 : Int32))) (pF_a1497_first : Fld Z h0 a1497 zs1 "first" "[I" (.ref a1504)) (pL_a1504 : own_Len Z h0 a1504 .int (16 : Int32)) (pV_a1504 : Arv Z h0 a1504 k1513 .int (16 : Int32) [(.int p1505), (.int p1506), (.int p1507), (.int p1508), (.int p1509), (.int p1510), (.int p1511), (.int p1512)] (.int (0 : Int32))) (pG_a1504 : n0 ≤ a1504) (pN_a1497_a1504 : a1497 ≠ a1504) (pE_a1497 : Exa Z h0 a1497 zs1) (pG_a1497 : n0 ≤ a1497) (pE_a1504 : Exa Z h0 a1504 "[I") (pF_a1497_text : Fld Z h0 a1497 zs1 "text" "[B" (.ref a1498)) :
    MetFree l (⟨zs1, "add", "(I)I"⟩ : MethodName) (head1 (Jvm.Cond.code (⟨zs1, "add", "(I)I"⟩ : MethodName) prog_17_method_2_code 2 (some .int) :: ws) ({ frames := 0, cells := 0, slots := 0, locals := 0 } : Room)) (fun a U => a = #[(.ref a1497), (.int (0 : Int32))] ∧ Z.Warmed39 U.vm ∧ U.heap = h0) (fun _ _ _ _ _ => True) (fun _ U o U' => ∃ v L, o = .returned v ∧ Q23 Z a1497 a1504 k1513 p1505 p1506 p1507 p1508 p1509 p1510 p1511 p1512 a1498 h0 n0 v U'.heap L ∧ FrameEnd U o U' L ({ frames := 0, cells := 0, slots := 0, locals := 0 } : Room).cells ({ frames := 0, cells := 0, slots := 0, locals := 0 } : Room).slots) := by
  refine MetFree.of_bodySF (plainFor_of_name pn_1) hisR ?_
  intro p e s m args below meth c s₁ Bd hml0 hP hK
  obtain ⟨rfl, hZ, hh⟩ := hP
  have hx := Bd.exec
  have hby := Bd.bytes
  have hml : c.maxLocals = 2 := hml0
  have hown : s.vm.findClass zs1 = some m.cls := findClass_of_methodNamed Bd.named
  have hnm := (name_of_methodNamed Bd.named Bd.method).1
  have X0 : Stand p l e ({ frames := 0, cells := 0, slots := 0, locals := 0 } : Room) s m #[(.ref a1497), (.int (0 : Int32))] below meth c s₁ [] 0 0 := Stand.of_body Bd
  have e0 : s₁.heap = h0 := by rw [← hh, Bd.state]; rfl
  have N0 := Fr.nil n0
  refine own_out ?_
  refine own_via (fun t k => castTop (ef_3 m a1497 (0 : Int32)) (XS.aloadN X0.here hx rfl (hb hby d5_0) rfl rfl k)) ?_
  obtain ⟨T1521, X1521, e1521, st1521⟩ := getF X0 hx hZ hown (host := "") (Or.inl (wd hw 38 rfl)) Via.refl e0 pF_a1497_length (g := (mkF m 1 #[rv a1497, iv (0 : Int32)] [(.ref a1497)])) rfl rfl (hb hby d5_1)
  refine own_via (fun t k => st1521 t (XS.aloadN X1521.here hx rfl (hb hby d5_4) rfl rfl k)) ?_
  obtain ⟨T1522, X1522, e1522, st1522⟩ := getF X1521 hx hZ hown (host := "") (Or.inl (wd hw 25 rfl)) Via.refl e1521 pF_a1497_first (g := (mkF m 5 #[rv a1497, iv (0 : Int32)] [(.ref a1497), (.int (3 : Int32))])) rfl rfl (hb hby d5_5)
  refine own_via (fun t k => st1522 t k) ?_
  obtain ⟨_, _, _, V1523⟩ := id (pL_a1504)
  obtain ⟨cl1523, Ar1523, -, S1523, M1523, -, -⟩ := id (V1523)
  refine own_via (fun t k => X1522.arraylength hx (by rw [e1522]; exact Ar1523.1) (State.isArrayOf_alike hZ.alike Ar1523.2.1) (g := (mkF m 8 #[rv a1497, iv (0 : Int32)] [(.ref a1504), (.int (3 : Int32))])) rfl rfl (hb hby d5_8) t k) ?_
  rw [len_of S1523 M1523]
  show own_Goes p e below (T1522.setTop (mkF m 9 #[rv a1497, iv (0 : Int32)] [(.int (16 : Int32)), (.int (3 : Int32))])) _
  refine own_via (fun t k => XS.icmpNo X1522.here hx rfl (hb hby d5_9) rfl (tlt (by decide : (3 : Int32) < (16 : Int32))).2.1 (XS.aloadN X1522.here hx rfl (hb hby d5_12) rfl rfl k)) ?_
  obtain ⟨T1524, X1524, e1524, st1524⟩ := getF X1522 hx hZ hown (host := "") (Or.inl (wd hw 25 rfl)) Via.refl e1522 pF_a1497_first (g := (mkF m 13 #[rv a1497, iv (0 : Int32)] [(.ref a1497)])) rfl rfl (hb hby d5_13)
  refine own_via (fun t k => st1524 t (XS.aloadN X1524.here hx rfl (hb hby d5_16) rfl rfl k)) ?_
  obtain ⟨T1525, X1525, e1525, st1525⟩ := getF X1524 hx hZ hown (host := "") (Or.inl (wd hw 38 rfl)) Via.refl e1524 pF_a1497_length (g := (mkF m 17 #[rv a1497, iv (0 : Int32)] [(.ref a1497), (.ref a1504)])) rfl rfl (hb hby d5_17)
  refine own_via (fun t k => st1525 t (XS.iloadN X1525.here hx rfl (hb hby d5_20) rfl k)) ?_
  obtain ⟨cl1526, Ar1526, qq1526, S1526, M1526, H1526, G1526⟩ := id (pV_a1504)
  have hin1526 : ¬ ((3 : Int32) < 0 ∨ cl1526.slots.size ≤ ((3 : Int32)).toNatClampNeg) := inb_of S1526 ⟨by decide, by decide⟩
  obtain ⟨T1526, h1526, X1526, e1526, W1526, st1526⟩ := stI X1525 hx hZ e1525 Ar1526 (j := (3 : Int32)) hin1526 (g := (mkF m 21 #[rv a1497, iv (0 : Int32)] [(.int (0 : Int32)), (.int (3 : Int32)), (.ref a1504)])) rfl rfl (hb hby d5_21)
  refine own_via (fun t k => st1526 t k) ?_
  have V1527 : Arv Z h1526 a1504 k1513 .int (16 : Int32) [(.int p1505), (.int p1506), (.int p1507), (.int (0 : Int32)), (.int p1509), (.int p1510), (.int p1511), (.int p1512)] (.int (0 : Int32)) := Arv.set Ar1526 qq1526 S1526 M1526 H1526 G1526 rfl W1526 3 rfl (Nat.le_of_ble_eq_true rfl)
  have N1526 := Fr.snoc X1526 N0 pG_a1504
  show own_Goes p e below (T1526.setTop (mkF m 22 #[rv a1497, iv (0 : Int32)] [])) _
  refine own_via (fun t k => XS.aloadN X1526.here hx rfl (hb hby d5_22) rfl rfl (XS.dup X1526.here hx rfl (hb hby d5_23) rfl rfl k)) ?_
  have F1528 : Fld Z h1526 a1497 zs1 "length" "I" (.int (3 : Int32)) := (pF_a1497_length.other W1526 (Or.inl pN_a1497_a1504))
  obtain ⟨T1529, X1529, e1529, st1529⟩ := getF X1526 hx hZ hown (host := "") (Or.inl (wd hw 38 rfl)) Via.refl e1526 F1528 (g := (mkF m 24 #[rv a1497, iv (0 : Int32)] [(.ref a1497), (.ref a1497)])) rfl rfl (hb hby d5_24)
  refine own_via (fun t k => st1529 t (XS.dupX1 X1529.here hx rfl (hb hby d5_27) rfl rfl rfl (XS.iconst X1529.here hx rfl (hb hby d5_28) (XS.iadd X1529.here hx rfl (hb hby d5_29) rfl k)))) ?_
  show own_Goes p e below (T1529.setTop (mkF m 30 #[rv a1497, iv (0 : Int32)] [(.int (4 : Int32)), (.ref a1497), (.int (3 : Int32))])) _
  have E1530 : Exa Z h1526 a1497 zs1 := (pE_a1497.wr W1526)
  obtain ⟨T1531, h1531, X1531, e1531, W1531, st1531⟩ := putF X1529 hx hZ hown (host := "") (Or.inl (wd hw 38 rfl)) Via.refl e1529 F1528 E1530 (Or.inl (wd hw 39 rfl)) (wd hw 2 rfl) (ty := .int) (by decide) rfl rfl (g := (mkF m 30 #[rv a1497, iv (0 : Int32)] [(.int (4 : Int32)), (.ref a1497), (.int (3 : Int32))])) rfl rfl (hb hby d5_30)
  refine own_via (fun t k => st1531 t k) ?_
  have Fw1531 : Fld Z h1531 a1497 zs1 "length" "I" (.int (4 : Int32)) := F1528.same W1531
  have N1531 := Fr.snoc X1531 N1526 pG_a1497
  show own_Goes p e below (T1531.setTop (mkF m 33 #[rv a1497, iv (0 : Int32)] [(.int (3 : Int32))])) _
  obtain ⟨fs, hr, hrun, hended, hW, hsame⟩ := X1531.leave (v := some (.int (3 : Int32))) (fun h => by rw [Bd.returns] at h; cases h)
  refine own_end (t := T1531.setFrames fs) ?_ ⟨_, hrun, hended, _, _, rfl, ?_, ⟨_, rfl⟩, hW, hsame.mono (by decide) (by decide)⟩
  · exact retI X1531 hx Bd.returns (hb hby d5_33) hr
  have E1532 : Exa Z h1531 a1504 "[I" := ((pE_a1504.wr W1526).wr W1531)
  have V1533 : Arv Z h1531 a1504 k1513 .int (16 : Int32) [(.int p1505), (.int p1506), (.int p1507), (.int (0 : Int32)), (.int p1509), (.int p1510), (.int p1511), (.int p1512)] (.int (0 : Int32)) := (V1527.other W1531 (Ne.symm pN_a1497_a1504))
  have E1534 : Exa Z h1531 a1497 zs1 := (E1530.wr W1531)
  have F1535 : Fld Z h1531 a1497 zs1 "text" "[B" (.ref a1498) := ((pF_a1497_text.other W1526 (Or.inl pN_a1497_a1504)).other W1531 (Or.inr (slot_ne (Or.inr (wd hw 19 rfl)) (Or.inl (wd hw 39 rfl)) (by decide) (t := (.array .byte)) (t' := .int) (by decide) (by decide))))
  have F1536 : Fld Z h1531 a1497 zs1 "first" "[I" (.ref a1504) := ((pF_a1497_first.other W1526 (Or.inl pN_a1497_a1504)).other W1531 (Or.inr (slot_ne (Or.inl (wd hw 26 rfl)) (Or.inl (wd hw 39 rfl)) (by decide) (t := (.array .int)) (t' := .int) (by decide) (by decide))))
  · show Q23 Z a1497 a1504 k1513 p1505 p1506 p1507 p1508 p1509 p1510 p1511 p1512 a1498 h0 n0 _ T1531.heap _
    rw [e1531]
    exact ⟨rfl, N1531, (((Keep.refl h0 [a1504, a1497]).wr W1526 (Or.inl (List.mem_of_getElem? (i := 0) rfl))).wr W1531 (Or.inl (List.mem_of_getElem? (i := 1) rfl))), E1532, V1533, E1534, F1535, F1536, Fw1531⟩
def Q24 (Z : State) (a1414 : Addr) (p1415 : Int32) (a1422 : Addr) (k1431 : ClassId) (p1423 : Int32) (p1424 : Int32) (p1425 : Int32) (p1426 : Int32) (p1427 : Int32) (p1428 : Int32) (p1429 : Int32) (p1430 : Int32) (a1416 : Addr) (h0 : Heap) (n0 : Nat) (v : Option Value) (h : Heap) (L : List Loc) : Prop := v = some (.int (1 : Int32)) ∧ Fr n0 L ∧ Keep h0 h [a1422, a1414] ∧ Exa Z h a1422 "[I" ∧ Arv Z h a1422 k1431 .int (16 : Int32) [(.int p1423), (.int p1415), (.int (0 : Int32)), (.int (0 : Int32)), (.int p1427), (.int p1428), (.int p1429), (.int p1430)] (.int (0 : Int32)) ∧ Exa Z h a1414 zs1 ∧ Fld Z h a1414 zs1 "text" "[B" (.ref a1416) ∧ Fld Z h a1414 zs1 "first" "[I" (.ref a1422) ∧ Fld Z h a1414 zs1 "length" "I" (.int (4 : Int32))
set_option maxRecDepth 65536 in
set_option maxHeartbeats 40000000 in
theorem rm24 (l : Launch) (Z : State) (a0 : Array Value) (hw : ∀ d ∈ tables_1, d.before a0 Z = true) (ws : List Jvm.Cond) (a1414 : Addr) (p1415 : Int32) (a1422 : Addr) (k1431 : ClassId) (p1423 : Int32) (p1424 : Int32) (p1425 : Int32) (p1426 : Int32) (p1427 : Int32) (p1428 : Int32) (p1429 : Int32) (p1430 : Int32) (a1416 : Addr) (h0 : Heap) (n0 : Nat) (O0 : Old Z n0 h0) (pF_a1414_length : Fld Z h0 a1414 zs1 "length" "I" (.int (1 : Int32))) (pF_a1414_first : Fld Z h0 a1414 zs1 "first" "[I" (.ref a1422)) (pL_a1422 : own_Len Z h0 a1422 .int (16 : Int32)) (pV_a1422 : Arv Z h0 a1422 k1431 .int (16 : Int32) [(.int p1423), (.int p1424), (.int p1425), (.int p1426), (.int p1427), (.int p1428), (.int p1429), (.int p1430)] (.int (0 : Int32))) (pG_a1422 : n0 ≤ a1422) (pN_a1414_a1422 : a1414 ≠ a1422) (pE_a1414 : Exa Z h0 a1414 zs1) (pG_a1414 : n0 ≤ a1414) (pE_a1422 : Exa Z h0 a1422 "[I") (pF_a1414_text : Fld Z h0 a1414 zs1 "text" "[B" (.ref a1416)) :
    MetFree l (⟨zs1, "open", "(I)I"⟩ : MethodName) (head1 (Jvm.Cond.code (⟨zs1, "open", "(I)I"⟩ : MethodName) prog_17_method_5_code 3 (some .int) :: ws) ({ frames := 1, cells := 0, slots := 0, locals := 13 } : Room)) (fun a U => a = #[(.ref a1414), (.int p1415)] ∧ Z.Warmed39 U.vm ∧ U.heap = h0) (fun _ _ _ _ _ => True) (fun _ U o U' => ∃ v L, o = .returned v ∧ Q24 Z a1414 p1415 a1422 k1431 p1423 p1424 p1425 p1426 p1427 p1428 p1429 p1430 a1416 h0 n0 v U'.heap L ∧ FrameEnd U o U' L ({ frames := 1, cells := 0, slots := 0, locals := 13 } : Room).cells ({ frames := 1, cells := 0, slots := 0, locals := 13 } : Room).slots) := by
  refine MetFree.of_bodySF (plainFor_of_name pn_1) hisR ?_
  intro p e s m args below meth c s₁ Bd hml0 hP hK
  obtain ⟨rfl, hZ, hh⟩ := hP
  have hx := Bd.exec
  have hby := Bd.bytes
  have hml : c.maxLocals = 3 := hml0
  have hown : s.vm.findClass zs1 = some m.cls := findClass_of_methodNamed Bd.named
  have hnm := (name_of_methodNamed Bd.named Bd.method).1
  have X0 : Stand p l e ({ frames := 1, cells := 0, slots := 0, locals := 13 } : Room) s m #[(.ref a1414), (.int p1415)] below meth c s₁ [] 0 0 := Stand.of_body Bd
  have e0 : s₁.heap = h0 := by rw [← hh, Bd.state]; rfl
  have N0 := Fr.nil n0
  refine own_out ?_
  refine own_via (fun t k => castTop (ef_4 m a1414 p1415) (XS.aloadN X0.here hx rfl (hb hby d4_0) rfl rfl (XS.iloadN X0.here hx rfl (hb hby d4_1) rfl k))) ?_
  show own_Goes p e below (s₁.setTop (mkF m 2 #[rv a1414, iv p1415, .unset] [(.int p1415), (.ref a1414)])) _
  obtain ⟨_, T1439, _, X1439, hQ1439, st1439⟩ := own_cv X0 hx hZ hown (wd hw 33 rfl) (wd hw 34 rfl) (wd hw 36 rfl) (wd hw 35 rfl) (wd hw 37 rfl) (wd hw 3 rfl) (by decide) (rm22 l Z a0 hw [] a1414 p1415 a1422 k1431 p1423 p1424 p1425 p1426 p1427 p1428 p1429 p1430 a1416 h0 n0 O0 pF_a1414_length pF_a1414_first pL_a1422 pV_a1422 pG_a1422 pN_a1414_a1422 pE_a1414 pG_a1414 pE_a1422 pF_a1414_text) e0 pE_a1414 (g := (mkF m 2 #[rv a1414, iv p1415, .unset] [(.int p1415), (.ref a1414)])) rfl (by rw [hml]; rfl) (rest := []) (W := 0) (lenOf pd_3 rfl) rfl (by show 2 * 0 + _ ≤ _; exact Nat.le_of_eq rfl) (hb hby d4_2) (by decide) (by decide) (by decide) (by decide)
  obtain ⟨h1439, e1439⟩ : ∃ z, T1439.heap = z := ⟨_, rfl⟩
  rw [e1439] at hQ1439
  obtain ⟨rfl, Nq1439, K1439, ex1481, vx1482, ex1483, fx1484, fx1485, fx1486⟩ := hQ1439
  have N1439 := Fr.app N0 Nq1439
  refine own_via (fun t k => st1439 t (XS.istoreN X1439.here hx rfl (hb hby d4_5) rfl (l' := #[rv a1414, iv p1415, iv (1 : Int32)]) rfl (XS.aloadN X1439.here hx rfl (hb hby d4_6) rfl rfl (XS.iconst X1439.here hx rfl (hb hby d4_7) k)))) ?_
  show own_Goes p e below (T1439.setTop (mkF m 8 #[rv a1414, iv p1415, iv (1 : Int32)] [(.int (0 : Int32)), (.ref a1414)])) _
  have l1488 : own_Len Z h1439 a1422 .int (16 : Int32) := ⟨_, _, _, vx1482⟩
  have O1489 : Old Z n0 h1439 := (O0.keep K1439 (allS pG_a1422 (allS pG_a1414 all0)))
  obtain ⟨_, T1487, _, X1487, hQ1487, st1487⟩ := own_cv X1439 hx hZ hown (wd hw 33 rfl) (wd hw 34 rfl) (wd hw 36 rfl) (wd hw 35 rfl) (wd hw 37 rfl) (wd hw 3 rfl) (by decide) (rm5 l Z a0 hw [] a1414 a1422 k1431 p1423 p1415 p1425 p1426 p1427 p1428 p1429 p1430 a1416 h1439 n0 O1489 fx1486 fx1485 l1488 vx1482 pG_a1422 pN_a1414_a1422 ex1483 pG_a1414 ex1481 fx1484) e1439 ex1483 (g := (mkF m 8 #[rv a1414, iv p1415, iv (1 : Int32)] [(.int (0 : Int32)), (.ref a1414)])) rfl (by rw [hml]; rfl) (rest := []) (W := 0) (lenOf pd_3 rfl) rfl (by show 2 * 0 + _ ≤ _; exact Nat.le_of_eq rfl) (hb hby d4_8) (by decide) (by decide) (by decide) (by decide)
  obtain ⟨h1487, e1487⟩ : ∃ z, T1487.heap = z := ⟨_, rfl⟩
  rw [e1487] at hQ1487
  obtain ⟨rfl, Nq1487, K1487, ex1490, vx1491, ex1492, fx1493, fx1494, fx1495⟩ := hQ1487
  have N1487 := Fr.app N1439 Nq1487
  refine own_via (fun t k => st1487 t (XS.pop X1487.here hx rfl (hb hby d4_11) rfl rfl (XS.aloadN X1487.here hx rfl (hb hby d4_12) rfl rfl (XS.iconst X1487.here hx rfl (hb hby d4_13) k)))) ?_
  show own_Goes p e below (T1487.setTop (mkF m 14 #[rv a1414, iv p1415, iv (1 : Int32)] [(.int (0 : Int32)), (.ref a1414)])) _
  have l1537 : own_Len Z h1487 a1422 .int (16 : Int32) := ⟨_, _, _, vx1491⟩
  have O1538 : Old Z n0 h1487 := (O1489.keep K1487 (allS pG_a1422 (allS pG_a1414 all0)))
  obtain ⟨_, T1496, _, X1496, hQ1496, st1496⟩ := own_cv X1487 hx hZ hown (wd hw 33 rfl) (wd hw 34 rfl) (wd hw 36 rfl) (wd hw 35 rfl) (wd hw 37 rfl) (wd hw 3 rfl) (by decide) (rm23 l Z a0 hw [] a1414 a1422 k1431 p1423 p1415 (0 : Int32) p1426 p1427 p1428 p1429 p1430 a1416 h1487 n0 O1538 fx1495 fx1494 l1537 vx1491 pG_a1422 pN_a1414_a1422 ex1492 pG_a1414 ex1490 fx1493) e1487 ex1492 (g := (mkF m 14 #[rv a1414, iv p1415, iv (1 : Int32)] [(.int (0 : Int32)), (.ref a1414)])) rfl (by rw [hml]; rfl) (rest := []) (W := 0) (lenOf pd_3 rfl) rfl (by show 2 * 0 + _ ≤ _; exact Nat.le_of_eq rfl) (hb hby d4_14) (by decide) (by decide) (by decide) (by decide)
  obtain ⟨h1496, e1496⟩ : ∃ z, T1496.heap = z := ⟨_, rfl⟩
  rw [e1496] at hQ1496
  obtain ⟨rfl, Nq1496, K1496, ex1539, vx1540, ex1541, fx1542, fx1543, fx1544⟩ := hQ1496
  have N1496 := Fr.app N1487 Nq1496
  refine own_via (fun t k => st1496 t (XS.pop X1496.here hx rfl (hb hby d4_17) rfl rfl (XS.iloadN X1496.here hx rfl (hb hby d4_18) rfl k))) ?_
  show own_Goes p e below (T1496.setTop (mkF m 19 #[rv a1414, iv p1415, iv (1 : Int32)] [(.int (1 : Int32))])) _
  obtain ⟨fs, hr, hrun, hended, hW, hsame⟩ := X1496.leave (v := some (.int (1 : Int32))) (fun h => by rw [Bd.returns] at h; cases h)
  refine own_end (t := T1496.setFrames fs) ?_ ⟨_, hrun, hended, _, _, rfl, ?_, ⟨_, rfl⟩, hW, hsame.mono (by decide) (by decide)⟩
  · exact retI X1496 hx Bd.returns (hb hby d4_19) hr
  · show Q24 Z a1414 p1415 a1422 k1431 p1423 p1424 p1425 p1426 p1427 p1428 p1429 p1430 a1416 h0 n0 _ T1496.heap _
    rw [e1496]
    exact ⟨rfl, N1496, ((((Keep.refl h0 [a1422, a1414]).trans K1439 (allS (Or.inl (List.mem_of_getElem? (i := 0) rfl)) (allS (Or.inl (List.mem_of_getElem? (i := 1) rfl)) all0))).trans K1487 (allS (Or.inl (List.mem_of_getElem? (i := 0) rfl)) (allS (Or.inl (List.mem_of_getElem? (i := 1) rfl)) all0))).trans K1496 (allS (Or.inl (List.mem_of_getElem? (i := 0) rfl)) (allS (Or.inl (List.mem_of_getElem? (i := 1) rfl)) all0))), ex1539, vx1540, ex1541, fx1542, fx1543, fx1544⟩
def Q25 (Z : State) (a1678 : Addr) (p1679 : Int32) (a1686 : Addr) (k1695 : ClassId) (p1688 : Int32) (p1689 : Int32) (p1687 : Int32) (p1690 : Int32) (p1691 : Int32) (p1692 : Int32) (p1693 : Int32) (p1694 : Int32) (h0 : Heap) (n0 : Nat) (v : Option Value) (h : Heap) (L : List Loc) : Prop := v = none ∧ Fr n0 L ∧ Keep h0 h [a1686] ∧ Exa Z h a1686 "[I" ∧ Arv Z h a1686 k1695 .int (16 : Int32) [(.int p1688), (.int p1689), (.int p1687), (.int p1679), (.int p1691), (.int p1692), (.int p1693), (.int p1694)] (.int (0 : Int32))
set_option maxRecDepth 65536 in
set_option maxHeartbeats 40000000 in
theorem rm25 (l : Launch) (Z : State) (a0 : Array Value) (hw : ∀ d ∈ tables_1, d.before a0 Z = true) (ws : List Jvm.Cond) (a1678 : Addr) (p1679 : Int32) (a1686 : Addr) (k1695 : ClassId) (p1688 : Int32) (p1689 : Int32) (p1687 : Int32) (p1690 : Int32) (p1691 : Int32) (p1692 : Int32) (p1693 : Int32) (p1694 : Int32) (h0 : Heap) (n0 : Nat) (O0 : Old Z n0 h0) (pF_a1678_first : Fld Z h0 a1678 zs1 "first" "[I" (.ref a1686)) (pV_a1686 : Arv Z h0 a1686 k1695 .int (16 : Int32) [(.int p1688), (.int p1689), (.int p1687), (.int p1690), (.int p1691), (.int p1692), (.int p1693), (.int p1694)] (.int (0 : Int32))) (pG_a1686 : n0 ≤ a1686) (pE_a1686 : Exa Z h0 a1686 "[I") :
    MetFree l (⟨zs1, "set", "(II)V"⟩ : MethodName) (head1 (Jvm.Cond.code (⟨zs1, "set", "(II)V"⟩ : MethodName) prog_17_method_29_code 3 none :: ws) ({ frames := 0, cells := 0, slots := 0, locals := 0 } : Room)) (fun a U => a = #[(.ref a1678), (.int (3 : Int32)), (.int p1679)] ∧ Z.Warmed39 U.vm ∧ U.heap = h0) (fun _ _ _ _ _ => True) (fun _ U o U' => ∃ v L, o = .returned v ∧ Q25 Z a1678 p1679 a1686 k1695 p1688 p1689 p1687 p1690 p1691 p1692 p1693 p1694 h0 n0 v U'.heap L ∧ FrameEnd U o U' L ({ frames := 0, cells := 0, slots := 0, locals := 0 } : Room).cells ({ frames := 0, cells := 0, slots := 0, locals := 0 } : Room).slots) := by
  refine MetFree.of_bodySF (plainFor_of_name pn_1) hisR ?_
  intro p e s m args below meth c s₁ Bd hml0 hP hK
  obtain ⟨rfl, hZ, hh⟩ := hP
  have hx := Bd.exec
  have hby := Bd.bytes
  have hml : c.maxLocals = 3 := hml0
  have hown : s.vm.findClass zs1 = some m.cls := findClass_of_methodNamed Bd.named
  have hnm := (name_of_methodNamed Bd.named Bd.method).1
  have X0 : Stand p l e ({ frames := 0, cells := 0, slots := 0, locals := 0 } : Room) s m #[(.ref a1678), (.int (3 : Int32)), (.int p1679)] below meth c s₁ [] 0 0 := Stand.of_body Bd
  have e0 : s₁.heap = h0 := by rw [← hh, Bd.state]; rfl
  have N0 := Fr.nil n0
  refine own_out ?_
  refine own_via (fun t k => castTop (ef_5 m a1678 (3 : Int32) p1679) (XS.iloadN X0.here hx rfl (hb hby d7_0) rfl (XS.sipush X0.here hx rfl (hb hby d7_1) (XS.icmpNo X0.here hx rfl (hb hby d7_4) rfl (tlt (by decide : (3 : Int32) < (16384 : Int32))).2.1 (XS.aloadN X0.here hx rfl (hb hby d7_7) rfl rfl k))))) ?_
  show own_Goes p e below (s₁.setTop (mkF m 8 #[rv a1678, iv (3 : Int32), iv p1679] [(.ref a1678)])) _
  obtain ⟨T1711, X1711, e1711, st1711⟩ := getF X0 hx hZ hown (host := "") (Or.inl (wd hw 25 rfl)) Via.refl e0 pF_a1678_first (g := (mkF m 8 #[rv a1678, iv (3 : Int32), iv p1679] [(.ref a1678)])) rfl rfl (hb hby d7_8)
  refine own_via (fun t k => st1711 t (XS.iloadN X1711.here hx rfl (hb hby d7_11) rfl (XS.iloadN X1711.here hx rfl (hb hby d7_12) rfl k))) ?_
  show own_Goes p e below (T1711.setTop (mkF m 13 #[rv a1678, iv (3 : Int32), iv p1679] [(.int p1679), (.int (3 : Int32)), (.ref a1686)])) _
  obtain ⟨cl1712, Ar1712, qq1712, S1712, M1712, H1712, G1712⟩ := id (pV_a1686)
  have hin1712 : ¬ ((3 : Int32) < 0 ∨ cl1712.slots.size ≤ ((3 : Int32)).toNatClampNeg) := inb_of S1712 ⟨by decide, by decide⟩
  obtain ⟨T1712, h1712, X1712, e1712, W1712, st1712⟩ := stI X1711 hx hZ e1711 Ar1712 (j := (3 : Int32)) hin1712 (g := (mkF m 13 #[rv a1678, iv (3 : Int32), iv p1679] [(.int p1679), (.int (3 : Int32)), (.ref a1686)])) rfl rfl (hb hby d7_13)
  refine own_via (fun t k => st1712 t k) ?_
  have V1713 : Arv Z h1712 a1686 k1695 .int (16 : Int32) [(.int p1688), (.int p1689), (.int p1687), (.int p1679), (.int p1691), (.int p1692), (.int p1693), (.int p1694)] (.int (0 : Int32)) := Arv.set Ar1712 qq1712 S1712 M1712 H1712 G1712 rfl W1712 3 rfl (Nat.le_of_ble_eq_true rfl)
  have N1712 := Fr.snoc X1712 N0 pG_a1686
  show own_Goes p e below (T1712.setTop (mkF m 14 #[rv a1678, iv (3 : Int32), iv p1679] [])) _
  refine own_via (fun t k => XS.goto X1712.here hx rfl (pc0 := 14) (pc' := 33) rfl (hb hby d7_14) (by decide) (by decide) k) ?_
  obtain ⟨fs, hr, hrun, hended, hW, hsame⟩ := X1712.leave (v := none) (fun _ => rfl)
  refine own_end (t := T1712.setFrames fs) ?_ ⟨_, hrun, hended, _, _, rfl, ?_, ⟨_, rfl⟩, hW, hsame.mono (by decide) (by decide)⟩
  · exact X1712.returnOut hx Bd.returns (hb hby d7_33) hr
  have E1714 : Exa Z h1712 a1686 "[I" := (pE_a1686.wr W1712)
  · show Q25 Z a1678 p1679 a1686 k1695 p1688 p1689 p1687 p1690 p1691 p1692 p1693 p1694 h0 n0 _ T1712.heap _
    rw [e1712]
    exact ⟨rfl, N1712, ((Keep.refl h0 [a1686]).wr W1712 (Or.inl (List.mem_of_getElem? (i := 0) rfl))), E1714, V1713⟩
def Q26 (Z : State) (a1640 : Addr) (p1641 : Int32) (p1658 : Int32) (a1648 : Addr) (k1657 : ClassId) (p1649 : Int32) (p1650 : Int32) (p1651 : Int32) (p1652 : Int32) (p1653 : Int32) (p1654 : Int32) (p1655 : Int32) (p1656 : Int32) (h0 : Heap) (n0 : Nat) (v : Option Value) (h : Heap) (L : List Loc) : Prop := v = none ∧ Fr n0 L ∧ Keep h0 h [a1648] ∧ Exa Z h a1648 "[I" ∧ Arv Z h a1648 k1657 .int (16 : Int32) [(.int p1649), (.int p1650), (.int p1658), (.int ((p1641 <<< ((1 : Int32) &&& 31)) ||| (0 : Int32))), (.int p1653), (.int p1654), (.int p1655), (.int p1656)] (.int (0 : Int32))
set_option maxRecDepth 65536 in
set_option maxHeartbeats 40000000 in
theorem rm26 (l : Launch) (Z : State) (a0 : Array Value) (hw : ∀ d ∈ tables_1, d.before a0 Z = true) (ws : List Jvm.Cond) (a1640 : Addr) (p1641 : Int32) (p1658 : Int32) (a1648 : Addr) (k1657 : ClassId) (p1649 : Int32) (p1650 : Int32) (p1651 : Int32) (p1652 : Int32) (p1653 : Int32) (p1654 : Int32) (p1655 : Int32) (p1656 : Int32) (h0 : Heap) (n0 : Nat) (O0 : Old Z n0 h0) (pF_a1640_length : Fld Z h0 a1640 zs1 "length" "I" (.int p1658)) (pF_a1640_first : Fld Z h0 a1640 zs1 "first" "[I" (.ref a1648)) (pV_a1648 : Arv Z h0 a1648 k1657 .int (16 : Int32) [(.int p1649), (.int p1650), (.int p1651), (.int p1652), (.int p1653), (.int p1654), (.int p1655), (.int p1656)] (.int (0 : Int32))) (pG_a1648 : n0 ≤ a1648) (pE_a1648 : Exa Z h0 a1648 "[I") (pE_a1640 : Exa Z h0 a1640 zs1) (pN_a1640_a1648 : a1640 ≠ a1648) :
    MetFree l (⟨zs1, "close", "(IIZ)V"⟩ : MethodName) (head1 (Jvm.Cond.code (⟨zs1, "close", "(IIZ)V"⟩ : MethodName) prog_17_method_6_code 4 none :: ws) ({ frames := 1, cells := 0, slots := 0, locals := 14 } : Room)) (fun a U => a = #[(.ref a1640), (.int (1 : Int32)), (.int p1641), (.int (0 : Int32))] ∧ Z.Warmed39 U.vm ∧ U.heap = h0) (fun _ _ _ _ _ => True) (fun _ U o U' => ∃ v L, o = .returned v ∧ Q26 Z a1640 p1641 p1658 a1648 k1657 p1649 p1650 p1651 p1652 p1653 p1654 p1655 p1656 h0 n0 v U'.heap L ∧ FrameEnd U o U' L ({ frames := 1, cells := 0, slots := 0, locals := 14 } : Room).cells ({ frames := 1, cells := 0, slots := 0, locals := 14 } : Room).slots) := by
  refine MetFree.of_bodySF (plainFor_of_name pn_1) hisR ?_
  intro p e s m args below meth c s₁ Bd hml0 hP hK
  obtain ⟨rfl, hZ, hh⟩ := hP
  have hx := Bd.exec
  have hby := Bd.bytes
  have hml : c.maxLocals = 4 := hml0
  have hown : s.vm.findClass zs1 = some m.cls := findClass_of_methodNamed Bd.named
  have hnm := (name_of_methodNamed Bd.named Bd.method).1
  have X0 : Stand p l e ({ frames := 1, cells := 0, slots := 0, locals := 14 } : Room) s m #[(.ref a1640), (.int (1 : Int32)), (.int p1641), (.int (0 : Int32))] below meth c s₁ [] 0 0 := Stand.of_body Bd
  have e0 : s₁.heap = h0 := by rw [← hh, Bd.state]; rfl
  have N0 := Fr.nil n0
  refine own_out ?_
  refine own_via (fun t k => castTop (ef_6 m a1640 (1 : Int32) p1641 (0 : Int32)) (XS.aloadN X0.here hx rfl (hb hby d6_0) rfl rfl (XS.iloadN X0.here hx rfl (hb hby d6_1) rfl (XS.iconst X0.here hx rfl (hb hby d6_2) (XS.iadd X0.here hx rfl (hb hby d6_3) rfl (XS.aloadN X0.here hx rfl (hb hby d6_4) rfl rfl k)))))) ?_
  show own_Goes p e below (s₁.setTop (mkF m 5 #[rv a1640, iv (1 : Int32), iv p1641, iv (0 : Int32)] [(.ref a1640), (.int (2 : Int32)), (.ref a1640)])) _
  obtain ⟨T1673, X1673, e1673, st1673⟩ := getF X0 hx hZ hown (host := "") (Or.inl (wd hw 38 rfl)) Via.refl e0 pF_a1640_length (g := (mkF m 5 #[rv a1640, iv (1 : Int32), iv p1641, iv (0 : Int32)] [(.ref a1640), (.int (2 : Int32)), (.ref a1640)])) rfl rfl (hb hby d6_5)
  refine own_via (fun t k => st1673 t k) ?_
  obtain ⟨cq1674, q1674, q1674'⟩ := pE_a1640.cell
  obtain ⟨_, _, ⟨T1674, L1674, c1674, n1674⟩, -, X1674, ⟨Lc1674, hQ1674, l1674, y1674, z1674⟩, st1674⟩ := X1673.privateBack hx (y := (⟨zs1, "set", "(II)V"⟩ : MethodName)) hown (mvT hZ (wd hw 46 rfl)) (mvT hZ (wd hw 47 rfl)) (own_selPriv (mvT hZ (wd hw 2 rfl)) (mvT hZ (wd hw 47 rfl)) (Cond.privateMethod_at (mvP hZ (wd hw 48 rfl) (args := #[]))) (by decide)) (Cond.privateMethod_at (mvP hZ (wd hw 48 rfl) (args := #[]))) (mvT hZ (wd hw 49 rfl)) (by decide) (backOf (W := 0) (rm8 l Z a0 hw [] a1640 p1658 a1648 k1657 p1649 p1650 p1651 p1652 p1653 p1654 p1655 p1656 h0 n0 O0 pF_a1640_first pV_a1648 pG_a1648 pE_a1648) hZ (wd hw 49 rfl) (wd hw 3 rfl) (by decide) (by decide)) (g := (mkF m 8 #[rv a1640, iv (1 : Int32), iv p1641, iv (0 : Int32)] [(.int p1658), (.int (2 : Int32)), (.ref a1640)])) rfl (by rw [hml]; rfl) (Steps.refl _) (a := a1640) (by rw [e1673]; exact q1674) q1674' (argsL := [(.int (2 : Int32)), (.int p1658)]) (rest := []) (lenOf pd_4 rfl) rfl (by show 2 * 0 + _ ≤ _; exact Nat.le_of_eq rfl) (hb hby d6_8) (fun _ _ => ⟨rfl, e1673, (by decide : 0 + 0 ≤ _), (by decide : 0 + 0 ≤ _)⟩)
  dsimp only [Pt.U, Pt.locs, Pt.cells, Pt.slots] at X1674 l1674 y1674 z1674 st1674 hQ1674
  subst l1674 y1674 z1674
  obtain ⟨h1674, e1674⟩ : ∃ z, T1674.heap = z := ⟨_, rfl⟩
  rw [e1674] at hQ1674
  obtain ⟨rfl, Nq1674, K1674, ex1675, vx1676⟩ := hQ1674
  have N1674 := Fr.app N0 Nq1674
  refine own_via (fun t k => st1674.trans (XS.aloadN X1674.here hx rfl (hb hby d6_11) rfl rfl (XS.iloadN X1674.here hx rfl (hb hby d6_12) rfl (XS.iconst X1674.here hx rfl (hb hby d6_13) (XS.iadd X1674.here hx rfl (hb hby d6_14) rfl (XS.iloadN X1674.here hx rfl (hb hby d6_15) rfl (XS.iconst X1674.here hx rfl (hb hby d6_16) (XS.ishl X1674.here hx rfl (hb hby d6_17) rfl (XS.iloadN X1674.here hx rfl (hb hby d6_18) rfl (XS.ifYes X1674.here hx rfl (pc0 := 19) (pc' := 26) rfl (hb hby d6_19) rfl ((if0 _ _).trans (teq (by decide : (0 : Int32) = (0 : Int32))).1) (by decide) (by decide) (XS.iconst X1674.here hx rfl (hb hby d6_26) (XS.ior X1674.here hx rfl (hb hby d6_27) rfl k)))))))))))) ?_
  show own_Goes p e below (T1674.setTop (mkF m 28 #[rv a1640, iv (1 : Int32), iv p1641, iv (0 : Int32)] [(.int ((p1641 <<< ((1 : Int32) &&& 31)) ||| (0 : Int32))), (.int (3 : Int32)), (.ref a1640)])) _
  have F1715 : Fld Z h1674 a1640 zs1 "first" "[I" (.ref a1648) := (pF_a1640_first.keep K1674 (ninS pN_a1640_a1648 nin0))
  have O1716 : Old Z n0 h1674 := (O0.keep K1674 (allS pG_a1648 all0))
  have E1717 : Exa Z h1674 a1640 zs1 := (pE_a1640.keep K1674)
  obtain ⟨cq1677, q1677, q1677'⟩ := E1717.cell
  obtain ⟨_, _, ⟨T1677, L1677, c1677, n1677⟩, -, X1677, ⟨Lc1677, hQ1677, l1677, y1677, z1677⟩, st1677⟩ := X1674.privateBack hx (y := (⟨zs1, "set", "(II)V"⟩ : MethodName)) hown (mvT hZ (wd hw 46 rfl)) (mvT hZ (wd hw 47 rfl)) (own_selPriv (mvT hZ (wd hw 2 rfl)) (mvT hZ (wd hw 47 rfl)) (Cond.privateMethod_at (mvP hZ (wd hw 48 rfl) (args := #[]))) (by decide)) (Cond.privateMethod_at (mvP hZ (wd hw 48 rfl) (args := #[]))) (mvT hZ (wd hw 49 rfl)) (by decide) (backOf (W := 0) (rm25 l Z a0 hw [] a1640 ((p1641 <<< ((1 : Int32) &&& 31)) ||| (0 : Int32)) a1648 k1657 p1649 p1650 p1658 p1652 p1653 p1654 p1655 p1656 h1674 n0 O1716 F1715 vx1676 pG_a1648 ex1675) hZ (wd hw 49 rfl) (wd hw 3 rfl) (by decide) (by decide)) (g := (mkF m 28 #[rv a1640, iv (1 : Int32), iv p1641, iv (0 : Int32)] [(.int ((p1641 <<< ((1 : Int32) &&& 31)) ||| (0 : Int32))), (.int (3 : Int32)), (.ref a1640)])) rfl (by rw [hml]; rfl) (Steps.refl _) (a := a1640) (by rw [e1674]; exact q1677) q1677' (argsL := [(.int (3 : Int32)), (.int ((p1641 <<< ((1 : Int32) &&& 31)) ||| (0 : Int32)))]) (rest := []) (lenOf pd_4 rfl) rfl (by show 2 * 0 + _ ≤ _; exact Nat.le_of_eq rfl) (hb hby d6_28) (fun _ _ => ⟨rfl, e1674, (by decide : 0 + 0 ≤ _), (by decide : 0 + 0 ≤ _)⟩)
  dsimp only [Pt.U, Pt.locs, Pt.cells, Pt.slots] at X1677 l1677 y1677 z1677 st1677 hQ1677
  subst l1677 y1677 z1677
  obtain ⟨h1677, e1677⟩ : ∃ z, T1677.heap = z := ⟨_, rfl⟩
  rw [e1677] at hQ1677
  obtain ⟨rfl, Nq1677, K1677, ex1718, vx1719⟩ := hQ1677
  have N1677 := Fr.app N1674 Nq1677
  refine own_via (fun t k => st1677.trans k) ?_
  obtain ⟨fs, hr, hrun, hended, hW, hsame⟩ := X1677.leave (v := none) (fun _ => rfl)
  refine own_end (t := T1677.setFrames fs) ?_ ⟨_, hrun, hended, _, _, rfl, ?_, ⟨_, rfl⟩, hW, hsame.mono (by decide) (by decide)⟩
  · exact X1677.returnOut hx Bd.returns (hb hby d6_31) hr
  · show Q26 Z a1640 p1641 p1658 a1648 k1657 p1649 p1650 p1651 p1652 p1653 p1654 p1655 p1656 h0 n0 _ T1677.heap _
    rw [e1677]
    exact ⟨rfl, N1677, (((Keep.refl h0 [a1648]).trans K1674 (allS (Or.inl (List.mem_of_getElem? (i := 0) rfl)) all0)).trans K1677 (allS (Or.inl (List.mem_of_getElem? (i := 0) rfl)) all0)), ex1718, vx1719⟩
def Q27 (Z : State) (a1723 : Addr) (a1730 : Addr) (k1740 : ClassId) (p1732 : Int32) (p1733 : Int32) (p1734 : Int32) (p1735 : Int32) (p1736 : Int32) (p1737 : Int32) (p1738 : Int32) (p1739 : Int32) (h0 : Heap) (n0 : Nat) (v : Option Value) (h : Heap) (L : List Loc) : Prop := v = some (.int p1733) ∧ Fr n0 L ∧ h = h0
set_option maxRecDepth 65536 in
set_option maxHeartbeats 40000000 in
theorem rm27 (l : Launch) (Z : State) (a0 : Array Value) (hw : ∀ d ∈ tables_1, d.before a0 Z = true) (ws : List Jvm.Cond) (a1723 : Addr) (a1730 : Addr) (k1740 : ClassId) (p1732 : Int32) (p1733 : Int32) (p1734 : Int32) (p1735 : Int32) (p1736 : Int32) (p1737 : Int32) (p1738 : Int32) (p1739 : Int32) (h0 : Heap) (n0 : Nat) (O0 : Old Z n0 h0) (pF_a1723_first : Fld Z h0 a1723 zs1 "first" "[I" (.ref a1730)) (pV_a1730 : Arv Z h0 a1730 k1740 .int (16 : Int32) [(.int p1732), (.int p1733), (.int p1734), (.int p1735), (.int p1736), (.int p1737), (.int p1738), (.int p1739)] (.int (0 : Int32))) (pE_a1723 : Exa Z h0 a1723 zs1) :
    MetFree l (⟨zs1, "offset", "(I)I"⟩ : MethodName) (head1 (Jvm.Cond.code (⟨zs1, "offset", "(I)I"⟩ : MethodName) prog_17_method_17_code 2 (some .int) :: ws) ({ frames := 1, cells := 0, slots := 0, locals := 13 } : Room)) (fun a U => a = #[(.ref a1723), (.int (1 : Int32))] ∧ Z.Warmed39 U.vm ∧ U.heap = h0) (fun _ _ _ _ _ => True) (fun _ U o U' => ∃ v L, o = .returned v ∧ Q27 Z a1723 a1730 k1740 p1732 p1733 p1734 p1735 p1736 p1737 p1738 p1739 h0 n0 v U'.heap L ∧ FrameEnd U o U' L ({ frames := 1, cells := 0, slots := 0, locals := 13 } : Room).cells ({ frames := 1, cells := 0, slots := 0, locals := 13 } : Room).slots) := by
  refine MetFree.of_bodySF (plainFor_of_name pn_1) hisR ?_
  intro p e s m args below meth c s₁ Bd hml0 hP hK
  obtain ⟨rfl, hZ, hh⟩ := hP
  have hx := Bd.exec
  have hby := Bd.bytes
  have hml : c.maxLocals = 2 := hml0
  have hown : s.vm.findClass zs1 = some m.cls := findClass_of_methodNamed Bd.named
  have hnm := (name_of_methodNamed Bd.named Bd.method).1
  have X0 : Stand p l e ({ frames := 1, cells := 0, slots := 0, locals := 13 } : Room) s m #[(.ref a1723), (.int (1 : Int32))] below meth c s₁ [] 0 0 := Stand.of_body Bd
  have e0 : s₁.heap = h0 := by rw [← hh, Bd.state]; rfl
  have N0 := Fr.nil n0
  refine own_out ?_
  refine own_via (fun t k => castTop (ef_8 m a1723 (1 : Int32)) (XS.aloadN X0.here hx rfl (hb hby d8_0) rfl rfl (XS.iloadN X0.here hx rfl (hb hby d8_1) rfl k))) ?_
  show own_Goes p e below (s₁.setTop (mkF m 2 #[rv a1723, iv (1 : Int32)] [(.int (1 : Int32)), (.ref a1723)])) _
  obtain ⟨cq1756, q1756, q1756'⟩ := pE_a1723.cell
  obtain ⟨_, _, ⟨T1756, L1756, c1756, n1756⟩, -, X1756, ⟨Lc1756, hQ1756, l1756, y1756, z1756⟩, st1756⟩ := X0.privateBack hx (y := (⟨zs1, "get", "(I)I"⟩ : MethodName)) hown (mvT hZ (wd hw 55 rfl)) (mvT hZ (wd hw 56 rfl)) (own_selPriv (mvT hZ (wd hw 2 rfl)) (mvT hZ (wd hw 56 rfl)) (Cond.privateMethod_at (mvP hZ (wd hw 57 rfl) (args := #[]))) (by decide)) (Cond.privateMethod_at (mvP hZ (wd hw 57 rfl) (args := #[]))) (mvT hZ (wd hw 58 rfl)) (by decide) (backOf (W := 0) (rm12 l Z a0 hw [] a1723 a1730 k1740 p1732 p1733 p1734 p1735 p1736 p1737 p1738 p1739 h0 n0 O0 pF_a1723_first pV_a1730) hZ (wd hw 58 rfl) (wd hw 3 rfl) (by decide) (by decide)) (g := (mkF m 2 #[rv a1723, iv (1 : Int32)] [(.int (1 : Int32)), (.ref a1723)])) rfl (by rw [hml]; rfl) (Steps.refl _) (a := a1723) (by rw [e0]; exact q1756) q1756' (argsL := [(.int (1 : Int32))]) (rest := []) (lenOf pd_3 rfl) rfl (by show 2 * 0 + _ ≤ _; exact Nat.le_of_eq rfl) (hb hby d8_2) (fun _ _ => ⟨rfl, e0, (by decide : 0 + 0 ≤ _), (by decide : 0 + 0 ≤ _)⟩)
  dsimp only [Pt.U, Pt.locs, Pt.cells, Pt.slots] at X1756 l1756 y1756 z1756 st1756 hQ1756
  subst l1756 y1756 z1756
  obtain ⟨rfl, Nq1756, hh1757⟩ := hQ1756
  have N1756 := Fr.app N0 Nq1756
  refine own_via (fun t k => st1756.trans k) ?_
  obtain ⟨fs, hr, hrun, hended, hW, hsame⟩ := X1756.leave (v := some (.int p1733)) (fun h => by rw [Bd.returns] at h; cases h)
  refine own_end (t := T1756.setFrames fs) ?_ ⟨_, hrun, hended, _, _, rfl, ?_, ⟨_, rfl⟩, hW, hsame.mono (by decide) (by decide)⟩
  · exact retI X1756 hx Bd.returns (hb hby d8_5) hr
  · show Q27 Z a1723 a1730 k1740 p1732 p1733 p1734 p1735 p1736 p1737 p1738 p1739 h0 n0 _ T1756.heap _
    rw [hh1757]
    exact ⟨rfl, N1756, rfl⟩
def Q28 (Z : State) (a1763 : Addr) (a1764 : Addr) (a1768 : Addr) (k1778 : ClassId) (p1770 : Int32) (p1771 : Int32) (p1772 : Int32) (p1773 : Int32) (p1774 : Int32) (p1775 : Int32) (p1776 : Int32) (p1777 : Int32) (k1767 : ClassId) (p1765 : Int32) (p1766 : Int32) (h0 : Heap) (n0 : Nat) (v : Option Value) (h : Heap) (L : List Loc) : Prop := v = some (.int p1772) ∧ Fr n0 L ∧ h = h0
set_option maxRecDepth 65536 in
set_option maxHeartbeats 40000000 in
theorem rm28 (l : Launch) (Z : State) (a0 : Array Value) (hw : ∀ d ∈ tables_1, d.before a0 Z = true) (ws : List Jvm.Cond) (a1763 : Addr) (a1764 : Addr) (a1768 : Addr) (k1778 : ClassId) (p1770 : Int32) (p1771 : Int32) (p1772 : Int32) (p1773 : Int32) (p1774 : Int32) (p1775 : Int32) (p1776 : Int32) (p1777 : Int32) (k1767 : ClassId) (p1765 : Int32) (p1766 : Int32) (h0 : Heap) (n0 : Nat) (O0 : Old Z n0 h0) (pF_a1763_text : Fld Z h0 a1763 zs1 "text" "[B" (.ref a1764)) (pF_a1763_first : Fld Z h0 a1763 zs1 "first" "[I" (.ref a1768)) (pV_a1768 : Arv Z h0 a1768 k1778 .int (16 : Int32) [(.int p1770), (.int p1771), (.int p1772), (.int p1773), (.int p1774), (.int p1775), (.int p1776), (.int p1777)] (.int (0 : Int32))) (pE_a1763 : Exa Z h0 a1763 zs1) (pC1784 : ¬ (p1771 < (0 : Int32))) (pC1785 : p1771 < (2 : Int32)) (pV_a1764 : Arv Z h0 a1764 k1767 .byte (4 : Int32) [(.int (123 : Int32)), (.int (91 : Int32)), (.int p1765), (.int p1766)] (.int (0 : Int32))) :
    MetFree l (⟨zs1, "next", "(I)I"⟩ : MethodName) (head1 (Jvm.Cond.code (⟨zs1, "next", "(I)I"⟩ : MethodName) prog_17_method_10_code 3 (some .int) :: ws) ({ frames := 1, cells := 0, slots := 0, locals := 14 } : Room)) (fun a U => a = #[(.ref a1763), (.int (1 : Int32))] ∧ Z.Warmed39 U.vm ∧ U.heap = h0) (fun _ _ _ _ _ => True) (fun _ U o U' => ∃ v L, o = .returned v ∧ Q28 Z a1763 a1764 a1768 k1778 p1770 p1771 p1772 p1773 p1774 p1775 p1776 p1777 k1767 p1765 p1766 h0 n0 v U'.heap L ∧ FrameEnd U o U' L ({ frames := 1, cells := 0, slots := 0, locals := 14 } : Room).cells ({ frames := 1, cells := 0, slots := 0, locals := 14 } : Room).slots) := by
  refine MetFree.of_bodySF (plainFor_of_name pn_1) hisR ?_
  intro p e s m args below meth c s₁ Bd hml0 hP hK
  obtain ⟨rfl, hZ, hh⟩ := hP
  have hx := Bd.exec
  have hby := Bd.bytes
  have hml : c.maxLocals = 3 := hml0
  have hown : s.vm.findClass zs1 = some m.cls := findClass_of_methodNamed Bd.named
  have hnm := (name_of_methodNamed Bd.named Bd.method).1
  have X0 : Stand p l e ({ frames := 1, cells := 0, slots := 0, locals := 14 } : Room) s m #[(.ref a1763), (.int (1 : Int32))] below meth c s₁ [] 0 0 := Stand.of_body Bd
  have e0 : s₁.heap = h0 := by rw [← hh, Bd.state]; rfl
  have N0 := Fr.nil n0
  refine own_out ?_
  refine own_via (fun t k => castTop (ef_9 m a1763 (1 : Int32)) (XS.aloadN X0.here hx rfl (hb hby d10_0) rfl rfl k)) ?_
  obtain ⟨T1794, X1794, e1794, st1794⟩ := getF X0 hx hZ hown (host := "") (Or.inl (wd hw 18 rfl)) Via.refl e0 pF_a1763_text (g := (mkF m 1 #[rv a1763, iv (1 : Int32), .unset] [(.ref a1763)])) rfl rfl (hb hby d10_1)
  refine own_via (fun t k => st1794 t (XS.aloadN X1794.here hx rfl (hb hby d10_4) rfl rfl (XS.iloadN X1794.here hx rfl (hb hby d10_5) rfl k))) ?_
  show own_Goes p e below (T1794.setTop (mkF m 6 #[rv a1763, iv (1 : Int32), .unset] [(.int (1 : Int32)), (.ref a1763), (.ref a1764)])) _
  obtain ⟨cq1795, q1795, q1795'⟩ := pE_a1763.cell
  obtain ⟨_, _, ⟨T1795, L1795, c1795, n1795⟩, -, X1795, ⟨Lc1795, hQ1795, l1795, y1795, z1795⟩, st1795⟩ := X1794.privateBack hx (y := (⟨zs1, "get", "(I)I"⟩ : MethodName)) hown (mvT hZ (wd hw 55 rfl)) (mvT hZ (wd hw 56 rfl)) (own_selPriv (mvT hZ (wd hw 2 rfl)) (mvT hZ (wd hw 56 rfl)) (Cond.privateMethod_at (mvP hZ (wd hw 57 rfl) (args := #[]))) (by decide)) (Cond.privateMethod_at (mvP hZ (wd hw 57 rfl) (args := #[]))) (mvT hZ (wd hw 58 rfl)) (by decide) (backOf (W := 1) (rm12 l Z a0 hw [] a1763 a1768 k1778 p1770 p1771 p1772 p1773 p1774 p1775 p1776 p1777 h0 n0 O0 pF_a1763_first pV_a1768) hZ (wd hw 58 rfl) (wd hw 3 rfl) (by decide) (by decide)) (g := (mkF m 6 #[rv a1763, iv (1 : Int32), .unset] [(.int (1 : Int32)), (.ref a1763), (.ref a1764)])) rfl (by rw [hml]; rfl) (Steps.refl _) (a := a1763) (by rw [e1794]; exact q1795) q1795' (argsL := [(.int (1 : Int32))]) (rest := [(.ref a1764)]) (lenOf pd_3 rfl) rfl (by show 2 * 0 + _ ≤ _; exact Nat.le_of_eq rfl) (hb hby d10_6) (fun _ _ => ⟨rfl, e1794, (by decide : 0 + 0 ≤ _), (by decide : 0 + 0 ≤ _)⟩)
  dsimp only [Pt.U, Pt.locs, Pt.cells, Pt.slots] at X1795 l1795 y1795 z1795 st1795 hQ1795
  subst l1795 y1795 z1795
  obtain ⟨rfl, Nq1795, hh1796⟩ := hQ1795
  have N1795 := Fr.app N0 Nq1795
  refine own_via (fun t k => st1795.trans k) ?_
  show own_Goes p e below (T1795.setTop (mkF m 9 #[rv a1763, iv (1 : Int32), .unset] [(.int p1771), (.ref a1764)])) _
  rcases own_cases_2 _ (own_ge0 pC1784) (own_lti pC1785 (by decide)) with qs | qs
  · have qs1797 := qs
    rw [qs]
    show own_Goes p e below (T1795.setTop (mkF m 9 #[rv a1763, iv (1 : Int32), .unset] [(.int (0 : Int32)), (.ref a1764)])) _
    obtain ⟨cl1798, Ar1798, qq1798, S1798, M1798, H1798, G1798⟩ := id (pV_a1764)
    have hin1798 : ¬ ((0 : Int32) < 0 ∨ cl1798.slots.size ≤ ((0 : Int32)).toNatClampNeg) := inb_of S1798 ⟨by decide, by decide⟩
    refine own_via (fun t k => X1795.baloadBytes hx (j := (0 : Int32)) (v := (.int (123 : Int32))) (by rw [hh1796]; exact Ar1798.1) (State.isArrayOf_alike hZ.alike Ar1798.2.1) Ar1798.2.2 hin1798 (Has.at H1798 hin1798 rfl) (g := (mkF m 9 #[rv a1763, iv (1 : Int32), .unset] [(.int (0 : Int32)), (.ref a1764)])) rfl rfl (hb hby d10_9) t (XS.istoreN X1795.here hx rfl (hb hby d10_10) rfl (l' := #[rv a1763, iv (1 : Int32), iv (123 : Int32)]) rfl (XS.iloadN X1795.here hx rfl (hb hby d10_11) rfl (XS.bipush X1795.here hx rfl (hb hby d10_12) (XS.icmpYes X1795.here hx rfl (pc0 := 14) (pc' := 23) rfl (hb hby d10_14) rfl (teq (by decide : (123 : Int32) = (123 : Int32))).1 (by decide) (by decide) (XS.aloadN X1795.here hx rfl (hb hby d10_23) rfl rfl (XS.iloadN X1795.here hx rfl (hb hby d10_24) rfl (XS.iconst X1795.here hx rfl (hb hby d10_25) (XS.iadd X1795.here hx rfl (hb hby d10_26) rfl k))))))))) ?_
    show own_Goes p e below (T1795.setTop (mkF m 27 #[rv a1763, iv (1 : Int32), iv (123 : Int32)] [(.int (2 : Int32)), (.ref a1763)])) _
    obtain ⟨cq1799, q1799, q1799'⟩ := pE_a1763.cell
    obtain ⟨_, _, ⟨T1799, L1799, c1799, n1799⟩, -, X1799, ⟨Lc1799, hQ1799, l1799, y1799, z1799⟩, st1799⟩ := X1795.privateBack hx (y := (⟨zs1, "get", "(I)I"⟩ : MethodName)) hown (mvT hZ (wd hw 55 rfl)) (mvT hZ (wd hw 56 rfl)) (own_selPriv (mvT hZ (wd hw 2 rfl)) (mvT hZ (wd hw 56 rfl)) (Cond.privateMethod_at (mvP hZ (wd hw 57 rfl) (args := #[]))) (by decide)) (Cond.privateMethod_at (mvP hZ (wd hw 57 rfl) (args := #[]))) (mvT hZ (wd hw 58 rfl)) (by decide) (backOf (W := 0) (rm14 l Z a0 hw [] a1763 a1768 k1778 p1770 p1771 p1772 p1773 p1774 p1775 p1776 p1777 h0 n0 O0 pF_a1763_first pV_a1768) hZ (wd hw 58 rfl) (wd hw 3 rfl) (by decide) (by decide)) (g := (mkF m 27 #[rv a1763, iv (1 : Int32), iv (123 : Int32)] [(.int (2 : Int32)), (.ref a1763)])) rfl (by rw [hml]; rfl) (Steps.refl _) (a := a1763) (by rw [hh1796]; exact q1799) q1799' (argsL := [(.int (2 : Int32))]) (rest := []) (lenOf pd_3 rfl) rfl (by show 2 * 0 + _ ≤ _; exact Nat.le_of_eq rfl) (hb hby d10_27) (fun _ _ => ⟨rfl, hh1796, (by decide : 0 + 0 ≤ _), (by decide : 0 + 0 ≤ _)⟩)
    dsimp only [Pt.U, Pt.locs, Pt.cells, Pt.slots] at X1799 l1799 y1799 z1799 st1799 hQ1799
    subst l1799 y1799 z1799
    obtain ⟨rfl, Nq1799, hh1800⟩ := hQ1799
    have N1799 := Fr.app N1795 Nq1799
    refine own_via (fun t k => st1799.trans (XS.goto X1799.here hx rfl (pc0 := 30) (pc' := 36) rfl (hb hby d10_30) (by decide) (by decide) k)) ?_
    obtain ⟨fs, hr, hrun, hended, hW, hsame⟩ := X1799.leave (v := some (.int p1772)) (fun h => by rw [Bd.returns] at h; cases h)
    refine own_end (t := T1799.setFrames fs) ?_ ⟨_, hrun, hended, _, _, rfl, ?_, ⟨_, rfl⟩, hW, hsame.mono (by decide) (by decide)⟩
    · exact retI X1799 hx Bd.returns (hb hby d10_36) hr
    · show Q28 Z a1763 a1764 a1768 k1778 p1770 p1771 p1772 p1773 p1774 p1775 p1776 p1777 k1767 p1765 p1766 h0 n0 _ T1799.heap _
      rw [hh1800]
      exact ⟨rfl, N1799, rfl⟩
  · have qs1801 := qs
    rw [qs]
    show own_Goes p e below (T1795.setTop (mkF m 9 #[rv a1763, iv (1 : Int32), .unset] [(.int (1 : Int32)), (.ref a1764)])) _
    obtain ⟨cl1802, Ar1802, qq1802, S1802, M1802, H1802, G1802⟩ := id (pV_a1764)
    have hin1802 : ¬ ((1 : Int32) < 0 ∨ cl1802.slots.size ≤ ((1 : Int32)).toNatClampNeg) := inb_of S1802 ⟨by decide, by decide⟩
    refine own_via (fun t k => X1795.baloadBytes hx (j := (1 : Int32)) (v := (.int (91 : Int32))) (by rw [hh1796]; exact Ar1802.1) (State.isArrayOf_alike hZ.alike Ar1802.2.1) Ar1802.2.2 hin1802 (Has.at H1802 hin1802 rfl) (g := (mkF m 9 #[rv a1763, iv (1 : Int32), .unset] [(.int (1 : Int32)), (.ref a1764)])) rfl rfl (hb hby d10_9) t (XS.istoreN X1795.here hx rfl (hb hby d10_10) rfl (l' := #[rv a1763, iv (1 : Int32), iv (91 : Int32)]) rfl (XS.iloadN X1795.here hx rfl (hb hby d10_11) rfl (XS.bipush X1795.here hx rfl (hb hby d10_12) (XS.icmpNo X1795.here hx rfl (hb hby d10_14) rfl (feq (by decide : ¬ ((91 : Int32) = (123 : Int32)))).1 (XS.iloadN X1795.here hx rfl (hb hby d10_17) rfl (XS.bipush X1795.here hx rfl (hb hby d10_18) (XS.icmpNo X1795.here hx rfl (hb hby d10_20) rfl (teq (by decide : (91 : Int32) = (91 : Int32))).2 (XS.aloadN X1795.here hx rfl (hb hby d10_23) rfl rfl (XS.iloadN X1795.here hx rfl (hb hby d10_24) rfl (XS.iconst X1795.here hx rfl (hb hby d10_25) (XS.iadd X1795.here hx rfl (hb hby d10_26) rfl k)))))))))))) ?_
    show own_Goes p e below (T1795.setTop (mkF m 27 #[rv a1763, iv (1 : Int32), iv (91 : Int32)] [(.int (2 : Int32)), (.ref a1763)])) _
    obtain ⟨cq1803, q1803, q1803'⟩ := pE_a1763.cell
    obtain ⟨_, _, ⟨T1803, L1803, c1803, n1803⟩, -, X1803, ⟨Lc1803, hQ1803, l1803, y1803, z1803⟩, st1803⟩ := X1795.privateBack hx (y := (⟨zs1, "get", "(I)I"⟩ : MethodName)) hown (mvT hZ (wd hw 55 rfl)) (mvT hZ (wd hw 56 rfl)) (own_selPriv (mvT hZ (wd hw 2 rfl)) (mvT hZ (wd hw 56 rfl)) (Cond.privateMethod_at (mvP hZ (wd hw 57 rfl) (args := #[]))) (by decide)) (Cond.privateMethod_at (mvP hZ (wd hw 57 rfl) (args := #[]))) (mvT hZ (wd hw 58 rfl)) (by decide) (backOf (W := 0) (rm14 l Z a0 hw [] a1763 a1768 k1778 p1770 p1771 p1772 p1773 p1774 p1775 p1776 p1777 h0 n0 O0 pF_a1763_first pV_a1768) hZ (wd hw 58 rfl) (wd hw 3 rfl) (by decide) (by decide)) (g := (mkF m 27 #[rv a1763, iv (1 : Int32), iv (91 : Int32)] [(.int (2 : Int32)), (.ref a1763)])) rfl (by rw [hml]; rfl) (Steps.refl _) (a := a1763) (by rw [hh1796]; exact q1803) q1803' (argsL := [(.int (2 : Int32))]) (rest := []) (lenOf pd_3 rfl) rfl (by show 2 * 0 + _ ≤ _; exact Nat.le_of_eq rfl) (hb hby d10_27) (fun _ _ => ⟨rfl, hh1796, (by decide : 0 + 0 ≤ _), (by decide : 0 + 0 ≤ _)⟩)
    dsimp only [Pt.U, Pt.locs, Pt.cells, Pt.slots] at X1803 l1803 y1803 z1803 st1803 hQ1803
    subst l1803 y1803 z1803
    obtain ⟨rfl, Nq1803, hh1804⟩ := hQ1803
    have N1803 := Fr.app N1795 Nq1803
    refine own_via (fun t k => st1803.trans (XS.goto X1803.here hx rfl (pc0 := 30) (pc' := 36) rfl (hb hby d10_30) (by decide) (by decide) k)) ?_
    obtain ⟨fs, hr, hrun, hended, hW, hsame⟩ := X1803.leave (v := some (.int p1772)) (fun h => by rw [Bd.returns] at h; cases h)
    refine own_end (t := T1803.setFrames fs) ?_ ⟨_, hrun, hended, _, _, rfl, ?_, ⟨_, rfl⟩, hW, hsame.mono (by decide) (by decide)⟩
    · exact retI X1803 hx Bd.returns (hb hby d10_36) hr
    · show Q28 Z a1763 a1764 a1768 k1778 p1770 p1771 p1772 p1773 p1774 p1775 p1776 p1777 k1767 p1765 p1766 h0 n0 _ T1803.heap _
      rw [hh1804]
      exact ⟨rfl, N1803, rfl⟩
def Q29 (Z : State) (a1843 : Addr) (a1850 : Addr) (k1860 : ClassId) (p1852 : Int32) (p1853 : Int32) (p1854 : Int32) (p1855 : Int32) (p1856 : Int32) (p1857 : Int32) (p1858 : Int32) (p1859 : Int32) (h0 : Heap) (n0 : Nat) (v : Option Value) (h : Heap) (L : List Loc) : Prop := v = some (.int p1855) ∧ Fr n0 L ∧ h = h0
set_option maxRecDepth 65536 in
set_option maxHeartbeats 40000000 in
theorem rm29 (l : Launch) (Z : State) (a0 : Array Value) (hw : ∀ d ∈ tables_1, d.before a0 Z = true) (ws : List Jvm.Cond) (a1843 : Addr) (a1850 : Addr) (k1860 : ClassId) (p1852 : Int32) (p1853 : Int32) (p1854 : Int32) (p1855 : Int32) (p1856 : Int32) (p1857 : Int32) (p1858 : Int32) (p1859 : Int32) (h0 : Heap) (n0 : Nat) (O0 : Old Z n0 h0) (pF_a1843_first : Fld Z h0 a1843 zs1 "first" "[I" (.ref a1850)) (pV_a1850 : Arv Z h0 a1850 k1860 .int (16 : Int32) [(.int p1852), (.int p1853), (.int p1854), (.int p1855), (.int p1856), (.int p1857), (.int p1858), (.int p1859)] (.int (0 : Int32))) :
    MetFree l (⟨zs1, "get", "(I)I"⟩ : MethodName) (head1 (Jvm.Cond.code (⟨zs1, "get", "(I)I"⟩ : MethodName) prog_17_method_28_code 2 (some .int) :: ws) ({ frames := 0, cells := 0, slots := 0, locals := 0 } : Room)) (fun a U => a = #[(.ref a1843), (.int (3 : Int32))] ∧ Z.Warmed39 U.vm ∧ U.heap = h0) (fun _ _ _ _ _ => True) (fun _ U o U' => ∃ v L, o = .returned v ∧ Q29 Z a1843 a1850 k1860 p1852 p1853 p1854 p1855 p1856 p1857 p1858 p1859 h0 n0 v U'.heap L ∧ FrameEnd U o U' L ({ frames := 0, cells := 0, slots := 0, locals := 0 } : Room).cells ({ frames := 0, cells := 0, slots := 0, locals := 0 } : Room).slots) := by
  refine MetFree.of_bodySF (plainFor_of_name pn_1) hisR ?_
  intro p e s m args below meth c s₁ Bd hml0 hP hK
  obtain ⟨rfl, hZ, hh⟩ := hP
  have hx := Bd.exec
  have hby := Bd.bytes
  have hml : c.maxLocals = 2 := hml0
  have hown : s.vm.findClass zs1 = some m.cls := findClass_of_methodNamed Bd.named
  have hnm := (name_of_methodNamed Bd.named Bd.method).1
  have X0 : Stand p l e ({ frames := 0, cells := 0, slots := 0, locals := 0 } : Room) s m #[(.ref a1843), (.int (3 : Int32))] below meth c s₁ [] 0 0 := Stand.of_body Bd
  have e0 : s₁.heap = h0 := by rw [← hh, Bd.state]; rfl
  have N0 := Fr.nil n0
  refine own_out ?_
  refine own_via (fun t k => castTop (ef_7 m a1843 (3 : Int32)) (XS.iloadN X0.here hx rfl (hb hby d9_0) rfl (XS.sipush X0.here hx rfl (hb hby d9_1) (XS.icmpNo X0.here hx rfl (hb hby d9_4) rfl (tlt (by decide : (3 : Int32) < (16384 : Int32))).2.1 (XS.aloadN X0.here hx rfl (hb hby d9_7) rfl rfl k))))) ?_
  show own_Goes p e below (s₁.setTop (mkF m 8 #[rv a1843, iv (3 : Int32)] [(.ref a1843)])) _
  obtain ⟨T1876, X1876, e1876, st1876⟩ := getF X0 hx hZ hown (host := "") (Or.inl (wd hw 25 rfl)) Via.refl e0 pF_a1843_first (g := (mkF m 8 #[rv a1843, iv (3 : Int32)] [(.ref a1843)])) rfl rfl (hb hby d9_8)
  refine own_via (fun t k => st1876 t (XS.iloadN X1876.here hx rfl (hb hby d9_11) rfl k)) ?_
  obtain ⟨cl1877, Ar1877, qq1877, S1877, M1877, H1877, G1877⟩ := id (pV_a1850)
  have hin1877 : ¬ ((3 : Int32) < 0 ∨ cl1877.slots.size ≤ ((3 : Int32)).toNatClampNeg) := inb_of S1877 ⟨by decide, by decide⟩
  refine own_via (fun t k => X1876.iaload hx (j := (3 : Int32)) (v := (.int p1855)) (by rw [e1876]; exact Ar1877.1) (State.isArrayOf_alike hZ.alike Ar1877.2.1) Ar1877.2.2 hin1877 (Has.at H1877 hin1877 rfl) (g := (mkF m 12 #[rv a1843, iv (3 : Int32)] [(.int (3 : Int32)), (.ref a1850)])) rfl rfl (hb hby d9_12) t (XS.goto X1876.here hx rfl (pc0 := 13) (pc' := 31) rfl (hb hby d9_13) (by decide) (by decide) k)) ?_
  obtain ⟨fs, hr, hrun, hended, hW, hsame⟩ := X1876.leave (v := some (.int p1855)) (fun h => by rw [Bd.returns] at h; cases h)
  refine own_end (t := T1876.setFrames fs) ?_ ⟨_, hrun, hended, _, _, rfl, ?_, ⟨_, rfl⟩, hW, hsame.mono (by decide) (by decide)⟩
  · exact retI X1876 hx Bd.returns (hb hby d9_31) hr
  · show Q29 Z a1843 a1850 k1860 p1852 p1853 p1854 p1855 p1856 p1857 p1858 p1859 h0 n0 _ T1876.heap _
    rw [e1876]
    exact ⟨rfl, N0, rfl⟩
def Q30 (Z : State) (a1809 : Addr) (a1816 : Addr) (k1826 : ClassId) (p1818 : Int32) (p1819 : Int32) (p1820 : Int32) (p1821 : Int32) (p1822 : Int32) (p1823 : Int32) (p1824 : Int32) (p1825 : Int32) (h0 : Heap) (n0 : Nat) (v : Option Value) (h : Heap) (L : List Loc) : Prop := v = some (.int ((p1821.toUInt32 >>> ((1 : Int32) &&& 31).toUInt32).toInt32)) ∧ Fr n0 L ∧ h = h0
set_option maxRecDepth 65536 in
set_option maxHeartbeats 40000000 in
theorem rm30 (l : Launch) (Z : State) (a0 : Array Value) (hw : ∀ d ∈ tables_1, d.before a0 Z = true) (ws : List Jvm.Cond) (a1809 : Addr) (a1816 : Addr) (k1826 : ClassId) (p1818 : Int32) (p1819 : Int32) (p1820 : Int32) (p1821 : Int32) (p1822 : Int32) (p1823 : Int32) (p1824 : Int32) (p1825 : Int32) (h0 : Heap) (n0 : Nat) (O0 : Old Z n0 h0) (pF_a1809_first : Fld Z h0 a1809 zs1 "first" "[I" (.ref a1816)) (pV_a1816 : Arv Z h0 a1816 k1826 .int (16 : Int32) [(.int p1818), (.int p1819), (.int p1820), (.int p1821), (.int p1822), (.int p1823), (.int p1824), (.int p1825)] (.int (0 : Int32))) (pE_a1809 : Exa Z h0 a1809 zs1) :
    MetFree l (⟨zs1, "count", "(I)I"⟩ : MethodName) (head1 (Jvm.Cond.code (⟨zs1, "count", "(I)I"⟩ : MethodName) prog_17_method_15_code 2 (some .int) :: ws) ({ frames := 1, cells := 0, slots := 0, locals := 13 } : Room)) (fun a U => a = #[(.ref a1809), (.int (1 : Int32))] ∧ Z.Warmed39 U.vm ∧ U.heap = h0) (fun _ _ _ _ _ => True) (fun _ U o U' => ∃ v L, o = .returned v ∧ Q30 Z a1809 a1816 k1826 p1818 p1819 p1820 p1821 p1822 p1823 p1824 p1825 h0 n0 v U'.heap L ∧ FrameEnd U o U' L ({ frames := 1, cells := 0, slots := 0, locals := 13 } : Room).cells ({ frames := 1, cells := 0, slots := 0, locals := 13 } : Room).slots) := by
  refine MetFree.of_bodySF (plainFor_of_name pn_1) hisR ?_
  intro p e s m args below meth c s₁ Bd hml0 hP hK
  obtain ⟨rfl, hZ, hh⟩ := hP
  have hx := Bd.exec
  have hby := Bd.bytes
  have hml : c.maxLocals = 2 := hml0
  have hown : s.vm.findClass zs1 = some m.cls := findClass_of_methodNamed Bd.named
  have hnm := (name_of_methodNamed Bd.named Bd.method).1
  have X0 : Stand p l e ({ frames := 1, cells := 0, slots := 0, locals := 13 } : Room) s m #[(.ref a1809), (.int (1 : Int32))] below meth c s₁ [] 0 0 := Stand.of_body Bd
  have e0 : s₁.heap = h0 := by rw [← hh, Bd.state]; rfl
  have N0 := Fr.nil n0
  refine own_out ?_
  refine own_via (fun t k => castTop (ef_10 m a1809 (1 : Int32)) (XS.aloadN X0.here hx rfl (hb hby d11_0) rfl rfl (XS.iloadN X0.here hx rfl (hb hby d11_1) rfl (XS.iconst X0.here hx rfl (hb hby d11_2) (XS.iadd X0.here hx rfl (hb hby d11_3) rfl k))))) ?_
  show own_Goes p e below (s₁.setTop (mkF m 4 #[rv a1809, iv (1 : Int32)] [(.int (3 : Int32)), (.ref a1809)])) _
  obtain ⟨cq1842, q1842, q1842'⟩ := pE_a1809.cell
  obtain ⟨_, _, ⟨T1842, L1842, c1842, n1842⟩, -, X1842, ⟨Lc1842, hQ1842, l1842, y1842, z1842⟩, st1842⟩ := X0.privateBack hx (y := (⟨zs1, "get", "(I)I"⟩ : MethodName)) hown (mvT hZ (wd hw 55 rfl)) (mvT hZ (wd hw 56 rfl)) (own_selPriv (mvT hZ (wd hw 2 rfl)) (mvT hZ (wd hw 56 rfl)) (Cond.privateMethod_at (mvP hZ (wd hw 57 rfl) (args := #[]))) (by decide)) (Cond.privateMethod_at (mvP hZ (wd hw 57 rfl) (args := #[]))) (mvT hZ (wd hw 58 rfl)) (by decide) (backOf (W := 0) (rm29 l Z a0 hw [] a1809 a1816 k1826 p1818 p1819 p1820 p1821 p1822 p1823 p1824 p1825 h0 n0 O0 pF_a1809_first pV_a1816) hZ (wd hw 58 rfl) (wd hw 3 rfl) (by decide) (by decide)) (g := (mkF m 4 #[rv a1809, iv (1 : Int32)] [(.int (3 : Int32)), (.ref a1809)])) rfl (by rw [hml]; rfl) (Steps.refl _) (a := a1809) (by rw [e0]; exact q1842) q1842' (argsL := [(.int (3 : Int32))]) (rest := []) (lenOf pd_3 rfl) rfl (by show 2 * 0 + _ ≤ _; exact Nat.le_of_eq rfl) (hb hby d11_4) (fun _ _ => ⟨rfl, e0, (by decide : 0 + 0 ≤ _), (by decide : 0 + 0 ≤ _)⟩)
  dsimp only [Pt.U, Pt.locs, Pt.cells, Pt.slots] at X1842 l1842 y1842 z1842 st1842 hQ1842
  subst l1842 y1842 z1842
  obtain ⟨rfl, Nq1842, hh1878⟩ := hQ1842
  have N1842 := Fr.app N0 Nq1842
  refine own_via (fun t k => st1842.trans (XS.iconst X1842.here hx rfl (hb hby d11_7) (XS.iushr X1842.here hx rfl (hb hby d11_8) rfl k))) ?_
  show own_Goes p e below (T1842.setTop (mkF m 9 #[rv a1809, iv (1 : Int32)] [(.int ((p1821.toUInt32 >>> ((1 : Int32) &&& 31).toUInt32).toInt32))])) _
  obtain ⟨fs, hr, hrun, hended, hW, hsame⟩ := X1842.leave (v := some (.int ((p1821.toUInt32 >>> ((1 : Int32) &&& 31).toUInt32).toInt32))) (fun h => by rw [Bd.returns] at h; cases h)
  refine own_end (t := T1842.setFrames fs) ?_ ⟨_, hrun, hended, _, _, rfl, ?_, ⟨_, rfl⟩, hW, hsame.mono (by decide) (by decide)⟩
  · exact retI X1842 hx Bd.returns (hb hby d11_9) hr
  · show Q30 Z a1809 a1816 k1826 p1818 p1819 p1820 p1821 p1822 p1823 p1824 p1825 h0 n0 _ T1842.heap _
    rw [hh1878]
    exact ⟨rfl, N1842, rfl⟩
def Q31 (Z : State) (a1881 : Addr) (a1888 : Addr) (k1898 : ClassId) (p1890 : Int32) (p1891 : Int32) (p1892 : Int32) (p1893 : Int32) (p1894 : Int32) (p1895 : Int32) (p1896 : Int32) (p1897 : Int32) (h0 : Heap) (n0 : Nat) (v : Option Value) (h : Heap) (L : List Loc) : Prop := v = some (.int (0 : Int32)) ∧ Fr n0 L ∧ h = h0
set_option maxRecDepth 65536 in
set_option maxHeartbeats 40000000 in
theorem rm31 (l : Launch) (Z : State) (a0 : Array Value) (hw : ∀ d ∈ tables_1, d.before a0 Z = true) (ws : List Jvm.Cond) (a1881 : Addr) (a1888 : Addr) (k1898 : ClassId) (p1890 : Int32) (p1891 : Int32) (p1892 : Int32) (p1893 : Int32) (p1894 : Int32) (p1895 : Int32) (p1896 : Int32) (p1897 : Int32) (h0 : Heap) (n0 : Nat) (O0 : Old Z n0 h0) (pF_a1881_first : Fld Z h0 a1881 zs1 "first" "[I" (.ref a1888)) (pV_a1888 : Arv Z h0 a1888 k1898 .int (16 : Int32) [(.int p1890), (.int p1891), (.int p1892), (.int p1893), (.int p1894), (.int p1895), (.int p1896), (.int p1897)] (.int (0 : Int32))) (pE_a1881 : Exa Z h0 a1881 zs1) (pC1914 : (p1893 &&& (1 : Int32)) = (0 : Int32)) :
    MetFree l (⟨zs1, "repeats", "(I)Z"⟩ : MethodName) (head1 (Jvm.Cond.code (⟨zs1, "repeats", "(I)Z"⟩ : MethodName) prog_17_method_16_code 2 (some .boolean) :: ws) ({ frames := 1, cells := 0, slots := 0, locals := 13 } : Room)) (fun a U => a = #[(.ref a1881), (.int (1 : Int32))] ∧ Z.Warmed39 U.vm ∧ U.heap = h0) (fun _ _ _ _ _ => True) (fun _ U o U' => ∃ v L, o = .returned v ∧ Q31 Z a1881 a1888 k1898 p1890 p1891 p1892 p1893 p1894 p1895 p1896 p1897 h0 n0 v U'.heap L ∧ FrameEnd U o U' L ({ frames := 1, cells := 0, slots := 0, locals := 13 } : Room).cells ({ frames := 1, cells := 0, slots := 0, locals := 13 } : Room).slots) := by
  refine MetFree.of_bodySF (plainFor_of_name pn_1) hisR ?_
  intro p e s m args below meth c s₁ Bd hml0 hP hK
  obtain ⟨rfl, hZ, hh⟩ := hP
  have hx := Bd.exec
  have hby := Bd.bytes
  have hml : c.maxLocals = 2 := hml0
  have hown : s.vm.findClass zs1 = some m.cls := findClass_of_methodNamed Bd.named
  have hnm := (name_of_methodNamed Bd.named Bd.method).1
  have X0 : Stand p l e ({ frames := 1, cells := 0, slots := 0, locals := 13 } : Room) s m #[(.ref a1881), (.int (1 : Int32))] below meth c s₁ [] 0 0 := Stand.of_body Bd
  have e0 : s₁.heap = h0 := by rw [← hh, Bd.state]; rfl
  have N0 := Fr.nil n0
  refine own_out ?_
  refine own_via (fun t k => castTop (ef_11 m a1881 (1 : Int32)) (XS.aloadN X0.here hx rfl (hb hby d12_0) rfl rfl (XS.iloadN X0.here hx rfl (hb hby d12_1) rfl (XS.iconst X0.here hx rfl (hb hby d12_2) (XS.iadd X0.here hx rfl (hb hby d12_3) rfl k))))) ?_
  show own_Goes p e below (s₁.setTop (mkF m 4 #[rv a1881, iv (1 : Int32)] [(.int (3 : Int32)), (.ref a1881)])) _
  obtain ⟨cq1915, q1915, q1915'⟩ := pE_a1881.cell
  obtain ⟨_, _, ⟨T1915, L1915, c1915, n1915⟩, -, X1915, ⟨Lc1915, hQ1915, l1915, y1915, z1915⟩, st1915⟩ := X0.privateBack hx (y := (⟨zs1, "get", "(I)I"⟩ : MethodName)) hown (mvT hZ (wd hw 55 rfl)) (mvT hZ (wd hw 56 rfl)) (own_selPriv (mvT hZ (wd hw 2 rfl)) (mvT hZ (wd hw 56 rfl)) (Cond.privateMethod_at (mvP hZ (wd hw 57 rfl) (args := #[]))) (by decide)) (Cond.privateMethod_at (mvP hZ (wd hw 57 rfl) (args := #[]))) (mvT hZ (wd hw 58 rfl)) (by decide) (backOf (W := 0) (rm29 l Z a0 hw [] a1881 a1888 k1898 p1890 p1891 p1892 p1893 p1894 p1895 p1896 p1897 h0 n0 O0 pF_a1881_first pV_a1888) hZ (wd hw 58 rfl) (wd hw 3 rfl) (by decide) (by decide)) (g := (mkF m 4 #[rv a1881, iv (1 : Int32)] [(.int (3 : Int32)), (.ref a1881)])) rfl (by rw [hml]; rfl) (Steps.refl _) (a := a1881) (by rw [e0]; exact q1915) q1915' (argsL := [(.int (3 : Int32))]) (rest := []) (lenOf pd_3 rfl) rfl (by show 2 * 0 + _ ≤ _; exact Nat.le_of_eq rfl) (hb hby d12_4) (fun _ _ => ⟨rfl, e0, (by decide : 0 + 0 ≤ _), (by decide : 0 + 0 ≤ _)⟩)
  dsimp only [Pt.U, Pt.locs, Pt.cells, Pt.slots] at X1915 l1915 y1915 z1915 st1915 hQ1915
  subst l1915 y1915 z1915
  obtain ⟨rfl, Nq1915, hh1916⟩ := hQ1915
  have N1915 := Fr.app N0 Nq1915
  refine own_via (fun t k => st1915.trans (XS.iconst X1915.here hx rfl (hb hby d12_7) (XS.iand X1915.here hx rfl (hb hby d12_8) rfl (XS.ifYes X1915.here hx rfl (pc0 := 9) (pc' := 16) rfl (hb hby d12_9) rfl ((if0 _ _).trans (teq pC1914).1) (by decide) (by decide) (XS.iconst X1915.here hx rfl (hb hby d12_16) k))))) ?_
  show own_Goes p e below (T1915.setTop (mkF m 17 #[rv a1881, iv (1 : Int32)] [(.int (0 : Int32))])) _
  obtain ⟨fs, hr, hrun, hended, hW, hsame⟩ := X1915.leave (v := some (.int (0 : Int32))) (fun h => by rw [Bd.returns] at h; cases h)
  refine own_end (t := T1915.setFrames fs) ?_ ⟨_, hrun, hended, _, _, rfl, ?_, ⟨_, rfl⟩, hW, hsame.mono (by decide) (by decide)⟩
  · exact retN X1915 hx (t := .boolean) Bd.returns (by simp) (hb hby d12_17) hr
  · show Q31 Z a1881 a1888 k1898 p1890 p1891 p1892 p1893 p1894 p1895 p1896 p1897 h0 n0 _ T1915.heap _
    rw [hh1916]
    exact ⟨rfl, N1915, rfl⟩
set_option maxRecDepth 65536 in
set_option maxHeartbeats 40000000 in
theorem sfx13 (l : Launch) (Z : State) (a0 : Array Value) (hw : ∀ d ∈ tables_1, d.before a0 Z = true) (ws : List Jvm.Cond) {p : Program} {e : Env} {s : State} {m : MethodId} {below : List Frame} {meth : Method} {c : Code} {s₁ : State} (p1614 : Int32) (p1615 : Int32) (p1616 : Int32) (p1608 : Int32) (p1609 : Int32) (p1610 : Int32) (a1611 : Addr) (a1612 : Addr) (p1613 : Int32) (p1607 : Int32) (a1618 : Addr) (k1626 : ClassId) (p1619 : Int32) (p1620 : Int32) (p1621 : Int32) (p1622 : Int32) (p1623 : Int32) (p1624 : Int32) (p1625 : Int32) (k1617 : ClassId) (Bd : BodyLoose p l x (head1 (Jvm.Cond.code x code maxLocals ret :: ws) room_1) code maxLocals ret e s m #[(.int p1614), (.int p1615), (.int p1616)] below meth c s₁) (hZ : Z.Warmed39 s.vm) (hml : c.maxLocals = 11) {T0 : State} {locs0 : List Loc} (X0 : Stand p l e room_1 s m #[(.int p1614), (.int p1615), (.int p1616)] below meth c T0 locs0 8 120) (h0 : Heap) (e0 : T0.heap = h0) (n0 : Nat) (O0 : Old Z n0 h0) (N0 : Fr n0 locs0) (pF_a1612_length : Fld Z h0 a1612 zs1 "length" "I" (.int (4 : Int32))) (pF_a1612_first : Fld Z h0 a1612 zs1 "first" "[I" (.ref a1618)) (pV_a1618 : Arv Z h0 a1618 k1626 .int (16 : Int32) [(.int p1619), (.int p1613), (.int p1620), (.int p1621), (.int p1622), (.int p1623), (.int p1624), (.int p1625)] (.int (0 : Int32))) (pG_a1618 : n0 ≤ a1618) (pE_a1618 : Exa Z h0 a1618 "[I") (pE_a1612 : Exa Z h0 a1612 zs1) (pN_a1612_a1618 : a1612 ≠ a1618) (pF_a1612_text : Fld Z h0 a1612 zs1 "text" "[B" (.ref a1611)) (pC1631 : ¬ (p1613 < (0 : Int32))) (pC1632 : p1613 < (2 : Int32)) (pV_a1611 : Arv Z h0 a1611 k1617 .byte (4 : Int32) [(.int (123 : Int32)), (.int (91 : Int32)), (.int (49 : Int32)), (.int (110 : Int32))] (.int (0 : Int32))) (pN_a1611_a1618 : a1611 ≠ a1618) (pC1635 : ¬ (p1607 < (0 : Int32))) :
    own_Goes p e below (T0.setTop (mkF m 141 #[iv p1608, iv p1609, iv p1610, rv a1611, rv a1612, iv (1 : Int32), iv p1613, iv (1 : Int32), iv (0 : Int32), iv p1607, iv (0 : Int32)] [])) (own_G s below n0) := by
  have hx := Bd.exec
  have hby := Bd.bytes
  have hown : s.vm.findClass zs2 = some m.cls := findClass_of_methodNamed Bd.named
  have hnm := (name_of_methodNamed Bd.named Bd.method).1
  show own_Goes p e below (T0.setTop (mkF m 141 #[iv p1608, iv p1609, iv p1610, rv a1611, rv a1612, iv (1 : Int32), iv p1613, iv (1 : Int32), iv (0 : Int32), iv p1607, iv (0 : Int32)] [])) _
  refine own_via (fun t k => XS.aload X0.here hx rfl (hb hby at_141) rfl rfl (XS.iload X0.here hx rfl (hb hby at_143) rfl (XS.iload X0.here hx rfl (hb hby at_145) rfl (XS.iload X0.here hx rfl (hb hby at_147) rfl k)))) ?_
  show own_Goes p e below (T0.setTop (mkF m 149 #[iv p1608, iv p1609, iv p1610, rv a1611, rv a1612, iv (1 : Int32), iv p1613, iv (1 : Int32), iv (0 : Int32), iv p1607, iv (0 : Int32)] [(.int (0 : Int32)), (.int p1607), (.int (1 : Int32)), (.ref a1612)])) _
  obtain ⟨_, T1639, _, X1639, hQ1639, st1639⟩ := own_cv X0 hx hZ hown (wd hw 41 rfl) (wd hw 42 rfl) (wd hw 44 rfl) (wd hw 43 rfl) (wd hw 45 rfl) (wd hw 3 rfl) (by decide) (rm26 l Z a0 hw [] a1612 p1607 (4 : Int32) a1618 k1626 p1619 p1613 p1620 p1621 p1622 p1623 p1624 p1625 h0 n0 O0 pF_a1612_length pF_a1612_first pV_a1618 pG_a1618 pE_a1618 pE_a1612 pN_a1612_a1618) e0 pE_a1612 (g := (mkF m 149 #[iv p1608, iv p1609, iv p1610, rv a1611, rv a1612, iv (1 : Int32), iv p1613, iv (1 : Int32), iv (0 : Int32), iv p1607, iv (0 : Int32)] [(.int (0 : Int32)), (.int p1607), (.int (1 : Int32)), (.ref a1612)])) rfl (by rw [hml]; rfl) (rest := []) (W := 0) (lenOf pd_5 rfl) rfl (by show 2 * 0 + _ ≤ _; exact Nat.le_of_eq rfl) (hb hby at_149) (by decide) (by decide) (by decide) (by decide)
  obtain ⟨h1639, e1639⟩ : ∃ z, T1639.heap = z := ⟨_, rfl⟩
  rw [e1639] at hQ1639
  obtain ⟨rfl, Nq1639, K1639, ex1720, vx1721⟩ := hQ1639
  have N1639 := Fr.app N0 Nq1639
  refine own_via (fun t k => st1639 t (XS.iload X1639.here hx rfl (hb hby at_152) rfl (XS.iload X1639.here hx rfl (hb hby at_154) rfl (XS.icmpNo X1639.here hx rfl (hb hby at_156) rfl (teq (by decide : (1 : Int32) = (1 : Int32))).2 (XS.aload X1639.here hx rfl (hb hby at_159) rfl rfl (XS.iload X1639.here hx rfl (hb hby at_161) rfl k)))))) ?_
  show own_Goes p e below (T1639.setTop (mkF m 163 #[iv p1608, iv p1609, iv p1610, rv a1611, rv a1612, iv (1 : Int32), iv p1613, iv (1 : Int32), iv (0 : Int32), iv p1607, iv (0 : Int32)] [(.int (1 : Int32)), (.ref a1612)])) _
  have F1758 : Fld Z h1639 a1612 zs1 "first" "[I" (.ref a1618) := (pF_a1612_first.keep K1639 (ninS pN_a1612_a1618 nin0))
  have E1759 : Exa Z h1639 a1612 zs1 := (pE_a1612.keep K1639)
  have O1760 : Old Z n0 h1639 := (O0.keep K1639 (allS pG_a1618 all0))
  obtain ⟨_, T1722, _, X1722, hQ1722, st1722⟩ := own_cv X1639 hx hZ hown (wd hw 50 rfl) (wd hw 51 rfl) (wd hw 53 rfl) (wd hw 52 rfl) (wd hw 54 rfl) (wd hw 3 rfl) (by decide) (rm27 l Z a0 hw [] a1612 a1618 k1626 p1619 p1613 (4 : Int32) ((p1607 <<< ((1 : Int32) &&& 31)) ||| (0 : Int32)) p1622 p1623 p1624 p1625 h1639 n0 O1760 F1758 vx1721 E1759) e1639 E1759 (g := (mkF m 163 #[iv p1608, iv p1609, iv p1610, rv a1611, rv a1612, iv (1 : Int32), iv p1613, iv (1 : Int32), iv (0 : Int32), iv p1607, iv (0 : Int32)] [(.int (1 : Int32)), (.ref a1612)])) rfl (by rw [hml]; rfl) (rest := []) (W := 0) (lenOf pd_3 rfl) rfl (by show 2 * 0 + _ ≤ _; exact Nat.le_of_eq rfl) (hb hby at_163) (by decide) (by decide) (by decide) (by decide)
  obtain ⟨rfl, Nq1722, hh1761⟩ := hQ1722
  have N1722 := Fr.app N1639 Nq1722
  refine own_via (fun t k => st1722 t (XS.iload X1722.here hx rfl (hb hby at_166) rfl (XS.icmpNo X1722.here hx rfl (hb hby at_168) rfl (teq (rfl : p1613 = p1613)).2 (XS.aload X1722.here hx rfl (hb hby at_171) rfl rfl (XS.iload X1722.here hx rfl (hb hby at_173) rfl k))))) ?_
  show own_Goes p e below (T1722.setTop (mkF m 175 #[iv p1608, iv p1609, iv p1610, rv a1611, rv a1612, iv (1 : Int32), iv p1613, iv (1 : Int32), iv (0 : Int32), iv p1607, iv (0 : Int32)] [(.int (1 : Int32)), (.ref a1612)])) _
  have F1805 : Fld Z h1639 a1612 zs1 "text" "[B" (.ref a1611) := (pF_a1612_text.keep K1639 (ninS pN_a1612_a1618 nin0))
  have V1806 : Arv Z h1639 a1611 k1617 .byte (4 : Int32) [(.int (123 : Int32)), (.int (91 : Int32)), (.int (49 : Int32)), (.int (110 : Int32))] (.int (0 : Int32)) := (pV_a1611.keep K1639 (ninS pN_a1611_a1618 nin0))
  obtain ⟨_, T1762, _, X1762, hQ1762, st1762⟩ := own_cv X1722 hx hZ hown (wd hw 59 rfl) (wd hw 60 rfl) (wd hw 62 rfl) (wd hw 61 rfl) (wd hw 63 rfl) (wd hw 3 rfl) (by decide) (rm28 l Z a0 hw [] a1612 a1611 a1618 k1626 p1619 p1613 (4 : Int32) ((p1607 <<< ((1 : Int32) &&& 31)) ||| (0 : Int32)) p1622 p1623 p1624 p1625 k1617 (49 : Int32) (110 : Int32) h1639 n0 O1760 F1805 F1758 vx1721 E1759 pC1631 pC1632 V1806) hh1761 E1759 (g := (mkF m 175 #[iv p1608, iv p1609, iv p1610, rv a1611, rv a1612, iv (1 : Int32), iv p1613, iv (1 : Int32), iv (0 : Int32), iv p1607, iv (0 : Int32)] [(.int (1 : Int32)), (.ref a1612)])) rfl (by rw [hml]; rfl) (rest := []) (W := 0) (lenOf pd_3 rfl) rfl (by show 2 * 0 + _ ≤ _; exact Nat.le_of_eq rfl) (hb hby at_175) (by decide) (by decide) (by decide) (by decide)
  obtain ⟨rfl, Nq1762, hh1807⟩ := hQ1762
  have N1762 := Fr.app N1722 Nq1762
  refine own_via (fun t k => st1762 t (XS.iload X1762.here hx rfl (hb hby at_178) rfl (XS.iconst X1762.here hx rfl (hb hby at_180) (XS.iadd X1762.here hx rfl (hb hby at_181) rfl (XS.iload X1762.here hx rfl (hb hby at_182) rfl (XS.iadd X1762.here hx rfl (hb hby at_184) rfl (XS.icmpNo X1762.here hx rfl (hb hby at_185) rfl (teq (by decide : (4 : Int32) = (4 : Int32))).2 (XS.aload X1762.here hx rfl (hb hby at_188) rfl rfl (XS.iload X1762.here hx rfl (hb hby at_190) rfl k))))))))) ?_
  show own_Goes p e below (T1762.setTop (mkF m 192 #[iv p1608, iv p1609, iv p1610, rv a1611, rv a1612, iv (1 : Int32), iv p1613, iv (1 : Int32), iv (0 : Int32), iv p1607, iv (0 : Int32)] [(.int (1 : Int32)), (.ref a1612)])) _
  obtain ⟨_, T1808, _, X1808, hQ1808, st1808⟩ := own_cv X1762 hx hZ hown (wd hw 64 rfl) (wd hw 65 rfl) (wd hw 67 rfl) (wd hw 66 rfl) (wd hw 68 rfl) (wd hw 3 rfl) (by decide) (rm30 l Z a0 hw [] a1612 a1618 k1626 p1619 p1613 (4 : Int32) ((p1607 <<< ((1 : Int32) &&& 31)) ||| (0 : Int32)) p1622 p1623 p1624 p1625 h1639 n0 O1760 F1758 vx1721 E1759) hh1807 E1759 (g := (mkF m 192 #[iv p1608, iv p1609, iv p1610, rv a1611, rv a1612, iv (1 : Int32), iv p1613, iv (1 : Int32), iv (0 : Int32), iv p1607, iv (0 : Int32)] [(.int (1 : Int32)), (.ref a1612)])) rfl (by rw [hml]; rfl) (rest := []) (W := 0) (lenOf pd_3 rfl) rfl (by show 2 * 0 + _ ≤ _; exact Nat.le_of_eq rfl) (hb hby at_192) (by decide) (by decide) (by decide) (by decide)
  obtain ⟨rfl, Nq1808, hh1879⟩ := hQ1808
  have N1808 := Fr.app N1762 Nq1808
  refine own_via (fun t k => st1808 t (XS.iload X1808.here hx rfl (hb hby at_195) rfl (XS.icmpNo X1808.here hx rfl (hb hby at_197) rfl (teq (own_cnt p1607 0 pC1635 (by decide))).2 (XS.aload X1808.here hx rfl (hb hby at_200) rfl rfl (XS.iload X1808.here hx rfl (hb hby at_202) rfl k))))) ?_
  show own_Goes p e below (T1808.setTop (mkF m 204 #[iv p1608, iv p1609, iv p1610, rv a1611, rv a1612, iv (1 : Int32), iv p1613, iv (1 : Int32), iv (0 : Int32), iv p1607, iv (0 : Int32)] [(.int (1 : Int32)), (.ref a1612)])) _
  obtain ⟨_, T1880, _, X1880, hQ1880, st1880⟩ := own_cv X1808 hx hZ hown (wd hw 69 rfl) (wd hw 70 rfl) (wd hw 72 rfl) (wd hw 71 rfl) (wd hw 73 rfl) (wd hw 3 rfl) (by decide) (rm31 l Z a0 hw [] a1612 a1618 k1626 p1619 p1613 (4 : Int32) ((p1607 <<< ((1 : Int32) &&& 31)) ||| (0 : Int32)) p1622 p1623 p1624 p1625 h1639 n0 O1760 F1758 vx1721 E1759 (own_rep0 p1607)) hh1879 E1759 (g := (mkF m 204 #[iv p1608, iv p1609, iv p1610, rv a1611, rv a1612, iv (1 : Int32), iv p1613, iv (1 : Int32), iv (0 : Int32), iv p1607, iv (0 : Int32)] [(.int (1 : Int32)), (.ref a1612)])) rfl (by rw [hml]; rfl) (rest := []) (W := 0) (lenOf pd_6 rfl) rfl (by show 2 * 0 + _ ≤ _; exact Nat.le_of_eq rfl) (hb hby at_204) (by decide) (by decide) (by decide) (by decide)
  obtain ⟨rfl, Nq1880, hh1917⟩ := hQ1880
  have N1880 := Fr.app N1808 Nq1880
  refine own_via (fun t k => st1880 t (XS.iload X1880.here hx rfl (hb hby at_207) rfl (XS.icmpNo X1880.here hx rfl (hb hby at_209) rfl (teq (by decide : (0 : Int32) = (0 : Int32))).2 (XS.iconst X1880.here hx rfl (hb hby at_212) (XS.goto X1880.here hx rfl (pc0 := 213) (pc' := 217) rfl (hb hby at_213) (by decide) (by decide) k))))) ?_
  show own_Goes p e below (T1880.setTop (mkF m 217 #[iv p1608, iv p1609, iv p1610, rv a1611, rv a1612, iv (1 : Int32), iv p1613, iv (1 : Int32), iv (0 : Int32), iv p1607, iv (0 : Int32)] [(.int (1 : Int32))])) _
  obtain ⟨fs, hr, hrun, hended, hW, hsame⟩ := X1880.leave (v := some (.int (1 : Int32))) (fun h => by rw [Bd.returns] at h; cases h)
  refine own_end (t := T1880.setFrames fs) ?_ ⟨_, hrun, hended, _, _, rfl, ?_, ⟨_, rfl⟩, hW, hsame.mono (by decide) (by decide)⟩
  · exact retN X1880 hx (t := .boolean) Bd.returns (by simp) (hb hby at_217) hr
  · exact ⟨rfl, N1880⟩
def Q32 (Z : State) (a1951 : Addr) (p1952 : Int32) (p1969 : Int32) (a1959 : Addr) (k1968 : ClassId) (p1960 : Int32) (p1961 : Int32) (p1962 : Int32) (p1963 : Int32) (p1964 : Int32) (p1965 : Int32) (p1966 : Int32) (p1967 : Int32) (h0 : Heap) (n0 : Nat) (v : Option Value) (h : Heap) (L : List Loc) : Prop := v = none ∧ Fr n0 L ∧ Keep h0 h [a1959] ∧ Exa Z h a1959 "[I" ∧ Arv Z h a1959 k1968 .int (16 : Int32) [(.int p1960), (.int p1961), (.int p1969), (.int ((p1952 <<< ((1 : Int32) &&& 31)) ||| (1 : Int32))), (.int p1964), (.int p1965), (.int p1966), (.int p1967)] (.int (0 : Int32))
set_option maxRecDepth 65536 in
set_option maxHeartbeats 40000000 in
theorem rm32 (l : Launch) (Z : State) (a0 : Array Value) (hw : ∀ d ∈ tables_1, d.before a0 Z = true) (ws : List Jvm.Cond) (a1951 : Addr) (p1952 : Int32) (p1969 : Int32) (a1959 : Addr) (k1968 : ClassId) (p1960 : Int32) (p1961 : Int32) (p1962 : Int32) (p1963 : Int32) (p1964 : Int32) (p1965 : Int32) (p1966 : Int32) (p1967 : Int32) (h0 : Heap) (n0 : Nat) (O0 : Old Z n0 h0) (pF_a1951_length : Fld Z h0 a1951 zs1 "length" "I" (.int p1969)) (pF_a1951_first : Fld Z h0 a1951 zs1 "first" "[I" (.ref a1959)) (pV_a1959 : Arv Z h0 a1959 k1968 .int (16 : Int32) [(.int p1960), (.int p1961), (.int p1962), (.int p1963), (.int p1964), (.int p1965), (.int p1966), (.int p1967)] (.int (0 : Int32))) (pG_a1959 : n0 ≤ a1959) (pE_a1959 : Exa Z h0 a1959 "[I") (pE_a1951 : Exa Z h0 a1951 zs1) (pN_a1951_a1959 : a1951 ≠ a1959) :
    MetFree l (⟨zs1, "close", "(IIZ)V"⟩ : MethodName) (head1 (Jvm.Cond.code (⟨zs1, "close", "(IIZ)V"⟩ : MethodName) prog_17_method_6_code 4 none :: ws) ({ frames := 1, cells := 0, slots := 0, locals := 14 } : Room)) (fun a U => a = #[(.ref a1951), (.int (1 : Int32)), (.int p1952), (.int (1 : Int32))] ∧ Z.Warmed39 U.vm ∧ U.heap = h0) (fun _ _ _ _ _ => True) (fun _ U o U' => ∃ v L, o = .returned v ∧ Q32 Z a1951 p1952 p1969 a1959 k1968 p1960 p1961 p1962 p1963 p1964 p1965 p1966 p1967 h0 n0 v U'.heap L ∧ FrameEnd U o U' L ({ frames := 1, cells := 0, slots := 0, locals := 14 } : Room).cells ({ frames := 1, cells := 0, slots := 0, locals := 14 } : Room).slots) := by
  refine MetFree.of_bodySF (plainFor_of_name pn_1) hisR ?_
  intro p e s m args below meth c s₁ Bd hml0 hP hK
  obtain ⟨rfl, hZ, hh⟩ := hP
  have hx := Bd.exec
  have hby := Bd.bytes
  have hml : c.maxLocals = 4 := hml0
  have hown : s.vm.findClass zs1 = some m.cls := findClass_of_methodNamed Bd.named
  have hnm := (name_of_methodNamed Bd.named Bd.method).1
  have X0 : Stand p l e ({ frames := 1, cells := 0, slots := 0, locals := 14 } : Room) s m #[(.ref a1951), (.int (1 : Int32)), (.int p1952), (.int (1 : Int32))] below meth c s₁ [] 0 0 := Stand.of_body Bd
  have e0 : s₁.heap = h0 := by rw [← hh, Bd.state]; rfl
  have N0 := Fr.nil n0
  refine own_out ?_
  refine own_via (fun t k => castTop (ef_6 m a1951 (1 : Int32) p1952 (1 : Int32)) (XS.aloadN X0.here hx rfl (hb hby d6_0) rfl rfl (XS.iloadN X0.here hx rfl (hb hby d6_1) rfl (XS.iconst X0.here hx rfl (hb hby d6_2) (XS.iadd X0.here hx rfl (hb hby d6_3) rfl (XS.aloadN X0.here hx rfl (hb hby d6_4) rfl rfl k)))))) ?_
  show own_Goes p e below (s₁.setTop (mkF m 5 #[rv a1951, iv (1 : Int32), iv p1952, iv (1 : Int32)] [(.ref a1951), (.int (2 : Int32)), (.ref a1951)])) _
  obtain ⟨T1984, X1984, e1984, st1984⟩ := getF X0 hx hZ hown (host := "") (Or.inl (wd hw 38 rfl)) Via.refl e0 pF_a1951_length (g := (mkF m 5 #[rv a1951, iv (1 : Int32), iv p1952, iv (1 : Int32)] [(.ref a1951), (.int (2 : Int32)), (.ref a1951)])) rfl rfl (hb hby d6_5)
  refine own_via (fun t k => st1984 t k) ?_
  obtain ⟨cq1985, q1985, q1985'⟩ := pE_a1951.cell
  obtain ⟨_, _, ⟨T1985, L1985, c1985, n1985⟩, -, X1985, ⟨Lc1985, hQ1985, l1985, y1985, z1985⟩, st1985⟩ := X1984.privateBack hx (y := (⟨zs1, "set", "(II)V"⟩ : MethodName)) hown (mvT hZ (wd hw 46 rfl)) (mvT hZ (wd hw 47 rfl)) (own_selPriv (mvT hZ (wd hw 2 rfl)) (mvT hZ (wd hw 47 rfl)) (Cond.privateMethod_at (mvP hZ (wd hw 48 rfl) (args := #[]))) (by decide)) (Cond.privateMethod_at (mvP hZ (wd hw 48 rfl) (args := #[]))) (mvT hZ (wd hw 49 rfl)) (by decide) (backOf (W := 0) (rm8 l Z a0 hw [] a1951 p1969 a1959 k1968 p1960 p1961 p1962 p1963 p1964 p1965 p1966 p1967 h0 n0 O0 pF_a1951_first pV_a1959 pG_a1959 pE_a1959) hZ (wd hw 49 rfl) (wd hw 3 rfl) (by decide) (by decide)) (g := (mkF m 8 #[rv a1951, iv (1 : Int32), iv p1952, iv (1 : Int32)] [(.int p1969), (.int (2 : Int32)), (.ref a1951)])) rfl (by rw [hml]; rfl) (Steps.refl _) (a := a1951) (by rw [e1984]; exact q1985) q1985' (argsL := [(.int (2 : Int32)), (.int p1969)]) (rest := []) (lenOf pd_4 rfl) rfl (by show 2 * 0 + _ ≤ _; exact Nat.le_of_eq rfl) (hb hby d6_8) (fun _ _ => ⟨rfl, e1984, (by decide : 0 + 0 ≤ _), (by decide : 0 + 0 ≤ _)⟩)
  dsimp only [Pt.U, Pt.locs, Pt.cells, Pt.slots] at X1985 l1985 y1985 z1985 st1985 hQ1985
  subst l1985 y1985 z1985
  obtain ⟨h1985, e1985⟩ : ∃ z, T1985.heap = z := ⟨_, rfl⟩
  rw [e1985] at hQ1985
  obtain ⟨rfl, Nq1985, K1985, ex1986, vx1987⟩ := hQ1985
  have N1985 := Fr.app N0 Nq1985
  refine own_via (fun t k => st1985.trans (XS.aloadN X1985.here hx rfl (hb hby d6_11) rfl rfl (XS.iloadN X1985.here hx rfl (hb hby d6_12) rfl (XS.iconst X1985.here hx rfl (hb hby d6_13) (XS.iadd X1985.here hx rfl (hb hby d6_14) rfl (XS.iloadN X1985.here hx rfl (hb hby d6_15) rfl (XS.iconst X1985.here hx rfl (hb hby d6_16) (XS.ishl X1985.here hx rfl (hb hby d6_17) rfl (XS.iloadN X1985.here hx rfl (hb hby d6_18) rfl (XS.ifNo X1985.here hx rfl (hb hby d6_19) rfl ((if0 _ _).trans (feq (by decide : ¬ ((1 : Int32) = (0 : Int32)))).1) (XS.iconst X1985.here hx rfl (hb hby d6_22) (XS.goto X1985.here hx rfl (pc0 := 23) (pc' := 27) rfl (hb hby d6_23) (by decide) (by decide) k)))))))))))) ?_
  show own_Goes p e below (T1985.setTop (mkF m 27 #[rv a1951, iv (1 : Int32), iv p1952, iv (1 : Int32)] [(.int (1 : Int32)), (.int (p1952 <<< ((1 : Int32) &&& 31))), (.int (3 : Int32)), (.ref a1951)])) _
  refine own_via (fun t k => XS.ior X1985.here hx rfl (hb hby d6_27) rfl k) ?_
  have F1989 : Fld Z h1985 a1951 zs1 "first" "[I" (.ref a1959) := (pF_a1951_first.keep K1985 (ninS pN_a1951_a1959 nin0))
  have O1990 : Old Z n0 h1985 := (O0.keep K1985 (allS pG_a1959 all0))
  have E1991 : Exa Z h1985 a1951 zs1 := (pE_a1951.keep K1985)
  obtain ⟨cq1988, q1988, q1988'⟩ := E1991.cell
  obtain ⟨_, _, ⟨T1988, L1988, c1988, n1988⟩, -, X1988, ⟨Lc1988, hQ1988, l1988, y1988, z1988⟩, st1988⟩ := X1985.privateBack hx (y := (⟨zs1, "set", "(II)V"⟩ : MethodName)) hown (mvT hZ (wd hw 46 rfl)) (mvT hZ (wd hw 47 rfl)) (own_selPriv (mvT hZ (wd hw 2 rfl)) (mvT hZ (wd hw 47 rfl)) (Cond.privateMethod_at (mvP hZ (wd hw 48 rfl) (args := #[]))) (by decide)) (Cond.privateMethod_at (mvP hZ (wd hw 48 rfl) (args := #[]))) (mvT hZ (wd hw 49 rfl)) (by decide) (backOf (W := 0) (rm25 l Z a0 hw [] a1951 ((p1952 <<< ((1 : Int32) &&& 31)) ||| (1 : Int32)) a1959 k1968 p1960 p1961 p1969 p1963 p1964 p1965 p1966 p1967 h1985 n0 O1990 F1989 vx1987 pG_a1959 ex1986) hZ (wd hw 49 rfl) (wd hw 3 rfl) (by decide) (by decide)) (g := (mkF m 28 #[rv a1951, iv (1 : Int32), iv p1952, iv (1 : Int32)] [(.int ((p1952 <<< ((1 : Int32) &&& 31)) ||| (1 : Int32))), (.int (3 : Int32)), (.ref a1951)])) rfl (by rw [hml]; rfl) (Steps.refl _) (a := a1951) (by rw [e1985]; exact q1988) q1988' (argsL := [(.int (3 : Int32)), (.int ((p1952 <<< ((1 : Int32) &&& 31)) ||| (1 : Int32)))]) (rest := []) (lenOf pd_4 rfl) rfl (by show 2 * 0 + _ ≤ _; exact Nat.le_of_eq rfl) (hb hby d6_28) (fun _ _ => ⟨rfl, e1985, (by decide : 0 + 0 ≤ _), (by decide : 0 + 0 ≤ _)⟩)
  dsimp only [Pt.U, Pt.locs, Pt.cells, Pt.slots] at X1988 l1988 y1988 z1988 st1988 hQ1988
  subst l1988 y1988 z1988
  obtain ⟨h1988, e1988⟩ : ∃ z, T1988.heap = z := ⟨_, rfl⟩
  rw [e1988] at hQ1988
  obtain ⟨rfl, Nq1988, K1988, ex1992, vx1993⟩ := hQ1988
  have N1988 := Fr.app N1985 Nq1988
  refine own_via (fun t k => st1988.trans k) ?_
  obtain ⟨fs, hr, hrun, hended, hW, hsame⟩ := X1988.leave (v := none) (fun _ => rfl)
  refine own_end (t := T1988.setFrames fs) ?_ ⟨_, hrun, hended, _, _, rfl, ?_, ⟨_, rfl⟩, hW, hsame.mono (by decide) (by decide)⟩
  · exact X1988.returnOut hx Bd.returns (hb hby d6_31) hr
  · show Q32 Z a1951 p1952 p1969 a1959 k1968 p1960 p1961 p1962 p1963 p1964 p1965 p1966 p1967 h0 n0 _ T1988.heap _
    rw [e1988]
    exact ⟨rfl, N1988, (((Keep.refl h0 [a1959]).trans K1985 (allS (Or.inl (List.mem_of_getElem? (i := 0) rfl)) all0)).trans K1988 (allS (Or.inl (List.mem_of_getElem? (i := 0) rfl)) all0)), ex1992, vx1993⟩
def Q33 (Z : State) (a2008 : Addr) (a2015 : Addr) (k2025 : ClassId) (p2017 : Int32) (p2018 : Int32) (p2019 : Int32) (p2020 : Int32) (p2021 : Int32) (p2022 : Int32) (p2023 : Int32) (p2024 : Int32) (h0 : Heap) (n0 : Nat) (v : Option Value) (h : Heap) (L : List Loc) : Prop := v = some (.int (1 : Int32)) ∧ Fr n0 L ∧ h = h0
set_option maxRecDepth 65536 in
set_option maxHeartbeats 40000000 in
theorem rm33 (l : Launch) (Z : State) (a0 : Array Value) (hw : ∀ d ∈ tables_1, d.before a0 Z = true) (ws : List Jvm.Cond) (a2008 : Addr) (a2015 : Addr) (k2025 : ClassId) (p2017 : Int32) (p2018 : Int32) (p2019 : Int32) (p2020 : Int32) (p2021 : Int32) (p2022 : Int32) (p2023 : Int32) (p2024 : Int32) (h0 : Heap) (n0 : Nat) (O0 : Old Z n0 h0) (pF_a2008_first : Fld Z h0 a2008 zs1 "first" "[I" (.ref a2015)) (pV_a2015 : Arv Z h0 a2015 k2025 .int (16 : Int32) [(.int p2017), (.int p2018), (.int p2019), (.int p2020), (.int p2021), (.int p2022), (.int p2023), (.int p2024)] (.int (0 : Int32))) (pE_a2008 : Exa Z h0 a2008 zs1) (pC2041 : ¬ ((p2020 &&& (1 : Int32)) = (0 : Int32))) :
    MetFree l (⟨zs1, "repeats", "(I)Z"⟩ : MethodName) (head1 (Jvm.Cond.code (⟨zs1, "repeats", "(I)Z"⟩ : MethodName) prog_17_method_16_code 2 (some .boolean) :: ws) ({ frames := 1, cells := 0, slots := 0, locals := 13 } : Room)) (fun a U => a = #[(.ref a2008), (.int (1 : Int32))] ∧ Z.Warmed39 U.vm ∧ U.heap = h0) (fun _ _ _ _ _ => True) (fun _ U o U' => ∃ v L, o = .returned v ∧ Q33 Z a2008 a2015 k2025 p2017 p2018 p2019 p2020 p2021 p2022 p2023 p2024 h0 n0 v U'.heap L ∧ FrameEnd U o U' L ({ frames := 1, cells := 0, slots := 0, locals := 13 } : Room).cells ({ frames := 1, cells := 0, slots := 0, locals := 13 } : Room).slots) := by
  refine MetFree.of_bodySF (plainFor_of_name pn_1) hisR ?_
  intro p e s m args below meth c s₁ Bd hml0 hP hK
  obtain ⟨rfl, hZ, hh⟩ := hP
  have hx := Bd.exec
  have hby := Bd.bytes
  have hml : c.maxLocals = 2 := hml0
  have hown : s.vm.findClass zs1 = some m.cls := findClass_of_methodNamed Bd.named
  have hnm := (name_of_methodNamed Bd.named Bd.method).1
  have X0 : Stand p l e ({ frames := 1, cells := 0, slots := 0, locals := 13 } : Room) s m #[(.ref a2008), (.int (1 : Int32))] below meth c s₁ [] 0 0 := Stand.of_body Bd
  have e0 : s₁.heap = h0 := by rw [← hh, Bd.state]; rfl
  have N0 := Fr.nil n0
  refine own_out ?_
  refine own_via (fun t k => castTop (ef_11 m a2008 (1 : Int32)) (XS.aloadN X0.here hx rfl (hb hby d12_0) rfl rfl (XS.iloadN X0.here hx rfl (hb hby d12_1) rfl (XS.iconst X0.here hx rfl (hb hby d12_2) (XS.iadd X0.here hx rfl (hb hby d12_3) rfl k))))) ?_
  show own_Goes p e below (s₁.setTop (mkF m 4 #[rv a2008, iv (1 : Int32)] [(.int (3 : Int32)), (.ref a2008)])) _
  obtain ⟨cq2042, q2042, q2042'⟩ := pE_a2008.cell
  obtain ⟨_, _, ⟨T2042, L2042, c2042, n2042⟩, -, X2042, ⟨Lc2042, hQ2042, l2042, y2042, z2042⟩, st2042⟩ := X0.privateBack hx (y := (⟨zs1, "get", "(I)I"⟩ : MethodName)) hown (mvT hZ (wd hw 55 rfl)) (mvT hZ (wd hw 56 rfl)) (own_selPriv (mvT hZ (wd hw 2 rfl)) (mvT hZ (wd hw 56 rfl)) (Cond.privateMethod_at (mvP hZ (wd hw 57 rfl) (args := #[]))) (by decide)) (Cond.privateMethod_at (mvP hZ (wd hw 57 rfl) (args := #[]))) (mvT hZ (wd hw 58 rfl)) (by decide) (backOf (W := 0) (rm29 l Z a0 hw [] a2008 a2015 k2025 p2017 p2018 p2019 p2020 p2021 p2022 p2023 p2024 h0 n0 O0 pF_a2008_first pV_a2015) hZ (wd hw 58 rfl) (wd hw 3 rfl) (by decide) (by decide)) (g := (mkF m 4 #[rv a2008, iv (1 : Int32)] [(.int (3 : Int32)), (.ref a2008)])) rfl (by rw [hml]; rfl) (Steps.refl _) (a := a2008) (by rw [e0]; exact q2042) q2042' (argsL := [(.int (3 : Int32))]) (rest := []) (lenOf pd_3 rfl) rfl (by show 2 * 0 + _ ≤ _; exact Nat.le_of_eq rfl) (hb hby d12_4) (fun _ _ => ⟨rfl, e0, (by decide : 0 + 0 ≤ _), (by decide : 0 + 0 ≤ _)⟩)
  dsimp only [Pt.U, Pt.locs, Pt.cells, Pt.slots] at X2042 l2042 y2042 z2042 st2042 hQ2042
  subst l2042 y2042 z2042
  obtain ⟨rfl, Nq2042, hh2043⟩ := hQ2042
  have N2042 := Fr.app N0 Nq2042
  refine own_via (fun t k => st2042.trans (XS.iconst X2042.here hx rfl (hb hby d12_7) (XS.iand X2042.here hx rfl (hb hby d12_8) rfl (XS.ifNo X2042.here hx rfl (hb hby d12_9) rfl ((if0 _ _).trans (feq pC2041).1) (XS.iconst X2042.here hx rfl (hb hby d12_12) (XS.goto X2042.here hx rfl (pc0 := 13) (pc' := 17) rfl (hb hby d12_13) (by decide) (by decide) k)))))) ?_
  show own_Goes p e below (T2042.setTop (mkF m 17 #[rv a2008, iv (1 : Int32)] [(.int (1 : Int32))])) _
  obtain ⟨fs, hr, hrun, hended, hW, hsame⟩ := X2042.leave (v := some (.int (1 : Int32))) (fun h => by rw [Bd.returns] at h; cases h)
  refine own_end (t := T2042.setFrames fs) ?_ ⟨_, hrun, hended, _, _, rfl, ?_, ⟨_, rfl⟩, hW, hsame.mono (by decide) (by decide)⟩
  · exact retN X2042 hx (t := .boolean) Bd.returns (by simp) (hb hby d12_17) hr
  · show Q33 Z a2008 a2015 k2025 p2017 p2018 p2019 p2020 p2021 p2022 p2023 p2024 h0 n0 _ T2042.heap _
    rw [hh2043]
    exact ⟨rfl, N2042, rfl⟩
set_option maxRecDepth 65536 in
set_option maxHeartbeats 40000000 in
theorem sfx14 (l : Launch) (Z : State) (a0 : Array Value) (hw : ∀ d ∈ tables_1, d.before a0 Z = true) (ws : List Jvm.Cond) {p : Program} {e : Env} {s : State} {m : MethodId} {below : List Frame} {meth : Method} {c : Code} {s₁ : State} (p1925 : Int32) (p1926 : Int32) (p1927 : Int32) (p1919 : Int32) (p1920 : Int32) (p1921 : Int32) (a1922 : Addr) (a1923 : Addr) (p1924 : Int32) (p1918 : Int32) (a1929 : Addr) (k1937 : ClassId) (p1930 : Int32) (p1931 : Int32) (p1932 : Int32) (p1933 : Int32) (p1934 : Int32) (p1935 : Int32) (p1936 : Int32) (k1928 : ClassId) (Bd : BodyLoose p l x (head1 (Jvm.Cond.code x code maxLocals ret :: ws) room_1) code maxLocals ret e s m #[(.int p1925), (.int p1926), (.int p1927)] below meth c s₁) (hZ : Z.Warmed39 s.vm) (hml : c.maxLocals = 11) {T0 : State} {locs0 : List Loc} (X0 : Stand p l e room_1 s m #[(.int p1925), (.int p1926), (.int p1927)] below meth c T0 locs0 8 120) (h0 : Heap) (e0 : T0.heap = h0) (n0 : Nat) (O0 : Old Z n0 h0) (N0 : Fr n0 locs0) (pF_a1923_length : Fld Z h0 a1923 zs1 "length" "I" (.int (4 : Int32))) (pF_a1923_first : Fld Z h0 a1923 zs1 "first" "[I" (.ref a1929)) (pV_a1929 : Arv Z h0 a1929 k1937 .int (16 : Int32) [(.int p1930), (.int p1924), (.int p1931), (.int p1932), (.int p1933), (.int p1934), (.int p1935), (.int p1936)] (.int (0 : Int32))) (pG_a1929 : n0 ≤ a1929) (pE_a1929 : Exa Z h0 a1929 "[I") (pE_a1923 : Exa Z h0 a1923 zs1) (pN_a1923_a1929 : a1923 ≠ a1929) (pF_a1923_text : Fld Z h0 a1923 zs1 "text" "[B" (.ref a1922)) (pC1942 : ¬ (p1924 < (0 : Int32))) (pC1943 : p1924 < (2 : Int32)) (pV_a1922 : Arv Z h0 a1922 k1928 .byte (4 : Int32) [(.int (123 : Int32)), (.int (91 : Int32)), (.int (49 : Int32)), (.int (110 : Int32))] (.int (0 : Int32))) (pN_a1922_a1929 : a1922 ≠ a1929) (pC1946 : ¬ (p1918 < (0 : Int32))) :
    own_Goes p e below (T0.setTop (mkF m 141 #[iv p1919, iv p1920, iv p1921, rv a1922, rv a1923, iv (1 : Int32), iv p1924, iv (1 : Int32), iv (0 : Int32), iv p1918, iv (1 : Int32)] [])) (own_G s below n0) := by
  have hx := Bd.exec
  have hby := Bd.bytes
  have hown : s.vm.findClass zs2 = some m.cls := findClass_of_methodNamed Bd.named
  have hnm := (name_of_methodNamed Bd.named Bd.method).1
  show own_Goes p e below (T0.setTop (mkF m 141 #[iv p1919, iv p1920, iv p1921, rv a1922, rv a1923, iv (1 : Int32), iv p1924, iv (1 : Int32), iv (0 : Int32), iv p1918, iv (1 : Int32)] [])) _
  refine own_via (fun t k => XS.aload X0.here hx rfl (hb hby at_141) rfl rfl (XS.iload X0.here hx rfl (hb hby at_143) rfl (XS.iload X0.here hx rfl (hb hby at_145) rfl (XS.iload X0.here hx rfl (hb hby at_147) rfl k)))) ?_
  show own_Goes p e below (T0.setTop (mkF m 149 #[iv p1919, iv p1920, iv p1921, rv a1922, rv a1923, iv (1 : Int32), iv p1924, iv (1 : Int32), iv (0 : Int32), iv p1918, iv (1 : Int32)] [(.int (1 : Int32)), (.int p1918), (.int (1 : Int32)), (.ref a1923)])) _
  obtain ⟨_, T1950, _, X1950, hQ1950, st1950⟩ := own_cv X0 hx hZ hown (wd hw 41 rfl) (wd hw 42 rfl) (wd hw 44 rfl) (wd hw 43 rfl) (wd hw 45 rfl) (wd hw 3 rfl) (by decide) (rm32 l Z a0 hw [] a1923 p1918 (4 : Int32) a1929 k1937 p1930 p1924 p1931 p1932 p1933 p1934 p1935 p1936 h0 n0 O0 pF_a1923_length pF_a1923_first pV_a1929 pG_a1929 pE_a1929 pE_a1923 pN_a1923_a1929) e0 pE_a1923 (g := (mkF m 149 #[iv p1919, iv p1920, iv p1921, rv a1922, rv a1923, iv (1 : Int32), iv p1924, iv (1 : Int32), iv (0 : Int32), iv p1918, iv (1 : Int32)] [(.int (1 : Int32)), (.int p1918), (.int (1 : Int32)), (.ref a1923)])) rfl (by rw [hml]; rfl) (rest := []) (W := 0) (lenOf pd_5 rfl) rfl (by show 2 * 0 + _ ≤ _; exact Nat.le_of_eq rfl) (hb hby at_149) (by decide) (by decide) (by decide) (by decide)
  obtain ⟨h1950, e1950⟩ : ∃ z, T1950.heap = z := ⟨_, rfl⟩
  rw [e1950] at hQ1950
  obtain ⟨rfl, Nq1950, K1950, ex1994, vx1995⟩ := hQ1950
  have N1950 := Fr.app N0 Nq1950
  refine own_via (fun t k => st1950 t (XS.iload X1950.here hx rfl (hb hby at_152) rfl (XS.iload X1950.here hx rfl (hb hby at_154) rfl (XS.icmpNo X1950.here hx rfl (hb hby at_156) rfl (teq (by decide : (1 : Int32) = (1 : Int32))).2 (XS.aload X1950.here hx rfl (hb hby at_159) rfl rfl (XS.iload X1950.here hx rfl (hb hby at_161) rfl k)))))) ?_
  show own_Goes p e below (T1950.setTop (mkF m 163 #[iv p1919, iv p1920, iv p1921, rv a1922, rv a1923, iv (1 : Int32), iv p1924, iv (1 : Int32), iv (0 : Int32), iv p1918, iv (1 : Int32)] [(.int (1 : Int32)), (.ref a1923)])) _
  have F1997 : Fld Z h1950 a1923 zs1 "first" "[I" (.ref a1929) := (pF_a1923_first.keep K1950 (ninS pN_a1923_a1929 nin0))
  have E1998 : Exa Z h1950 a1923 zs1 := (pE_a1923.keep K1950)
  have O1999 : Old Z n0 h1950 := (O0.keep K1950 (allS pG_a1929 all0))
  obtain ⟨_, T1996, _, X1996, hQ1996, st1996⟩ := own_cv X1950 hx hZ hown (wd hw 50 rfl) (wd hw 51 rfl) (wd hw 53 rfl) (wd hw 52 rfl) (wd hw 54 rfl) (wd hw 3 rfl) (by decide) (rm27 l Z a0 hw [] a1923 a1929 k1937 p1930 p1924 (4 : Int32) ((p1918 <<< ((1 : Int32) &&& 31)) ||| (1 : Int32)) p1933 p1934 p1935 p1936 h1950 n0 O1999 F1997 vx1995 E1998) e1950 E1998 (g := (mkF m 163 #[iv p1919, iv p1920, iv p1921, rv a1922, rv a1923, iv (1 : Int32), iv p1924, iv (1 : Int32), iv (0 : Int32), iv p1918, iv (1 : Int32)] [(.int (1 : Int32)), (.ref a1923)])) rfl (by rw [hml]; rfl) (rest := []) (W := 0) (lenOf pd_3 rfl) rfl (by show 2 * 0 + _ ≤ _; exact Nat.le_of_eq rfl) (hb hby at_163) (by decide) (by decide) (by decide) (by decide)
  obtain ⟨rfl, Nq1996, hh2000⟩ := hQ1996
  have N1996 := Fr.app N1950 Nq1996
  refine own_via (fun t k => st1996 t (XS.iload X1996.here hx rfl (hb hby at_166) rfl (XS.icmpNo X1996.here hx rfl (hb hby at_168) rfl (teq (rfl : p1924 = p1924)).2 (XS.aload X1996.here hx rfl (hb hby at_171) rfl rfl (XS.iload X1996.here hx rfl (hb hby at_173) rfl k))))) ?_
  show own_Goes p e below (T1996.setTop (mkF m 175 #[iv p1919, iv p1920, iv p1921, rv a1922, rv a1923, iv (1 : Int32), iv p1924, iv (1 : Int32), iv (0 : Int32), iv p1918, iv (1 : Int32)] [(.int (1 : Int32)), (.ref a1923)])) _
  have F2002 : Fld Z h1950 a1923 zs1 "text" "[B" (.ref a1922) := (pF_a1923_text.keep K1950 (ninS pN_a1923_a1929 nin0))
  have V2003 : Arv Z h1950 a1922 k1928 .byte (4 : Int32) [(.int (123 : Int32)), (.int (91 : Int32)), (.int (49 : Int32)), (.int (110 : Int32))] (.int (0 : Int32)) := (pV_a1922.keep K1950 (ninS pN_a1922_a1929 nin0))
  obtain ⟨_, T2001, _, X2001, hQ2001, st2001⟩ := own_cv X1996 hx hZ hown (wd hw 59 rfl) (wd hw 60 rfl) (wd hw 62 rfl) (wd hw 61 rfl) (wd hw 63 rfl) (wd hw 3 rfl) (by decide) (rm28 l Z a0 hw [] a1923 a1922 a1929 k1937 p1930 p1924 (4 : Int32) ((p1918 <<< ((1 : Int32) &&& 31)) ||| (1 : Int32)) p1933 p1934 p1935 p1936 k1928 (49 : Int32) (110 : Int32) h1950 n0 O1999 F2002 F1997 vx1995 E1998 pC1942 pC1943 V2003) hh2000 E1998 (g := (mkF m 175 #[iv p1919, iv p1920, iv p1921, rv a1922, rv a1923, iv (1 : Int32), iv p1924, iv (1 : Int32), iv (0 : Int32), iv p1918, iv (1 : Int32)] [(.int (1 : Int32)), (.ref a1923)])) rfl (by rw [hml]; rfl) (rest := []) (W := 0) (lenOf pd_3 rfl) rfl (by show 2 * 0 + _ ≤ _; exact Nat.le_of_eq rfl) (hb hby at_175) (by decide) (by decide) (by decide) (by decide)
  obtain ⟨rfl, Nq2001, hh2004⟩ := hQ2001
  have N2001 := Fr.app N1996 Nq2001
  refine own_via (fun t k => st2001 t (XS.iload X2001.here hx rfl (hb hby at_178) rfl (XS.iconst X2001.here hx rfl (hb hby at_180) (XS.iadd X2001.here hx rfl (hb hby at_181) rfl (XS.iload X2001.here hx rfl (hb hby at_182) rfl (XS.iadd X2001.here hx rfl (hb hby at_184) rfl (XS.icmpNo X2001.here hx rfl (hb hby at_185) rfl (teq (by decide : (4 : Int32) = (4 : Int32))).2 (XS.aload X2001.here hx rfl (hb hby at_188) rfl rfl (XS.iload X2001.here hx rfl (hb hby at_190) rfl k))))))))) ?_
  show own_Goes p e below (T2001.setTop (mkF m 192 #[iv p1919, iv p1920, iv p1921, rv a1922, rv a1923, iv (1 : Int32), iv p1924, iv (1 : Int32), iv (0 : Int32), iv p1918, iv (1 : Int32)] [(.int (1 : Int32)), (.ref a1923)])) _
  obtain ⟨_, T2005, _, X2005, hQ2005, st2005⟩ := own_cv X2001 hx hZ hown (wd hw 64 rfl) (wd hw 65 rfl) (wd hw 67 rfl) (wd hw 66 rfl) (wd hw 68 rfl) (wd hw 3 rfl) (by decide) (rm30 l Z a0 hw [] a1923 a1929 k1937 p1930 p1924 (4 : Int32) ((p1918 <<< ((1 : Int32) &&& 31)) ||| (1 : Int32)) p1933 p1934 p1935 p1936 h1950 n0 O1999 F1997 vx1995 E1998) hh2004 E1998 (g := (mkF m 192 #[iv p1919, iv p1920, iv p1921, rv a1922, rv a1923, iv (1 : Int32), iv p1924, iv (1 : Int32), iv (0 : Int32), iv p1918, iv (1 : Int32)] [(.int (1 : Int32)), (.ref a1923)])) rfl (by rw [hml]; rfl) (rest := []) (W := 0) (lenOf pd_3 rfl) rfl (by show 2 * 0 + _ ≤ _; exact Nat.le_of_eq rfl) (hb hby at_192) (by decide) (by decide) (by decide) (by decide)
  obtain ⟨rfl, Nq2005, hh2006⟩ := hQ2005
  have N2005 := Fr.app N2001 Nq2005
  refine own_via (fun t k => st2005 t (XS.iload X2005.here hx rfl (hb hby at_195) rfl (XS.icmpNo X2005.here hx rfl (hb hby at_197) rfl (teq (own_cnt p1918 1 pC1946 (by decide))).2 (XS.aload X2005.here hx rfl (hb hby at_200) rfl rfl (XS.iload X2005.here hx rfl (hb hby at_202) rfl k))))) ?_
  show own_Goes p e below (T2005.setTop (mkF m 204 #[iv p1919, iv p1920, iv p1921, rv a1922, rv a1923, iv (1 : Int32), iv p1924, iv (1 : Int32), iv (0 : Int32), iv p1918, iv (1 : Int32)] [(.int (1 : Int32)), (.ref a1923)])) _
  obtain ⟨_, T2007, _, X2007, hQ2007, st2007⟩ := own_cv X2005 hx hZ hown (wd hw 69 rfl) (wd hw 70 rfl) (wd hw 72 rfl) (wd hw 71 rfl) (wd hw 73 rfl) (wd hw 3 rfl) (by decide) (rm33 l Z a0 hw [] a1923 a1929 k1937 p1930 p1924 (4 : Int32) ((p1918 <<< ((1 : Int32) &&& 31)) ||| (1 : Int32)) p1933 p1934 p1935 p1936 h1950 n0 O1999 F1997 vx1995 E1998 (own_rep1 p1918)) hh2006 E1998 (g := (mkF m 204 #[iv p1919, iv p1920, iv p1921, rv a1922, rv a1923, iv (1 : Int32), iv p1924, iv (1 : Int32), iv (0 : Int32), iv p1918, iv (1 : Int32)] [(.int (1 : Int32)), (.ref a1923)])) rfl (by rw [hml]; rfl) (rest := []) (W := 0) (lenOf pd_6 rfl) rfl (by show 2 * 0 + _ ≤ _; exact Nat.le_of_eq rfl) (hb hby at_204) (by decide) (by decide) (by decide) (by decide)
  obtain ⟨rfl, Nq2007, hh2044⟩ := hQ2007
  have N2007 := Fr.app N2005 Nq2007
  refine own_via (fun t k => st2007 t (XS.iload X2007.here hx rfl (hb hby at_207) rfl (XS.icmpNo X2007.here hx rfl (hb hby at_209) rfl (teq (by decide : (1 : Int32) = (1 : Int32))).2 (XS.iconst X2007.here hx rfl (hb hby at_212) (XS.goto X2007.here hx rfl (pc0 := 213) (pc' := 217) rfl (hb hby at_213) (by decide) (by decide) k))))) ?_
  show own_Goes p e below (T2007.setTop (mkF m 217 #[iv p1919, iv p1920, iv p1921, rv a1922, rv a1923, iv (1 : Int32), iv p1924, iv (1 : Int32), iv (0 : Int32), iv p1918, iv (1 : Int32)] [(.int (1 : Int32))])) _
  obtain ⟨fs, hr, hrun, hended, hW, hsame⟩ := X2007.leave (v := some (.int (1 : Int32))) (fun h => by rw [Bd.returns] at h; cases h)
  refine own_end (t := T2007.setFrames fs) ?_ ⟨_, hrun, hended, _, _, rfl, ?_, ⟨_, rfl⟩, hW, hsame.mono (by decide) (by decide)⟩
  · exact retN X2007 hx (t := .boolean) Bd.returns (by simp) (hb hby at_217) hr
  · exact ⟨rfl, N2007⟩
set_option maxRecDepth 65536 in
set_option maxHeartbeats 40000000 in
theorem sfx15 (l : Launch) (Z : State) (a0 : Array Value) (hw : ∀ d ∈ tables_1, d.before a0 Z = true) (ws : List Jvm.Cond) {p : Program} {e : Env} {s : State} {m : MethodId} {below : List Frame} {meth : Method} {c : Code} {s₁ : State} (p1585 : Int32) (p1586 : Int32) (p1587 : Int32) (p1579 : Int32) (p1580 : Int32) (p1581 : Int32) (a1582 : Addr) (a1583 : Addr) (p1584 : Int32) (a1589 : Addr) (k1597 : ClassId) (p1590 : Int32) (p1591 : Int32) (p1592 : Int32) (p1593 : Int32) (p1594 : Int32) (p1595 : Int32) (p1596 : Int32) (k1588 : ClassId) (Bd : BodyLoose p l x (head1 (Jvm.Cond.code x code maxLocals ret :: ws) room_1) code maxLocals ret e s m #[(.int p1585), (.int p1586), (.int p1587)] below meth c s₁) (hZ : Z.Warmed39 s.vm) (hml : c.maxLocals = 11) {T0 : State} {locs0 : List Loc} (X0 : Stand p l e room_1 s m #[(.int p1585), (.int p1586), (.int p1587)] below meth c T0 locs0 8 120) (h0 : Heap) (e0 : T0.heap = h0) (n0 : Nat) (O0 : Old Z n0 h0) (N0 : Fr n0 locs0) (pF_a1583_length : Fld Z h0 a1583 zs1 "length" "I" (.int (4 : Int32))) (pF_a1583_first : Fld Z h0 a1583 zs1 "first" "[I" (.ref a1589)) (pV_a1589 : Arv Z h0 a1589 k1597 .int (16 : Int32) [(.int p1590), (.int p1584), (.int p1591), (.int p1592), (.int p1593), (.int p1594), (.int p1595), (.int p1596)] (.int (0 : Int32))) (pG_a1589 : n0 ≤ a1589) (pE_a1589 : Exa Z h0 a1589 "[I") (pE_a1583 : Exa Z h0 a1583 zs1) (pN_a1583_a1589 : a1583 ≠ a1589) (pF_a1583_text : Fld Z h0 a1583 zs1 "text" "[B" (.ref a1582)) (pC1602 : ¬ (p1584 < (0 : Int32))) (pC1603 : p1584 < (2 : Int32)) (pV_a1582 : Arv Z h0 a1582 k1588 .byte (4 : Int32) [(.int (123 : Int32)), (.int (91 : Int32)), (.int (49 : Int32)), (.int (110 : Int32))] (.int (0 : Int32))) (pN_a1582_a1589 : a1582 ≠ a1589) :
    own_Goes p e below (T0.setTop (mkF m 122 #[iv p1579, iv p1580, iv p1581, rv a1582, rv a1583, iv (1 : Int32), iv p1584, iv (1 : Int32), iv (0 : Int32), .unset, .unset] [])) (own_G s below n0) := by
  have hx := Bd.exec
  have hby := Bd.bytes
  have hown : s.vm.findClass zs2 = some m.cls := findClass_of_methodNamed Bd.named
  have hnm := (name_of_methodNamed Bd.named Bd.method).1
  show own_Goes p e below (T0.setTop (mkF m 122 #[iv p1579, iv p1580, iv p1581, rv a1582, rv a1583, iv (1 : Int32), iv p1584, iv (1 : Int32), iv (0 : Int32), .unset, .unset] [])) _
  refine own_via (fun t k => XS.iloadN X0.here hx rfl (hb hby at_122) rfl (X0.ldcInt hx hown (mvT hZ (wd hw 40 rfl)) (g := (mkF m 123 #[iv p1579, iv p1580, iv p1581, rv a1582, rv a1583, iv (1 : Int32), iv p1584, iv (1 : Int32), iv (0 : Int32), .unset, .unset] [(.int p1580)])) rfl (hb hby at_123) t (XS.iand X0.here hx rfl (hb hby at_125) rfl (XS.istore X0.here hx rfl (hb hby at_126) rfl (l' := #[iv p1579, iv p1580, iv p1581, rv a1582, rv a1583, iv (1 : Int32), iv p1584, iv (1 : Int32), iv (0 : Int32), iv (p1580 &&& (2147483647 : Int32)), .unset]) rfl (XS.iloadN X0.here hx rfl (hb hby at_128) rfl (XS.iconst X0.here hx rfl (hb hby at_129) (XS.iand X0.here hx rfl (hb hby at_130) rfl k))))))) ?_
  show own_Goes p e below (T0.setTop (mkF m 131 #[iv p1579, iv p1580, iv p1581, rv a1582, rv a1583, iv (1 : Int32), iv p1584, iv (1 : Int32), iv (0 : Int32), iv (p1580 &&& (2147483647 : Int32)), .unset] [(.int (p1581 &&& (1 : Int32)))])) _
  by_cases hc1606 : (p1581 &&& (1 : Int32)) = (0 : Int32)
  · refine own_via (fun t k => XS.ifYes X0.here hx rfl (pc0 := 131) (pc' := 138) rfl (hb hby at_131) rfl ((if0 _ _).trans (teq hc1606).1) (by decide) (by decide) (XS.iconst X0.here hx rfl (hb hby at_138) (XS.istore X0.here hx rfl (hb hby at_139) rfl (l' := #[iv p1579, iv p1580, iv p1581, rv a1582, rv a1583, iv (1 : Int32), iv p1584, iv (1 : Int32), iv (0 : Int32), iv (p1580 &&& (2147483647 : Int32)), iv (0 : Int32)]) rfl k))) ?_
    show own_Goes p e below (T0.setTop (mkF m 141 #[iv p1579, iv p1580, iv p1581, rv a1582, rv a1583, iv (1 : Int32), iv p1584, iv (1 : Int32), iv (0 : Int32), iv (p1580 &&& (2147483647 : Int32)), iv (0 : Int32)] [])) _
    exact sfx13 l Z a0 hw ws p1585 p1586 p1587 p1579 p1580 p1581 a1582 a1583 p1584 (p1580 &&& (2147483647 : Int32)) a1589 k1597 p1590 p1591 p1592 p1593 p1594 p1595 p1596 k1588 Bd hZ hml X0 h0 e0 n0 O0 N0 pF_a1583_length pF_a1583_first pV_a1589 pG_a1589 pE_a1589 pE_a1583 pN_a1583_a1589 pF_a1583_text pC1602 pC1603 pV_a1582 pN_a1582_a1589 (own_nn_mask p1580 (2147483647 : Int32) 31 (by decide) (by decide))
  · refine own_via (fun t k => XS.ifNo X0.here hx rfl (hb hby at_131) rfl ((if0 _ _).trans (feq hc1606).1) (XS.iconst X0.here hx rfl (hb hby at_134) (XS.goto X0.here hx rfl (pc0 := 135) (pc' := 139) rfl (hb hby at_135) (by decide) (by decide) (XS.istore X0.here hx rfl (hb hby at_139) rfl (l' := #[iv p1579, iv p1580, iv p1581, rv a1582, rv a1583, iv (1 : Int32), iv p1584, iv (1 : Int32), iv (0 : Int32), iv (p1580 &&& (2147483647 : Int32)), iv (1 : Int32)]) rfl k)))) ?_
    show own_Goes p e below (T0.setTop (mkF m 141 #[iv p1579, iv p1580, iv p1581, rv a1582, rv a1583, iv (1 : Int32), iv p1584, iv (1 : Int32), iv (0 : Int32), iv (p1580 &&& (2147483647 : Int32)), iv (1 : Int32)] [])) _
    exact sfx14 l Z a0 hw ws p1585 p1586 p1587 p1579 p1580 p1581 a1582 a1583 p1584 (p1580 &&& (2147483647 : Int32)) a1589 k1597 p1590 p1591 p1592 p1593 p1594 p1595 p1596 k1588 Bd hZ hml X0 h0 e0 n0 O0 N0 pF_a1583_length pF_a1583_first pV_a1589 pG_a1589 pE_a1589 pE_a1583 pN_a1583_a1589 pF_a1583_text pC1602 pC1603 pV_a1582 pN_a1582_a1589 (own_nn_mask p1580 (2147483647 : Int32) 31 (by decide) (by decide))
set_option maxRecDepth 65536 in
set_option maxHeartbeats 40000000 in
theorem sfx16 (l : Launch) (Z : State) (a0 : Array Value) (hw : ∀ d ∈ tables_1, d.before a0 Z = true) (ws : List Jvm.Cond) {p : Program} {e : Env} {s : State} {m : MethodId} {below : List Frame} {meth : Method} {c : Code} {s₁ : State} (p2087 : Int32) (p2088 : Int32) (p2089 : Int32) (p2081 : Int32) (p2082 : Int32) (p2083 : Int32) (a2084 : Addr) (a2085 : Addr) (p2086 : Int32) (p2080 : Int32) (a2091 : Addr) (k2099 : ClassId) (p2092 : Int32) (p2093 : Int32) (p2094 : Int32) (p2095 : Int32) (p2096 : Int32) (p2097 : Int32) (p2098 : Int32) (k2090 : ClassId) (Bd : BodyLoose p l x (head1 (Jvm.Cond.code x code maxLocals ret :: ws) room_1) code maxLocals ret e s m #[(.int p2087), (.int p2088), (.int p2089)] below meth c s₁) (hZ : Z.Warmed39 s.vm) (hml : c.maxLocals = 11) {T0 : State} {locs0 : List Loc} (X0 : Stand p l e room_1 s m #[(.int p2087), (.int p2088), (.int p2089)] below meth c T0 locs0 8 120) (h0 : Heap) (e0 : T0.heap = h0) (n0 : Nat) (O0 : Old Z n0 h0) (N0 : Fr n0 locs0) (pF_a2085_length : Fld Z h0 a2085 zs1 "length" "I" (.int (5 : Int32))) (pF_a2085_first : Fld Z h0 a2085 zs1 "first" "[I" (.ref a2091)) (pV_a2091 : Arv Z h0 a2091 k2099 .int (16 : Int32) [(.int p2092), (.int p2086), (.int p2093), (.int p2094), (.int p2095), (.int p2096), (.int p2097), (.int p2098)] (.int (0 : Int32))) (pG_a2091 : n0 ≤ a2091) (pE_a2091 : Exa Z h0 a2091 "[I") (pE_a2085 : Exa Z h0 a2085 zs1) (pN_a2085_a2091 : a2085 ≠ a2091) (pF_a2085_text : Fld Z h0 a2085 zs1 "text" "[B" (.ref a2084)) (pC2104 : ¬ (p2086 < (0 : Int32))) (pC2105 : p2086 < (2 : Int32)) (pV_a2084 : Arv Z h0 a2084 k2090 .byte (4 : Int32) [(.int (123 : Int32)), (.int (91 : Int32)), (.int (49 : Int32)), (.int (110 : Int32))] (.int (0 : Int32))) (pN_a2084_a2091 : a2084 ≠ a2091) (pC2108 : ¬ (p2080 < (0 : Int32))) :
    own_Goes p e below (T0.setTop (mkF m 141 #[iv p2081, iv p2082, iv p2083, rv a2084, rv a2085, iv (1 : Int32), iv p2086, iv (1 : Int32), iv (1 : Int32), iv p2080, iv (0 : Int32)] [])) (own_G s below n0) := by
  have hx := Bd.exec
  have hby := Bd.bytes
  have hown : s.vm.findClass zs2 = some m.cls := findClass_of_methodNamed Bd.named
  have hnm := (name_of_methodNamed Bd.named Bd.method).1
  show own_Goes p e below (T0.setTop (mkF m 141 #[iv p2081, iv p2082, iv p2083, rv a2084, rv a2085, iv (1 : Int32), iv p2086, iv (1 : Int32), iv (1 : Int32), iv p2080, iv (0 : Int32)] [])) _
  refine own_via (fun t k => XS.aload X0.here hx rfl (hb hby at_141) rfl rfl (XS.iload X0.here hx rfl (hb hby at_143) rfl (XS.iload X0.here hx rfl (hb hby at_145) rfl (XS.iload X0.here hx rfl (hb hby at_147) rfl k)))) ?_
  show own_Goes p e below (T0.setTop (mkF m 149 #[iv p2081, iv p2082, iv p2083, rv a2084, rv a2085, iv (1 : Int32), iv p2086, iv (1 : Int32), iv (1 : Int32), iv p2080, iv (0 : Int32)] [(.int (0 : Int32)), (.int p2080), (.int (1 : Int32)), (.ref a2085)])) _
  obtain ⟨_, T2112, _, X2112, hQ2112, st2112⟩ := own_cv X0 hx hZ hown (wd hw 41 rfl) (wd hw 42 rfl) (wd hw 44 rfl) (wd hw 43 rfl) (wd hw 45 rfl) (wd hw 3 rfl) (by decide) (rm26 l Z a0 hw [] a2085 p2080 (5 : Int32) a2091 k2099 p2092 p2086 p2093 p2094 p2095 p2096 p2097 p2098 h0 n0 O0 pF_a2085_length pF_a2085_first pV_a2091 pG_a2091 pE_a2091 pE_a2085 pN_a2085_a2091) e0 pE_a2085 (g := (mkF m 149 #[iv p2081, iv p2082, iv p2083, rv a2084, rv a2085, iv (1 : Int32), iv p2086, iv (1 : Int32), iv (1 : Int32), iv p2080, iv (0 : Int32)] [(.int (0 : Int32)), (.int p2080), (.int (1 : Int32)), (.ref a2085)])) rfl (by rw [hml]; rfl) (rest := []) (W := 0) (lenOf pd_5 rfl) rfl (by show 2 * 0 + _ ≤ _; exact Nat.le_of_eq rfl) (hb hby at_149) (by decide) (by decide) (by decide) (by decide)
  obtain ⟨h2112, e2112⟩ : ∃ z, T2112.heap = z := ⟨_, rfl⟩
  rw [e2112] at hQ2112
  obtain ⟨rfl, Nq2112, K2112, ex2113, vx2114⟩ := hQ2112
  have N2112 := Fr.app N0 Nq2112
  refine own_via (fun t k => st2112 t (XS.iload X2112.here hx rfl (hb hby at_152) rfl (XS.iload X2112.here hx rfl (hb hby at_154) rfl (XS.icmpNo X2112.here hx rfl (hb hby at_156) rfl (teq (by decide : (1 : Int32) = (1 : Int32))).2 (XS.aload X2112.here hx rfl (hb hby at_159) rfl rfl (XS.iload X2112.here hx rfl (hb hby at_161) rfl k)))))) ?_
  show own_Goes p e below (T2112.setTop (mkF m 163 #[iv p2081, iv p2082, iv p2083, rv a2084, rv a2085, iv (1 : Int32), iv p2086, iv (1 : Int32), iv (1 : Int32), iv p2080, iv (0 : Int32)] [(.int (1 : Int32)), (.ref a2085)])) _
  have F2116 : Fld Z h2112 a2085 zs1 "first" "[I" (.ref a2091) := (pF_a2085_first.keep K2112 (ninS pN_a2085_a2091 nin0))
  have E2117 : Exa Z h2112 a2085 zs1 := (pE_a2085.keep K2112)
  have O2118 : Old Z n0 h2112 := (O0.keep K2112 (allS pG_a2091 all0))
  obtain ⟨_, T2115, _, X2115, hQ2115, st2115⟩ := own_cv X2112 hx hZ hown (wd hw 50 rfl) (wd hw 51 rfl) (wd hw 53 rfl) (wd hw 52 rfl) (wd hw 54 rfl) (wd hw 3 rfl) (by decide) (rm27 l Z a0 hw [] a2085 a2091 k2099 p2092 p2086 (5 : Int32) ((p2080 <<< ((1 : Int32) &&& 31)) ||| (0 : Int32)) p2095 p2096 p2097 p2098 h2112 n0 O2118 F2116 vx2114 E2117) e2112 E2117 (g := (mkF m 163 #[iv p2081, iv p2082, iv p2083, rv a2084, rv a2085, iv (1 : Int32), iv p2086, iv (1 : Int32), iv (1 : Int32), iv p2080, iv (0 : Int32)] [(.int (1 : Int32)), (.ref a2085)])) rfl (by rw [hml]; rfl) (rest := []) (W := 0) (lenOf pd_3 rfl) rfl (by show 2 * 0 + _ ≤ _; exact Nat.le_of_eq rfl) (hb hby at_163) (by decide) (by decide) (by decide) (by decide)
  obtain ⟨rfl, Nq2115, hh2119⟩ := hQ2115
  have N2115 := Fr.app N2112 Nq2115
  refine own_via (fun t k => st2115 t (XS.iload X2115.here hx rfl (hb hby at_166) rfl (XS.icmpNo X2115.here hx rfl (hb hby at_168) rfl (teq (rfl : p2086 = p2086)).2 (XS.aload X2115.here hx rfl (hb hby at_171) rfl rfl (XS.iload X2115.here hx rfl (hb hby at_173) rfl k))))) ?_
  show own_Goes p e below (T2115.setTop (mkF m 175 #[iv p2081, iv p2082, iv p2083, rv a2084, rv a2085, iv (1 : Int32), iv p2086, iv (1 : Int32), iv (1 : Int32), iv p2080, iv (0 : Int32)] [(.int (1 : Int32)), (.ref a2085)])) _
  have F2121 : Fld Z h2112 a2085 zs1 "text" "[B" (.ref a2084) := (pF_a2085_text.keep K2112 (ninS pN_a2085_a2091 nin0))
  have V2122 : Arv Z h2112 a2084 k2090 .byte (4 : Int32) [(.int (123 : Int32)), (.int (91 : Int32)), (.int (49 : Int32)), (.int (110 : Int32))] (.int (0 : Int32)) := (pV_a2084.keep K2112 (ninS pN_a2084_a2091 nin0))
  obtain ⟨_, T2120, _, X2120, hQ2120, st2120⟩ := own_cv X2115 hx hZ hown (wd hw 59 rfl) (wd hw 60 rfl) (wd hw 62 rfl) (wd hw 61 rfl) (wd hw 63 rfl) (wd hw 3 rfl) (by decide) (rm28 l Z a0 hw [] a2085 a2084 a2091 k2099 p2092 p2086 (5 : Int32) ((p2080 <<< ((1 : Int32) &&& 31)) ||| (0 : Int32)) p2095 p2096 p2097 p2098 k2090 (49 : Int32) (110 : Int32) h2112 n0 O2118 F2121 F2116 vx2114 E2117 pC2104 pC2105 V2122) hh2119 E2117 (g := (mkF m 175 #[iv p2081, iv p2082, iv p2083, rv a2084, rv a2085, iv (1 : Int32), iv p2086, iv (1 : Int32), iv (1 : Int32), iv p2080, iv (0 : Int32)] [(.int (1 : Int32)), (.ref a2085)])) rfl (by rw [hml]; rfl) (rest := []) (W := 0) (lenOf pd_3 rfl) rfl (by show 2 * 0 + _ ≤ _; exact Nat.le_of_eq rfl) (hb hby at_175) (by decide) (by decide) (by decide) (by decide)
  obtain ⟨rfl, Nq2120, hh2123⟩ := hQ2120
  have N2120 := Fr.app N2115 Nq2120
  refine own_via (fun t k => st2120 t (XS.iload X2120.here hx rfl (hb hby at_178) rfl (XS.iconst X2120.here hx rfl (hb hby at_180) (XS.iadd X2120.here hx rfl (hb hby at_181) rfl (XS.iload X2120.here hx rfl (hb hby at_182) rfl (XS.iadd X2120.here hx rfl (hb hby at_184) rfl (XS.icmpNo X2120.here hx rfl (hb hby at_185) rfl (teq (by decide : (5 : Int32) = (5 : Int32))).2 (XS.aload X2120.here hx rfl (hb hby at_188) rfl rfl (XS.iload X2120.here hx rfl (hb hby at_190) rfl k))))))))) ?_
  show own_Goes p e below (T2120.setTop (mkF m 192 #[iv p2081, iv p2082, iv p2083, rv a2084, rv a2085, iv (1 : Int32), iv p2086, iv (1 : Int32), iv (1 : Int32), iv p2080, iv (0 : Int32)] [(.int (1 : Int32)), (.ref a2085)])) _
  obtain ⟨_, T2124, _, X2124, hQ2124, st2124⟩ := own_cv X2120 hx hZ hown (wd hw 64 rfl) (wd hw 65 rfl) (wd hw 67 rfl) (wd hw 66 rfl) (wd hw 68 rfl) (wd hw 3 rfl) (by decide) (rm30 l Z a0 hw [] a2085 a2091 k2099 p2092 p2086 (5 : Int32) ((p2080 <<< ((1 : Int32) &&& 31)) ||| (0 : Int32)) p2095 p2096 p2097 p2098 h2112 n0 O2118 F2116 vx2114 E2117) hh2123 E2117 (g := (mkF m 192 #[iv p2081, iv p2082, iv p2083, rv a2084, rv a2085, iv (1 : Int32), iv p2086, iv (1 : Int32), iv (1 : Int32), iv p2080, iv (0 : Int32)] [(.int (1 : Int32)), (.ref a2085)])) rfl (by rw [hml]; rfl) (rest := []) (W := 0) (lenOf pd_3 rfl) rfl (by show 2 * 0 + _ ≤ _; exact Nat.le_of_eq rfl) (hb hby at_192) (by decide) (by decide) (by decide) (by decide)
  obtain ⟨rfl, Nq2124, hh2125⟩ := hQ2124
  have N2124 := Fr.app N2120 Nq2124
  refine own_via (fun t k => st2124 t (XS.iload X2124.here hx rfl (hb hby at_195) rfl (XS.icmpNo X2124.here hx rfl (hb hby at_197) rfl (teq (own_cnt p2080 0 pC2108 (by decide))).2 (XS.aload X2124.here hx rfl (hb hby at_200) rfl rfl (XS.iload X2124.here hx rfl (hb hby at_202) rfl k))))) ?_
  show own_Goes p e below (T2124.setTop (mkF m 204 #[iv p2081, iv p2082, iv p2083, rv a2084, rv a2085, iv (1 : Int32), iv p2086, iv (1 : Int32), iv (1 : Int32), iv p2080, iv (0 : Int32)] [(.int (1 : Int32)), (.ref a2085)])) _
  obtain ⟨_, T2126, _, X2126, hQ2126, st2126⟩ := own_cv X2124 hx hZ hown (wd hw 69 rfl) (wd hw 70 rfl) (wd hw 72 rfl) (wd hw 71 rfl) (wd hw 73 rfl) (wd hw 3 rfl) (by decide) (rm31 l Z a0 hw [] a2085 a2091 k2099 p2092 p2086 (5 : Int32) ((p2080 <<< ((1 : Int32) &&& 31)) ||| (0 : Int32)) p2095 p2096 p2097 p2098 h2112 n0 O2118 F2116 vx2114 E2117 (own_rep0 p2080)) hh2125 E2117 (g := (mkF m 204 #[iv p2081, iv p2082, iv p2083, rv a2084, rv a2085, iv (1 : Int32), iv p2086, iv (1 : Int32), iv (1 : Int32), iv p2080, iv (0 : Int32)] [(.int (1 : Int32)), (.ref a2085)])) rfl (by rw [hml]; rfl) (rest := []) (W := 0) (lenOf pd_6 rfl) rfl (by show 2 * 0 + _ ≤ _; exact Nat.le_of_eq rfl) (hb hby at_204) (by decide) (by decide) (by decide) (by decide)
  obtain ⟨rfl, Nq2126, hh2127⟩ := hQ2126
  have N2126 := Fr.app N2124 Nq2126
  refine own_via (fun t k => st2126 t (XS.iload X2126.here hx rfl (hb hby at_207) rfl (XS.icmpNo X2126.here hx rfl (hb hby at_209) rfl (teq (by decide : (0 : Int32) = (0 : Int32))).2 (XS.iconst X2126.here hx rfl (hb hby at_212) (XS.goto X2126.here hx rfl (pc0 := 213) (pc' := 217) rfl (hb hby at_213) (by decide) (by decide) k))))) ?_
  show own_Goes p e below (T2126.setTop (mkF m 217 #[iv p2081, iv p2082, iv p2083, rv a2084, rv a2085, iv (1 : Int32), iv p2086, iv (1 : Int32), iv (1 : Int32), iv p2080, iv (0 : Int32)] [(.int (1 : Int32))])) _
  obtain ⟨fs, hr, hrun, hended, hW, hsame⟩ := X2126.leave (v := some (.int (1 : Int32))) (fun h => by rw [Bd.returns] at h; cases h)
  refine own_end (t := T2126.setFrames fs) ?_ ⟨_, hrun, hended, _, _, rfl, ?_, ⟨_, rfl⟩, hW, hsame.mono (by decide) (by decide)⟩
  · exact retN X2126 hx (t := .boolean) Bd.returns (by simp) (hb hby at_217) hr
  · exact ⟨rfl, N2126⟩
set_option maxRecDepth 65536 in
set_option maxHeartbeats 40000000 in
theorem sfx17 (l : Launch) (Z : State) (a0 : Array Value) (hw : ∀ d ∈ tables_1, d.before a0 Z = true) (ws : List Jvm.Cond) {p : Program} {e : Env} {s : State} {m : MethodId} {below : List Frame} {meth : Method} {c : Code} {s₁ : State} (p2135 : Int32) (p2136 : Int32) (p2137 : Int32) (p2129 : Int32) (p2130 : Int32) (p2131 : Int32) (a2132 : Addr) (a2133 : Addr) (p2134 : Int32) (p2128 : Int32) (a2139 : Addr) (k2147 : ClassId) (p2140 : Int32) (p2141 : Int32) (p2142 : Int32) (p2143 : Int32) (p2144 : Int32) (p2145 : Int32) (p2146 : Int32) (k2138 : ClassId) (Bd : BodyLoose p l x (head1 (Jvm.Cond.code x code maxLocals ret :: ws) room_1) code maxLocals ret e s m #[(.int p2135), (.int p2136), (.int p2137)] below meth c s₁) (hZ : Z.Warmed39 s.vm) (hml : c.maxLocals = 11) {T0 : State} {locs0 : List Loc} (X0 : Stand p l e room_1 s m #[(.int p2135), (.int p2136), (.int p2137)] below meth c T0 locs0 8 120) (h0 : Heap) (e0 : T0.heap = h0) (n0 : Nat) (O0 : Old Z n0 h0) (N0 : Fr n0 locs0) (pF_a2133_length : Fld Z h0 a2133 zs1 "length" "I" (.int (5 : Int32))) (pF_a2133_first : Fld Z h0 a2133 zs1 "first" "[I" (.ref a2139)) (pV_a2139 : Arv Z h0 a2139 k2147 .int (16 : Int32) [(.int p2140), (.int p2134), (.int p2141), (.int p2142), (.int p2143), (.int p2144), (.int p2145), (.int p2146)] (.int (0 : Int32))) (pG_a2139 : n0 ≤ a2139) (pE_a2139 : Exa Z h0 a2139 "[I") (pE_a2133 : Exa Z h0 a2133 zs1) (pN_a2133_a2139 : a2133 ≠ a2139) (pF_a2133_text : Fld Z h0 a2133 zs1 "text" "[B" (.ref a2132)) (pC2152 : ¬ (p2134 < (0 : Int32))) (pC2153 : p2134 < (2 : Int32)) (pV_a2132 : Arv Z h0 a2132 k2138 .byte (4 : Int32) [(.int (123 : Int32)), (.int (91 : Int32)), (.int (49 : Int32)), (.int (110 : Int32))] (.int (0 : Int32))) (pN_a2132_a2139 : a2132 ≠ a2139) (pC2156 : ¬ (p2128 < (0 : Int32))) :
    own_Goes p e below (T0.setTop (mkF m 141 #[iv p2129, iv p2130, iv p2131, rv a2132, rv a2133, iv (1 : Int32), iv p2134, iv (1 : Int32), iv (1 : Int32), iv p2128, iv (1 : Int32)] [])) (own_G s below n0) := by
  have hx := Bd.exec
  have hby := Bd.bytes
  have hown : s.vm.findClass zs2 = some m.cls := findClass_of_methodNamed Bd.named
  have hnm := (name_of_methodNamed Bd.named Bd.method).1
  show own_Goes p e below (T0.setTop (mkF m 141 #[iv p2129, iv p2130, iv p2131, rv a2132, rv a2133, iv (1 : Int32), iv p2134, iv (1 : Int32), iv (1 : Int32), iv p2128, iv (1 : Int32)] [])) _
  refine own_via (fun t k => XS.aload X0.here hx rfl (hb hby at_141) rfl rfl (XS.iload X0.here hx rfl (hb hby at_143) rfl (XS.iload X0.here hx rfl (hb hby at_145) rfl (XS.iload X0.here hx rfl (hb hby at_147) rfl k)))) ?_
  show own_Goes p e below (T0.setTop (mkF m 149 #[iv p2129, iv p2130, iv p2131, rv a2132, rv a2133, iv (1 : Int32), iv p2134, iv (1 : Int32), iv (1 : Int32), iv p2128, iv (1 : Int32)] [(.int (1 : Int32)), (.int p2128), (.int (1 : Int32)), (.ref a2133)])) _
  obtain ⟨_, T2160, _, X2160, hQ2160, st2160⟩ := own_cv X0 hx hZ hown (wd hw 41 rfl) (wd hw 42 rfl) (wd hw 44 rfl) (wd hw 43 rfl) (wd hw 45 rfl) (wd hw 3 rfl) (by decide) (rm32 l Z a0 hw [] a2133 p2128 (5 : Int32) a2139 k2147 p2140 p2134 p2141 p2142 p2143 p2144 p2145 p2146 h0 n0 O0 pF_a2133_length pF_a2133_first pV_a2139 pG_a2139 pE_a2139 pE_a2133 pN_a2133_a2139) e0 pE_a2133 (g := (mkF m 149 #[iv p2129, iv p2130, iv p2131, rv a2132, rv a2133, iv (1 : Int32), iv p2134, iv (1 : Int32), iv (1 : Int32), iv p2128, iv (1 : Int32)] [(.int (1 : Int32)), (.int p2128), (.int (1 : Int32)), (.ref a2133)])) rfl (by rw [hml]; rfl) (rest := []) (W := 0) (lenOf pd_5 rfl) rfl (by show 2 * 0 + _ ≤ _; exact Nat.le_of_eq rfl) (hb hby at_149) (by decide) (by decide) (by decide) (by decide)
  obtain ⟨h2160, e2160⟩ : ∃ z, T2160.heap = z := ⟨_, rfl⟩
  rw [e2160] at hQ2160
  obtain ⟨rfl, Nq2160, K2160, ex2161, vx2162⟩ := hQ2160
  have N2160 := Fr.app N0 Nq2160
  refine own_via (fun t k => st2160 t (XS.iload X2160.here hx rfl (hb hby at_152) rfl (XS.iload X2160.here hx rfl (hb hby at_154) rfl (XS.icmpNo X2160.here hx rfl (hb hby at_156) rfl (teq (by decide : (1 : Int32) = (1 : Int32))).2 (XS.aload X2160.here hx rfl (hb hby at_159) rfl rfl (XS.iload X2160.here hx rfl (hb hby at_161) rfl k)))))) ?_
  show own_Goes p e below (T2160.setTop (mkF m 163 #[iv p2129, iv p2130, iv p2131, rv a2132, rv a2133, iv (1 : Int32), iv p2134, iv (1 : Int32), iv (1 : Int32), iv p2128, iv (1 : Int32)] [(.int (1 : Int32)), (.ref a2133)])) _
  have F2164 : Fld Z h2160 a2133 zs1 "first" "[I" (.ref a2139) := (pF_a2133_first.keep K2160 (ninS pN_a2133_a2139 nin0))
  have E2165 : Exa Z h2160 a2133 zs1 := (pE_a2133.keep K2160)
  have O2166 : Old Z n0 h2160 := (O0.keep K2160 (allS pG_a2139 all0))
  obtain ⟨_, T2163, _, X2163, hQ2163, st2163⟩ := own_cv X2160 hx hZ hown (wd hw 50 rfl) (wd hw 51 rfl) (wd hw 53 rfl) (wd hw 52 rfl) (wd hw 54 rfl) (wd hw 3 rfl) (by decide) (rm27 l Z a0 hw [] a2133 a2139 k2147 p2140 p2134 (5 : Int32) ((p2128 <<< ((1 : Int32) &&& 31)) ||| (1 : Int32)) p2143 p2144 p2145 p2146 h2160 n0 O2166 F2164 vx2162 E2165) e2160 E2165 (g := (mkF m 163 #[iv p2129, iv p2130, iv p2131, rv a2132, rv a2133, iv (1 : Int32), iv p2134, iv (1 : Int32), iv (1 : Int32), iv p2128, iv (1 : Int32)] [(.int (1 : Int32)), (.ref a2133)])) rfl (by rw [hml]; rfl) (rest := []) (W := 0) (lenOf pd_3 rfl) rfl (by show 2 * 0 + _ ≤ _; exact Nat.le_of_eq rfl) (hb hby at_163) (by decide) (by decide) (by decide) (by decide)
  obtain ⟨rfl, Nq2163, hh2167⟩ := hQ2163
  have N2163 := Fr.app N2160 Nq2163
  refine own_via (fun t k => st2163 t (XS.iload X2163.here hx rfl (hb hby at_166) rfl (XS.icmpNo X2163.here hx rfl (hb hby at_168) rfl (teq (rfl : p2134 = p2134)).2 (XS.aload X2163.here hx rfl (hb hby at_171) rfl rfl (XS.iload X2163.here hx rfl (hb hby at_173) rfl k))))) ?_
  show own_Goes p e below (T2163.setTop (mkF m 175 #[iv p2129, iv p2130, iv p2131, rv a2132, rv a2133, iv (1 : Int32), iv p2134, iv (1 : Int32), iv (1 : Int32), iv p2128, iv (1 : Int32)] [(.int (1 : Int32)), (.ref a2133)])) _
  have F2169 : Fld Z h2160 a2133 zs1 "text" "[B" (.ref a2132) := (pF_a2133_text.keep K2160 (ninS pN_a2133_a2139 nin0))
  have V2170 : Arv Z h2160 a2132 k2138 .byte (4 : Int32) [(.int (123 : Int32)), (.int (91 : Int32)), (.int (49 : Int32)), (.int (110 : Int32))] (.int (0 : Int32)) := (pV_a2132.keep K2160 (ninS pN_a2132_a2139 nin0))
  obtain ⟨_, T2168, _, X2168, hQ2168, st2168⟩ := own_cv X2163 hx hZ hown (wd hw 59 rfl) (wd hw 60 rfl) (wd hw 62 rfl) (wd hw 61 rfl) (wd hw 63 rfl) (wd hw 3 rfl) (by decide) (rm28 l Z a0 hw [] a2133 a2132 a2139 k2147 p2140 p2134 (5 : Int32) ((p2128 <<< ((1 : Int32) &&& 31)) ||| (1 : Int32)) p2143 p2144 p2145 p2146 k2138 (49 : Int32) (110 : Int32) h2160 n0 O2166 F2169 F2164 vx2162 E2165 pC2152 pC2153 V2170) hh2167 E2165 (g := (mkF m 175 #[iv p2129, iv p2130, iv p2131, rv a2132, rv a2133, iv (1 : Int32), iv p2134, iv (1 : Int32), iv (1 : Int32), iv p2128, iv (1 : Int32)] [(.int (1 : Int32)), (.ref a2133)])) rfl (by rw [hml]; rfl) (rest := []) (W := 0) (lenOf pd_3 rfl) rfl (by show 2 * 0 + _ ≤ _; exact Nat.le_of_eq rfl) (hb hby at_175) (by decide) (by decide) (by decide) (by decide)
  obtain ⟨rfl, Nq2168, hh2171⟩ := hQ2168
  have N2168 := Fr.app N2163 Nq2168
  refine own_via (fun t k => st2168 t (XS.iload X2168.here hx rfl (hb hby at_178) rfl (XS.iconst X2168.here hx rfl (hb hby at_180) (XS.iadd X2168.here hx rfl (hb hby at_181) rfl (XS.iload X2168.here hx rfl (hb hby at_182) rfl (XS.iadd X2168.here hx rfl (hb hby at_184) rfl (XS.icmpNo X2168.here hx rfl (hb hby at_185) rfl (teq (by decide : (5 : Int32) = (5 : Int32))).2 (XS.aload X2168.here hx rfl (hb hby at_188) rfl rfl (XS.iload X2168.here hx rfl (hb hby at_190) rfl k))))))))) ?_
  show own_Goes p e below (T2168.setTop (mkF m 192 #[iv p2129, iv p2130, iv p2131, rv a2132, rv a2133, iv (1 : Int32), iv p2134, iv (1 : Int32), iv (1 : Int32), iv p2128, iv (1 : Int32)] [(.int (1 : Int32)), (.ref a2133)])) _
  obtain ⟨_, T2172, _, X2172, hQ2172, st2172⟩ := own_cv X2168 hx hZ hown (wd hw 64 rfl) (wd hw 65 rfl) (wd hw 67 rfl) (wd hw 66 rfl) (wd hw 68 rfl) (wd hw 3 rfl) (by decide) (rm30 l Z a0 hw [] a2133 a2139 k2147 p2140 p2134 (5 : Int32) ((p2128 <<< ((1 : Int32) &&& 31)) ||| (1 : Int32)) p2143 p2144 p2145 p2146 h2160 n0 O2166 F2164 vx2162 E2165) hh2171 E2165 (g := (mkF m 192 #[iv p2129, iv p2130, iv p2131, rv a2132, rv a2133, iv (1 : Int32), iv p2134, iv (1 : Int32), iv (1 : Int32), iv p2128, iv (1 : Int32)] [(.int (1 : Int32)), (.ref a2133)])) rfl (by rw [hml]; rfl) (rest := []) (W := 0) (lenOf pd_3 rfl) rfl (by show 2 * 0 + _ ≤ _; exact Nat.le_of_eq rfl) (hb hby at_192) (by decide) (by decide) (by decide) (by decide)
  obtain ⟨rfl, Nq2172, hh2173⟩ := hQ2172
  have N2172 := Fr.app N2168 Nq2172
  refine own_via (fun t k => st2172 t (XS.iload X2172.here hx rfl (hb hby at_195) rfl (XS.icmpNo X2172.here hx rfl (hb hby at_197) rfl (teq (own_cnt p2128 1 pC2156 (by decide))).2 (XS.aload X2172.here hx rfl (hb hby at_200) rfl rfl (XS.iload X2172.here hx rfl (hb hby at_202) rfl k))))) ?_
  show own_Goes p e below (T2172.setTop (mkF m 204 #[iv p2129, iv p2130, iv p2131, rv a2132, rv a2133, iv (1 : Int32), iv p2134, iv (1 : Int32), iv (1 : Int32), iv p2128, iv (1 : Int32)] [(.int (1 : Int32)), (.ref a2133)])) _
  obtain ⟨_, T2174, _, X2174, hQ2174, st2174⟩ := own_cv X2172 hx hZ hown (wd hw 69 rfl) (wd hw 70 rfl) (wd hw 72 rfl) (wd hw 71 rfl) (wd hw 73 rfl) (wd hw 3 rfl) (by decide) (rm33 l Z a0 hw [] a2133 a2139 k2147 p2140 p2134 (5 : Int32) ((p2128 <<< ((1 : Int32) &&& 31)) ||| (1 : Int32)) p2143 p2144 p2145 p2146 h2160 n0 O2166 F2164 vx2162 E2165 (own_rep1 p2128)) hh2173 E2165 (g := (mkF m 204 #[iv p2129, iv p2130, iv p2131, rv a2132, rv a2133, iv (1 : Int32), iv p2134, iv (1 : Int32), iv (1 : Int32), iv p2128, iv (1 : Int32)] [(.int (1 : Int32)), (.ref a2133)])) rfl (by rw [hml]; rfl) (rest := []) (W := 0) (lenOf pd_6 rfl) rfl (by show 2 * 0 + _ ≤ _; exact Nat.le_of_eq rfl) (hb hby at_204) (by decide) (by decide) (by decide) (by decide)
  obtain ⟨rfl, Nq2174, hh2175⟩ := hQ2174
  have N2174 := Fr.app N2172 Nq2174
  refine own_via (fun t k => st2174 t (XS.iload X2174.here hx rfl (hb hby at_207) rfl (XS.icmpNo X2174.here hx rfl (hb hby at_209) rfl (teq (by decide : (1 : Int32) = (1 : Int32))).2 (XS.iconst X2174.here hx rfl (hb hby at_212) (XS.goto X2174.here hx rfl (pc0 := 213) (pc' := 217) rfl (hb hby at_213) (by decide) (by decide) k))))) ?_
  show own_Goes p e below (T2174.setTop (mkF m 217 #[iv p2129, iv p2130, iv p2131, rv a2132, rv a2133, iv (1 : Int32), iv p2134, iv (1 : Int32), iv (1 : Int32), iv p2128, iv (1 : Int32)] [(.int (1 : Int32))])) _
  obtain ⟨fs, hr, hrun, hended, hW, hsame⟩ := X2174.leave (v := some (.int (1 : Int32))) (fun h => by rw [Bd.returns] at h; cases h)
  refine own_end (t := T2174.setFrames fs) ?_ ⟨_, hrun, hended, _, _, rfl, ?_, ⟨_, rfl⟩, hW, hsame.mono (by decide) (by decide)⟩
  · exact retN X2174 hx (t := .boolean) Bd.returns (by simp) (hb hby at_217) hr
  · exact ⟨rfl, N2174⟩
set_option maxRecDepth 65536 in
set_option maxHeartbeats 40000000 in
theorem sfx18 (l : Launch) (Z : State) (a0 : Array Value) (hw : ∀ d ∈ tables_1, d.before a0 Z = true) (ws : List Jvm.Cond) {p : Program} {e : Env} {s : State} {m : MethodId} {below : List Frame} {meth : Method} {c : Code} {s₁ : State} (p2058 : Int32) (p2059 : Int32) (p2060 : Int32) (p2052 : Int32) (p2053 : Int32) (p2054 : Int32) (a2055 : Addr) (a2056 : Addr) (p2057 : Int32) (a2062 : Addr) (k2070 : ClassId) (p2063 : Int32) (p2064 : Int32) (p2065 : Int32) (p2066 : Int32) (p2067 : Int32) (p2068 : Int32) (p2069 : Int32) (k2061 : ClassId) (Bd : BodyLoose p l x (head1 (Jvm.Cond.code x code maxLocals ret :: ws) room_1) code maxLocals ret e s m #[(.int p2058), (.int p2059), (.int p2060)] below meth c s₁) (hZ : Z.Warmed39 s.vm) (hml : c.maxLocals = 11) {T0 : State} {locs0 : List Loc} (X0 : Stand p l e room_1 s m #[(.int p2058), (.int p2059), (.int p2060)] below meth c T0 locs0 8 120) (h0 : Heap) (e0 : T0.heap = h0) (n0 : Nat) (O0 : Old Z n0 h0) (N0 : Fr n0 locs0) (pF_a2056_length : Fld Z h0 a2056 zs1 "length" "I" (.int (5 : Int32))) (pF_a2056_first : Fld Z h0 a2056 zs1 "first" "[I" (.ref a2062)) (pV_a2062 : Arv Z h0 a2062 k2070 .int (16 : Int32) [(.int p2063), (.int p2057), (.int p2064), (.int p2065), (.int p2066), (.int p2067), (.int p2068), (.int p2069)] (.int (0 : Int32))) (pG_a2062 : n0 ≤ a2062) (pE_a2062 : Exa Z h0 a2062 "[I") (pE_a2056 : Exa Z h0 a2056 zs1) (pN_a2056_a2062 : a2056 ≠ a2062) (pF_a2056_text : Fld Z h0 a2056 zs1 "text" "[B" (.ref a2055)) (pC2075 : ¬ (p2057 < (0 : Int32))) (pC2076 : p2057 < (2 : Int32)) (pV_a2055 : Arv Z h0 a2055 k2061 .byte (4 : Int32) [(.int (123 : Int32)), (.int (91 : Int32)), (.int (49 : Int32)), (.int (110 : Int32))] (.int (0 : Int32))) (pN_a2055_a2062 : a2055 ≠ a2062) :
    own_Goes p e below (T0.setTop (mkF m 122 #[iv p2052, iv p2053, iv p2054, rv a2055, rv a2056, iv (1 : Int32), iv p2057, iv (1 : Int32), iv (1 : Int32), .unset, .unset] [])) (own_G s below n0) := by
  have hx := Bd.exec
  have hby := Bd.bytes
  have hown : s.vm.findClass zs2 = some m.cls := findClass_of_methodNamed Bd.named
  have hnm := (name_of_methodNamed Bd.named Bd.method).1
  show own_Goes p e below (T0.setTop (mkF m 122 #[iv p2052, iv p2053, iv p2054, rv a2055, rv a2056, iv (1 : Int32), iv p2057, iv (1 : Int32), iv (1 : Int32), .unset, .unset] [])) _
  refine own_via (fun t k => XS.iloadN X0.here hx rfl (hb hby at_122) rfl (X0.ldcInt hx hown (mvT hZ (wd hw 40 rfl)) (g := (mkF m 123 #[iv p2052, iv p2053, iv p2054, rv a2055, rv a2056, iv (1 : Int32), iv p2057, iv (1 : Int32), iv (1 : Int32), .unset, .unset] [(.int p2053)])) rfl (hb hby at_123) t (XS.iand X0.here hx rfl (hb hby at_125) rfl (XS.istore X0.here hx rfl (hb hby at_126) rfl (l' := #[iv p2052, iv p2053, iv p2054, rv a2055, rv a2056, iv (1 : Int32), iv p2057, iv (1 : Int32), iv (1 : Int32), iv (p2053 &&& (2147483647 : Int32)), .unset]) rfl (XS.iloadN X0.here hx rfl (hb hby at_128) rfl (XS.iconst X0.here hx rfl (hb hby at_129) (XS.iand X0.here hx rfl (hb hby at_130) rfl k))))))) ?_
  show own_Goes p e below (T0.setTop (mkF m 131 #[iv p2052, iv p2053, iv p2054, rv a2055, rv a2056, iv (1 : Int32), iv p2057, iv (1 : Int32), iv (1 : Int32), iv (p2053 &&& (2147483647 : Int32)), .unset] [(.int (p2054 &&& (1 : Int32)))])) _
  by_cases hc2079 : (p2054 &&& (1 : Int32)) = (0 : Int32)
  · refine own_via (fun t k => XS.ifYes X0.here hx rfl (pc0 := 131) (pc' := 138) rfl (hb hby at_131) rfl ((if0 _ _).trans (teq hc2079).1) (by decide) (by decide) (XS.iconst X0.here hx rfl (hb hby at_138) (XS.istore X0.here hx rfl (hb hby at_139) rfl (l' := #[iv p2052, iv p2053, iv p2054, rv a2055, rv a2056, iv (1 : Int32), iv p2057, iv (1 : Int32), iv (1 : Int32), iv (p2053 &&& (2147483647 : Int32)), iv (0 : Int32)]) rfl k))) ?_
    show own_Goes p e below (T0.setTop (mkF m 141 #[iv p2052, iv p2053, iv p2054, rv a2055, rv a2056, iv (1 : Int32), iv p2057, iv (1 : Int32), iv (1 : Int32), iv (p2053 &&& (2147483647 : Int32)), iv (0 : Int32)] [])) _
    exact sfx16 l Z a0 hw ws p2058 p2059 p2060 p2052 p2053 p2054 a2055 a2056 p2057 (p2053 &&& (2147483647 : Int32)) a2062 k2070 p2063 p2064 p2065 p2066 p2067 p2068 p2069 k2061 Bd hZ hml X0 h0 e0 n0 O0 N0 pF_a2056_length pF_a2056_first pV_a2062 pG_a2062 pE_a2062 pE_a2056 pN_a2056_a2062 pF_a2056_text pC2075 pC2076 pV_a2055 pN_a2055_a2062 (own_nn_mask p2053 (2147483647 : Int32) 31 (by decide) (by decide))
  · refine own_via (fun t k => XS.ifNo X0.here hx rfl (hb hby at_131) rfl ((if0 _ _).trans (feq hc2079).1) (XS.iconst X0.here hx rfl (hb hby at_134) (XS.goto X0.here hx rfl (pc0 := 135) (pc' := 139) rfl (hb hby at_135) (by decide) (by decide) (XS.istore X0.here hx rfl (hb hby at_139) rfl (l' := #[iv p2052, iv p2053, iv p2054, rv a2055, rv a2056, iv (1 : Int32), iv p2057, iv (1 : Int32), iv (1 : Int32), iv (p2053 &&& (2147483647 : Int32)), iv (1 : Int32)]) rfl k)))) ?_
    show own_Goes p e below (T0.setTop (mkF m 141 #[iv p2052, iv p2053, iv p2054, rv a2055, rv a2056, iv (1 : Int32), iv p2057, iv (1 : Int32), iv (1 : Int32), iv (p2053 &&& (2147483647 : Int32)), iv (1 : Int32)] [])) _
    exact sfx17 l Z a0 hw ws p2058 p2059 p2060 p2052 p2053 p2054 a2055 a2056 p2057 (p2053 &&& (2147483647 : Int32)) a2062 k2070 p2063 p2064 p2065 p2066 p2067 p2068 p2069 k2061 Bd hZ hml X0 h0 e0 n0 O0 N0 pF_a2056_length pF_a2056_first pV_a2062 pG_a2062 pE_a2062 pE_a2056 pN_a2056_a2062 pF_a2056_text pC2075 pC2076 pV_a2055 pN_a2055_a2062 (own_nn_mask p2053 (2147483647 : Int32) 31 (by decide) (by decide))
set_option maxRecDepth 65536 in
set_option maxHeartbeats 40000000 in
theorem sfx19 (l : Launch) (Z : State) (a0 : Array Value) (hw : ∀ d ∈ tables_1, d.before a0 Z = true) (ws : List Jvm.Cond) {p : Program} {e : Env} {s : State} {m : MethodId} {below : List Frame} {meth : Method} {c : Code} {s₁ : State} (p1558 : Int32) (p1559 : Int32) (p1560 : Int32) (p1553 : Int32) (p1554 : Int32) (p1555 : Int32) (a1556 : Addr) (a1557 : Addr) (p1552 : Int32) (a1562 : Addr) (k1570 : ClassId) (p1563 : Int32) (p1564 : Int32) (p1565 : Int32) (p1566 : Int32) (p1567 : Int32) (p1568 : Int32) (p1569 : Int32) (k1561 : ClassId) (Bd : BodyLoose p l x (head1 (Jvm.Cond.code x code maxLocals ret :: ws) room_1) code maxLocals ret e s m #[(.int p1558), (.int p1559), (.int p1560)] below meth c s₁) (hZ : Z.Warmed39 s.vm) (hml : c.maxLocals = 11) {T0 : State} {locs0 : List Loc} (X0 : Stand p l e room_1 s m #[(.int p1558), (.int p1559), (.int p1560)] below meth c T0 locs0 8 120) (h0 : Heap) (e0 : T0.heap = h0) (n0 : Nat) (O0 : Old Z n0 h0) (N0 : Fr n0 locs0) (pF_a1557_length : Fld Z h0 a1557 zs1 "length" "I" (.int (4 : Int32))) (pF_a1557_first : Fld Z h0 a1557 zs1 "first" "[I" (.ref a1562)) (pV_a1562 : Arv Z h0 a1562 k1570 .int (16 : Int32) [(.int p1563), (.int p1552), (.int p1564), (.int p1565), (.int p1566), (.int p1567), (.int p1568), (.int p1569)] (.int (0 : Int32))) (pG_a1562 : n0 ≤ a1562) (pE_a1562 : Exa Z h0 a1562 "[I") (pE_a1557 : Exa Z h0 a1557 zs1) (pN_a1557_a1562 : a1557 ≠ a1562) (pF_a1557_text : Fld Z h0 a1557 zs1 "text" "[B" (.ref a1556)) (pC1575 : ¬ (p1552 < (0 : Int32))) (pC1576 : p1552 < (2 : Int32)) (pV_a1556 : Arv Z h0 a1556 k1561 .byte (4 : Int32) [(.int (123 : Int32)), (.int (91 : Int32)), (.int (49 : Int32)), (.int (110 : Int32))] (.int (0 : Int32))) (pN_a1556_a1562 : a1556 ≠ a1562) (pL_a1562 : own_Len Z h0 a1562 .int (16 : Int32)) (pG_a1557 : n0 ≤ a1557) (pN_a1556_a1557 : a1556 ≠ a1557) :
    own_Goes p e below (T0.setTop (mkF m 105 #[iv p1553, iv p1554, iv p1555, rv a1556, rv a1557, iv (1 : Int32), iv p1552, iv (1 : Int32), iv (0 : Int32), .unset, .unset] [])) (own_G s below n0) := by
  have hx := Bd.exec
  have hby := Bd.bytes
  have hown : s.vm.findClass zs2 = some m.cls := findClass_of_methodNamed Bd.named
  have hnm := (name_of_methodNamed Bd.named Bd.method).1
  show own_Goes p e below (T0.setTop (mkF m 105 #[iv p1553, iv p1554, iv p1555, rv a1556, rv a1557, iv (1 : Int32), iv p1552, iv (1 : Int32), iv (0 : Int32), .unset, .unset] [])) _
  refine own_via (fun t k => XS.iloadN X0.here hx rfl (hb hby at_105) rfl (XS.bipush X0.here hx rfl (hb hby at_106) (XS.iand X0.here hx rfl (hb hby at_108) rfl k))) ?_
  show own_Goes p e below (T0.setTop (mkF m 109 #[iv p1553, iv p1554, iv p1555, rv a1556, rv a1557, iv (1 : Int32), iv p1552, iv (1 : Int32), iv (0 : Int32), .unset, .unset] [(.int (p1553 &&& (16 : Int32)))])) _
  by_cases hc1578 : (p1553 &&& (16 : Int32)) = (0 : Int32)
  · refine own_via (fun t k => XS.ifYes X0.here hx rfl (pc0 := 109) (pc' := 122) rfl (hb hby at_109) rfl ((if0 _ _).trans (teq hc1578).1) (by decide) (by decide) k) ?_
    exact sfx15 l Z a0 hw ws p1558 p1559 p1560 p1553 p1554 p1555 a1556 a1557 p1552 a1562 k1570 p1563 p1564 p1565 p1566 p1567 p1568 p1569 k1561 Bd hZ hml X0 h0 e0 n0 O0 N0 pF_a1557_length pF_a1557_first pV_a1562 pG_a1562 pE_a1562 pE_a1557 pN_a1557_a1562 pF_a1557_text pC1575 pC1576 pV_a1556 pN_a1556_a1562
  · refine own_via (fun t k => XS.ifNo X0.here hx rfl (hb hby at_109) rfl ((if0 _ _).trans (feq hc1578).1) (XS.aload X0.here hx rfl (hb hby at_112) rfl rfl (XS.iconst X0.here hx rfl (hb hby at_114) k))) ?_
    show own_Goes p e below (T0.setTop (mkF m 115 #[iv p1553, iv p1554, iv p1555, rv a1556, rv a1557, iv (1 : Int32), iv p1552, iv (1 : Int32), iv (0 : Int32), .unset, .unset] [(.int (3 : Int32)), (.ref a1557)])) _
    obtain ⟨_, T2045, _, X2045, hQ2045, st2045⟩ := own_cv X0 hx hZ hown (wd hw 74 rfl) (wd hw 34 rfl) (wd hw 36 rfl) (wd hw 35 rfl) (wd hw 37 rfl) (wd hw 3 rfl) (by decide) (rm20 l Z a0 hw [] a1557 a1562 k1570 p1563 p1552 p1564 p1565 p1566 p1567 p1568 p1569 a1556 h0 n0 O0 pF_a1557_length pF_a1557_first pL_a1562 pV_a1562 pG_a1562 pN_a1557_a1562 pE_a1557 pG_a1557 pE_a1562 pF_a1557_text) e0 pE_a1557 (g := (mkF m 115 #[iv p1553, iv p1554, iv p1555, rv a1556, rv a1557, iv (1 : Int32), iv p1552, iv (1 : Int32), iv (0 : Int32), .unset, .unset] [(.int (3 : Int32)), (.ref a1557)])) rfl (by rw [hml]; rfl) (rest := []) (W := 0) (lenOf pd_3 rfl) rfl (by show 2 * 0 + _ ≤ _; exact Nat.le_of_eq rfl) (hb hby at_115) (by decide) (by decide) (by decide) (by decide)
    obtain ⟨h2045, e2045⟩ : ∃ z, T2045.heap = z := ⟨_, rfl⟩
    rw [e2045] at hQ2045
    obtain ⟨rfl, Nq2045, K2045, ex2046, vx2047, ex2048, fx2049, fx2050, fx2051⟩ := hQ2045
    have N2045 := Fr.app N0 Nq2045
    refine own_via (fun t k => st2045 t (XS.pop X2045.here hx rfl (hb hby at_118) rfl rfl (XS.iinc X2045.here hx rfl (hb hby at_119) rfl (l' := #[iv p1553, iv p1554, iv p1555, rv a1556, rv a1557, iv (1 : Int32), iv p1552, iv (1 : Int32), iv (1 : Int32), .unset, .unset]) rfl k))) ?_
    show own_Goes p e below (T2045.setTop (mkF m 122 #[iv p1553, iv p1554, iv p1555, rv a1556, rv a1557, iv (1 : Int32), iv p1552, iv (1 : Int32), iv (1 : Int32), .unset, .unset] [])) _
    have V2176 : Arv Z h2045 a1556 k1561 .byte (4 : Int32) [(.int (123 : Int32)), (.int (91 : Int32)), (.int (49 : Int32)), (.int (110 : Int32))] (.int (0 : Int32)) := (pV_a1556.keep K2045 (ninS pN_a1556_a1562 (ninS pN_a1556_a1557 nin0)))
    have O2177 : Old Z n0 h2045 := (O0.keep K2045 (allS pG_a1562 (allS pG_a1557 all0)))
    exact sfx18 l Z a0 hw ws p1558 p1559 p1560 p1553 p1554 p1555 a1556 a1557 p1552 a1562 k1570 p1563 p1564 p1565 (3 : Int32) p1567 p1568 p1569 k1561 Bd hZ hml X2045 h2045 e2045 n0 O2177 N2045 fx2051 fx2050 vx2047 pG_a1562 ex2046 ex2048 pN_a1557_a1562 fx2049 pC1575 pC1576 V2176 pN_a1556_a1562
def Q34 (Z : State) (a2218 : Addr) (a2225 : Addr) (k2234 : ClassId) (p2226 : Int32) (p2227 : Int32) (p2228 : Int32) (p2229 : Int32) (p2230 : Int32) (p2231 : Int32) (p2232 : Int32) (p2233 : Int32) (a2219 : Addr) (h0 : Heap) (n0 : Nat) (v : Option Value) (h : Heap) (L : List Loc) : Prop := v = some (.int (5 : Int32)) ∧ Fr n0 L ∧ Keep h0 h [a2225, a2218] ∧ Exa Z h a2225 "[I" ∧ Arv Z h a2225 k2234 .int (16 : Int32) [(.int p2226), (.int p2227), (.int p2228), (.int p2229), (.int p2230), (.int (3 : Int32)), (.int p2232), (.int p2233)] (.int (0 : Int32)) ∧ Exa Z h a2218 zs1 ∧ Fld Z h a2218 zs1 "text" "[B" (.ref a2219) ∧ Fld Z h a2218 zs1 "first" "[I" (.ref a2225) ∧ Fld Z h a2218 zs1 "length" "I" (.int (6 : Int32))
set_option maxRecDepth 65536 in
set_option maxHeartbeats 40000000 in
theorem rm34 (l : Launch) (Z : State) (a0 : Array Value) (hw : ∀ d ∈ tables_1, d.before a0 Z = true) (ws : List Jvm.Cond) (a2218 : Addr) (a2225 : Addr) (k2234 : ClassId) (p2226 : Int32) (p2227 : Int32) (p2228 : Int32) (p2229 : Int32) (p2230 : Int32) (p2231 : Int32) (p2232 : Int32) (p2233 : Int32) (a2219 : Addr) (h0 : Heap) (n0 : Nat) (O0 : Old Z n0 h0) (pF_a2218_length : Fld Z h0 a2218 zs1 "length" "I" (.int (5 : Int32))) (pF_a2218_first : Fld Z h0 a2218 zs1 "first" "[I" (.ref a2225)) (pL_a2225 : own_Len Z h0 a2225 .int (16 : Int32)) (pV_a2225 : Arv Z h0 a2225 k2234 .int (16 : Int32) [(.int p2226), (.int p2227), (.int p2228), (.int p2229), (.int p2230), (.int p2231), (.int p2232), (.int p2233)] (.int (0 : Int32))) (pG_a2225 : n0 ≤ a2225) (pN_a2218_a2225 : a2218 ≠ a2225) (pE_a2218 : Exa Z h0 a2218 zs1) (pG_a2218 : n0 ≤ a2218) (pE_a2225 : Exa Z h0 a2225 "[I") (pF_a2218_text : Fld Z h0 a2218 zs1 "text" "[B" (.ref a2219)) :
    MetFree l (⟨zs1, "add", "(I)I"⟩ : MethodName) (head1 (Jvm.Cond.code (⟨zs1, "add", "(I)I"⟩ : MethodName) prog_17_method_2_code 2 (some .int) :: ws) ({ frames := 0, cells := 0, slots := 0, locals := 0 } : Room)) (fun a U => a = #[(.ref a2218), (.int (3 : Int32))] ∧ Z.Warmed39 U.vm ∧ U.heap = h0) (fun _ _ _ _ _ => True) (fun _ U o U' => ∃ v L, o = .returned v ∧ Q34 Z a2218 a2225 k2234 p2226 p2227 p2228 p2229 p2230 p2231 p2232 p2233 a2219 h0 n0 v U'.heap L ∧ FrameEnd U o U' L ({ frames := 0, cells := 0, slots := 0, locals := 0 } : Room).cells ({ frames := 0, cells := 0, slots := 0, locals := 0 } : Room).slots) := by
  refine MetFree.of_bodySF (plainFor_of_name pn_1) hisR ?_
  intro p e s m args below meth c s₁ Bd hml0 hP hK
  obtain ⟨rfl, hZ, hh⟩ := hP
  have hx := Bd.exec
  have hby := Bd.bytes
  have hml : c.maxLocals = 2 := hml0
  have hown : s.vm.findClass zs1 = some m.cls := findClass_of_methodNamed Bd.named
  have hnm := (name_of_methodNamed Bd.named Bd.method).1
  have X0 : Stand p l e ({ frames := 0, cells := 0, slots := 0, locals := 0 } : Room) s m #[(.ref a2218), (.int (3 : Int32))] below meth c s₁ [] 0 0 := Stand.of_body Bd
  have e0 : s₁.heap = h0 := by rw [← hh, Bd.state]; rfl
  have N0 := Fr.nil n0
  refine own_out ?_
  refine own_via (fun t k => castTop (ef_3 m a2218 (3 : Int32)) (XS.aloadN X0.here hx rfl (hb hby d5_0) rfl rfl k)) ?_
  obtain ⟨T2244, X2244, e2244, st2244⟩ := getF X0 hx hZ hown (host := "") (Or.inl (wd hw 38 rfl)) Via.refl e0 pF_a2218_length (g := (mkF m 1 #[rv a2218, iv (3 : Int32)] [(.ref a2218)])) rfl rfl (hb hby d5_1)
  refine own_via (fun t k => st2244 t (XS.aloadN X2244.here hx rfl (hb hby d5_4) rfl rfl k)) ?_
  obtain ⟨T2245, X2245, e2245, st2245⟩ := getF X2244 hx hZ hown (host := "") (Or.inl (wd hw 25 rfl)) Via.refl e2244 pF_a2218_first (g := (mkF m 5 #[rv a2218, iv (3 : Int32)] [(.ref a2218), (.int (5 : Int32))])) rfl rfl (hb hby d5_5)
  refine own_via (fun t k => st2245 t k) ?_
  obtain ⟨_, _, _, V2246⟩ := id (pL_a2225)
  obtain ⟨cl2246, Ar2246, -, S2246, M2246, -, -⟩ := id (V2246)
  refine own_via (fun t k => X2245.arraylength hx (by rw [e2245]; exact Ar2246.1) (State.isArrayOf_alike hZ.alike Ar2246.2.1) (g := (mkF m 8 #[rv a2218, iv (3 : Int32)] [(.ref a2225), (.int (5 : Int32))])) rfl rfl (hb hby d5_8) t k) ?_
  rw [len_of S2246 M2246]
  show own_Goes p e below (T2245.setTop (mkF m 9 #[rv a2218, iv (3 : Int32)] [(.int (16 : Int32)), (.int (5 : Int32))])) _
  refine own_via (fun t k => XS.icmpNo X2245.here hx rfl (hb hby d5_9) rfl (tlt (by decide : (5 : Int32) < (16 : Int32))).2.1 (XS.aloadN X2245.here hx rfl (hb hby d5_12) rfl rfl k)) ?_
  obtain ⟨T2247, X2247, e2247, st2247⟩ := getF X2245 hx hZ hown (host := "") (Or.inl (wd hw 25 rfl)) Via.refl e2245 pF_a2218_first (g := (mkF m 13 #[rv a2218, iv (3 : Int32)] [(.ref a2218)])) rfl rfl (hb hby d5_13)
  refine own_via (fun t k => st2247 t (XS.aloadN X2247.here hx rfl (hb hby d5_16) rfl rfl k)) ?_
  obtain ⟨T2248, X2248, e2248, st2248⟩ := getF X2247 hx hZ hown (host := "") (Or.inl (wd hw 38 rfl)) Via.refl e2247 pF_a2218_length (g := (mkF m 17 #[rv a2218, iv (3 : Int32)] [(.ref a2218), (.ref a2225)])) rfl rfl (hb hby d5_17)
  refine own_via (fun t k => st2248 t (XS.iloadN X2248.here hx rfl (hb hby d5_20) rfl k)) ?_
  obtain ⟨cl2249, Ar2249, qq2249, S2249, M2249, H2249, G2249⟩ := id (pV_a2225)
  have hin2249 : ¬ ((5 : Int32) < 0 ∨ cl2249.slots.size ≤ ((5 : Int32)).toNatClampNeg) := inb_of S2249 ⟨by decide, by decide⟩
  obtain ⟨T2249, h2249, X2249, e2249, W2249, st2249⟩ := stI X2248 hx hZ e2248 Ar2249 (j := (5 : Int32)) hin2249 (g := (mkF m 21 #[rv a2218, iv (3 : Int32)] [(.int (3 : Int32)), (.int (5 : Int32)), (.ref a2225)])) rfl rfl (hb hby d5_21)
  refine own_via (fun t k => st2249 t k) ?_
  have V2250 : Arv Z h2249 a2225 k2234 .int (16 : Int32) [(.int p2226), (.int p2227), (.int p2228), (.int p2229), (.int p2230), (.int (3 : Int32)), (.int p2232), (.int p2233)] (.int (0 : Int32)) := Arv.set Ar2249 qq2249 S2249 M2249 H2249 G2249 rfl W2249 5 rfl (Nat.le_of_ble_eq_true rfl)
  have N2249 := Fr.snoc X2249 N0 pG_a2225
  show own_Goes p e below (T2249.setTop (mkF m 22 #[rv a2218, iv (3 : Int32)] [])) _
  refine own_via (fun t k => XS.aloadN X2249.here hx rfl (hb hby d5_22) rfl rfl (XS.dup X2249.here hx rfl (hb hby d5_23) rfl rfl k)) ?_
  have F2251 : Fld Z h2249 a2218 zs1 "length" "I" (.int (5 : Int32)) := (pF_a2218_length.other W2249 (Or.inl pN_a2218_a2225))
  obtain ⟨T2252, X2252, e2252, st2252⟩ := getF X2249 hx hZ hown (host := "") (Or.inl (wd hw 38 rfl)) Via.refl e2249 F2251 (g := (mkF m 24 #[rv a2218, iv (3 : Int32)] [(.ref a2218), (.ref a2218)])) rfl rfl (hb hby d5_24)
  refine own_via (fun t k => st2252 t (XS.dupX1 X2252.here hx rfl (hb hby d5_27) rfl rfl rfl (XS.iconst X2252.here hx rfl (hb hby d5_28) (XS.iadd X2252.here hx rfl (hb hby d5_29) rfl k)))) ?_
  show own_Goes p e below (T2252.setTop (mkF m 30 #[rv a2218, iv (3 : Int32)] [(.int (6 : Int32)), (.ref a2218), (.int (5 : Int32))])) _
  have E2253 : Exa Z h2249 a2218 zs1 := (pE_a2218.wr W2249)
  obtain ⟨T2254, h2254, X2254, e2254, W2254, st2254⟩ := putF X2252 hx hZ hown (host := "") (Or.inl (wd hw 38 rfl)) Via.refl e2252 F2251 E2253 (Or.inl (wd hw 39 rfl)) (wd hw 2 rfl) (ty := .int) (by decide) rfl rfl (g := (mkF m 30 #[rv a2218, iv (3 : Int32)] [(.int (6 : Int32)), (.ref a2218), (.int (5 : Int32))])) rfl rfl (hb hby d5_30)
  refine own_via (fun t k => st2254 t k) ?_
  have Fw2254 : Fld Z h2254 a2218 zs1 "length" "I" (.int (6 : Int32)) := F2251.same W2254
  have N2254 := Fr.snoc X2254 N2249 pG_a2218
  show own_Goes p e below (T2254.setTop (mkF m 33 #[rv a2218, iv (3 : Int32)] [(.int (5 : Int32))])) _
  obtain ⟨fs, hr, hrun, hended, hW, hsame⟩ := X2254.leave (v := some (.int (5 : Int32))) (fun h => by rw [Bd.returns] at h; cases h)
  refine own_end (t := T2254.setFrames fs) ?_ ⟨_, hrun, hended, _, _, rfl, ?_, ⟨_, rfl⟩, hW, hsame.mono (by decide) (by decide)⟩
  · exact retI X2254 hx Bd.returns (hb hby d5_33) hr
  have E2255 : Exa Z h2254 a2225 "[I" := ((pE_a2225.wr W2249).wr W2254)
  have V2256 : Arv Z h2254 a2225 k2234 .int (16 : Int32) [(.int p2226), (.int p2227), (.int p2228), (.int p2229), (.int p2230), (.int (3 : Int32)), (.int p2232), (.int p2233)] (.int (0 : Int32)) := (V2250.other W2254 (Ne.symm pN_a2218_a2225))
  have E2257 : Exa Z h2254 a2218 zs1 := (E2253.wr W2254)
  have F2258 : Fld Z h2254 a2218 zs1 "text" "[B" (.ref a2219) := ((pF_a2218_text.other W2249 (Or.inl pN_a2218_a2225)).other W2254 (Or.inr (slot_ne (Or.inr (wd hw 19 rfl)) (Or.inl (wd hw 39 rfl)) (by decide) (t := (.array .byte)) (t' := .int) (by decide) (by decide))))
  have F2259 : Fld Z h2254 a2218 zs1 "first" "[I" (.ref a2225) := ((pF_a2218_first.other W2249 (Or.inl pN_a2218_a2225)).other W2254 (Or.inr (slot_ne (Or.inl (wd hw 26 rfl)) (Or.inl (wd hw 39 rfl)) (by decide) (t := (.array .int)) (t' := .int) (by decide) (by decide))))
  · show Q34 Z a2218 a2225 k2234 p2226 p2227 p2228 p2229 p2230 p2231 p2232 p2233 a2219 h0 n0 _ T2254.heap _
    rw [e2254]
    exact ⟨rfl, N2254, (((Keep.refl h0 [a2225, a2218]).wr W2249 (Or.inl (List.mem_of_getElem? (i := 0) rfl))).wr W2254 (Or.inl (List.mem_of_getElem? (i := 1) rfl))), E2255, V2256, E2257, F2258, F2259, Fw2254⟩
set_option maxRecDepth 65536 in
set_option maxHeartbeats 40000000 in
theorem sfx20 (l : Launch) (Z : State) (a0 : Array Value) (hw : ∀ d ∈ tables_1, d.before a0 Z = true) (ws : List Jvm.Cond) {p : Program} {e : Env} {s : State} {m : MethodId} {below : List Frame} {meth : Method} {c : Code} {s₁ : State} (p2301 : Int32) (p2302 : Int32) (p2303 : Int32) (p2295 : Int32) (p2296 : Int32) (p2297 : Int32) (a2298 : Addr) (a2299 : Addr) (p2300 : Int32) (p2294 : Int32) (a2305 : Addr) (k2313 : ClassId) (p2306 : Int32) (p2307 : Int32) (p2308 : Int32) (p2309 : Int32) (p2310 : Int32) (p2311 : Int32) (p2312 : Int32) (k2304 : ClassId) (Bd : BodyLoose p l x (head1 (Jvm.Cond.code x code maxLocals ret :: ws) room_1) code maxLocals ret e s m #[(.int p2301), (.int p2302), (.int p2303)] below meth c s₁) (hZ : Z.Warmed39 s.vm) (hml : c.maxLocals = 11) {T0 : State} {locs0 : List Loc} (X0 : Stand p l e room_1 s m #[(.int p2301), (.int p2302), (.int p2303)] below meth c T0 locs0 8 120) (h0 : Heap) (e0 : T0.heap = h0) (n0 : Nat) (O0 : Old Z n0 h0) (N0 : Fr n0 locs0) (pF_a2299_length : Fld Z h0 a2299 zs1 "length" "I" (.int (6 : Int32))) (pF_a2299_first : Fld Z h0 a2299 zs1 "first" "[I" (.ref a2305)) (pV_a2305 : Arv Z h0 a2305 k2313 .int (16 : Int32) [(.int p2306), (.int p2300), (.int p2307), (.int p2308), (.int p2309), (.int p2310), (.int p2311), (.int p2312)] (.int (0 : Int32))) (pG_a2305 : n0 ≤ a2305) (pE_a2305 : Exa Z h0 a2305 "[I") (pE_a2299 : Exa Z h0 a2299 zs1) (pN_a2299_a2305 : a2299 ≠ a2305) (pF_a2299_text : Fld Z h0 a2299 zs1 "text" "[B" (.ref a2298)) (pC2318 : ¬ (p2300 < (0 : Int32))) (pC2319 : p2300 < (2 : Int32)) (pV_a2298 : Arv Z h0 a2298 k2304 .byte (4 : Int32) [(.int (123 : Int32)), (.int (91 : Int32)), (.int (49 : Int32)), (.int (110 : Int32))] (.int (0 : Int32))) (pN_a2298_a2305 : a2298 ≠ a2305) (pC2322 : ¬ (p2294 < (0 : Int32))) :
    own_Goes p e below (T0.setTop (mkF m 141 #[iv p2295, iv p2296, iv p2297, rv a2298, rv a2299, iv (1 : Int32), iv p2300, iv (1 : Int32), iv (2 : Int32), iv p2294, iv (0 : Int32)] [])) (own_G s below n0) := by
  have hx := Bd.exec
  have hby := Bd.bytes
  have hown : s.vm.findClass zs2 = some m.cls := findClass_of_methodNamed Bd.named
  have hnm := (name_of_methodNamed Bd.named Bd.method).1
  show own_Goes p e below (T0.setTop (mkF m 141 #[iv p2295, iv p2296, iv p2297, rv a2298, rv a2299, iv (1 : Int32), iv p2300, iv (1 : Int32), iv (2 : Int32), iv p2294, iv (0 : Int32)] [])) _
  refine own_via (fun t k => XS.aload X0.here hx rfl (hb hby at_141) rfl rfl (XS.iload X0.here hx rfl (hb hby at_143) rfl (XS.iload X0.here hx rfl (hb hby at_145) rfl (XS.iload X0.here hx rfl (hb hby at_147) rfl k)))) ?_
  show own_Goes p e below (T0.setTop (mkF m 149 #[iv p2295, iv p2296, iv p2297, rv a2298, rv a2299, iv (1 : Int32), iv p2300, iv (1 : Int32), iv (2 : Int32), iv p2294, iv (0 : Int32)] [(.int (0 : Int32)), (.int p2294), (.int (1 : Int32)), (.ref a2299)])) _
  obtain ⟨_, T2326, _, X2326, hQ2326, st2326⟩ := own_cv X0 hx hZ hown (wd hw 41 rfl) (wd hw 42 rfl) (wd hw 44 rfl) (wd hw 43 rfl) (wd hw 45 rfl) (wd hw 3 rfl) (by decide) (rm26 l Z a0 hw [] a2299 p2294 (6 : Int32) a2305 k2313 p2306 p2300 p2307 p2308 p2309 p2310 p2311 p2312 h0 n0 O0 pF_a2299_length pF_a2299_first pV_a2305 pG_a2305 pE_a2305 pE_a2299 pN_a2299_a2305) e0 pE_a2299 (g := (mkF m 149 #[iv p2295, iv p2296, iv p2297, rv a2298, rv a2299, iv (1 : Int32), iv p2300, iv (1 : Int32), iv (2 : Int32), iv p2294, iv (0 : Int32)] [(.int (0 : Int32)), (.int p2294), (.int (1 : Int32)), (.ref a2299)])) rfl (by rw [hml]; rfl) (rest := []) (W := 0) (lenOf pd_5 rfl) rfl (by show 2 * 0 + _ ≤ _; exact Nat.le_of_eq rfl) (hb hby at_149) (by decide) (by decide) (by decide) (by decide)
  obtain ⟨h2326, e2326⟩ : ∃ z, T2326.heap = z := ⟨_, rfl⟩
  rw [e2326] at hQ2326
  obtain ⟨rfl, Nq2326, K2326, ex2327, vx2328⟩ := hQ2326
  have N2326 := Fr.app N0 Nq2326
  refine own_via (fun t k => st2326 t (XS.iload X2326.here hx rfl (hb hby at_152) rfl (XS.iload X2326.here hx rfl (hb hby at_154) rfl (XS.icmpNo X2326.here hx rfl (hb hby at_156) rfl (teq (by decide : (1 : Int32) = (1 : Int32))).2 (XS.aload X2326.here hx rfl (hb hby at_159) rfl rfl (XS.iload X2326.here hx rfl (hb hby at_161) rfl k)))))) ?_
  show own_Goes p e below (T2326.setTop (mkF m 163 #[iv p2295, iv p2296, iv p2297, rv a2298, rv a2299, iv (1 : Int32), iv p2300, iv (1 : Int32), iv (2 : Int32), iv p2294, iv (0 : Int32)] [(.int (1 : Int32)), (.ref a2299)])) _
  have F2330 : Fld Z h2326 a2299 zs1 "first" "[I" (.ref a2305) := (pF_a2299_first.keep K2326 (ninS pN_a2299_a2305 nin0))
  have E2331 : Exa Z h2326 a2299 zs1 := (pE_a2299.keep K2326)
  have O2332 : Old Z n0 h2326 := (O0.keep K2326 (allS pG_a2305 all0))
  obtain ⟨_, T2329, _, X2329, hQ2329, st2329⟩ := own_cv X2326 hx hZ hown (wd hw 50 rfl) (wd hw 51 rfl) (wd hw 53 rfl) (wd hw 52 rfl) (wd hw 54 rfl) (wd hw 3 rfl) (by decide) (rm27 l Z a0 hw [] a2299 a2305 k2313 p2306 p2300 (6 : Int32) ((p2294 <<< ((1 : Int32) &&& 31)) ||| (0 : Int32)) p2309 p2310 p2311 p2312 h2326 n0 O2332 F2330 vx2328 E2331) e2326 E2331 (g := (mkF m 163 #[iv p2295, iv p2296, iv p2297, rv a2298, rv a2299, iv (1 : Int32), iv p2300, iv (1 : Int32), iv (2 : Int32), iv p2294, iv (0 : Int32)] [(.int (1 : Int32)), (.ref a2299)])) rfl (by rw [hml]; rfl) (rest := []) (W := 0) (lenOf pd_3 rfl) rfl (by show 2 * 0 + _ ≤ _; exact Nat.le_of_eq rfl) (hb hby at_163) (by decide) (by decide) (by decide) (by decide)
  obtain ⟨rfl, Nq2329, hh2333⟩ := hQ2329
  have N2329 := Fr.app N2326 Nq2329
  refine own_via (fun t k => st2329 t (XS.iload X2329.here hx rfl (hb hby at_166) rfl (XS.icmpNo X2329.here hx rfl (hb hby at_168) rfl (teq (rfl : p2300 = p2300)).2 (XS.aload X2329.here hx rfl (hb hby at_171) rfl rfl (XS.iload X2329.here hx rfl (hb hby at_173) rfl k))))) ?_
  show own_Goes p e below (T2329.setTop (mkF m 175 #[iv p2295, iv p2296, iv p2297, rv a2298, rv a2299, iv (1 : Int32), iv p2300, iv (1 : Int32), iv (2 : Int32), iv p2294, iv (0 : Int32)] [(.int (1 : Int32)), (.ref a2299)])) _
  have F2335 : Fld Z h2326 a2299 zs1 "text" "[B" (.ref a2298) := (pF_a2299_text.keep K2326 (ninS pN_a2299_a2305 nin0))
  have V2336 : Arv Z h2326 a2298 k2304 .byte (4 : Int32) [(.int (123 : Int32)), (.int (91 : Int32)), (.int (49 : Int32)), (.int (110 : Int32))] (.int (0 : Int32)) := (pV_a2298.keep K2326 (ninS pN_a2298_a2305 nin0))
  obtain ⟨_, T2334, _, X2334, hQ2334, st2334⟩ := own_cv X2329 hx hZ hown (wd hw 59 rfl) (wd hw 60 rfl) (wd hw 62 rfl) (wd hw 61 rfl) (wd hw 63 rfl) (wd hw 3 rfl) (by decide) (rm28 l Z a0 hw [] a2299 a2298 a2305 k2313 p2306 p2300 (6 : Int32) ((p2294 <<< ((1 : Int32) &&& 31)) ||| (0 : Int32)) p2309 p2310 p2311 p2312 k2304 (49 : Int32) (110 : Int32) h2326 n0 O2332 F2335 F2330 vx2328 E2331 pC2318 pC2319 V2336) hh2333 E2331 (g := (mkF m 175 #[iv p2295, iv p2296, iv p2297, rv a2298, rv a2299, iv (1 : Int32), iv p2300, iv (1 : Int32), iv (2 : Int32), iv p2294, iv (0 : Int32)] [(.int (1 : Int32)), (.ref a2299)])) rfl (by rw [hml]; rfl) (rest := []) (W := 0) (lenOf pd_3 rfl) rfl (by show 2 * 0 + _ ≤ _; exact Nat.le_of_eq rfl) (hb hby at_175) (by decide) (by decide) (by decide) (by decide)
  obtain ⟨rfl, Nq2334, hh2337⟩ := hQ2334
  have N2334 := Fr.app N2329 Nq2334
  refine own_via (fun t k => st2334 t (XS.iload X2334.here hx rfl (hb hby at_178) rfl (XS.iconst X2334.here hx rfl (hb hby at_180) (XS.iadd X2334.here hx rfl (hb hby at_181) rfl (XS.iload X2334.here hx rfl (hb hby at_182) rfl (XS.iadd X2334.here hx rfl (hb hby at_184) rfl (XS.icmpNo X2334.here hx rfl (hb hby at_185) rfl (teq (by decide : (6 : Int32) = (6 : Int32))).2 (XS.aload X2334.here hx rfl (hb hby at_188) rfl rfl (XS.iload X2334.here hx rfl (hb hby at_190) rfl k))))))))) ?_
  show own_Goes p e below (T2334.setTop (mkF m 192 #[iv p2295, iv p2296, iv p2297, rv a2298, rv a2299, iv (1 : Int32), iv p2300, iv (1 : Int32), iv (2 : Int32), iv p2294, iv (0 : Int32)] [(.int (1 : Int32)), (.ref a2299)])) _
  obtain ⟨_, T2338, _, X2338, hQ2338, st2338⟩ := own_cv X2334 hx hZ hown (wd hw 64 rfl) (wd hw 65 rfl) (wd hw 67 rfl) (wd hw 66 rfl) (wd hw 68 rfl) (wd hw 3 rfl) (by decide) (rm30 l Z a0 hw [] a2299 a2305 k2313 p2306 p2300 (6 : Int32) ((p2294 <<< ((1 : Int32) &&& 31)) ||| (0 : Int32)) p2309 p2310 p2311 p2312 h2326 n0 O2332 F2330 vx2328 E2331) hh2337 E2331 (g := (mkF m 192 #[iv p2295, iv p2296, iv p2297, rv a2298, rv a2299, iv (1 : Int32), iv p2300, iv (1 : Int32), iv (2 : Int32), iv p2294, iv (0 : Int32)] [(.int (1 : Int32)), (.ref a2299)])) rfl (by rw [hml]; rfl) (rest := []) (W := 0) (lenOf pd_3 rfl) rfl (by show 2 * 0 + _ ≤ _; exact Nat.le_of_eq rfl) (hb hby at_192) (by decide) (by decide) (by decide) (by decide)
  obtain ⟨rfl, Nq2338, hh2339⟩ := hQ2338
  have N2338 := Fr.app N2334 Nq2338
  refine own_via (fun t k => st2338 t (XS.iload X2338.here hx rfl (hb hby at_195) rfl (XS.icmpNo X2338.here hx rfl (hb hby at_197) rfl (teq (own_cnt p2294 0 pC2322 (by decide))).2 (XS.aload X2338.here hx rfl (hb hby at_200) rfl rfl (XS.iload X2338.here hx rfl (hb hby at_202) rfl k))))) ?_
  show own_Goes p e below (T2338.setTop (mkF m 204 #[iv p2295, iv p2296, iv p2297, rv a2298, rv a2299, iv (1 : Int32), iv p2300, iv (1 : Int32), iv (2 : Int32), iv p2294, iv (0 : Int32)] [(.int (1 : Int32)), (.ref a2299)])) _
  obtain ⟨_, T2340, _, X2340, hQ2340, st2340⟩ := own_cv X2338 hx hZ hown (wd hw 69 rfl) (wd hw 70 rfl) (wd hw 72 rfl) (wd hw 71 rfl) (wd hw 73 rfl) (wd hw 3 rfl) (by decide) (rm31 l Z a0 hw [] a2299 a2305 k2313 p2306 p2300 (6 : Int32) ((p2294 <<< ((1 : Int32) &&& 31)) ||| (0 : Int32)) p2309 p2310 p2311 p2312 h2326 n0 O2332 F2330 vx2328 E2331 (own_rep0 p2294)) hh2339 E2331 (g := (mkF m 204 #[iv p2295, iv p2296, iv p2297, rv a2298, rv a2299, iv (1 : Int32), iv p2300, iv (1 : Int32), iv (2 : Int32), iv p2294, iv (0 : Int32)] [(.int (1 : Int32)), (.ref a2299)])) rfl (by rw [hml]; rfl) (rest := []) (W := 0) (lenOf pd_6 rfl) rfl (by show 2 * 0 + _ ≤ _; exact Nat.le_of_eq rfl) (hb hby at_204) (by decide) (by decide) (by decide) (by decide)
  obtain ⟨rfl, Nq2340, hh2341⟩ := hQ2340
  have N2340 := Fr.app N2338 Nq2340
  refine own_via (fun t k => st2340 t (XS.iload X2340.here hx rfl (hb hby at_207) rfl (XS.icmpNo X2340.here hx rfl (hb hby at_209) rfl (teq (by decide : (0 : Int32) = (0 : Int32))).2 (XS.iconst X2340.here hx rfl (hb hby at_212) (XS.goto X2340.here hx rfl (pc0 := 213) (pc' := 217) rfl (hb hby at_213) (by decide) (by decide) k))))) ?_
  show own_Goes p e below (T2340.setTop (mkF m 217 #[iv p2295, iv p2296, iv p2297, rv a2298, rv a2299, iv (1 : Int32), iv p2300, iv (1 : Int32), iv (2 : Int32), iv p2294, iv (0 : Int32)] [(.int (1 : Int32))])) _
  obtain ⟨fs, hr, hrun, hended, hW, hsame⟩ := X2340.leave (v := some (.int (1 : Int32))) (fun h => by rw [Bd.returns] at h; cases h)
  refine own_end (t := T2340.setFrames fs) ?_ ⟨_, hrun, hended, _, _, rfl, ?_, ⟨_, rfl⟩, hW, hsame.mono (by decide) (by decide)⟩
  · exact retN X2340 hx (t := .boolean) Bd.returns (by simp) (hb hby at_217) hr
  · exact ⟨rfl, N2340⟩
set_option maxRecDepth 65536 in
set_option maxHeartbeats 40000000 in
theorem sfx21 (l : Launch) (Z : State) (a0 : Array Value) (hw : ∀ d ∈ tables_1, d.before a0 Z = true) (ws : List Jvm.Cond) {p : Program} {e : Env} {s : State} {m : MethodId} {below : List Frame} {meth : Method} {c : Code} {s₁ : State} (p2349 : Int32) (p2350 : Int32) (p2351 : Int32) (p2343 : Int32) (p2344 : Int32) (p2345 : Int32) (a2346 : Addr) (a2347 : Addr) (p2348 : Int32) (p2342 : Int32) (a2353 : Addr) (k2361 : ClassId) (p2354 : Int32) (p2355 : Int32) (p2356 : Int32) (p2357 : Int32) (p2358 : Int32) (p2359 : Int32) (p2360 : Int32) (k2352 : ClassId) (Bd : BodyLoose p l x (head1 (Jvm.Cond.code x code maxLocals ret :: ws) room_1) code maxLocals ret e s m #[(.int p2349), (.int p2350), (.int p2351)] below meth c s₁) (hZ : Z.Warmed39 s.vm) (hml : c.maxLocals = 11) {T0 : State} {locs0 : List Loc} (X0 : Stand p l e room_1 s m #[(.int p2349), (.int p2350), (.int p2351)] below meth c T0 locs0 8 120) (h0 : Heap) (e0 : T0.heap = h0) (n0 : Nat) (O0 : Old Z n0 h0) (N0 : Fr n0 locs0) (pF_a2347_length : Fld Z h0 a2347 zs1 "length" "I" (.int (6 : Int32))) (pF_a2347_first : Fld Z h0 a2347 zs1 "first" "[I" (.ref a2353)) (pV_a2353 : Arv Z h0 a2353 k2361 .int (16 : Int32) [(.int p2354), (.int p2348), (.int p2355), (.int p2356), (.int p2357), (.int p2358), (.int p2359), (.int p2360)] (.int (0 : Int32))) (pG_a2353 : n0 ≤ a2353) (pE_a2353 : Exa Z h0 a2353 "[I") (pE_a2347 : Exa Z h0 a2347 zs1) (pN_a2347_a2353 : a2347 ≠ a2353) (pF_a2347_text : Fld Z h0 a2347 zs1 "text" "[B" (.ref a2346)) (pC2366 : ¬ (p2348 < (0 : Int32))) (pC2367 : p2348 < (2 : Int32)) (pV_a2346 : Arv Z h0 a2346 k2352 .byte (4 : Int32) [(.int (123 : Int32)), (.int (91 : Int32)), (.int (49 : Int32)), (.int (110 : Int32))] (.int (0 : Int32))) (pN_a2346_a2353 : a2346 ≠ a2353) (pC2370 : ¬ (p2342 < (0 : Int32))) :
    own_Goes p e below (T0.setTop (mkF m 141 #[iv p2343, iv p2344, iv p2345, rv a2346, rv a2347, iv (1 : Int32), iv p2348, iv (1 : Int32), iv (2 : Int32), iv p2342, iv (1 : Int32)] [])) (own_G s below n0) := by
  have hx := Bd.exec
  have hby := Bd.bytes
  have hown : s.vm.findClass zs2 = some m.cls := findClass_of_methodNamed Bd.named
  have hnm := (name_of_methodNamed Bd.named Bd.method).1
  show own_Goes p e below (T0.setTop (mkF m 141 #[iv p2343, iv p2344, iv p2345, rv a2346, rv a2347, iv (1 : Int32), iv p2348, iv (1 : Int32), iv (2 : Int32), iv p2342, iv (1 : Int32)] [])) _
  refine own_via (fun t k => XS.aload X0.here hx rfl (hb hby at_141) rfl rfl (XS.iload X0.here hx rfl (hb hby at_143) rfl (XS.iload X0.here hx rfl (hb hby at_145) rfl (XS.iload X0.here hx rfl (hb hby at_147) rfl k)))) ?_
  show own_Goes p e below (T0.setTop (mkF m 149 #[iv p2343, iv p2344, iv p2345, rv a2346, rv a2347, iv (1 : Int32), iv p2348, iv (1 : Int32), iv (2 : Int32), iv p2342, iv (1 : Int32)] [(.int (1 : Int32)), (.int p2342), (.int (1 : Int32)), (.ref a2347)])) _
  obtain ⟨_, T2374, _, X2374, hQ2374, st2374⟩ := own_cv X0 hx hZ hown (wd hw 41 rfl) (wd hw 42 rfl) (wd hw 44 rfl) (wd hw 43 rfl) (wd hw 45 rfl) (wd hw 3 rfl) (by decide) (rm32 l Z a0 hw [] a2347 p2342 (6 : Int32) a2353 k2361 p2354 p2348 p2355 p2356 p2357 p2358 p2359 p2360 h0 n0 O0 pF_a2347_length pF_a2347_first pV_a2353 pG_a2353 pE_a2353 pE_a2347 pN_a2347_a2353) e0 pE_a2347 (g := (mkF m 149 #[iv p2343, iv p2344, iv p2345, rv a2346, rv a2347, iv (1 : Int32), iv p2348, iv (1 : Int32), iv (2 : Int32), iv p2342, iv (1 : Int32)] [(.int (1 : Int32)), (.int p2342), (.int (1 : Int32)), (.ref a2347)])) rfl (by rw [hml]; rfl) (rest := []) (W := 0) (lenOf pd_5 rfl) rfl (by show 2 * 0 + _ ≤ _; exact Nat.le_of_eq rfl) (hb hby at_149) (by decide) (by decide) (by decide) (by decide)
  obtain ⟨h2374, e2374⟩ : ∃ z, T2374.heap = z := ⟨_, rfl⟩
  rw [e2374] at hQ2374
  obtain ⟨rfl, Nq2374, K2374, ex2375, vx2376⟩ := hQ2374
  have N2374 := Fr.app N0 Nq2374
  refine own_via (fun t k => st2374 t (XS.iload X2374.here hx rfl (hb hby at_152) rfl (XS.iload X2374.here hx rfl (hb hby at_154) rfl (XS.icmpNo X2374.here hx rfl (hb hby at_156) rfl (teq (by decide : (1 : Int32) = (1 : Int32))).2 (XS.aload X2374.here hx rfl (hb hby at_159) rfl rfl (XS.iload X2374.here hx rfl (hb hby at_161) rfl k)))))) ?_
  show own_Goes p e below (T2374.setTop (mkF m 163 #[iv p2343, iv p2344, iv p2345, rv a2346, rv a2347, iv (1 : Int32), iv p2348, iv (1 : Int32), iv (2 : Int32), iv p2342, iv (1 : Int32)] [(.int (1 : Int32)), (.ref a2347)])) _
  have F2378 : Fld Z h2374 a2347 zs1 "first" "[I" (.ref a2353) := (pF_a2347_first.keep K2374 (ninS pN_a2347_a2353 nin0))
  have E2379 : Exa Z h2374 a2347 zs1 := (pE_a2347.keep K2374)
  have O2380 : Old Z n0 h2374 := (O0.keep K2374 (allS pG_a2353 all0))
  obtain ⟨_, T2377, _, X2377, hQ2377, st2377⟩ := own_cv X2374 hx hZ hown (wd hw 50 rfl) (wd hw 51 rfl) (wd hw 53 rfl) (wd hw 52 rfl) (wd hw 54 rfl) (wd hw 3 rfl) (by decide) (rm27 l Z a0 hw [] a2347 a2353 k2361 p2354 p2348 (6 : Int32) ((p2342 <<< ((1 : Int32) &&& 31)) ||| (1 : Int32)) p2357 p2358 p2359 p2360 h2374 n0 O2380 F2378 vx2376 E2379) e2374 E2379 (g := (mkF m 163 #[iv p2343, iv p2344, iv p2345, rv a2346, rv a2347, iv (1 : Int32), iv p2348, iv (1 : Int32), iv (2 : Int32), iv p2342, iv (1 : Int32)] [(.int (1 : Int32)), (.ref a2347)])) rfl (by rw [hml]; rfl) (rest := []) (W := 0) (lenOf pd_3 rfl) rfl (by show 2 * 0 + _ ≤ _; exact Nat.le_of_eq rfl) (hb hby at_163) (by decide) (by decide) (by decide) (by decide)
  obtain ⟨rfl, Nq2377, hh2381⟩ := hQ2377
  have N2377 := Fr.app N2374 Nq2377
  refine own_via (fun t k => st2377 t (XS.iload X2377.here hx rfl (hb hby at_166) rfl (XS.icmpNo X2377.here hx rfl (hb hby at_168) rfl (teq (rfl : p2348 = p2348)).2 (XS.aload X2377.here hx rfl (hb hby at_171) rfl rfl (XS.iload X2377.here hx rfl (hb hby at_173) rfl k))))) ?_
  show own_Goes p e below (T2377.setTop (mkF m 175 #[iv p2343, iv p2344, iv p2345, rv a2346, rv a2347, iv (1 : Int32), iv p2348, iv (1 : Int32), iv (2 : Int32), iv p2342, iv (1 : Int32)] [(.int (1 : Int32)), (.ref a2347)])) _
  have F2383 : Fld Z h2374 a2347 zs1 "text" "[B" (.ref a2346) := (pF_a2347_text.keep K2374 (ninS pN_a2347_a2353 nin0))
  have V2384 : Arv Z h2374 a2346 k2352 .byte (4 : Int32) [(.int (123 : Int32)), (.int (91 : Int32)), (.int (49 : Int32)), (.int (110 : Int32))] (.int (0 : Int32)) := (pV_a2346.keep K2374 (ninS pN_a2346_a2353 nin0))
  obtain ⟨_, T2382, _, X2382, hQ2382, st2382⟩ := own_cv X2377 hx hZ hown (wd hw 59 rfl) (wd hw 60 rfl) (wd hw 62 rfl) (wd hw 61 rfl) (wd hw 63 rfl) (wd hw 3 rfl) (by decide) (rm28 l Z a0 hw [] a2347 a2346 a2353 k2361 p2354 p2348 (6 : Int32) ((p2342 <<< ((1 : Int32) &&& 31)) ||| (1 : Int32)) p2357 p2358 p2359 p2360 k2352 (49 : Int32) (110 : Int32) h2374 n0 O2380 F2383 F2378 vx2376 E2379 pC2366 pC2367 V2384) hh2381 E2379 (g := (mkF m 175 #[iv p2343, iv p2344, iv p2345, rv a2346, rv a2347, iv (1 : Int32), iv p2348, iv (1 : Int32), iv (2 : Int32), iv p2342, iv (1 : Int32)] [(.int (1 : Int32)), (.ref a2347)])) rfl (by rw [hml]; rfl) (rest := []) (W := 0) (lenOf pd_3 rfl) rfl (by show 2 * 0 + _ ≤ _; exact Nat.le_of_eq rfl) (hb hby at_175) (by decide) (by decide) (by decide) (by decide)
  obtain ⟨rfl, Nq2382, hh2385⟩ := hQ2382
  have N2382 := Fr.app N2377 Nq2382
  refine own_via (fun t k => st2382 t (XS.iload X2382.here hx rfl (hb hby at_178) rfl (XS.iconst X2382.here hx rfl (hb hby at_180) (XS.iadd X2382.here hx rfl (hb hby at_181) rfl (XS.iload X2382.here hx rfl (hb hby at_182) rfl (XS.iadd X2382.here hx rfl (hb hby at_184) rfl (XS.icmpNo X2382.here hx rfl (hb hby at_185) rfl (teq (by decide : (6 : Int32) = (6 : Int32))).2 (XS.aload X2382.here hx rfl (hb hby at_188) rfl rfl (XS.iload X2382.here hx rfl (hb hby at_190) rfl k))))))))) ?_
  show own_Goes p e below (T2382.setTop (mkF m 192 #[iv p2343, iv p2344, iv p2345, rv a2346, rv a2347, iv (1 : Int32), iv p2348, iv (1 : Int32), iv (2 : Int32), iv p2342, iv (1 : Int32)] [(.int (1 : Int32)), (.ref a2347)])) _
  obtain ⟨_, T2386, _, X2386, hQ2386, st2386⟩ := own_cv X2382 hx hZ hown (wd hw 64 rfl) (wd hw 65 rfl) (wd hw 67 rfl) (wd hw 66 rfl) (wd hw 68 rfl) (wd hw 3 rfl) (by decide) (rm30 l Z a0 hw [] a2347 a2353 k2361 p2354 p2348 (6 : Int32) ((p2342 <<< ((1 : Int32) &&& 31)) ||| (1 : Int32)) p2357 p2358 p2359 p2360 h2374 n0 O2380 F2378 vx2376 E2379) hh2385 E2379 (g := (mkF m 192 #[iv p2343, iv p2344, iv p2345, rv a2346, rv a2347, iv (1 : Int32), iv p2348, iv (1 : Int32), iv (2 : Int32), iv p2342, iv (1 : Int32)] [(.int (1 : Int32)), (.ref a2347)])) rfl (by rw [hml]; rfl) (rest := []) (W := 0) (lenOf pd_3 rfl) rfl (by show 2 * 0 + _ ≤ _; exact Nat.le_of_eq rfl) (hb hby at_192) (by decide) (by decide) (by decide) (by decide)
  obtain ⟨rfl, Nq2386, hh2387⟩ := hQ2386
  have N2386 := Fr.app N2382 Nq2386
  refine own_via (fun t k => st2386 t (XS.iload X2386.here hx rfl (hb hby at_195) rfl (XS.icmpNo X2386.here hx rfl (hb hby at_197) rfl (teq (own_cnt p2342 1 pC2370 (by decide))).2 (XS.aload X2386.here hx rfl (hb hby at_200) rfl rfl (XS.iload X2386.here hx rfl (hb hby at_202) rfl k))))) ?_
  show own_Goes p e below (T2386.setTop (mkF m 204 #[iv p2343, iv p2344, iv p2345, rv a2346, rv a2347, iv (1 : Int32), iv p2348, iv (1 : Int32), iv (2 : Int32), iv p2342, iv (1 : Int32)] [(.int (1 : Int32)), (.ref a2347)])) _
  obtain ⟨_, T2388, _, X2388, hQ2388, st2388⟩ := own_cv X2386 hx hZ hown (wd hw 69 rfl) (wd hw 70 rfl) (wd hw 72 rfl) (wd hw 71 rfl) (wd hw 73 rfl) (wd hw 3 rfl) (by decide) (rm33 l Z a0 hw [] a2347 a2353 k2361 p2354 p2348 (6 : Int32) ((p2342 <<< ((1 : Int32) &&& 31)) ||| (1 : Int32)) p2357 p2358 p2359 p2360 h2374 n0 O2380 F2378 vx2376 E2379 (own_rep1 p2342)) hh2387 E2379 (g := (mkF m 204 #[iv p2343, iv p2344, iv p2345, rv a2346, rv a2347, iv (1 : Int32), iv p2348, iv (1 : Int32), iv (2 : Int32), iv p2342, iv (1 : Int32)] [(.int (1 : Int32)), (.ref a2347)])) rfl (by rw [hml]; rfl) (rest := []) (W := 0) (lenOf pd_6 rfl) rfl (by show 2 * 0 + _ ≤ _; exact Nat.le_of_eq rfl) (hb hby at_204) (by decide) (by decide) (by decide) (by decide)
  obtain ⟨rfl, Nq2388, hh2389⟩ := hQ2388
  have N2388 := Fr.app N2386 Nq2388
  refine own_via (fun t k => st2388 t (XS.iload X2388.here hx rfl (hb hby at_207) rfl (XS.icmpNo X2388.here hx rfl (hb hby at_209) rfl (teq (by decide : (1 : Int32) = (1 : Int32))).2 (XS.iconst X2388.here hx rfl (hb hby at_212) (XS.goto X2388.here hx rfl (pc0 := 213) (pc' := 217) rfl (hb hby at_213) (by decide) (by decide) k))))) ?_
  show own_Goes p e below (T2388.setTop (mkF m 217 #[iv p2343, iv p2344, iv p2345, rv a2346, rv a2347, iv (1 : Int32), iv p2348, iv (1 : Int32), iv (2 : Int32), iv p2342, iv (1 : Int32)] [(.int (1 : Int32))])) _
  obtain ⟨fs, hr, hrun, hended, hW, hsame⟩ := X2388.leave (v := some (.int (1 : Int32))) (fun h => by rw [Bd.returns] at h; cases h)
  refine own_end (t := T2388.setFrames fs) ?_ ⟨_, hrun, hended, _, _, rfl, ?_, ⟨_, rfl⟩, hW, hsame.mono (by decide) (by decide)⟩
  · exact retN X2388 hx (t := .boolean) Bd.returns (by simp) (hb hby at_217) hr
  · exact ⟨rfl, N2388⟩
set_option maxRecDepth 65536 in
set_option maxHeartbeats 40000000 in
theorem sfx22 (l : Launch) (Z : State) (a0 : Array Value) (hw : ∀ d ∈ tables_1, d.before a0 Z = true) (ws : List Jvm.Cond) {p : Program} {e : Env} {s : State} {m : MethodId} {below : List Frame} {meth : Method} {c : Code} {s₁ : State} (p2272 : Int32) (p2273 : Int32) (p2274 : Int32) (p2266 : Int32) (p2267 : Int32) (p2268 : Int32) (a2269 : Addr) (a2270 : Addr) (p2271 : Int32) (a2276 : Addr) (k2284 : ClassId) (p2277 : Int32) (p2278 : Int32) (p2279 : Int32) (p2280 : Int32) (p2281 : Int32) (p2282 : Int32) (p2283 : Int32) (k2275 : ClassId) (Bd : BodyLoose p l x (head1 (Jvm.Cond.code x code maxLocals ret :: ws) room_1) code maxLocals ret e s m #[(.int p2272), (.int p2273), (.int p2274)] below meth c s₁) (hZ : Z.Warmed39 s.vm) (hml : c.maxLocals = 11) {T0 : State} {locs0 : List Loc} (X0 : Stand p l e room_1 s m #[(.int p2272), (.int p2273), (.int p2274)] below meth c T0 locs0 8 120) (h0 : Heap) (e0 : T0.heap = h0) (n0 : Nat) (O0 : Old Z n0 h0) (N0 : Fr n0 locs0) (pF_a2270_length : Fld Z h0 a2270 zs1 "length" "I" (.int (6 : Int32))) (pF_a2270_first : Fld Z h0 a2270 zs1 "first" "[I" (.ref a2276)) (pV_a2276 : Arv Z h0 a2276 k2284 .int (16 : Int32) [(.int p2277), (.int p2271), (.int p2278), (.int p2279), (.int p2280), (.int p2281), (.int p2282), (.int p2283)] (.int (0 : Int32))) (pG_a2276 : n0 ≤ a2276) (pE_a2276 : Exa Z h0 a2276 "[I") (pE_a2270 : Exa Z h0 a2270 zs1) (pN_a2270_a2276 : a2270 ≠ a2276) (pF_a2270_text : Fld Z h0 a2270 zs1 "text" "[B" (.ref a2269)) (pC2289 : ¬ (p2271 < (0 : Int32))) (pC2290 : p2271 < (2 : Int32)) (pV_a2269 : Arv Z h0 a2269 k2275 .byte (4 : Int32) [(.int (123 : Int32)), (.int (91 : Int32)), (.int (49 : Int32)), (.int (110 : Int32))] (.int (0 : Int32))) (pN_a2269_a2276 : a2269 ≠ a2276) :
    own_Goes p e below (T0.setTop (mkF m 122 #[iv p2266, iv p2267, iv p2268, rv a2269, rv a2270, iv (1 : Int32), iv p2271, iv (1 : Int32), iv (2 : Int32), .unset, .unset] [])) (own_G s below n0) := by
  have hx := Bd.exec
  have hby := Bd.bytes
  have hown : s.vm.findClass zs2 = some m.cls := findClass_of_methodNamed Bd.named
  have hnm := (name_of_methodNamed Bd.named Bd.method).1
  show own_Goes p e below (T0.setTop (mkF m 122 #[iv p2266, iv p2267, iv p2268, rv a2269, rv a2270, iv (1 : Int32), iv p2271, iv (1 : Int32), iv (2 : Int32), .unset, .unset] [])) _
  refine own_via (fun t k => XS.iloadN X0.here hx rfl (hb hby at_122) rfl (X0.ldcInt hx hown (mvT hZ (wd hw 40 rfl)) (g := (mkF m 123 #[iv p2266, iv p2267, iv p2268, rv a2269, rv a2270, iv (1 : Int32), iv p2271, iv (1 : Int32), iv (2 : Int32), .unset, .unset] [(.int p2267)])) rfl (hb hby at_123) t (XS.iand X0.here hx rfl (hb hby at_125) rfl (XS.istore X0.here hx rfl (hb hby at_126) rfl (l' := #[iv p2266, iv p2267, iv p2268, rv a2269, rv a2270, iv (1 : Int32), iv p2271, iv (1 : Int32), iv (2 : Int32), iv (p2267 &&& (2147483647 : Int32)), .unset]) rfl (XS.iloadN X0.here hx rfl (hb hby at_128) rfl (XS.iconst X0.here hx rfl (hb hby at_129) (XS.iand X0.here hx rfl (hb hby at_130) rfl k))))))) ?_
  show own_Goes p e below (T0.setTop (mkF m 131 #[iv p2266, iv p2267, iv p2268, rv a2269, rv a2270, iv (1 : Int32), iv p2271, iv (1 : Int32), iv (2 : Int32), iv (p2267 &&& (2147483647 : Int32)), .unset] [(.int (p2268 &&& (1 : Int32)))])) _
  by_cases hc2293 : (p2268 &&& (1 : Int32)) = (0 : Int32)
  · refine own_via (fun t k => XS.ifYes X0.here hx rfl (pc0 := 131) (pc' := 138) rfl (hb hby at_131) rfl ((if0 _ _).trans (teq hc2293).1) (by decide) (by decide) (XS.iconst X0.here hx rfl (hb hby at_138) (XS.istore X0.here hx rfl (hb hby at_139) rfl (l' := #[iv p2266, iv p2267, iv p2268, rv a2269, rv a2270, iv (1 : Int32), iv p2271, iv (1 : Int32), iv (2 : Int32), iv (p2267 &&& (2147483647 : Int32)), iv (0 : Int32)]) rfl k))) ?_
    show own_Goes p e below (T0.setTop (mkF m 141 #[iv p2266, iv p2267, iv p2268, rv a2269, rv a2270, iv (1 : Int32), iv p2271, iv (1 : Int32), iv (2 : Int32), iv (p2267 &&& (2147483647 : Int32)), iv (0 : Int32)] [])) _
    exact sfx20 l Z a0 hw ws p2272 p2273 p2274 p2266 p2267 p2268 a2269 a2270 p2271 (p2267 &&& (2147483647 : Int32)) a2276 k2284 p2277 p2278 p2279 p2280 p2281 p2282 p2283 k2275 Bd hZ hml X0 h0 e0 n0 O0 N0 pF_a2270_length pF_a2270_first pV_a2276 pG_a2276 pE_a2276 pE_a2270 pN_a2270_a2276 pF_a2270_text pC2289 pC2290 pV_a2269 pN_a2269_a2276 (own_nn_mask p2267 (2147483647 : Int32) 31 (by decide) (by decide))
  · refine own_via (fun t k => XS.ifNo X0.here hx rfl (hb hby at_131) rfl ((if0 _ _).trans (feq hc2293).1) (XS.iconst X0.here hx rfl (hb hby at_134) (XS.goto X0.here hx rfl (pc0 := 135) (pc' := 139) rfl (hb hby at_135) (by decide) (by decide) (XS.istore X0.here hx rfl (hb hby at_139) rfl (l' := #[iv p2266, iv p2267, iv p2268, rv a2269, rv a2270, iv (1 : Int32), iv p2271, iv (1 : Int32), iv (2 : Int32), iv (p2267 &&& (2147483647 : Int32)), iv (1 : Int32)]) rfl k)))) ?_
    show own_Goes p e below (T0.setTop (mkF m 141 #[iv p2266, iv p2267, iv p2268, rv a2269, rv a2270, iv (1 : Int32), iv p2271, iv (1 : Int32), iv (2 : Int32), iv (p2267 &&& (2147483647 : Int32)), iv (1 : Int32)] [])) _
    exact sfx21 l Z a0 hw ws p2272 p2273 p2274 p2266 p2267 p2268 a2269 a2270 p2271 (p2267 &&& (2147483647 : Int32)) a2276 k2284 p2277 p2278 p2279 p2280 p2281 p2282 p2283 k2275 Bd hZ hml X0 h0 e0 n0 O0 N0 pF_a2270_length pF_a2270_first pV_a2276 pG_a2276 pE_a2276 pE_a2270 pN_a2270_a2276 pF_a2270_text pC2289 pC2290 pV_a2269 pN_a2269_a2276 (own_nn_mask p2267 (2147483647 : Int32) 31 (by decide) (by decide))
set_option maxRecDepth 65536 in
set_option maxHeartbeats 40000000 in
theorem sfx23 (l : Launch) (Z : State) (a0 : Array Value) (hw : ∀ d ∈ tables_1, d.before a0 Z = true) (ws : List Jvm.Cond) {p : Program} {e : Env} {s : State} {m : MethodId} {below : List Frame} {meth : Method} {c : Code} {s₁ : State} (p2196 : Int32) (p2197 : Int32) (p2198 : Int32) (p2191 : Int32) (p2192 : Int32) (p2193 : Int32) (a2194 : Addr) (a2195 : Addr) (p2190 : Int32) (a2200 : Addr) (k2208 : ClassId) (p2201 : Int32) (p2202 : Int32) (p2203 : Int32) (p2204 : Int32) (p2205 : Int32) (p2206 : Int32) (p2207 : Int32) (k2199 : ClassId) (Bd : BodyLoose p l x (head1 (Jvm.Cond.code x code maxLocals ret :: ws) room_1) code maxLocals ret e s m #[(.int p2196), (.int p2197), (.int p2198)] below meth c s₁) (hZ : Z.Warmed39 s.vm) (hml : c.maxLocals = 11) {T0 : State} {locs0 : List Loc} (X0 : Stand p l e room_1 s m #[(.int p2196), (.int p2197), (.int p2198)] below meth c T0 locs0 8 120) (h0 : Heap) (e0 : T0.heap = h0) (n0 : Nat) (O0 : Old Z n0 h0) (N0 : Fr n0 locs0) (pF_a2195_length : Fld Z h0 a2195 zs1 "length" "I" (.int (5 : Int32))) (pF_a2195_first : Fld Z h0 a2195 zs1 "first" "[I" (.ref a2200)) (pV_a2200 : Arv Z h0 a2200 k2208 .int (16 : Int32) [(.int p2201), (.int p2190), (.int p2202), (.int p2203), (.int p2204), (.int p2205), (.int p2206), (.int p2207)] (.int (0 : Int32))) (pG_a2200 : n0 ≤ a2200) (pE_a2200 : Exa Z h0 a2200 "[I") (pE_a2195 : Exa Z h0 a2195 zs1) (pN_a2195_a2200 : a2195 ≠ a2200) (pF_a2195_text : Fld Z h0 a2195 zs1 "text" "[B" (.ref a2194)) (pC2213 : ¬ (p2190 < (0 : Int32))) (pC2214 : p2190 < (2 : Int32)) (pV_a2194 : Arv Z h0 a2194 k2199 .byte (4 : Int32) [(.int (123 : Int32)), (.int (91 : Int32)), (.int (49 : Int32)), (.int (110 : Int32))] (.int (0 : Int32))) (pN_a2194_a2200 : a2194 ≠ a2200) (pL_a2200 : own_Len Z h0 a2200 .int (16 : Int32)) (pG_a2195 : n0 ≤ a2195) (pN_a2194_a2195 : a2194 ≠ a2195) :
    own_Goes p e below (T0.setTop (mkF m 105 #[iv p2191, iv p2192, iv p2193, rv a2194, rv a2195, iv (1 : Int32), iv p2190, iv (1 : Int32), iv (1 : Int32), .unset, .unset] [])) (own_G s below n0) := by
  have hx := Bd.exec
  have hby := Bd.bytes
  have hown : s.vm.findClass zs2 = some m.cls := findClass_of_methodNamed Bd.named
  have hnm := (name_of_methodNamed Bd.named Bd.method).1
  show own_Goes p e below (T0.setTop (mkF m 105 #[iv p2191, iv p2192, iv p2193, rv a2194, rv a2195, iv (1 : Int32), iv p2190, iv (1 : Int32), iv (1 : Int32), .unset, .unset] [])) _
  refine own_via (fun t k => XS.iloadN X0.here hx rfl (hb hby at_105) rfl (XS.bipush X0.here hx rfl (hb hby at_106) (XS.iand X0.here hx rfl (hb hby at_108) rfl k))) ?_
  show own_Goes p e below (T0.setTop (mkF m 109 #[iv p2191, iv p2192, iv p2193, rv a2194, rv a2195, iv (1 : Int32), iv p2190, iv (1 : Int32), iv (1 : Int32), .unset, .unset] [(.int (p2191 &&& (16 : Int32)))])) _
  by_cases hc2216 : (p2191 &&& (16 : Int32)) = (0 : Int32)
  · refine own_via (fun t k => XS.ifYes X0.here hx rfl (pc0 := 109) (pc' := 122) rfl (hb hby at_109) rfl ((if0 _ _).trans (teq hc2216).1) (by decide) (by decide) k) ?_
    exact sfx18 l Z a0 hw ws p2196 p2197 p2198 p2191 p2192 p2193 a2194 a2195 p2190 a2200 k2208 p2201 p2202 p2203 p2204 p2205 p2206 p2207 k2199 Bd hZ hml X0 h0 e0 n0 O0 N0 pF_a2195_length pF_a2195_first pV_a2200 pG_a2200 pE_a2200 pE_a2195 pN_a2195_a2200 pF_a2195_text pC2213 pC2214 pV_a2194 pN_a2194_a2200
  · refine own_via (fun t k => XS.ifNo X0.here hx rfl (hb hby at_109) rfl ((if0 _ _).trans (feq hc2216).1) (XS.aload X0.here hx rfl (hb hby at_112) rfl rfl (XS.iconst X0.here hx rfl (hb hby at_114) k))) ?_
    show own_Goes p e below (T0.setTop (mkF m 115 #[iv p2191, iv p2192, iv p2193, rv a2194, rv a2195, iv (1 : Int32), iv p2190, iv (1 : Int32), iv (1 : Int32), .unset, .unset] [(.int (3 : Int32)), (.ref a2195)])) _
    obtain ⟨_, T2217, _, X2217, hQ2217, st2217⟩ := own_cv X0 hx hZ hown (wd hw 74 rfl) (wd hw 34 rfl) (wd hw 36 rfl) (wd hw 35 rfl) (wd hw 37 rfl) (wd hw 3 rfl) (by decide) (rm34 l Z a0 hw [] a2195 a2200 k2208 p2201 p2190 p2202 p2203 p2204 p2205 p2206 p2207 a2194 h0 n0 O0 pF_a2195_length pF_a2195_first pL_a2200 pV_a2200 pG_a2200 pN_a2195_a2200 pE_a2195 pG_a2195 pE_a2200 pF_a2195_text) e0 pE_a2195 (g := (mkF m 115 #[iv p2191, iv p2192, iv p2193, rv a2194, rv a2195, iv (1 : Int32), iv p2190, iv (1 : Int32), iv (1 : Int32), .unset, .unset] [(.int (3 : Int32)), (.ref a2195)])) rfl (by rw [hml]; rfl) (rest := []) (W := 0) (lenOf pd_3 rfl) rfl (by show 2 * 0 + _ ≤ _; exact Nat.le_of_eq rfl) (hb hby at_115) (by decide) (by decide) (by decide) (by decide)
    obtain ⟨h2217, e2217⟩ : ∃ z, T2217.heap = z := ⟨_, rfl⟩
    rw [e2217] at hQ2217
    obtain ⟨rfl, Nq2217, K2217, ex2260, vx2261, ex2262, fx2263, fx2264, fx2265⟩ := hQ2217
    have N2217 := Fr.app N0 Nq2217
    refine own_via (fun t k => st2217 t (XS.pop X2217.here hx rfl (hb hby at_118) rfl rfl (XS.iinc X2217.here hx rfl (hb hby at_119) rfl (l' := #[iv p2191, iv p2192, iv p2193, rv a2194, rv a2195, iv (1 : Int32), iv p2190, iv (1 : Int32), iv (2 : Int32), .unset, .unset]) rfl k))) ?_
    show own_Goes p e below (T2217.setTop (mkF m 122 #[iv p2191, iv p2192, iv p2193, rv a2194, rv a2195, iv (1 : Int32), iv p2190, iv (1 : Int32), iv (2 : Int32), .unset, .unset] [])) _
    have V2390 : Arv Z h2217 a2194 k2199 .byte (4 : Int32) [(.int (123 : Int32)), (.int (91 : Int32)), (.int (49 : Int32)), (.int (110 : Int32))] (.int (0 : Int32)) := (pV_a2194.keep K2217 (ninS pN_a2194_a2200 (ninS pN_a2194_a2195 nin0)))
    have O2391 : Old Z n0 h2217 := (O0.keep K2217 (allS pG_a2200 (allS pG_a2195 all0)))
    exact sfx22 l Z a0 hw ws p2196 p2197 p2198 p2191 p2192 p2193 a2194 a2195 p2190 a2200 k2208 p2201 p2202 p2203 p2204 (3 : Int32) p2206 p2207 k2199 Bd hZ hml X2217 h2217 e2217 n0 O2391 N2217 fx2265 fx2264 vx2261 pG_a2200 ex2260 ex2262 pN_a2195_a2200 fx2263 pC2213 pC2214 V2390 pN_a2194_a2200
set_option maxRecDepth 65536 in
set_option maxHeartbeats 40000000 in
theorem sfx24 (l : Launch) (Z : State) (a0 : Array Value) (hw : ∀ d ∈ tables_1, d.before a0 Z = true) (ws : List Jvm.Cond) {p : Program} {e : Env} {s : State} {m : MethodId} {below : List Frame} {meth : Method} {c : Code} {s₁ : State} (p1395 : Int32) (p1396 : Int32) (p1397 : Int32) (p1390 : Int32) (p1391 : Int32) (p1392 : Int32) (a1393 : Addr) (a1394 : Addr) (a1399 : Addr) (k1408 : ClassId) (p1400 : Int32) (p1401 : Int32) (p1402 : Int32) (p1403 : Int32) (p1404 : Int32) (p1405 : Int32) (p1406 : Int32) (p1407 : Int32) (k1398 : ClassId) (Bd : BodyLoose p l x (head1 (Jvm.Cond.code x code maxLocals ret :: ws) room_1) code maxLocals ret e s m #[(.int p1395), (.int p1396), (.int p1397)] below meth c s₁) (hZ : Z.Warmed39 s.vm) (hml : c.maxLocals = 11) {T0 : State} {locs0 : List Loc} (X0 : Stand p l e room_1 s m #[(.int p1395), (.int p1396), (.int p1397)] below meth c T0 locs0 8 120) (h0 : Heap) (e0 : T0.heap = h0) (n0 : Nat) (O0 : Old Z n0 h0) (N0 : Fr n0 locs0) (pF_a1394_length : Fld Z h0 a1394 zs1 "length" "I" (.int (1 : Int32))) (pF_a1394_first : Fld Z h0 a1394 zs1 "first" "[I" (.ref a1399)) (pL_a1399 : own_Len Z h0 a1399 .int (16 : Int32)) (pV_a1399 : Arv Z h0 a1399 k1408 .int (16 : Int32) [(.int p1400), (.int p1401), (.int p1402), (.int p1403), (.int p1404), (.int p1405), (.int p1406), (.int p1407)] (.int (0 : Int32))) (pG_a1399 : n0 ≤ a1399) (pN_a1394_a1399 : a1394 ≠ a1399) (pE_a1394 : Exa Z h0 a1394 zs1) (pG_a1394 : n0 ≤ a1394) (pE_a1399 : Exa Z h0 a1399 "[I") (pF_a1394_text : Fld Z h0 a1394 zs1 "text" "[B" (.ref a1393)) (pV_a1393 : Arv Z h0 a1393 k1398 .byte (4 : Int32) [(.int (123 : Int32)), (.int (91 : Int32)), (.int (49 : Int32)), (.int (110 : Int32))] (.int (0 : Int32))) (pN_a1393_a1394 : a1393 ≠ a1394) (pN_a1393_a1399 : a1393 ≠ a1399) :
    own_Goes p e below (T0.setTop (mkF m 69 #[iv p1390, iv p1391, iv p1392, rv a1393, rv a1394, iv (1 : Int32), .unset, .unset, .unset, .unset, .unset] [])) (own_G s below n0) := by
  have hx := Bd.exec
  have hby := Bd.bytes
  have hown : s.vm.findClass zs2 = some m.cls := findClass_of_methodNamed Bd.named
  have hnm := (name_of_methodNamed Bd.named Bd.method).1
  show own_Goes p e below (T0.setTop (mkF m 69 #[iv p1390, iv p1391, iv p1392, rv a1393, rv a1394, iv (1 : Int32), .unset, .unset, .unset, .unset, .unset] [])) _
  refine own_via (fun t k => XS.iloadN X0.here hx rfl (hb hby at_69) rfl (XS.iconst X0.here hx rfl (hb hby at_70) (XS.iushr X0.here hx rfl (hb hby at_71) rfl (XS.iconst X0.here hx rfl (hb hby at_72) (XS.iand X0.here hx rfl (hb hby at_73) rfl (XS.istore X0.here hx rfl (hb hby at_74) rfl (l' := #[iv p1390, iv p1391, iv p1392, rv a1393, rv a1394, iv (1 : Int32), iv (((p1390.toUInt32 >>> ((2 : Int32) &&& 31).toUInt32).toInt32) &&& (1 : Int32)), .unset, .unset, .unset, .unset]) rfl (XS.aload X0.here hx rfl (hb hby at_76) rfl rfl (XS.iload X0.here hx rfl (hb hby at_78) rfl k)))))))) ?_
  show own_Goes p e below (T0.setTop (mkF m 80 #[iv p1390, iv p1391, iv p1392, rv a1393, rv a1394, iv (1 : Int32), iv (((p1390.toUInt32 >>> ((2 : Int32) &&& 31).toUInt32).toInt32) &&& (1 : Int32)), .unset, .unset, .unset, .unset] [(.int (((p1390.toUInt32 >>> ((2 : Int32) &&& 31).toUInt32).toInt32) &&& (1 : Int32))), (.ref a1394)])) _
  obtain ⟨_, T1413, _, X1413, hQ1413, st1413⟩ := own_cv X0 hx hZ hown (wd hw 28 rfl) (wd hw 29 rfl) (wd hw 31 rfl) (wd hw 30 rfl) (wd hw 32 rfl) (wd hw 3 rfl) (by decide) (rm24 l Z a0 hw [] a1394 (((p1390.toUInt32 >>> ((2 : Int32) &&& 31).toUInt32).toInt32) &&& (1 : Int32)) a1399 k1408 p1400 p1401 p1402 p1403 p1404 p1405 p1406 p1407 a1393 h0 n0 O0 pF_a1394_length pF_a1394_first pL_a1399 pV_a1399 pG_a1399 pN_a1394_a1399 pE_a1394 pG_a1394 pE_a1399 pF_a1394_text) e0 pE_a1394 (g := (mkF m 80 #[iv p1390, iv p1391, iv p1392, rv a1393, rv a1394, iv (1 : Int32), iv (((p1390.toUInt32 >>> ((2 : Int32) &&& 31).toUInt32).toInt32) &&& (1 : Int32)), .unset, .unset, .unset, .unset] [(.int (((p1390.toUInt32 >>> ((2 : Int32) &&& 31).toUInt32).toInt32) &&& (1 : Int32))), (.ref a1394)])) rfl (by rw [hml]; rfl) (rest := []) (W := 0) (lenOf pd_3 rfl) rfl (by show 2 * 0 + _ ≤ _; exact Nat.le_of_eq rfl) (hb hby at_80) (by decide) (by decide) (by decide) (by decide)
  obtain ⟨h1413, e1413⟩ : ∃ z, T1413.heap = z := ⟨_, rfl⟩
  rw [e1413] at hQ1413
  obtain ⟨rfl, Nq1413, K1413, ex1545, vx1546, ex1547, fx1548, fx1549, fx1550⟩ := hQ1413
  have N1413 := Fr.app N0 Nq1413
  refine own_via (fun t k => st1413 t (XS.istore X1413.here hx rfl (hb hby at_83) rfl (l' := #[iv p1390, iv p1391, iv p1392, rv a1393, rv a1394, iv (1 : Int32), iv (((p1390.toUInt32 >>> ((2 : Int32) &&& 31).toUInt32).toInt32) &&& (1 : Int32)), iv (1 : Int32), .unset, .unset, .unset]) rfl (XS.iconst X1413.here hx rfl (hb hby at_85) (XS.istore X1413.here hx rfl (hb hby at_86) rfl (l' := #[iv p1390, iv p1391, iv p1392, rv a1393, rv a1394, iv (1 : Int32), iv (((p1390.toUInt32 >>> ((2 : Int32) &&& 31).toUInt32).toInt32) &&& (1 : Int32)), iv (1 : Int32), iv (0 : Int32), .unset, .unset]) rfl (XS.iloadN X1413.here hx rfl (hb hby at_88) rfl (XS.bipush X1413.here hx rfl (hb hby at_89) (XS.iand X1413.here hx rfl (hb hby at_91) rfl k))))))) ?_
  show own_Goes p e below (T1413.setTop (mkF m 92 #[iv p1390, iv p1391, iv p1392, rv a1393, rv a1394, iv (1 : Int32), iv (((p1390.toUInt32 >>> ((2 : Int32) &&& 31).toUInt32).toInt32) &&& (1 : Int32)), iv (1 : Int32), iv (0 : Int32), .unset, .unset] [(.int (p1390 &&& (8 : Int32)))])) _
  by_cases hc1551 : (p1390 &&& (8 : Int32)) = (0 : Int32)
  · refine own_via (fun t k => XS.ifYes X1413.here hx rfl (pc0 := 92) (pc' := 105) rfl (hb hby at_92) rfl ((if0 _ _).trans (teq hc1551).1) (by decide) (by decide) k) ?_
    have V2178 : Arv Z h1413 a1393 k1398 .byte (4 : Int32) [(.int (123 : Int32)), (.int (91 : Int32)), (.int (49 : Int32)), (.int (110 : Int32))] (.int (0 : Int32)) := (pV_a1393.keep K1413 (ninS pN_a1393_a1399 (ninS pN_a1393_a1394 nin0)))
    have l2179 : own_Len Z h1413 a1399 .int (16 : Int32) := ⟨_, _, _, vx1546⟩
    have O2180 : Old Z n0 h1413 := (O0.keep K1413 (allS pG_a1399 (allS pG_a1394 all0)))
    exact sfx19 l Z a0 hw ws p1395 p1396 p1397 p1390 p1391 p1392 a1393 a1394 (((p1390.toUInt32 >>> ((2 : Int32) &&& 31).toUInt32).toInt32) &&& (1 : Int32)) a1399 k1408 p1400 (0 : Int32) (0 : Int32) p1404 p1405 p1406 p1407 k1398 Bd hZ hml X1413 h1413 e1413 n0 O2180 N1413 fx1550 fx1549 vx1546 pG_a1399 ex1545 ex1547 pN_a1394_a1399 fx1548 (own_nn_mask ((p1390.toUInt32 >>> ((2 : Int32) &&& 31).toUInt32).toInt32) (1 : Int32) 1 (by decide) (by decide)) (own_lt_mask ((p1390.toUInt32 >>> ((2 : Int32) &&& 31).toUInt32).toInt32) (1 : Int32) 1 (by decide) (by decide) (by decide)) V2178 pN_a1393_a1399 l2179 pG_a1394 pN_a1393_a1394
  · refine own_via (fun t k => XS.ifNo X1413.here hx rfl (hb hby at_92) rfl ((if0 _ _).trans (feq hc1551).1) (XS.aload X1413.here hx rfl (hb hby at_95) rfl rfl (XS.iconst X1413.here hx rfl (hb hby at_97) k))) ?_
    show own_Goes p e below (T1413.setTop (mkF m 98 #[iv p1390, iv p1391, iv p1392, rv a1393, rv a1394, iv (1 : Int32), iv (((p1390.toUInt32 >>> ((2 : Int32) &&& 31).toUInt32).toInt32) &&& (1 : Int32)), iv (1 : Int32), iv (0 : Int32), .unset, .unset] [(.int (3 : Int32)), (.ref a1394)])) _
    have l2182 : own_Len Z h1413 a1399 .int (16 : Int32) := ⟨_, _, _, vx1546⟩
    have O2183 : Old Z n0 h1413 := (O0.keep K1413 (allS pG_a1399 (allS pG_a1394 all0)))
    obtain ⟨_, T2181, _, X2181, hQ2181, st2181⟩ := own_cv X1413 hx hZ hown (wd hw 74 rfl) (wd hw 34 rfl) (wd hw 36 rfl) (wd hw 35 rfl) (wd hw 37 rfl) (wd hw 3 rfl) (by decide) (rm20 l Z a0 hw [] a1394 a1399 k1408 p1400 (((p1390.toUInt32 >>> ((2 : Int32) &&& 31).toUInt32).toInt32) &&& (1 : Int32)) (0 : Int32) (0 : Int32) p1404 p1405 p1406 p1407 a1393 h1413 n0 O2183 fx1550 fx1549 l2182 vx1546 pG_a1399 pN_a1394_a1399 ex1547 pG_a1394 ex1545 fx1548) e1413 ex1547 (g := (mkF m 98 #[iv p1390, iv p1391, iv p1392, rv a1393, rv a1394, iv (1 : Int32), iv (((p1390.toUInt32 >>> ((2 : Int32) &&& 31).toUInt32).toInt32) &&& (1 : Int32)), iv (1 : Int32), iv (0 : Int32), .unset, .unset] [(.int (3 : Int32)), (.ref a1394)])) rfl (by rw [hml]; rfl) (rest := []) (W := 0) (lenOf pd_3 rfl) rfl (by show 2 * 0 + _ ≤ _; exact Nat.le_of_eq rfl) (hb hby at_98) (by decide) (by decide) (by decide) (by decide)
    obtain ⟨h2181, e2181⟩ : ∃ z, T2181.heap = z := ⟨_, rfl⟩
    rw [e2181] at hQ2181
    obtain ⟨rfl, Nq2181, K2181, ex2184, vx2185, ex2186, fx2187, fx2188, fx2189⟩ := hQ2181
    have N2181 := Fr.app N1413 Nq2181
    refine own_via (fun t k => st2181 t (XS.pop X2181.here hx rfl (hb hby at_101) rfl rfl (XS.iinc X2181.here hx rfl (hb hby at_102) rfl (l' := #[iv p1390, iv p1391, iv p1392, rv a1393, rv a1394, iv (1 : Int32), iv (((p1390.toUInt32 >>> ((2 : Int32) &&& 31).toUInt32).toInt32) &&& (1 : Int32)), iv (1 : Int32), iv (1 : Int32), .unset, .unset]) rfl k))) ?_
    show own_Goes p e below (T2181.setTop (mkF m 105 #[iv p1390, iv p1391, iv p1392, rv a1393, rv a1394, iv (1 : Int32), iv (((p1390.toUInt32 >>> ((2 : Int32) &&& 31).toUInt32).toInt32) &&& (1 : Int32)), iv (1 : Int32), iv (1 : Int32), .unset, .unset] [])) _
    have V2392 : Arv Z h2181 a1393 k1398 .byte (4 : Int32) [(.int (123 : Int32)), (.int (91 : Int32)), (.int (49 : Int32)), (.int (110 : Int32))] (.int (0 : Int32)) := ((pV_a1393.keep K1413 (ninS pN_a1393_a1399 (ninS pN_a1393_a1394 nin0))).keep K2181 (ninS pN_a1393_a1399 (ninS pN_a1393_a1394 nin0)))
    have l2393 : own_Len Z h2181 a1399 .int (16 : Int32) := ⟨_, _, _, vx2185⟩
    have O2394 : Old Z n0 h2181 := (O2183.keep K2181 (allS pG_a1399 (allS pG_a1394 all0)))
    exact sfx23 l Z a0 hw ws p1395 p1396 p1397 p1390 p1391 p1392 a1393 a1394 (((p1390.toUInt32 >>> ((2 : Int32) &&& 31).toUInt32).toInt32) &&& (1 : Int32)) a1399 k1408 p1400 (0 : Int32) (0 : Int32) (3 : Int32) p1405 p1406 p1407 k1398 Bd hZ hml X2181 h2181 e2181 n0 O2394 N2181 fx2189 fx2188 vx2185 pG_a1399 ex2184 ex2186 pN_a1394_a1399 fx2187 (own_nn_mask ((p1390.toUInt32 >>> ((2 : Int32) &&& 31).toUInt32).toInt32) (1 : Int32) 1 (by decide) (by decide)) (own_lt_mask ((p1390.toUInt32 >>> ((2 : Int32) &&& 31).toUInt32).toInt32) (1 : Int32) 1 (by decide) (by decide) (by decide)) V2392 pN_a1393_a1399 l2393 pG_a1394 pN_a1393_a1394
set_option maxRecDepth 65536 in
set_option maxHeartbeats 40000000 in
theorem sfx25 (l : Launch) (Z : State) (a0 : Array Value) (hw : ∀ d ∈ tables_1, d.before a0 Z = true) (ws : List Jvm.Cond) {p : Program} {e : Env} {s : State} {m : MethodId} {below : List Frame} {meth : Method} {c : Code} {s₁ : State} (p132 : Int32) (p133 : Int32) (p134 : Int32) (p127 : Int32) (p128 : Int32) (p129 : Int32) (a130 : Addr) (a131 : Addr) (a136 : Addr) (k145 : ClassId) (p137 : Int32) (p138 : Int32) (p139 : Int32) (p140 : Int32) (p141 : Int32) (p142 : Int32) (p143 : Int32) (p144 : Int32) (k135 : ClassId) (Bd : BodyLoose p l x (head1 (Jvm.Cond.code x code maxLocals ret :: ws) room_1) code maxLocals ret e s m #[(.int p132), (.int p133), (.int p134)] below meth c s₁) (hZ : Z.Warmed39 s.vm) (hml : c.maxLocals = 11) {T0 : State} {locs0 : List Loc} (X0 : Stand p l e room_1 s m #[(.int p132), (.int p133), (.int p134)] below meth c T0 locs0 8 120) (h0 : Heap) (e0 : T0.heap = h0) (n0 : Nat) (O0 : Old Z n0 h0) (N0 : Fr n0 locs0) (pF_a131_length : Fld Z h0 a131 zs1 "length" "I" (.int (0 : Int32))) (pF_a131_first : Fld Z h0 a131 zs1 "first" "[I" (.ref a136)) (pL_a136 : own_Len Z h0 a136 .int (16 : Int32)) (pV_a136 : Arv Z h0 a136 k145 .int (16 : Int32) [(.int p137), (.int p138), (.int p139), (.int p140), (.int p141), (.int p142), (.int p143), (.int p144)] (.int (0 : Int32))) (pG_a136 : n0 ≤ a136) (pN_a131_a136 : a131 ≠ a136) (pE_a131 : Exa Z h0 a131 zs1) (pG_a131 : n0 ≤ a131) (pE_a136 : Exa Z h0 a136 "[I") (pF_a131_text : Fld Z h0 a131 zs1 "text" "[B" (.ref a130)) (pV_a130 : Arv Z h0 a130 k135 .byte (4 : Int32) [(.int (123 : Int32)), (.int (91 : Int32)), (.int (49 : Int32)), (.int (110 : Int32))] (.int (0 : Int32))) (pN_a130_a131 : a130 ≠ a131) (pN_a130_a136 : a130 ≠ a136) :
    own_Goes p e below (T0.setTop (mkF m 53 #[iv p127, iv p128, iv p129, rv a130, rv a131, iv (0 : Int32), .unset, .unset, .unset, .unset, .unset] [])) (own_G s below n0) := by
  have hx := Bd.exec
  have hby := Bd.bytes
  have hown : s.vm.findClass zs2 = some m.cls := findClass_of_methodNamed Bd.named
  have hnm := (name_of_methodNamed Bd.named Bd.method).1
  show own_Goes p e below (T0.setTop (mkF m 53 #[iv p127, iv p128, iv p129, rv a130, rv a131, iv (0 : Int32), .unset, .unset, .unset, .unset, .unset] [])) _
  refine own_via (fun t k => XS.iloadN X0.here hx rfl (hb hby at_53) rfl (XS.iconst X0.here hx rfl (hb hby at_54) (XS.iand X0.here hx rfl (hb hby at_55) rfl k))) ?_
  show own_Goes p e below (T0.setTop (mkF m 56 #[iv p127, iv p128, iv p129, rv a130, rv a131, iv (0 : Int32), .unset, .unset, .unset, .unset, .unset] [(.int (p127 &&& (2 : Int32)))])) _
  by_cases hc149 : (p127 &&& (2 : Int32)) = (0 : Int32)
  · refine own_via (fun t k => XS.ifYes X0.here hx rfl (pc0 := 56) (pc' := 69) rfl (hb hby at_56) rfl ((if0 _ _).trans (teq hc149).1) (by decide) (by decide) k) ?_
    exact sfx12 l Z a0 hw ws p132 p133 p134 p127 p128 p129 a130 a131 a136 k145 p137 p138 p139 p140 p141 p142 p143 p144 k135 Bd hZ hml X0 h0 e0 n0 O0 N0 pF_a131_length pF_a131_first pL_a136 pV_a136 pG_a136 pN_a131_a136 pE_a131 pG_a131 pE_a136 pF_a131_text pV_a130 pN_a130_a131 pN_a130_a136
  · refine own_via (fun t k => XS.ifNo X0.here hx rfl (hb hby at_56) rfl ((if0 _ _).trans (feq hc149).1) (XS.aload X0.here hx rfl (hb hby at_59) rfl rfl (XS.iconst X0.here hx rfl (hb hby at_61) k))) ?_
    show own_Goes p e below (T0.setTop (mkF m 62 #[iv p127, iv p128, iv p129, rv a130, rv a131, iv (0 : Int32), .unset, .unset, .unset, .unset, .unset] [(.int (2 : Int32)), (.ref a131)])) _
    obtain ⟨_, T1345, _, X1345, hQ1345, st1345⟩ := own_cv X0 hx hZ hown (wd hw 74 rfl) (wd hw 34 rfl) (wd hw 36 rfl) (wd hw 35 rfl) (wd hw 37 rfl) (wd hw 3 rfl) (by decide) (rm21 l Z a0 hw [] a131 a136 k145 p137 p138 p139 p140 p141 p142 p143 p144 a130 h0 n0 O0 pF_a131_length pF_a131_first pL_a136 pV_a136 pG_a136 pN_a131_a136 pE_a131 pG_a131 pE_a136 pF_a131_text) e0 pE_a131 (g := (mkF m 62 #[iv p127, iv p128, iv p129, rv a130, rv a131, iv (0 : Int32), .unset, .unset, .unset, .unset, .unset] [(.int (2 : Int32)), (.ref a131)])) rfl (by rw [hml]; rfl) (rest := []) (W := 0) (lenOf pd_3 rfl) rfl (by show 2 * 0 + _ ≤ _; exact Nat.le_of_eq rfl) (hb hby at_62) (by decide) (by decide) (by decide) (by decide)
    obtain ⟨h1345, e1345⟩ : ∃ z, T1345.heap = z := ⟨_, rfl⟩
    rw [e1345] at hQ1345
    obtain ⟨rfl, Nq1345, K1345, vx1384, ex1385, ex1386, fx1387, fx1388, fx1389⟩ := hQ1345
    have N1345 := Fr.app N0 Nq1345
    refine own_via (fun t k => st1345 t (XS.pop X1345.here hx rfl (hb hby at_65) rfl rfl (XS.iinc X1345.here hx rfl (hb hby at_66) rfl (l' := #[iv p127, iv p128, iv p129, rv a130, rv a131, iv (1 : Int32), .unset, .unset, .unset, .unset, .unset]) rfl k))) ?_
    show own_Goes p e below (T1345.setTop (mkF m 69 #[iv p127, iv p128, iv p129, rv a130, rv a131, iv (1 : Int32), .unset, .unset, .unset, .unset, .unset] [])) _
    have l2395 : own_Len Z h1345 a136 .int (16 : Int32) := ⟨_, _, _, vx1384⟩
    have V2396 : Arv Z h1345 a130 k135 .byte (4 : Int32) [(.int (123 : Int32)), (.int (91 : Int32)), (.int (49 : Int32)), (.int (110 : Int32))] (.int (0 : Int32)) := (pV_a130.keep K1345 (ninS pN_a130_a136 (ninS pN_a130_a131 nin0)))
    have O2397 : Old Z n0 h1345 := (O0.keep K1345 (allS pG_a136 (allS pG_a131 all0)))
    exact sfx24 l Z a0 hw ws p132 p133 p134 p127 p128 p129 a130 a131 a136 k145 (2 : Int32) p138 p139 p140 p141 p142 p143 p144 k135 Bd hZ hml X1345 h1345 e1345 n0 O2397 N1345 fx1389 fx1388 l2395 vx1384 pG_a136 pN_a131_a136 ex1386 pG_a131 ex1385 fx1387 V2396 pN_a130_a131 pN_a130_a136
def Q35 (Z : State) (a2434 : Addr) (a2441 : Addr) (k2450 : ClassId) (p2442 : Int32) (p2443 : Int32) (p2444 : Int32) (p2445 : Int32) (p2446 : Int32) (p2447 : Int32) (p2448 : Int32) (p2449 : Int32) (a2435 : Addr) (h0 : Heap) (n0 : Nat) (v : Option Value) (h : Heap) (L : List Loc) : Prop := v = some (.int (1 : Int32)) ∧ Fr n0 L ∧ Keep h0 h [a2441, a2434] ∧ Exa Z h a2441 "[I" ∧ Arv Z h a2441 k2450 .int (16 : Int32) [(.int p2442), (.int (2 : Int32)), (.int p2444), (.int p2445), (.int p2446), (.int p2447), (.int p2448), (.int p2449)] (.int (0 : Int32)) ∧ Exa Z h a2434 zs1 ∧ Fld Z h a2434 zs1 "text" "[B" (.ref a2435) ∧ Fld Z h a2434 zs1 "first" "[I" (.ref a2441) ∧ Fld Z h a2434 zs1 "length" "I" (.int (2 : Int32))
set_option maxRecDepth 65536 in
set_option maxHeartbeats 40000000 in
theorem rm35 (l : Launch) (Z : State) (a0 : Array Value) (hw : ∀ d ∈ tables_1, d.before a0 Z = true) (ws : List Jvm.Cond) (a2434 : Addr) (a2441 : Addr) (k2450 : ClassId) (p2442 : Int32) (p2443 : Int32) (p2444 : Int32) (p2445 : Int32) (p2446 : Int32) (p2447 : Int32) (p2448 : Int32) (p2449 : Int32) (a2435 : Addr) (h0 : Heap) (n0 : Nat) (O0 : Old Z n0 h0) (pF_a2434_length : Fld Z h0 a2434 zs1 "length" "I" (.int (1 : Int32))) (pF_a2434_first : Fld Z h0 a2434 zs1 "first" "[I" (.ref a2441)) (pL_a2441 : own_Len Z h0 a2441 .int (16 : Int32)) (pV_a2441 : Arv Z h0 a2441 k2450 .int (16 : Int32) [(.int p2442), (.int p2443), (.int p2444), (.int p2445), (.int p2446), (.int p2447), (.int p2448), (.int p2449)] (.int (0 : Int32))) (pG_a2441 : n0 ≤ a2441) (pN_a2434_a2441 : a2434 ≠ a2441) (pE_a2434 : Exa Z h0 a2434 zs1) (pG_a2434 : n0 ≤ a2434) (pE_a2441 : Exa Z h0 a2441 "[I") (pF_a2434_text : Fld Z h0 a2434 zs1 "text" "[B" (.ref a2435)) :
    MetFree l (⟨zs1, "add", "(I)I"⟩ : MethodName) (head1 (Jvm.Cond.code (⟨zs1, "add", "(I)I"⟩ : MethodName) prog_17_method_2_code 2 (some .int) :: ws) ({ frames := 0, cells := 0, slots := 0, locals := 0 } : Room)) (fun a U => a = #[(.ref a2434), (.int (2 : Int32))] ∧ Z.Warmed39 U.vm ∧ U.heap = h0) (fun _ _ _ _ _ => True) (fun _ U o U' => ∃ v L, o = .returned v ∧ Q35 Z a2434 a2441 k2450 p2442 p2443 p2444 p2445 p2446 p2447 p2448 p2449 a2435 h0 n0 v U'.heap L ∧ FrameEnd U o U' L ({ frames := 0, cells := 0, slots := 0, locals := 0 } : Room).cells ({ frames := 0, cells := 0, slots := 0, locals := 0 } : Room).slots) := by
  refine MetFree.of_bodySF (plainFor_of_name pn_1) hisR ?_
  intro p e s m args below meth c s₁ Bd hml0 hP hK
  obtain ⟨rfl, hZ, hh⟩ := hP
  have hx := Bd.exec
  have hby := Bd.bytes
  have hml : c.maxLocals = 2 := hml0
  have hown : s.vm.findClass zs1 = some m.cls := findClass_of_methodNamed Bd.named
  have hnm := (name_of_methodNamed Bd.named Bd.method).1
  have X0 : Stand p l e ({ frames := 0, cells := 0, slots := 0, locals := 0 } : Room) s m #[(.ref a2434), (.int (2 : Int32))] below meth c s₁ [] 0 0 := Stand.of_body Bd
  have e0 : s₁.heap = h0 := by rw [← hh, Bd.state]; rfl
  have N0 := Fr.nil n0
  refine own_out ?_
  refine own_via (fun t k => castTop (ef_3 m a2434 (2 : Int32)) (XS.aloadN X0.here hx rfl (hb hby d5_0) rfl rfl k)) ?_
  obtain ⟨T2456, X2456, e2456, st2456⟩ := getF X0 hx hZ hown (host := "") (Or.inl (wd hw 38 rfl)) Via.refl e0 pF_a2434_length (g := (mkF m 1 #[rv a2434, iv (2 : Int32)] [(.ref a2434)])) rfl rfl (hb hby d5_1)
  refine own_via (fun t k => st2456 t (XS.aloadN X2456.here hx rfl (hb hby d5_4) rfl rfl k)) ?_
  obtain ⟨T2457, X2457, e2457, st2457⟩ := getF X2456 hx hZ hown (host := "") (Or.inl (wd hw 25 rfl)) Via.refl e2456 pF_a2434_first (g := (mkF m 5 #[rv a2434, iv (2 : Int32)] [(.ref a2434), (.int (1 : Int32))])) rfl rfl (hb hby d5_5)
  refine own_via (fun t k => st2457 t k) ?_
  obtain ⟨_, _, _, V2458⟩ := id (pL_a2441)
  obtain ⟨cl2458, Ar2458, -, S2458, M2458, -, -⟩ := id (V2458)
  refine own_via (fun t k => X2457.arraylength hx (by rw [e2457]; exact Ar2458.1) (State.isArrayOf_alike hZ.alike Ar2458.2.1) (g := (mkF m 8 #[rv a2434, iv (2 : Int32)] [(.ref a2441), (.int (1 : Int32))])) rfl rfl (hb hby d5_8) t k) ?_
  rw [len_of S2458 M2458]
  show own_Goes p e below (T2457.setTop (mkF m 9 #[rv a2434, iv (2 : Int32)] [(.int (16 : Int32)), (.int (1 : Int32))])) _
  refine own_via (fun t k => XS.icmpNo X2457.here hx rfl (hb hby d5_9) rfl (tlt (by decide : (1 : Int32) < (16 : Int32))).2.1 (XS.aloadN X2457.here hx rfl (hb hby d5_12) rfl rfl k)) ?_
  obtain ⟨T2459, X2459, e2459, st2459⟩ := getF X2457 hx hZ hown (host := "") (Or.inl (wd hw 25 rfl)) Via.refl e2457 pF_a2434_first (g := (mkF m 13 #[rv a2434, iv (2 : Int32)] [(.ref a2434)])) rfl rfl (hb hby d5_13)
  refine own_via (fun t k => st2459 t (XS.aloadN X2459.here hx rfl (hb hby d5_16) rfl rfl k)) ?_
  obtain ⟨T2460, X2460, e2460, st2460⟩ := getF X2459 hx hZ hown (host := "") (Or.inl (wd hw 38 rfl)) Via.refl e2459 pF_a2434_length (g := (mkF m 17 #[rv a2434, iv (2 : Int32)] [(.ref a2434), (.ref a2441)])) rfl rfl (hb hby d5_17)
  refine own_via (fun t k => st2460 t (XS.iloadN X2460.here hx rfl (hb hby d5_20) rfl k)) ?_
  obtain ⟨cl2461, Ar2461, qq2461, S2461, M2461, H2461, G2461⟩ := id (pV_a2441)
  have hin2461 : ¬ ((1 : Int32) < 0 ∨ cl2461.slots.size ≤ ((1 : Int32)).toNatClampNeg) := inb_of S2461 ⟨by decide, by decide⟩
  obtain ⟨T2461, h2461, X2461, e2461, W2461, st2461⟩ := stI X2460 hx hZ e2460 Ar2461 (j := (1 : Int32)) hin2461 (g := (mkF m 21 #[rv a2434, iv (2 : Int32)] [(.int (2 : Int32)), (.int (1 : Int32)), (.ref a2441)])) rfl rfl (hb hby d5_21)
  refine own_via (fun t k => st2461 t k) ?_
  have V2462 : Arv Z h2461 a2441 k2450 .int (16 : Int32) [(.int p2442), (.int (2 : Int32)), (.int p2444), (.int p2445), (.int p2446), (.int p2447), (.int p2448), (.int p2449)] (.int (0 : Int32)) := Arv.set Ar2461 qq2461 S2461 M2461 H2461 G2461 rfl W2461 1 rfl (Nat.le_of_ble_eq_true rfl)
  have N2461 := Fr.snoc X2461 N0 pG_a2441
  show own_Goes p e below (T2461.setTop (mkF m 22 #[rv a2434, iv (2 : Int32)] [])) _
  refine own_via (fun t k => XS.aloadN X2461.here hx rfl (hb hby d5_22) rfl rfl (XS.dup X2461.here hx rfl (hb hby d5_23) rfl rfl k)) ?_
  have F2463 : Fld Z h2461 a2434 zs1 "length" "I" (.int (1 : Int32)) := (pF_a2434_length.other W2461 (Or.inl pN_a2434_a2441))
  obtain ⟨T2464, X2464, e2464, st2464⟩ := getF X2461 hx hZ hown (host := "") (Or.inl (wd hw 38 rfl)) Via.refl e2461 F2463 (g := (mkF m 24 #[rv a2434, iv (2 : Int32)] [(.ref a2434), (.ref a2434)])) rfl rfl (hb hby d5_24)
  refine own_via (fun t k => st2464 t (XS.dupX1 X2464.here hx rfl (hb hby d5_27) rfl rfl rfl (XS.iconst X2464.here hx rfl (hb hby d5_28) (XS.iadd X2464.here hx rfl (hb hby d5_29) rfl k)))) ?_
  show own_Goes p e below (T2464.setTop (mkF m 30 #[rv a2434, iv (2 : Int32)] [(.int (2 : Int32)), (.ref a2434), (.int (1 : Int32))])) _
  have E2465 : Exa Z h2461 a2434 zs1 := (pE_a2434.wr W2461)
  obtain ⟨T2466, h2466, X2466, e2466, W2466, st2466⟩ := putF X2464 hx hZ hown (host := "") (Or.inl (wd hw 38 rfl)) Via.refl e2464 F2463 E2465 (Or.inl (wd hw 39 rfl)) (wd hw 2 rfl) (ty := .int) (by decide) rfl rfl (g := (mkF m 30 #[rv a2434, iv (2 : Int32)] [(.int (2 : Int32)), (.ref a2434), (.int (1 : Int32))])) rfl rfl (hb hby d5_30)
  refine own_via (fun t k => st2466 t k) ?_
  have Fw2466 : Fld Z h2466 a2434 zs1 "length" "I" (.int (2 : Int32)) := F2463.same W2466
  have N2466 := Fr.snoc X2466 N2461 pG_a2434
  show own_Goes p e below (T2466.setTop (mkF m 33 #[rv a2434, iv (2 : Int32)] [(.int (1 : Int32))])) _
  obtain ⟨fs, hr, hrun, hended, hW, hsame⟩ := X2466.leave (v := some (.int (1 : Int32))) (fun h => by rw [Bd.returns] at h; cases h)
  refine own_end (t := T2466.setFrames fs) ?_ ⟨_, hrun, hended, _, _, rfl, ?_, ⟨_, rfl⟩, hW, hsame.mono (by decide) (by decide)⟩
  · exact retI X2466 hx Bd.returns (hb hby d5_33) hr
  have E2467 : Exa Z h2466 a2441 "[I" := ((pE_a2441.wr W2461).wr W2466)
  have V2468 : Arv Z h2466 a2441 k2450 .int (16 : Int32) [(.int p2442), (.int (2 : Int32)), (.int p2444), (.int p2445), (.int p2446), (.int p2447), (.int p2448), (.int p2449)] (.int (0 : Int32)) := (V2462.other W2466 (Ne.symm pN_a2434_a2441))
  have E2469 : Exa Z h2466 a2434 zs1 := (E2465.wr W2466)
  have F2470 : Fld Z h2466 a2434 zs1 "text" "[B" (.ref a2435) := ((pF_a2434_text.other W2461 (Or.inl pN_a2434_a2441)).other W2466 (Or.inr (slot_ne (Or.inr (wd hw 19 rfl)) (Or.inl (wd hw 39 rfl)) (by decide) (t := (.array .byte)) (t' := .int) (by decide) (by decide))))
  have F2471 : Fld Z h2466 a2434 zs1 "first" "[I" (.ref a2441) := ((pF_a2434_first.other W2461 (Or.inl pN_a2434_a2441)).other W2466 (Or.inr (slot_ne (Or.inl (wd hw 26 rfl)) (Or.inl (wd hw 39 rfl)) (by decide) (t := (.array .int)) (t' := .int) (by decide) (by decide))))
  · show Q35 Z a2434 a2441 k2450 p2442 p2443 p2444 p2445 p2446 p2447 p2448 p2449 a2435 h0 n0 _ T2466.heap _
    rw [e2466]
    exact ⟨rfl, N2466, (((Keep.refl h0 [a2441, a2434]).wr W2461 (Or.inl (List.mem_of_getElem? (i := 0) rfl))).wr W2466 (Or.inl (List.mem_of_getElem? (i := 1) rfl))), E2467, V2468, E2469, F2470, F2471, Fw2466⟩
def Q36 (Z : State) (a2528 : Addr) (p2529 : Int32) (a2536 : Addr) (k2545 : ClassId) (p2537 : Int32) (p2538 : Int32) (p2539 : Int32) (p2540 : Int32) (p2541 : Int32) (p2542 : Int32) (p2543 : Int32) (p2544 : Int32) (a2530 : Addr) (h0 : Heap) (n0 : Nat) (v : Option Value) (h : Heap) (L : List Loc) : Prop := v = some (.int (2 : Int32)) ∧ Fr n0 L ∧ Keep h0 h [a2536, a2528] ∧ Exa Z h a2536 "[I" ∧ Arv Z h a2536 k2545 .int (16 : Int32) [(.int p2537), (.int p2538), (.int p2529), (.int p2540), (.int p2541), (.int p2542), (.int p2543), (.int p2544)] (.int (0 : Int32)) ∧ Exa Z h a2528 zs1 ∧ Fld Z h a2528 zs1 "text" "[B" (.ref a2530) ∧ Fld Z h a2528 zs1 "first" "[I" (.ref a2536) ∧ Fld Z h a2528 zs1 "length" "I" (.int (3 : Int32))
set_option maxRecDepth 65536 in
set_option maxHeartbeats 40000000 in
theorem rm36 (l : Launch) (Z : State) (a0 : Array Value) (hw : ∀ d ∈ tables_1, d.before a0 Z = true) (ws : List Jvm.Cond) (a2528 : Addr) (p2529 : Int32) (a2536 : Addr) (k2545 : ClassId) (p2537 : Int32) (p2538 : Int32) (p2539 : Int32) (p2540 : Int32) (p2541 : Int32) (p2542 : Int32) (p2543 : Int32) (p2544 : Int32) (a2530 : Addr) (h0 : Heap) (n0 : Nat) (O0 : Old Z n0 h0) (pF_a2528_length : Fld Z h0 a2528 zs1 "length" "I" (.int (2 : Int32))) (pF_a2528_first : Fld Z h0 a2528 zs1 "first" "[I" (.ref a2536)) (pL_a2536 : own_Len Z h0 a2536 .int (16 : Int32)) (pV_a2536 : Arv Z h0 a2536 k2545 .int (16 : Int32) [(.int p2537), (.int p2538), (.int p2539), (.int p2540), (.int p2541), (.int p2542), (.int p2543), (.int p2544)] (.int (0 : Int32))) (pG_a2536 : n0 ≤ a2536) (pN_a2528_a2536 : a2528 ≠ a2536) (pE_a2528 : Exa Z h0 a2528 zs1) (pG_a2528 : n0 ≤ a2528) (pE_a2536 : Exa Z h0 a2536 "[I") (pF_a2528_text : Fld Z h0 a2528 zs1 "text" "[B" (.ref a2530)) :
    MetFree l (⟨zs1, "add", "(I)I"⟩ : MethodName) (head1 (Jvm.Cond.code (⟨zs1, "add", "(I)I"⟩ : MethodName) prog_17_method_2_code 2 (some .int) :: ws) ({ frames := 0, cells := 0, slots := 0, locals := 0 } : Room)) (fun a U => a = #[(.ref a2528), (.int p2529)] ∧ Z.Warmed39 U.vm ∧ U.heap = h0) (fun _ _ _ _ _ => True) (fun _ U o U' => ∃ v L, o = .returned v ∧ Q36 Z a2528 p2529 a2536 k2545 p2537 p2538 p2539 p2540 p2541 p2542 p2543 p2544 a2530 h0 n0 v U'.heap L ∧ FrameEnd U o U' L ({ frames := 0, cells := 0, slots := 0, locals := 0 } : Room).cells ({ frames := 0, cells := 0, slots := 0, locals := 0 } : Room).slots) := by
  refine MetFree.of_bodySF (plainFor_of_name pn_1) hisR ?_
  intro p e s m args below meth c s₁ Bd hml0 hP hK
  obtain ⟨rfl, hZ, hh⟩ := hP
  have hx := Bd.exec
  have hby := Bd.bytes
  have hml : c.maxLocals = 2 := hml0
  have hown : s.vm.findClass zs1 = some m.cls := findClass_of_methodNamed Bd.named
  have hnm := (name_of_methodNamed Bd.named Bd.method).1
  have X0 : Stand p l e ({ frames := 0, cells := 0, slots := 0, locals := 0 } : Room) s m #[(.ref a2528), (.int p2529)] below meth c s₁ [] 0 0 := Stand.of_body Bd
  have e0 : s₁.heap = h0 := by rw [← hh, Bd.state]; rfl
  have N0 := Fr.nil n0
  refine own_out ?_
  refine own_via (fun t k => castTop (ef_3 m a2528 p2529) (XS.aloadN X0.here hx rfl (hb hby d5_0) rfl rfl k)) ?_
  obtain ⟨T2553, X2553, e2553, st2553⟩ := getF X0 hx hZ hown (host := "") (Or.inl (wd hw 38 rfl)) Via.refl e0 pF_a2528_length (g := (mkF m 1 #[rv a2528, iv p2529] [(.ref a2528)])) rfl rfl (hb hby d5_1)
  refine own_via (fun t k => st2553 t (XS.aloadN X2553.here hx rfl (hb hby d5_4) rfl rfl k)) ?_
  obtain ⟨T2554, X2554, e2554, st2554⟩ := getF X2553 hx hZ hown (host := "") (Or.inl (wd hw 25 rfl)) Via.refl e2553 pF_a2528_first (g := (mkF m 5 #[rv a2528, iv p2529] [(.ref a2528), (.int (2 : Int32))])) rfl rfl (hb hby d5_5)
  refine own_via (fun t k => st2554 t k) ?_
  obtain ⟨_, _, _, V2555⟩ := id (pL_a2536)
  obtain ⟨cl2555, Ar2555, -, S2555, M2555, -, -⟩ := id (V2555)
  refine own_via (fun t k => X2554.arraylength hx (by rw [e2554]; exact Ar2555.1) (State.isArrayOf_alike hZ.alike Ar2555.2.1) (g := (mkF m 8 #[rv a2528, iv p2529] [(.ref a2536), (.int (2 : Int32))])) rfl rfl (hb hby d5_8) t k) ?_
  rw [len_of S2555 M2555]
  show own_Goes p e below (T2554.setTop (mkF m 9 #[rv a2528, iv p2529] [(.int (16 : Int32)), (.int (2 : Int32))])) _
  refine own_via (fun t k => XS.icmpNo X2554.here hx rfl (hb hby d5_9) rfl (tlt (by decide : (2 : Int32) < (16 : Int32))).2.1 (XS.aloadN X2554.here hx rfl (hb hby d5_12) rfl rfl k)) ?_
  obtain ⟨T2556, X2556, e2556, st2556⟩ := getF X2554 hx hZ hown (host := "") (Or.inl (wd hw 25 rfl)) Via.refl e2554 pF_a2528_first (g := (mkF m 13 #[rv a2528, iv p2529] [(.ref a2528)])) rfl rfl (hb hby d5_13)
  refine own_via (fun t k => st2556 t (XS.aloadN X2556.here hx rfl (hb hby d5_16) rfl rfl k)) ?_
  obtain ⟨T2557, X2557, e2557, st2557⟩ := getF X2556 hx hZ hown (host := "") (Or.inl (wd hw 38 rfl)) Via.refl e2556 pF_a2528_length (g := (mkF m 17 #[rv a2528, iv p2529] [(.ref a2528), (.ref a2536)])) rfl rfl (hb hby d5_17)
  refine own_via (fun t k => st2557 t (XS.iloadN X2557.here hx rfl (hb hby d5_20) rfl k)) ?_
  obtain ⟨cl2558, Ar2558, qq2558, S2558, M2558, H2558, G2558⟩ := id (pV_a2536)
  have hin2558 : ¬ ((2 : Int32) < 0 ∨ cl2558.slots.size ≤ ((2 : Int32)).toNatClampNeg) := inb_of S2558 ⟨by decide, by decide⟩
  obtain ⟨T2558, h2558, X2558, e2558, W2558, st2558⟩ := stI X2557 hx hZ e2557 Ar2558 (j := (2 : Int32)) hin2558 (g := (mkF m 21 #[rv a2528, iv p2529] [(.int p2529), (.int (2 : Int32)), (.ref a2536)])) rfl rfl (hb hby d5_21)
  refine own_via (fun t k => st2558 t k) ?_
  have V2559 : Arv Z h2558 a2536 k2545 .int (16 : Int32) [(.int p2537), (.int p2538), (.int p2529), (.int p2540), (.int p2541), (.int p2542), (.int p2543), (.int p2544)] (.int (0 : Int32)) := Arv.set Ar2558 qq2558 S2558 M2558 H2558 G2558 rfl W2558 2 rfl (Nat.le_of_ble_eq_true rfl)
  have N2558 := Fr.snoc X2558 N0 pG_a2536
  show own_Goes p e below (T2558.setTop (mkF m 22 #[rv a2528, iv p2529] [])) _
  refine own_via (fun t k => XS.aloadN X2558.here hx rfl (hb hby d5_22) rfl rfl (XS.dup X2558.here hx rfl (hb hby d5_23) rfl rfl k)) ?_
  have F2560 : Fld Z h2558 a2528 zs1 "length" "I" (.int (2 : Int32)) := (pF_a2528_length.other W2558 (Or.inl pN_a2528_a2536))
  obtain ⟨T2561, X2561, e2561, st2561⟩ := getF X2558 hx hZ hown (host := "") (Or.inl (wd hw 38 rfl)) Via.refl e2558 F2560 (g := (mkF m 24 #[rv a2528, iv p2529] [(.ref a2528), (.ref a2528)])) rfl rfl (hb hby d5_24)
  refine own_via (fun t k => st2561 t (XS.dupX1 X2561.here hx rfl (hb hby d5_27) rfl rfl rfl (XS.iconst X2561.here hx rfl (hb hby d5_28) (XS.iadd X2561.here hx rfl (hb hby d5_29) rfl k)))) ?_
  show own_Goes p e below (T2561.setTop (mkF m 30 #[rv a2528, iv p2529] [(.int (3 : Int32)), (.ref a2528), (.int (2 : Int32))])) _
  have E2562 : Exa Z h2558 a2528 zs1 := (pE_a2528.wr W2558)
  obtain ⟨T2563, h2563, X2563, e2563, W2563, st2563⟩ := putF X2561 hx hZ hown (host := "") (Or.inl (wd hw 38 rfl)) Via.refl e2561 F2560 E2562 (Or.inl (wd hw 39 rfl)) (wd hw 2 rfl) (ty := .int) (by decide) rfl rfl (g := (mkF m 30 #[rv a2528, iv p2529] [(.int (3 : Int32)), (.ref a2528), (.int (2 : Int32))])) rfl rfl (hb hby d5_30)
  refine own_via (fun t k => st2563 t k) ?_
  have Fw2563 : Fld Z h2563 a2528 zs1 "length" "I" (.int (3 : Int32)) := F2560.same W2563
  have N2563 := Fr.snoc X2563 N2558 pG_a2528
  show own_Goes p e below (T2563.setTop (mkF m 33 #[rv a2528, iv p2529] [(.int (2 : Int32))])) _
  obtain ⟨fs, hr, hrun, hended, hW, hsame⟩ := X2563.leave (v := some (.int (2 : Int32))) (fun h => by rw [Bd.returns] at h; cases h)
  refine own_end (t := T2563.setFrames fs) ?_ ⟨_, hrun, hended, _, _, rfl, ?_, ⟨_, rfl⟩, hW, hsame.mono (by decide) (by decide)⟩
  · exact retI X2563 hx Bd.returns (hb hby d5_33) hr
  have E2564 : Exa Z h2563 a2536 "[I" := ((pE_a2536.wr W2558).wr W2563)
  have V2565 : Arv Z h2563 a2536 k2545 .int (16 : Int32) [(.int p2537), (.int p2538), (.int p2529), (.int p2540), (.int p2541), (.int p2542), (.int p2543), (.int p2544)] (.int (0 : Int32)) := (V2559.other W2563 (Ne.symm pN_a2528_a2536))
  have E2566 : Exa Z h2563 a2528 zs1 := (E2562.wr W2563)
  have F2567 : Fld Z h2563 a2528 zs1 "text" "[B" (.ref a2530) := ((pF_a2528_text.other W2558 (Or.inl pN_a2528_a2536)).other W2563 (Or.inr (slot_ne (Or.inr (wd hw 19 rfl)) (Or.inl (wd hw 39 rfl)) (by decide) (t := (.array .byte)) (t' := .int) (by decide) (by decide))))
  have F2568 : Fld Z h2563 a2528 zs1 "first" "[I" (.ref a2536) := ((pF_a2528_first.other W2558 (Or.inl pN_a2528_a2536)).other W2563 (Or.inr (slot_ne (Or.inl (wd hw 26 rfl)) (Or.inl (wd hw 39 rfl)) (by decide) (t := (.array .int)) (t' := .int) (by decide) (by decide))))
  · show Q36 Z a2528 p2529 a2536 k2545 p2537 p2538 p2539 p2540 p2541 p2542 p2543 p2544 a2530 h0 n0 _ T2563.heap _
    rw [e2563]
    exact ⟨rfl, N2563, (((Keep.refl h0 [a2536, a2528]).wr W2558 (Or.inl (List.mem_of_getElem? (i := 0) rfl))).wr W2563 (Or.inl (List.mem_of_getElem? (i := 1) rfl))), E2564, V2565, E2566, F2567, F2568, Fw2563⟩
def Q37 (Z : State) (a2585 : Addr) (a2592 : Addr) (k2601 : ClassId) (p2593 : Int32) (p2594 : Int32) (p2595 : Int32) (p2596 : Int32) (p2597 : Int32) (p2598 : Int32) (p2599 : Int32) (p2600 : Int32) (a2586 : Addr) (h0 : Heap) (n0 : Nat) (v : Option Value) (h : Heap) (L : List Loc) : Prop := v = some (.int (4 : Int32)) ∧ Fr n0 L ∧ Keep h0 h [a2592, a2585] ∧ Exa Z h a2592 "[I" ∧ Arv Z h a2592 k2601 .int (16 : Int32) [(.int p2593), (.int p2594), (.int p2595), (.int p2596), (.int (0 : Int32)), (.int p2598), (.int p2599), (.int p2600)] (.int (0 : Int32)) ∧ Exa Z h a2585 zs1 ∧ Fld Z h a2585 zs1 "text" "[B" (.ref a2586) ∧ Fld Z h a2585 zs1 "first" "[I" (.ref a2592) ∧ Fld Z h a2585 zs1 "length" "I" (.int (5 : Int32))
set_option maxRecDepth 65536 in
set_option maxHeartbeats 40000000 in
theorem rm37 (l : Launch) (Z : State) (a0 : Array Value) (hw : ∀ d ∈ tables_1, d.before a0 Z = true) (ws : List Jvm.Cond) (a2585 : Addr) (a2592 : Addr) (k2601 : ClassId) (p2593 : Int32) (p2594 : Int32) (p2595 : Int32) (p2596 : Int32) (p2597 : Int32) (p2598 : Int32) (p2599 : Int32) (p2600 : Int32) (a2586 : Addr) (h0 : Heap) (n0 : Nat) (O0 : Old Z n0 h0) (pF_a2585_length : Fld Z h0 a2585 zs1 "length" "I" (.int (4 : Int32))) (pF_a2585_first : Fld Z h0 a2585 zs1 "first" "[I" (.ref a2592)) (pL_a2592 : own_Len Z h0 a2592 .int (16 : Int32)) (pV_a2592 : Arv Z h0 a2592 k2601 .int (16 : Int32) [(.int p2593), (.int p2594), (.int p2595), (.int p2596), (.int p2597), (.int p2598), (.int p2599), (.int p2600)] (.int (0 : Int32))) (pG_a2592 : n0 ≤ a2592) (pN_a2585_a2592 : a2585 ≠ a2592) (pE_a2585 : Exa Z h0 a2585 zs1) (pG_a2585 : n0 ≤ a2585) (pE_a2592 : Exa Z h0 a2592 "[I") (pF_a2585_text : Fld Z h0 a2585 zs1 "text" "[B" (.ref a2586)) :
    MetFree l (⟨zs1, "add", "(I)I"⟩ : MethodName) (head1 (Jvm.Cond.code (⟨zs1, "add", "(I)I"⟩ : MethodName) prog_17_method_2_code 2 (some .int) :: ws) ({ frames := 0, cells := 0, slots := 0, locals := 0 } : Room)) (fun a U => a = #[(.ref a2585), (.int (0 : Int32))] ∧ Z.Warmed39 U.vm ∧ U.heap = h0) (fun _ _ _ _ _ => True) (fun _ U o U' => ∃ v L, o = .returned v ∧ Q37 Z a2585 a2592 k2601 p2593 p2594 p2595 p2596 p2597 p2598 p2599 p2600 a2586 h0 n0 v U'.heap L ∧ FrameEnd U o U' L ({ frames := 0, cells := 0, slots := 0, locals := 0 } : Room).cells ({ frames := 0, cells := 0, slots := 0, locals := 0 } : Room).slots) := by
  refine MetFree.of_bodySF (plainFor_of_name pn_1) hisR ?_
  intro p e s m args below meth c s₁ Bd hml0 hP hK
  obtain ⟨rfl, hZ, hh⟩ := hP
  have hx := Bd.exec
  have hby := Bd.bytes
  have hml : c.maxLocals = 2 := hml0
  have hown : s.vm.findClass zs1 = some m.cls := findClass_of_methodNamed Bd.named
  have hnm := (name_of_methodNamed Bd.named Bd.method).1
  have X0 : Stand p l e ({ frames := 0, cells := 0, slots := 0, locals := 0 } : Room) s m #[(.ref a2585), (.int (0 : Int32))] below meth c s₁ [] 0 0 := Stand.of_body Bd
  have e0 : s₁.heap = h0 := by rw [← hh, Bd.state]; rfl
  have N0 := Fr.nil n0
  refine own_out ?_
  refine own_via (fun t k => castTop (ef_3 m a2585 (0 : Int32)) (XS.aloadN X0.here hx rfl (hb hby d5_0) rfl rfl k)) ?_
  obtain ⟨T2609, X2609, e2609, st2609⟩ := getF X0 hx hZ hown (host := "") (Or.inl (wd hw 38 rfl)) Via.refl e0 pF_a2585_length (g := (mkF m 1 #[rv a2585, iv (0 : Int32)] [(.ref a2585)])) rfl rfl (hb hby d5_1)
  refine own_via (fun t k => st2609 t (XS.aloadN X2609.here hx rfl (hb hby d5_4) rfl rfl k)) ?_
  obtain ⟨T2610, X2610, e2610, st2610⟩ := getF X2609 hx hZ hown (host := "") (Or.inl (wd hw 25 rfl)) Via.refl e2609 pF_a2585_first (g := (mkF m 5 #[rv a2585, iv (0 : Int32)] [(.ref a2585), (.int (4 : Int32))])) rfl rfl (hb hby d5_5)
  refine own_via (fun t k => st2610 t k) ?_
  obtain ⟨_, _, _, V2611⟩ := id (pL_a2592)
  obtain ⟨cl2611, Ar2611, -, S2611, M2611, -, -⟩ := id (V2611)
  refine own_via (fun t k => X2610.arraylength hx (by rw [e2610]; exact Ar2611.1) (State.isArrayOf_alike hZ.alike Ar2611.2.1) (g := (mkF m 8 #[rv a2585, iv (0 : Int32)] [(.ref a2592), (.int (4 : Int32))])) rfl rfl (hb hby d5_8) t k) ?_
  rw [len_of S2611 M2611]
  show own_Goes p e below (T2610.setTop (mkF m 9 #[rv a2585, iv (0 : Int32)] [(.int (16 : Int32)), (.int (4 : Int32))])) _
  refine own_via (fun t k => XS.icmpNo X2610.here hx rfl (hb hby d5_9) rfl (tlt (by decide : (4 : Int32) < (16 : Int32))).2.1 (XS.aloadN X2610.here hx rfl (hb hby d5_12) rfl rfl k)) ?_
  obtain ⟨T2612, X2612, e2612, st2612⟩ := getF X2610 hx hZ hown (host := "") (Or.inl (wd hw 25 rfl)) Via.refl e2610 pF_a2585_first (g := (mkF m 13 #[rv a2585, iv (0 : Int32)] [(.ref a2585)])) rfl rfl (hb hby d5_13)
  refine own_via (fun t k => st2612 t (XS.aloadN X2612.here hx rfl (hb hby d5_16) rfl rfl k)) ?_
  obtain ⟨T2613, X2613, e2613, st2613⟩ := getF X2612 hx hZ hown (host := "") (Or.inl (wd hw 38 rfl)) Via.refl e2612 pF_a2585_length (g := (mkF m 17 #[rv a2585, iv (0 : Int32)] [(.ref a2585), (.ref a2592)])) rfl rfl (hb hby d5_17)
  refine own_via (fun t k => st2613 t (XS.iloadN X2613.here hx rfl (hb hby d5_20) rfl k)) ?_
  obtain ⟨cl2614, Ar2614, qq2614, S2614, M2614, H2614, G2614⟩ := id (pV_a2592)
  have hin2614 : ¬ ((4 : Int32) < 0 ∨ cl2614.slots.size ≤ ((4 : Int32)).toNatClampNeg) := inb_of S2614 ⟨by decide, by decide⟩
  obtain ⟨T2614, h2614, X2614, e2614, W2614, st2614⟩ := stI X2613 hx hZ e2613 Ar2614 (j := (4 : Int32)) hin2614 (g := (mkF m 21 #[rv a2585, iv (0 : Int32)] [(.int (0 : Int32)), (.int (4 : Int32)), (.ref a2592)])) rfl rfl (hb hby d5_21)
  refine own_via (fun t k => st2614 t k) ?_
  have V2615 : Arv Z h2614 a2592 k2601 .int (16 : Int32) [(.int p2593), (.int p2594), (.int p2595), (.int p2596), (.int (0 : Int32)), (.int p2598), (.int p2599), (.int p2600)] (.int (0 : Int32)) := Arv.set Ar2614 qq2614 S2614 M2614 H2614 G2614 rfl W2614 4 rfl (Nat.le_of_ble_eq_true rfl)
  have N2614 := Fr.snoc X2614 N0 pG_a2592
  show own_Goes p e below (T2614.setTop (mkF m 22 #[rv a2585, iv (0 : Int32)] [])) _
  refine own_via (fun t k => XS.aloadN X2614.here hx rfl (hb hby d5_22) rfl rfl (XS.dup X2614.here hx rfl (hb hby d5_23) rfl rfl k)) ?_
  have F2616 : Fld Z h2614 a2585 zs1 "length" "I" (.int (4 : Int32)) := (pF_a2585_length.other W2614 (Or.inl pN_a2585_a2592))
  obtain ⟨T2617, X2617, e2617, st2617⟩ := getF X2614 hx hZ hown (host := "") (Or.inl (wd hw 38 rfl)) Via.refl e2614 F2616 (g := (mkF m 24 #[rv a2585, iv (0 : Int32)] [(.ref a2585), (.ref a2585)])) rfl rfl (hb hby d5_24)
  refine own_via (fun t k => st2617 t (XS.dupX1 X2617.here hx rfl (hb hby d5_27) rfl rfl rfl (XS.iconst X2617.here hx rfl (hb hby d5_28) (XS.iadd X2617.here hx rfl (hb hby d5_29) rfl k)))) ?_
  show own_Goes p e below (T2617.setTop (mkF m 30 #[rv a2585, iv (0 : Int32)] [(.int (5 : Int32)), (.ref a2585), (.int (4 : Int32))])) _
  have E2618 : Exa Z h2614 a2585 zs1 := (pE_a2585.wr W2614)
  obtain ⟨T2619, h2619, X2619, e2619, W2619, st2619⟩ := putF X2617 hx hZ hown (host := "") (Or.inl (wd hw 38 rfl)) Via.refl e2617 F2616 E2618 (Or.inl (wd hw 39 rfl)) (wd hw 2 rfl) (ty := .int) (by decide) rfl rfl (g := (mkF m 30 #[rv a2585, iv (0 : Int32)] [(.int (5 : Int32)), (.ref a2585), (.int (4 : Int32))])) rfl rfl (hb hby d5_30)
  refine own_via (fun t k => st2619 t k) ?_
  have Fw2619 : Fld Z h2619 a2585 zs1 "length" "I" (.int (5 : Int32)) := F2616.same W2619
  have N2619 := Fr.snoc X2619 N2614 pG_a2585
  show own_Goes p e below (T2619.setTop (mkF m 33 #[rv a2585, iv (0 : Int32)] [(.int (4 : Int32))])) _
  obtain ⟨fs, hr, hrun, hended, hW, hsame⟩ := X2619.leave (v := some (.int (4 : Int32))) (fun h => by rw [Bd.returns] at h; cases h)
  refine own_end (t := T2619.setFrames fs) ?_ ⟨_, hrun, hended, _, _, rfl, ?_, ⟨_, rfl⟩, hW, hsame.mono (by decide) (by decide)⟩
  · exact retI X2619 hx Bd.returns (hb hby d5_33) hr
  have E2620 : Exa Z h2619 a2592 "[I" := ((pE_a2592.wr W2614).wr W2619)
  have V2621 : Arv Z h2619 a2592 k2601 .int (16 : Int32) [(.int p2593), (.int p2594), (.int p2595), (.int p2596), (.int (0 : Int32)), (.int p2598), (.int p2599), (.int p2600)] (.int (0 : Int32)) := (V2615.other W2619 (Ne.symm pN_a2585_a2592))
  have E2622 : Exa Z h2619 a2585 zs1 := (E2618.wr W2619)
  have F2623 : Fld Z h2619 a2585 zs1 "text" "[B" (.ref a2586) := ((pF_a2585_text.other W2614 (Or.inl pN_a2585_a2592)).other W2619 (Or.inr (slot_ne (Or.inr (wd hw 19 rfl)) (Or.inl (wd hw 39 rfl)) (by decide) (t := (.array .byte)) (t' := .int) (by decide) (by decide))))
  have F2624 : Fld Z h2619 a2585 zs1 "first" "[I" (.ref a2592) := ((pF_a2585_first.other W2614 (Or.inl pN_a2585_a2592)).other W2619 (Or.inr (slot_ne (Or.inl (wd hw 26 rfl)) (Or.inl (wd hw 39 rfl)) (by decide) (t := (.array .int)) (t' := .int) (by decide) (by decide))))
  · show Q37 Z a2585 a2592 k2601 p2593 p2594 p2595 p2596 p2597 p2598 p2599 p2600 a2586 h0 n0 _ T2619.heap _
    rw [e2619]
    exact ⟨rfl, N2619, (((Keep.refl h0 [a2592, a2585]).wr W2614 (Or.inl (List.mem_of_getElem? (i := 0) rfl))).wr W2619 (Or.inl (List.mem_of_getElem? (i := 1) rfl))), E2620, V2621, E2622, F2623, F2624, Fw2619⟩
def Q38 (Z : State) (a2502 : Addr) (p2503 : Int32) (a2510 : Addr) (k2519 : ClassId) (p2511 : Int32) (p2512 : Int32) (p2513 : Int32) (p2514 : Int32) (p2515 : Int32) (p2516 : Int32) (p2517 : Int32) (p2518 : Int32) (a2504 : Addr) (h0 : Heap) (n0 : Nat) (v : Option Value) (h : Heap) (L : List Loc) : Prop := v = some (.int (2 : Int32)) ∧ Fr n0 L ∧ Keep h0 h [a2510, a2502] ∧ Exa Z h a2510 "[I" ∧ Arv Z h a2510 k2519 .int (16 : Int32) [(.int p2511), (.int p2512), (.int p2503), (.int (0 : Int32)), (.int (0 : Int32)), (.int p2516), (.int p2517), (.int p2518)] (.int (0 : Int32)) ∧ Exa Z h a2502 zs1 ∧ Fld Z h a2502 zs1 "text" "[B" (.ref a2504) ∧ Fld Z h a2502 zs1 "first" "[I" (.ref a2510) ∧ Fld Z h a2502 zs1 "length" "I" (.int (5 : Int32))
set_option maxRecDepth 65536 in
set_option maxHeartbeats 40000000 in
theorem rm38 (l : Launch) (Z : State) (a0 : Array Value) (hw : ∀ d ∈ tables_1, d.before a0 Z = true) (ws : List Jvm.Cond) (a2502 : Addr) (p2503 : Int32) (a2510 : Addr) (k2519 : ClassId) (p2511 : Int32) (p2512 : Int32) (p2513 : Int32) (p2514 : Int32) (p2515 : Int32) (p2516 : Int32) (p2517 : Int32) (p2518 : Int32) (a2504 : Addr) (h0 : Heap) (n0 : Nat) (O0 : Old Z n0 h0) (pF_a2502_length : Fld Z h0 a2502 zs1 "length" "I" (.int (2 : Int32))) (pF_a2502_first : Fld Z h0 a2502 zs1 "first" "[I" (.ref a2510)) (pL_a2510 : own_Len Z h0 a2510 .int (16 : Int32)) (pV_a2510 : Arv Z h0 a2510 k2519 .int (16 : Int32) [(.int p2511), (.int p2512), (.int p2513), (.int p2514), (.int p2515), (.int p2516), (.int p2517), (.int p2518)] (.int (0 : Int32))) (pG_a2510 : n0 ≤ a2510) (pN_a2502_a2510 : a2502 ≠ a2510) (pE_a2502 : Exa Z h0 a2502 zs1) (pG_a2502 : n0 ≤ a2502) (pE_a2510 : Exa Z h0 a2510 "[I") (pF_a2502_text : Fld Z h0 a2502 zs1 "text" "[B" (.ref a2504)) :
    MetFree l (⟨zs1, "open", "(I)I"⟩ : MethodName) (head1 (Jvm.Cond.code (⟨zs1, "open", "(I)I"⟩ : MethodName) prog_17_method_5_code 3 (some .int) :: ws) ({ frames := 1, cells := 0, slots := 0, locals := 13 } : Room)) (fun a U => a = #[(.ref a2502), (.int p2503)] ∧ Z.Warmed39 U.vm ∧ U.heap = h0) (fun _ _ _ _ _ => True) (fun _ U o U' => ∃ v L, o = .returned v ∧ Q38 Z a2502 p2503 a2510 k2519 p2511 p2512 p2513 p2514 p2515 p2516 p2517 p2518 a2504 h0 n0 v U'.heap L ∧ FrameEnd U o U' L ({ frames := 1, cells := 0, slots := 0, locals := 13 } : Room).cells ({ frames := 1, cells := 0, slots := 0, locals := 13 } : Room).slots) := by
  refine MetFree.of_bodySF (plainFor_of_name pn_1) hisR ?_
  intro p e s m args below meth c s₁ Bd hml0 hP hK
  obtain ⟨rfl, hZ, hh⟩ := hP
  have hx := Bd.exec
  have hby := Bd.bytes
  have hml : c.maxLocals = 3 := hml0
  have hown : s.vm.findClass zs1 = some m.cls := findClass_of_methodNamed Bd.named
  have hnm := (name_of_methodNamed Bd.named Bd.method).1
  have X0 : Stand p l e ({ frames := 1, cells := 0, slots := 0, locals := 13 } : Room) s m #[(.ref a2502), (.int p2503)] below meth c s₁ [] 0 0 := Stand.of_body Bd
  have e0 : s₁.heap = h0 := by rw [← hh, Bd.state]; rfl
  have N0 := Fr.nil n0
  refine own_out ?_
  refine own_via (fun t k => castTop (ef_4 m a2502 p2503) (XS.aloadN X0.here hx rfl (hb hby d4_0) rfl rfl (XS.iloadN X0.here hx rfl (hb hby d4_1) rfl k))) ?_
  show own_Goes p e below (s₁.setTop (mkF m 2 #[rv a2502, iv p2503, .unset] [(.int p2503), (.ref a2502)])) _
  obtain ⟨_, T2527, _, X2527, hQ2527, st2527⟩ := own_cv X0 hx hZ hown (wd hw 33 rfl) (wd hw 34 rfl) (wd hw 36 rfl) (wd hw 35 rfl) (wd hw 37 rfl) (wd hw 3 rfl) (by decide) (rm36 l Z a0 hw [] a2502 p2503 a2510 k2519 p2511 p2512 p2513 p2514 p2515 p2516 p2517 p2518 a2504 h0 n0 O0 pF_a2502_length pF_a2502_first pL_a2510 pV_a2510 pG_a2510 pN_a2502_a2510 pE_a2502 pG_a2502 pE_a2510 pF_a2502_text) e0 pE_a2502 (g := (mkF m 2 #[rv a2502, iv p2503, .unset] [(.int p2503), (.ref a2502)])) rfl (by rw [hml]; rfl) (rest := []) (W := 0) (lenOf pd_3 rfl) rfl (by show 2 * 0 + _ ≤ _; exact Nat.le_of_eq rfl) (hb hby d4_2) (by decide) (by decide) (by decide) (by decide)
  obtain ⟨h2527, e2527⟩ : ∃ z, T2527.heap = z := ⟨_, rfl⟩
  rw [e2527] at hQ2527
  obtain ⟨rfl, Nq2527, K2527, ex2569, vx2570, ex2571, fx2572, fx2573, fx2574⟩ := hQ2527
  have N2527 := Fr.app N0 Nq2527
  refine own_via (fun t k => st2527 t (XS.istoreN X2527.here hx rfl (hb hby d4_5) rfl (l' := #[rv a2502, iv p2503, iv (2 : Int32)]) rfl (XS.aloadN X2527.here hx rfl (hb hby d4_6) rfl rfl (XS.iconst X2527.here hx rfl (hb hby d4_7) k)))) ?_
  show own_Goes p e below (T2527.setTop (mkF m 8 #[rv a2502, iv p2503, iv (2 : Int32)] [(.int (0 : Int32)), (.ref a2502)])) _
  have l2576 : own_Len Z h2527 a2510 .int (16 : Int32) := ⟨_, _, _, vx2570⟩
  have O2577 : Old Z n0 h2527 := (O0.keep K2527 (allS pG_a2510 (allS pG_a2502 all0)))
  obtain ⟨_, T2575, _, X2575, hQ2575, st2575⟩ := own_cv X2527 hx hZ hown (wd hw 33 rfl) (wd hw 34 rfl) (wd hw 36 rfl) (wd hw 35 rfl) (wd hw 37 rfl) (wd hw 3 rfl) (by decide) (rm23 l Z a0 hw [] a2502 a2510 k2519 p2511 p2512 p2503 p2514 p2515 p2516 p2517 p2518 a2504 h2527 n0 O2577 fx2574 fx2573 l2576 vx2570 pG_a2510 pN_a2502_a2510 ex2571 pG_a2502 ex2569 fx2572) e2527 ex2571 (g := (mkF m 8 #[rv a2502, iv p2503, iv (2 : Int32)] [(.int (0 : Int32)), (.ref a2502)])) rfl (by rw [hml]; rfl) (rest := []) (W := 0) (lenOf pd_3 rfl) rfl (by show 2 * 0 + _ ≤ _; exact Nat.le_of_eq rfl) (hb hby d4_8) (by decide) (by decide) (by decide) (by decide)
  obtain ⟨h2575, e2575⟩ : ∃ z, T2575.heap = z := ⟨_, rfl⟩
  rw [e2575] at hQ2575
  obtain ⟨rfl, Nq2575, K2575, ex2578, vx2579, ex2580, fx2581, fx2582, fx2583⟩ := hQ2575
  have N2575 := Fr.app N2527 Nq2575
  refine own_via (fun t k => st2575 t (XS.pop X2575.here hx rfl (hb hby d4_11) rfl rfl (XS.aloadN X2575.here hx rfl (hb hby d4_12) rfl rfl (XS.iconst X2575.here hx rfl (hb hby d4_13) k)))) ?_
  show own_Goes p e below (T2575.setTop (mkF m 14 #[rv a2502, iv p2503, iv (2 : Int32)] [(.int (0 : Int32)), (.ref a2502)])) _
  have l2625 : own_Len Z h2575 a2510 .int (16 : Int32) := ⟨_, _, _, vx2579⟩
  have O2626 : Old Z n0 h2575 := (O2577.keep K2575 (allS pG_a2510 (allS pG_a2502 all0)))
  obtain ⟨_, T2584, _, X2584, hQ2584, st2584⟩ := own_cv X2575 hx hZ hown (wd hw 33 rfl) (wd hw 34 rfl) (wd hw 36 rfl) (wd hw 35 rfl) (wd hw 37 rfl) (wd hw 3 rfl) (by decide) (rm37 l Z a0 hw [] a2502 a2510 k2519 p2511 p2512 p2503 (0 : Int32) p2515 p2516 p2517 p2518 a2504 h2575 n0 O2626 fx2583 fx2582 l2625 vx2579 pG_a2510 pN_a2502_a2510 ex2580 pG_a2502 ex2578 fx2581) e2575 ex2580 (g := (mkF m 14 #[rv a2502, iv p2503, iv (2 : Int32)] [(.int (0 : Int32)), (.ref a2502)])) rfl (by rw [hml]; rfl) (rest := []) (W := 0) (lenOf pd_3 rfl) rfl (by show 2 * 0 + _ ≤ _; exact Nat.le_of_eq rfl) (hb hby d4_14) (by decide) (by decide) (by decide) (by decide)
  obtain ⟨h2584, e2584⟩ : ∃ z, T2584.heap = z := ⟨_, rfl⟩
  rw [e2584] at hQ2584
  obtain ⟨rfl, Nq2584, K2584, ex2627, vx2628, ex2629, fx2630, fx2631, fx2632⟩ := hQ2584
  have N2584 := Fr.app N2575 Nq2584
  refine own_via (fun t k => st2584 t (XS.pop X2584.here hx rfl (hb hby d4_17) rfl rfl (XS.iloadN X2584.here hx rfl (hb hby d4_18) rfl k))) ?_
  show own_Goes p e below (T2584.setTop (mkF m 19 #[rv a2502, iv p2503, iv (2 : Int32)] [(.int (2 : Int32))])) _
  obtain ⟨fs, hr, hrun, hended, hW, hsame⟩ := X2584.leave (v := some (.int (2 : Int32))) (fun h => by rw [Bd.returns] at h; cases h)
  refine own_end (t := T2584.setFrames fs) ?_ ⟨_, hrun, hended, _, _, rfl, ?_, ⟨_, rfl⟩, hW, hsame.mono (by decide) (by decide)⟩
  · exact retI X2584 hx Bd.returns (hb hby d4_19) hr
  · show Q38 Z a2502 p2503 a2510 k2519 p2511 p2512 p2513 p2514 p2515 p2516 p2517 p2518 a2504 h0 n0 _ T2584.heap _
    rw [e2584]
    exact ⟨rfl, N2584, ((((Keep.refl h0 [a2510, a2502]).trans K2527 (allS (Or.inl (List.mem_of_getElem? (i := 0) rfl)) (allS (Or.inl (List.mem_of_getElem? (i := 1) rfl)) all0))).trans K2575 (allS (Or.inl (List.mem_of_getElem? (i := 0) rfl)) (allS (Or.inl (List.mem_of_getElem? (i := 1) rfl)) all0))).trans K2584 (allS (Or.inl (List.mem_of_getElem? (i := 0) rfl)) (allS (Or.inl (List.mem_of_getElem? (i := 1) rfl)) all0))), ex2627, vx2628, ex2629, fx2630, fx2631, fx2632⟩
def Q39 (Z : State) (a2766 : Addr) (p2767 : Int32) (a2774 : Addr) (k2783 : ClassId) (p2776 : Int32) (p2777 : Int32) (p2778 : Int32) (p2775 : Int32) (p2779 : Int32) (p2780 : Int32) (p2781 : Int32) (p2782 : Int32) (h0 : Heap) (n0 : Nat) (v : Option Value) (h : Heap) (L : List Loc) : Prop := v = none ∧ Fr n0 L ∧ Keep h0 h [a2774] ∧ Exa Z h a2774 "[I" ∧ Arv Z h a2774 k2783 .int (16 : Int32) [(.int p2776), (.int p2777), (.int p2778), (.int p2775), (.int p2767), (.int p2780), (.int p2781), (.int p2782)] (.int (0 : Int32))
set_option maxRecDepth 65536 in
set_option maxHeartbeats 40000000 in
theorem rm39 (l : Launch) (Z : State) (a0 : Array Value) (hw : ∀ d ∈ tables_1, d.before a0 Z = true) (ws : List Jvm.Cond) (a2766 : Addr) (p2767 : Int32) (a2774 : Addr) (k2783 : ClassId) (p2776 : Int32) (p2777 : Int32) (p2778 : Int32) (p2775 : Int32) (p2779 : Int32) (p2780 : Int32) (p2781 : Int32) (p2782 : Int32) (h0 : Heap) (n0 : Nat) (O0 : Old Z n0 h0) (pF_a2766_first : Fld Z h0 a2766 zs1 "first" "[I" (.ref a2774)) (pV_a2774 : Arv Z h0 a2774 k2783 .int (16 : Int32) [(.int p2776), (.int p2777), (.int p2778), (.int p2775), (.int p2779), (.int p2780), (.int p2781), (.int p2782)] (.int (0 : Int32))) (pG_a2774 : n0 ≤ a2774) (pE_a2774 : Exa Z h0 a2774 "[I") :
    MetFree l (⟨zs1, "set", "(II)V"⟩ : MethodName) (head1 (Jvm.Cond.code (⟨zs1, "set", "(II)V"⟩ : MethodName) prog_17_method_29_code 3 none :: ws) ({ frames := 0, cells := 0, slots := 0, locals := 0 } : Room)) (fun a U => a = #[(.ref a2766), (.int (4 : Int32)), (.int p2767)] ∧ Z.Warmed39 U.vm ∧ U.heap = h0) (fun _ _ _ _ _ => True) (fun _ U o U' => ∃ v L, o = .returned v ∧ Q39 Z a2766 p2767 a2774 k2783 p2776 p2777 p2778 p2775 p2779 p2780 p2781 p2782 h0 n0 v U'.heap L ∧ FrameEnd U o U' L ({ frames := 0, cells := 0, slots := 0, locals := 0 } : Room).cells ({ frames := 0, cells := 0, slots := 0, locals := 0 } : Room).slots) := by
  refine MetFree.of_bodySF (plainFor_of_name pn_1) hisR ?_
  intro p e s m args below meth c s₁ Bd hml0 hP hK
  obtain ⟨rfl, hZ, hh⟩ := hP
  have hx := Bd.exec
  have hby := Bd.bytes
  have hml : c.maxLocals = 3 := hml0
  have hown : s.vm.findClass zs1 = some m.cls := findClass_of_methodNamed Bd.named
  have hnm := (name_of_methodNamed Bd.named Bd.method).1
  have X0 : Stand p l e ({ frames := 0, cells := 0, slots := 0, locals := 0 } : Room) s m #[(.ref a2766), (.int (4 : Int32)), (.int p2767)] below meth c s₁ [] 0 0 := Stand.of_body Bd
  have e0 : s₁.heap = h0 := by rw [← hh, Bd.state]; rfl
  have N0 := Fr.nil n0
  refine own_out ?_
  refine own_via (fun t k => castTop (ef_5 m a2766 (4 : Int32) p2767) (XS.iloadN X0.here hx rfl (hb hby d7_0) rfl (XS.sipush X0.here hx rfl (hb hby d7_1) (XS.icmpNo X0.here hx rfl (hb hby d7_4) rfl (tlt (by decide : (4 : Int32) < (16384 : Int32))).2.1 (XS.aloadN X0.here hx rfl (hb hby d7_7) rfl rfl k))))) ?_
  show own_Goes p e below (s₁.setTop (mkF m 8 #[rv a2766, iv (4 : Int32), iv p2767] [(.ref a2766)])) _
  obtain ⟨T2799, X2799, e2799, st2799⟩ := getF X0 hx hZ hown (host := "") (Or.inl (wd hw 25 rfl)) Via.refl e0 pF_a2766_first (g := (mkF m 8 #[rv a2766, iv (4 : Int32), iv p2767] [(.ref a2766)])) rfl rfl (hb hby d7_8)
  refine own_via (fun t k => st2799 t (XS.iloadN X2799.here hx rfl (hb hby d7_11) rfl (XS.iloadN X2799.here hx rfl (hb hby d7_12) rfl k))) ?_
  show own_Goes p e below (T2799.setTop (mkF m 13 #[rv a2766, iv (4 : Int32), iv p2767] [(.int p2767), (.int (4 : Int32)), (.ref a2774)])) _
  obtain ⟨cl2800, Ar2800, qq2800, S2800, M2800, H2800, G2800⟩ := id (pV_a2774)
  have hin2800 : ¬ ((4 : Int32) < 0 ∨ cl2800.slots.size ≤ ((4 : Int32)).toNatClampNeg) := inb_of S2800 ⟨by decide, by decide⟩
  obtain ⟨T2800, h2800, X2800, e2800, W2800, st2800⟩ := stI X2799 hx hZ e2799 Ar2800 (j := (4 : Int32)) hin2800 (g := (mkF m 13 #[rv a2766, iv (4 : Int32), iv p2767] [(.int p2767), (.int (4 : Int32)), (.ref a2774)])) rfl rfl (hb hby d7_13)
  refine own_via (fun t k => st2800 t k) ?_
  have V2801 : Arv Z h2800 a2774 k2783 .int (16 : Int32) [(.int p2776), (.int p2777), (.int p2778), (.int p2775), (.int p2767), (.int p2780), (.int p2781), (.int p2782)] (.int (0 : Int32)) := Arv.set Ar2800 qq2800 S2800 M2800 H2800 G2800 rfl W2800 4 rfl (Nat.le_of_ble_eq_true rfl)
  have N2800 := Fr.snoc X2800 N0 pG_a2774
  show own_Goes p e below (T2800.setTop (mkF m 14 #[rv a2766, iv (4 : Int32), iv p2767] [])) _
  refine own_via (fun t k => XS.goto X2800.here hx rfl (pc0 := 14) (pc' := 33) rfl (hb hby d7_14) (by decide) (by decide) k) ?_
  obtain ⟨fs, hr, hrun, hended, hW, hsame⟩ := X2800.leave (v := none) (fun _ => rfl)
  refine own_end (t := T2800.setFrames fs) ?_ ⟨_, hrun, hended, _, _, rfl, ?_, ⟨_, rfl⟩, hW, hsame.mono (by decide) (by decide)⟩
  · exact X2800.returnOut hx Bd.returns (hb hby d7_33) hr
  have E2802 : Exa Z h2800 a2774 "[I" := (pE_a2774.wr W2800)
  · show Q39 Z a2766 p2767 a2774 k2783 p2776 p2777 p2778 p2775 p2779 p2780 p2781 p2782 h0 n0 _ T2800.heap _
    rw [e2800]
    exact ⟨rfl, N2800, ((Keep.refl h0 [a2774]).wr W2800 (Or.inl (List.mem_of_getElem? (i := 0) rfl))), E2802, V2801⟩
def Q40 (Z : State) (a2728 : Addr) (p2729 : Int32) (p2746 : Int32) (a2736 : Addr) (k2745 : ClassId) (p2737 : Int32) (p2738 : Int32) (p2739 : Int32) (p2740 : Int32) (p2741 : Int32) (p2742 : Int32) (p2743 : Int32) (p2744 : Int32) (h0 : Heap) (n0 : Nat) (v : Option Value) (h : Heap) (L : List Loc) : Prop := v = none ∧ Fr n0 L ∧ Keep h0 h [a2736] ∧ Exa Z h a2736 "[I" ∧ Arv Z h a2736 k2745 .int (16 : Int32) [(.int p2737), (.int p2738), (.int p2739), (.int p2746), (.int ((p2729 <<< ((1 : Int32) &&& 31)) ||| (0 : Int32))), (.int p2742), (.int p2743), (.int p2744)] (.int (0 : Int32))
set_option maxRecDepth 65536 in
set_option maxHeartbeats 40000000 in
theorem rm40 (l : Launch) (Z : State) (a0 : Array Value) (hw : ∀ d ∈ tables_1, d.before a0 Z = true) (ws : List Jvm.Cond) (a2728 : Addr) (p2729 : Int32) (p2746 : Int32) (a2736 : Addr) (k2745 : ClassId) (p2737 : Int32) (p2738 : Int32) (p2739 : Int32) (p2740 : Int32) (p2741 : Int32) (p2742 : Int32) (p2743 : Int32) (p2744 : Int32) (h0 : Heap) (n0 : Nat) (O0 : Old Z n0 h0) (pF_a2728_length : Fld Z h0 a2728 zs1 "length" "I" (.int p2746)) (pF_a2728_first : Fld Z h0 a2728 zs1 "first" "[I" (.ref a2736)) (pV_a2736 : Arv Z h0 a2736 k2745 .int (16 : Int32) [(.int p2737), (.int p2738), (.int p2739), (.int p2740), (.int p2741), (.int p2742), (.int p2743), (.int p2744)] (.int (0 : Int32))) (pG_a2736 : n0 ≤ a2736) (pE_a2736 : Exa Z h0 a2736 "[I") (pE_a2728 : Exa Z h0 a2728 zs1) (pN_a2728_a2736 : a2728 ≠ a2736) :
    MetFree l (⟨zs1, "close", "(IIZ)V"⟩ : MethodName) (head1 (Jvm.Cond.code (⟨zs1, "close", "(IIZ)V"⟩ : MethodName) prog_17_method_6_code 4 none :: ws) ({ frames := 1, cells := 0, slots := 0, locals := 14 } : Room)) (fun a U => a = #[(.ref a2728), (.int (2 : Int32)), (.int p2729), (.int (0 : Int32))] ∧ Z.Warmed39 U.vm ∧ U.heap = h0) (fun _ _ _ _ _ => True) (fun _ U o U' => ∃ v L, o = .returned v ∧ Q40 Z a2728 p2729 p2746 a2736 k2745 p2737 p2738 p2739 p2740 p2741 p2742 p2743 p2744 h0 n0 v U'.heap L ∧ FrameEnd U o U' L ({ frames := 1, cells := 0, slots := 0, locals := 14 } : Room).cells ({ frames := 1, cells := 0, slots := 0, locals := 14 } : Room).slots) := by
  refine MetFree.of_bodySF (plainFor_of_name pn_1) hisR ?_
  intro p e s m args below meth c s₁ Bd hml0 hP hK
  obtain ⟨rfl, hZ, hh⟩ := hP
  have hx := Bd.exec
  have hby := Bd.bytes
  have hml : c.maxLocals = 4 := hml0
  have hown : s.vm.findClass zs1 = some m.cls := findClass_of_methodNamed Bd.named
  have hnm := (name_of_methodNamed Bd.named Bd.method).1
  have X0 : Stand p l e ({ frames := 1, cells := 0, slots := 0, locals := 14 } : Room) s m #[(.ref a2728), (.int (2 : Int32)), (.int p2729), (.int (0 : Int32))] below meth c s₁ [] 0 0 := Stand.of_body Bd
  have e0 : s₁.heap = h0 := by rw [← hh, Bd.state]; rfl
  have N0 := Fr.nil n0
  refine own_out ?_
  refine own_via (fun t k => castTop (ef_6 m a2728 (2 : Int32) p2729 (0 : Int32)) (XS.aloadN X0.here hx rfl (hb hby d6_0) rfl rfl (XS.iloadN X0.here hx rfl (hb hby d6_1) rfl (XS.iconst X0.here hx rfl (hb hby d6_2) (XS.iadd X0.here hx rfl (hb hby d6_3) rfl (XS.aloadN X0.here hx rfl (hb hby d6_4) rfl rfl k)))))) ?_
  show own_Goes p e below (s₁.setTop (mkF m 5 #[rv a2728, iv (2 : Int32), iv p2729, iv (0 : Int32)] [(.ref a2728), (.int (3 : Int32)), (.ref a2728)])) _
  obtain ⟨T2761, X2761, e2761, st2761⟩ := getF X0 hx hZ hown (host := "") (Or.inl (wd hw 38 rfl)) Via.refl e0 pF_a2728_length (g := (mkF m 5 #[rv a2728, iv (2 : Int32), iv p2729, iv (0 : Int32)] [(.ref a2728), (.int (3 : Int32)), (.ref a2728)])) rfl rfl (hb hby d6_5)
  refine own_via (fun t k => st2761 t k) ?_
  obtain ⟨cq2762, q2762, q2762'⟩ := pE_a2728.cell
  obtain ⟨_, _, ⟨T2762, L2762, c2762, n2762⟩, -, X2762, ⟨Lc2762, hQ2762, l2762, y2762, z2762⟩, st2762⟩ := X2761.privateBack hx (y := (⟨zs1, "set", "(II)V"⟩ : MethodName)) hown (mvT hZ (wd hw 46 rfl)) (mvT hZ (wd hw 47 rfl)) (own_selPriv (mvT hZ (wd hw 2 rfl)) (mvT hZ (wd hw 47 rfl)) (Cond.privateMethod_at (mvP hZ (wd hw 48 rfl) (args := #[]))) (by decide)) (Cond.privateMethod_at (mvP hZ (wd hw 48 rfl) (args := #[]))) (mvT hZ (wd hw 49 rfl)) (by decide) (backOf (W := 0) (rm25 l Z a0 hw [] a2728 p2746 a2736 k2745 p2737 p2738 p2739 p2740 p2741 p2742 p2743 p2744 h0 n0 O0 pF_a2728_first pV_a2736 pG_a2736 pE_a2736) hZ (wd hw 49 rfl) (wd hw 3 rfl) (by decide) (by decide)) (g := (mkF m 8 #[rv a2728, iv (2 : Int32), iv p2729, iv (0 : Int32)] [(.int p2746), (.int (3 : Int32)), (.ref a2728)])) rfl (by rw [hml]; rfl) (Steps.refl _) (a := a2728) (by rw [e2761]; exact q2762) q2762' (argsL := [(.int (3 : Int32)), (.int p2746)]) (rest := []) (lenOf pd_4 rfl) rfl (by show 2 * 0 + _ ≤ _; exact Nat.le_of_eq rfl) (hb hby d6_8) (fun _ _ => ⟨rfl, e2761, (by decide : 0 + 0 ≤ _), (by decide : 0 + 0 ≤ _)⟩)
  dsimp only [Pt.U, Pt.locs, Pt.cells, Pt.slots] at X2762 l2762 y2762 z2762 st2762 hQ2762
  subst l2762 y2762 z2762
  obtain ⟨h2762, e2762⟩ : ∃ z, T2762.heap = z := ⟨_, rfl⟩
  rw [e2762] at hQ2762
  obtain ⟨rfl, Nq2762, K2762, ex2763, vx2764⟩ := hQ2762
  have N2762 := Fr.app N0 Nq2762
  refine own_via (fun t k => st2762.trans (XS.aloadN X2762.here hx rfl (hb hby d6_11) rfl rfl (XS.iloadN X2762.here hx rfl (hb hby d6_12) rfl (XS.iconst X2762.here hx rfl (hb hby d6_13) (XS.iadd X2762.here hx rfl (hb hby d6_14) rfl (XS.iloadN X2762.here hx rfl (hb hby d6_15) rfl (XS.iconst X2762.here hx rfl (hb hby d6_16) (XS.ishl X2762.here hx rfl (hb hby d6_17) rfl (XS.iloadN X2762.here hx rfl (hb hby d6_18) rfl (XS.ifYes X2762.here hx rfl (pc0 := 19) (pc' := 26) rfl (hb hby d6_19) rfl ((if0 _ _).trans (teq (by decide : (0 : Int32) = (0 : Int32))).1) (by decide) (by decide) (XS.iconst X2762.here hx rfl (hb hby d6_26) (XS.ior X2762.here hx rfl (hb hby d6_27) rfl k)))))))))))) ?_
  show own_Goes p e below (T2762.setTop (mkF m 28 #[rv a2728, iv (2 : Int32), iv p2729, iv (0 : Int32)] [(.int ((p2729 <<< ((1 : Int32) &&& 31)) ||| (0 : Int32))), (.int (4 : Int32)), (.ref a2728)])) _
  have F2803 : Fld Z h2762 a2728 zs1 "first" "[I" (.ref a2736) := (pF_a2728_first.keep K2762 (ninS pN_a2728_a2736 nin0))
  have O2804 : Old Z n0 h2762 := (O0.keep K2762 (allS pG_a2736 all0))
  have E2805 : Exa Z h2762 a2728 zs1 := (pE_a2728.keep K2762)
  obtain ⟨cq2765, q2765, q2765'⟩ := E2805.cell
  obtain ⟨_, _, ⟨T2765, L2765, c2765, n2765⟩, -, X2765, ⟨Lc2765, hQ2765, l2765, y2765, z2765⟩, st2765⟩ := X2762.privateBack hx (y := (⟨zs1, "set", "(II)V"⟩ : MethodName)) hown (mvT hZ (wd hw 46 rfl)) (mvT hZ (wd hw 47 rfl)) (own_selPriv (mvT hZ (wd hw 2 rfl)) (mvT hZ (wd hw 47 rfl)) (Cond.privateMethod_at (mvP hZ (wd hw 48 rfl) (args := #[]))) (by decide)) (Cond.privateMethod_at (mvP hZ (wd hw 48 rfl) (args := #[]))) (mvT hZ (wd hw 49 rfl)) (by decide) (backOf (W := 0) (rm39 l Z a0 hw [] a2728 ((p2729 <<< ((1 : Int32) &&& 31)) ||| (0 : Int32)) a2736 k2745 p2737 p2738 p2739 p2746 p2741 p2742 p2743 p2744 h2762 n0 O2804 F2803 vx2764 pG_a2736 ex2763) hZ (wd hw 49 rfl) (wd hw 3 rfl) (by decide) (by decide)) (g := (mkF m 28 #[rv a2728, iv (2 : Int32), iv p2729, iv (0 : Int32)] [(.int ((p2729 <<< ((1 : Int32) &&& 31)) ||| (0 : Int32))), (.int (4 : Int32)), (.ref a2728)])) rfl (by rw [hml]; rfl) (Steps.refl _) (a := a2728) (by rw [e2762]; exact q2765) q2765' (argsL := [(.int (4 : Int32)), (.int ((p2729 <<< ((1 : Int32) &&& 31)) ||| (0 : Int32)))]) (rest := []) (lenOf pd_4 rfl) rfl (by show 2 * 0 + _ ≤ _; exact Nat.le_of_eq rfl) (hb hby d6_28) (fun _ _ => ⟨rfl, e2762, (by decide : 0 + 0 ≤ _), (by decide : 0 + 0 ≤ _)⟩)
  dsimp only [Pt.U, Pt.locs, Pt.cells, Pt.slots] at X2765 l2765 y2765 z2765 st2765 hQ2765
  subst l2765 y2765 z2765
  obtain ⟨h2765, e2765⟩ : ∃ z, T2765.heap = z := ⟨_, rfl⟩
  rw [e2765] at hQ2765
  obtain ⟨rfl, Nq2765, K2765, ex2806, vx2807⟩ := hQ2765
  have N2765 := Fr.app N2762 Nq2765
  refine own_via (fun t k => st2765.trans k) ?_
  obtain ⟨fs, hr, hrun, hended, hW, hsame⟩ := X2765.leave (v := none) (fun _ => rfl)
  refine own_end (t := T2765.setFrames fs) ?_ ⟨_, hrun, hended, _, _, rfl, ?_, ⟨_, rfl⟩, hW, hsame.mono (by decide) (by decide)⟩
  · exact X2765.returnOut hx Bd.returns (hb hby d6_31) hr
  · show Q40 Z a2728 p2729 p2746 a2736 k2745 p2737 p2738 p2739 p2740 p2741 p2742 p2743 p2744 h0 n0 _ T2765.heap _
    rw [e2765]
    exact ⟨rfl, N2765, (((Keep.refl h0 [a2736]).trans K2762 (allS (Or.inl (List.mem_of_getElem? (i := 0) rfl)) all0)).trans K2765 (allS (Or.inl (List.mem_of_getElem? (i := 0) rfl)) all0)), ex2806, vx2807⟩
def Q41 (Z : State) (a2811 : Addr) (a2818 : Addr) (k2828 : ClassId) (p2820 : Int32) (p2821 : Int32) (p2822 : Int32) (p2823 : Int32) (p2824 : Int32) (p2825 : Int32) (p2826 : Int32) (p2827 : Int32) (h0 : Heap) (n0 : Nat) (v : Option Value) (h : Heap) (L : List Loc) : Prop := v = some (.int p2822) ∧ Fr n0 L ∧ h = h0
set_option maxRecDepth 65536 in
set_option maxHeartbeats 40000000 in
theorem rm41 (l : Launch) (Z : State) (a0 : Array Value) (hw : ∀ d ∈ tables_1, d.before a0 Z = true) (ws : List Jvm.Cond) (a2811 : Addr) (a2818 : Addr) (k2828 : ClassId) (p2820 : Int32) (p2821 : Int32) (p2822 : Int32) (p2823 : Int32) (p2824 : Int32) (p2825 : Int32) (p2826 : Int32) (p2827 : Int32) (h0 : Heap) (n0 : Nat) (O0 : Old Z n0 h0) (pF_a2811_first : Fld Z h0 a2811 zs1 "first" "[I" (.ref a2818)) (pV_a2818 : Arv Z h0 a2818 k2828 .int (16 : Int32) [(.int p2820), (.int p2821), (.int p2822), (.int p2823), (.int p2824), (.int p2825), (.int p2826), (.int p2827)] (.int (0 : Int32))) (pE_a2811 : Exa Z h0 a2811 zs1) :
    MetFree l (⟨zs1, "offset", "(I)I"⟩ : MethodName) (head1 (Jvm.Cond.code (⟨zs1, "offset", "(I)I"⟩ : MethodName) prog_17_method_17_code 2 (some .int) :: ws) ({ frames := 1, cells := 0, slots := 0, locals := 13 } : Room)) (fun a U => a = #[(.ref a2811), (.int (2 : Int32))] ∧ Z.Warmed39 U.vm ∧ U.heap = h0) (fun _ _ _ _ _ => True) (fun _ U o U' => ∃ v L, o = .returned v ∧ Q41 Z a2811 a2818 k2828 p2820 p2821 p2822 p2823 p2824 p2825 p2826 p2827 h0 n0 v U'.heap L ∧ FrameEnd U o U' L ({ frames := 1, cells := 0, slots := 0, locals := 13 } : Room).cells ({ frames := 1, cells := 0, slots := 0, locals := 13 } : Room).slots) := by
  refine MetFree.of_bodySF (plainFor_of_name pn_1) hisR ?_
  intro p e s m args below meth c s₁ Bd hml0 hP hK
  obtain ⟨rfl, hZ, hh⟩ := hP
  have hx := Bd.exec
  have hby := Bd.bytes
  have hml : c.maxLocals = 2 := hml0
  have hown : s.vm.findClass zs1 = some m.cls := findClass_of_methodNamed Bd.named
  have hnm := (name_of_methodNamed Bd.named Bd.method).1
  have X0 : Stand p l e ({ frames := 1, cells := 0, slots := 0, locals := 13 } : Room) s m #[(.ref a2811), (.int (2 : Int32))] below meth c s₁ [] 0 0 := Stand.of_body Bd
  have e0 : s₁.heap = h0 := by rw [← hh, Bd.state]; rfl
  have N0 := Fr.nil n0
  refine own_out ?_
  refine own_via (fun t k => castTop (ef_8 m a2811 (2 : Int32)) (XS.aloadN X0.here hx rfl (hb hby d8_0) rfl rfl (XS.iloadN X0.here hx rfl (hb hby d8_1) rfl k))) ?_
  show own_Goes p e below (s₁.setTop (mkF m 2 #[rv a2811, iv (2 : Int32)] [(.int (2 : Int32)), (.ref a2811)])) _
  obtain ⟨cq2844, q2844, q2844'⟩ := pE_a2811.cell
  obtain ⟨_, _, ⟨T2844, L2844, c2844, n2844⟩, -, X2844, ⟨Lc2844, hQ2844, l2844, y2844, z2844⟩, st2844⟩ := X0.privateBack hx (y := (⟨zs1, "get", "(I)I"⟩ : MethodName)) hown (mvT hZ (wd hw 55 rfl)) (mvT hZ (wd hw 56 rfl)) (own_selPriv (mvT hZ (wd hw 2 rfl)) (mvT hZ (wd hw 56 rfl)) (Cond.privateMethod_at (mvP hZ (wd hw 57 rfl) (args := #[]))) (by decide)) (Cond.privateMethod_at (mvP hZ (wd hw 57 rfl) (args := #[]))) (mvT hZ (wd hw 58 rfl)) (by decide) (backOf (W := 0) (rm14 l Z a0 hw [] a2811 a2818 k2828 p2820 p2821 p2822 p2823 p2824 p2825 p2826 p2827 h0 n0 O0 pF_a2811_first pV_a2818) hZ (wd hw 58 rfl) (wd hw 3 rfl) (by decide) (by decide)) (g := (mkF m 2 #[rv a2811, iv (2 : Int32)] [(.int (2 : Int32)), (.ref a2811)])) rfl (by rw [hml]; rfl) (Steps.refl _) (a := a2811) (by rw [e0]; exact q2844) q2844' (argsL := [(.int (2 : Int32))]) (rest := []) (lenOf pd_3 rfl) rfl (by show 2 * 0 + _ ≤ _; exact Nat.le_of_eq rfl) (hb hby d8_2) (fun _ _ => ⟨rfl, e0, (by decide : 0 + 0 ≤ _), (by decide : 0 + 0 ≤ _)⟩)
  dsimp only [Pt.U, Pt.locs, Pt.cells, Pt.slots] at X2844 l2844 y2844 z2844 st2844 hQ2844
  subst l2844 y2844 z2844
  obtain ⟨rfl, Nq2844, hh2845⟩ := hQ2844
  have N2844 := Fr.app N0 Nq2844
  refine own_via (fun t k => st2844.trans k) ?_
  obtain ⟨fs, hr, hrun, hended, hW, hsame⟩ := X2844.leave (v := some (.int p2822)) (fun h => by rw [Bd.returns] at h; cases h)
  refine own_end (t := T2844.setFrames fs) ?_ ⟨_, hrun, hended, _, _, rfl, ?_, ⟨_, rfl⟩, hW, hsame.mono (by decide) (by decide)⟩
  · exact retI X2844 hx Bd.returns (hb hby d8_5) hr
  · show Q41 Z a2811 a2818 k2828 p2820 p2821 p2822 p2823 p2824 p2825 p2826 p2827 h0 n0 _ T2844.heap _
    rw [hh2845]
    exact ⟨rfl, N2844, rfl⟩
def Q42 (Z : State) (a2851 : Addr) (a2852 : Addr) (a2856 : Addr) (k2866 : ClassId) (p2858 : Int32) (p2859 : Int32) (p2860 : Int32) (p2861 : Int32) (p2862 : Int32) (p2863 : Int32) (p2864 : Int32) (p2865 : Int32) (k2855 : ClassId) (p2853 : Int32) (p2854 : Int32) (h0 : Heap) (n0 : Nat) (v : Option Value) (h : Heap) (L : List Loc) : Prop := v = some (.int p2861) ∧ Fr n0 L ∧ h = h0
set_option maxRecDepth 65536 in
set_option maxHeartbeats 40000000 in
theorem rm42 (l : Launch) (Z : State) (a0 : Array Value) (hw : ∀ d ∈ tables_1, d.before a0 Z = true) (ws : List Jvm.Cond) (a2851 : Addr) (a2852 : Addr) (a2856 : Addr) (k2866 : ClassId) (p2858 : Int32) (p2859 : Int32) (p2860 : Int32) (p2861 : Int32) (p2862 : Int32) (p2863 : Int32) (p2864 : Int32) (p2865 : Int32) (k2855 : ClassId) (p2853 : Int32) (p2854 : Int32) (h0 : Heap) (n0 : Nat) (O0 : Old Z n0 h0) (pF_a2851_text : Fld Z h0 a2851 zs1 "text" "[B" (.ref a2852)) (pF_a2851_first : Fld Z h0 a2851 zs1 "first" "[I" (.ref a2856)) (pV_a2856 : Arv Z h0 a2856 k2866 .int (16 : Int32) [(.int p2858), (.int p2859), (.int p2860), (.int p2861), (.int p2862), (.int p2863), (.int p2864), (.int p2865)] (.int (0 : Int32))) (pE_a2851 : Exa Z h0 a2851 zs1) (pC2872 : ¬ (p2860 < (0 : Int32))) (pC2873 : p2860 < (2 : Int32)) (pV_a2852 : Arv Z h0 a2852 k2855 .byte (4 : Int32) [(.int (123 : Int32)), (.int (91 : Int32)), (.int p2853), (.int p2854)] (.int (0 : Int32))) :
    MetFree l (⟨zs1, "next", "(I)I"⟩ : MethodName) (head1 (Jvm.Cond.code (⟨zs1, "next", "(I)I"⟩ : MethodName) prog_17_method_10_code 3 (some .int) :: ws) ({ frames := 1, cells := 0, slots := 0, locals := 14 } : Room)) (fun a U => a = #[(.ref a2851), (.int (2 : Int32))] ∧ Z.Warmed39 U.vm ∧ U.heap = h0) (fun _ _ _ _ _ => True) (fun _ U o U' => ∃ v L, o = .returned v ∧ Q42 Z a2851 a2852 a2856 k2866 p2858 p2859 p2860 p2861 p2862 p2863 p2864 p2865 k2855 p2853 p2854 h0 n0 v U'.heap L ∧ FrameEnd U o U' L ({ frames := 1, cells := 0, slots := 0, locals := 14 } : Room).cells ({ frames := 1, cells := 0, slots := 0, locals := 14 } : Room).slots) := by
  refine MetFree.of_bodySF (plainFor_of_name pn_1) hisR ?_
  intro p e s m args below meth c s₁ Bd hml0 hP hK
  obtain ⟨rfl, hZ, hh⟩ := hP
  have hx := Bd.exec
  have hby := Bd.bytes
  have hml : c.maxLocals = 3 := hml0
  have hown : s.vm.findClass zs1 = some m.cls := findClass_of_methodNamed Bd.named
  have hnm := (name_of_methodNamed Bd.named Bd.method).1
  have X0 : Stand p l e ({ frames := 1, cells := 0, slots := 0, locals := 14 } : Room) s m #[(.ref a2851), (.int (2 : Int32))] below meth c s₁ [] 0 0 := Stand.of_body Bd
  have e0 : s₁.heap = h0 := by rw [← hh, Bd.state]; rfl
  have N0 := Fr.nil n0
  refine own_out ?_
  refine own_via (fun t k => castTop (ef_9 m a2851 (2 : Int32)) (XS.aloadN X0.here hx rfl (hb hby d10_0) rfl rfl k)) ?_
  obtain ⟨T2882, X2882, e2882, st2882⟩ := getF X0 hx hZ hown (host := "") (Or.inl (wd hw 18 rfl)) Via.refl e0 pF_a2851_text (g := (mkF m 1 #[rv a2851, iv (2 : Int32), .unset] [(.ref a2851)])) rfl rfl (hb hby d10_1)
  refine own_via (fun t k => st2882 t (XS.aloadN X2882.here hx rfl (hb hby d10_4) rfl rfl (XS.iloadN X2882.here hx rfl (hb hby d10_5) rfl k))) ?_
  show own_Goes p e below (T2882.setTop (mkF m 6 #[rv a2851, iv (2 : Int32), .unset] [(.int (2 : Int32)), (.ref a2851), (.ref a2852)])) _
  obtain ⟨cq2883, q2883, q2883'⟩ := pE_a2851.cell
  obtain ⟨_, _, ⟨T2883, L2883, c2883, n2883⟩, -, X2883, ⟨Lc2883, hQ2883, l2883, y2883, z2883⟩, st2883⟩ := X2882.privateBack hx (y := (⟨zs1, "get", "(I)I"⟩ : MethodName)) hown (mvT hZ (wd hw 55 rfl)) (mvT hZ (wd hw 56 rfl)) (own_selPriv (mvT hZ (wd hw 2 rfl)) (mvT hZ (wd hw 56 rfl)) (Cond.privateMethod_at (mvP hZ (wd hw 57 rfl) (args := #[]))) (by decide)) (Cond.privateMethod_at (mvP hZ (wd hw 57 rfl) (args := #[]))) (mvT hZ (wd hw 58 rfl)) (by decide) (backOf (W := 1) (rm14 l Z a0 hw [] a2851 a2856 k2866 p2858 p2859 p2860 p2861 p2862 p2863 p2864 p2865 h0 n0 O0 pF_a2851_first pV_a2856) hZ (wd hw 58 rfl) (wd hw 3 rfl) (by decide) (by decide)) (g := (mkF m 6 #[rv a2851, iv (2 : Int32), .unset] [(.int (2 : Int32)), (.ref a2851), (.ref a2852)])) rfl (by rw [hml]; rfl) (Steps.refl _) (a := a2851) (by rw [e2882]; exact q2883) q2883' (argsL := [(.int (2 : Int32))]) (rest := [(.ref a2852)]) (lenOf pd_3 rfl) rfl (by show 2 * 0 + _ ≤ _; exact Nat.le_of_eq rfl) (hb hby d10_6) (fun _ _ => ⟨rfl, e2882, (by decide : 0 + 0 ≤ _), (by decide : 0 + 0 ≤ _)⟩)
  dsimp only [Pt.U, Pt.locs, Pt.cells, Pt.slots] at X2883 l2883 y2883 z2883 st2883 hQ2883
  subst l2883 y2883 z2883
  obtain ⟨rfl, Nq2883, hh2884⟩ := hQ2883
  have N2883 := Fr.app N0 Nq2883
  refine own_via (fun t k => st2883.trans k) ?_
  show own_Goes p e below (T2883.setTop (mkF m 9 #[rv a2851, iv (2 : Int32), .unset] [(.int p2860), (.ref a2852)])) _
  rcases own_cases_2 _ (own_ge0 pC2872) (own_lti pC2873 (by decide)) with qs | qs
  · have qs2885 := qs
    rw [qs]
    show own_Goes p e below (T2883.setTop (mkF m 9 #[rv a2851, iv (2 : Int32), .unset] [(.int (0 : Int32)), (.ref a2852)])) _
    obtain ⟨cl2886, Ar2886, qq2886, S2886, M2886, H2886, G2886⟩ := id (pV_a2852)
    have hin2886 : ¬ ((0 : Int32) < 0 ∨ cl2886.slots.size ≤ ((0 : Int32)).toNatClampNeg) := inb_of S2886 ⟨by decide, by decide⟩
    refine own_via (fun t k => X2883.baloadBytes hx (j := (0 : Int32)) (v := (.int (123 : Int32))) (by rw [hh2884]; exact Ar2886.1) (State.isArrayOf_alike hZ.alike Ar2886.2.1) Ar2886.2.2 hin2886 (Has.at H2886 hin2886 rfl) (g := (mkF m 9 #[rv a2851, iv (2 : Int32), .unset] [(.int (0 : Int32)), (.ref a2852)])) rfl rfl (hb hby d10_9) t (XS.istoreN X2883.here hx rfl (hb hby d10_10) rfl (l' := #[rv a2851, iv (2 : Int32), iv (123 : Int32)]) rfl (XS.iloadN X2883.here hx rfl (hb hby d10_11) rfl (XS.bipush X2883.here hx rfl (hb hby d10_12) (XS.icmpYes X2883.here hx rfl (pc0 := 14) (pc' := 23) rfl (hb hby d10_14) rfl (teq (by decide : (123 : Int32) = (123 : Int32))).1 (by decide) (by decide) (XS.aloadN X2883.here hx rfl (hb hby d10_23) rfl rfl (XS.iloadN X2883.here hx rfl (hb hby d10_24) rfl (XS.iconst X2883.here hx rfl (hb hby d10_25) (XS.iadd X2883.here hx rfl (hb hby d10_26) rfl k))))))))) ?_
    show own_Goes p e below (T2883.setTop (mkF m 27 #[rv a2851, iv (2 : Int32), iv (123 : Int32)] [(.int (3 : Int32)), (.ref a2851)])) _
    obtain ⟨cq2887, q2887, q2887'⟩ := pE_a2851.cell
    obtain ⟨_, _, ⟨T2887, L2887, c2887, n2887⟩, -, X2887, ⟨Lc2887, hQ2887, l2887, y2887, z2887⟩, st2887⟩ := X2883.privateBack hx (y := (⟨zs1, "get", "(I)I"⟩ : MethodName)) hown (mvT hZ (wd hw 55 rfl)) (mvT hZ (wd hw 56 rfl)) (own_selPriv (mvT hZ (wd hw 2 rfl)) (mvT hZ (wd hw 56 rfl)) (Cond.privateMethod_at (mvP hZ (wd hw 57 rfl) (args := #[]))) (by decide)) (Cond.privateMethod_at (mvP hZ (wd hw 57 rfl) (args := #[]))) (mvT hZ (wd hw 58 rfl)) (by decide) (backOf (W := 0) (rm29 l Z a0 hw [] a2851 a2856 k2866 p2858 p2859 p2860 p2861 p2862 p2863 p2864 p2865 h0 n0 O0 pF_a2851_first pV_a2856) hZ (wd hw 58 rfl) (wd hw 3 rfl) (by decide) (by decide)) (g := (mkF m 27 #[rv a2851, iv (2 : Int32), iv (123 : Int32)] [(.int (3 : Int32)), (.ref a2851)])) rfl (by rw [hml]; rfl) (Steps.refl _) (a := a2851) (by rw [hh2884]; exact q2887) q2887' (argsL := [(.int (3 : Int32))]) (rest := []) (lenOf pd_3 rfl) rfl (by show 2 * 0 + _ ≤ _; exact Nat.le_of_eq rfl) (hb hby d10_27) (fun _ _ => ⟨rfl, hh2884, (by decide : 0 + 0 ≤ _), (by decide : 0 + 0 ≤ _)⟩)
    dsimp only [Pt.U, Pt.locs, Pt.cells, Pt.slots] at X2887 l2887 y2887 z2887 st2887 hQ2887
    subst l2887 y2887 z2887
    obtain ⟨rfl, Nq2887, hh2888⟩ := hQ2887
    have N2887 := Fr.app N2883 Nq2887
    refine own_via (fun t k => st2887.trans (XS.goto X2887.here hx rfl (pc0 := 30) (pc' := 36) rfl (hb hby d10_30) (by decide) (by decide) k)) ?_
    obtain ⟨fs, hr, hrun, hended, hW, hsame⟩ := X2887.leave (v := some (.int p2861)) (fun h => by rw [Bd.returns] at h; cases h)
    refine own_end (t := T2887.setFrames fs) ?_ ⟨_, hrun, hended, _, _, rfl, ?_, ⟨_, rfl⟩, hW, hsame.mono (by decide) (by decide)⟩
    · exact retI X2887 hx Bd.returns (hb hby d10_36) hr
    · show Q42 Z a2851 a2852 a2856 k2866 p2858 p2859 p2860 p2861 p2862 p2863 p2864 p2865 k2855 p2853 p2854 h0 n0 _ T2887.heap _
      rw [hh2888]
      exact ⟨rfl, N2887, rfl⟩
  · have qs2889 := qs
    rw [qs]
    show own_Goes p e below (T2883.setTop (mkF m 9 #[rv a2851, iv (2 : Int32), .unset] [(.int (1 : Int32)), (.ref a2852)])) _
    obtain ⟨cl2890, Ar2890, qq2890, S2890, M2890, H2890, G2890⟩ := id (pV_a2852)
    have hin2890 : ¬ ((1 : Int32) < 0 ∨ cl2890.slots.size ≤ ((1 : Int32)).toNatClampNeg) := inb_of S2890 ⟨by decide, by decide⟩
    refine own_via (fun t k => X2883.baloadBytes hx (j := (1 : Int32)) (v := (.int (91 : Int32))) (by rw [hh2884]; exact Ar2890.1) (State.isArrayOf_alike hZ.alike Ar2890.2.1) Ar2890.2.2 hin2890 (Has.at H2890 hin2890 rfl) (g := (mkF m 9 #[rv a2851, iv (2 : Int32), .unset] [(.int (1 : Int32)), (.ref a2852)])) rfl rfl (hb hby d10_9) t (XS.istoreN X2883.here hx rfl (hb hby d10_10) rfl (l' := #[rv a2851, iv (2 : Int32), iv (91 : Int32)]) rfl (XS.iloadN X2883.here hx rfl (hb hby d10_11) rfl (XS.bipush X2883.here hx rfl (hb hby d10_12) (XS.icmpNo X2883.here hx rfl (hb hby d10_14) rfl (feq (by decide : ¬ ((91 : Int32) = (123 : Int32)))).1 (XS.iloadN X2883.here hx rfl (hb hby d10_17) rfl (XS.bipush X2883.here hx rfl (hb hby d10_18) (XS.icmpNo X2883.here hx rfl (hb hby d10_20) rfl (teq (by decide : (91 : Int32) = (91 : Int32))).2 (XS.aloadN X2883.here hx rfl (hb hby d10_23) rfl rfl (XS.iloadN X2883.here hx rfl (hb hby d10_24) rfl (XS.iconst X2883.here hx rfl (hb hby d10_25) (XS.iadd X2883.here hx rfl (hb hby d10_26) rfl k)))))))))))) ?_
    show own_Goes p e below (T2883.setTop (mkF m 27 #[rv a2851, iv (2 : Int32), iv (91 : Int32)] [(.int (3 : Int32)), (.ref a2851)])) _
    obtain ⟨cq2891, q2891, q2891'⟩ := pE_a2851.cell
    obtain ⟨_, _, ⟨T2891, L2891, c2891, n2891⟩, -, X2891, ⟨Lc2891, hQ2891, l2891, y2891, z2891⟩, st2891⟩ := X2883.privateBack hx (y := (⟨zs1, "get", "(I)I"⟩ : MethodName)) hown (mvT hZ (wd hw 55 rfl)) (mvT hZ (wd hw 56 rfl)) (own_selPriv (mvT hZ (wd hw 2 rfl)) (mvT hZ (wd hw 56 rfl)) (Cond.privateMethod_at (mvP hZ (wd hw 57 rfl) (args := #[]))) (by decide)) (Cond.privateMethod_at (mvP hZ (wd hw 57 rfl) (args := #[]))) (mvT hZ (wd hw 58 rfl)) (by decide) (backOf (W := 0) (rm29 l Z a0 hw [] a2851 a2856 k2866 p2858 p2859 p2860 p2861 p2862 p2863 p2864 p2865 h0 n0 O0 pF_a2851_first pV_a2856) hZ (wd hw 58 rfl) (wd hw 3 rfl) (by decide) (by decide)) (g := (mkF m 27 #[rv a2851, iv (2 : Int32), iv (91 : Int32)] [(.int (3 : Int32)), (.ref a2851)])) rfl (by rw [hml]; rfl) (Steps.refl _) (a := a2851) (by rw [hh2884]; exact q2891) q2891' (argsL := [(.int (3 : Int32))]) (rest := []) (lenOf pd_3 rfl) rfl (by show 2 * 0 + _ ≤ _; exact Nat.le_of_eq rfl) (hb hby d10_27) (fun _ _ => ⟨rfl, hh2884, (by decide : 0 + 0 ≤ _), (by decide : 0 + 0 ≤ _)⟩)
    dsimp only [Pt.U, Pt.locs, Pt.cells, Pt.slots] at X2891 l2891 y2891 z2891 st2891 hQ2891
    subst l2891 y2891 z2891
    obtain ⟨rfl, Nq2891, hh2892⟩ := hQ2891
    have N2891 := Fr.app N2883 Nq2891
    refine own_via (fun t k => st2891.trans (XS.goto X2891.here hx rfl (pc0 := 30) (pc' := 36) rfl (hb hby d10_30) (by decide) (by decide) k)) ?_
    obtain ⟨fs, hr, hrun, hended, hW, hsame⟩ := X2891.leave (v := some (.int p2861)) (fun h => by rw [Bd.returns] at h; cases h)
    refine own_end (t := T2891.setFrames fs) ?_ ⟨_, hrun, hended, _, _, rfl, ?_, ⟨_, rfl⟩, hW, hsame.mono (by decide) (by decide)⟩
    · exact retI X2891 hx Bd.returns (hb hby d10_36) hr
    · show Q42 Z a2851 a2852 a2856 k2866 p2858 p2859 p2860 p2861 p2862 p2863 p2864 p2865 k2855 p2853 p2854 h0 n0 _ T2891.heap _
      rw [hh2892]
      exact ⟨rfl, N2891, rfl⟩
def Q43 (Z : State) (a2931 : Addr) (a2938 : Addr) (k2948 : ClassId) (p2940 : Int32) (p2941 : Int32) (p2942 : Int32) (p2943 : Int32) (p2944 : Int32) (p2945 : Int32) (p2946 : Int32) (p2947 : Int32) (h0 : Heap) (n0 : Nat) (v : Option Value) (h : Heap) (L : List Loc) : Prop := v = some (.int p2944) ∧ Fr n0 L ∧ h = h0
set_option maxRecDepth 65536 in
set_option maxHeartbeats 40000000 in
theorem rm43 (l : Launch) (Z : State) (a0 : Array Value) (hw : ∀ d ∈ tables_1, d.before a0 Z = true) (ws : List Jvm.Cond) (a2931 : Addr) (a2938 : Addr) (k2948 : ClassId) (p2940 : Int32) (p2941 : Int32) (p2942 : Int32) (p2943 : Int32) (p2944 : Int32) (p2945 : Int32) (p2946 : Int32) (p2947 : Int32) (h0 : Heap) (n0 : Nat) (O0 : Old Z n0 h0) (pF_a2931_first : Fld Z h0 a2931 zs1 "first" "[I" (.ref a2938)) (pV_a2938 : Arv Z h0 a2938 k2948 .int (16 : Int32) [(.int p2940), (.int p2941), (.int p2942), (.int p2943), (.int p2944), (.int p2945), (.int p2946), (.int p2947)] (.int (0 : Int32))) :
    MetFree l (⟨zs1, "get", "(I)I"⟩ : MethodName) (head1 (Jvm.Cond.code (⟨zs1, "get", "(I)I"⟩ : MethodName) prog_17_method_28_code 2 (some .int) :: ws) ({ frames := 0, cells := 0, slots := 0, locals := 0 } : Room)) (fun a U => a = #[(.ref a2931), (.int (4 : Int32))] ∧ Z.Warmed39 U.vm ∧ U.heap = h0) (fun _ _ _ _ _ => True) (fun _ U o U' => ∃ v L, o = .returned v ∧ Q43 Z a2931 a2938 k2948 p2940 p2941 p2942 p2943 p2944 p2945 p2946 p2947 h0 n0 v U'.heap L ∧ FrameEnd U o U' L ({ frames := 0, cells := 0, slots := 0, locals := 0 } : Room).cells ({ frames := 0, cells := 0, slots := 0, locals := 0 } : Room).slots) := by
  refine MetFree.of_bodySF (plainFor_of_name pn_1) hisR ?_
  intro p e s m args below meth c s₁ Bd hml0 hP hK
  obtain ⟨rfl, hZ, hh⟩ := hP
  have hx := Bd.exec
  have hby := Bd.bytes
  have hml : c.maxLocals = 2 := hml0
  have hown : s.vm.findClass zs1 = some m.cls := findClass_of_methodNamed Bd.named
  have hnm := (name_of_methodNamed Bd.named Bd.method).1
  have X0 : Stand p l e ({ frames := 0, cells := 0, slots := 0, locals := 0 } : Room) s m #[(.ref a2931), (.int (4 : Int32))] below meth c s₁ [] 0 0 := Stand.of_body Bd
  have e0 : s₁.heap = h0 := by rw [← hh, Bd.state]; rfl
  have N0 := Fr.nil n0
  refine own_out ?_
  refine own_via (fun t k => castTop (ef_7 m a2931 (4 : Int32)) (XS.iloadN X0.here hx rfl (hb hby d9_0) rfl (XS.sipush X0.here hx rfl (hb hby d9_1) (XS.icmpNo X0.here hx rfl (hb hby d9_4) rfl (tlt (by decide : (4 : Int32) < (16384 : Int32))).2.1 (XS.aloadN X0.here hx rfl (hb hby d9_7) rfl rfl k))))) ?_
  show own_Goes p e below (s₁.setTop (mkF m 8 #[rv a2931, iv (4 : Int32)] [(.ref a2931)])) _
  obtain ⟨T2964, X2964, e2964, st2964⟩ := getF X0 hx hZ hown (host := "") (Or.inl (wd hw 25 rfl)) Via.refl e0 pF_a2931_first (g := (mkF m 8 #[rv a2931, iv (4 : Int32)] [(.ref a2931)])) rfl rfl (hb hby d9_8)
  refine own_via (fun t k => st2964 t (XS.iloadN X2964.here hx rfl (hb hby d9_11) rfl k)) ?_
  obtain ⟨cl2965, Ar2965, qq2965, S2965, M2965, H2965, G2965⟩ := id (pV_a2938)
  have hin2965 : ¬ ((4 : Int32) < 0 ∨ cl2965.slots.size ≤ ((4 : Int32)).toNatClampNeg) := inb_of S2965 ⟨by decide, by decide⟩
  refine own_via (fun t k => X2964.iaload hx (j := (4 : Int32)) (v := (.int p2944)) (by rw [e2964]; exact Ar2965.1) (State.isArrayOf_alike hZ.alike Ar2965.2.1) Ar2965.2.2 hin2965 (Has.at H2965 hin2965 rfl) (g := (mkF m 12 #[rv a2931, iv (4 : Int32)] [(.int (4 : Int32)), (.ref a2938)])) rfl rfl (hb hby d9_12) t (XS.goto X2964.here hx rfl (pc0 := 13) (pc' := 31) rfl (hb hby d9_13) (by decide) (by decide) k)) ?_
  obtain ⟨fs, hr, hrun, hended, hW, hsame⟩ := X2964.leave (v := some (.int p2944)) (fun h => by rw [Bd.returns] at h; cases h)
  refine own_end (t := T2964.setFrames fs) ?_ ⟨_, hrun, hended, _, _, rfl, ?_, ⟨_, rfl⟩, hW, hsame.mono (by decide) (by decide)⟩
  · exact retI X2964 hx Bd.returns (hb hby d9_31) hr
  · show Q43 Z a2931 a2938 k2948 p2940 p2941 p2942 p2943 p2944 p2945 p2946 p2947 h0 n0 _ T2964.heap _
    rw [e2964]
    exact ⟨rfl, N0, rfl⟩
def Q44 (Z : State) (a2897 : Addr) (a2904 : Addr) (k2914 : ClassId) (p2906 : Int32) (p2907 : Int32) (p2908 : Int32) (p2909 : Int32) (p2910 : Int32) (p2911 : Int32) (p2912 : Int32) (p2913 : Int32) (h0 : Heap) (n0 : Nat) (v : Option Value) (h : Heap) (L : List Loc) : Prop := v = some (.int ((p2910.toUInt32 >>> ((1 : Int32) &&& 31).toUInt32).toInt32)) ∧ Fr n0 L ∧ h = h0
set_option maxRecDepth 65536 in
set_option maxHeartbeats 40000000 in
theorem rm44 (l : Launch) (Z : State) (a0 : Array Value) (hw : ∀ d ∈ tables_1, d.before a0 Z = true) (ws : List Jvm.Cond) (a2897 : Addr) (a2904 : Addr) (k2914 : ClassId) (p2906 : Int32) (p2907 : Int32) (p2908 : Int32) (p2909 : Int32) (p2910 : Int32) (p2911 : Int32) (p2912 : Int32) (p2913 : Int32) (h0 : Heap) (n0 : Nat) (O0 : Old Z n0 h0) (pF_a2897_first : Fld Z h0 a2897 zs1 "first" "[I" (.ref a2904)) (pV_a2904 : Arv Z h0 a2904 k2914 .int (16 : Int32) [(.int p2906), (.int p2907), (.int p2908), (.int p2909), (.int p2910), (.int p2911), (.int p2912), (.int p2913)] (.int (0 : Int32))) (pE_a2897 : Exa Z h0 a2897 zs1) :
    MetFree l (⟨zs1, "count", "(I)I"⟩ : MethodName) (head1 (Jvm.Cond.code (⟨zs1, "count", "(I)I"⟩ : MethodName) prog_17_method_15_code 2 (some .int) :: ws) ({ frames := 1, cells := 0, slots := 0, locals := 13 } : Room)) (fun a U => a = #[(.ref a2897), (.int (2 : Int32))] ∧ Z.Warmed39 U.vm ∧ U.heap = h0) (fun _ _ _ _ _ => True) (fun _ U o U' => ∃ v L, o = .returned v ∧ Q44 Z a2897 a2904 k2914 p2906 p2907 p2908 p2909 p2910 p2911 p2912 p2913 h0 n0 v U'.heap L ∧ FrameEnd U o U' L ({ frames := 1, cells := 0, slots := 0, locals := 13 } : Room).cells ({ frames := 1, cells := 0, slots := 0, locals := 13 } : Room).slots) := by
  refine MetFree.of_bodySF (plainFor_of_name pn_1) hisR ?_
  intro p e s m args below meth c s₁ Bd hml0 hP hK
  obtain ⟨rfl, hZ, hh⟩ := hP
  have hx := Bd.exec
  have hby := Bd.bytes
  have hml : c.maxLocals = 2 := hml0
  have hown : s.vm.findClass zs1 = some m.cls := findClass_of_methodNamed Bd.named
  have hnm := (name_of_methodNamed Bd.named Bd.method).1
  have X0 : Stand p l e ({ frames := 1, cells := 0, slots := 0, locals := 13 } : Room) s m #[(.ref a2897), (.int (2 : Int32))] below meth c s₁ [] 0 0 := Stand.of_body Bd
  have e0 : s₁.heap = h0 := by rw [← hh, Bd.state]; rfl
  have N0 := Fr.nil n0
  refine own_out ?_
  refine own_via (fun t k => castTop (ef_10 m a2897 (2 : Int32)) (XS.aloadN X0.here hx rfl (hb hby d11_0) rfl rfl (XS.iloadN X0.here hx rfl (hb hby d11_1) rfl (XS.iconst X0.here hx rfl (hb hby d11_2) (XS.iadd X0.here hx rfl (hb hby d11_3) rfl k))))) ?_
  show own_Goes p e below (s₁.setTop (mkF m 4 #[rv a2897, iv (2 : Int32)] [(.int (4 : Int32)), (.ref a2897)])) _
  obtain ⟨cq2930, q2930, q2930'⟩ := pE_a2897.cell
  obtain ⟨_, _, ⟨T2930, L2930, c2930, n2930⟩, -, X2930, ⟨Lc2930, hQ2930, l2930, y2930, z2930⟩, st2930⟩ := X0.privateBack hx (y := (⟨zs1, "get", "(I)I"⟩ : MethodName)) hown (mvT hZ (wd hw 55 rfl)) (mvT hZ (wd hw 56 rfl)) (own_selPriv (mvT hZ (wd hw 2 rfl)) (mvT hZ (wd hw 56 rfl)) (Cond.privateMethod_at (mvP hZ (wd hw 57 rfl) (args := #[]))) (by decide)) (Cond.privateMethod_at (mvP hZ (wd hw 57 rfl) (args := #[]))) (mvT hZ (wd hw 58 rfl)) (by decide) (backOf (W := 0) (rm43 l Z a0 hw [] a2897 a2904 k2914 p2906 p2907 p2908 p2909 p2910 p2911 p2912 p2913 h0 n0 O0 pF_a2897_first pV_a2904) hZ (wd hw 58 rfl) (wd hw 3 rfl) (by decide) (by decide)) (g := (mkF m 4 #[rv a2897, iv (2 : Int32)] [(.int (4 : Int32)), (.ref a2897)])) rfl (by rw [hml]; rfl) (Steps.refl _) (a := a2897) (by rw [e0]; exact q2930) q2930' (argsL := [(.int (4 : Int32))]) (rest := []) (lenOf pd_3 rfl) rfl (by show 2 * 0 + _ ≤ _; exact Nat.le_of_eq rfl) (hb hby d11_4) (fun _ _ => ⟨rfl, e0, (by decide : 0 + 0 ≤ _), (by decide : 0 + 0 ≤ _)⟩)
  dsimp only [Pt.U, Pt.locs, Pt.cells, Pt.slots] at X2930 l2930 y2930 z2930 st2930 hQ2930
  subst l2930 y2930 z2930
  obtain ⟨rfl, Nq2930, hh2966⟩ := hQ2930
  have N2930 := Fr.app N0 Nq2930
  refine own_via (fun t k => st2930.trans (XS.iconst X2930.here hx rfl (hb hby d11_7) (XS.iushr X2930.here hx rfl (hb hby d11_8) rfl k))) ?_
  show own_Goes p e below (T2930.setTop (mkF m 9 #[rv a2897, iv (2 : Int32)] [(.int ((p2910.toUInt32 >>> ((1 : Int32) &&& 31).toUInt32).toInt32))])) _
  obtain ⟨fs, hr, hrun, hended, hW, hsame⟩ := X2930.leave (v := some (.int ((p2910.toUInt32 >>> ((1 : Int32) &&& 31).toUInt32).toInt32))) (fun h => by rw [Bd.returns] at h; cases h)
  refine own_end (t := T2930.setFrames fs) ?_ ⟨_, hrun, hended, _, _, rfl, ?_, ⟨_, rfl⟩, hW, hsame.mono (by decide) (by decide)⟩
  · exact retI X2930 hx Bd.returns (hb hby d11_9) hr
  · show Q44 Z a2897 a2904 k2914 p2906 p2907 p2908 p2909 p2910 p2911 p2912 p2913 h0 n0 _ T2930.heap _
    rw [hh2966]
    exact ⟨rfl, N2930, rfl⟩
def Q45 (Z : State) (a2969 : Addr) (a2976 : Addr) (k2986 : ClassId) (p2978 : Int32) (p2979 : Int32) (p2980 : Int32) (p2981 : Int32) (p2982 : Int32) (p2983 : Int32) (p2984 : Int32) (p2985 : Int32) (h0 : Heap) (n0 : Nat) (v : Option Value) (h : Heap) (L : List Loc) : Prop := v = some (.int (0 : Int32)) ∧ Fr n0 L ∧ h = h0
set_option maxRecDepth 65536 in
set_option maxHeartbeats 40000000 in
theorem rm45 (l : Launch) (Z : State) (a0 : Array Value) (hw : ∀ d ∈ tables_1, d.before a0 Z = true) (ws : List Jvm.Cond) (a2969 : Addr) (a2976 : Addr) (k2986 : ClassId) (p2978 : Int32) (p2979 : Int32) (p2980 : Int32) (p2981 : Int32) (p2982 : Int32) (p2983 : Int32) (p2984 : Int32) (p2985 : Int32) (h0 : Heap) (n0 : Nat) (O0 : Old Z n0 h0) (pF_a2969_first : Fld Z h0 a2969 zs1 "first" "[I" (.ref a2976)) (pV_a2976 : Arv Z h0 a2976 k2986 .int (16 : Int32) [(.int p2978), (.int p2979), (.int p2980), (.int p2981), (.int p2982), (.int p2983), (.int p2984), (.int p2985)] (.int (0 : Int32))) (pE_a2969 : Exa Z h0 a2969 zs1) (pC3002 : (p2982 &&& (1 : Int32)) = (0 : Int32)) :
    MetFree l (⟨zs1, "repeats", "(I)Z"⟩ : MethodName) (head1 (Jvm.Cond.code (⟨zs1, "repeats", "(I)Z"⟩ : MethodName) prog_17_method_16_code 2 (some .boolean) :: ws) ({ frames := 1, cells := 0, slots := 0, locals := 13 } : Room)) (fun a U => a = #[(.ref a2969), (.int (2 : Int32))] ∧ Z.Warmed39 U.vm ∧ U.heap = h0) (fun _ _ _ _ _ => True) (fun _ U o U' => ∃ v L, o = .returned v ∧ Q45 Z a2969 a2976 k2986 p2978 p2979 p2980 p2981 p2982 p2983 p2984 p2985 h0 n0 v U'.heap L ∧ FrameEnd U o U' L ({ frames := 1, cells := 0, slots := 0, locals := 13 } : Room).cells ({ frames := 1, cells := 0, slots := 0, locals := 13 } : Room).slots) := by
  refine MetFree.of_bodySF (plainFor_of_name pn_1) hisR ?_
  intro p e s m args below meth c s₁ Bd hml0 hP hK
  obtain ⟨rfl, hZ, hh⟩ := hP
  have hx := Bd.exec
  have hby := Bd.bytes
  have hml : c.maxLocals = 2 := hml0
  have hown : s.vm.findClass zs1 = some m.cls := findClass_of_methodNamed Bd.named
  have hnm := (name_of_methodNamed Bd.named Bd.method).1
  have X0 : Stand p l e ({ frames := 1, cells := 0, slots := 0, locals := 13 } : Room) s m #[(.ref a2969), (.int (2 : Int32))] below meth c s₁ [] 0 0 := Stand.of_body Bd
  have e0 : s₁.heap = h0 := by rw [← hh, Bd.state]; rfl
  have N0 := Fr.nil n0
  refine own_out ?_
  refine own_via (fun t k => castTop (ef_11 m a2969 (2 : Int32)) (XS.aloadN X0.here hx rfl (hb hby d12_0) rfl rfl (XS.iloadN X0.here hx rfl (hb hby d12_1) rfl (XS.iconst X0.here hx rfl (hb hby d12_2) (XS.iadd X0.here hx rfl (hb hby d12_3) rfl k))))) ?_
  show own_Goes p e below (s₁.setTop (mkF m 4 #[rv a2969, iv (2 : Int32)] [(.int (4 : Int32)), (.ref a2969)])) _
  obtain ⟨cq3003, q3003, q3003'⟩ := pE_a2969.cell
  obtain ⟨_, _, ⟨T3003, L3003, c3003, n3003⟩, -, X3003, ⟨Lc3003, hQ3003, l3003, y3003, z3003⟩, st3003⟩ := X0.privateBack hx (y := (⟨zs1, "get", "(I)I"⟩ : MethodName)) hown (mvT hZ (wd hw 55 rfl)) (mvT hZ (wd hw 56 rfl)) (own_selPriv (mvT hZ (wd hw 2 rfl)) (mvT hZ (wd hw 56 rfl)) (Cond.privateMethod_at (mvP hZ (wd hw 57 rfl) (args := #[]))) (by decide)) (Cond.privateMethod_at (mvP hZ (wd hw 57 rfl) (args := #[]))) (mvT hZ (wd hw 58 rfl)) (by decide) (backOf (W := 0) (rm43 l Z a0 hw [] a2969 a2976 k2986 p2978 p2979 p2980 p2981 p2982 p2983 p2984 p2985 h0 n0 O0 pF_a2969_first pV_a2976) hZ (wd hw 58 rfl) (wd hw 3 rfl) (by decide) (by decide)) (g := (mkF m 4 #[rv a2969, iv (2 : Int32)] [(.int (4 : Int32)), (.ref a2969)])) rfl (by rw [hml]; rfl) (Steps.refl _) (a := a2969) (by rw [e0]; exact q3003) q3003' (argsL := [(.int (4 : Int32))]) (rest := []) (lenOf pd_3 rfl) rfl (by show 2 * 0 + _ ≤ _; exact Nat.le_of_eq rfl) (hb hby d12_4) (fun _ _ => ⟨rfl, e0, (by decide : 0 + 0 ≤ _), (by decide : 0 + 0 ≤ _)⟩)
  dsimp only [Pt.U, Pt.locs, Pt.cells, Pt.slots] at X3003 l3003 y3003 z3003 st3003 hQ3003
  subst l3003 y3003 z3003
  obtain ⟨rfl, Nq3003, hh3004⟩ := hQ3003
  have N3003 := Fr.app N0 Nq3003
  refine own_via (fun t k => st3003.trans (XS.iconst X3003.here hx rfl (hb hby d12_7) (XS.iand X3003.here hx rfl (hb hby d12_8) rfl (XS.ifYes X3003.here hx rfl (pc0 := 9) (pc' := 16) rfl (hb hby d12_9) rfl ((if0 _ _).trans (teq pC3002).1) (by decide) (by decide) (XS.iconst X3003.here hx rfl (hb hby d12_16) k))))) ?_
  show own_Goes p e below (T3003.setTop (mkF m 17 #[rv a2969, iv (2 : Int32)] [(.int (0 : Int32))])) _
  obtain ⟨fs, hr, hrun, hended, hW, hsame⟩ := X3003.leave (v := some (.int (0 : Int32))) (fun h => by rw [Bd.returns] at h; cases h)
  refine own_end (t := T3003.setFrames fs) ?_ ⟨_, hrun, hended, _, _, rfl, ?_, ⟨_, rfl⟩, hW, hsame.mono (by decide) (by decide)⟩
  · exact retN X3003 hx (t := .boolean) Bd.returns (by simp) (hb hby d12_17) hr
  · show Q45 Z a2969 a2976 k2986 p2978 p2979 p2980 p2981 p2982 p2983 p2984 p2985 h0 n0 _ T3003.heap _
    rw [hh3004]
    exact ⟨rfl, N3003, rfl⟩
set_option maxRecDepth 65536 in
set_option maxHeartbeats 40000000 in
theorem sfx26 (l : Launch) (Z : State) (a0 : Array Value) (hw : ∀ d ∈ tables_1, d.before a0 Z = true) (ws : List Jvm.Cond) {p : Program} {e : Env} {s : State} {m : MethodId} {below : List Frame} {meth : Method} {c : Code} {s₁ : State} (p2702 : Int32) (p2703 : Int32) (p2704 : Int32) (p2696 : Int32) (p2697 : Int32) (p2698 : Int32) (a2699 : Addr) (a2700 : Addr) (p2701 : Int32) (p2695 : Int32) (a2706 : Addr) (k2714 : ClassId) (p2707 : Int32) (p2708 : Int32) (p2709 : Int32) (p2710 : Int32) (p2711 : Int32) (p2712 : Int32) (p2713 : Int32) (k2705 : ClassId) (Bd : BodyLoose p l x (head1 (Jvm.Cond.code x code maxLocals ret :: ws) room_1) code maxLocals ret e s m #[(.int p2702), (.int p2703), (.int p2704)] below meth c s₁) (hZ : Z.Warmed39 s.vm) (hml : c.maxLocals = 11) {T0 : State} {locs0 : List Loc} (X0 : Stand p l e room_1 s m #[(.int p2702), (.int p2703), (.int p2704)] below meth c T0 locs0 8 120) (h0 : Heap) (e0 : T0.heap = h0) (n0 : Nat) (O0 : Old Z n0 h0) (N0 : Fr n0 locs0) (pF_a2700_length : Fld Z h0 a2700 zs1 "length" "I" (.int (5 : Int32))) (pF_a2700_first : Fld Z h0 a2700 zs1 "first" "[I" (.ref a2706)) (pV_a2706 : Arv Z h0 a2706 k2714 .int (16 : Int32) [(.int p2707), (.int p2708), (.int p2701), (.int p2709), (.int p2710), (.int p2711), (.int p2712), (.int p2713)] (.int (0 : Int32))) (pG_a2706 : n0 ≤ a2706) (pE_a2706 : Exa Z h0 a2706 "[I") (pE_a2700 : Exa Z h0 a2700 zs1) (pN_a2700_a2706 : a2700 ≠ a2706) (pF_a2700_text : Fld Z h0 a2700 zs1 "text" "[B" (.ref a2699)) (pC2719 : ¬ (p2701 < (0 : Int32))) (pC2720 : p2701 < (2 : Int32)) (pV_a2699 : Arv Z h0 a2699 k2705 .byte (4 : Int32) [(.int (123 : Int32)), (.int (91 : Int32)), (.int (49 : Int32)), (.int (110 : Int32))] (.int (0 : Int32))) (pN_a2699_a2706 : a2699 ≠ a2706) (pC2723 : ¬ (p2695 < (0 : Int32))) :
    own_Goes p e below (T0.setTop (mkF m 141 #[iv p2696, iv p2697, iv p2698, rv a2699, rv a2700, iv (2 : Int32), iv p2701, iv (2 : Int32), iv (0 : Int32), iv p2695, iv (0 : Int32)] [])) (own_G s below n0) := by
  have hx := Bd.exec
  have hby := Bd.bytes
  have hown : s.vm.findClass zs2 = some m.cls := findClass_of_methodNamed Bd.named
  have hnm := (name_of_methodNamed Bd.named Bd.method).1
  show own_Goes p e below (T0.setTop (mkF m 141 #[iv p2696, iv p2697, iv p2698, rv a2699, rv a2700, iv (2 : Int32), iv p2701, iv (2 : Int32), iv (0 : Int32), iv p2695, iv (0 : Int32)] [])) _
  refine own_via (fun t k => XS.aload X0.here hx rfl (hb hby at_141) rfl rfl (XS.iload X0.here hx rfl (hb hby at_143) rfl (XS.iload X0.here hx rfl (hb hby at_145) rfl (XS.iload X0.here hx rfl (hb hby at_147) rfl k)))) ?_
  show own_Goes p e below (T0.setTop (mkF m 149 #[iv p2696, iv p2697, iv p2698, rv a2699, rv a2700, iv (2 : Int32), iv p2701, iv (2 : Int32), iv (0 : Int32), iv p2695, iv (0 : Int32)] [(.int (0 : Int32)), (.int p2695), (.int (2 : Int32)), (.ref a2700)])) _
  obtain ⟨_, T2727, _, X2727, hQ2727, st2727⟩ := own_cv X0 hx hZ hown (wd hw 41 rfl) (wd hw 42 rfl) (wd hw 44 rfl) (wd hw 43 rfl) (wd hw 45 rfl) (wd hw 3 rfl) (by decide) (rm40 l Z a0 hw [] a2700 p2695 (5 : Int32) a2706 k2714 p2707 p2708 p2701 p2709 p2710 p2711 p2712 p2713 h0 n0 O0 pF_a2700_length pF_a2700_first pV_a2706 pG_a2706 pE_a2706 pE_a2700 pN_a2700_a2706) e0 pE_a2700 (g := (mkF m 149 #[iv p2696, iv p2697, iv p2698, rv a2699, rv a2700, iv (2 : Int32), iv p2701, iv (2 : Int32), iv (0 : Int32), iv p2695, iv (0 : Int32)] [(.int (0 : Int32)), (.int p2695), (.int (2 : Int32)), (.ref a2700)])) rfl (by rw [hml]; rfl) (rest := []) (W := 0) (lenOf pd_5 rfl) rfl (by show 2 * 0 + _ ≤ _; exact Nat.le_of_eq rfl) (hb hby at_149) (by decide) (by decide) (by decide) (by decide)
  obtain ⟨h2727, e2727⟩ : ∃ z, T2727.heap = z := ⟨_, rfl⟩
  rw [e2727] at hQ2727
  obtain ⟨rfl, Nq2727, K2727, ex2808, vx2809⟩ := hQ2727
  have N2727 := Fr.app N0 Nq2727
  refine own_via (fun t k => st2727 t (XS.iload X2727.here hx rfl (hb hby at_152) rfl (XS.iload X2727.here hx rfl (hb hby at_154) rfl (XS.icmpNo X2727.here hx rfl (hb hby at_156) rfl (teq (by decide : (2 : Int32) = (2 : Int32))).2 (XS.aload X2727.here hx rfl (hb hby at_159) rfl rfl (XS.iload X2727.here hx rfl (hb hby at_161) rfl k)))))) ?_
  show own_Goes p e below (T2727.setTop (mkF m 163 #[iv p2696, iv p2697, iv p2698, rv a2699, rv a2700, iv (2 : Int32), iv p2701, iv (2 : Int32), iv (0 : Int32), iv p2695, iv (0 : Int32)] [(.int (2 : Int32)), (.ref a2700)])) _
  have F2846 : Fld Z h2727 a2700 zs1 "first" "[I" (.ref a2706) := (pF_a2700_first.keep K2727 (ninS pN_a2700_a2706 nin0))
  have E2847 : Exa Z h2727 a2700 zs1 := (pE_a2700.keep K2727)
  have O2848 : Old Z n0 h2727 := (O0.keep K2727 (allS pG_a2706 all0))
  obtain ⟨_, T2810, _, X2810, hQ2810, st2810⟩ := own_cv X2727 hx hZ hown (wd hw 50 rfl) (wd hw 51 rfl) (wd hw 53 rfl) (wd hw 52 rfl) (wd hw 54 rfl) (wd hw 3 rfl) (by decide) (rm41 l Z a0 hw [] a2700 a2706 k2714 p2707 p2708 p2701 (5 : Int32) ((p2695 <<< ((1 : Int32) &&& 31)) ||| (0 : Int32)) p2711 p2712 p2713 h2727 n0 O2848 F2846 vx2809 E2847) e2727 E2847 (g := (mkF m 163 #[iv p2696, iv p2697, iv p2698, rv a2699, rv a2700, iv (2 : Int32), iv p2701, iv (2 : Int32), iv (0 : Int32), iv p2695, iv (0 : Int32)] [(.int (2 : Int32)), (.ref a2700)])) rfl (by rw [hml]; rfl) (rest := []) (W := 0) (lenOf pd_3 rfl) rfl (by show 2 * 0 + _ ≤ _; exact Nat.le_of_eq rfl) (hb hby at_163) (by decide) (by decide) (by decide) (by decide)
  obtain ⟨rfl, Nq2810, hh2849⟩ := hQ2810
  have N2810 := Fr.app N2727 Nq2810
  refine own_via (fun t k => st2810 t (XS.iload X2810.here hx rfl (hb hby at_166) rfl (XS.icmpNo X2810.here hx rfl (hb hby at_168) rfl (teq (rfl : p2701 = p2701)).2 (XS.aload X2810.here hx rfl (hb hby at_171) rfl rfl (XS.iload X2810.here hx rfl (hb hby at_173) rfl k))))) ?_
  show own_Goes p e below (T2810.setTop (mkF m 175 #[iv p2696, iv p2697, iv p2698, rv a2699, rv a2700, iv (2 : Int32), iv p2701, iv (2 : Int32), iv (0 : Int32), iv p2695, iv (0 : Int32)] [(.int (2 : Int32)), (.ref a2700)])) _
  have F2893 : Fld Z h2727 a2700 zs1 "text" "[B" (.ref a2699) := (pF_a2700_text.keep K2727 (ninS pN_a2700_a2706 nin0))
  have V2894 : Arv Z h2727 a2699 k2705 .byte (4 : Int32) [(.int (123 : Int32)), (.int (91 : Int32)), (.int (49 : Int32)), (.int (110 : Int32))] (.int (0 : Int32)) := (pV_a2699.keep K2727 (ninS pN_a2699_a2706 nin0))
  obtain ⟨_, T2850, _, X2850, hQ2850, st2850⟩ := own_cv X2810 hx hZ hown (wd hw 59 rfl) (wd hw 60 rfl) (wd hw 62 rfl) (wd hw 61 rfl) (wd hw 63 rfl) (wd hw 3 rfl) (by decide) (rm42 l Z a0 hw [] a2700 a2699 a2706 k2714 p2707 p2708 p2701 (5 : Int32) ((p2695 <<< ((1 : Int32) &&& 31)) ||| (0 : Int32)) p2711 p2712 p2713 k2705 (49 : Int32) (110 : Int32) h2727 n0 O2848 F2893 F2846 vx2809 E2847 pC2719 pC2720 V2894) hh2849 E2847 (g := (mkF m 175 #[iv p2696, iv p2697, iv p2698, rv a2699, rv a2700, iv (2 : Int32), iv p2701, iv (2 : Int32), iv (0 : Int32), iv p2695, iv (0 : Int32)] [(.int (2 : Int32)), (.ref a2700)])) rfl (by rw [hml]; rfl) (rest := []) (W := 0) (lenOf pd_3 rfl) rfl (by show 2 * 0 + _ ≤ _; exact Nat.le_of_eq rfl) (hb hby at_175) (by decide) (by decide) (by decide) (by decide)
  obtain ⟨rfl, Nq2850, hh2895⟩ := hQ2850
  have N2850 := Fr.app N2810 Nq2850
  refine own_via (fun t k => st2850 t (XS.iload X2850.here hx rfl (hb hby at_178) rfl (XS.iconst X2850.here hx rfl (hb hby at_180) (XS.iadd X2850.here hx rfl (hb hby at_181) rfl (XS.iload X2850.here hx rfl (hb hby at_182) rfl (XS.iadd X2850.here hx rfl (hb hby at_184) rfl (XS.icmpNo X2850.here hx rfl (hb hby at_185) rfl (teq (by decide : (5 : Int32) = (5 : Int32))).2 (XS.aload X2850.here hx rfl (hb hby at_188) rfl rfl (XS.iload X2850.here hx rfl (hb hby at_190) rfl k))))))))) ?_
  show own_Goes p e below (T2850.setTop (mkF m 192 #[iv p2696, iv p2697, iv p2698, rv a2699, rv a2700, iv (2 : Int32), iv p2701, iv (2 : Int32), iv (0 : Int32), iv p2695, iv (0 : Int32)] [(.int (2 : Int32)), (.ref a2700)])) _
  obtain ⟨_, T2896, _, X2896, hQ2896, st2896⟩ := own_cv X2850 hx hZ hown (wd hw 64 rfl) (wd hw 65 rfl) (wd hw 67 rfl) (wd hw 66 rfl) (wd hw 68 rfl) (wd hw 3 rfl) (by decide) (rm44 l Z a0 hw [] a2700 a2706 k2714 p2707 p2708 p2701 (5 : Int32) ((p2695 <<< ((1 : Int32) &&& 31)) ||| (0 : Int32)) p2711 p2712 p2713 h2727 n0 O2848 F2846 vx2809 E2847) hh2895 E2847 (g := (mkF m 192 #[iv p2696, iv p2697, iv p2698, rv a2699, rv a2700, iv (2 : Int32), iv p2701, iv (2 : Int32), iv (0 : Int32), iv p2695, iv (0 : Int32)] [(.int (2 : Int32)), (.ref a2700)])) rfl (by rw [hml]; rfl) (rest := []) (W := 0) (lenOf pd_3 rfl) rfl (by show 2 * 0 + _ ≤ _; exact Nat.le_of_eq rfl) (hb hby at_192) (by decide) (by decide) (by decide) (by decide)
  obtain ⟨rfl, Nq2896, hh2967⟩ := hQ2896
  have N2896 := Fr.app N2850 Nq2896
  refine own_via (fun t k => st2896 t (XS.iload X2896.here hx rfl (hb hby at_195) rfl (XS.icmpNo X2896.here hx rfl (hb hby at_197) rfl (teq (own_cnt p2695 0 pC2723 (by decide))).2 (XS.aload X2896.here hx rfl (hb hby at_200) rfl rfl (XS.iload X2896.here hx rfl (hb hby at_202) rfl k))))) ?_
  show own_Goes p e below (T2896.setTop (mkF m 204 #[iv p2696, iv p2697, iv p2698, rv a2699, rv a2700, iv (2 : Int32), iv p2701, iv (2 : Int32), iv (0 : Int32), iv p2695, iv (0 : Int32)] [(.int (2 : Int32)), (.ref a2700)])) _
  obtain ⟨_, T2968, _, X2968, hQ2968, st2968⟩ := own_cv X2896 hx hZ hown (wd hw 69 rfl) (wd hw 70 rfl) (wd hw 72 rfl) (wd hw 71 rfl) (wd hw 73 rfl) (wd hw 3 rfl) (by decide) (rm45 l Z a0 hw [] a2700 a2706 k2714 p2707 p2708 p2701 (5 : Int32) ((p2695 <<< ((1 : Int32) &&& 31)) ||| (0 : Int32)) p2711 p2712 p2713 h2727 n0 O2848 F2846 vx2809 E2847 (own_rep0 p2695)) hh2967 E2847 (g := (mkF m 204 #[iv p2696, iv p2697, iv p2698, rv a2699, rv a2700, iv (2 : Int32), iv p2701, iv (2 : Int32), iv (0 : Int32), iv p2695, iv (0 : Int32)] [(.int (2 : Int32)), (.ref a2700)])) rfl (by rw [hml]; rfl) (rest := []) (W := 0) (lenOf pd_6 rfl) rfl (by show 2 * 0 + _ ≤ _; exact Nat.le_of_eq rfl) (hb hby at_204) (by decide) (by decide) (by decide) (by decide)
  obtain ⟨rfl, Nq2968, hh3005⟩ := hQ2968
  have N2968 := Fr.app N2896 Nq2968
  refine own_via (fun t k => st2968 t (XS.iload X2968.here hx rfl (hb hby at_207) rfl (XS.icmpNo X2968.here hx rfl (hb hby at_209) rfl (teq (by decide : (0 : Int32) = (0 : Int32))).2 (XS.iconst X2968.here hx rfl (hb hby at_212) (XS.goto X2968.here hx rfl (pc0 := 213) (pc' := 217) rfl (hb hby at_213) (by decide) (by decide) k))))) ?_
  show own_Goes p e below (T2968.setTop (mkF m 217 #[iv p2696, iv p2697, iv p2698, rv a2699, rv a2700, iv (2 : Int32), iv p2701, iv (2 : Int32), iv (0 : Int32), iv p2695, iv (0 : Int32)] [(.int (1 : Int32))])) _
  obtain ⟨fs, hr, hrun, hended, hW, hsame⟩ := X2968.leave (v := some (.int (1 : Int32))) (fun h => by rw [Bd.returns] at h; cases h)
  refine own_end (t := T2968.setFrames fs) ?_ ⟨_, hrun, hended, _, _, rfl, ?_, ⟨_, rfl⟩, hW, hsame.mono (by decide) (by decide)⟩
  · exact retN X2968 hx (t := .boolean) Bd.returns (by simp) (hb hby at_217) hr
  · exact ⟨rfl, N2968⟩
def Q46 (Z : State) (a3039 : Addr) (p3040 : Int32) (p3057 : Int32) (a3047 : Addr) (k3056 : ClassId) (p3048 : Int32) (p3049 : Int32) (p3050 : Int32) (p3051 : Int32) (p3052 : Int32) (p3053 : Int32) (p3054 : Int32) (p3055 : Int32) (h0 : Heap) (n0 : Nat) (v : Option Value) (h : Heap) (L : List Loc) : Prop := v = none ∧ Fr n0 L ∧ Keep h0 h [a3047] ∧ Exa Z h a3047 "[I" ∧ Arv Z h a3047 k3056 .int (16 : Int32) [(.int p3048), (.int p3049), (.int p3050), (.int p3057), (.int ((p3040 <<< ((1 : Int32) &&& 31)) ||| (1 : Int32))), (.int p3053), (.int p3054), (.int p3055)] (.int (0 : Int32))
set_option maxRecDepth 65536 in
set_option maxHeartbeats 40000000 in
theorem rm46 (l : Launch) (Z : State) (a0 : Array Value) (hw : ∀ d ∈ tables_1, d.before a0 Z = true) (ws : List Jvm.Cond) (a3039 : Addr) (p3040 : Int32) (p3057 : Int32) (a3047 : Addr) (k3056 : ClassId) (p3048 : Int32) (p3049 : Int32) (p3050 : Int32) (p3051 : Int32) (p3052 : Int32) (p3053 : Int32) (p3054 : Int32) (p3055 : Int32) (h0 : Heap) (n0 : Nat) (O0 : Old Z n0 h0) (pF_a3039_length : Fld Z h0 a3039 zs1 "length" "I" (.int p3057)) (pF_a3039_first : Fld Z h0 a3039 zs1 "first" "[I" (.ref a3047)) (pV_a3047 : Arv Z h0 a3047 k3056 .int (16 : Int32) [(.int p3048), (.int p3049), (.int p3050), (.int p3051), (.int p3052), (.int p3053), (.int p3054), (.int p3055)] (.int (0 : Int32))) (pG_a3047 : n0 ≤ a3047) (pE_a3047 : Exa Z h0 a3047 "[I") (pE_a3039 : Exa Z h0 a3039 zs1) (pN_a3039_a3047 : a3039 ≠ a3047) :
    MetFree l (⟨zs1, "close", "(IIZ)V"⟩ : MethodName) (head1 (Jvm.Cond.code (⟨zs1, "close", "(IIZ)V"⟩ : MethodName) prog_17_method_6_code 4 none :: ws) ({ frames := 1, cells := 0, slots := 0, locals := 14 } : Room)) (fun a U => a = #[(.ref a3039), (.int (2 : Int32)), (.int p3040), (.int (1 : Int32))] ∧ Z.Warmed39 U.vm ∧ U.heap = h0) (fun _ _ _ _ _ => True) (fun _ U o U' => ∃ v L, o = .returned v ∧ Q46 Z a3039 p3040 p3057 a3047 k3056 p3048 p3049 p3050 p3051 p3052 p3053 p3054 p3055 h0 n0 v U'.heap L ∧ FrameEnd U o U' L ({ frames := 1, cells := 0, slots := 0, locals := 14 } : Room).cells ({ frames := 1, cells := 0, slots := 0, locals := 14 } : Room).slots) := by
  refine MetFree.of_bodySF (plainFor_of_name pn_1) hisR ?_
  intro p e s m args below meth c s₁ Bd hml0 hP hK
  obtain ⟨rfl, hZ, hh⟩ := hP
  have hx := Bd.exec
  have hby := Bd.bytes
  have hml : c.maxLocals = 4 := hml0
  have hown : s.vm.findClass zs1 = some m.cls := findClass_of_methodNamed Bd.named
  have hnm := (name_of_methodNamed Bd.named Bd.method).1
  have X0 : Stand p l e ({ frames := 1, cells := 0, slots := 0, locals := 14 } : Room) s m #[(.ref a3039), (.int (2 : Int32)), (.int p3040), (.int (1 : Int32))] below meth c s₁ [] 0 0 := Stand.of_body Bd
  have e0 : s₁.heap = h0 := by rw [← hh, Bd.state]; rfl
  have N0 := Fr.nil n0
  refine own_out ?_
  refine own_via (fun t k => castTop (ef_6 m a3039 (2 : Int32) p3040 (1 : Int32)) (XS.aloadN X0.here hx rfl (hb hby d6_0) rfl rfl (XS.iloadN X0.here hx rfl (hb hby d6_1) rfl (XS.iconst X0.here hx rfl (hb hby d6_2) (XS.iadd X0.here hx rfl (hb hby d6_3) rfl (XS.aloadN X0.here hx rfl (hb hby d6_4) rfl rfl k)))))) ?_
  show own_Goes p e below (s₁.setTop (mkF m 5 #[rv a3039, iv (2 : Int32), iv p3040, iv (1 : Int32)] [(.ref a3039), (.int (3 : Int32)), (.ref a3039)])) _
  obtain ⟨T3072, X3072, e3072, st3072⟩ := getF X0 hx hZ hown (host := "") (Or.inl (wd hw 38 rfl)) Via.refl e0 pF_a3039_length (g := (mkF m 5 #[rv a3039, iv (2 : Int32), iv p3040, iv (1 : Int32)] [(.ref a3039), (.int (3 : Int32)), (.ref a3039)])) rfl rfl (hb hby d6_5)
  refine own_via (fun t k => st3072 t k) ?_
  obtain ⟨cq3073, q3073, q3073'⟩ := pE_a3039.cell
  obtain ⟨_, _, ⟨T3073, L3073, c3073, n3073⟩, -, X3073, ⟨Lc3073, hQ3073, l3073, y3073, z3073⟩, st3073⟩ := X3072.privateBack hx (y := (⟨zs1, "set", "(II)V"⟩ : MethodName)) hown (mvT hZ (wd hw 46 rfl)) (mvT hZ (wd hw 47 rfl)) (own_selPriv (mvT hZ (wd hw 2 rfl)) (mvT hZ (wd hw 47 rfl)) (Cond.privateMethod_at (mvP hZ (wd hw 48 rfl) (args := #[]))) (by decide)) (Cond.privateMethod_at (mvP hZ (wd hw 48 rfl) (args := #[]))) (mvT hZ (wd hw 49 rfl)) (by decide) (backOf (W := 0) (rm25 l Z a0 hw [] a3039 p3057 a3047 k3056 p3048 p3049 p3050 p3051 p3052 p3053 p3054 p3055 h0 n0 O0 pF_a3039_first pV_a3047 pG_a3047 pE_a3047) hZ (wd hw 49 rfl) (wd hw 3 rfl) (by decide) (by decide)) (g := (mkF m 8 #[rv a3039, iv (2 : Int32), iv p3040, iv (1 : Int32)] [(.int p3057), (.int (3 : Int32)), (.ref a3039)])) rfl (by rw [hml]; rfl) (Steps.refl _) (a := a3039) (by rw [e3072]; exact q3073) q3073' (argsL := [(.int (3 : Int32)), (.int p3057)]) (rest := []) (lenOf pd_4 rfl) rfl (by show 2 * 0 + _ ≤ _; exact Nat.le_of_eq rfl) (hb hby d6_8) (fun _ _ => ⟨rfl, e3072, (by decide : 0 + 0 ≤ _), (by decide : 0 + 0 ≤ _)⟩)
  dsimp only [Pt.U, Pt.locs, Pt.cells, Pt.slots] at X3073 l3073 y3073 z3073 st3073 hQ3073
  subst l3073 y3073 z3073
  obtain ⟨h3073, e3073⟩ : ∃ z, T3073.heap = z := ⟨_, rfl⟩
  rw [e3073] at hQ3073
  obtain ⟨rfl, Nq3073, K3073, ex3074, vx3075⟩ := hQ3073
  have N3073 := Fr.app N0 Nq3073
  refine own_via (fun t k => st3073.trans (XS.aloadN X3073.here hx rfl (hb hby d6_11) rfl rfl (XS.iloadN X3073.here hx rfl (hb hby d6_12) rfl (XS.iconst X3073.here hx rfl (hb hby d6_13) (XS.iadd X3073.here hx rfl (hb hby d6_14) rfl (XS.iloadN X3073.here hx rfl (hb hby d6_15) rfl (XS.iconst X3073.here hx rfl (hb hby d6_16) (XS.ishl X3073.here hx rfl (hb hby d6_17) rfl (XS.iloadN X3073.here hx rfl (hb hby d6_18) rfl (XS.ifNo X3073.here hx rfl (hb hby d6_19) rfl ((if0 _ _).trans (feq (by decide : ¬ ((1 : Int32) = (0 : Int32)))).1) (XS.iconst X3073.here hx rfl (hb hby d6_22) (XS.goto X3073.here hx rfl (pc0 := 23) (pc' := 27) rfl (hb hby d6_23) (by decide) (by decide) k)))))))))))) ?_
  show own_Goes p e below (T3073.setTop (mkF m 27 #[rv a3039, iv (2 : Int32), iv p3040, iv (1 : Int32)] [(.int (1 : Int32)), (.int (p3040 <<< ((1 : Int32) &&& 31))), (.int (4 : Int32)), (.ref a3039)])) _
  refine own_via (fun t k => XS.ior X3073.here hx rfl (hb hby d6_27) rfl k) ?_
  have F3077 : Fld Z h3073 a3039 zs1 "first" "[I" (.ref a3047) := (pF_a3039_first.keep K3073 (ninS pN_a3039_a3047 nin0))
  have O3078 : Old Z n0 h3073 := (O0.keep K3073 (allS pG_a3047 all0))
  have E3079 : Exa Z h3073 a3039 zs1 := (pE_a3039.keep K3073)
  obtain ⟨cq3076, q3076, q3076'⟩ := E3079.cell
  obtain ⟨_, _, ⟨T3076, L3076, c3076, n3076⟩, -, X3076, ⟨Lc3076, hQ3076, l3076, y3076, z3076⟩, st3076⟩ := X3073.privateBack hx (y := (⟨zs1, "set", "(II)V"⟩ : MethodName)) hown (mvT hZ (wd hw 46 rfl)) (mvT hZ (wd hw 47 rfl)) (own_selPriv (mvT hZ (wd hw 2 rfl)) (mvT hZ (wd hw 47 rfl)) (Cond.privateMethod_at (mvP hZ (wd hw 48 rfl) (args := #[]))) (by decide)) (Cond.privateMethod_at (mvP hZ (wd hw 48 rfl) (args := #[]))) (mvT hZ (wd hw 49 rfl)) (by decide) (backOf (W := 0) (rm39 l Z a0 hw [] a3039 ((p3040 <<< ((1 : Int32) &&& 31)) ||| (1 : Int32)) a3047 k3056 p3048 p3049 p3050 p3057 p3052 p3053 p3054 p3055 h3073 n0 O3078 F3077 vx3075 pG_a3047 ex3074) hZ (wd hw 49 rfl) (wd hw 3 rfl) (by decide) (by decide)) (g := (mkF m 28 #[rv a3039, iv (2 : Int32), iv p3040, iv (1 : Int32)] [(.int ((p3040 <<< ((1 : Int32) &&& 31)) ||| (1 : Int32))), (.int (4 : Int32)), (.ref a3039)])) rfl (by rw [hml]; rfl) (Steps.refl _) (a := a3039) (by rw [e3073]; exact q3076) q3076' (argsL := [(.int (4 : Int32)), (.int ((p3040 <<< ((1 : Int32) &&& 31)) ||| (1 : Int32)))]) (rest := []) (lenOf pd_4 rfl) rfl (by show 2 * 0 + _ ≤ _; exact Nat.le_of_eq rfl) (hb hby d6_28) (fun _ _ => ⟨rfl, e3073, (by decide : 0 + 0 ≤ _), (by decide : 0 + 0 ≤ _)⟩)
  dsimp only [Pt.U, Pt.locs, Pt.cells, Pt.slots] at X3076 l3076 y3076 z3076 st3076 hQ3076
  subst l3076 y3076 z3076
  obtain ⟨h3076, e3076⟩ : ∃ z, T3076.heap = z := ⟨_, rfl⟩
  rw [e3076] at hQ3076
  obtain ⟨rfl, Nq3076, K3076, ex3080, vx3081⟩ := hQ3076
  have N3076 := Fr.app N3073 Nq3076
  refine own_via (fun t k => st3076.trans k) ?_
  obtain ⟨fs, hr, hrun, hended, hW, hsame⟩ := X3076.leave (v := none) (fun _ => rfl)
  refine own_end (t := T3076.setFrames fs) ?_ ⟨_, hrun, hended, _, _, rfl, ?_, ⟨_, rfl⟩, hW, hsame.mono (by decide) (by decide)⟩
  · exact X3076.returnOut hx Bd.returns (hb hby d6_31) hr
  · show Q46 Z a3039 p3040 p3057 a3047 k3056 p3048 p3049 p3050 p3051 p3052 p3053 p3054 p3055 h0 n0 _ T3076.heap _
    rw [e3076]
    exact ⟨rfl, N3076, (((Keep.refl h0 [a3047]).trans K3073 (allS (Or.inl (List.mem_of_getElem? (i := 0) rfl)) all0)).trans K3076 (allS (Or.inl (List.mem_of_getElem? (i := 0) rfl)) all0)), ex3080, vx3081⟩
def Q47 (Z : State) (a3096 : Addr) (a3103 : Addr) (k3113 : ClassId) (p3105 : Int32) (p3106 : Int32) (p3107 : Int32) (p3108 : Int32) (p3109 : Int32) (p3110 : Int32) (p3111 : Int32) (p3112 : Int32) (h0 : Heap) (n0 : Nat) (v : Option Value) (h : Heap) (L : List Loc) : Prop := v = some (.int (1 : Int32)) ∧ Fr n0 L ∧ h = h0
set_option maxRecDepth 65536 in
set_option maxHeartbeats 40000000 in
theorem rm47 (l : Launch) (Z : State) (a0 : Array Value) (hw : ∀ d ∈ tables_1, d.before a0 Z = true) (ws : List Jvm.Cond) (a3096 : Addr) (a3103 : Addr) (k3113 : ClassId) (p3105 : Int32) (p3106 : Int32) (p3107 : Int32) (p3108 : Int32) (p3109 : Int32) (p3110 : Int32) (p3111 : Int32) (p3112 : Int32) (h0 : Heap) (n0 : Nat) (O0 : Old Z n0 h0) (pF_a3096_first : Fld Z h0 a3096 zs1 "first" "[I" (.ref a3103)) (pV_a3103 : Arv Z h0 a3103 k3113 .int (16 : Int32) [(.int p3105), (.int p3106), (.int p3107), (.int p3108), (.int p3109), (.int p3110), (.int p3111), (.int p3112)] (.int (0 : Int32))) (pE_a3096 : Exa Z h0 a3096 zs1) (pC3129 : ¬ ((p3109 &&& (1 : Int32)) = (0 : Int32))) :
    MetFree l (⟨zs1, "repeats", "(I)Z"⟩ : MethodName) (head1 (Jvm.Cond.code (⟨zs1, "repeats", "(I)Z"⟩ : MethodName) prog_17_method_16_code 2 (some .boolean) :: ws) ({ frames := 1, cells := 0, slots := 0, locals := 13 } : Room)) (fun a U => a = #[(.ref a3096), (.int (2 : Int32))] ∧ Z.Warmed39 U.vm ∧ U.heap = h0) (fun _ _ _ _ _ => True) (fun _ U o U' => ∃ v L, o = .returned v ∧ Q47 Z a3096 a3103 k3113 p3105 p3106 p3107 p3108 p3109 p3110 p3111 p3112 h0 n0 v U'.heap L ∧ FrameEnd U o U' L ({ frames := 1, cells := 0, slots := 0, locals := 13 } : Room).cells ({ frames := 1, cells := 0, slots := 0, locals := 13 } : Room).slots) := by
  refine MetFree.of_bodySF (plainFor_of_name pn_1) hisR ?_
  intro p e s m args below meth c s₁ Bd hml0 hP hK
  obtain ⟨rfl, hZ, hh⟩ := hP
  have hx := Bd.exec
  have hby := Bd.bytes
  have hml : c.maxLocals = 2 := hml0
  have hown : s.vm.findClass zs1 = some m.cls := findClass_of_methodNamed Bd.named
  have hnm := (name_of_methodNamed Bd.named Bd.method).1
  have X0 : Stand p l e ({ frames := 1, cells := 0, slots := 0, locals := 13 } : Room) s m #[(.ref a3096), (.int (2 : Int32))] below meth c s₁ [] 0 0 := Stand.of_body Bd
  have e0 : s₁.heap = h0 := by rw [← hh, Bd.state]; rfl
  have N0 := Fr.nil n0
  refine own_out ?_
  refine own_via (fun t k => castTop (ef_11 m a3096 (2 : Int32)) (XS.aloadN X0.here hx rfl (hb hby d12_0) rfl rfl (XS.iloadN X0.here hx rfl (hb hby d12_1) rfl (XS.iconst X0.here hx rfl (hb hby d12_2) (XS.iadd X0.here hx rfl (hb hby d12_3) rfl k))))) ?_
  show own_Goes p e below (s₁.setTop (mkF m 4 #[rv a3096, iv (2 : Int32)] [(.int (4 : Int32)), (.ref a3096)])) _
  obtain ⟨cq3130, q3130, q3130'⟩ := pE_a3096.cell
  obtain ⟨_, _, ⟨T3130, L3130, c3130, n3130⟩, -, X3130, ⟨Lc3130, hQ3130, l3130, y3130, z3130⟩, st3130⟩ := X0.privateBack hx (y := (⟨zs1, "get", "(I)I"⟩ : MethodName)) hown (mvT hZ (wd hw 55 rfl)) (mvT hZ (wd hw 56 rfl)) (own_selPriv (mvT hZ (wd hw 2 rfl)) (mvT hZ (wd hw 56 rfl)) (Cond.privateMethod_at (mvP hZ (wd hw 57 rfl) (args := #[]))) (by decide)) (Cond.privateMethod_at (mvP hZ (wd hw 57 rfl) (args := #[]))) (mvT hZ (wd hw 58 rfl)) (by decide) (backOf (W := 0) (rm43 l Z a0 hw [] a3096 a3103 k3113 p3105 p3106 p3107 p3108 p3109 p3110 p3111 p3112 h0 n0 O0 pF_a3096_first pV_a3103) hZ (wd hw 58 rfl) (wd hw 3 rfl) (by decide) (by decide)) (g := (mkF m 4 #[rv a3096, iv (2 : Int32)] [(.int (4 : Int32)), (.ref a3096)])) rfl (by rw [hml]; rfl) (Steps.refl _) (a := a3096) (by rw [e0]; exact q3130) q3130' (argsL := [(.int (4 : Int32))]) (rest := []) (lenOf pd_3 rfl) rfl (by show 2 * 0 + _ ≤ _; exact Nat.le_of_eq rfl) (hb hby d12_4) (fun _ _ => ⟨rfl, e0, (by decide : 0 + 0 ≤ _), (by decide : 0 + 0 ≤ _)⟩)
  dsimp only [Pt.U, Pt.locs, Pt.cells, Pt.slots] at X3130 l3130 y3130 z3130 st3130 hQ3130
  subst l3130 y3130 z3130
  obtain ⟨rfl, Nq3130, hh3131⟩ := hQ3130
  have N3130 := Fr.app N0 Nq3130
  refine own_via (fun t k => st3130.trans (XS.iconst X3130.here hx rfl (hb hby d12_7) (XS.iand X3130.here hx rfl (hb hby d12_8) rfl (XS.ifNo X3130.here hx rfl (hb hby d12_9) rfl ((if0 _ _).trans (feq pC3129).1) (XS.iconst X3130.here hx rfl (hb hby d12_12) (XS.goto X3130.here hx rfl (pc0 := 13) (pc' := 17) rfl (hb hby d12_13) (by decide) (by decide) k)))))) ?_
  show own_Goes p e below (T3130.setTop (mkF m 17 #[rv a3096, iv (2 : Int32)] [(.int (1 : Int32))])) _
  obtain ⟨fs, hr, hrun, hended, hW, hsame⟩ := X3130.leave (v := some (.int (1 : Int32))) (fun h => by rw [Bd.returns] at h; cases h)
  refine own_end (t := T3130.setFrames fs) ?_ ⟨_, hrun, hended, _, _, rfl, ?_, ⟨_, rfl⟩, hW, hsame.mono (by decide) (by decide)⟩
  · exact retN X3130 hx (t := .boolean) Bd.returns (by simp) (hb hby d12_17) hr
  · show Q47 Z a3096 a3103 k3113 p3105 p3106 p3107 p3108 p3109 p3110 p3111 p3112 h0 n0 _ T3130.heap _
    rw [hh3131]
    exact ⟨rfl, N3130, rfl⟩
set_option maxRecDepth 65536 in
set_option maxHeartbeats 40000000 in
theorem sfx27 (l : Launch) (Z : State) (a0 : Array Value) (hw : ∀ d ∈ tables_1, d.before a0 Z = true) (ws : List Jvm.Cond) {p : Program} {e : Env} {s : State} {m : MethodId} {below : List Frame} {meth : Method} {c : Code} {s₁ : State} (p3013 : Int32) (p3014 : Int32) (p3015 : Int32) (p3007 : Int32) (p3008 : Int32) (p3009 : Int32) (a3010 : Addr) (a3011 : Addr) (p3012 : Int32) (p3006 : Int32) (a3017 : Addr) (k3025 : ClassId) (p3018 : Int32) (p3019 : Int32) (p3020 : Int32) (p3021 : Int32) (p3022 : Int32) (p3023 : Int32) (p3024 : Int32) (k3016 : ClassId) (Bd : BodyLoose p l x (head1 (Jvm.Cond.code x code maxLocals ret :: ws) room_1) code maxLocals ret e s m #[(.int p3013), (.int p3014), (.int p3015)] below meth c s₁) (hZ : Z.Warmed39 s.vm) (hml : c.maxLocals = 11) {T0 : State} {locs0 : List Loc} (X0 : Stand p l e room_1 s m #[(.int p3013), (.int p3014), (.int p3015)] below meth c T0 locs0 8 120) (h0 : Heap) (e0 : T0.heap = h0) (n0 : Nat) (O0 : Old Z n0 h0) (N0 : Fr n0 locs0) (pF_a3011_length : Fld Z h0 a3011 zs1 "length" "I" (.int (5 : Int32))) (pF_a3011_first : Fld Z h0 a3011 zs1 "first" "[I" (.ref a3017)) (pV_a3017 : Arv Z h0 a3017 k3025 .int (16 : Int32) [(.int p3018), (.int p3019), (.int p3012), (.int p3020), (.int p3021), (.int p3022), (.int p3023), (.int p3024)] (.int (0 : Int32))) (pG_a3017 : n0 ≤ a3017) (pE_a3017 : Exa Z h0 a3017 "[I") (pE_a3011 : Exa Z h0 a3011 zs1) (pN_a3011_a3017 : a3011 ≠ a3017) (pF_a3011_text : Fld Z h0 a3011 zs1 "text" "[B" (.ref a3010)) (pC3030 : ¬ (p3012 < (0 : Int32))) (pC3031 : p3012 < (2 : Int32)) (pV_a3010 : Arv Z h0 a3010 k3016 .byte (4 : Int32) [(.int (123 : Int32)), (.int (91 : Int32)), (.int (49 : Int32)), (.int (110 : Int32))] (.int (0 : Int32))) (pN_a3010_a3017 : a3010 ≠ a3017) (pC3034 : ¬ (p3006 < (0 : Int32))) :
    own_Goes p e below (T0.setTop (mkF m 141 #[iv p3007, iv p3008, iv p3009, rv a3010, rv a3011, iv (2 : Int32), iv p3012, iv (2 : Int32), iv (0 : Int32), iv p3006, iv (1 : Int32)] [])) (own_G s below n0) := by
  have hx := Bd.exec
  have hby := Bd.bytes
  have hown : s.vm.findClass zs2 = some m.cls := findClass_of_methodNamed Bd.named
  have hnm := (name_of_methodNamed Bd.named Bd.method).1
  show own_Goes p e below (T0.setTop (mkF m 141 #[iv p3007, iv p3008, iv p3009, rv a3010, rv a3011, iv (2 : Int32), iv p3012, iv (2 : Int32), iv (0 : Int32), iv p3006, iv (1 : Int32)] [])) _
  refine own_via (fun t k => XS.aload X0.here hx rfl (hb hby at_141) rfl rfl (XS.iload X0.here hx rfl (hb hby at_143) rfl (XS.iload X0.here hx rfl (hb hby at_145) rfl (XS.iload X0.here hx rfl (hb hby at_147) rfl k)))) ?_
  show own_Goes p e below (T0.setTop (mkF m 149 #[iv p3007, iv p3008, iv p3009, rv a3010, rv a3011, iv (2 : Int32), iv p3012, iv (2 : Int32), iv (0 : Int32), iv p3006, iv (1 : Int32)] [(.int (1 : Int32)), (.int p3006), (.int (2 : Int32)), (.ref a3011)])) _
  obtain ⟨_, T3038, _, X3038, hQ3038, st3038⟩ := own_cv X0 hx hZ hown (wd hw 41 rfl) (wd hw 42 rfl) (wd hw 44 rfl) (wd hw 43 rfl) (wd hw 45 rfl) (wd hw 3 rfl) (by decide) (rm46 l Z a0 hw [] a3011 p3006 (5 : Int32) a3017 k3025 p3018 p3019 p3012 p3020 p3021 p3022 p3023 p3024 h0 n0 O0 pF_a3011_length pF_a3011_first pV_a3017 pG_a3017 pE_a3017 pE_a3011 pN_a3011_a3017) e0 pE_a3011 (g := (mkF m 149 #[iv p3007, iv p3008, iv p3009, rv a3010, rv a3011, iv (2 : Int32), iv p3012, iv (2 : Int32), iv (0 : Int32), iv p3006, iv (1 : Int32)] [(.int (1 : Int32)), (.int p3006), (.int (2 : Int32)), (.ref a3011)])) rfl (by rw [hml]; rfl) (rest := []) (W := 0) (lenOf pd_5 rfl) rfl (by show 2 * 0 + _ ≤ _; exact Nat.le_of_eq rfl) (hb hby at_149) (by decide) (by decide) (by decide) (by decide)
  obtain ⟨h3038, e3038⟩ : ∃ z, T3038.heap = z := ⟨_, rfl⟩
  rw [e3038] at hQ3038
  obtain ⟨rfl, Nq3038, K3038, ex3082, vx3083⟩ := hQ3038
  have N3038 := Fr.app N0 Nq3038
  refine own_via (fun t k => st3038 t (XS.iload X3038.here hx rfl (hb hby at_152) rfl (XS.iload X3038.here hx rfl (hb hby at_154) rfl (XS.icmpNo X3038.here hx rfl (hb hby at_156) rfl (teq (by decide : (2 : Int32) = (2 : Int32))).2 (XS.aload X3038.here hx rfl (hb hby at_159) rfl rfl (XS.iload X3038.here hx rfl (hb hby at_161) rfl k)))))) ?_
  show own_Goes p e below (T3038.setTop (mkF m 163 #[iv p3007, iv p3008, iv p3009, rv a3010, rv a3011, iv (2 : Int32), iv p3012, iv (2 : Int32), iv (0 : Int32), iv p3006, iv (1 : Int32)] [(.int (2 : Int32)), (.ref a3011)])) _
  have F3085 : Fld Z h3038 a3011 zs1 "first" "[I" (.ref a3017) := (pF_a3011_first.keep K3038 (ninS pN_a3011_a3017 nin0))
  have E3086 : Exa Z h3038 a3011 zs1 := (pE_a3011.keep K3038)
  have O3087 : Old Z n0 h3038 := (O0.keep K3038 (allS pG_a3017 all0))
  obtain ⟨_, T3084, _, X3084, hQ3084, st3084⟩ := own_cv X3038 hx hZ hown (wd hw 50 rfl) (wd hw 51 rfl) (wd hw 53 rfl) (wd hw 52 rfl) (wd hw 54 rfl) (wd hw 3 rfl) (by decide) (rm41 l Z a0 hw [] a3011 a3017 k3025 p3018 p3019 p3012 (5 : Int32) ((p3006 <<< ((1 : Int32) &&& 31)) ||| (1 : Int32)) p3022 p3023 p3024 h3038 n0 O3087 F3085 vx3083 E3086) e3038 E3086 (g := (mkF m 163 #[iv p3007, iv p3008, iv p3009, rv a3010, rv a3011, iv (2 : Int32), iv p3012, iv (2 : Int32), iv (0 : Int32), iv p3006, iv (1 : Int32)] [(.int (2 : Int32)), (.ref a3011)])) rfl (by rw [hml]; rfl) (rest := []) (W := 0) (lenOf pd_3 rfl) rfl (by show 2 * 0 + _ ≤ _; exact Nat.le_of_eq rfl) (hb hby at_163) (by decide) (by decide) (by decide) (by decide)
  obtain ⟨rfl, Nq3084, hh3088⟩ := hQ3084
  have N3084 := Fr.app N3038 Nq3084
  refine own_via (fun t k => st3084 t (XS.iload X3084.here hx rfl (hb hby at_166) rfl (XS.icmpNo X3084.here hx rfl (hb hby at_168) rfl (teq (rfl : p3012 = p3012)).2 (XS.aload X3084.here hx rfl (hb hby at_171) rfl rfl (XS.iload X3084.here hx rfl (hb hby at_173) rfl k))))) ?_
  show own_Goes p e below (T3084.setTop (mkF m 175 #[iv p3007, iv p3008, iv p3009, rv a3010, rv a3011, iv (2 : Int32), iv p3012, iv (2 : Int32), iv (0 : Int32), iv p3006, iv (1 : Int32)] [(.int (2 : Int32)), (.ref a3011)])) _
  have F3090 : Fld Z h3038 a3011 zs1 "text" "[B" (.ref a3010) := (pF_a3011_text.keep K3038 (ninS pN_a3011_a3017 nin0))
  have V3091 : Arv Z h3038 a3010 k3016 .byte (4 : Int32) [(.int (123 : Int32)), (.int (91 : Int32)), (.int (49 : Int32)), (.int (110 : Int32))] (.int (0 : Int32)) := (pV_a3010.keep K3038 (ninS pN_a3010_a3017 nin0))
  obtain ⟨_, T3089, _, X3089, hQ3089, st3089⟩ := own_cv X3084 hx hZ hown (wd hw 59 rfl) (wd hw 60 rfl) (wd hw 62 rfl) (wd hw 61 rfl) (wd hw 63 rfl) (wd hw 3 rfl) (by decide) (rm42 l Z a0 hw [] a3011 a3010 a3017 k3025 p3018 p3019 p3012 (5 : Int32) ((p3006 <<< ((1 : Int32) &&& 31)) ||| (1 : Int32)) p3022 p3023 p3024 k3016 (49 : Int32) (110 : Int32) h3038 n0 O3087 F3090 F3085 vx3083 E3086 pC3030 pC3031 V3091) hh3088 E3086 (g := (mkF m 175 #[iv p3007, iv p3008, iv p3009, rv a3010, rv a3011, iv (2 : Int32), iv p3012, iv (2 : Int32), iv (0 : Int32), iv p3006, iv (1 : Int32)] [(.int (2 : Int32)), (.ref a3011)])) rfl (by rw [hml]; rfl) (rest := []) (W := 0) (lenOf pd_3 rfl) rfl (by show 2 * 0 + _ ≤ _; exact Nat.le_of_eq rfl) (hb hby at_175) (by decide) (by decide) (by decide) (by decide)
  obtain ⟨rfl, Nq3089, hh3092⟩ := hQ3089
  have N3089 := Fr.app N3084 Nq3089
  refine own_via (fun t k => st3089 t (XS.iload X3089.here hx rfl (hb hby at_178) rfl (XS.iconst X3089.here hx rfl (hb hby at_180) (XS.iadd X3089.here hx rfl (hb hby at_181) rfl (XS.iload X3089.here hx rfl (hb hby at_182) rfl (XS.iadd X3089.here hx rfl (hb hby at_184) rfl (XS.icmpNo X3089.here hx rfl (hb hby at_185) rfl (teq (by decide : (5 : Int32) = (5 : Int32))).2 (XS.aload X3089.here hx rfl (hb hby at_188) rfl rfl (XS.iload X3089.here hx rfl (hb hby at_190) rfl k))))))))) ?_
  show own_Goes p e below (T3089.setTop (mkF m 192 #[iv p3007, iv p3008, iv p3009, rv a3010, rv a3011, iv (2 : Int32), iv p3012, iv (2 : Int32), iv (0 : Int32), iv p3006, iv (1 : Int32)] [(.int (2 : Int32)), (.ref a3011)])) _
  obtain ⟨_, T3093, _, X3093, hQ3093, st3093⟩ := own_cv X3089 hx hZ hown (wd hw 64 rfl) (wd hw 65 rfl) (wd hw 67 rfl) (wd hw 66 rfl) (wd hw 68 rfl) (wd hw 3 rfl) (by decide) (rm44 l Z a0 hw [] a3011 a3017 k3025 p3018 p3019 p3012 (5 : Int32) ((p3006 <<< ((1 : Int32) &&& 31)) ||| (1 : Int32)) p3022 p3023 p3024 h3038 n0 O3087 F3085 vx3083 E3086) hh3092 E3086 (g := (mkF m 192 #[iv p3007, iv p3008, iv p3009, rv a3010, rv a3011, iv (2 : Int32), iv p3012, iv (2 : Int32), iv (0 : Int32), iv p3006, iv (1 : Int32)] [(.int (2 : Int32)), (.ref a3011)])) rfl (by rw [hml]; rfl) (rest := []) (W := 0) (lenOf pd_3 rfl) rfl (by show 2 * 0 + _ ≤ _; exact Nat.le_of_eq rfl) (hb hby at_192) (by decide) (by decide) (by decide) (by decide)
  obtain ⟨rfl, Nq3093, hh3094⟩ := hQ3093
  have N3093 := Fr.app N3089 Nq3093
  refine own_via (fun t k => st3093 t (XS.iload X3093.here hx rfl (hb hby at_195) rfl (XS.icmpNo X3093.here hx rfl (hb hby at_197) rfl (teq (own_cnt p3006 1 pC3034 (by decide))).2 (XS.aload X3093.here hx rfl (hb hby at_200) rfl rfl (XS.iload X3093.here hx rfl (hb hby at_202) rfl k))))) ?_
  show own_Goes p e below (T3093.setTop (mkF m 204 #[iv p3007, iv p3008, iv p3009, rv a3010, rv a3011, iv (2 : Int32), iv p3012, iv (2 : Int32), iv (0 : Int32), iv p3006, iv (1 : Int32)] [(.int (2 : Int32)), (.ref a3011)])) _
  obtain ⟨_, T3095, _, X3095, hQ3095, st3095⟩ := own_cv X3093 hx hZ hown (wd hw 69 rfl) (wd hw 70 rfl) (wd hw 72 rfl) (wd hw 71 rfl) (wd hw 73 rfl) (wd hw 3 rfl) (by decide) (rm47 l Z a0 hw [] a3011 a3017 k3025 p3018 p3019 p3012 (5 : Int32) ((p3006 <<< ((1 : Int32) &&& 31)) ||| (1 : Int32)) p3022 p3023 p3024 h3038 n0 O3087 F3085 vx3083 E3086 (own_rep1 p3006)) hh3094 E3086 (g := (mkF m 204 #[iv p3007, iv p3008, iv p3009, rv a3010, rv a3011, iv (2 : Int32), iv p3012, iv (2 : Int32), iv (0 : Int32), iv p3006, iv (1 : Int32)] [(.int (2 : Int32)), (.ref a3011)])) rfl (by rw [hml]; rfl) (rest := []) (W := 0) (lenOf pd_6 rfl) rfl (by show 2 * 0 + _ ≤ _; exact Nat.le_of_eq rfl) (hb hby at_204) (by decide) (by decide) (by decide) (by decide)
  obtain ⟨rfl, Nq3095, hh3132⟩ := hQ3095
  have N3095 := Fr.app N3093 Nq3095
  refine own_via (fun t k => st3095 t (XS.iload X3095.here hx rfl (hb hby at_207) rfl (XS.icmpNo X3095.here hx rfl (hb hby at_209) rfl (teq (by decide : (1 : Int32) = (1 : Int32))).2 (XS.iconst X3095.here hx rfl (hb hby at_212) (XS.goto X3095.here hx rfl (pc0 := 213) (pc' := 217) rfl (hb hby at_213) (by decide) (by decide) k))))) ?_
  show own_Goes p e below (T3095.setTop (mkF m 217 #[iv p3007, iv p3008, iv p3009, rv a3010, rv a3011, iv (2 : Int32), iv p3012, iv (2 : Int32), iv (0 : Int32), iv p3006, iv (1 : Int32)] [(.int (1 : Int32))])) _
  obtain ⟨fs, hr, hrun, hended, hW, hsame⟩ := X3095.leave (v := some (.int (1 : Int32))) (fun h => by rw [Bd.returns] at h; cases h)
  refine own_end (t := T3095.setFrames fs) ?_ ⟨_, hrun, hended, _, _, rfl, ?_, ⟨_, rfl⟩, hW, hsame.mono (by decide) (by decide)⟩
  · exact retN X3095 hx (t := .boolean) Bd.returns (by simp) (hb hby at_217) hr
  · exact ⟨rfl, N3095⟩
set_option maxRecDepth 65536 in
set_option maxHeartbeats 40000000 in
theorem sfx28 (l : Launch) (Z : State) (a0 : Array Value) (hw : ∀ d ∈ tables_1, d.before a0 Z = true) (ws : List Jvm.Cond) {p : Program} {e : Env} {s : State} {m : MethodId} {below : List Frame} {meth : Method} {c : Code} {s₁ : State} (p2673 : Int32) (p2674 : Int32) (p2675 : Int32) (p2667 : Int32) (p2668 : Int32) (p2669 : Int32) (a2670 : Addr) (a2671 : Addr) (p2672 : Int32) (a2677 : Addr) (k2685 : ClassId) (p2678 : Int32) (p2679 : Int32) (p2680 : Int32) (p2681 : Int32) (p2682 : Int32) (p2683 : Int32) (p2684 : Int32) (k2676 : ClassId) (Bd : BodyLoose p l x (head1 (Jvm.Cond.code x code maxLocals ret :: ws) room_1) code maxLocals ret e s m #[(.int p2673), (.int p2674), (.int p2675)] below meth c s₁) (hZ : Z.Warmed39 s.vm) (hml : c.maxLocals = 11) {T0 : State} {locs0 : List Loc} (X0 : Stand p l e room_1 s m #[(.int p2673), (.int p2674), (.int p2675)] below meth c T0 locs0 8 120) (h0 : Heap) (e0 : T0.heap = h0) (n0 : Nat) (O0 : Old Z n0 h0) (N0 : Fr n0 locs0) (pF_a2671_length : Fld Z h0 a2671 zs1 "length" "I" (.int (5 : Int32))) (pF_a2671_first : Fld Z h0 a2671 zs1 "first" "[I" (.ref a2677)) (pV_a2677 : Arv Z h0 a2677 k2685 .int (16 : Int32) [(.int p2678), (.int p2679), (.int p2672), (.int p2680), (.int p2681), (.int p2682), (.int p2683), (.int p2684)] (.int (0 : Int32))) (pG_a2677 : n0 ≤ a2677) (pE_a2677 : Exa Z h0 a2677 "[I") (pE_a2671 : Exa Z h0 a2671 zs1) (pN_a2671_a2677 : a2671 ≠ a2677) (pF_a2671_text : Fld Z h0 a2671 zs1 "text" "[B" (.ref a2670)) (pC2690 : ¬ (p2672 < (0 : Int32))) (pC2691 : p2672 < (2 : Int32)) (pV_a2670 : Arv Z h0 a2670 k2676 .byte (4 : Int32) [(.int (123 : Int32)), (.int (91 : Int32)), (.int (49 : Int32)), (.int (110 : Int32))] (.int (0 : Int32))) (pN_a2670_a2677 : a2670 ≠ a2677) :
    own_Goes p e below (T0.setTop (mkF m 122 #[iv p2667, iv p2668, iv p2669, rv a2670, rv a2671, iv (2 : Int32), iv p2672, iv (2 : Int32), iv (0 : Int32), .unset, .unset] [])) (own_G s below n0) := by
  have hx := Bd.exec
  have hby := Bd.bytes
  have hown : s.vm.findClass zs2 = some m.cls := findClass_of_methodNamed Bd.named
  have hnm := (name_of_methodNamed Bd.named Bd.method).1
  show own_Goes p e below (T0.setTop (mkF m 122 #[iv p2667, iv p2668, iv p2669, rv a2670, rv a2671, iv (2 : Int32), iv p2672, iv (2 : Int32), iv (0 : Int32), .unset, .unset] [])) _
  refine own_via (fun t k => XS.iloadN X0.here hx rfl (hb hby at_122) rfl (X0.ldcInt hx hown (mvT hZ (wd hw 40 rfl)) (g := (mkF m 123 #[iv p2667, iv p2668, iv p2669, rv a2670, rv a2671, iv (2 : Int32), iv p2672, iv (2 : Int32), iv (0 : Int32), .unset, .unset] [(.int p2668)])) rfl (hb hby at_123) t (XS.iand X0.here hx rfl (hb hby at_125) rfl (XS.istore X0.here hx rfl (hb hby at_126) rfl (l' := #[iv p2667, iv p2668, iv p2669, rv a2670, rv a2671, iv (2 : Int32), iv p2672, iv (2 : Int32), iv (0 : Int32), iv (p2668 &&& (2147483647 : Int32)), .unset]) rfl (XS.iloadN X0.here hx rfl (hb hby at_128) rfl (XS.iconst X0.here hx rfl (hb hby at_129) (XS.iand X0.here hx rfl (hb hby at_130) rfl k))))))) ?_
  show own_Goes p e below (T0.setTop (mkF m 131 #[iv p2667, iv p2668, iv p2669, rv a2670, rv a2671, iv (2 : Int32), iv p2672, iv (2 : Int32), iv (0 : Int32), iv (p2668 &&& (2147483647 : Int32)), .unset] [(.int (p2669 &&& (1 : Int32)))])) _
  by_cases hc2694 : (p2669 &&& (1 : Int32)) = (0 : Int32)
  · refine own_via (fun t k => XS.ifYes X0.here hx rfl (pc0 := 131) (pc' := 138) rfl (hb hby at_131) rfl ((if0 _ _).trans (teq hc2694).1) (by decide) (by decide) (XS.iconst X0.here hx rfl (hb hby at_138) (XS.istore X0.here hx rfl (hb hby at_139) rfl (l' := #[iv p2667, iv p2668, iv p2669, rv a2670, rv a2671, iv (2 : Int32), iv p2672, iv (2 : Int32), iv (0 : Int32), iv (p2668 &&& (2147483647 : Int32)), iv (0 : Int32)]) rfl k))) ?_
    show own_Goes p e below (T0.setTop (mkF m 141 #[iv p2667, iv p2668, iv p2669, rv a2670, rv a2671, iv (2 : Int32), iv p2672, iv (2 : Int32), iv (0 : Int32), iv (p2668 &&& (2147483647 : Int32)), iv (0 : Int32)] [])) _
    exact sfx26 l Z a0 hw ws p2673 p2674 p2675 p2667 p2668 p2669 a2670 a2671 p2672 (p2668 &&& (2147483647 : Int32)) a2677 k2685 p2678 p2679 p2680 p2681 p2682 p2683 p2684 k2676 Bd hZ hml X0 h0 e0 n0 O0 N0 pF_a2671_length pF_a2671_first pV_a2677 pG_a2677 pE_a2677 pE_a2671 pN_a2671_a2677 pF_a2671_text pC2690 pC2691 pV_a2670 pN_a2670_a2677 (own_nn_mask p2668 (2147483647 : Int32) 31 (by decide) (by decide))
  · refine own_via (fun t k => XS.ifNo X0.here hx rfl (hb hby at_131) rfl ((if0 _ _).trans (feq hc2694).1) (XS.iconst X0.here hx rfl (hb hby at_134) (XS.goto X0.here hx rfl (pc0 := 135) (pc' := 139) rfl (hb hby at_135) (by decide) (by decide) (XS.istore X0.here hx rfl (hb hby at_139) rfl (l' := #[iv p2667, iv p2668, iv p2669, rv a2670, rv a2671, iv (2 : Int32), iv p2672, iv (2 : Int32), iv (0 : Int32), iv (p2668 &&& (2147483647 : Int32)), iv (1 : Int32)]) rfl k)))) ?_
    show own_Goes p e below (T0.setTop (mkF m 141 #[iv p2667, iv p2668, iv p2669, rv a2670, rv a2671, iv (2 : Int32), iv p2672, iv (2 : Int32), iv (0 : Int32), iv (p2668 &&& (2147483647 : Int32)), iv (1 : Int32)] [])) _
    exact sfx27 l Z a0 hw ws p2673 p2674 p2675 p2667 p2668 p2669 a2670 a2671 p2672 (p2668 &&& (2147483647 : Int32)) a2677 k2685 p2678 p2679 p2680 p2681 p2682 p2683 p2684 k2676 Bd hZ hml X0 h0 e0 n0 O0 N0 pF_a2671_length pF_a2671_first pV_a2677 pG_a2677 pE_a2677 pE_a2671 pN_a2671_a2677 pF_a2671_text pC2690 pC2691 pV_a2670 pN_a2670_a2677 (own_nn_mask p2668 (2147483647 : Int32) 31 (by decide) (by decide))
set_option maxRecDepth 65536 in
set_option maxHeartbeats 40000000 in
theorem sfx29 (l : Launch) (Z : State) (a0 : Array Value) (hw : ∀ d ∈ tables_1, d.before a0 Z = true) (ws : List Jvm.Cond) {p : Program} {e : Env} {s : State} {m : MethodId} {below : List Frame} {meth : Method} {c : Code} {s₁ : State} (p3175 : Int32) (p3176 : Int32) (p3177 : Int32) (p3169 : Int32) (p3170 : Int32) (p3171 : Int32) (a3172 : Addr) (a3173 : Addr) (p3174 : Int32) (p3168 : Int32) (a3179 : Addr) (k3187 : ClassId) (p3180 : Int32) (p3181 : Int32) (p3182 : Int32) (p3183 : Int32) (p3184 : Int32) (p3185 : Int32) (p3186 : Int32) (k3178 : ClassId) (Bd : BodyLoose p l x (head1 (Jvm.Cond.code x code maxLocals ret :: ws) room_1) code maxLocals ret e s m #[(.int p3175), (.int p3176), (.int p3177)] below meth c s₁) (hZ : Z.Warmed39 s.vm) (hml : c.maxLocals = 11) {T0 : State} {locs0 : List Loc} (X0 : Stand p l e room_1 s m #[(.int p3175), (.int p3176), (.int p3177)] below meth c T0 locs0 8 120) (h0 : Heap) (e0 : T0.heap = h0) (n0 : Nat) (O0 : Old Z n0 h0) (N0 : Fr n0 locs0) (pF_a3173_length : Fld Z h0 a3173 zs1 "length" "I" (.int (6 : Int32))) (pF_a3173_first : Fld Z h0 a3173 zs1 "first" "[I" (.ref a3179)) (pV_a3179 : Arv Z h0 a3179 k3187 .int (16 : Int32) [(.int p3180), (.int p3181), (.int p3174), (.int p3182), (.int p3183), (.int p3184), (.int p3185), (.int p3186)] (.int (0 : Int32))) (pG_a3179 : n0 ≤ a3179) (pE_a3179 : Exa Z h0 a3179 "[I") (pE_a3173 : Exa Z h0 a3173 zs1) (pN_a3173_a3179 : a3173 ≠ a3179) (pF_a3173_text : Fld Z h0 a3173 zs1 "text" "[B" (.ref a3172)) (pC3192 : ¬ (p3174 < (0 : Int32))) (pC3193 : p3174 < (2 : Int32)) (pV_a3172 : Arv Z h0 a3172 k3178 .byte (4 : Int32) [(.int (123 : Int32)), (.int (91 : Int32)), (.int (49 : Int32)), (.int (110 : Int32))] (.int (0 : Int32))) (pN_a3172_a3179 : a3172 ≠ a3179) (pC3196 : ¬ (p3168 < (0 : Int32))) :
    own_Goes p e below (T0.setTop (mkF m 141 #[iv p3169, iv p3170, iv p3171, rv a3172, rv a3173, iv (2 : Int32), iv p3174, iv (2 : Int32), iv (1 : Int32), iv p3168, iv (0 : Int32)] [])) (own_G s below n0) := by
  have hx := Bd.exec
  have hby := Bd.bytes
  have hown : s.vm.findClass zs2 = some m.cls := findClass_of_methodNamed Bd.named
  have hnm := (name_of_methodNamed Bd.named Bd.method).1
  show own_Goes p e below (T0.setTop (mkF m 141 #[iv p3169, iv p3170, iv p3171, rv a3172, rv a3173, iv (2 : Int32), iv p3174, iv (2 : Int32), iv (1 : Int32), iv p3168, iv (0 : Int32)] [])) _
  refine own_via (fun t k => XS.aload X0.here hx rfl (hb hby at_141) rfl rfl (XS.iload X0.here hx rfl (hb hby at_143) rfl (XS.iload X0.here hx rfl (hb hby at_145) rfl (XS.iload X0.here hx rfl (hb hby at_147) rfl k)))) ?_
  show own_Goes p e below (T0.setTop (mkF m 149 #[iv p3169, iv p3170, iv p3171, rv a3172, rv a3173, iv (2 : Int32), iv p3174, iv (2 : Int32), iv (1 : Int32), iv p3168, iv (0 : Int32)] [(.int (0 : Int32)), (.int p3168), (.int (2 : Int32)), (.ref a3173)])) _
  obtain ⟨_, T3200, _, X3200, hQ3200, st3200⟩ := own_cv X0 hx hZ hown (wd hw 41 rfl) (wd hw 42 rfl) (wd hw 44 rfl) (wd hw 43 rfl) (wd hw 45 rfl) (wd hw 3 rfl) (by decide) (rm40 l Z a0 hw [] a3173 p3168 (6 : Int32) a3179 k3187 p3180 p3181 p3174 p3182 p3183 p3184 p3185 p3186 h0 n0 O0 pF_a3173_length pF_a3173_first pV_a3179 pG_a3179 pE_a3179 pE_a3173 pN_a3173_a3179) e0 pE_a3173 (g := (mkF m 149 #[iv p3169, iv p3170, iv p3171, rv a3172, rv a3173, iv (2 : Int32), iv p3174, iv (2 : Int32), iv (1 : Int32), iv p3168, iv (0 : Int32)] [(.int (0 : Int32)), (.int p3168), (.int (2 : Int32)), (.ref a3173)])) rfl (by rw [hml]; rfl) (rest := []) (W := 0) (lenOf pd_5 rfl) rfl (by show 2 * 0 + _ ≤ _; exact Nat.le_of_eq rfl) (hb hby at_149) (by decide) (by decide) (by decide) (by decide)
  obtain ⟨h3200, e3200⟩ : ∃ z, T3200.heap = z := ⟨_, rfl⟩
  rw [e3200] at hQ3200
  obtain ⟨rfl, Nq3200, K3200, ex3201, vx3202⟩ := hQ3200
  have N3200 := Fr.app N0 Nq3200
  refine own_via (fun t k => st3200 t (XS.iload X3200.here hx rfl (hb hby at_152) rfl (XS.iload X3200.here hx rfl (hb hby at_154) rfl (XS.icmpNo X3200.here hx rfl (hb hby at_156) rfl (teq (by decide : (2 : Int32) = (2 : Int32))).2 (XS.aload X3200.here hx rfl (hb hby at_159) rfl rfl (XS.iload X3200.here hx rfl (hb hby at_161) rfl k)))))) ?_
  show own_Goes p e below (T3200.setTop (mkF m 163 #[iv p3169, iv p3170, iv p3171, rv a3172, rv a3173, iv (2 : Int32), iv p3174, iv (2 : Int32), iv (1 : Int32), iv p3168, iv (0 : Int32)] [(.int (2 : Int32)), (.ref a3173)])) _
  have F3204 : Fld Z h3200 a3173 zs1 "first" "[I" (.ref a3179) := (pF_a3173_first.keep K3200 (ninS pN_a3173_a3179 nin0))
  have E3205 : Exa Z h3200 a3173 zs1 := (pE_a3173.keep K3200)
  have O3206 : Old Z n0 h3200 := (O0.keep K3200 (allS pG_a3179 all0))
  obtain ⟨_, T3203, _, X3203, hQ3203, st3203⟩ := own_cv X3200 hx hZ hown (wd hw 50 rfl) (wd hw 51 rfl) (wd hw 53 rfl) (wd hw 52 rfl) (wd hw 54 rfl) (wd hw 3 rfl) (by decide) (rm41 l Z a0 hw [] a3173 a3179 k3187 p3180 p3181 p3174 (6 : Int32) ((p3168 <<< ((1 : Int32) &&& 31)) ||| (0 : Int32)) p3184 p3185 p3186 h3200 n0 O3206 F3204 vx3202 E3205) e3200 E3205 (g := (mkF m 163 #[iv p3169, iv p3170, iv p3171, rv a3172, rv a3173, iv (2 : Int32), iv p3174, iv (2 : Int32), iv (1 : Int32), iv p3168, iv (0 : Int32)] [(.int (2 : Int32)), (.ref a3173)])) rfl (by rw [hml]; rfl) (rest := []) (W := 0) (lenOf pd_3 rfl) rfl (by show 2 * 0 + _ ≤ _; exact Nat.le_of_eq rfl) (hb hby at_163) (by decide) (by decide) (by decide) (by decide)
  obtain ⟨rfl, Nq3203, hh3207⟩ := hQ3203
  have N3203 := Fr.app N3200 Nq3203
  refine own_via (fun t k => st3203 t (XS.iload X3203.here hx rfl (hb hby at_166) rfl (XS.icmpNo X3203.here hx rfl (hb hby at_168) rfl (teq (rfl : p3174 = p3174)).2 (XS.aload X3203.here hx rfl (hb hby at_171) rfl rfl (XS.iload X3203.here hx rfl (hb hby at_173) rfl k))))) ?_
  show own_Goes p e below (T3203.setTop (mkF m 175 #[iv p3169, iv p3170, iv p3171, rv a3172, rv a3173, iv (2 : Int32), iv p3174, iv (2 : Int32), iv (1 : Int32), iv p3168, iv (0 : Int32)] [(.int (2 : Int32)), (.ref a3173)])) _
  have F3209 : Fld Z h3200 a3173 zs1 "text" "[B" (.ref a3172) := (pF_a3173_text.keep K3200 (ninS pN_a3173_a3179 nin0))
  have V3210 : Arv Z h3200 a3172 k3178 .byte (4 : Int32) [(.int (123 : Int32)), (.int (91 : Int32)), (.int (49 : Int32)), (.int (110 : Int32))] (.int (0 : Int32)) := (pV_a3172.keep K3200 (ninS pN_a3172_a3179 nin0))
  obtain ⟨_, T3208, _, X3208, hQ3208, st3208⟩ := own_cv X3203 hx hZ hown (wd hw 59 rfl) (wd hw 60 rfl) (wd hw 62 rfl) (wd hw 61 rfl) (wd hw 63 rfl) (wd hw 3 rfl) (by decide) (rm42 l Z a0 hw [] a3173 a3172 a3179 k3187 p3180 p3181 p3174 (6 : Int32) ((p3168 <<< ((1 : Int32) &&& 31)) ||| (0 : Int32)) p3184 p3185 p3186 k3178 (49 : Int32) (110 : Int32) h3200 n0 O3206 F3209 F3204 vx3202 E3205 pC3192 pC3193 V3210) hh3207 E3205 (g := (mkF m 175 #[iv p3169, iv p3170, iv p3171, rv a3172, rv a3173, iv (2 : Int32), iv p3174, iv (2 : Int32), iv (1 : Int32), iv p3168, iv (0 : Int32)] [(.int (2 : Int32)), (.ref a3173)])) rfl (by rw [hml]; rfl) (rest := []) (W := 0) (lenOf pd_3 rfl) rfl (by show 2 * 0 + _ ≤ _; exact Nat.le_of_eq rfl) (hb hby at_175) (by decide) (by decide) (by decide) (by decide)
  obtain ⟨rfl, Nq3208, hh3211⟩ := hQ3208
  have N3208 := Fr.app N3203 Nq3208
  refine own_via (fun t k => st3208 t (XS.iload X3208.here hx rfl (hb hby at_178) rfl (XS.iconst X3208.here hx rfl (hb hby at_180) (XS.iadd X3208.here hx rfl (hb hby at_181) rfl (XS.iload X3208.here hx rfl (hb hby at_182) rfl (XS.iadd X3208.here hx rfl (hb hby at_184) rfl (XS.icmpNo X3208.here hx rfl (hb hby at_185) rfl (teq (by decide : (6 : Int32) = (6 : Int32))).2 (XS.aload X3208.here hx rfl (hb hby at_188) rfl rfl (XS.iload X3208.here hx rfl (hb hby at_190) rfl k))))))))) ?_
  show own_Goes p e below (T3208.setTop (mkF m 192 #[iv p3169, iv p3170, iv p3171, rv a3172, rv a3173, iv (2 : Int32), iv p3174, iv (2 : Int32), iv (1 : Int32), iv p3168, iv (0 : Int32)] [(.int (2 : Int32)), (.ref a3173)])) _
  obtain ⟨_, T3212, _, X3212, hQ3212, st3212⟩ := own_cv X3208 hx hZ hown (wd hw 64 rfl) (wd hw 65 rfl) (wd hw 67 rfl) (wd hw 66 rfl) (wd hw 68 rfl) (wd hw 3 rfl) (by decide) (rm44 l Z a0 hw [] a3173 a3179 k3187 p3180 p3181 p3174 (6 : Int32) ((p3168 <<< ((1 : Int32) &&& 31)) ||| (0 : Int32)) p3184 p3185 p3186 h3200 n0 O3206 F3204 vx3202 E3205) hh3211 E3205 (g := (mkF m 192 #[iv p3169, iv p3170, iv p3171, rv a3172, rv a3173, iv (2 : Int32), iv p3174, iv (2 : Int32), iv (1 : Int32), iv p3168, iv (0 : Int32)] [(.int (2 : Int32)), (.ref a3173)])) rfl (by rw [hml]; rfl) (rest := []) (W := 0) (lenOf pd_3 rfl) rfl (by show 2 * 0 + _ ≤ _; exact Nat.le_of_eq rfl) (hb hby at_192) (by decide) (by decide) (by decide) (by decide)
  obtain ⟨rfl, Nq3212, hh3213⟩ := hQ3212
  have N3212 := Fr.app N3208 Nq3212
  refine own_via (fun t k => st3212 t (XS.iload X3212.here hx rfl (hb hby at_195) rfl (XS.icmpNo X3212.here hx rfl (hb hby at_197) rfl (teq (own_cnt p3168 0 pC3196 (by decide))).2 (XS.aload X3212.here hx rfl (hb hby at_200) rfl rfl (XS.iload X3212.here hx rfl (hb hby at_202) rfl k))))) ?_
  show own_Goes p e below (T3212.setTop (mkF m 204 #[iv p3169, iv p3170, iv p3171, rv a3172, rv a3173, iv (2 : Int32), iv p3174, iv (2 : Int32), iv (1 : Int32), iv p3168, iv (0 : Int32)] [(.int (2 : Int32)), (.ref a3173)])) _
  obtain ⟨_, T3214, _, X3214, hQ3214, st3214⟩ := own_cv X3212 hx hZ hown (wd hw 69 rfl) (wd hw 70 rfl) (wd hw 72 rfl) (wd hw 71 rfl) (wd hw 73 rfl) (wd hw 3 rfl) (by decide) (rm45 l Z a0 hw [] a3173 a3179 k3187 p3180 p3181 p3174 (6 : Int32) ((p3168 <<< ((1 : Int32) &&& 31)) ||| (0 : Int32)) p3184 p3185 p3186 h3200 n0 O3206 F3204 vx3202 E3205 (own_rep0 p3168)) hh3213 E3205 (g := (mkF m 204 #[iv p3169, iv p3170, iv p3171, rv a3172, rv a3173, iv (2 : Int32), iv p3174, iv (2 : Int32), iv (1 : Int32), iv p3168, iv (0 : Int32)] [(.int (2 : Int32)), (.ref a3173)])) rfl (by rw [hml]; rfl) (rest := []) (W := 0) (lenOf pd_6 rfl) rfl (by show 2 * 0 + _ ≤ _; exact Nat.le_of_eq rfl) (hb hby at_204) (by decide) (by decide) (by decide) (by decide)
  obtain ⟨rfl, Nq3214, hh3215⟩ := hQ3214
  have N3214 := Fr.app N3212 Nq3214
  refine own_via (fun t k => st3214 t (XS.iload X3214.here hx rfl (hb hby at_207) rfl (XS.icmpNo X3214.here hx rfl (hb hby at_209) rfl (teq (by decide : (0 : Int32) = (0 : Int32))).2 (XS.iconst X3214.here hx rfl (hb hby at_212) (XS.goto X3214.here hx rfl (pc0 := 213) (pc' := 217) rfl (hb hby at_213) (by decide) (by decide) k))))) ?_
  show own_Goes p e below (T3214.setTop (mkF m 217 #[iv p3169, iv p3170, iv p3171, rv a3172, rv a3173, iv (2 : Int32), iv p3174, iv (2 : Int32), iv (1 : Int32), iv p3168, iv (0 : Int32)] [(.int (1 : Int32))])) _
  obtain ⟨fs, hr, hrun, hended, hW, hsame⟩ := X3214.leave (v := some (.int (1 : Int32))) (fun h => by rw [Bd.returns] at h; cases h)
  refine own_end (t := T3214.setFrames fs) ?_ ⟨_, hrun, hended, _, _, rfl, ?_, ⟨_, rfl⟩, hW, hsame.mono (by decide) (by decide)⟩
  · exact retN X3214 hx (t := .boolean) Bd.returns (by simp) (hb hby at_217) hr
  · exact ⟨rfl, N3214⟩
set_option maxRecDepth 65536 in
set_option maxHeartbeats 40000000 in
theorem sfx30 (l : Launch) (Z : State) (a0 : Array Value) (hw : ∀ d ∈ tables_1, d.before a0 Z = true) (ws : List Jvm.Cond) {p : Program} {e : Env} {s : State} {m : MethodId} {below : List Frame} {meth : Method} {c : Code} {s₁ : State} (p3223 : Int32) (p3224 : Int32) (p3225 : Int32) (p3217 : Int32) (p3218 : Int32) (p3219 : Int32) (a3220 : Addr) (a3221 : Addr) (p3222 : Int32) (p3216 : Int32) (a3227 : Addr) (k3235 : ClassId) (p3228 : Int32) (p3229 : Int32) (p3230 : Int32) (p3231 : Int32) (p3232 : Int32) (p3233 : Int32) (p3234 : Int32) (k3226 : ClassId) (Bd : BodyLoose p l x (head1 (Jvm.Cond.code x code maxLocals ret :: ws) room_1) code maxLocals ret e s m #[(.int p3223), (.int p3224), (.int p3225)] below meth c s₁) (hZ : Z.Warmed39 s.vm) (hml : c.maxLocals = 11) {T0 : State} {locs0 : List Loc} (X0 : Stand p l e room_1 s m #[(.int p3223), (.int p3224), (.int p3225)] below meth c T0 locs0 8 120) (h0 : Heap) (e0 : T0.heap = h0) (n0 : Nat) (O0 : Old Z n0 h0) (N0 : Fr n0 locs0) (pF_a3221_length : Fld Z h0 a3221 zs1 "length" "I" (.int (6 : Int32))) (pF_a3221_first : Fld Z h0 a3221 zs1 "first" "[I" (.ref a3227)) (pV_a3227 : Arv Z h0 a3227 k3235 .int (16 : Int32) [(.int p3228), (.int p3229), (.int p3222), (.int p3230), (.int p3231), (.int p3232), (.int p3233), (.int p3234)] (.int (0 : Int32))) (pG_a3227 : n0 ≤ a3227) (pE_a3227 : Exa Z h0 a3227 "[I") (pE_a3221 : Exa Z h0 a3221 zs1) (pN_a3221_a3227 : a3221 ≠ a3227) (pF_a3221_text : Fld Z h0 a3221 zs1 "text" "[B" (.ref a3220)) (pC3240 : ¬ (p3222 < (0 : Int32))) (pC3241 : p3222 < (2 : Int32)) (pV_a3220 : Arv Z h0 a3220 k3226 .byte (4 : Int32) [(.int (123 : Int32)), (.int (91 : Int32)), (.int (49 : Int32)), (.int (110 : Int32))] (.int (0 : Int32))) (pN_a3220_a3227 : a3220 ≠ a3227) (pC3244 : ¬ (p3216 < (0 : Int32))) :
    own_Goes p e below (T0.setTop (mkF m 141 #[iv p3217, iv p3218, iv p3219, rv a3220, rv a3221, iv (2 : Int32), iv p3222, iv (2 : Int32), iv (1 : Int32), iv p3216, iv (1 : Int32)] [])) (own_G s below n0) := by
  have hx := Bd.exec
  have hby := Bd.bytes
  have hown : s.vm.findClass zs2 = some m.cls := findClass_of_methodNamed Bd.named
  have hnm := (name_of_methodNamed Bd.named Bd.method).1
  show own_Goes p e below (T0.setTop (mkF m 141 #[iv p3217, iv p3218, iv p3219, rv a3220, rv a3221, iv (2 : Int32), iv p3222, iv (2 : Int32), iv (1 : Int32), iv p3216, iv (1 : Int32)] [])) _
  refine own_via (fun t k => XS.aload X0.here hx rfl (hb hby at_141) rfl rfl (XS.iload X0.here hx rfl (hb hby at_143) rfl (XS.iload X0.here hx rfl (hb hby at_145) rfl (XS.iload X0.here hx rfl (hb hby at_147) rfl k)))) ?_
  show own_Goes p e below (T0.setTop (mkF m 149 #[iv p3217, iv p3218, iv p3219, rv a3220, rv a3221, iv (2 : Int32), iv p3222, iv (2 : Int32), iv (1 : Int32), iv p3216, iv (1 : Int32)] [(.int (1 : Int32)), (.int p3216), (.int (2 : Int32)), (.ref a3221)])) _
  obtain ⟨_, T3248, _, X3248, hQ3248, st3248⟩ := own_cv X0 hx hZ hown (wd hw 41 rfl) (wd hw 42 rfl) (wd hw 44 rfl) (wd hw 43 rfl) (wd hw 45 rfl) (wd hw 3 rfl) (by decide) (rm46 l Z a0 hw [] a3221 p3216 (6 : Int32) a3227 k3235 p3228 p3229 p3222 p3230 p3231 p3232 p3233 p3234 h0 n0 O0 pF_a3221_length pF_a3221_first pV_a3227 pG_a3227 pE_a3227 pE_a3221 pN_a3221_a3227) e0 pE_a3221 (g := (mkF m 149 #[iv p3217, iv p3218, iv p3219, rv a3220, rv a3221, iv (2 : Int32), iv p3222, iv (2 : Int32), iv (1 : Int32), iv p3216, iv (1 : Int32)] [(.int (1 : Int32)), (.int p3216), (.int (2 : Int32)), (.ref a3221)])) rfl (by rw [hml]; rfl) (rest := []) (W := 0) (lenOf pd_5 rfl) rfl (by show 2 * 0 + _ ≤ _; exact Nat.le_of_eq rfl) (hb hby at_149) (by decide) (by decide) (by decide) (by decide)
  obtain ⟨h3248, e3248⟩ : ∃ z, T3248.heap = z := ⟨_, rfl⟩
  rw [e3248] at hQ3248
  obtain ⟨rfl, Nq3248, K3248, ex3249, vx3250⟩ := hQ3248
  have N3248 := Fr.app N0 Nq3248
  refine own_via (fun t k => st3248 t (XS.iload X3248.here hx rfl (hb hby at_152) rfl (XS.iload X3248.here hx rfl (hb hby at_154) rfl (XS.icmpNo X3248.here hx rfl (hb hby at_156) rfl (teq (by decide : (2 : Int32) = (2 : Int32))).2 (XS.aload X3248.here hx rfl (hb hby at_159) rfl rfl (XS.iload X3248.here hx rfl (hb hby at_161) rfl k)))))) ?_
  show own_Goes p e below (T3248.setTop (mkF m 163 #[iv p3217, iv p3218, iv p3219, rv a3220, rv a3221, iv (2 : Int32), iv p3222, iv (2 : Int32), iv (1 : Int32), iv p3216, iv (1 : Int32)] [(.int (2 : Int32)), (.ref a3221)])) _
  have F3252 : Fld Z h3248 a3221 zs1 "first" "[I" (.ref a3227) := (pF_a3221_first.keep K3248 (ninS pN_a3221_a3227 nin0))
  have E3253 : Exa Z h3248 a3221 zs1 := (pE_a3221.keep K3248)
  have O3254 : Old Z n0 h3248 := (O0.keep K3248 (allS pG_a3227 all0))
  obtain ⟨_, T3251, _, X3251, hQ3251, st3251⟩ := own_cv X3248 hx hZ hown (wd hw 50 rfl) (wd hw 51 rfl) (wd hw 53 rfl) (wd hw 52 rfl) (wd hw 54 rfl) (wd hw 3 rfl) (by decide) (rm41 l Z a0 hw [] a3221 a3227 k3235 p3228 p3229 p3222 (6 : Int32) ((p3216 <<< ((1 : Int32) &&& 31)) ||| (1 : Int32)) p3232 p3233 p3234 h3248 n0 O3254 F3252 vx3250 E3253) e3248 E3253 (g := (mkF m 163 #[iv p3217, iv p3218, iv p3219, rv a3220, rv a3221, iv (2 : Int32), iv p3222, iv (2 : Int32), iv (1 : Int32), iv p3216, iv (1 : Int32)] [(.int (2 : Int32)), (.ref a3221)])) rfl (by rw [hml]; rfl) (rest := []) (W := 0) (lenOf pd_3 rfl) rfl (by show 2 * 0 + _ ≤ _; exact Nat.le_of_eq rfl) (hb hby at_163) (by decide) (by decide) (by decide) (by decide)
  obtain ⟨rfl, Nq3251, hh3255⟩ := hQ3251
  have N3251 := Fr.app N3248 Nq3251
  refine own_via (fun t k => st3251 t (XS.iload X3251.here hx rfl (hb hby at_166) rfl (XS.icmpNo X3251.here hx rfl (hb hby at_168) rfl (teq (rfl : p3222 = p3222)).2 (XS.aload X3251.here hx rfl (hb hby at_171) rfl rfl (XS.iload X3251.here hx rfl (hb hby at_173) rfl k))))) ?_
  show own_Goes p e below (T3251.setTop (mkF m 175 #[iv p3217, iv p3218, iv p3219, rv a3220, rv a3221, iv (2 : Int32), iv p3222, iv (2 : Int32), iv (1 : Int32), iv p3216, iv (1 : Int32)] [(.int (2 : Int32)), (.ref a3221)])) _
  have F3257 : Fld Z h3248 a3221 zs1 "text" "[B" (.ref a3220) := (pF_a3221_text.keep K3248 (ninS pN_a3221_a3227 nin0))
  have V3258 : Arv Z h3248 a3220 k3226 .byte (4 : Int32) [(.int (123 : Int32)), (.int (91 : Int32)), (.int (49 : Int32)), (.int (110 : Int32))] (.int (0 : Int32)) := (pV_a3220.keep K3248 (ninS pN_a3220_a3227 nin0))
  obtain ⟨_, T3256, _, X3256, hQ3256, st3256⟩ := own_cv X3251 hx hZ hown (wd hw 59 rfl) (wd hw 60 rfl) (wd hw 62 rfl) (wd hw 61 rfl) (wd hw 63 rfl) (wd hw 3 rfl) (by decide) (rm42 l Z a0 hw [] a3221 a3220 a3227 k3235 p3228 p3229 p3222 (6 : Int32) ((p3216 <<< ((1 : Int32) &&& 31)) ||| (1 : Int32)) p3232 p3233 p3234 k3226 (49 : Int32) (110 : Int32) h3248 n0 O3254 F3257 F3252 vx3250 E3253 pC3240 pC3241 V3258) hh3255 E3253 (g := (mkF m 175 #[iv p3217, iv p3218, iv p3219, rv a3220, rv a3221, iv (2 : Int32), iv p3222, iv (2 : Int32), iv (1 : Int32), iv p3216, iv (1 : Int32)] [(.int (2 : Int32)), (.ref a3221)])) rfl (by rw [hml]; rfl) (rest := []) (W := 0) (lenOf pd_3 rfl) rfl (by show 2 * 0 + _ ≤ _; exact Nat.le_of_eq rfl) (hb hby at_175) (by decide) (by decide) (by decide) (by decide)
  obtain ⟨rfl, Nq3256, hh3259⟩ := hQ3256
  have N3256 := Fr.app N3251 Nq3256
  refine own_via (fun t k => st3256 t (XS.iload X3256.here hx rfl (hb hby at_178) rfl (XS.iconst X3256.here hx rfl (hb hby at_180) (XS.iadd X3256.here hx rfl (hb hby at_181) rfl (XS.iload X3256.here hx rfl (hb hby at_182) rfl (XS.iadd X3256.here hx rfl (hb hby at_184) rfl (XS.icmpNo X3256.here hx rfl (hb hby at_185) rfl (teq (by decide : (6 : Int32) = (6 : Int32))).2 (XS.aload X3256.here hx rfl (hb hby at_188) rfl rfl (XS.iload X3256.here hx rfl (hb hby at_190) rfl k))))))))) ?_
  show own_Goes p e below (T3256.setTop (mkF m 192 #[iv p3217, iv p3218, iv p3219, rv a3220, rv a3221, iv (2 : Int32), iv p3222, iv (2 : Int32), iv (1 : Int32), iv p3216, iv (1 : Int32)] [(.int (2 : Int32)), (.ref a3221)])) _
  obtain ⟨_, T3260, _, X3260, hQ3260, st3260⟩ := own_cv X3256 hx hZ hown (wd hw 64 rfl) (wd hw 65 rfl) (wd hw 67 rfl) (wd hw 66 rfl) (wd hw 68 rfl) (wd hw 3 rfl) (by decide) (rm44 l Z a0 hw [] a3221 a3227 k3235 p3228 p3229 p3222 (6 : Int32) ((p3216 <<< ((1 : Int32) &&& 31)) ||| (1 : Int32)) p3232 p3233 p3234 h3248 n0 O3254 F3252 vx3250 E3253) hh3259 E3253 (g := (mkF m 192 #[iv p3217, iv p3218, iv p3219, rv a3220, rv a3221, iv (2 : Int32), iv p3222, iv (2 : Int32), iv (1 : Int32), iv p3216, iv (1 : Int32)] [(.int (2 : Int32)), (.ref a3221)])) rfl (by rw [hml]; rfl) (rest := []) (W := 0) (lenOf pd_3 rfl) rfl (by show 2 * 0 + _ ≤ _; exact Nat.le_of_eq rfl) (hb hby at_192) (by decide) (by decide) (by decide) (by decide)
  obtain ⟨rfl, Nq3260, hh3261⟩ := hQ3260
  have N3260 := Fr.app N3256 Nq3260
  refine own_via (fun t k => st3260 t (XS.iload X3260.here hx rfl (hb hby at_195) rfl (XS.icmpNo X3260.here hx rfl (hb hby at_197) rfl (teq (own_cnt p3216 1 pC3244 (by decide))).2 (XS.aload X3260.here hx rfl (hb hby at_200) rfl rfl (XS.iload X3260.here hx rfl (hb hby at_202) rfl k))))) ?_
  show own_Goes p e below (T3260.setTop (mkF m 204 #[iv p3217, iv p3218, iv p3219, rv a3220, rv a3221, iv (2 : Int32), iv p3222, iv (2 : Int32), iv (1 : Int32), iv p3216, iv (1 : Int32)] [(.int (2 : Int32)), (.ref a3221)])) _
  obtain ⟨_, T3262, _, X3262, hQ3262, st3262⟩ := own_cv X3260 hx hZ hown (wd hw 69 rfl) (wd hw 70 rfl) (wd hw 72 rfl) (wd hw 71 rfl) (wd hw 73 rfl) (wd hw 3 rfl) (by decide) (rm47 l Z a0 hw [] a3221 a3227 k3235 p3228 p3229 p3222 (6 : Int32) ((p3216 <<< ((1 : Int32) &&& 31)) ||| (1 : Int32)) p3232 p3233 p3234 h3248 n0 O3254 F3252 vx3250 E3253 (own_rep1 p3216)) hh3261 E3253 (g := (mkF m 204 #[iv p3217, iv p3218, iv p3219, rv a3220, rv a3221, iv (2 : Int32), iv p3222, iv (2 : Int32), iv (1 : Int32), iv p3216, iv (1 : Int32)] [(.int (2 : Int32)), (.ref a3221)])) rfl (by rw [hml]; rfl) (rest := []) (W := 0) (lenOf pd_6 rfl) rfl (by show 2 * 0 + _ ≤ _; exact Nat.le_of_eq rfl) (hb hby at_204) (by decide) (by decide) (by decide) (by decide)
  obtain ⟨rfl, Nq3262, hh3263⟩ := hQ3262
  have N3262 := Fr.app N3260 Nq3262
  refine own_via (fun t k => st3262 t (XS.iload X3262.here hx rfl (hb hby at_207) rfl (XS.icmpNo X3262.here hx rfl (hb hby at_209) rfl (teq (by decide : (1 : Int32) = (1 : Int32))).2 (XS.iconst X3262.here hx rfl (hb hby at_212) (XS.goto X3262.here hx rfl (pc0 := 213) (pc' := 217) rfl (hb hby at_213) (by decide) (by decide) k))))) ?_
  show own_Goes p e below (T3262.setTop (mkF m 217 #[iv p3217, iv p3218, iv p3219, rv a3220, rv a3221, iv (2 : Int32), iv p3222, iv (2 : Int32), iv (1 : Int32), iv p3216, iv (1 : Int32)] [(.int (1 : Int32))])) _
  obtain ⟨fs, hr, hrun, hended, hW, hsame⟩ := X3262.leave (v := some (.int (1 : Int32))) (fun h => by rw [Bd.returns] at h; cases h)
  refine own_end (t := T3262.setFrames fs) ?_ ⟨_, hrun, hended, _, _, rfl, ?_, ⟨_, rfl⟩, hW, hsame.mono (by decide) (by decide)⟩
  · exact retN X3262 hx (t := .boolean) Bd.returns (by simp) (hb hby at_217) hr
  · exact ⟨rfl, N3262⟩
set_option maxRecDepth 65536 in
set_option maxHeartbeats 40000000 in
theorem sfx31 (l : Launch) (Z : State) (a0 : Array Value) (hw : ∀ d ∈ tables_1, d.before a0 Z = true) (ws : List Jvm.Cond) {p : Program} {e : Env} {s : State} {m : MethodId} {below : List Frame} {meth : Method} {c : Code} {s₁ : State} (p3146 : Int32) (p3147 : Int32) (p3148 : Int32) (p3140 : Int32) (p3141 : Int32) (p3142 : Int32) (a3143 : Addr) (a3144 : Addr) (p3145 : Int32) (a3150 : Addr) (k3158 : ClassId) (p3151 : Int32) (p3152 : Int32) (p3153 : Int32) (p3154 : Int32) (p3155 : Int32) (p3156 : Int32) (p3157 : Int32) (k3149 : ClassId) (Bd : BodyLoose p l x (head1 (Jvm.Cond.code x code maxLocals ret :: ws) room_1) code maxLocals ret e s m #[(.int p3146), (.int p3147), (.int p3148)] below meth c s₁) (hZ : Z.Warmed39 s.vm) (hml : c.maxLocals = 11) {T0 : State} {locs0 : List Loc} (X0 : Stand p l e room_1 s m #[(.int p3146), (.int p3147), (.int p3148)] below meth c T0 locs0 8 120) (h0 : Heap) (e0 : T0.heap = h0) (n0 : Nat) (O0 : Old Z n0 h0) (N0 : Fr n0 locs0) (pF_a3144_length : Fld Z h0 a3144 zs1 "length" "I" (.int (6 : Int32))) (pF_a3144_first : Fld Z h0 a3144 zs1 "first" "[I" (.ref a3150)) (pV_a3150 : Arv Z h0 a3150 k3158 .int (16 : Int32) [(.int p3151), (.int p3152), (.int p3145), (.int p3153), (.int p3154), (.int p3155), (.int p3156), (.int p3157)] (.int (0 : Int32))) (pG_a3150 : n0 ≤ a3150) (pE_a3150 : Exa Z h0 a3150 "[I") (pE_a3144 : Exa Z h0 a3144 zs1) (pN_a3144_a3150 : a3144 ≠ a3150) (pF_a3144_text : Fld Z h0 a3144 zs1 "text" "[B" (.ref a3143)) (pC3163 : ¬ (p3145 < (0 : Int32))) (pC3164 : p3145 < (2 : Int32)) (pV_a3143 : Arv Z h0 a3143 k3149 .byte (4 : Int32) [(.int (123 : Int32)), (.int (91 : Int32)), (.int (49 : Int32)), (.int (110 : Int32))] (.int (0 : Int32))) (pN_a3143_a3150 : a3143 ≠ a3150) :
    own_Goes p e below (T0.setTop (mkF m 122 #[iv p3140, iv p3141, iv p3142, rv a3143, rv a3144, iv (2 : Int32), iv p3145, iv (2 : Int32), iv (1 : Int32), .unset, .unset] [])) (own_G s below n0) := by
  have hx := Bd.exec
  have hby := Bd.bytes
  have hown : s.vm.findClass zs2 = some m.cls := findClass_of_methodNamed Bd.named
  have hnm := (name_of_methodNamed Bd.named Bd.method).1
  show own_Goes p e below (T0.setTop (mkF m 122 #[iv p3140, iv p3141, iv p3142, rv a3143, rv a3144, iv (2 : Int32), iv p3145, iv (2 : Int32), iv (1 : Int32), .unset, .unset] [])) _
  refine own_via (fun t k => XS.iloadN X0.here hx rfl (hb hby at_122) rfl (X0.ldcInt hx hown (mvT hZ (wd hw 40 rfl)) (g := (mkF m 123 #[iv p3140, iv p3141, iv p3142, rv a3143, rv a3144, iv (2 : Int32), iv p3145, iv (2 : Int32), iv (1 : Int32), .unset, .unset] [(.int p3141)])) rfl (hb hby at_123) t (XS.iand X0.here hx rfl (hb hby at_125) rfl (XS.istore X0.here hx rfl (hb hby at_126) rfl (l' := #[iv p3140, iv p3141, iv p3142, rv a3143, rv a3144, iv (2 : Int32), iv p3145, iv (2 : Int32), iv (1 : Int32), iv (p3141 &&& (2147483647 : Int32)), .unset]) rfl (XS.iloadN X0.here hx rfl (hb hby at_128) rfl (XS.iconst X0.here hx rfl (hb hby at_129) (XS.iand X0.here hx rfl (hb hby at_130) rfl k))))))) ?_
  show own_Goes p e below (T0.setTop (mkF m 131 #[iv p3140, iv p3141, iv p3142, rv a3143, rv a3144, iv (2 : Int32), iv p3145, iv (2 : Int32), iv (1 : Int32), iv (p3141 &&& (2147483647 : Int32)), .unset] [(.int (p3142 &&& (1 : Int32)))])) _
  by_cases hc3167 : (p3142 &&& (1 : Int32)) = (0 : Int32)
  · refine own_via (fun t k => XS.ifYes X0.here hx rfl (pc0 := 131) (pc' := 138) rfl (hb hby at_131) rfl ((if0 _ _).trans (teq hc3167).1) (by decide) (by decide) (XS.iconst X0.here hx rfl (hb hby at_138) (XS.istore X0.here hx rfl (hb hby at_139) rfl (l' := #[iv p3140, iv p3141, iv p3142, rv a3143, rv a3144, iv (2 : Int32), iv p3145, iv (2 : Int32), iv (1 : Int32), iv (p3141 &&& (2147483647 : Int32)), iv (0 : Int32)]) rfl k))) ?_
    show own_Goes p e below (T0.setTop (mkF m 141 #[iv p3140, iv p3141, iv p3142, rv a3143, rv a3144, iv (2 : Int32), iv p3145, iv (2 : Int32), iv (1 : Int32), iv (p3141 &&& (2147483647 : Int32)), iv (0 : Int32)] [])) _
    exact sfx29 l Z a0 hw ws p3146 p3147 p3148 p3140 p3141 p3142 a3143 a3144 p3145 (p3141 &&& (2147483647 : Int32)) a3150 k3158 p3151 p3152 p3153 p3154 p3155 p3156 p3157 k3149 Bd hZ hml X0 h0 e0 n0 O0 N0 pF_a3144_length pF_a3144_first pV_a3150 pG_a3150 pE_a3150 pE_a3144 pN_a3144_a3150 pF_a3144_text pC3163 pC3164 pV_a3143 pN_a3143_a3150 (own_nn_mask p3141 (2147483647 : Int32) 31 (by decide) (by decide))
  · refine own_via (fun t k => XS.ifNo X0.here hx rfl (hb hby at_131) rfl ((if0 _ _).trans (feq hc3167).1) (XS.iconst X0.here hx rfl (hb hby at_134) (XS.goto X0.here hx rfl (pc0 := 135) (pc' := 139) rfl (hb hby at_135) (by decide) (by decide) (XS.istore X0.here hx rfl (hb hby at_139) rfl (l' := #[iv p3140, iv p3141, iv p3142, rv a3143, rv a3144, iv (2 : Int32), iv p3145, iv (2 : Int32), iv (1 : Int32), iv (p3141 &&& (2147483647 : Int32)), iv (1 : Int32)]) rfl k)))) ?_
    show own_Goes p e below (T0.setTop (mkF m 141 #[iv p3140, iv p3141, iv p3142, rv a3143, rv a3144, iv (2 : Int32), iv p3145, iv (2 : Int32), iv (1 : Int32), iv (p3141 &&& (2147483647 : Int32)), iv (1 : Int32)] [])) _
    exact sfx30 l Z a0 hw ws p3146 p3147 p3148 p3140 p3141 p3142 a3143 a3144 p3145 (p3141 &&& (2147483647 : Int32)) a3150 k3158 p3151 p3152 p3153 p3154 p3155 p3156 p3157 k3149 Bd hZ hml X0 h0 e0 n0 O0 N0 pF_a3144_length pF_a3144_first pV_a3150 pG_a3150 pE_a3150 pE_a3144 pN_a3144_a3150 pF_a3144_text pC3163 pC3164 pV_a3143 pN_a3143_a3150 (own_nn_mask p3141 (2147483647 : Int32) 31 (by decide) (by decide))
set_option maxRecDepth 65536 in
set_option maxHeartbeats 40000000 in
theorem sfx32 (l : Launch) (Z : State) (a0 : Array Value) (hw : ∀ d ∈ tables_1, d.before a0 Z = true) (ws : List Jvm.Cond) {p : Program} {e : Env} {s : State} {m : MethodId} {below : List Frame} {meth : Method} {c : Code} {s₁ : State} (p2646 : Int32) (p2647 : Int32) (p2648 : Int32) (p2641 : Int32) (p2642 : Int32) (p2643 : Int32) (a2644 : Addr) (a2645 : Addr) (p2640 : Int32) (a2650 : Addr) (k2658 : ClassId) (p2651 : Int32) (p2652 : Int32) (p2653 : Int32) (p2654 : Int32) (p2655 : Int32) (p2656 : Int32) (p2657 : Int32) (k2649 : ClassId) (Bd : BodyLoose p l x (head1 (Jvm.Cond.code x code maxLocals ret :: ws) room_1) code maxLocals ret e s m #[(.int p2646), (.int p2647), (.int p2648)] below meth c s₁) (hZ : Z.Warmed39 s.vm) (hml : c.maxLocals = 11) {T0 : State} {locs0 : List Loc} (X0 : Stand p l e room_1 s m #[(.int p2646), (.int p2647), (.int p2648)] below meth c T0 locs0 8 120) (h0 : Heap) (e0 : T0.heap = h0) (n0 : Nat) (O0 : Old Z n0 h0) (N0 : Fr n0 locs0) (pF_a2645_length : Fld Z h0 a2645 zs1 "length" "I" (.int (5 : Int32))) (pF_a2645_first : Fld Z h0 a2645 zs1 "first" "[I" (.ref a2650)) (pV_a2650 : Arv Z h0 a2650 k2658 .int (16 : Int32) [(.int p2651), (.int p2652), (.int p2640), (.int p2653), (.int p2654), (.int p2655), (.int p2656), (.int p2657)] (.int (0 : Int32))) (pG_a2650 : n0 ≤ a2650) (pE_a2650 : Exa Z h0 a2650 "[I") (pE_a2645 : Exa Z h0 a2645 zs1) (pN_a2645_a2650 : a2645 ≠ a2650) (pF_a2645_text : Fld Z h0 a2645 zs1 "text" "[B" (.ref a2644)) (pC2663 : ¬ (p2640 < (0 : Int32))) (pC2664 : p2640 < (2 : Int32)) (pV_a2644 : Arv Z h0 a2644 k2649 .byte (4 : Int32) [(.int (123 : Int32)), (.int (91 : Int32)), (.int (49 : Int32)), (.int (110 : Int32))] (.int (0 : Int32))) (pN_a2644_a2650 : a2644 ≠ a2650) (pL_a2650 : own_Len Z h0 a2650 .int (16 : Int32)) (pG_a2645 : n0 ≤ a2645) (pN_a2644_a2645 : a2644 ≠ a2645) :
    own_Goes p e below (T0.setTop (mkF m 105 #[iv p2641, iv p2642, iv p2643, rv a2644, rv a2645, iv (2 : Int32), iv p2640, iv (2 : Int32), iv (0 : Int32), .unset, .unset] [])) (own_G s below n0) := by
  have hx := Bd.exec
  have hby := Bd.bytes
  have hown : s.vm.findClass zs2 = some m.cls := findClass_of_methodNamed Bd.named
  have hnm := (name_of_methodNamed Bd.named Bd.method).1
  show own_Goes p e below (T0.setTop (mkF m 105 #[iv p2641, iv p2642, iv p2643, rv a2644, rv a2645, iv (2 : Int32), iv p2640, iv (2 : Int32), iv (0 : Int32), .unset, .unset] [])) _
  refine own_via (fun t k => XS.iloadN X0.here hx rfl (hb hby at_105) rfl (XS.bipush X0.here hx rfl (hb hby at_106) (XS.iand X0.here hx rfl (hb hby at_108) rfl k))) ?_
  show own_Goes p e below (T0.setTop (mkF m 109 #[iv p2641, iv p2642, iv p2643, rv a2644, rv a2645, iv (2 : Int32), iv p2640, iv (2 : Int32), iv (0 : Int32), .unset, .unset] [(.int (p2641 &&& (16 : Int32)))])) _
  by_cases hc2666 : (p2641 &&& (16 : Int32)) = (0 : Int32)
  · refine own_via (fun t k => XS.ifYes X0.here hx rfl (pc0 := 109) (pc' := 122) rfl (hb hby at_109) rfl ((if0 _ _).trans (teq hc2666).1) (by decide) (by decide) k) ?_
    exact sfx28 l Z a0 hw ws p2646 p2647 p2648 p2641 p2642 p2643 a2644 a2645 p2640 a2650 k2658 p2651 p2652 p2653 p2654 p2655 p2656 p2657 k2649 Bd hZ hml X0 h0 e0 n0 O0 N0 pF_a2645_length pF_a2645_first pV_a2650 pG_a2650 pE_a2650 pE_a2645 pN_a2645_a2650 pF_a2645_text pC2663 pC2664 pV_a2644 pN_a2644_a2650
  · refine own_via (fun t k => XS.ifNo X0.here hx rfl (hb hby at_109) rfl ((if0 _ _).trans (feq hc2666).1) (XS.aload X0.here hx rfl (hb hby at_112) rfl rfl (XS.iconst X0.here hx rfl (hb hby at_114) k))) ?_
    show own_Goes p e below (T0.setTop (mkF m 115 #[iv p2641, iv p2642, iv p2643, rv a2644, rv a2645, iv (2 : Int32), iv p2640, iv (2 : Int32), iv (0 : Int32), .unset, .unset] [(.int (3 : Int32)), (.ref a2645)])) _
    obtain ⟨_, T3133, _, X3133, hQ3133, st3133⟩ := own_cv X0 hx hZ hown (wd hw 74 rfl) (wd hw 34 rfl) (wd hw 36 rfl) (wd hw 35 rfl) (wd hw 37 rfl) (wd hw 3 rfl) (by decide) (rm34 l Z a0 hw [] a2645 a2650 k2658 p2651 p2652 p2640 p2653 p2654 p2655 p2656 p2657 a2644 h0 n0 O0 pF_a2645_length pF_a2645_first pL_a2650 pV_a2650 pG_a2650 pN_a2645_a2650 pE_a2645 pG_a2645 pE_a2650 pF_a2645_text) e0 pE_a2645 (g := (mkF m 115 #[iv p2641, iv p2642, iv p2643, rv a2644, rv a2645, iv (2 : Int32), iv p2640, iv (2 : Int32), iv (0 : Int32), .unset, .unset] [(.int (3 : Int32)), (.ref a2645)])) rfl (by rw [hml]; rfl) (rest := []) (W := 0) (lenOf pd_3 rfl) rfl (by show 2 * 0 + _ ≤ _; exact Nat.le_of_eq rfl) (hb hby at_115) (by decide) (by decide) (by decide) (by decide)
    obtain ⟨h3133, e3133⟩ : ∃ z, T3133.heap = z := ⟨_, rfl⟩
    rw [e3133] at hQ3133
    obtain ⟨rfl, Nq3133, K3133, ex3134, vx3135, ex3136, fx3137, fx3138, fx3139⟩ := hQ3133
    have N3133 := Fr.app N0 Nq3133
    refine own_via (fun t k => st3133 t (XS.pop X3133.here hx rfl (hb hby at_118) rfl rfl (XS.iinc X3133.here hx rfl (hb hby at_119) rfl (l' := #[iv p2641, iv p2642, iv p2643, rv a2644, rv a2645, iv (2 : Int32), iv p2640, iv (2 : Int32), iv (1 : Int32), .unset, .unset]) rfl k))) ?_
    show own_Goes p e below (T3133.setTop (mkF m 122 #[iv p2641, iv p2642, iv p2643, rv a2644, rv a2645, iv (2 : Int32), iv p2640, iv (2 : Int32), iv (1 : Int32), .unset, .unset] [])) _
    have V3264 : Arv Z h3133 a2644 k2649 .byte (4 : Int32) [(.int (123 : Int32)), (.int (91 : Int32)), (.int (49 : Int32)), (.int (110 : Int32))] (.int (0 : Int32)) := (pV_a2644.keep K3133 (ninS pN_a2644_a2650 (ninS pN_a2644_a2645 nin0)))
    have O3265 : Old Z n0 h3133 := (O0.keep K3133 (allS pG_a2650 (allS pG_a2645 all0)))
    exact sfx31 l Z a0 hw ws p2646 p2647 p2648 p2641 p2642 p2643 a2644 a2645 p2640 a2650 k2658 p2651 p2652 p2653 p2654 (3 : Int32) p2656 p2657 k2649 Bd hZ hml X3133 h3133 e3133 n0 O3265 N3133 fx3139 fx3138 vx3135 pG_a2650 ex3134 ex3136 pN_a2645_a2650 fx3137 pC2663 pC2664 V3264 pN_a2644_a2650
def Q48 (Z : State) (a3306 : Addr) (a3313 : Addr) (k3322 : ClassId) (p3314 : Int32) (p3315 : Int32) (p3316 : Int32) (p3317 : Int32) (p3318 : Int32) (p3319 : Int32) (p3320 : Int32) (p3321 : Int32) (a3307 : Addr) (h0 : Heap) (n0 : Nat) (v : Option Value) (h : Heap) (L : List Loc) : Prop := v = some (.int (6 : Int32)) ∧ Fr n0 L ∧ Keep h0 h [a3313, a3306] ∧ Exa Z h a3313 "[I" ∧ Arv Z h a3313 k3322 .int (16 : Int32) [(.int p3314), (.int p3315), (.int p3316), (.int p3317), (.int p3318), (.int p3319), (.int (3 : Int32)), (.int p3321)] (.int (0 : Int32)) ∧ Exa Z h a3306 zs1 ∧ Fld Z h a3306 zs1 "text" "[B" (.ref a3307) ∧ Fld Z h a3306 zs1 "first" "[I" (.ref a3313) ∧ Fld Z h a3306 zs1 "length" "I" (.int (7 : Int32))
set_option maxRecDepth 65536 in
set_option maxHeartbeats 40000000 in
theorem rm48 (l : Launch) (Z : State) (a0 : Array Value) (hw : ∀ d ∈ tables_1, d.before a0 Z = true) (ws : List Jvm.Cond) (a3306 : Addr) (a3313 : Addr) (k3322 : ClassId) (p3314 : Int32) (p3315 : Int32) (p3316 : Int32) (p3317 : Int32) (p3318 : Int32) (p3319 : Int32) (p3320 : Int32) (p3321 : Int32) (a3307 : Addr) (h0 : Heap) (n0 : Nat) (O0 : Old Z n0 h0) (pF_a3306_length : Fld Z h0 a3306 zs1 "length" "I" (.int (6 : Int32))) (pF_a3306_first : Fld Z h0 a3306 zs1 "first" "[I" (.ref a3313)) (pL_a3313 : own_Len Z h0 a3313 .int (16 : Int32)) (pV_a3313 : Arv Z h0 a3313 k3322 .int (16 : Int32) [(.int p3314), (.int p3315), (.int p3316), (.int p3317), (.int p3318), (.int p3319), (.int p3320), (.int p3321)] (.int (0 : Int32))) (pG_a3313 : n0 ≤ a3313) (pN_a3306_a3313 : a3306 ≠ a3313) (pE_a3306 : Exa Z h0 a3306 zs1) (pG_a3306 : n0 ≤ a3306) (pE_a3313 : Exa Z h0 a3313 "[I") (pF_a3306_text : Fld Z h0 a3306 zs1 "text" "[B" (.ref a3307)) :
    MetFree l (⟨zs1, "add", "(I)I"⟩ : MethodName) (head1 (Jvm.Cond.code (⟨zs1, "add", "(I)I"⟩ : MethodName) prog_17_method_2_code 2 (some .int) :: ws) ({ frames := 0, cells := 0, slots := 0, locals := 0 } : Room)) (fun a U => a = #[(.ref a3306), (.int (3 : Int32))] ∧ Z.Warmed39 U.vm ∧ U.heap = h0) (fun _ _ _ _ _ => True) (fun _ U o U' => ∃ v L, o = .returned v ∧ Q48 Z a3306 a3313 k3322 p3314 p3315 p3316 p3317 p3318 p3319 p3320 p3321 a3307 h0 n0 v U'.heap L ∧ FrameEnd U o U' L ({ frames := 0, cells := 0, slots := 0, locals := 0 } : Room).cells ({ frames := 0, cells := 0, slots := 0, locals := 0 } : Room).slots) := by
  refine MetFree.of_bodySF (plainFor_of_name pn_1) hisR ?_
  intro p e s m args below meth c s₁ Bd hml0 hP hK
  obtain ⟨rfl, hZ, hh⟩ := hP
  have hx := Bd.exec
  have hby := Bd.bytes
  have hml : c.maxLocals = 2 := hml0
  have hown : s.vm.findClass zs1 = some m.cls := findClass_of_methodNamed Bd.named
  have hnm := (name_of_methodNamed Bd.named Bd.method).1
  have X0 : Stand p l e ({ frames := 0, cells := 0, slots := 0, locals := 0 } : Room) s m #[(.ref a3306), (.int (3 : Int32))] below meth c s₁ [] 0 0 := Stand.of_body Bd
  have e0 : s₁.heap = h0 := by rw [← hh, Bd.state]; rfl
  have N0 := Fr.nil n0
  refine own_out ?_
  refine own_via (fun t k => castTop (ef_3 m a3306 (3 : Int32)) (XS.aloadN X0.here hx rfl (hb hby d5_0) rfl rfl k)) ?_
  obtain ⟨T3332, X3332, e3332, st3332⟩ := getF X0 hx hZ hown (host := "") (Or.inl (wd hw 38 rfl)) Via.refl e0 pF_a3306_length (g := (mkF m 1 #[rv a3306, iv (3 : Int32)] [(.ref a3306)])) rfl rfl (hb hby d5_1)
  refine own_via (fun t k => st3332 t (XS.aloadN X3332.here hx rfl (hb hby d5_4) rfl rfl k)) ?_
  obtain ⟨T3333, X3333, e3333, st3333⟩ := getF X3332 hx hZ hown (host := "") (Or.inl (wd hw 25 rfl)) Via.refl e3332 pF_a3306_first (g := (mkF m 5 #[rv a3306, iv (3 : Int32)] [(.ref a3306), (.int (6 : Int32))])) rfl rfl (hb hby d5_5)
  refine own_via (fun t k => st3333 t k) ?_
  obtain ⟨_, _, _, V3334⟩ := id (pL_a3313)
  obtain ⟨cl3334, Ar3334, -, S3334, M3334, -, -⟩ := id (V3334)
  refine own_via (fun t k => X3333.arraylength hx (by rw [e3333]; exact Ar3334.1) (State.isArrayOf_alike hZ.alike Ar3334.2.1) (g := (mkF m 8 #[rv a3306, iv (3 : Int32)] [(.ref a3313), (.int (6 : Int32))])) rfl rfl (hb hby d5_8) t k) ?_
  rw [len_of S3334 M3334]
  show own_Goes p e below (T3333.setTop (mkF m 9 #[rv a3306, iv (3 : Int32)] [(.int (16 : Int32)), (.int (6 : Int32))])) _
  refine own_via (fun t k => XS.icmpNo X3333.here hx rfl (hb hby d5_9) rfl (tlt (by decide : (6 : Int32) < (16 : Int32))).2.1 (XS.aloadN X3333.here hx rfl (hb hby d5_12) rfl rfl k)) ?_
  obtain ⟨T3335, X3335, e3335, st3335⟩ := getF X3333 hx hZ hown (host := "") (Or.inl (wd hw 25 rfl)) Via.refl e3333 pF_a3306_first (g := (mkF m 13 #[rv a3306, iv (3 : Int32)] [(.ref a3306)])) rfl rfl (hb hby d5_13)
  refine own_via (fun t k => st3335 t (XS.aloadN X3335.here hx rfl (hb hby d5_16) rfl rfl k)) ?_
  obtain ⟨T3336, X3336, e3336, st3336⟩ := getF X3335 hx hZ hown (host := "") (Or.inl (wd hw 38 rfl)) Via.refl e3335 pF_a3306_length (g := (mkF m 17 #[rv a3306, iv (3 : Int32)] [(.ref a3306), (.ref a3313)])) rfl rfl (hb hby d5_17)
  refine own_via (fun t k => st3336 t (XS.iloadN X3336.here hx rfl (hb hby d5_20) rfl k)) ?_
  obtain ⟨cl3337, Ar3337, qq3337, S3337, M3337, H3337, G3337⟩ := id (pV_a3313)
  have hin3337 : ¬ ((6 : Int32) < 0 ∨ cl3337.slots.size ≤ ((6 : Int32)).toNatClampNeg) := inb_of S3337 ⟨by decide, by decide⟩
  obtain ⟨T3337, h3337, X3337, e3337, W3337, st3337⟩ := stI X3336 hx hZ e3336 Ar3337 (j := (6 : Int32)) hin3337 (g := (mkF m 21 #[rv a3306, iv (3 : Int32)] [(.int (3 : Int32)), (.int (6 : Int32)), (.ref a3313)])) rfl rfl (hb hby d5_21)
  refine own_via (fun t k => st3337 t k) ?_
  have V3338 : Arv Z h3337 a3313 k3322 .int (16 : Int32) [(.int p3314), (.int p3315), (.int p3316), (.int p3317), (.int p3318), (.int p3319), (.int (3 : Int32)), (.int p3321)] (.int (0 : Int32)) := Arv.set Ar3337 qq3337 S3337 M3337 H3337 G3337 rfl W3337 6 rfl (Nat.le_of_ble_eq_true rfl)
  have N3337 := Fr.snoc X3337 N0 pG_a3313
  show own_Goes p e below (T3337.setTop (mkF m 22 #[rv a3306, iv (3 : Int32)] [])) _
  refine own_via (fun t k => XS.aloadN X3337.here hx rfl (hb hby d5_22) rfl rfl (XS.dup X3337.here hx rfl (hb hby d5_23) rfl rfl k)) ?_
  have F3339 : Fld Z h3337 a3306 zs1 "length" "I" (.int (6 : Int32)) := (pF_a3306_length.other W3337 (Or.inl pN_a3306_a3313))
  obtain ⟨T3340, X3340, e3340, st3340⟩ := getF X3337 hx hZ hown (host := "") (Or.inl (wd hw 38 rfl)) Via.refl e3337 F3339 (g := (mkF m 24 #[rv a3306, iv (3 : Int32)] [(.ref a3306), (.ref a3306)])) rfl rfl (hb hby d5_24)
  refine own_via (fun t k => st3340 t (XS.dupX1 X3340.here hx rfl (hb hby d5_27) rfl rfl rfl (XS.iconst X3340.here hx rfl (hb hby d5_28) (XS.iadd X3340.here hx rfl (hb hby d5_29) rfl k)))) ?_
  show own_Goes p e below (T3340.setTop (mkF m 30 #[rv a3306, iv (3 : Int32)] [(.int (7 : Int32)), (.ref a3306), (.int (6 : Int32))])) _
  have E3341 : Exa Z h3337 a3306 zs1 := (pE_a3306.wr W3337)
  obtain ⟨T3342, h3342, X3342, e3342, W3342, st3342⟩ := putF X3340 hx hZ hown (host := "") (Or.inl (wd hw 38 rfl)) Via.refl e3340 F3339 E3341 (Or.inl (wd hw 39 rfl)) (wd hw 2 rfl) (ty := .int) (by decide) rfl rfl (g := (mkF m 30 #[rv a3306, iv (3 : Int32)] [(.int (7 : Int32)), (.ref a3306), (.int (6 : Int32))])) rfl rfl (hb hby d5_30)
  refine own_via (fun t k => st3342 t k) ?_
  have Fw3342 : Fld Z h3342 a3306 zs1 "length" "I" (.int (7 : Int32)) := F3339.same W3342
  have N3342 := Fr.snoc X3342 N3337 pG_a3306
  show own_Goes p e below (T3342.setTop (mkF m 33 #[rv a3306, iv (3 : Int32)] [(.int (6 : Int32))])) _
  obtain ⟨fs, hr, hrun, hended, hW, hsame⟩ := X3342.leave (v := some (.int (6 : Int32))) (fun h => by rw [Bd.returns] at h; cases h)
  refine own_end (t := T3342.setFrames fs) ?_ ⟨_, hrun, hended, _, _, rfl, ?_, ⟨_, rfl⟩, hW, hsame.mono (by decide) (by decide)⟩
  · exact retI X3342 hx Bd.returns (hb hby d5_33) hr
  have E3343 : Exa Z h3342 a3313 "[I" := ((pE_a3313.wr W3337).wr W3342)
  have V3344 : Arv Z h3342 a3313 k3322 .int (16 : Int32) [(.int p3314), (.int p3315), (.int p3316), (.int p3317), (.int p3318), (.int p3319), (.int (3 : Int32)), (.int p3321)] (.int (0 : Int32)) := (V3338.other W3342 (Ne.symm pN_a3306_a3313))
  have E3345 : Exa Z h3342 a3306 zs1 := (E3341.wr W3342)
  have F3346 : Fld Z h3342 a3306 zs1 "text" "[B" (.ref a3307) := ((pF_a3306_text.other W3337 (Or.inl pN_a3306_a3313)).other W3342 (Or.inr (slot_ne (Or.inr (wd hw 19 rfl)) (Or.inl (wd hw 39 rfl)) (by decide) (t := (.array .byte)) (t' := .int) (by decide) (by decide))))
  have F3347 : Fld Z h3342 a3306 zs1 "first" "[I" (.ref a3313) := ((pF_a3306_first.other W3337 (Or.inl pN_a3306_a3313)).other W3342 (Or.inr (slot_ne (Or.inl (wd hw 26 rfl)) (Or.inl (wd hw 39 rfl)) (by decide) (t := (.array .int)) (t' := .int) (by decide) (by decide))))
  · show Q48 Z a3306 a3313 k3322 p3314 p3315 p3316 p3317 p3318 p3319 p3320 p3321 a3307 h0 n0 _ T3342.heap _
    rw [e3342]
    exact ⟨rfl, N3342, (((Keep.refl h0 [a3313, a3306]).wr W3337 (Or.inl (List.mem_of_getElem? (i := 0) rfl))).wr W3342 (Or.inl (List.mem_of_getElem? (i := 1) rfl))), E3343, V3344, E3345, F3346, F3347, Fw3342⟩
set_option maxRecDepth 65536 in
set_option maxHeartbeats 40000000 in
theorem sfx33 (l : Launch) (Z : State) (a0 : Array Value) (hw : ∀ d ∈ tables_1, d.before a0 Z = true) (ws : List Jvm.Cond) {p : Program} {e : Env} {s : State} {m : MethodId} {below : List Frame} {meth : Method} {c : Code} {s₁ : State} (p3389 : Int32) (p3390 : Int32) (p3391 : Int32) (p3383 : Int32) (p3384 : Int32) (p3385 : Int32) (a3386 : Addr) (a3387 : Addr) (p3388 : Int32) (p3382 : Int32) (a3393 : Addr) (k3401 : ClassId) (p3394 : Int32) (p3395 : Int32) (p3396 : Int32) (p3397 : Int32) (p3398 : Int32) (p3399 : Int32) (p3400 : Int32) (k3392 : ClassId) (Bd : BodyLoose p l x (head1 (Jvm.Cond.code x code maxLocals ret :: ws) room_1) code maxLocals ret e s m #[(.int p3389), (.int p3390), (.int p3391)] below meth c s₁) (hZ : Z.Warmed39 s.vm) (hml : c.maxLocals = 11) {T0 : State} {locs0 : List Loc} (X0 : Stand p l e room_1 s m #[(.int p3389), (.int p3390), (.int p3391)] below meth c T0 locs0 8 120) (h0 : Heap) (e0 : T0.heap = h0) (n0 : Nat) (O0 : Old Z n0 h0) (N0 : Fr n0 locs0) (pF_a3387_length : Fld Z h0 a3387 zs1 "length" "I" (.int (7 : Int32))) (pF_a3387_first : Fld Z h0 a3387 zs1 "first" "[I" (.ref a3393)) (pV_a3393 : Arv Z h0 a3393 k3401 .int (16 : Int32) [(.int p3394), (.int p3395), (.int p3388), (.int p3396), (.int p3397), (.int p3398), (.int p3399), (.int p3400)] (.int (0 : Int32))) (pG_a3393 : n0 ≤ a3393) (pE_a3393 : Exa Z h0 a3393 "[I") (pE_a3387 : Exa Z h0 a3387 zs1) (pN_a3387_a3393 : a3387 ≠ a3393) (pF_a3387_text : Fld Z h0 a3387 zs1 "text" "[B" (.ref a3386)) (pC3406 : ¬ (p3388 < (0 : Int32))) (pC3407 : p3388 < (2 : Int32)) (pV_a3386 : Arv Z h0 a3386 k3392 .byte (4 : Int32) [(.int (123 : Int32)), (.int (91 : Int32)), (.int (49 : Int32)), (.int (110 : Int32))] (.int (0 : Int32))) (pN_a3386_a3393 : a3386 ≠ a3393) (pC3410 : ¬ (p3382 < (0 : Int32))) :
    own_Goes p e below (T0.setTop (mkF m 141 #[iv p3383, iv p3384, iv p3385, rv a3386, rv a3387, iv (2 : Int32), iv p3388, iv (2 : Int32), iv (2 : Int32), iv p3382, iv (0 : Int32)] [])) (own_G s below n0) := by
  have hx := Bd.exec
  have hby := Bd.bytes
  have hown : s.vm.findClass zs2 = some m.cls := findClass_of_methodNamed Bd.named
  have hnm := (name_of_methodNamed Bd.named Bd.method).1
  show own_Goes p e below (T0.setTop (mkF m 141 #[iv p3383, iv p3384, iv p3385, rv a3386, rv a3387, iv (2 : Int32), iv p3388, iv (2 : Int32), iv (2 : Int32), iv p3382, iv (0 : Int32)] [])) _
  refine own_via (fun t k => XS.aload X0.here hx rfl (hb hby at_141) rfl rfl (XS.iload X0.here hx rfl (hb hby at_143) rfl (XS.iload X0.here hx rfl (hb hby at_145) rfl (XS.iload X0.here hx rfl (hb hby at_147) rfl k)))) ?_
  show own_Goes p e below (T0.setTop (mkF m 149 #[iv p3383, iv p3384, iv p3385, rv a3386, rv a3387, iv (2 : Int32), iv p3388, iv (2 : Int32), iv (2 : Int32), iv p3382, iv (0 : Int32)] [(.int (0 : Int32)), (.int p3382), (.int (2 : Int32)), (.ref a3387)])) _
  obtain ⟨_, T3414, _, X3414, hQ3414, st3414⟩ := own_cv X0 hx hZ hown (wd hw 41 rfl) (wd hw 42 rfl) (wd hw 44 rfl) (wd hw 43 rfl) (wd hw 45 rfl) (wd hw 3 rfl) (by decide) (rm40 l Z a0 hw [] a3387 p3382 (7 : Int32) a3393 k3401 p3394 p3395 p3388 p3396 p3397 p3398 p3399 p3400 h0 n0 O0 pF_a3387_length pF_a3387_first pV_a3393 pG_a3393 pE_a3393 pE_a3387 pN_a3387_a3393) e0 pE_a3387 (g := (mkF m 149 #[iv p3383, iv p3384, iv p3385, rv a3386, rv a3387, iv (2 : Int32), iv p3388, iv (2 : Int32), iv (2 : Int32), iv p3382, iv (0 : Int32)] [(.int (0 : Int32)), (.int p3382), (.int (2 : Int32)), (.ref a3387)])) rfl (by rw [hml]; rfl) (rest := []) (W := 0) (lenOf pd_5 rfl) rfl (by show 2 * 0 + _ ≤ _; exact Nat.le_of_eq rfl) (hb hby at_149) (by decide) (by decide) (by decide) (by decide)
  obtain ⟨h3414, e3414⟩ : ∃ z, T3414.heap = z := ⟨_, rfl⟩
  rw [e3414] at hQ3414
  obtain ⟨rfl, Nq3414, K3414, ex3415, vx3416⟩ := hQ3414
  have N3414 := Fr.app N0 Nq3414
  refine own_via (fun t k => st3414 t (XS.iload X3414.here hx rfl (hb hby at_152) rfl (XS.iload X3414.here hx rfl (hb hby at_154) rfl (XS.icmpNo X3414.here hx rfl (hb hby at_156) rfl (teq (by decide : (2 : Int32) = (2 : Int32))).2 (XS.aload X3414.here hx rfl (hb hby at_159) rfl rfl (XS.iload X3414.here hx rfl (hb hby at_161) rfl k)))))) ?_
  show own_Goes p e below (T3414.setTop (mkF m 163 #[iv p3383, iv p3384, iv p3385, rv a3386, rv a3387, iv (2 : Int32), iv p3388, iv (2 : Int32), iv (2 : Int32), iv p3382, iv (0 : Int32)] [(.int (2 : Int32)), (.ref a3387)])) _
  have F3418 : Fld Z h3414 a3387 zs1 "first" "[I" (.ref a3393) := (pF_a3387_first.keep K3414 (ninS pN_a3387_a3393 nin0))
  have E3419 : Exa Z h3414 a3387 zs1 := (pE_a3387.keep K3414)
  have O3420 : Old Z n0 h3414 := (O0.keep K3414 (allS pG_a3393 all0))
  obtain ⟨_, T3417, _, X3417, hQ3417, st3417⟩ := own_cv X3414 hx hZ hown (wd hw 50 rfl) (wd hw 51 rfl) (wd hw 53 rfl) (wd hw 52 rfl) (wd hw 54 rfl) (wd hw 3 rfl) (by decide) (rm41 l Z a0 hw [] a3387 a3393 k3401 p3394 p3395 p3388 (7 : Int32) ((p3382 <<< ((1 : Int32) &&& 31)) ||| (0 : Int32)) p3398 p3399 p3400 h3414 n0 O3420 F3418 vx3416 E3419) e3414 E3419 (g := (mkF m 163 #[iv p3383, iv p3384, iv p3385, rv a3386, rv a3387, iv (2 : Int32), iv p3388, iv (2 : Int32), iv (2 : Int32), iv p3382, iv (0 : Int32)] [(.int (2 : Int32)), (.ref a3387)])) rfl (by rw [hml]; rfl) (rest := []) (W := 0) (lenOf pd_3 rfl) rfl (by show 2 * 0 + _ ≤ _; exact Nat.le_of_eq rfl) (hb hby at_163) (by decide) (by decide) (by decide) (by decide)
  obtain ⟨rfl, Nq3417, hh3421⟩ := hQ3417
  have N3417 := Fr.app N3414 Nq3417
  refine own_via (fun t k => st3417 t (XS.iload X3417.here hx rfl (hb hby at_166) rfl (XS.icmpNo X3417.here hx rfl (hb hby at_168) rfl (teq (rfl : p3388 = p3388)).2 (XS.aload X3417.here hx rfl (hb hby at_171) rfl rfl (XS.iload X3417.here hx rfl (hb hby at_173) rfl k))))) ?_
  show own_Goes p e below (T3417.setTop (mkF m 175 #[iv p3383, iv p3384, iv p3385, rv a3386, rv a3387, iv (2 : Int32), iv p3388, iv (2 : Int32), iv (2 : Int32), iv p3382, iv (0 : Int32)] [(.int (2 : Int32)), (.ref a3387)])) _
  have F3423 : Fld Z h3414 a3387 zs1 "text" "[B" (.ref a3386) := (pF_a3387_text.keep K3414 (ninS pN_a3387_a3393 nin0))
  have V3424 : Arv Z h3414 a3386 k3392 .byte (4 : Int32) [(.int (123 : Int32)), (.int (91 : Int32)), (.int (49 : Int32)), (.int (110 : Int32))] (.int (0 : Int32)) := (pV_a3386.keep K3414 (ninS pN_a3386_a3393 nin0))
  obtain ⟨_, T3422, _, X3422, hQ3422, st3422⟩ := own_cv X3417 hx hZ hown (wd hw 59 rfl) (wd hw 60 rfl) (wd hw 62 rfl) (wd hw 61 rfl) (wd hw 63 rfl) (wd hw 3 rfl) (by decide) (rm42 l Z a0 hw [] a3387 a3386 a3393 k3401 p3394 p3395 p3388 (7 : Int32) ((p3382 <<< ((1 : Int32) &&& 31)) ||| (0 : Int32)) p3398 p3399 p3400 k3392 (49 : Int32) (110 : Int32) h3414 n0 O3420 F3423 F3418 vx3416 E3419 pC3406 pC3407 V3424) hh3421 E3419 (g := (mkF m 175 #[iv p3383, iv p3384, iv p3385, rv a3386, rv a3387, iv (2 : Int32), iv p3388, iv (2 : Int32), iv (2 : Int32), iv p3382, iv (0 : Int32)] [(.int (2 : Int32)), (.ref a3387)])) rfl (by rw [hml]; rfl) (rest := []) (W := 0) (lenOf pd_3 rfl) rfl (by show 2 * 0 + _ ≤ _; exact Nat.le_of_eq rfl) (hb hby at_175) (by decide) (by decide) (by decide) (by decide)
  obtain ⟨rfl, Nq3422, hh3425⟩ := hQ3422
  have N3422 := Fr.app N3417 Nq3422
  refine own_via (fun t k => st3422 t (XS.iload X3422.here hx rfl (hb hby at_178) rfl (XS.iconst X3422.here hx rfl (hb hby at_180) (XS.iadd X3422.here hx rfl (hb hby at_181) rfl (XS.iload X3422.here hx rfl (hb hby at_182) rfl (XS.iadd X3422.here hx rfl (hb hby at_184) rfl (XS.icmpNo X3422.here hx rfl (hb hby at_185) rfl (teq (by decide : (7 : Int32) = (7 : Int32))).2 (XS.aload X3422.here hx rfl (hb hby at_188) rfl rfl (XS.iload X3422.here hx rfl (hb hby at_190) rfl k))))))))) ?_
  show own_Goes p e below (T3422.setTop (mkF m 192 #[iv p3383, iv p3384, iv p3385, rv a3386, rv a3387, iv (2 : Int32), iv p3388, iv (2 : Int32), iv (2 : Int32), iv p3382, iv (0 : Int32)] [(.int (2 : Int32)), (.ref a3387)])) _
  obtain ⟨_, T3426, _, X3426, hQ3426, st3426⟩ := own_cv X3422 hx hZ hown (wd hw 64 rfl) (wd hw 65 rfl) (wd hw 67 rfl) (wd hw 66 rfl) (wd hw 68 rfl) (wd hw 3 rfl) (by decide) (rm44 l Z a0 hw [] a3387 a3393 k3401 p3394 p3395 p3388 (7 : Int32) ((p3382 <<< ((1 : Int32) &&& 31)) ||| (0 : Int32)) p3398 p3399 p3400 h3414 n0 O3420 F3418 vx3416 E3419) hh3425 E3419 (g := (mkF m 192 #[iv p3383, iv p3384, iv p3385, rv a3386, rv a3387, iv (2 : Int32), iv p3388, iv (2 : Int32), iv (2 : Int32), iv p3382, iv (0 : Int32)] [(.int (2 : Int32)), (.ref a3387)])) rfl (by rw [hml]; rfl) (rest := []) (W := 0) (lenOf pd_3 rfl) rfl (by show 2 * 0 + _ ≤ _; exact Nat.le_of_eq rfl) (hb hby at_192) (by decide) (by decide) (by decide) (by decide)
  obtain ⟨rfl, Nq3426, hh3427⟩ := hQ3426
  have N3426 := Fr.app N3422 Nq3426
  refine own_via (fun t k => st3426 t (XS.iload X3426.here hx rfl (hb hby at_195) rfl (XS.icmpNo X3426.here hx rfl (hb hby at_197) rfl (teq (own_cnt p3382 0 pC3410 (by decide))).2 (XS.aload X3426.here hx rfl (hb hby at_200) rfl rfl (XS.iload X3426.here hx rfl (hb hby at_202) rfl k))))) ?_
  show own_Goes p e below (T3426.setTop (mkF m 204 #[iv p3383, iv p3384, iv p3385, rv a3386, rv a3387, iv (2 : Int32), iv p3388, iv (2 : Int32), iv (2 : Int32), iv p3382, iv (0 : Int32)] [(.int (2 : Int32)), (.ref a3387)])) _
  obtain ⟨_, T3428, _, X3428, hQ3428, st3428⟩ := own_cv X3426 hx hZ hown (wd hw 69 rfl) (wd hw 70 rfl) (wd hw 72 rfl) (wd hw 71 rfl) (wd hw 73 rfl) (wd hw 3 rfl) (by decide) (rm45 l Z a0 hw [] a3387 a3393 k3401 p3394 p3395 p3388 (7 : Int32) ((p3382 <<< ((1 : Int32) &&& 31)) ||| (0 : Int32)) p3398 p3399 p3400 h3414 n0 O3420 F3418 vx3416 E3419 (own_rep0 p3382)) hh3427 E3419 (g := (mkF m 204 #[iv p3383, iv p3384, iv p3385, rv a3386, rv a3387, iv (2 : Int32), iv p3388, iv (2 : Int32), iv (2 : Int32), iv p3382, iv (0 : Int32)] [(.int (2 : Int32)), (.ref a3387)])) rfl (by rw [hml]; rfl) (rest := []) (W := 0) (lenOf pd_6 rfl) rfl (by show 2 * 0 + _ ≤ _; exact Nat.le_of_eq rfl) (hb hby at_204) (by decide) (by decide) (by decide) (by decide)
  obtain ⟨rfl, Nq3428, hh3429⟩ := hQ3428
  have N3428 := Fr.app N3426 Nq3428
  refine own_via (fun t k => st3428 t (XS.iload X3428.here hx rfl (hb hby at_207) rfl (XS.icmpNo X3428.here hx rfl (hb hby at_209) rfl (teq (by decide : (0 : Int32) = (0 : Int32))).2 (XS.iconst X3428.here hx rfl (hb hby at_212) (XS.goto X3428.here hx rfl (pc0 := 213) (pc' := 217) rfl (hb hby at_213) (by decide) (by decide) k))))) ?_
  show own_Goes p e below (T3428.setTop (mkF m 217 #[iv p3383, iv p3384, iv p3385, rv a3386, rv a3387, iv (2 : Int32), iv p3388, iv (2 : Int32), iv (2 : Int32), iv p3382, iv (0 : Int32)] [(.int (1 : Int32))])) _
  obtain ⟨fs, hr, hrun, hended, hW, hsame⟩ := X3428.leave (v := some (.int (1 : Int32))) (fun h => by rw [Bd.returns] at h; cases h)
  refine own_end (t := T3428.setFrames fs) ?_ ⟨_, hrun, hended, _, _, rfl, ?_, ⟨_, rfl⟩, hW, hsame.mono (by decide) (by decide)⟩
  · exact retN X3428 hx (t := .boolean) Bd.returns (by simp) (hb hby at_217) hr
  · exact ⟨rfl, N3428⟩
set_option maxRecDepth 65536 in
set_option maxHeartbeats 40000000 in
theorem sfx34 (l : Launch) (Z : State) (a0 : Array Value) (hw : ∀ d ∈ tables_1, d.before a0 Z = true) (ws : List Jvm.Cond) {p : Program} {e : Env} {s : State} {m : MethodId} {below : List Frame} {meth : Method} {c : Code} {s₁ : State} (p3437 : Int32) (p3438 : Int32) (p3439 : Int32) (p3431 : Int32) (p3432 : Int32) (p3433 : Int32) (a3434 : Addr) (a3435 : Addr) (p3436 : Int32) (p3430 : Int32) (a3441 : Addr) (k3449 : ClassId) (p3442 : Int32) (p3443 : Int32) (p3444 : Int32) (p3445 : Int32) (p3446 : Int32) (p3447 : Int32) (p3448 : Int32) (k3440 : ClassId) (Bd : BodyLoose p l x (head1 (Jvm.Cond.code x code maxLocals ret :: ws) room_1) code maxLocals ret e s m #[(.int p3437), (.int p3438), (.int p3439)] below meth c s₁) (hZ : Z.Warmed39 s.vm) (hml : c.maxLocals = 11) {T0 : State} {locs0 : List Loc} (X0 : Stand p l e room_1 s m #[(.int p3437), (.int p3438), (.int p3439)] below meth c T0 locs0 8 120) (h0 : Heap) (e0 : T0.heap = h0) (n0 : Nat) (O0 : Old Z n0 h0) (N0 : Fr n0 locs0) (pF_a3435_length : Fld Z h0 a3435 zs1 "length" "I" (.int (7 : Int32))) (pF_a3435_first : Fld Z h0 a3435 zs1 "first" "[I" (.ref a3441)) (pV_a3441 : Arv Z h0 a3441 k3449 .int (16 : Int32) [(.int p3442), (.int p3443), (.int p3436), (.int p3444), (.int p3445), (.int p3446), (.int p3447), (.int p3448)] (.int (0 : Int32))) (pG_a3441 : n0 ≤ a3441) (pE_a3441 : Exa Z h0 a3441 "[I") (pE_a3435 : Exa Z h0 a3435 zs1) (pN_a3435_a3441 : a3435 ≠ a3441) (pF_a3435_text : Fld Z h0 a3435 zs1 "text" "[B" (.ref a3434)) (pC3454 : ¬ (p3436 < (0 : Int32))) (pC3455 : p3436 < (2 : Int32)) (pV_a3434 : Arv Z h0 a3434 k3440 .byte (4 : Int32) [(.int (123 : Int32)), (.int (91 : Int32)), (.int (49 : Int32)), (.int (110 : Int32))] (.int (0 : Int32))) (pN_a3434_a3441 : a3434 ≠ a3441) (pC3458 : ¬ (p3430 < (0 : Int32))) :
    own_Goes p e below (T0.setTop (mkF m 141 #[iv p3431, iv p3432, iv p3433, rv a3434, rv a3435, iv (2 : Int32), iv p3436, iv (2 : Int32), iv (2 : Int32), iv p3430, iv (1 : Int32)] [])) (own_G s below n0) := by
  have hx := Bd.exec
  have hby := Bd.bytes
  have hown : s.vm.findClass zs2 = some m.cls := findClass_of_methodNamed Bd.named
  have hnm := (name_of_methodNamed Bd.named Bd.method).1
  show own_Goes p e below (T0.setTop (mkF m 141 #[iv p3431, iv p3432, iv p3433, rv a3434, rv a3435, iv (2 : Int32), iv p3436, iv (2 : Int32), iv (2 : Int32), iv p3430, iv (1 : Int32)] [])) _
  refine own_via (fun t k => XS.aload X0.here hx rfl (hb hby at_141) rfl rfl (XS.iload X0.here hx rfl (hb hby at_143) rfl (XS.iload X0.here hx rfl (hb hby at_145) rfl (XS.iload X0.here hx rfl (hb hby at_147) rfl k)))) ?_
  show own_Goes p e below (T0.setTop (mkF m 149 #[iv p3431, iv p3432, iv p3433, rv a3434, rv a3435, iv (2 : Int32), iv p3436, iv (2 : Int32), iv (2 : Int32), iv p3430, iv (1 : Int32)] [(.int (1 : Int32)), (.int p3430), (.int (2 : Int32)), (.ref a3435)])) _
  obtain ⟨_, T3462, _, X3462, hQ3462, st3462⟩ := own_cv X0 hx hZ hown (wd hw 41 rfl) (wd hw 42 rfl) (wd hw 44 rfl) (wd hw 43 rfl) (wd hw 45 rfl) (wd hw 3 rfl) (by decide) (rm46 l Z a0 hw [] a3435 p3430 (7 : Int32) a3441 k3449 p3442 p3443 p3436 p3444 p3445 p3446 p3447 p3448 h0 n0 O0 pF_a3435_length pF_a3435_first pV_a3441 pG_a3441 pE_a3441 pE_a3435 pN_a3435_a3441) e0 pE_a3435 (g := (mkF m 149 #[iv p3431, iv p3432, iv p3433, rv a3434, rv a3435, iv (2 : Int32), iv p3436, iv (2 : Int32), iv (2 : Int32), iv p3430, iv (1 : Int32)] [(.int (1 : Int32)), (.int p3430), (.int (2 : Int32)), (.ref a3435)])) rfl (by rw [hml]; rfl) (rest := []) (W := 0) (lenOf pd_5 rfl) rfl (by show 2 * 0 + _ ≤ _; exact Nat.le_of_eq rfl) (hb hby at_149) (by decide) (by decide) (by decide) (by decide)
  obtain ⟨h3462, e3462⟩ : ∃ z, T3462.heap = z := ⟨_, rfl⟩
  rw [e3462] at hQ3462
  obtain ⟨rfl, Nq3462, K3462, ex3463, vx3464⟩ := hQ3462
  have N3462 := Fr.app N0 Nq3462
  refine own_via (fun t k => st3462 t (XS.iload X3462.here hx rfl (hb hby at_152) rfl (XS.iload X3462.here hx rfl (hb hby at_154) rfl (XS.icmpNo X3462.here hx rfl (hb hby at_156) rfl (teq (by decide : (2 : Int32) = (2 : Int32))).2 (XS.aload X3462.here hx rfl (hb hby at_159) rfl rfl (XS.iload X3462.here hx rfl (hb hby at_161) rfl k)))))) ?_
  show own_Goes p e below (T3462.setTop (mkF m 163 #[iv p3431, iv p3432, iv p3433, rv a3434, rv a3435, iv (2 : Int32), iv p3436, iv (2 : Int32), iv (2 : Int32), iv p3430, iv (1 : Int32)] [(.int (2 : Int32)), (.ref a3435)])) _
  have F3466 : Fld Z h3462 a3435 zs1 "first" "[I" (.ref a3441) := (pF_a3435_first.keep K3462 (ninS pN_a3435_a3441 nin0))
  have E3467 : Exa Z h3462 a3435 zs1 := (pE_a3435.keep K3462)
  have O3468 : Old Z n0 h3462 := (O0.keep K3462 (allS pG_a3441 all0))
  obtain ⟨_, T3465, _, X3465, hQ3465, st3465⟩ := own_cv X3462 hx hZ hown (wd hw 50 rfl) (wd hw 51 rfl) (wd hw 53 rfl) (wd hw 52 rfl) (wd hw 54 rfl) (wd hw 3 rfl) (by decide) (rm41 l Z a0 hw [] a3435 a3441 k3449 p3442 p3443 p3436 (7 : Int32) ((p3430 <<< ((1 : Int32) &&& 31)) ||| (1 : Int32)) p3446 p3447 p3448 h3462 n0 O3468 F3466 vx3464 E3467) e3462 E3467 (g := (mkF m 163 #[iv p3431, iv p3432, iv p3433, rv a3434, rv a3435, iv (2 : Int32), iv p3436, iv (2 : Int32), iv (2 : Int32), iv p3430, iv (1 : Int32)] [(.int (2 : Int32)), (.ref a3435)])) rfl (by rw [hml]; rfl) (rest := []) (W := 0) (lenOf pd_3 rfl) rfl (by show 2 * 0 + _ ≤ _; exact Nat.le_of_eq rfl) (hb hby at_163) (by decide) (by decide) (by decide) (by decide)
  obtain ⟨rfl, Nq3465, hh3469⟩ := hQ3465
  have N3465 := Fr.app N3462 Nq3465
  refine own_via (fun t k => st3465 t (XS.iload X3465.here hx rfl (hb hby at_166) rfl (XS.icmpNo X3465.here hx rfl (hb hby at_168) rfl (teq (rfl : p3436 = p3436)).2 (XS.aload X3465.here hx rfl (hb hby at_171) rfl rfl (XS.iload X3465.here hx rfl (hb hby at_173) rfl k))))) ?_
  show own_Goes p e below (T3465.setTop (mkF m 175 #[iv p3431, iv p3432, iv p3433, rv a3434, rv a3435, iv (2 : Int32), iv p3436, iv (2 : Int32), iv (2 : Int32), iv p3430, iv (1 : Int32)] [(.int (2 : Int32)), (.ref a3435)])) _
  have F3471 : Fld Z h3462 a3435 zs1 "text" "[B" (.ref a3434) := (pF_a3435_text.keep K3462 (ninS pN_a3435_a3441 nin0))
  have V3472 : Arv Z h3462 a3434 k3440 .byte (4 : Int32) [(.int (123 : Int32)), (.int (91 : Int32)), (.int (49 : Int32)), (.int (110 : Int32))] (.int (0 : Int32)) := (pV_a3434.keep K3462 (ninS pN_a3434_a3441 nin0))
  obtain ⟨_, T3470, _, X3470, hQ3470, st3470⟩ := own_cv X3465 hx hZ hown (wd hw 59 rfl) (wd hw 60 rfl) (wd hw 62 rfl) (wd hw 61 rfl) (wd hw 63 rfl) (wd hw 3 rfl) (by decide) (rm42 l Z a0 hw [] a3435 a3434 a3441 k3449 p3442 p3443 p3436 (7 : Int32) ((p3430 <<< ((1 : Int32) &&& 31)) ||| (1 : Int32)) p3446 p3447 p3448 k3440 (49 : Int32) (110 : Int32) h3462 n0 O3468 F3471 F3466 vx3464 E3467 pC3454 pC3455 V3472) hh3469 E3467 (g := (mkF m 175 #[iv p3431, iv p3432, iv p3433, rv a3434, rv a3435, iv (2 : Int32), iv p3436, iv (2 : Int32), iv (2 : Int32), iv p3430, iv (1 : Int32)] [(.int (2 : Int32)), (.ref a3435)])) rfl (by rw [hml]; rfl) (rest := []) (W := 0) (lenOf pd_3 rfl) rfl (by show 2 * 0 + _ ≤ _; exact Nat.le_of_eq rfl) (hb hby at_175) (by decide) (by decide) (by decide) (by decide)
  obtain ⟨rfl, Nq3470, hh3473⟩ := hQ3470
  have N3470 := Fr.app N3465 Nq3470
  refine own_via (fun t k => st3470 t (XS.iload X3470.here hx rfl (hb hby at_178) rfl (XS.iconst X3470.here hx rfl (hb hby at_180) (XS.iadd X3470.here hx rfl (hb hby at_181) rfl (XS.iload X3470.here hx rfl (hb hby at_182) rfl (XS.iadd X3470.here hx rfl (hb hby at_184) rfl (XS.icmpNo X3470.here hx rfl (hb hby at_185) rfl (teq (by decide : (7 : Int32) = (7 : Int32))).2 (XS.aload X3470.here hx rfl (hb hby at_188) rfl rfl (XS.iload X3470.here hx rfl (hb hby at_190) rfl k))))))))) ?_
  show own_Goes p e below (T3470.setTop (mkF m 192 #[iv p3431, iv p3432, iv p3433, rv a3434, rv a3435, iv (2 : Int32), iv p3436, iv (2 : Int32), iv (2 : Int32), iv p3430, iv (1 : Int32)] [(.int (2 : Int32)), (.ref a3435)])) _
  obtain ⟨_, T3474, _, X3474, hQ3474, st3474⟩ := own_cv X3470 hx hZ hown (wd hw 64 rfl) (wd hw 65 rfl) (wd hw 67 rfl) (wd hw 66 rfl) (wd hw 68 rfl) (wd hw 3 rfl) (by decide) (rm44 l Z a0 hw [] a3435 a3441 k3449 p3442 p3443 p3436 (7 : Int32) ((p3430 <<< ((1 : Int32) &&& 31)) ||| (1 : Int32)) p3446 p3447 p3448 h3462 n0 O3468 F3466 vx3464 E3467) hh3473 E3467 (g := (mkF m 192 #[iv p3431, iv p3432, iv p3433, rv a3434, rv a3435, iv (2 : Int32), iv p3436, iv (2 : Int32), iv (2 : Int32), iv p3430, iv (1 : Int32)] [(.int (2 : Int32)), (.ref a3435)])) rfl (by rw [hml]; rfl) (rest := []) (W := 0) (lenOf pd_3 rfl) rfl (by show 2 * 0 + _ ≤ _; exact Nat.le_of_eq rfl) (hb hby at_192) (by decide) (by decide) (by decide) (by decide)
  obtain ⟨rfl, Nq3474, hh3475⟩ := hQ3474
  have N3474 := Fr.app N3470 Nq3474
  refine own_via (fun t k => st3474 t (XS.iload X3474.here hx rfl (hb hby at_195) rfl (XS.icmpNo X3474.here hx rfl (hb hby at_197) rfl (teq (own_cnt p3430 1 pC3458 (by decide))).2 (XS.aload X3474.here hx rfl (hb hby at_200) rfl rfl (XS.iload X3474.here hx rfl (hb hby at_202) rfl k))))) ?_
  show own_Goes p e below (T3474.setTop (mkF m 204 #[iv p3431, iv p3432, iv p3433, rv a3434, rv a3435, iv (2 : Int32), iv p3436, iv (2 : Int32), iv (2 : Int32), iv p3430, iv (1 : Int32)] [(.int (2 : Int32)), (.ref a3435)])) _
  obtain ⟨_, T3476, _, X3476, hQ3476, st3476⟩ := own_cv X3474 hx hZ hown (wd hw 69 rfl) (wd hw 70 rfl) (wd hw 72 rfl) (wd hw 71 rfl) (wd hw 73 rfl) (wd hw 3 rfl) (by decide) (rm47 l Z a0 hw [] a3435 a3441 k3449 p3442 p3443 p3436 (7 : Int32) ((p3430 <<< ((1 : Int32) &&& 31)) ||| (1 : Int32)) p3446 p3447 p3448 h3462 n0 O3468 F3466 vx3464 E3467 (own_rep1 p3430)) hh3475 E3467 (g := (mkF m 204 #[iv p3431, iv p3432, iv p3433, rv a3434, rv a3435, iv (2 : Int32), iv p3436, iv (2 : Int32), iv (2 : Int32), iv p3430, iv (1 : Int32)] [(.int (2 : Int32)), (.ref a3435)])) rfl (by rw [hml]; rfl) (rest := []) (W := 0) (lenOf pd_6 rfl) rfl (by show 2 * 0 + _ ≤ _; exact Nat.le_of_eq rfl) (hb hby at_204) (by decide) (by decide) (by decide) (by decide)
  obtain ⟨rfl, Nq3476, hh3477⟩ := hQ3476
  have N3476 := Fr.app N3474 Nq3476
  refine own_via (fun t k => st3476 t (XS.iload X3476.here hx rfl (hb hby at_207) rfl (XS.icmpNo X3476.here hx rfl (hb hby at_209) rfl (teq (by decide : (1 : Int32) = (1 : Int32))).2 (XS.iconst X3476.here hx rfl (hb hby at_212) (XS.goto X3476.here hx rfl (pc0 := 213) (pc' := 217) rfl (hb hby at_213) (by decide) (by decide) k))))) ?_
  show own_Goes p e below (T3476.setTop (mkF m 217 #[iv p3431, iv p3432, iv p3433, rv a3434, rv a3435, iv (2 : Int32), iv p3436, iv (2 : Int32), iv (2 : Int32), iv p3430, iv (1 : Int32)] [(.int (1 : Int32))])) _
  obtain ⟨fs, hr, hrun, hended, hW, hsame⟩ := X3476.leave (v := some (.int (1 : Int32))) (fun h => by rw [Bd.returns] at h; cases h)
  refine own_end (t := T3476.setFrames fs) ?_ ⟨_, hrun, hended, _, _, rfl, ?_, ⟨_, rfl⟩, hW, hsame.mono (by decide) (by decide)⟩
  · exact retN X3476 hx (t := .boolean) Bd.returns (by simp) (hb hby at_217) hr
  · exact ⟨rfl, N3476⟩
set_option maxRecDepth 65536 in
set_option maxHeartbeats 40000000 in
theorem sfx35 (l : Launch) (Z : State) (a0 : Array Value) (hw : ∀ d ∈ tables_1, d.before a0 Z = true) (ws : List Jvm.Cond) {p : Program} {e : Env} {s : State} {m : MethodId} {below : List Frame} {meth : Method} {c : Code} {s₁ : State} (p3360 : Int32) (p3361 : Int32) (p3362 : Int32) (p3354 : Int32) (p3355 : Int32) (p3356 : Int32) (a3357 : Addr) (a3358 : Addr) (p3359 : Int32) (a3364 : Addr) (k3372 : ClassId) (p3365 : Int32) (p3366 : Int32) (p3367 : Int32) (p3368 : Int32) (p3369 : Int32) (p3370 : Int32) (p3371 : Int32) (k3363 : ClassId) (Bd : BodyLoose p l x (head1 (Jvm.Cond.code x code maxLocals ret :: ws) room_1) code maxLocals ret e s m #[(.int p3360), (.int p3361), (.int p3362)] below meth c s₁) (hZ : Z.Warmed39 s.vm) (hml : c.maxLocals = 11) {T0 : State} {locs0 : List Loc} (X0 : Stand p l e room_1 s m #[(.int p3360), (.int p3361), (.int p3362)] below meth c T0 locs0 8 120) (h0 : Heap) (e0 : T0.heap = h0) (n0 : Nat) (O0 : Old Z n0 h0) (N0 : Fr n0 locs0) (pF_a3358_length : Fld Z h0 a3358 zs1 "length" "I" (.int (7 : Int32))) (pF_a3358_first : Fld Z h0 a3358 zs1 "first" "[I" (.ref a3364)) (pV_a3364 : Arv Z h0 a3364 k3372 .int (16 : Int32) [(.int p3365), (.int p3366), (.int p3359), (.int p3367), (.int p3368), (.int p3369), (.int p3370), (.int p3371)] (.int (0 : Int32))) (pG_a3364 : n0 ≤ a3364) (pE_a3364 : Exa Z h0 a3364 "[I") (pE_a3358 : Exa Z h0 a3358 zs1) (pN_a3358_a3364 : a3358 ≠ a3364) (pF_a3358_text : Fld Z h0 a3358 zs1 "text" "[B" (.ref a3357)) (pC3377 : ¬ (p3359 < (0 : Int32))) (pC3378 : p3359 < (2 : Int32)) (pV_a3357 : Arv Z h0 a3357 k3363 .byte (4 : Int32) [(.int (123 : Int32)), (.int (91 : Int32)), (.int (49 : Int32)), (.int (110 : Int32))] (.int (0 : Int32))) (pN_a3357_a3364 : a3357 ≠ a3364) :
    own_Goes p e below (T0.setTop (mkF m 122 #[iv p3354, iv p3355, iv p3356, rv a3357, rv a3358, iv (2 : Int32), iv p3359, iv (2 : Int32), iv (2 : Int32), .unset, .unset] [])) (own_G s below n0) := by
  have hx := Bd.exec
  have hby := Bd.bytes
  have hown : s.vm.findClass zs2 = some m.cls := findClass_of_methodNamed Bd.named
  have hnm := (name_of_methodNamed Bd.named Bd.method).1
  show own_Goes p e below (T0.setTop (mkF m 122 #[iv p3354, iv p3355, iv p3356, rv a3357, rv a3358, iv (2 : Int32), iv p3359, iv (2 : Int32), iv (2 : Int32), .unset, .unset] [])) _
  refine own_via (fun t k => XS.iloadN X0.here hx rfl (hb hby at_122) rfl (X0.ldcInt hx hown (mvT hZ (wd hw 40 rfl)) (g := (mkF m 123 #[iv p3354, iv p3355, iv p3356, rv a3357, rv a3358, iv (2 : Int32), iv p3359, iv (2 : Int32), iv (2 : Int32), .unset, .unset] [(.int p3355)])) rfl (hb hby at_123) t (XS.iand X0.here hx rfl (hb hby at_125) rfl (XS.istore X0.here hx rfl (hb hby at_126) rfl (l' := #[iv p3354, iv p3355, iv p3356, rv a3357, rv a3358, iv (2 : Int32), iv p3359, iv (2 : Int32), iv (2 : Int32), iv (p3355 &&& (2147483647 : Int32)), .unset]) rfl (XS.iloadN X0.here hx rfl (hb hby at_128) rfl (XS.iconst X0.here hx rfl (hb hby at_129) (XS.iand X0.here hx rfl (hb hby at_130) rfl k))))))) ?_
  show own_Goes p e below (T0.setTop (mkF m 131 #[iv p3354, iv p3355, iv p3356, rv a3357, rv a3358, iv (2 : Int32), iv p3359, iv (2 : Int32), iv (2 : Int32), iv (p3355 &&& (2147483647 : Int32)), .unset] [(.int (p3356 &&& (1 : Int32)))])) _
  by_cases hc3381 : (p3356 &&& (1 : Int32)) = (0 : Int32)
  · refine own_via (fun t k => XS.ifYes X0.here hx rfl (pc0 := 131) (pc' := 138) rfl (hb hby at_131) rfl ((if0 _ _).trans (teq hc3381).1) (by decide) (by decide) (XS.iconst X0.here hx rfl (hb hby at_138) (XS.istore X0.here hx rfl (hb hby at_139) rfl (l' := #[iv p3354, iv p3355, iv p3356, rv a3357, rv a3358, iv (2 : Int32), iv p3359, iv (2 : Int32), iv (2 : Int32), iv (p3355 &&& (2147483647 : Int32)), iv (0 : Int32)]) rfl k))) ?_
    show own_Goes p e below (T0.setTop (mkF m 141 #[iv p3354, iv p3355, iv p3356, rv a3357, rv a3358, iv (2 : Int32), iv p3359, iv (2 : Int32), iv (2 : Int32), iv (p3355 &&& (2147483647 : Int32)), iv (0 : Int32)] [])) _
    exact sfx33 l Z a0 hw ws p3360 p3361 p3362 p3354 p3355 p3356 a3357 a3358 p3359 (p3355 &&& (2147483647 : Int32)) a3364 k3372 p3365 p3366 p3367 p3368 p3369 p3370 p3371 k3363 Bd hZ hml X0 h0 e0 n0 O0 N0 pF_a3358_length pF_a3358_first pV_a3364 pG_a3364 pE_a3364 pE_a3358 pN_a3358_a3364 pF_a3358_text pC3377 pC3378 pV_a3357 pN_a3357_a3364 (own_nn_mask p3355 (2147483647 : Int32) 31 (by decide) (by decide))
  · refine own_via (fun t k => XS.ifNo X0.here hx rfl (hb hby at_131) rfl ((if0 _ _).trans (feq hc3381).1) (XS.iconst X0.here hx rfl (hb hby at_134) (XS.goto X0.here hx rfl (pc0 := 135) (pc' := 139) rfl (hb hby at_135) (by decide) (by decide) (XS.istore X0.here hx rfl (hb hby at_139) rfl (l' := #[iv p3354, iv p3355, iv p3356, rv a3357, rv a3358, iv (2 : Int32), iv p3359, iv (2 : Int32), iv (2 : Int32), iv (p3355 &&& (2147483647 : Int32)), iv (1 : Int32)]) rfl k)))) ?_
    show own_Goes p e below (T0.setTop (mkF m 141 #[iv p3354, iv p3355, iv p3356, rv a3357, rv a3358, iv (2 : Int32), iv p3359, iv (2 : Int32), iv (2 : Int32), iv (p3355 &&& (2147483647 : Int32)), iv (1 : Int32)] [])) _
    exact sfx34 l Z a0 hw ws p3360 p3361 p3362 p3354 p3355 p3356 a3357 a3358 p3359 (p3355 &&& (2147483647 : Int32)) a3364 k3372 p3365 p3366 p3367 p3368 p3369 p3370 p3371 k3363 Bd hZ hml X0 h0 e0 n0 O0 N0 pF_a3358_length pF_a3358_first pV_a3364 pG_a3364 pE_a3364 pE_a3358 pN_a3358_a3364 pF_a3358_text pC3377 pC3378 pV_a3357 pN_a3357_a3364 (own_nn_mask p3355 (2147483647 : Int32) 31 (by decide) (by decide))
set_option maxRecDepth 65536 in
set_option maxHeartbeats 40000000 in
theorem sfx36 (l : Launch) (Z : State) (a0 : Array Value) (hw : ∀ d ∈ tables_1, d.before a0 Z = true) (ws : List Jvm.Cond) {p : Program} {e : Env} {s : State} {m : MethodId} {below : List Frame} {meth : Method} {c : Code} {s₁ : State} (p3284 : Int32) (p3285 : Int32) (p3286 : Int32) (p3279 : Int32) (p3280 : Int32) (p3281 : Int32) (a3282 : Addr) (a3283 : Addr) (p3278 : Int32) (a3288 : Addr) (k3296 : ClassId) (p3289 : Int32) (p3290 : Int32) (p3291 : Int32) (p3292 : Int32) (p3293 : Int32) (p3294 : Int32) (p3295 : Int32) (k3287 : ClassId) (Bd : BodyLoose p l x (head1 (Jvm.Cond.code x code maxLocals ret :: ws) room_1) code maxLocals ret e s m #[(.int p3284), (.int p3285), (.int p3286)] below meth c s₁) (hZ : Z.Warmed39 s.vm) (hml : c.maxLocals = 11) {T0 : State} {locs0 : List Loc} (X0 : Stand p l e room_1 s m #[(.int p3284), (.int p3285), (.int p3286)] below meth c T0 locs0 8 120) (h0 : Heap) (e0 : T0.heap = h0) (n0 : Nat) (O0 : Old Z n0 h0) (N0 : Fr n0 locs0) (pF_a3283_length : Fld Z h0 a3283 zs1 "length" "I" (.int (6 : Int32))) (pF_a3283_first : Fld Z h0 a3283 zs1 "first" "[I" (.ref a3288)) (pV_a3288 : Arv Z h0 a3288 k3296 .int (16 : Int32) [(.int p3289), (.int p3290), (.int p3278), (.int p3291), (.int p3292), (.int p3293), (.int p3294), (.int p3295)] (.int (0 : Int32))) (pG_a3288 : n0 ≤ a3288) (pE_a3288 : Exa Z h0 a3288 "[I") (pE_a3283 : Exa Z h0 a3283 zs1) (pN_a3283_a3288 : a3283 ≠ a3288) (pF_a3283_text : Fld Z h0 a3283 zs1 "text" "[B" (.ref a3282)) (pC3301 : ¬ (p3278 < (0 : Int32))) (pC3302 : p3278 < (2 : Int32)) (pV_a3282 : Arv Z h0 a3282 k3287 .byte (4 : Int32) [(.int (123 : Int32)), (.int (91 : Int32)), (.int (49 : Int32)), (.int (110 : Int32))] (.int (0 : Int32))) (pN_a3282_a3288 : a3282 ≠ a3288) (pL_a3288 : own_Len Z h0 a3288 .int (16 : Int32)) (pG_a3283 : n0 ≤ a3283) (pN_a3282_a3283 : a3282 ≠ a3283) :
    own_Goes p e below (T0.setTop (mkF m 105 #[iv p3279, iv p3280, iv p3281, rv a3282, rv a3283, iv (2 : Int32), iv p3278, iv (2 : Int32), iv (1 : Int32), .unset, .unset] [])) (own_G s below n0) := by
  have hx := Bd.exec
  have hby := Bd.bytes
  have hown : s.vm.findClass zs2 = some m.cls := findClass_of_methodNamed Bd.named
  have hnm := (name_of_methodNamed Bd.named Bd.method).1
  show own_Goes p e below (T0.setTop (mkF m 105 #[iv p3279, iv p3280, iv p3281, rv a3282, rv a3283, iv (2 : Int32), iv p3278, iv (2 : Int32), iv (1 : Int32), .unset, .unset] [])) _
  refine own_via (fun t k => XS.iloadN X0.here hx rfl (hb hby at_105) rfl (XS.bipush X0.here hx rfl (hb hby at_106) (XS.iand X0.here hx rfl (hb hby at_108) rfl k))) ?_
  show own_Goes p e below (T0.setTop (mkF m 109 #[iv p3279, iv p3280, iv p3281, rv a3282, rv a3283, iv (2 : Int32), iv p3278, iv (2 : Int32), iv (1 : Int32), .unset, .unset] [(.int (p3279 &&& (16 : Int32)))])) _
  by_cases hc3304 : (p3279 &&& (16 : Int32)) = (0 : Int32)
  · refine own_via (fun t k => XS.ifYes X0.here hx rfl (pc0 := 109) (pc' := 122) rfl (hb hby at_109) rfl ((if0 _ _).trans (teq hc3304).1) (by decide) (by decide) k) ?_
    exact sfx31 l Z a0 hw ws p3284 p3285 p3286 p3279 p3280 p3281 a3282 a3283 p3278 a3288 k3296 p3289 p3290 p3291 p3292 p3293 p3294 p3295 k3287 Bd hZ hml X0 h0 e0 n0 O0 N0 pF_a3283_length pF_a3283_first pV_a3288 pG_a3288 pE_a3288 pE_a3283 pN_a3283_a3288 pF_a3283_text pC3301 pC3302 pV_a3282 pN_a3282_a3288
  · refine own_via (fun t k => XS.ifNo X0.here hx rfl (hb hby at_109) rfl ((if0 _ _).trans (feq hc3304).1) (XS.aload X0.here hx rfl (hb hby at_112) rfl rfl (XS.iconst X0.here hx rfl (hb hby at_114) k))) ?_
    show own_Goes p e below (T0.setTop (mkF m 115 #[iv p3279, iv p3280, iv p3281, rv a3282, rv a3283, iv (2 : Int32), iv p3278, iv (2 : Int32), iv (1 : Int32), .unset, .unset] [(.int (3 : Int32)), (.ref a3283)])) _
    obtain ⟨_, T3305, _, X3305, hQ3305, st3305⟩ := own_cv X0 hx hZ hown (wd hw 74 rfl) (wd hw 34 rfl) (wd hw 36 rfl) (wd hw 35 rfl) (wd hw 37 rfl) (wd hw 3 rfl) (by decide) (rm48 l Z a0 hw [] a3283 a3288 k3296 p3289 p3290 p3278 p3291 p3292 p3293 p3294 p3295 a3282 h0 n0 O0 pF_a3283_length pF_a3283_first pL_a3288 pV_a3288 pG_a3288 pN_a3283_a3288 pE_a3283 pG_a3283 pE_a3288 pF_a3283_text) e0 pE_a3283 (g := (mkF m 115 #[iv p3279, iv p3280, iv p3281, rv a3282, rv a3283, iv (2 : Int32), iv p3278, iv (2 : Int32), iv (1 : Int32), .unset, .unset] [(.int (3 : Int32)), (.ref a3283)])) rfl (by rw [hml]; rfl) (rest := []) (W := 0) (lenOf pd_3 rfl) rfl (by show 2 * 0 + _ ≤ _; exact Nat.le_of_eq rfl) (hb hby at_115) (by decide) (by decide) (by decide) (by decide)
    obtain ⟨h3305, e3305⟩ : ∃ z, T3305.heap = z := ⟨_, rfl⟩
    rw [e3305] at hQ3305
    obtain ⟨rfl, Nq3305, K3305, ex3348, vx3349, ex3350, fx3351, fx3352, fx3353⟩ := hQ3305
    have N3305 := Fr.app N0 Nq3305
    refine own_via (fun t k => st3305 t (XS.pop X3305.here hx rfl (hb hby at_118) rfl rfl (XS.iinc X3305.here hx rfl (hb hby at_119) rfl (l' := #[iv p3279, iv p3280, iv p3281, rv a3282, rv a3283, iv (2 : Int32), iv p3278, iv (2 : Int32), iv (2 : Int32), .unset, .unset]) rfl k))) ?_
    show own_Goes p e below (T3305.setTop (mkF m 122 #[iv p3279, iv p3280, iv p3281, rv a3282, rv a3283, iv (2 : Int32), iv p3278, iv (2 : Int32), iv (2 : Int32), .unset, .unset] [])) _
    have V3478 : Arv Z h3305 a3282 k3287 .byte (4 : Int32) [(.int (123 : Int32)), (.int (91 : Int32)), (.int (49 : Int32)), (.int (110 : Int32))] (.int (0 : Int32)) := (pV_a3282.keep K3305 (ninS pN_a3282_a3288 (ninS pN_a3282_a3283 nin0)))
    have O3479 : Old Z n0 h3305 := (O0.keep K3305 (allS pG_a3288 (allS pG_a3283 all0)))
    exact sfx35 l Z a0 hw ws p3284 p3285 p3286 p3279 p3280 p3281 a3282 a3283 p3278 a3288 k3296 p3289 p3290 p3291 p3292 p3293 (3 : Int32) p3295 k3287 Bd hZ hml X3305 h3305 e3305 n0 O3479 N3305 fx3353 fx3352 vx3349 pG_a3288 ex3348 ex3350 pN_a3283_a3288 fx3351 pC3301 pC3302 V3478 pN_a3282_a3288
set_option maxRecDepth 65536 in
set_option maxHeartbeats 40000000 in
theorem sfx37 (l : Launch) (Z : State) (a0 : Array Value) (hw : ∀ d ∈ tables_1, d.before a0 Z = true) (ws : List Jvm.Cond) {p : Program} {e : Env} {s : State} {m : MethodId} {below : List Frame} {meth : Method} {c : Code} {s₁ : State} (p2483 : Int32) (p2484 : Int32) (p2485 : Int32) (p2478 : Int32) (p2479 : Int32) (p2480 : Int32) (a2481 : Addr) (a2482 : Addr) (a2487 : Addr) (k2496 : ClassId) (p2488 : Int32) (p2489 : Int32) (p2490 : Int32) (p2491 : Int32) (p2492 : Int32) (p2493 : Int32) (p2494 : Int32) (p2495 : Int32) (k2486 : ClassId) (Bd : BodyLoose p l x (head1 (Jvm.Cond.code x code maxLocals ret :: ws) room_1) code maxLocals ret e s m #[(.int p2483), (.int p2484), (.int p2485)] below meth c s₁) (hZ : Z.Warmed39 s.vm) (hml : c.maxLocals = 11) {T0 : State} {locs0 : List Loc} (X0 : Stand p l e room_1 s m #[(.int p2483), (.int p2484), (.int p2485)] below meth c T0 locs0 8 120) (h0 : Heap) (e0 : T0.heap = h0) (n0 : Nat) (O0 : Old Z n0 h0) (N0 : Fr n0 locs0) (pF_a2482_length : Fld Z h0 a2482 zs1 "length" "I" (.int (2 : Int32))) (pF_a2482_first : Fld Z h0 a2482 zs1 "first" "[I" (.ref a2487)) (pL_a2487 : own_Len Z h0 a2487 .int (16 : Int32)) (pV_a2487 : Arv Z h0 a2487 k2496 .int (16 : Int32) [(.int p2488), (.int p2489), (.int p2490), (.int p2491), (.int p2492), (.int p2493), (.int p2494), (.int p2495)] (.int (0 : Int32))) (pG_a2487 : n0 ≤ a2487) (pN_a2482_a2487 : a2482 ≠ a2487) (pE_a2482 : Exa Z h0 a2482 zs1) (pG_a2482 : n0 ≤ a2482) (pE_a2487 : Exa Z h0 a2487 "[I") (pF_a2482_text : Fld Z h0 a2482 zs1 "text" "[B" (.ref a2481)) (pV_a2481 : Arv Z h0 a2481 k2486 .byte (4 : Int32) [(.int (123 : Int32)), (.int (91 : Int32)), (.int (49 : Int32)), (.int (110 : Int32))] (.int (0 : Int32))) (pN_a2481_a2482 : a2481 ≠ a2482) (pN_a2481_a2487 : a2481 ≠ a2487) :
    own_Goes p e below (T0.setTop (mkF m 69 #[iv p2478, iv p2479, iv p2480, rv a2481, rv a2482, iv (2 : Int32), .unset, .unset, .unset, .unset, .unset] [])) (own_G s below n0) := by
  have hx := Bd.exec
  have hby := Bd.bytes
  have hown : s.vm.findClass zs2 = some m.cls := findClass_of_methodNamed Bd.named
  have hnm := (name_of_methodNamed Bd.named Bd.method).1
  show own_Goes p e below (T0.setTop (mkF m 69 #[iv p2478, iv p2479, iv p2480, rv a2481, rv a2482, iv (2 : Int32), .unset, .unset, .unset, .unset, .unset] [])) _
  refine own_via (fun t k => XS.iloadN X0.here hx rfl (hb hby at_69) rfl (XS.iconst X0.here hx rfl (hb hby at_70) (XS.iushr X0.here hx rfl (hb hby at_71) rfl (XS.iconst X0.here hx rfl (hb hby at_72) (XS.iand X0.here hx rfl (hb hby at_73) rfl (XS.istore X0.here hx rfl (hb hby at_74) rfl (l' := #[iv p2478, iv p2479, iv p2480, rv a2481, rv a2482, iv (2 : Int32), iv (((p2478.toUInt32 >>> ((2 : Int32) &&& 31).toUInt32).toInt32) &&& (1 : Int32)), .unset, .unset, .unset, .unset]) rfl (XS.aload X0.here hx rfl (hb hby at_76) rfl rfl (XS.iload X0.here hx rfl (hb hby at_78) rfl k)))))))) ?_
  show own_Goes p e below (T0.setTop (mkF m 80 #[iv p2478, iv p2479, iv p2480, rv a2481, rv a2482, iv (2 : Int32), iv (((p2478.toUInt32 >>> ((2 : Int32) &&& 31).toUInt32).toInt32) &&& (1 : Int32)), .unset, .unset, .unset, .unset] [(.int (((p2478.toUInt32 >>> ((2 : Int32) &&& 31).toUInt32).toInt32) &&& (1 : Int32))), (.ref a2482)])) _
  obtain ⟨_, T2501, _, X2501, hQ2501, st2501⟩ := own_cv X0 hx hZ hown (wd hw 28 rfl) (wd hw 29 rfl) (wd hw 31 rfl) (wd hw 30 rfl) (wd hw 32 rfl) (wd hw 3 rfl) (by decide) (rm38 l Z a0 hw [] a2482 (((p2478.toUInt32 >>> ((2 : Int32) &&& 31).toUInt32).toInt32) &&& (1 : Int32)) a2487 k2496 p2488 p2489 p2490 p2491 p2492 p2493 p2494 p2495 a2481 h0 n0 O0 pF_a2482_length pF_a2482_first pL_a2487 pV_a2487 pG_a2487 pN_a2482_a2487 pE_a2482 pG_a2482 pE_a2487 pF_a2482_text) e0 pE_a2482 (g := (mkF m 80 #[iv p2478, iv p2479, iv p2480, rv a2481, rv a2482, iv (2 : Int32), iv (((p2478.toUInt32 >>> ((2 : Int32) &&& 31).toUInt32).toInt32) &&& (1 : Int32)), .unset, .unset, .unset, .unset] [(.int (((p2478.toUInt32 >>> ((2 : Int32) &&& 31).toUInt32).toInt32) &&& (1 : Int32))), (.ref a2482)])) rfl (by rw [hml]; rfl) (rest := []) (W := 0) (lenOf pd_3 rfl) rfl (by show 2 * 0 + _ ≤ _; exact Nat.le_of_eq rfl) (hb hby at_80) (by decide) (by decide) (by decide) (by decide)
  obtain ⟨h2501, e2501⟩ : ∃ z, T2501.heap = z := ⟨_, rfl⟩
  rw [e2501] at hQ2501
  obtain ⟨rfl, Nq2501, K2501, ex2633, vx2634, ex2635, fx2636, fx2637, fx2638⟩ := hQ2501
  have N2501 := Fr.app N0 Nq2501
  refine own_via (fun t k => st2501 t (XS.istore X2501.here hx rfl (hb hby at_83) rfl (l' := #[iv p2478, iv p2479, iv p2480, rv a2481, rv a2482, iv (2 : Int32), iv (((p2478.toUInt32 >>> ((2 : Int32) &&& 31).toUInt32).toInt32) &&& (1 : Int32)), iv (2 : Int32), .unset, .unset, .unset]) rfl (XS.iconst X2501.here hx rfl (hb hby at_85) (XS.istore X2501.here hx rfl (hb hby at_86) rfl (l' := #[iv p2478, iv p2479, iv p2480, rv a2481, rv a2482, iv (2 : Int32), iv (((p2478.toUInt32 >>> ((2 : Int32) &&& 31).toUInt32).toInt32) &&& (1 : Int32)), iv (2 : Int32), iv (0 : Int32), .unset, .unset]) rfl (XS.iloadN X2501.here hx rfl (hb hby at_88) rfl (XS.bipush X2501.here hx rfl (hb hby at_89) (XS.iand X2501.here hx rfl (hb hby at_91) rfl k))))))) ?_
  show own_Goes p e below (T2501.setTop (mkF m 92 #[iv p2478, iv p2479, iv p2480, rv a2481, rv a2482, iv (2 : Int32), iv (((p2478.toUInt32 >>> ((2 : Int32) &&& 31).toUInt32).toInt32) &&& (1 : Int32)), iv (2 : Int32), iv (0 : Int32), .unset, .unset] [(.int (p2478 &&& (8 : Int32)))])) _
  by_cases hc2639 : (p2478 &&& (8 : Int32)) = (0 : Int32)
  · refine own_via (fun t k => XS.ifYes X2501.here hx rfl (pc0 := 92) (pc' := 105) rfl (hb hby at_92) rfl ((if0 _ _).trans (teq hc2639).1) (by decide) (by decide) k) ?_
    have V3266 : Arv Z h2501 a2481 k2486 .byte (4 : Int32) [(.int (123 : Int32)), (.int (91 : Int32)), (.int (49 : Int32)), (.int (110 : Int32))] (.int (0 : Int32)) := (pV_a2481.keep K2501 (ninS pN_a2481_a2487 (ninS pN_a2481_a2482 nin0)))
    have l3267 : own_Len Z h2501 a2487 .int (16 : Int32) := ⟨_, _, _, vx2634⟩
    have O3268 : Old Z n0 h2501 := (O0.keep K2501 (allS pG_a2487 (allS pG_a2482 all0)))
    exact sfx32 l Z a0 hw ws p2483 p2484 p2485 p2478 p2479 p2480 a2481 a2482 (((p2478.toUInt32 >>> ((2 : Int32) &&& 31).toUInt32).toInt32) &&& (1 : Int32)) a2487 k2496 p2488 p2489 (0 : Int32) (0 : Int32) p2493 p2494 p2495 k2486 Bd hZ hml X2501 h2501 e2501 n0 O3268 N2501 fx2638 fx2637 vx2634 pG_a2487 ex2633 ex2635 pN_a2482_a2487 fx2636 (own_nn_mask ((p2478.toUInt32 >>> ((2 : Int32) &&& 31).toUInt32).toInt32) (1 : Int32) 1 (by decide) (by decide)) (own_lt_mask ((p2478.toUInt32 >>> ((2 : Int32) &&& 31).toUInt32).toInt32) (1 : Int32) 1 (by decide) (by decide) (by decide)) V3266 pN_a2481_a2487 l3267 pG_a2482 pN_a2481_a2482
  · refine own_via (fun t k => XS.ifNo X2501.here hx rfl (hb hby at_92) rfl ((if0 _ _).trans (feq hc2639).1) (XS.aload X2501.here hx rfl (hb hby at_95) rfl rfl (XS.iconst X2501.here hx rfl (hb hby at_97) k))) ?_
    show own_Goes p e below (T2501.setTop (mkF m 98 #[iv p2478, iv p2479, iv p2480, rv a2481, rv a2482, iv (2 : Int32), iv (((p2478.toUInt32 >>> ((2 : Int32) &&& 31).toUInt32).toInt32) &&& (1 : Int32)), iv (2 : Int32), iv (0 : Int32), .unset, .unset] [(.int (3 : Int32)), (.ref a2482)])) _
    have l3270 : own_Len Z h2501 a2487 .int (16 : Int32) := ⟨_, _, _, vx2634⟩
    have O3271 : Old Z n0 h2501 := (O0.keep K2501 (allS pG_a2487 (allS pG_a2482 all0)))
    obtain ⟨_, T3269, _, X3269, hQ3269, st3269⟩ := own_cv X2501 hx hZ hown (wd hw 74 rfl) (wd hw 34 rfl) (wd hw 36 rfl) (wd hw 35 rfl) (wd hw 37 rfl) (wd hw 3 rfl) (by decide) (rm34 l Z a0 hw [] a2482 a2487 k2496 p2488 p2489 (((p2478.toUInt32 >>> ((2 : Int32) &&& 31).toUInt32).toInt32) &&& (1 : Int32)) (0 : Int32) (0 : Int32) p2493 p2494 p2495 a2481 h2501 n0 O3271 fx2638 fx2637 l3270 vx2634 pG_a2487 pN_a2482_a2487 ex2635 pG_a2482 ex2633 fx2636) e2501 ex2635 (g := (mkF m 98 #[iv p2478, iv p2479, iv p2480, rv a2481, rv a2482, iv (2 : Int32), iv (((p2478.toUInt32 >>> ((2 : Int32) &&& 31).toUInt32).toInt32) &&& (1 : Int32)), iv (2 : Int32), iv (0 : Int32), .unset, .unset] [(.int (3 : Int32)), (.ref a2482)])) rfl (by rw [hml]; rfl) (rest := []) (W := 0) (lenOf pd_3 rfl) rfl (by show 2 * 0 + _ ≤ _; exact Nat.le_of_eq rfl) (hb hby at_98) (by decide) (by decide) (by decide) (by decide)
    obtain ⟨h3269, e3269⟩ : ∃ z, T3269.heap = z := ⟨_, rfl⟩
    rw [e3269] at hQ3269
    obtain ⟨rfl, Nq3269, K3269, ex3272, vx3273, ex3274, fx3275, fx3276, fx3277⟩ := hQ3269
    have N3269 := Fr.app N2501 Nq3269
    refine own_via (fun t k => st3269 t (XS.pop X3269.here hx rfl (hb hby at_101) rfl rfl (XS.iinc X3269.here hx rfl (hb hby at_102) rfl (l' := #[iv p2478, iv p2479, iv p2480, rv a2481, rv a2482, iv (2 : Int32), iv (((p2478.toUInt32 >>> ((2 : Int32) &&& 31).toUInt32).toInt32) &&& (1 : Int32)), iv (2 : Int32), iv (1 : Int32), .unset, .unset]) rfl k))) ?_
    show own_Goes p e below (T3269.setTop (mkF m 105 #[iv p2478, iv p2479, iv p2480, rv a2481, rv a2482, iv (2 : Int32), iv (((p2478.toUInt32 >>> ((2 : Int32) &&& 31).toUInt32).toInt32) &&& (1 : Int32)), iv (2 : Int32), iv (1 : Int32), .unset, .unset] [])) _
    have V3480 : Arv Z h3269 a2481 k2486 .byte (4 : Int32) [(.int (123 : Int32)), (.int (91 : Int32)), (.int (49 : Int32)), (.int (110 : Int32))] (.int (0 : Int32)) := ((pV_a2481.keep K2501 (ninS pN_a2481_a2487 (ninS pN_a2481_a2482 nin0))).keep K3269 (ninS pN_a2481_a2487 (ninS pN_a2481_a2482 nin0)))
    have l3481 : own_Len Z h3269 a2487 .int (16 : Int32) := ⟨_, _, _, vx3273⟩
    have O3482 : Old Z n0 h3269 := (O3271.keep K3269 (allS pG_a2487 (allS pG_a2482 all0)))
    exact sfx36 l Z a0 hw ws p2483 p2484 p2485 p2478 p2479 p2480 a2481 a2482 (((p2478.toUInt32 >>> ((2 : Int32) &&& 31).toUInt32).toInt32) &&& (1 : Int32)) a2487 k2496 p2488 p2489 (0 : Int32) (0 : Int32) (3 : Int32) p2494 p2495 k2486 Bd hZ hml X3269 h3269 e3269 n0 O3482 N3269 fx3277 fx3276 vx3273 pG_a2487 ex3272 ex3274 pN_a2482_a2487 fx3275 (own_nn_mask ((p2478.toUInt32 >>> ((2 : Int32) &&& 31).toUInt32).toInt32) (1 : Int32) 1 (by decide) (by decide)) (own_lt_mask ((p2478.toUInt32 >>> ((2 : Int32) &&& 31).toUInt32).toInt32) (1 : Int32) 1 (by decide) (by decide) (by decide)) V3480 pN_a2481_a2487 l3481 pG_a2482 pN_a2481_a2482
set_option maxRecDepth 65536 in
set_option maxHeartbeats 40000000 in
theorem sfx38 (l : Launch) (Z : State) (a0 : Array Value) (hw : ∀ d ∈ tables_1, d.before a0 Z = true) (ws : List Jvm.Cond) {p : Program} {e : Env} {s : State} {m : MethodId} {below : List Frame} {meth : Method} {c : Code} {s₁ : State} (p2415 : Int32) (p2416 : Int32) (p2417 : Int32) (p2410 : Int32) (p2411 : Int32) (p2412 : Int32) (a2413 : Addr) (a2414 : Addr) (a2419 : Addr) (k2428 : ClassId) (p2420 : Int32) (p2421 : Int32) (p2422 : Int32) (p2423 : Int32) (p2424 : Int32) (p2425 : Int32) (p2426 : Int32) (p2427 : Int32) (k2418 : ClassId) (Bd : BodyLoose p l x (head1 (Jvm.Cond.code x code maxLocals ret :: ws) room_1) code maxLocals ret e s m #[(.int p2415), (.int p2416), (.int p2417)] below meth c s₁) (hZ : Z.Warmed39 s.vm) (hml : c.maxLocals = 11) {T0 : State} {locs0 : List Loc} (X0 : Stand p l e room_1 s m #[(.int p2415), (.int p2416), (.int p2417)] below meth c T0 locs0 8 120) (h0 : Heap) (e0 : T0.heap = h0) (n0 : Nat) (O0 : Old Z n0 h0) (N0 : Fr n0 locs0) (pF_a2414_length : Fld Z h0 a2414 zs1 "length" "I" (.int (1 : Int32))) (pF_a2414_first : Fld Z h0 a2414 zs1 "first" "[I" (.ref a2419)) (pL_a2419 : own_Len Z h0 a2419 .int (16 : Int32)) (pV_a2419 : Arv Z h0 a2419 k2428 .int (16 : Int32) [(.int p2420), (.int p2421), (.int p2422), (.int p2423), (.int p2424), (.int p2425), (.int p2426), (.int p2427)] (.int (0 : Int32))) (pG_a2419 : n0 ≤ a2419) (pN_a2414_a2419 : a2414 ≠ a2419) (pE_a2414 : Exa Z h0 a2414 zs1) (pG_a2414 : n0 ≤ a2414) (pE_a2419 : Exa Z h0 a2419 "[I") (pF_a2414_text : Fld Z h0 a2414 zs1 "text" "[B" (.ref a2413)) (pV_a2413 : Arv Z h0 a2413 k2418 .byte (4 : Int32) [(.int (123 : Int32)), (.int (91 : Int32)), (.int (49 : Int32)), (.int (110 : Int32))] (.int (0 : Int32))) (pN_a2413_a2414 : a2413 ≠ a2414) (pN_a2413_a2419 : a2413 ≠ a2419) :
    own_Goes p e below (T0.setTop (mkF m 53 #[iv p2410, iv p2411, iv p2412, rv a2413, rv a2414, iv (1 : Int32), .unset, .unset, .unset, .unset, .unset] [])) (own_G s below n0) := by
  have hx := Bd.exec
  have hby := Bd.bytes
  have hown : s.vm.findClass zs2 = some m.cls := findClass_of_methodNamed Bd.named
  have hnm := (name_of_methodNamed Bd.named Bd.method).1
  show own_Goes p e below (T0.setTop (mkF m 53 #[iv p2410, iv p2411, iv p2412, rv a2413, rv a2414, iv (1 : Int32), .unset, .unset, .unset, .unset, .unset] [])) _
  refine own_via (fun t k => XS.iloadN X0.here hx rfl (hb hby at_53) rfl (XS.iconst X0.here hx rfl (hb hby at_54) (XS.iand X0.here hx rfl (hb hby at_55) rfl k))) ?_
  show own_Goes p e below (T0.setTop (mkF m 56 #[iv p2410, iv p2411, iv p2412, rv a2413, rv a2414, iv (1 : Int32), .unset, .unset, .unset, .unset, .unset] [(.int (p2410 &&& (2 : Int32)))])) _
  by_cases hc2432 : (p2410 &&& (2 : Int32)) = (0 : Int32)
  · refine own_via (fun t k => XS.ifYes X0.here hx rfl (pc0 := 56) (pc' := 69) rfl (hb hby at_56) rfl ((if0 _ _).trans (teq hc2432).1) (by decide) (by decide) k) ?_
    exact sfx24 l Z a0 hw ws p2415 p2416 p2417 p2410 p2411 p2412 a2413 a2414 a2419 k2428 p2420 p2421 p2422 p2423 p2424 p2425 p2426 p2427 k2418 Bd hZ hml X0 h0 e0 n0 O0 N0 pF_a2414_length pF_a2414_first pL_a2419 pV_a2419 pG_a2419 pN_a2414_a2419 pE_a2414 pG_a2414 pE_a2419 pF_a2414_text pV_a2413 pN_a2413_a2414 pN_a2413_a2419
  · refine own_via (fun t k => XS.ifNo X0.here hx rfl (hb hby at_56) rfl ((if0 _ _).trans (feq hc2432).1) (XS.aload X0.here hx rfl (hb hby at_59) rfl rfl (XS.iconst X0.here hx rfl (hb hby at_61) k))) ?_
    show own_Goes p e below (T0.setTop (mkF m 62 #[iv p2410, iv p2411, iv p2412, rv a2413, rv a2414, iv (1 : Int32), .unset, .unset, .unset, .unset, .unset] [(.int (2 : Int32)), (.ref a2414)])) _
    obtain ⟨_, T2433, _, X2433, hQ2433, st2433⟩ := own_cv X0 hx hZ hown (wd hw 74 rfl) (wd hw 34 rfl) (wd hw 36 rfl) (wd hw 35 rfl) (wd hw 37 rfl) (wd hw 3 rfl) (by decide) (rm35 l Z a0 hw [] a2414 a2419 k2428 p2420 p2421 p2422 p2423 p2424 p2425 p2426 p2427 a2413 h0 n0 O0 pF_a2414_length pF_a2414_first pL_a2419 pV_a2419 pG_a2419 pN_a2414_a2419 pE_a2414 pG_a2414 pE_a2419 pF_a2414_text) e0 pE_a2414 (g := (mkF m 62 #[iv p2410, iv p2411, iv p2412, rv a2413, rv a2414, iv (1 : Int32), .unset, .unset, .unset, .unset, .unset] [(.int (2 : Int32)), (.ref a2414)])) rfl (by rw [hml]; rfl) (rest := []) (W := 0) (lenOf pd_3 rfl) rfl (by show 2 * 0 + _ ≤ _; exact Nat.le_of_eq rfl) (hb hby at_62) (by decide) (by decide) (by decide) (by decide)
    obtain ⟨h2433, e2433⟩ : ∃ z, T2433.heap = z := ⟨_, rfl⟩
    rw [e2433] at hQ2433
    obtain ⟨rfl, Nq2433, K2433, ex2472, vx2473, ex2474, fx2475, fx2476, fx2477⟩ := hQ2433
    have N2433 := Fr.app N0 Nq2433
    refine own_via (fun t k => st2433 t (XS.pop X2433.here hx rfl (hb hby at_65) rfl rfl (XS.iinc X2433.here hx rfl (hb hby at_66) rfl (l' := #[iv p2410, iv p2411, iv p2412, rv a2413, rv a2414, iv (2 : Int32), .unset, .unset, .unset, .unset, .unset]) rfl k))) ?_
    show own_Goes p e below (T2433.setTop (mkF m 69 #[iv p2410, iv p2411, iv p2412, rv a2413, rv a2414, iv (2 : Int32), .unset, .unset, .unset, .unset, .unset] [])) _
    have l3483 : own_Len Z h2433 a2419 .int (16 : Int32) := ⟨_, _, _, vx2473⟩
    have V3484 : Arv Z h2433 a2413 k2418 .byte (4 : Int32) [(.int (123 : Int32)), (.int (91 : Int32)), (.int (49 : Int32)), (.int (110 : Int32))] (.int (0 : Int32)) := (pV_a2413.keep K2433 (ninS pN_a2413_a2419 (ninS pN_a2413_a2414 nin0)))
    have O3485 : Old Z n0 h2433 := (O0.keep K2433 (allS pG_a2419 (allS pG_a2414 all0)))
    exact sfx37 l Z a0 hw ws p2415 p2416 p2417 p2410 p2411 p2412 a2413 a2414 a2419 k2428 p2420 (2 : Int32) p2422 p2423 p2424 p2425 p2426 p2427 k2418 Bd hZ hml X2433 h2433 e2433 n0 O3485 N2433 fx2477 fx2476 l3483 vx2473 pG_a2419 pN_a2414_a2419 ex2474 pG_a2414 ex2472 fx2475 V3484 pN_a2413_a2414 pN_a2413_a2419
theorem ef_12 (m : MethodId) (x0 : Int32) (x1 : Int32) (x2 : Int32) : entryFrame m #[(.int x0), (.int x1), (.int x2)] maxLocals = mkF m 0 #[iv x0, iv x1, iv x2, .unset, .unset, .unset, .unset, .unset, .unset, .unset, .unset] [] := by first | (simp [entryFrame, mkF, argsToLocals, Value.category, maxLocals]; done) | rfl
theorem pn_2 : plainName "com/example/kempt_envelope/kemptenvelope/JsonTapeClosePinLaw" = true := by first | (simp [plainName, overriddenIn]; done) | decide +kernel
set_option maxRecDepth 65536 in
set_option maxHeartbeats 40000000 in
theorem rm0 (l : Launch) (Z : State) (a0 : Array Value) (hw : ∀ d ∈ tables_1, d.before a0 Z = true) (ws : List Jvm.Cond) (i0 : Int32) (i1 : Int32) (i2 : Int32) (h0 : Heap) (n0 : Nat) (O0 : Old Z n0 h0) :
    MetFree l x (head1 (Jvm.Cond.code x code maxLocals ret :: ws) room_1) (fun a U => a = #[(.int i0), (.int i1), (.int i2)] ∧ Z.Warmed39 U.vm ∧ U.heap = h0) (fun _ _ _ _ _ => True) (fun _ U o U' => ∃ v L, o = .returned v ∧ own_Q0 n0 v L ∧ FrameEnd U o U' L room_1.cells room_1.slots) := by
  refine MetFree.of_bodySF (plainFor_of_name pn_2) hisR ?_
  intro p e s m args below meth c s₁ Bd hml0 hP hK
  obtain ⟨rfl, hZ, hh⟩ := hP
  have hx := Bd.exec
  have hby := Bd.bytes
  have hml : c.maxLocals = 11 := hml0
  have hown : s.vm.findClass zs2 = some m.cls := findClass_of_methodNamed Bd.named
  have hnm := (name_of_methodNamed Bd.named Bd.method).1
  have X0 : Stand p l e room_1 s m #[(.int i0), (.int i1), (.int i2)] below meth c s₁ [] 0 0 := Stand.of_body Bd
  have e0 : s₁.heap = h0 := by rw [← hh, Bd.state]; rfl
  have N0 := Fr.nil n0
  refine own_out ?_
  show own_Goes p e below _ (own_G s below n0)
  refine own_via (fun t k => castTop (ef_12 m i0 i1 i2) (XS.iconst X0.here hx rfl (hb hby at_0) k)) ?_
  obtain ⟨T1, h1, k1, X1, e1, E1, A1, a1x, st1⟩ := newPE X0 hx hZ (wd hw 0 rfl) e0 (g := (mkF m 1 #[iv i0, iv i1, iv i2, .unset, .unset, .unset, .unset, .unset, .unset, .unset, .unset] [(.int (4 : Int32))])) rfl (hb hby at_1) rfl (by decide) (cap := 4) (by decide) (by decide) (by decide) (by decide) (ad := "[B") (by decide)
  obtain ⟨b2, q1⟩ : ∃ z, z = h0.size := ⟨_, rfl⟩
  rw [← q1] at A1 st1 a1x
  refine own_via (fun t k => st1 t k) ?_
  have g3 : n0 ≤ b2 := Nat.le_trans (own_old O0) (Nat.le_of_eq q1.symm)
  have B4 : h0.size ≤ b2 := Nat.le_trans (Nat.le_refl _) (Nat.le_of_eq q1.symm)
  have V5 : Arv Z h1 b2 k1 .byte (4 : Int32) [] (.int (0 : Int32)) := Arv.new A1 (by decide)
  show own_Goes p e below (T1.setTop (mkF m 3 #[iv i0, iv i1, iv i2, .unset, .unset, .unset, .unset, .unset, .unset, .unset, .unset] [(.ref b2)])) _
  refine own_via (fun t k => XS.dup X1.here hx rfl (hb hby at_3) rfl rfl (XS.iconst X1.here hx rfl (hb hby at_4) (XS.bipush X1.here hx rfl (hb hby at_5) k))) ?_
  show own_Goes p e below (T1.setTop (mkF m 7 #[iv i0, iv i1, iv i2, .unset, .unset, .unset, .unset, .unset, .unset, .unset, .unset] [(.int (123 : Int32)), (.int (0 : Int32)), (.ref b2), (.ref b2)])) _
  have V6 : Arv Z h1 b2 k1 .byte (4 : Int32) [(.int (0 : Int32))] (.int (0 : Int32)) := V5.pad (pad_rep [] (.int (0 : Int32)) 1)
  obtain ⟨cl7, Ar7, qq7, S7, M7, H7, G7⟩ := id (V6)
  have hin7 : ¬ ((0 : Int32) < 0 ∨ cl7.slots.size ≤ ((0 : Int32)).toNatClampNeg) := inb_of S7 ⟨by decide, by decide⟩
  obtain ⟨T7, h7, X7, e7, W7, st7⟩ := stB X1 hx hZ e1 Ar7 (j := (0 : Int32)) hin7 (g := (mkF m 7 #[iv i0, iv i1, iv i2, .unset, .unset, .unset, .unset, .unset, .unset, .unset, .unset] [(.int (123 : Int32)), (.int (0 : Int32)), (.ref b2), (.ref b2)])) rfl rfl (hb hby at_7)
  refine own_via (fun t k => st7 t k) ?_
  have V8 : Arv Z h7 b2 k1 .byte (4 : Int32) [(.int (123 : Int32))] (.int (0 : Int32)) := Arv.set Ar7 qq7 S7 M7 H7 G7 (by decide) W7 0 rfl (Nat.le_of_ble_eq_true rfl)
  have N7 := Fr.snoc X7 N0 g3
  show own_Goes p e below (T7.setTop (mkF m 8 #[iv i0, iv i1, iv i2, .unset, .unset, .unset, .unset, .unset, .unset, .unset, .unset] [(.ref b2)])) _
  refine own_via (fun t k => XS.dup X7.here hx rfl (hb hby at_8) rfl rfl (XS.iconst X7.here hx rfl (hb hby at_9) (XS.bipush X7.here hx rfl (hb hby at_10) k))) ?_
  show own_Goes p e below (T7.setTop (mkF m 12 #[iv i0, iv i1, iv i2, .unset, .unset, .unset, .unset, .unset, .unset, .unset, .unset] [(.int (91 : Int32)), (.int (1 : Int32)), (.ref b2), (.ref b2)])) _
  have V9 : Arv Z h7 b2 k1 .byte (4 : Int32) [(.int (123 : Int32)), (.int (0 : Int32))] (.int (0 : Int32)) := V8.pad (pad_rep [(.int (123 : Int32))] (.int (0 : Int32)) 1)
  obtain ⟨cl10, Ar10, qq10, S10, M10, H10, G10⟩ := id (V9)
  have hin10 : ¬ ((1 : Int32) < 0 ∨ cl10.slots.size ≤ ((1 : Int32)).toNatClampNeg) := inb_of S10 ⟨by decide, by decide⟩
  obtain ⟨T10, h10, X10, e10, W10, st10⟩ := stB X7 hx hZ e7 Ar10 (j := (1 : Int32)) hin10 (g := (mkF m 12 #[iv i0, iv i1, iv i2, .unset, .unset, .unset, .unset, .unset, .unset, .unset, .unset] [(.int (91 : Int32)), (.int (1 : Int32)), (.ref b2), (.ref b2)])) rfl rfl (hb hby at_12)
  refine own_via (fun t k => st10 t k) ?_
  have V11 : Arv Z h10 b2 k1 .byte (4 : Int32) [(.int (123 : Int32)), (.int (91 : Int32))] (.int (0 : Int32)) := Arv.set Ar10 qq10 S10 M10 H10 G10 (by decide) W10 1 rfl (Nat.le_of_ble_eq_true rfl)
  have N10 := Fr.snoc X10 N7 g3
  show own_Goes p e below (T10.setTop (mkF m 13 #[iv i0, iv i1, iv i2, .unset, .unset, .unset, .unset, .unset, .unset, .unset, .unset] [(.ref b2)])) _
  refine own_via (fun t k => XS.dup X10.here hx rfl (hb hby at_13) rfl rfl (XS.iconst X10.here hx rfl (hb hby at_14) (XS.bipush X10.here hx rfl (hb hby at_15) k))) ?_
  show own_Goes p e below (T10.setTop (mkF m 17 #[iv i0, iv i1, iv i2, .unset, .unset, .unset, .unset, .unset, .unset, .unset, .unset] [(.int (49 : Int32)), (.int (2 : Int32)), (.ref b2), (.ref b2)])) _
  have V12 : Arv Z h10 b2 k1 .byte (4 : Int32) [(.int (123 : Int32)), (.int (91 : Int32)), (.int (0 : Int32))] (.int (0 : Int32)) := V11.pad (pad_rep [(.int (123 : Int32)), (.int (91 : Int32))] (.int (0 : Int32)) 1)
  obtain ⟨cl13, Ar13, qq13, S13, M13, H13, G13⟩ := id (V12)
  have hin13 : ¬ ((2 : Int32) < 0 ∨ cl13.slots.size ≤ ((2 : Int32)).toNatClampNeg) := inb_of S13 ⟨by decide, by decide⟩
  obtain ⟨T13, h13, X13, e13, W13, st13⟩ := stB X10 hx hZ e10 Ar13 (j := (2 : Int32)) hin13 (g := (mkF m 17 #[iv i0, iv i1, iv i2, .unset, .unset, .unset, .unset, .unset, .unset, .unset, .unset] [(.int (49 : Int32)), (.int (2 : Int32)), (.ref b2), (.ref b2)])) rfl rfl (hb hby at_17)
  refine own_via (fun t k => st13 t k) ?_
  have V14 : Arv Z h13 b2 k1 .byte (4 : Int32) [(.int (123 : Int32)), (.int (91 : Int32)), (.int (49 : Int32))] (.int (0 : Int32)) := Arv.set Ar13 qq13 S13 M13 H13 G13 (by decide) W13 2 rfl (Nat.le_of_ble_eq_true rfl)
  have N13 := Fr.snoc X13 N10 g3
  show own_Goes p e below (T13.setTop (mkF m 18 #[iv i0, iv i1, iv i2, .unset, .unset, .unset, .unset, .unset, .unset, .unset, .unset] [(.ref b2)])) _
  refine own_via (fun t k => XS.dup X13.here hx rfl (hb hby at_18) rfl rfl (XS.iconst X13.here hx rfl (hb hby at_19) (XS.bipush X13.here hx rfl (hb hby at_20) k))) ?_
  show own_Goes p e below (T13.setTop (mkF m 22 #[iv i0, iv i1, iv i2, .unset, .unset, .unset, .unset, .unset, .unset, .unset, .unset] [(.int (110 : Int32)), (.int (3 : Int32)), (.ref b2), (.ref b2)])) _
  have V15 : Arv Z h13 b2 k1 .byte (4 : Int32) [(.int (123 : Int32)), (.int (91 : Int32)), (.int (49 : Int32)), (.int (0 : Int32))] (.int (0 : Int32)) := V14.pad (pad_rep [(.int (123 : Int32)), (.int (91 : Int32)), (.int (49 : Int32))] (.int (0 : Int32)) 1)
  obtain ⟨cl16, Ar16, qq16, S16, M16, H16, G16⟩ := id (V15)
  have hin16 : ¬ ((3 : Int32) < 0 ∨ cl16.slots.size ≤ ((3 : Int32)).toNatClampNeg) := inb_of S16 ⟨by decide, by decide⟩
  obtain ⟨T16, h16, X16, e16, W16, st16⟩ := stB X13 hx hZ e13 Ar16 (j := (3 : Int32)) hin16 (g := (mkF m 22 #[iv i0, iv i1, iv i2, .unset, .unset, .unset, .unset, .unset, .unset, .unset, .unset] [(.int (110 : Int32)), (.int (3 : Int32)), (.ref b2), (.ref b2)])) rfl rfl (hb hby at_22)
  refine own_via (fun t k => st16 t k) ?_
  have V17 : Arv Z h16 b2 k1 .byte (4 : Int32) [(.int (123 : Int32)), (.int (91 : Int32)), (.int (49 : Int32)), (.int (110 : Int32))] (.int (0 : Int32)) := Arv.set Ar16 qq16 S16 M16 H16 G16 (by decide) W16 3 rfl (Nat.le_of_ble_eq_true rfl)
  have N16 := Fr.snoc X16 N13 g3
  show own_Goes p e below (T16.setTop (mkF m 23 #[iv i0, iv i1, iv i2, .unset, .unset, .unset, .unset, .unset, .unset, .unset, .unset] [(.ref b2)])) _
  refine own_via (fun t k => XS.astoreN X16.here hx rfl (hb hby at_23) rfl rfl (l' := #[iv i0, iv i1, iv i2, rv b2, .unset, .unset, .unset, .unset, .unset, .unset, .unset]) rfl k) ?_
  obtain ⟨T18, h18, X18, e18, E18, A18, D18, -, st18⟩ := newO X16 hx hZ hown (wd hw 1 rfl) (wd hw 2 rfl) (wd hw 3 rfl) e16 (g := (mkF m 24 #[iv i0, iv i1, iv i2, rv b2, .unset, .unset, .unset, .unset, .unset, .unset, .unset] [])) rfl (hb hby at_24) (by decide) (by decide)
  obtain ⟨b19, q18⟩ : ∃ z, z = h16.size := ⟨_, rfl⟩
  rw [← q18] at A18 D18 st18
  refine own_via (fun t k => st18 t k) ?_
  have E21 : Exa Z h16 b2 "[B" := ((((a1x.wr W7).wr W10).wr W13).wr W16)
  have N20 : b2 ≠ b19 := Nat.ne_of_lt (Nat.lt_of_lt_of_le E21.lt (Nat.le_of_eq q18.symm))
  have O23 : Old Z n0 h16 := (((((O0.ext E1).wr W7 g3).wr W10 g3).wr W13 g3).wr W16 g3)
  have g22 : n0 ≤ b19 := Nat.le_trans (own_old O23) (Nat.le_of_eq q18.symm)
  have Z25 : h0.size ≤ h16.size := (Nat.le_trans (Nat.le_trans (Nat.le_trans (Nat.le_trans (Nat.le_trans (Nat.le_refl _) E1.1) (Nat.le_of_eq W7.size.symm)) (Nat.le_of_eq W10.size.symm)) (Nat.le_of_eq W13.size.symm)) (Nat.le_of_eq W16.size.symm))
  have B24 : h0.size ≤ b19 := Nat.le_trans Z25 (Nat.le_of_eq q18.symm)
  have F26 : Fld Z h18 b19 zs1 "kept" zs4 .null := D18 (Or.inr (wd hw 13 rfl)) (ty := (.array (.object zs3))) (by decide)
  have F27 : Fld Z h18 b19 zs1 "chunks" "[[I" .null := D18 (Or.inl (wd hw 17 rfl)) (ty := (.array (.array .int))) (by decide)
  have F28 : Fld Z h18 b19 zs1 "text" "[B" .null := D18 (Or.inr (wd hw 19 rfl)) (ty := (.array .byte)) (by decide)
  have F29 : Fld Z h18 b19 zs1 "first" "[I" .null := D18 (Or.inl (wd hw 26 rfl)) (ty := (.array .int)) (by decide)
  have F30 : Fld Z h18 b19 zs1 "length" "I" (.int (0 : Int32)) := D18 (Or.inl (wd hw 39 rfl)) (ty := .int) (by decide)
  show own_Goes p e below (T18.setTop (mkF m 27 #[iv i0, iv i1, iv i2, rv b2, .unset, .unset, .unset, .unset, .unset, .unset, .unset] [(.ref b19)])) _
  refine own_via (fun t k => XS.dup X18.here hx rfl (hb hby at_27) rfl rfl (XS.aloadN X18.here hx rfl (hb hby at_28) rfl rfl k)) ?_
  have V108 : Arv Z h18 b2 k1 .byte (4 : Int32) [(.int (123 : Int32)), (.int (91 : Int32)), (.int (49 : Int32)), (.int (110 : Int32))] (.int (0 : Int32)) := (V17.ext E18)
  have l109 : own_Len Z h18 b2 .byte (4 : Int32) := ⟨_, _, _, V108⟩
  have O110 : Old Z n0 h18 := (O23.ext E18)
  obtain ⟨_, T31, _, X31, hQ31, st31⟩ := own_ci X18 hx hZ hown (wd hw 4 rfl) (wd hw 5 rfl) (wd hw 6 rfl) (wd hw 3 rfl) rfl (by decide) (rm2 l Z a0 hw [] b19 b2 (0 : Int32) h18 n0 O110 F26 A18 g22 F27 F28 l109 N20 F29 F30) e18 (g := (mkF m 29 #[iv i0, iv i1, iv i2, rv b2, .unset, .unset, .unset, .unset, .unset, .unset, .unset] [(.ref b2), (.ref b19), (.ref b19)])) rfl (by rw [hml]; rfl) (rest := [(.ref b19)]) (W := 1) (lenOf pd_2 rfl) rfl (by show 2 * 0 + _ ≤ _; exact Nat.le_of_eq rfl) (hb hby at_29) (by decide) (by decide) (by decide) (by decide)
  obtain ⟨h31, e31⟩ : ∃ z, T31.heap = z := ⟨_, rfl⟩
  rw [e31] at hQ31
  obtain ⟨b111, k112, rfl, Nq31, K31, ex113, fx114, fx115, fx116, bx117, vx118, ex119⟩ := hQ31
  have N31 := Fr.app N16 Nq31
  have E121 : Exa Z h18 b2 "[B" := (E21.ext E18)
  have N120 : b2 ≠ b111 := Nat.ne_of_lt (Nat.lt_of_lt_of_le E121.lt bx117)
  have N122 : b19 ≠ b111 := Nat.ne_of_lt (Nat.lt_of_lt_of_le A18.lt bx117)
  have g123 : n0 ≤ b111 := Nat.le_trans (own_old O110) bx117
  have Z125 : h0.size ≤ h18.size := (Nat.le_trans Z25 E18.1)
  have B124 : h0.size ≤ b111 := Nat.le_trans Z125 bx117
  refine own_via (fun t k => st31 t (XS.astore X31.here hx rfl (hb hby at_32) rfl rfl (l' := #[iv i0, iv i1, iv i2, rv b2, rv b19, .unset, .unset, .unset, .unset, .unset, .unset]) rfl (XS.iconst X31.here hx rfl (hb hby at_34) (XS.istore X31.here hx rfl (hb hby at_35) rfl (l' := #[iv i0, iv i1, iv i2, rv b2, rv b19, iv (0 : Int32), .unset, .unset, .unset, .unset, .unset]) rfl (XS.iloadN X31.here hx rfl (hb hby at_37) rfl (XS.iconst X31.here hx rfl (hb hby at_38) (XS.iand X31.here hx rfl (hb hby at_39) rfl k))))))) ?_
  show own_Goes p e below (T31.setTop (mkF m 40 #[iv i0, iv i1, iv i2, rv b2, rv b19, iv (0 : Int32), .unset, .unset, .unset, .unset, .unset] [(.int (i0 &&& (1 : Int32)))])) _
  by_cases hc126 : (i0 &&& (1 : Int32)) = (0 : Int32)
  · refine own_via (fun t k => XS.ifYes X31.here hx rfl (pc0 := 40) (pc' := 53) rfl (hb hby at_40) rfl ((if0 _ _).trans (teq hc126).1) (by decide) (by decide) k) ?_
    have l2398 : own_Len Z h31 b111 .int (16 : Int32) := ⟨_, _, _, vx118⟩
    have V2399 : Arv Z h31 b2 k1 .byte (4 : Int32) [(.int (123 : Int32)), (.int (91 : Int32)), (.int (49 : Int32)), (.int (110 : Int32))] (.int (0 : Int32)) := (V108.keep K31 (ninS N20 nin0))
    have O2400 : Old Z n0 h31 := (O110.keep K31 (allS g22 all0))
    exact sfx25 l Z a0 hw ws i0 i1 i2 i0 i1 i2 b2 b19 b111 k112 (0 : Int32) (0 : Int32) (0 : Int32) (0 : Int32) (0 : Int32) (0 : Int32) (0 : Int32) (0 : Int32) k1 Bd hZ hml (X31.more (by decide) (by decide)) h31 e31 n0 O2400 N31 fx116 fx115 l2398 vx118 g123 N122 ex113 g22 ex119 fx114 V2399 N20 N120
  · refine own_via (fun t k => XS.ifNo X31.here hx rfl (hb hby at_40) rfl ((if0 _ _).trans (feq hc126).1) (XS.aload X31.here hx rfl (hb hby at_43) rfl rfl (XS.iconst X31.here hx rfl (hb hby at_45) k))) ?_
    show own_Goes p e below (T31.setTop (mkF m 46 #[iv i0, iv i1, iv i2, rv b2, rv b19, iv (0 : Int32), .unset, .unset, .unset, .unset, .unset] [(.int (2 : Int32)), (.ref b19)])) _
    have l2402 : own_Len Z h31 b111 .int (16 : Int32) := ⟨_, _, _, vx118⟩
    have O2403 : Old Z n0 h31 := (O110.keep K31 (allS g22 all0))
    obtain ⟨_, T2401, _, X2401, hQ2401, st2401⟩ := own_cv X31 hx hZ hown (wd hw 74 rfl) (wd hw 34 rfl) (wd hw 36 rfl) (wd hw 35 rfl) (wd hw 37 rfl) (wd hw 3 rfl) (by decide) (rm21 l Z a0 hw [] b19 b111 k112 (0 : Int32) (0 : Int32) (0 : Int32) (0 : Int32) (0 : Int32) (0 : Int32) (0 : Int32) (0 : Int32) b2 h31 n0 O2403 fx116 fx115 l2402 vx118 g123 N122 ex113 g22 ex119 fx114) e31 ex113 (g := (mkF m 46 #[iv i0, iv i1, iv i2, rv b2, rv b19, iv (0 : Int32), .unset, .unset, .unset, .unset, .unset] [(.int (2 : Int32)), (.ref b19)])) rfl (by rw [hml]; rfl) (rest := []) (W := 0) (lenOf pd_3 rfl) rfl (by show 2 * 0 + _ ≤ _; exact Nat.le_of_eq rfl) (hb hby at_46) (by decide) (by decide) (by decide) (by decide)
    obtain ⟨h2401, e2401⟩ : ∃ z, T2401.heap = z := ⟨_, rfl⟩
    rw [e2401] at hQ2401
    obtain ⟨rfl, Nq2401, K2401, vx2404, ex2405, ex2406, fx2407, fx2408, fx2409⟩ := hQ2401
    have N2401 := Fr.app N31 Nq2401
    refine own_via (fun t k => st2401 t (XS.pop X2401.here hx rfl (hb hby at_49) rfl rfl (XS.iinc X2401.here hx rfl (hb hby at_50) rfl (l' := #[iv i0, iv i1, iv i2, rv b2, rv b19, iv (1 : Int32), .unset, .unset, .unset, .unset, .unset]) rfl k))) ?_
    show own_Goes p e below (T2401.setTop (mkF m 53 #[iv i0, iv i1, iv i2, rv b2, rv b19, iv (1 : Int32), .unset, .unset, .unset, .unset, .unset] [])) _
    have l3486 : own_Len Z h2401 b111 .int (16 : Int32) := ⟨_, _, _, vx2404⟩
    have V3487 : Arv Z h2401 b2 k1 .byte (4 : Int32) [(.int (123 : Int32)), (.int (91 : Int32)), (.int (49 : Int32)), (.int (110 : Int32))] (.int (0 : Int32)) := ((V108.keep K31 (ninS N20 nin0)).keep K2401 (ninS N120 (ninS N20 nin0)))
    have O3488 : Old Z n0 h2401 := (O2403.keep K2401 (allS g123 (allS g22 all0)))
    exact sfx38 l Z a0 hw ws i0 i1 i2 i0 i1 i2 b2 b19 b111 k112 (2 : Int32) (0 : Int32) (0 : Int32) (0 : Int32) (0 : Int32) (0 : Int32) (0 : Int32) (0 : Int32) k1 Bd hZ hml (X2401.more (by decide) (by decide)) h2401 e2401 n0 O3488 N2401 fx2409 fx2408 l3486 vx2404 g123 N122 ex2406 g22 ex2405 fx2407 V3487 N20 N120
set_option maxRecDepth 65536 in
set_option maxHeartbeats 40000000 in
theorem comes_1 {Post : Tables → Env → Array Value → State → Outcome → State → Prop} (hpost : ∀ tb e args s v u, (limb_1_1.after args s (.returned v) u = true ∧ limb_1_2.after args s (.returned v) u = true ∧ True) → FrameEnd s (.returned v) u (Jvm.fieldLocs frame_1_writes args s ++ Jvm.arrayLocs frame_1_arrays args s ++ Jvm.staticLocs frame_1_statics s) 24 256 → Post tb e args s (.returned v) u) :
    ArmFor flags0 classFile x code maxLocals ret World_1 tables_1 room_1 Calls_1 rest_1 Pre_1 Post := by
  intro l hfl _ _ p e ha hc hk s m args below hf hA hF happ hP
  obtain ⟨hcalls, hrest, hpre⟩ := hP
  obtain ⟨-, -, -, hnamed, -, -, -, hat⟩ := (Spec.applies_iff hf).mp happ
  obtain ⟨hg, hn⟩ := and_e (Cond.before_iff.mp (show (Jvm.Cond.and given_1 narrow_1).before args s = true from hpre))
  obtain ⟨g3489, g3490⟩ := and_e hg
  obtain ⟨g3491, g3492⟩ := and_e g3490
  obtain ⟨g3493, g3494⟩ := and_e g3492
  obtain ⟨w0, w1, w2, rfl⟩ : ∃ w0 w1 w2 : Value, args = #[w0, w1, w2] := by
    have hs : args.size = 3 := by simpa [Cond.value, given_1] using g3489
    obtain ⟨L⟩ := args
    match L, hs with
    | [w0, w1, w2], _ => exact ⟨w0, w1, w2, rfl⟩
  have hw := fun d (hd : d ∈ tables_1) => atoms_spec (ws := Jvm.Cond.code x code maxLocals ret :: tables_1) hat d (List.mem_cons_of_mem _ hd)
  have hfit : Fit s := fun {y c} hc i hi => by
    obtain ⟨ha, rfl⟩ := Array.getElem?_eq_some_iff.mp hc
    have q := List.all_eq_true.mp ((Array.all_eq_true_iff_forall_mem.mp hF) _ (Array.getElem_mem ha)) i (List.mem_range.mpr hi)
    simpa [Array.getElem?_eq_getElem hi] using q
  obtain ⟨i0, ei0⟩ := is_v g3491
  obtain rfl : w0 = (.int i0) := Option.some.inj ei0
  obtain ⟨i1, ei1⟩ := is_v g3493
  obtain rfl : w1 = (.int i1) := Option.some.inj ei1
  obtain ⟨i2, ei2⟩ := is_v g3494
  obtain rfl : w2 = (.int i2) := Option.some.inj ei2
  obtain ⟨n, o, h1, h2, h3, _, L, rfl, ⟨rfl, N⟩, hq⟩ := rm0 l s _ hw tables_1 i0 i1 i2 s.heap s.heap.size (Old.start s)  p e ha hc hk s m _ below hf ((Spec.applies_iff_loose hf).mp happ).1 ⟨rfl, State.Warmed39.refl s, rfl⟩ trivial
  refine ⟨n, _, h1, h2, h3, hpost _ _ _ _ _ _ ⟨Cond.after_iff.mpr rfl, Cond.after_iff.mpr (eq_i res_at (Term.int_eval (1)) rfl), trivial⟩ ⟨hq.1, hq.2.1, (hq.2.2.sift fun y hy => Or.inr (N y hy)).mono (by decide) (by decide)⟩⟩
theorem main_1_1 : Claimed_1_1 := comes_1 fun _ _ _ _ _ _ h hF => ⟨h.1, hF⟩
theorem main_1_2 : Claimed_1_2 := comes_1 fun _ _ _ _ _ _ h hF => ⟨h.2.1, hF⟩
end Jvm.Pilot.@@N@@
namespace Jvm.Pilot.@@N@@
open Jvm Jvm.ClassFile Sem Op Lib Jvm.Free Jvm.Stand Jvm.Pilot.@@N@@.Jvm.D
/-! MADE BY PROGRAM (witnessworld.py) out of the Statement's table words and the real class files: 12 classes; the members and pool entries that the words name. The judged class is class 1, her method 1. -/
namespace start1
open Jvm.ClassFile
def u (s : String) : CpInfo := .utf8 (stringToUtf16 s)
/-- a pool by its gaps: so many unusable entries, then the entry; so many at the end -/
def gap : Nat → List CpInfo → List CpInfo
  | 0, r => r
  | n + 1, r => .unusable :: gap n r
def poolList (es : List (Nat × CpInfo)) (last : Nat) : List CpInfo := es.foldr (fun e r => gap e.1 (e.2 :: r)) (gap last [])
def pool (es : List (Nat × CpInfo)) (last : Nat) : Array CpInfo := ⟨poolList es last⟩
def fileOf (pool : Array CpInfo) (this : Nat) (attrs : Array Attribute := #[]) (ms : Array MethodInfo := #[]) (fl : Nat := 33) (sup : Nat := 0) (ifs : Array Nat := #[]) (fds : Array FieldInfo := #[]) : ClassFile where
  minorVersion := 0
  majorVersion := 65
  constantPool := pool
  accessFlags := fl
  thisClass := this
  superClass := sup
  interfaces := ifs
  fields := fds
  methods := ms
  attributes := attrs
def plain (name : String) (sup : Option ClassId) : Class where
  name := name
  kind := .ordinary
  loader := none
  accessFlags := 33
  super := sup
  interfaces := #[]
  cf := none
  fields := #[]
  methods := #[]
  instanceTypes := #[]
  staticTypes := #[]
  resolved := #[]
  callSites := []
  init := .initialized
  statics := none
  mirror := none

def pool0 : Array CpInfo := pool [(5, u "<init>"), (0, u "()V"), (1, .class_ 10), (1, u "java/lang/Object")] 113

def k0c0 : Code := { maxStack := 0, maxLocals := 1, code := object_method_1_code, exceptionTable := #[], attributes := #[] }
def k0m0 : Method := { name := "<init>", desc := "()V", sig := { parameters := [], returnType := none }, accessFlags := 1, code := some k0c0 }
/-- java/lang/Object -/
def k0 : Class := { plain "java/lang/Object" none with
  accessFlags := 33
  interfaces := #[]
  cf := some (fileOf pool0 8 #[] #[{ accessFlags := 1, nameIndex := 5, descriptorIndex := 6, attributes := #[] }] 33 0 #[] #[])
  fields := #[]
  methods := #[k0m0]
  instanceTypes := #[]
  staticTypes := #[]
  resolved := Array.replicate 124 none
  statics := none }

def pool1 : Array CpInfo := pool [(2, .class_ 4), (1, u "java/lang/Object"), (0, u "<init>"), (0, u "()V"), (0, .class_ 8), (0, u "com/example/kempt_envelope/kemptenvelope/JsonTape"), (0, .methodref 7 10), (0, .nameAndType 5 11), (0, u "([B)V"), (0, .methodref 7 13), (0, .nameAndType 14 15), (0, u "add"), (0, u "(I)I"), (0, .methodref 7 17), (0, .nameAndType 18 15), (0, u "open"), (0, .integer 2147483647), (0, .methodref 7 21), (0, .nameAndType 22 23), (0, u "close"), (0, u "(IIZ)V"), (0, .methodref 7 25), (0, .nameAndType 26 15), (0, u "offset"), (0, .methodref 7 28), (0, .nameAndType 29 15), (0, u "next"), (0, .methodref 7 31), (0, .nameAndType 32 15), (0, u "count"), (0, .methodref 7 34), (0, .nameAndType 35 36), (0, u "repeats"), (0, u "(I)Z"), (0, .class_ 38), (0, u "com/example/kempt_envelope/kemptenvelope/JsonTapeClosePinLaw"), (2, u "law"), (0, u "(III)Z")] 5

def k1m0 : Method := { name := "<init>", desc := "()V", sig := { parameters := [], returnType := none }, accessFlags := 1, code := none }
def k1c1 : Code := { maxStack := 4, maxLocals := 11, code := code, exceptionTable := #[], attributes := #[] }
def k1m1 : Method := { name := "law", desc := "(III)Z", sig := { parameters := [.int, .int, .int], returnType := some .boolean }, accessFlags := 9, code := some k1c1 }
/-- com/example/kempt_envelope/kemptenvelope/JsonTapeClosePinLaw -/
def k1 : Class := { plain "com/example/kempt_envelope/kemptenvelope/JsonTapeClosePinLaw" (some 0) with
  accessFlags := 49
  interfaces := #[]
  cf := some (fileOf pool1 37 #[] #[{ accessFlags := 1, nameIndex := 5, descriptorIndex := 6, attributes := #[] }, { accessFlags := 9, nameIndex := 41, descriptorIndex := 42, attributes := #[] }] 49 2 #[] #[])
  fields := #[]
  methods := #[k1m0, k1m1]
  instanceTypes := #[]
  staticTypes := #[]
  resolved := Array.replicate 48 none
  statics := none }

def pool2 : Array CpInfo := pool [(1, .class_ 2), (0, u "com/example/kempt_envelope/kemptenvelope/JsonTape"), (0, .methodref 4 5), (0, .class_ 6), (0, .nameAndType 7 8), (0, u "java/lang/Object"), (0, u "<init>"), (0, u "()V"), (0, .class_ 10), (0, u "com/example/kempt_envelope/kemptenvelope/JsonTape$Decoded"), (0, .fieldref 1 12), (0, .nameAndType 13 14), (0, u "kept"), (0, u "[Lcom/example/kempt_envelope/kemptenvelope/JsonTape$Decoded;"), (0, .class_ 16), (0, u "[I"), (0, .fieldref 1 18), (0, .nameAndType 19 20), (0, u "chunks"), (0, u "[[I"), (0, .fieldref 1 22), (0, .nameAndType 23 24), (0, u "text"), (0, u "[B"), (0, .methodref 26 27), (0, .class_ 28), (0, .nameAndType 29 30), (0, u "java/lang/Math"), (0, u "min"), (0, u "(II)I"), (0, .fieldref 1 32), (0, .nameAndType 33 16), (0, u "first"), (0, .fieldref 1 35), (0, .nameAndType 36 37), (0, u "length"), (0, u "I"), (3, u "(I)I"), (10, .methodref 1 53), (0, .nameAndType 54 41), (0, u "add"), (0, .methodref 1 56), (0, .nameAndType 57 58), (0, u "set"), (0, u "(II)V"), (2, u "lineBreaks"), (0, u "Z"), (2, u "offset"), (21, .methodref 1 88), (0, .nameAndType 89 41), (0, u "get"), (2, u "next"), (5, u "Ljava/lang/String;"), (17, u "NAMES"), (0, u "[Ljava/lang/String;"), (83, u "CONTAINER"), (2, u "NAME"), (1, u "CHUNK_BITS"), (1, u "CHUNK"), (1, u "ESCAPES"), (0, u "ESCAPED"), (0, u "KEPT_BITS"), (1, u "KEPT_LENGTH"), (1, u "DECODED"), (1, u "NAMES_BITS"), (1, u "NAME_LENGTH"), (1, u "([B)V"), (4, u "open"), (0, u "close"), (0, u "(IIZ)V"), (7, u "count"), (0, u "repeats"), (0, u "(I)Z")] 12

def k2c0 : Code := { maxStack := 4, maxLocals := 2, code := prog_17_method_1_code, exceptionTable := #[], attributes := #[] }
def k2m0 : Method := { name := "<init>", desc := "([B)V", sig := { parameters := [(.array .byte)], returnType := none }, accessFlags := 0, code := some k2c0 }
def k2c1 : Code := { maxStack := 4, maxLocals := 2, code := prog_17_method_2_code, exceptionTable := #[], attributes := #[] }
def k2m1 : Method := { name := "add", desc := "(I)I", sig := { parameters := [.int], returnType := some .int }, accessFlags := 0, code := some k2c1 }
def k2c2 : Code := { maxStack := 2, maxLocals := 3, code := prog_17_method_5_code, exceptionTable := #[], attributes := #[] }
def k2m2 : Method := { name := "open", desc := "(I)I", sig := { parameters := [.int], returnType := some .int }, accessFlags := 0, code := some k2c2 }
def k2c3 : Code := { maxStack := 4, maxLocals := 4, code := prog_17_method_6_code, exceptionTable := #[], attributes := #[] }
def k2m3 : Method := { name := "close", desc := "(IIZ)V", sig := { parameters := [.int, .int, .boolean], returnType := none }, accessFlags := 0, code := some k2c3 }
def k2c4 : Code := { maxStack := 3, maxLocals := 3, code := prog_17_method_10_code, exceptionTable := #[], attributes := #[] }
def k2m4 : Method := { name := "next", desc := "(I)I", sig := { parameters := [.int], returnType := some .int }, accessFlags := 0, code := some k2c4 }
def k2c5 : Code := { maxStack := 3, maxLocals := 2, code := prog_17_method_15_code, exceptionTable := #[], attributes := #[] }
def k2m5 : Method := { name := "count", desc := "(I)I", sig := { parameters := [.int], returnType := some .int }, accessFlags := 0, code := some k2c5 }
def k2c6 : Code := { maxStack := 3, maxLocals := 2, code := prog_17_method_16_code, exceptionTable := #[], attributes := #[] }
def k2m6 : Method := { name := "repeats", desc := "(I)Z", sig := { parameters := [.int], returnType := some .boolean }, accessFlags := 0, code := some k2c6 }
def k2c7 : Code := { maxStack := 2, maxLocals := 2, code := prog_17_method_17_code, exceptionTable := #[], attributes := #[] }
def k2m7 : Method := { name := "offset", desc := "(I)I", sig := { parameters := [.int], returnType := some .int }, accessFlags := 0, code := some k2c7 }
def k2c8 : Code := { maxStack := 3, maxLocals := 2, code := prog_17_method_28_code, exceptionTable := #[], attributes := #[] }
def k2m8 : Method := { name := "get", desc := "(I)I", sig := { parameters := [.int], returnType := some .int }, accessFlags := 2, code := some k2c8 }
def k2c9 : Code := { maxStack := 3, maxLocals := 3, code := prog_17_method_29_code, exceptionTable := #[], attributes := #[] }
def k2m9 : Method := { name := "set", desc := "(II)V", sig := { parameters := [.int, .int], returnType := none }, accessFlags := 2, code := some k2c9 }
/-- com/example/kempt_envelope/kemptenvelope/JsonTape -/
def k2 : Class := { plain "com/example/kempt_envelope/kemptenvelope/JsonTape" (some 0) with
  accessFlags := 48
  interfaces := #[]
  cf := some (fileOf pool2 1 #[.nestMembers #[9]] #[{ accessFlags := 0, nameIndex := 7, descriptorIndex := 222, attributes := #[] }, { accessFlags := 0, nameIndex := 54, descriptorIndex := 41, attributes := #[] }, { accessFlags := 0, nameIndex := 227, descriptorIndex := 41, attributes := #[] }, { accessFlags := 0, nameIndex := 228, descriptorIndex := 229, attributes := #[] }, { accessFlags := 0, nameIndex := 92, descriptorIndex := 41, attributes := #[] }, { accessFlags := 0, nameIndex := 237, descriptorIndex := 41, attributes := #[] }, { accessFlags := 0, nameIndex := 238, descriptorIndex := 239, attributes := #[] }, { accessFlags := 0, nameIndex := 65, descriptorIndex := 41, attributes := #[] }, { accessFlags := 2, nameIndex := 89, descriptorIndex := 41, attributes := #[] }, { accessFlags := 2, nameIndex := 57, descriptorIndex := 58, attributes := #[] }] 48 4 #[] #[{ accessFlags := 26, nameIndex := 201, descriptorIndex := 37, attributes := #[] }, { accessFlags := 26, nameIndex := 204, descriptorIndex := 37, attributes := #[] }, { accessFlags := 26, nameIndex := 206, descriptorIndex := 37, attributes := #[] }, { accessFlags := 26, nameIndex := 208, descriptorIndex := 37, attributes := #[] }, { accessFlags := 24, nameIndex := 210, descriptorIndex := 98, attributes := #[] }, { accessFlags := 26, nameIndex := 211, descriptorIndex := 98, attributes := #[] }, { accessFlags := 26, nameIndex := 212, descriptorIndex := 37, attributes := #[] }, { accessFlags := 26, nameIndex := 214, descriptorIndex := 37, attributes := #[] }, { accessFlags := 26, nameIndex := 216, descriptorIndex := 37, attributes := #[] }, { accessFlags := 26, nameIndex := 218, descriptorIndex := 37, attributes := #[] }, { accessFlags := 26, nameIndex := 220, descriptorIndex := 37, attributes := #[] }, { accessFlags := 26, nameIndex := 116, descriptorIndex := 117, attributes := #[] }, { accessFlags := 18, nameIndex := 23, descriptorIndex := 24, attributes := #[] }, { accessFlags := 18, nameIndex := 13, descriptorIndex := 14, attributes := #[] }, { accessFlags := 2, nameIndex := 19, descriptorIndex := 20, attributes := #[] }, { accessFlags := 2, nameIndex := 33, descriptorIndex := 16, attributes := #[] }, { accessFlags := 2, nameIndex := 36, descriptorIndex := 37, attributes := #[] }, { accessFlags := 2, nameIndex := 61, descriptorIndex := 62, attributes := #[] }])
  fields := #[{ name := "CONTAINER", type := .int, accessFlags := 26, slot := 0, constantValue := 0 }, { name := "NAME", type := .int, accessFlags := 26, slot := 1, constantValue := 0 }, { name := "CHUNK_BITS", type := .int, accessFlags := 26, slot := 2, constantValue := 0 }, { name := "CHUNK", type := .int, accessFlags := 26, slot := 3, constantValue := 0 }, { name := "ESCAPES", type := (.object "java/lang/String"), accessFlags := 24, slot := 4, constantValue := 0 }, { name := "ESCAPED", type := (.object "java/lang/String"), accessFlags := 26, slot := 5, constantValue := 0 }, { name := "KEPT_BITS", type := .int, accessFlags := 26, slot := 6, constantValue := 0 }, { name := "KEPT_LENGTH", type := .int, accessFlags := 26, slot := 7, constantValue := 0 }, { name := "DECODED", type := .int, accessFlags := 26, slot := 8, constantValue := 0 }, { name := "NAMES_BITS", type := .int, accessFlags := 26, slot := 9, constantValue := 0 }, { name := "NAME_LENGTH", type := .int, accessFlags := 26, slot := 10, constantValue := 0 }, { name := "NAMES", type := (.array (.object "java/lang/String")), accessFlags := 26, slot := 11, constantValue := 0 }, { name := "text", type := (.array .byte), accessFlags := 18, slot := 0, constantValue := 0 }, { name := "kept", type := (.array (.object "com/example/kempt_envelope/kemptenvelope/JsonTape$Decoded")), accessFlags := 18, slot := 1, constantValue := 0 }, { name := "chunks", type := (.array (.array .int)), accessFlags := 2, slot := 2, constantValue := 0 }, { name := "first", type := (.array .int), accessFlags := 2, slot := 3, constantValue := 0 }, { name := "length", type := .int, accessFlags := 2, slot := 4, constantValue := 0 }, { name := "lineBreaks", type := .boolean, accessFlags := 2, slot := 5, constantValue := 0 }]
  methods := #[k2m0, k2m1, k2m2, k2m3, k2m4, k2m5, k2m6, k2m7, k2m8, k2m9]
  instanceTypes := #[(.array .byte), (.array (.object "com/example/kempt_envelope/kemptenvelope/JsonTape$Decoded")), (.array (.array .int)), (.array .int), .int, .boolean]
  staticTypes := #[.int, .int, .int, .int, (.object "java/lang/String"), (.object "java/lang/String"), .int, .int, .int, .int, .int, (.array (.object "java/lang/String"))]
  resolved := Array.replicate 252 none
  statics := none }

def pool3 : Array CpInfo := pool [(2, .class_ 4), (1, u "java/lang/Object"), (3, .class_ 10), (1, u "com/example/kempt_envelope/kemptenvelope/JsonTape$Decoded"), (0, u "entry"), (0, u "I"), (2, u "text"), (0, u "Ljava/lang/String;"), (6, .class_ 24), (0, u "com/example/kempt_envelope/kemptenvelope/JsonTape")] 2

/-- com/example/kempt_envelope/kemptenvelope/JsonTape$Decoded -/
def k3 : Class := { plain "com/example/kempt_envelope/kemptenvelope/JsonTape$Decoded" (some 0) with
  accessFlags := 48
  interfaces := #[]
  cf := some (fileOf pool3 8 #[.nestHost 23] #[] 48 2 #[] #[{ accessFlags := 18, nameIndex := 11, descriptorIndex := 12, attributes := #[] }, { accessFlags := 18, nameIndex := 15, descriptorIndex := 16, attributes := #[] }])
  fields := #[{ name := "entry", type := .int, accessFlags := 18, slot := 0, constantValue := 0 }, { name := "text", type := (.object "java/lang/String"), accessFlags := 18, slot := 1, constantValue := 0 }]
  methods := #[]
  instanceTypes := #[.int, (.object "java/lang/String")]
  staticTypes := #[]
  resolved := Array.replicate 27 none
  statics := none }

def pool4 : Array CpInfo := pool [(1, .class_ 2), (0, u "java/lang/Math"), (1, .class_ 6), (1, u "java/lang/Object"), (0, u "<init>"), (0, u "()V"), (89, .class_ 100), (1, u "java/lang/Math$RandomNumberGeneratorHolder"), (71, u "negativeZeroFloatBits"), (0, u "J"), (2, u "negativeZeroDoubleBits"), (24, u "min"), (43, u "$assertionsDisabled"), (0, u "Z"), (88, u "(II)I"), (2, u "twoToTheDoubleScaleDown"), (0, u "D"), (4, u "twoToTheDoubleScaleUp"), (9, u "E"), (3, u "PI"), (2, u "TAU"), (2, u "DEGREES_TO_RADIANS"), (0, u "RADIANS_TO_DEGREES")] 94

def k4m0 : Method := { name := "<init>", desc := "()V", sig := { parameters := [], returnType := none }, accessFlags := 2, code := none }
def k4c1 : Code := { maxStack := 2, maxLocals := 2, code := jdk_29_method_69_code, exceptionTable := #[], attributes := #[] }
def k4m1 : Method := { name := "min", desc := "(II)I", sig := { parameters := [.int, .int], returnType := some .int }, accessFlags := 9, code := some k4c1 }
/-- java/lang/Math -/
def k4 : Class := { plain "java/lang/Math" (some 0) with
  accessFlags := 49
  interfaces := #[]
  cf := some (fileOf pool4 1 #[.nestMembers #[98]] #[{ accessFlags := 2, nameIndex := 7, descriptorIndex := 8, attributes := #[] }, { accessFlags := 9, nameIndex := 201, descriptorIndex := 335, attributes := #[] }] 49 4 #[] #[{ accessFlags := 25, nameIndex := 354, descriptorIndex := 339, attributes := #[] }, { accessFlags := 25, nameIndex := 358, descriptorIndex := 339, attributes := #[] }, { accessFlags := 25, nameIndex := 361, descriptorIndex := 339, attributes := #[] }, { accessFlags := 26, nameIndex := 364, descriptorIndex := 339, attributes := #[] }, { accessFlags := 26, nameIndex := 365, descriptorIndex := 339, attributes := #[] }, { accessFlags := 26, nameIndex := 172, descriptorIndex := 173, attributes := #[] }, { accessFlags := 26, nameIndex := 176, descriptorIndex := 173, attributes := #[] }, { accessFlags := 8, nameIndex := 344, descriptorIndex := 339, attributes := #[] }, { accessFlags := 8, nameIndex := 338, descriptorIndex := 339, attributes := #[] }, { accessFlags := 4120, nameIndex := 245, descriptorIndex := 246, attributes := #[] }])
  fields := #[{ name := "E", type := .double, accessFlags := 25, slot := 0, constantValue := 0 }, { name := "PI", type := .double, accessFlags := 25, slot := 1, constantValue := 0 }, { name := "TAU", type := .double, accessFlags := 25, slot := 2, constantValue := 0 }, { name := "DEGREES_TO_RADIANS", type := .double, accessFlags := 26, slot := 3, constantValue := 0 }, { name := "RADIANS_TO_DEGREES", type := .double, accessFlags := 26, slot := 4, constantValue := 0 }, { name := "negativeZeroFloatBits", type := .long, accessFlags := 26, slot := 5, constantValue := 0 }, { name := "negativeZeroDoubleBits", type := .long, accessFlags := 26, slot := 6, constantValue := 0 }, { name := "twoToTheDoubleScaleUp", type := .double, accessFlags := 8, slot := 7, constantValue := 0 }, { name := "twoToTheDoubleScaleDown", type := .double, accessFlags := 8, slot := 8, constantValue := 0 }, { name := "$assertionsDisabled", type := .boolean, accessFlags := 4120, slot := 9, constantValue := 0 }]
  methods := #[k4m0, k4m1]
  instanceTypes := #[]
  staticTypes := #[.double, .double, .double, .double, .double, .long, .long, .double, .double, .boolean]
  resolved := Array.replicate 460 none
  statics := none }

def pool5 : Array CpInfo := pool [(1, u "java/lang/Cloneable"), (0, .class_ 1), (0, u "java/lang/Object"), (0, .class_ 3)] 3

/-- java/lang/Cloneable -/
def k5 : Class := { plain "java/lang/Cloneable" (some 0) with
  accessFlags := 1537
  interfaces := #[]
  cf := some (fileOf pool5 2 #[] #[] 1537 4 #[] #[])
  fields := #[]
  methods := #[]
  instanceTypes := #[]
  staticTypes := #[]
  resolved := Array.replicate 8 none
  statics := none }

def pool6 : Array CpInfo := pool [(1, u "java/io/Serializable"), (0, .class_ 1), (0, u "java/lang/Object"), (0, .class_ 3)] 3

/-- java/io/Serializable -/
def k6 : Class := { plain "java/io/Serializable" (some 0) with
  accessFlags := 1537
  interfaces := #[]
  cf := some (fileOf pool6 2 #[] #[] 1537 4 #[] #[])
  fields := #[]
  methods := #[]
  instanceTypes := #[]
  staticTypes := #[]
  resolved := Array.replicate 8 none
  statics := none }

/-- the primitive byte -/
def k7 : Class := { plain "byte" none with kind := .primitive 'B', accessFlags := 0x411 }
/-- [B -/
def k8 : Class := { plain "[B" (some 0) with kind := .array 7 .byte, interfaces := #[5, 6], accessFlags := 1041 }

/-- the primitive int -/
def k9 : Class := { plain "int" none with kind := .primitive 'I', accessFlags := 0x411 }
/-- [I -/
def k10 : Class := { plain "[I" (some 0) with kind := .array 9 .int, interfaces := #[5, 6], accessFlags := 1041 }

/-- [Lcom/example/kempt_envelope/kemptenvelope/JsonTape$Decoded; -/
def k11 : Class := { plain "[Lcom/example/kempt_envelope/kemptenvelope/JsonTape$Decoded;" (some 0) with kind := .array 3 (.object "com/example/kempt_envelope/kemptenvelope/JsonTape$Decoded"), interfaces := #[5, 6], accessFlags := 1041 }

/-- [[I -/
def k12 : Class := { plain "[[I" (some 0) with kind := .array 10 (.array .int), interfaces := #[5, 6], accessFlags := 1041 }
def heap : Heap := #[]
def classes : Array Class := #[k0, k1, k2, k3, k4, k5, k6, k7, k8, k9, k10, k11, k12]
def interned : List (Array UInt16 × Addr) := []
def slotsUsed : Nat := 0
def theMethod : MethodId := ⟨1, 1⟩
def args0 : Array Value := #[.int 5, .int 5, .int 5]
def aboutOver (below : List Frame) : State where
  vm := { classes := classes, interned := interned.toArray }
  heap := heap
  slotsUsed := slotsUsed
  threads := #[{ frames := .invoking theMethod args0 :: below }]
def below0 : List Frame := [.native { method := ⟨0, 0⟩, args := #[] }]
def about1 : State := aboutOver below0
def p0 : Program := .bare "" "" ""
def e0 : Env := launch0.env 0 0 0
theorem w_frames : about1.frames = Frame.invoking theMethod args0 :: below0 := rfl
set_option maxRecDepth 65536 in
theorem w_args : argsFit about1.vm theMethod args0 = true := by decide +kernel
set_option maxRecDepth 65536 in
theorem w_heap : heapFits about1 = true := by decide +kernel
set_option maxRecDepth 65536 in
theorem w_runnable : about1.curStatus? = some .runnable := by decide +kernel
set_option maxRecDepth 65536 in
theorem w_alone : about1.alone = true := by decide +kernel
set_option maxRecDepth 65536 in
theorem w_named : about1.methodNamed? x = some theMethod := by decide +kernel
set_option maxRecDepth 65536 in
theorem w_hears : about1.hears theMethod below0 = true := by decide +kernel
set_option maxRecDepth 65536 in
theorem w_ripe : about1.ripe theMethod args0 below0 = true := by decide +kernel
theorem w_running : about1.status = .running := rfl
set_option maxRecDepth 65536 in
theorem w_room : about1.hasRoom e0.platform room_1 = true :=
  launch0.hasRoom_least _ room_1 (by decide +kernel) (by decide +kernel) (by decide +kernel) (by decide +kernel) (by decide +kernel) (by decide +kernel)
theorem allAtoms_all (ts : List Jvm.Cond) (a : Array Jvm.Value) (st : Jvm.State) : (allAtoms ts).before a st = ts.all (fun c => c.before a st) := by
  induction ts with
  | nil => rfl
  | cons c t ih =>
    show (Jvm.Cond.and c (allAtoms t)).before a st = _
    rw [Jvm.Cond.before_and, ih, List.all_cons]
def words1 : List Jvm.Cond := Jvm.Cond.code x code maxLocals ret :: tables_1
/-- a 'code' word, met by the world's own term for the bytes: nothing is compared byte by byte -/
theorem code_word {y : MethodName} {bytes : ByteArray} {mx : Nat} {rt : Option FieldType} {a : Array Value} {s : State} {m : MethodId} {meth : Method} {c : Code} (h1 : s.methodNamed? y = some m) (h2 : s.vm.method? m = some meth) (h3 : meth.code = some c) (h4 : c.code = bytes)
    (h5 : (c.maxLocals == mx && c.exceptionTable.isEmpty && decide (c.maxStack ≤ mostOperands) && decide (meth.sig.returnType = rt) && !meth.locks && decide (parseMethodDescriptor y.desc = some meth.sig)) = true) : (Jvm.Cond.code y bytes mx rt).before a s = true := by
  simp only [Bool.and_eq_true, beq_iff_eq, Bool.not_eq_true', decide_eq_true_eq] at h5
  obtain ⟨⟨⟨⟨⟨g1, g2⟩, g3⟩, g4⟩, g5⟩, g6⟩ := h5
  simp [Cond.before, Cond.holds, Cond.value, h1, h2, h3, h4, g1, g2, g3, g4, g5, g6]
def isCode : Jvm.Cond → Bool
  | .code _ _ _ _ => true
  | _ => false
theorem all_split {L : List Jvm.Cond} {P : Jvm.Cond → Bool} (h1 : L.all (fun c => isCode c || P c) = true) (h2 : ∀ c ∈ L.filter isCode, P c = true) : L.all P = true := by
  refine List.all_eq_true.mpr fun c hc => ?_
  have h := List.all_eq_true.mp h1 c hc
  rcases Bool.eq_false_or_eq_true (isCode c) with hi | hi
  · exact h2 c (List.mem_filter.mpr ⟨hc, hi⟩)
  · simpa [hi] using h
set_option maxRecDepth 65536 in
theorem w_c0 : (Jvm.Cond.code x code maxLocals ret).before args0 about1 = true := code_word (m := ⟨1, 1⟩) (meth := k1m1) (c := k1c1) (by decide +kernel) rfl rfl rfl (by decide +kernel)
set_option maxRecDepth 65536 in
theorem w_c1 : (Jvm.Cond.code ({ cls := "com/example/kempt_envelope/kemptenvelope/JsonTape", name := "<init>", desc := "([B)V" } : Jvm.MethodName) prog_17_method_1_code (2 : Nat) (Option.none : Option Jvm.ClassFile.FieldType)).before args0 about1 = true := code_word (m := ⟨2, 0⟩) (meth := k2m0) (c := k2c0) (by decide +kernel) rfl rfl rfl (by decide +kernel)
set_option maxRecDepth 65536 in
theorem w_c2 : (Jvm.Cond.code ({ cls := "java/lang/Object", name := "<init>", desc := "()V" } : Jvm.MethodName) object_method_1_code (1 : Nat) (Option.none : Option Jvm.ClassFile.FieldType)).before args0 about1 = true := code_word (m := ⟨0, 0⟩) (meth := k0m0) (c := k0c0) (by decide +kernel) rfl rfl rfl (by decide +kernel)
set_option maxRecDepth 65536 in
theorem w_c3 : (Jvm.Cond.code ({ cls := "java/lang/Math", name := "min", desc := "(II)I" } : Jvm.MethodName) jdk_29_method_69_code (2 : Nat) (Option.some Jvm.ClassFile.FieldType.int)).before args0 about1 = true := code_word (m := ⟨4, 1⟩) (meth := k4m1) (c := k4c1) (by decide +kernel) rfl rfl rfl (by decide +kernel)
set_option maxRecDepth 65536 in
theorem w_c4 : (Jvm.Cond.code ({ cls := "com/example/kempt_envelope/kemptenvelope/JsonTape", name := "open", desc := "(I)I" } : Jvm.MethodName) prog_17_method_5_code (3 : Nat) (Option.some Jvm.ClassFile.FieldType.int)).before args0 about1 = true := code_word (m := ⟨2, 2⟩) (meth := k2m2) (c := k2c2) (by decide +kernel) rfl rfl rfl (by decide +kernel)
set_option maxRecDepth 65536 in
theorem w_c5 : (Jvm.Cond.code ({ cls := "com/example/kempt_envelope/kemptenvelope/JsonTape", name := "add", desc := "(I)I" } : Jvm.MethodName) prog_17_method_2_code (2 : Nat) (Option.some Jvm.ClassFile.FieldType.int)).before args0 about1 = true := code_word (m := ⟨2, 1⟩) (meth := k2m1) (c := k2c1) (by decide +kernel) rfl rfl rfl (by decide +kernel)
set_option maxRecDepth 65536 in
theorem w_c6 : (Jvm.Cond.code ({ cls := "com/example/kempt_envelope/kemptenvelope/JsonTape", name := "close", desc := "(IIZ)V" } : Jvm.MethodName) prog_17_method_6_code (4 : Nat) (Option.none : Option Jvm.ClassFile.FieldType)).before args0 about1 = true := code_word (m := ⟨2, 3⟩) (meth := k2m3) (c := k2c3) (by decide +kernel) rfl rfl rfl (by decide +kernel)
set_option maxRecDepth 65536 in
theorem w_c7 : (Jvm.Cond.code ({ cls := "com/example/kempt_envelope/kemptenvelope/JsonTape", name := "set", desc := "(II)V" } : Jvm.MethodName) prog_17_method_29_code (3 : Nat) (Option.none : Option Jvm.ClassFile.FieldType)).before args0 about1 = true := code_word (m := ⟨2, 9⟩) (meth := k2m9) (c := k2c9) (by decide +kernel) rfl rfl rfl (by decide +kernel)
set_option maxRecDepth 65536 in
theorem w_c8 : (Jvm.Cond.code ({ cls := "com/example/kempt_envelope/kemptenvelope/JsonTape", name := "offset", desc := "(I)I" } : Jvm.MethodName) prog_17_method_17_code (2 : Nat) (Option.some Jvm.ClassFile.FieldType.int)).before args0 about1 = true := code_word (m := ⟨2, 7⟩) (meth := k2m7) (c := k2c7) (by decide +kernel) rfl rfl rfl (by decide +kernel)
set_option maxRecDepth 65536 in
theorem w_c9 : (Jvm.Cond.code ({ cls := "com/example/kempt_envelope/kemptenvelope/JsonTape", name := "get", desc := "(I)I" } : Jvm.MethodName) prog_17_method_28_code (2 : Nat) (Option.some Jvm.ClassFile.FieldType.int)).before args0 about1 = true := code_word (m := ⟨2, 8⟩) (meth := k2m8) (c := k2c8) (by decide +kernel) rfl rfl rfl (by decide +kernel)
set_option maxRecDepth 65536 in
theorem w_c10 : (Jvm.Cond.code ({ cls := "com/example/kempt_envelope/kemptenvelope/JsonTape", name := "next", desc := "(I)I" } : Jvm.MethodName) prog_17_method_10_code (3 : Nat) (Option.some Jvm.ClassFile.FieldType.int)).before args0 about1 = true := code_word (m := ⟨2, 4⟩) (meth := k2m4) (c := k2c4) (by decide +kernel) rfl rfl rfl (by decide +kernel)
set_option maxRecDepth 65536 in
theorem w_c11 : (Jvm.Cond.code ({ cls := "com/example/kempt_envelope/kemptenvelope/JsonTape", name := "count", desc := "(I)I" } : Jvm.MethodName) prog_17_method_15_code (2 : Nat) (Option.some Jvm.ClassFile.FieldType.int)).before args0 about1 = true := code_word (m := ⟨2, 5⟩) (meth := k2m5) (c := k2c5) (by decide +kernel) rfl rfl rfl (by decide +kernel)
set_option maxRecDepth 65536 in
theorem w_c12 : (Jvm.Cond.code ({ cls := "com/example/kempt_envelope/kemptenvelope/JsonTape", name := "repeats", desc := "(I)Z" } : Jvm.MethodName) prog_17_method_16_code (2 : Nat) (Option.some Jvm.ClassFile.FieldType.boolean)).before args0 about1 = true := code_word (m := ⟨2, 6⟩) (meth := k2m6) (c := k2c6) (by decide +kernel) rfl rfl rfl (by decide +kernel)
def codes1 : List Jvm.Cond := [Jvm.Cond.code x code maxLocals ret, Jvm.Cond.code ({ cls := "com/example/kempt_envelope/kemptenvelope/JsonTape", name := "<init>", desc := "([B)V" } : Jvm.MethodName) prog_17_method_1_code (2 : Nat) (Option.none : Option Jvm.ClassFile.FieldType), Jvm.Cond.code ({ cls := "java/lang/Object", name := "<init>", desc := "()V" } : Jvm.MethodName) object_method_1_code (1 : Nat) (Option.none : Option Jvm.ClassFile.FieldType), Jvm.Cond.code ({ cls := "java/lang/Math", name := "min", desc := "(II)I" } : Jvm.MethodName) jdk_29_method_69_code (2 : Nat) (Option.some Jvm.ClassFile.FieldType.int), Jvm.Cond.code ({ cls := "com/example/kempt_envelope/kemptenvelope/JsonTape", name := "open", desc := "(I)I" } : Jvm.MethodName) prog_17_method_5_code (3 : Nat) (Option.some Jvm.ClassFile.FieldType.int), Jvm.Cond.code ({ cls := "com/example/kempt_envelope/kemptenvelope/JsonTape", name := "add", desc := "(I)I" } : Jvm.MethodName) prog_17_method_2_code (2 : Nat) (Option.some Jvm.ClassFile.FieldType.int), Jvm.Cond.code ({ cls := "com/example/kempt_envelope/kemptenvelope/JsonTape", name := "close", desc := "(IIZ)V" } : Jvm.MethodName) prog_17_method_6_code (4 : Nat) (Option.none : Option Jvm.ClassFile.FieldType), Jvm.Cond.code ({ cls := "com/example/kempt_envelope/kemptenvelope/JsonTape", name := "set", desc := "(II)V" } : Jvm.MethodName) prog_17_method_29_code (3 : Nat) (Option.none : Option Jvm.ClassFile.FieldType), Jvm.Cond.code ({ cls := "com/example/kempt_envelope/kemptenvelope/JsonTape", name := "offset", desc := "(I)I" } : Jvm.MethodName) prog_17_method_17_code (2 : Nat) (Option.some Jvm.ClassFile.FieldType.int), Jvm.Cond.code ({ cls := "com/example/kempt_envelope/kemptenvelope/JsonTape", name := "get", desc := "(I)I" } : Jvm.MethodName) prog_17_method_28_code (2 : Nat) (Option.some Jvm.ClassFile.FieldType.int), Jvm.Cond.code ({ cls := "com/example/kempt_envelope/kemptenvelope/JsonTape", name := "next", desc := "(I)I" } : Jvm.MethodName) prog_17_method_10_code (3 : Nat) (Option.some Jvm.ClassFile.FieldType.int), Jvm.Cond.code ({ cls := "com/example/kempt_envelope/kemptenvelope/JsonTape", name := "count", desc := "(I)I" } : Jvm.MethodName) prog_17_method_15_code (2 : Nat) (Option.some Jvm.ClassFile.FieldType.int), Jvm.Cond.code ({ cls := "com/example/kempt_envelope/kemptenvelope/JsonTape", name := "repeats", desc := "(I)Z" } : Jvm.MethodName) prog_17_method_16_code (2 : Nat) (Option.some Jvm.ClassFile.FieldType.boolean)]
set_option maxRecDepth 65536 in
theorem codes_eq : words1.filter isCode = codes1 := rfl
theorem w_codes : ∀ c ∈ words1.filter isCode, c.before args0 about1 = true := by
  rw [codes_eq]
  intro c hc
  simp only [codes1, List.mem_cons, List.not_mem_nil, or_false] at hc
  rcases hc with rfl | rfl | rfl | rfl | rfl | rfl | rfl | rfl | rfl | rfl | rfl | rfl | rfl
  · exact w_c0
  · exact w_c1
  · exact w_c2
  · exact w_c3
  · exact w_c4
  · exact w_c5
  · exact w_c6
  · exact w_c7
  · exact w_c8
  · exact w_c9
  · exact w_c10
  · exact w_c11
  · exact w_c12
set_option maxRecDepth 65536 in
theorem w_t1 : (words1.take 24).all (fun c => isCode c || c.before args0 about1) = true := by decide +kernel
set_option maxRecDepth 65536 in
theorem w_t2 : ((words1.drop 24).take 24).all (fun c => isCode c || c.before args0 about1) = true := by decide +kernel
set_option maxRecDepth 65536 in
theorem w_t3 : (((words1.drop 24).drop 24).take 24).all (fun c => isCode c || c.before args0 about1) = true := by decide +kernel
set_option maxRecDepth 65536 in
theorem w_t4 : (((words1.drop 24).drop 24).drop 24).all (fun c => isCode c || c.before args0 about1) = true := by decide +kernel
theorem w_tables : (allAtoms (Jvm.Cond.code x code maxLocals ret :: tables_1)).before args0 about1 = true := by
  rw [allAtoms_all]
  show words1.all (fun c => c.before args0 about1) = true
  refine all_split ?_ w_codes
  rw [← List.take_append_drop 24 words1, List.all_append, w_t1, ← List.take_append_drop 24 (words1.drop 24), List.all_append, w_t2, ← List.take_append_drop 24 ((words1.drop 24).drop 24), List.all_append, w_t3, w_t4]
  rfl
set_option maxRecDepth 65536 in
theorem w_case : (Jvm.Cond.and given_1 narrow_1).before args0 about1 = true := by decide +kernel
theorem w_applies : (headSpec (Jvm.Cond.code x code maxLocals ret :: tables_1) room_1).applies x e0.platform about1 = true :=
  (Spec.applies_iff w_frames).mpr ⟨w_running, w_runnable, w_alone, w_named, w_hears, w_ripe, w_room, w_tables⟩
theorem atStart : AtStart classFile x code maxLocals ret World_1 tables_1 room_1 Calls_1 rest_1 Pre_1 launch0 p0 e0 about1 theMethod args0 below0 :=
  ⟨lists_1, trivial, launch0.admits_env _ _ _, launch0.least_env, fairChoices_fair.cas, fairChoices_fair.clock, w_frames, w_args, w_heap, w_applies, trivial, trivial, w_case⟩
end start1
theorem witness_1 : WitnessClaimed_1 := ⟨start1.p0, start1.e0, start1.about1, start1.theMethod, start1.args0, start1.below0, start1.atStart⟩
end Jvm.Pilot.@@N@@
