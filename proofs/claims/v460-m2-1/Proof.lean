import JvmDerived
import JvmDerived.Pilot.@@N@@Statement
import JvmDerived.Pilot.@@N@@Code
set_option linter.unusedVariables false
set_option linter.unusedSimpArgs false
@@BLOCK:NumsL.lean.txt@@
namespace Jvm.RoadKit
open Sem ClassFile Op Lib Jvm.Stand Jvm.Free Jvm.LawKit
section New
variable {p : Program} {l : Launch} {e : Env} {R : Room} {s : State} {m : MethodId} {args : Array Value} {below : List Frame} {meth : Method} {c : Code} {T : State} {locs : List Loc} {cells slots : Nat}
theorem retI (X : Stand p l e R s m args below meth c T locs cells slots) (hx : p.tables.exec = Jvm.exec) {pc : Nat} {Ls : Array Slot} {z : Int32} {rest : List Value} (hret : meth.sig.returnType = some .int) (hd : decode c.code pc = .ok (.ireturn, 1)) {fs : List Frame}
    (hl : ∀ (f : JFrame) (acts : List Action), f.method = m → f.locked = none → f.entered = [] → (doReturn e (T.setTop f) acts (some (.int z))).1 = T.setFrames fs) : Steps p.tables e below (T.setTop (mkF m pc Ls (.int z :: rest))) (T.setFrames fs) := by
  have hm' : T.vm.method? m = some meth := X.method'
  have hn : narrow .int (.int z) = .int z := rfl
  show Steps p.tables e below (T.setTop { method := m, pc := pc, locals := Ls, stack := _ :: rest, locked := none }) _
  jvm_step X.here [X.here.top, hx, hd, hm', hret, hn]
  first | (intro acts; rw [hl _ acts rfl rfl rfl]) | rw [hl _ _ rfl rfl rfl]
  exact Steps.refl _
end New
end Jvm.RoadKit
namespace Jvm.Pilot.@@N@@
open Jvm Jvm.ClassFile Sem Op Lib Jvm.Free Jvm.Stand Jvm.LawKit Jvm.RoadKit Bundle Jvm.Pilot.@@N@@.Jvm.D
/-! own_Goes: from S the run comes to some state of which G holds: such a goal may be split in the middle of a walk -/
def own_Goes (p : Program) (e : Env) (below : List Frame) (S : State) (G : State → Prop) : Prop := ∃ t, Steps p.tables e below S t ∧ G t
theorem own_via {p : Program} {e : Env} {below : List Frame} {S S' : State} {G : State → Prop} (f : ∀ t, Steps p.tables e below S' t → Steps p.tables e below S t) (h : own_Goes p e below S' G) : own_Goes p e below S G := by
  obtain ⟨t, h1, h2⟩ := h
  exact ⟨t, f t h1, h2⟩
theorem own_end {p : Program} {e : Env} {below : List Frame} {S t : State} {G : State → Prop} (h : Steps p.tables e below S t) (g : G t) : own_Goes p e below S G := ⟨t, h, g⟩
theorem own_out {p : Program} {e : Env} {below : List Frame} {S : State} {P : State → Outcome → Prop} (h : own_Goes p e below S (fun t => ∃ o, t.status = .running ∧ Ended t below o ∧ P t o)) : ∃ t o, Steps p.tables e below S t ∧ t.status = .running ∧ Ended t below o ∧ P t o := by
  obtain ⟨t, h1, o, h2, h3, h4⟩ := h
  exact ⟨t, o, h1, h2, h3, h4⟩
theorem wd {a0 : Array Value} {Z : State} (hw : ∀ d ∈ tables_1, d.before a0 Z = true) (i : Nat) {d : Jvm.Cond} (h : tables_1[i]? = some d) : d.before a0 Z = true := hw _ (List.mem_of_getElem? h)
theorem own_old {Z : State} {n0 : Nat} {h : Heap} (O : Old Z n0 h) : n0 ≤ h.size := by rw [← O.1]; exact O.2.1
def own_Q0 (n0 : Nat) (v : Option Value) (L : List Loc) : Prop := v = some (.int (1 : Int32)) ∧ Fr n0 L
def own_G (s : State) (below : List Frame) (n0 : Nat) (t : State) : Prop := ∃ o, t.status = .running ∧ Ended t below o ∧ ∃ v L, o = .returned v ∧ own_Q0 n0 v L ∧ FrameEnd s o t L room_1.cells room_1.slots
def own_Len (Z : State) (h : Heap) (a : Addr) (ty : FieldType) (n : Int32) : Prop := ∃ k vs d, Arv Z h a k ty n vs d
theorem own_len_ext {Z : State} {h h' : Heap} {a : Addr} {ty : FieldType} {n : Int32} (F : own_Len Z h a ty n) (E : Ext h h') : own_Len Z h' a ty n := by
  obtain ⟨k, vs, d, V⟩ := F
  exact ⟨k, vs, d, V.ext E⟩
theorem own_len_other {Z : State} {h h' : Heap} {a b : Addr} {sl : Nat} {v : Value} {ty : FieldType} {n : Int32} (F : own_Len Z h b ty n) (W : Wr h h' a sl v) (q : b ≠ a) : own_Len Z h' b ty n := by
  obtain ⟨k, vs, d, V⟩ := F
  exact ⟨k, vs, d, V.other W q⟩
theorem own_len_keep {Z : State} {h h' : Heap} {a : Addr} {ws : List Addr} {ty : FieldType} {n : Int32} (F : own_Len Z h a ty n) (K : Keep h h' ws) (q : a ∉ ws) : own_Len Z h' a ty n := by
  obtain ⟨k, vs, d, V⟩ := F
  exact ⟨k, vs, d, V.keep K q⟩
theorem own_len_lt {Z : State} {h : Heap} {a : Addr} {ty : FieldType} {n : Int32} (F : own_Len Z h a ty n) : a < h.size := by
  obtain ⟨k, vs, d, V⟩ := F
  exact V.lt
theorem own_c2 (x : Int32) : x.toUInt32.toUInt16.toUInt32.toInt32.toUInt32.toUInt16.toUInt32.toInt32 = x.toUInt32.toUInt16.toUInt32.toInt32 := by rw [UInt32.toUInt32_toInt32, UInt16.toUInt16_toUInt32]
theorem own_b2 (x : Int32) : x.toInt8.toInt32.toInt8.toInt32 = x.toInt8.toInt32 := by rw [Int8.toInt8_toInt32]
section Calls
variable {p : Program} {l : Launch} {e : Env} {R : Room} {s : State} {m : MethodId} {args : Array Value} {below : List Frame} {meth : Method} {c : Code} {T : State} {locs : List Loc} {cells slots : Nat} {Z : State} {a0 : Array Value} {h : Heap} {own C : String} {index : Nat} {y : MethodName} {bytes : ByteArray} {maxL : Nat} {rm : Room} {Q : Option Value → Heap → List Loc → Prop} {a : Addr} {argsL : List Value} {g : JFrame}
/-! a call by its contract, in one step: virtual (the class's own method), a constructor, static -/
theorem own_cv {ret : Option FieldType} (X : Stand p l e R s m args below meth c T locs cells slots) (hx : p.tables.exec = Jvm.exec) (hZ : Z.Warmed39 s.vm) (hown : s.vm.findClass own = some m.cls) (w1 : (Jvm.Cond.methodLink own index y).before a0 Z = true) (w2 : (Jvm.Cond.declares y).before a0 Z = true) (w3 : (Jvm.Cond.selects C y y).before a0 Z = true) (w4 : (Jvm.Cond.instanceMethod y).before a0 Z = true) (wc : (Jvm.Cond.code y bytes maxL ret).before a0 Z = true) (wz : (Jvm.Cond.initialized y.cls).before a0 Z = true) (hy : y.cls ≠ "java/lang/invoke/MethodHandle" ∧ y.cls ≠ "java/lang/invoke/VarHandle")
    (hM : MetFree l y (head1 [Jvm.Cond.code y bytes maxL ret] rm) (fun A U => A = (.ref a :: argsL).toArray ∧ Z.Warmed39 U.vm ∧ U.heap = h) (fun _ _ _ _ _ => True) (fun _ U o U' => ∃ v L, o = .returned v ∧ Q v U'.heap L ∧ FrameEnd U o U' L rm.cells rm.slots)) (eT : T.heap = h) (E : Exa Z h a C) (hg : g.method = m) (hsize : g.locals.size = c.maxLocals) {rest : List Value} {W : Nat}
    (hlen : ∀ sig, parseMethodDescriptor y.desc = some sig → argsL.length = sig.parameters.length) (hstack : g.stack = argsL.reverse ++ .ref a :: rest) (hW : 2 * g.monitorRoom + (rest.map fun v => v.category).sum ≤ W) (hdg : decode c.code g.pc = .ok (.invokevirtual index, 3)) (r1 : rm.frames + 1 ≤ R.frames) (r2 : W + (maxL + 11) + rm.locals ≤ R.locals) (r3 : cells + rm.cells ≤ R.cells) (r4 : slots + rm.slots ≤ R.slots) :
    ∃ (v : Option Value) (T' : State) (L : List Loc), Stand p l e R s m args below meth c T' (locs ++ L) (cells + rm.cells) (slots + rm.slots) ∧ Q v T'.heap L ∧ ∀ t, Steps p.tables e below (T'.setTop { g with pc := g.pc + 3, stack := v.toList ++ rest }) t → Steps p.tables e below (T.setTop g) t := by
  obtain ⟨cq, kq, qa, -, qc⟩ := isOf hZ eT E
  obtain ⟨v, _, ⟨T', L', c', n'⟩, -, X', ⟨Lc, hQ, l1, y1, z1⟩, st⟩ := X.virtualBack hx (y := y) (z := y) hown (mvT hZ w1) (mvT hZ w2) (notFace_of_selects (args := #[]) (mvT hZ w3)) (mvT hZ w3) (mvT hZ w4) hy (backOf (W := W) hM hZ wc wz r1 r2) qa qc (g := g) hg hsize (Steps.refl _) (argsL := argsL) (rest := rest) hlen hstack hW hdg (fun _ _ => ⟨rfl, eT, r3, r4⟩)
  dsimp only [Pt.U, Pt.locs, Pt.cells, Pt.slots] at X' l1 y1 z1 st hQ
  subst l1 y1 z1
  exact ⟨v, T', Lc, X', hQ, fun t k => st.trans k⟩
theorem own_ci (X : Stand p l e R s m args below meth c T locs cells slots) (hx : p.tables.exec = Jvm.exec) (hZ : Z.Warmed39 s.vm) (hown : s.vm.findClass own = some m.cls) (w1 : (Jvm.Cond.methodLink own index y).before a0 Z = true) (w4 : (Jvm.Cond.instanceMethod y).before a0 Z = true) (wc : (Jvm.Cond.code y bytes maxL none).before a0 Z = true) (wz : (Jvm.Cond.initialized y.cls).before a0 Z = true) (hi : y.name = "<init>") (hy : y.cls ≠ "java/lang/invoke/MethodHandle" ∧ y.cls ≠ "java/lang/invoke/VarHandle")
    (hM : MetFree l y (head1 [Jvm.Cond.code y bytes maxL none] rm) (fun A U => A = (.ref a :: argsL).toArray ∧ Z.Warmed39 U.vm ∧ U.heap = h) (fun _ _ _ _ _ => True) (fun _ U o U' => ∃ v L, o = .returned v ∧ Q v U'.heap L ∧ FrameEnd U o U' L rm.cells rm.slots)) (eT : T.heap = h) (hg : g.method = m) (hsize : g.locals.size = c.maxLocals) {rest : List Value} {W : Nat}
    (hlen : ∀ sig, parseMethodDescriptor y.desc = some sig → argsL.length = sig.parameters.length) (hstack : g.stack = argsL.reverse ++ .ref a :: rest) (hW : 2 * g.monitorRoom + (rest.map fun v => v.category).sum ≤ W) (hdg : decode c.code g.pc = .ok (.invokespecial index, 3)) (r1 : rm.frames + 1 ≤ R.frames) (r2 : W + (maxL + 11) + rm.locals ≤ R.locals) (r3 : cells + rm.cells ≤ R.cells) (r4 : slots + rm.slots ≤ R.slots) :
    ∃ (v : Option Value) (T' : State) (L : List Loc), Stand p l e R s m args below meth c T' (locs ++ L) (cells + rm.cells) (slots + rm.slots) ∧ Q v T'.heap L ∧ ∀ t, Steps p.tables e below (T'.setTop { g with pc := g.pc + 3, stack := v.toList ++ rest }) t → Steps p.tables e below (T.setTop g) t := by
  obtain ⟨v, _, ⟨T', L', c', n'⟩, -, X', ⟨Lc, hQ, l1, y1, z1⟩, st⟩ := X.specialBack hx (y := y) hi hown (mvT hZ w1) (mvT hZ w4) (mvT hZ wc) hy (backOf (W := W) hM hZ wc wz r1 r2) (g := g) hg hsize (Steps.refl _) (a := a) (argsL := argsL) (rest := rest) hlen hstack hW hdg (fun _ _ => ⟨rfl, eT, r3, r4⟩)
  dsimp only [Pt.U, Pt.locs, Pt.cells, Pt.slots] at X' l1 y1 z1 st hQ
  subst l1 y1 z1
  exact ⟨v, T', Lc, X', hQ, fun t k => st.trans k⟩
theorem own_cs {ret : Option FieldType} (X : Stand p l e R s m args below meth c T locs cells slots) (hx : p.tables.exec = Jvm.exec) (hZ : Z.Warmed39 s.vm) (hown : s.vm.findClass own = some m.cls) (w1 : (Jvm.Cond.methodLink own index y).before a0 Z = true) (w4 : (Jvm.Cond.static y).before a0 Z = true) (wc : (Jvm.Cond.code y bytes maxL ret).before a0 Z = true) (wz : (Jvm.Cond.initialized y.cls).before a0 Z = true) (hy : y.cls ≠ "java/lang/invoke/MethodHandle" ∧ y.cls ≠ "java/lang/invoke/VarHandle")
    (hM : MetFree l y (head1 [Jvm.Cond.code y bytes maxL ret] rm) (fun A U => A = argsL.toArray ∧ Z.Warmed39 U.vm ∧ U.heap = h) (fun _ _ _ _ _ => True) (fun _ U o U' => ∃ v L, o = .returned v ∧ Q v U'.heap L ∧ FrameEnd U o U' L rm.cells rm.slots)) (eT : T.heap = h) (hg : g.method = m) (hsize : g.locals.size = c.maxLocals) {rest : List Value} {W : Nat}
    (hlen : ∀ sig, parseMethodDescriptor y.desc = some sig → argsL.length = sig.parameters.length) (hstack : g.stack = argsL.reverse ++ rest) (hW : 2 * g.monitorRoom + (rest.map fun v => v.category).sum ≤ W) (hdg : decode c.code g.pc = .ok (.invokestatic index, 3)) (r1 : rm.frames + 1 ≤ R.frames) (r2 : W + (maxL + 11) + rm.locals ≤ R.locals) (r3 : cells + rm.cells ≤ R.cells) (r4 : slots + rm.slots ≤ R.slots) :
    ∃ (v : Option Value) (T' : State) (L : List Loc), Stand p l e R s m args below meth c T' (locs ++ L) (cells + rm.cells) (slots + rm.slots) ∧ Q v T'.heap L ∧ ∀ t, Steps p.tables e below (T'.setTop { g with pc := g.pc + 3, stack := v.toList ++ rest }) t → Steps p.tables e below (T.setTop g) t := by
  obtain ⟨v, _, ⟨T', L', c', n'⟩, -, X', ⟨Lc, hQ, l1, y1, z1⟩, st⟩ := Jvm.LawKit.callS X hx (y := y) hown (mvT hZ w1) (mvT hZ w4) (mvT hZ wz) (mvT hZ wc) hy (backOf (W := W) hM hZ wc wz r1 r2) (g := g) hg hsize (argsL := argsL) (rest := rest) hlen hstack hW hdg (fun _ _ => ⟨rfl, eT, r3, r4⟩)
  dsimp only [Pt.U, Pt.locs, Pt.cells, Pt.slots] at X' l1 y1 z1 st hQ
  subst l1 y1 z1
  exact ⟨v, T', Lc, X', hQ, st⟩
end Calls
theorem own_eq_ref {args : Array Value} {s : State} {a b : Term} {w : Addr} (h : (Jvm.Cond.eq a b).value args s none s [] = some true) (hb : b.eval args s none [] s = some (.ref w)) : a.eval args s none [] s = some (.ref w) := by
  obtain ⟨x, y, e1, e2, k1, k2⟩ := cmp_v (Or.inl h)
  rw [hb] at e2
  cases e2
  have hx : x.isRef = true := by cases x <;> simp_all [Kin, Value.isRef]
  have q := gotT (eq_R e1 hb hx rfl) h
  rw [e1, q]
theorem own_ne_ref {args : Array Value} {s : State} {a b : Term} {u w : Addr} (h : (Jvm.Cond.not (Jvm.Cond.eq a b)).value args s none s [] = some true) (ha : a.eval args s none [] s = some (.ref u)) (hb : b.eval args s none [] s = some (.ref w)) : u ≠ w := fun q => gotF (eq_R ha hb rfl rfl) (not_v h) (by rw [q])
theorem own_nn_mask (x m : Int32) (k : Nat) (hk : k < 32) (hm : m.toBitVec.toNat = 2 ^ k - 1) : ¬ ((x &&& m) < (0 : Int32)) := by
  rw [Int32.lt_iff_toInt_lt, Jvm.Kit.i32_mask x m hk hm]
  have h := Int.emod_nonneg x.toInt (show ((2 : Int) ^ k) ≠ 0 from Int.ne_of_gt (Int.pow_pos (by decide)))
  rw [Int32.toInt_zero]
  omega
theorem own_lt_mask (x m : Int32) (k : Nat) (hk : k < 32) (hm : m.toBitVec.toNat = 2 ^ k - 1) {n : Int32} (hn : n.toInt = 2 ^ k) : (x &&& m) < n := by
  rw [Int32.lt_iff_toInt_lt, Jvm.Kit.i32_mask x m hk hm, hn]
  exact Int.emod_lt_of_pos _ (Int.pow_pos (by decide))
theorem own_nn_rem {x : Int32} (n : Int32) (h : ¬ (x < (0 : Int32))) : ¬ (x % n < (0 : Int32)) := by
  rw [Int32.lt_iff_toInt_lt, Int32.toInt_zero] at h ⊢
  rw [Int32.toInt_mod]
  have := Int.tmod_nonneg n.toInt (show 0 ≤ x.toInt by omega)
  omega
theorem own_pos {n : Int32} (h : (0 : Int32) < n) : 0 < n.toInt := by
  rw [Int32.lt_iff_toInt_lt, Int32.toInt_zero] at h
  exact h
theorem own_ne0 {n : Int32} (h : (0 : Int32) < n) : n ≠ 0 := fun q => by
  rw [q] at h
  exact absurd h (by decide)
theorem own_lt_rem {x : Int32} (n : Int32) (h : ¬ (x < (0 : Int32))) (hn : 0 < n.toInt) : x % n < n := by
  rw [Int32.lt_iff_toInt_lt] at h ⊢
  rw [Int32.toInt_zero] at h
  rw [Jvm.Kit.i32_rem_nonneg (by omega)]
  exact Int.emod_lt_of_pos _ hn
theorem own_modlo (x n : Int32) (hn : 0 < n.toInt) : 0 ≤ ((x &&& (2147483647 : Int32)) % n).toInt := by
  have a := Jvm.Kit.i32_mask x 2147483647 (k := 31) (by decide) (by decide)
  rw [Jvm.Kit.i32_rem_nonneg (by omega)]
  exact Int.emod_nonneg _ (by omega)
theorem own_modhi (x n : Int32) (hn : 0 < n.toInt) : ((x &&& (2147483647 : Int32)) % n).toInt < n.toInt := by
  have a := Jvm.Kit.i32_mask x 2147483647 (k := 31) (by decide) (by decide)
  rw [Jvm.Kit.i32_rem_nonneg (by omega)]
  exact Int.emod_lt_of_pos _ hn
theorem own_bv (w : BitVec 64) (s : Nat) (hs : s < 64) : (w &&& (1#64 <<< s) = 0#64) ↔ ¬ ((w >>> s) &&& 1#64 = 1#64) := by
  constructor
  · intro h q
    have h1 := congrArg (fun z => z.getLsbD s) h
    have q1 := congrArg (fun z => z.getLsbD 0) q
    simp [hs] at h1 q1
    simp_all
  · intro q
    apply BitVec.eq_of_getLsbD_eq
    intro i hi
    simp only [BitVec.getLsbD_and, BitVec.getLsbD_shiftLeft, BitVec.getLsbD_zero]
    by_cases e : i = s
    · subst e
      have : w.getLsbD i = false := by
        cases hw : w.getLsbD i with
        | false => rfl
        | true =>
          exfalso; apply q
          apply BitVec.eq_of_getLsbD_eq
          intro j hj
          by_cases e0 : j = 0
          · subst e0; simp [hw]
          · simp [BitVec.getLsbD_one, e0]
      simp [this]
    · simp [BitVec.getLsbD_one]
      omega
theorem own_small (m : Int32) (h0 : 0 ≤ m.toInt) (h1 : m.toInt < 64) : ∃ k : Nat, k < 64 ∧ m = Int32.ofNat k := by
  refine ⟨m.toInt.toNat, by omega, ?_⟩
  apply Int32.toInt_inj.mp
  rw [Int32.toInt_ofNat_of_lt (by omega)]
  omega
theorem own_sh : ∀ k : Fin 64, ((Int32.ofNat k.val).toInt64.toBitVec.smod 64).toNat = k.val ∧ (((Int32.ofNat k.val).toInt64.toUInt64.toBitVec % 64).toNat = k.val) := by decide
theorem own_bit (w : Int64) (m : Int32) (h0 : 0 ≤ m.toInt) (h1 : m.toInt < 64) : (w &&& ((1 : Int64) <<< m.toInt64) = 0) ↔ ¬ (((w.toUInt64 >>> m.toInt64.toUInt64).toInt64 &&& 1) = 1) := by
  obtain ⟨k, hk, rfl⟩ := own_small m h0 h1
  obtain ⟨a, b⟩ := own_sh ⟨k, hk⟩
  have e := own_bv w.toBitVec k hk
  rw [← Int64.toBitVec_inj, ← Int64.toBitVec_inj, Int64.toBitVec_and, Int64.toBitVec_shiftLeft, Int64.toBitVec_and, BitVec.shiftLeft_eq', a]
  show _ ↔ ¬ (w.toUInt64 >>> _).toBitVec &&& _ = _
  rw [UInt64.toBitVec_shiftRight, BitVec.ushiftRight_eq', b]
  exact e
theorem own_div64 (j : Int64) (h0 : 0 ≤ j.toInt) : (j / (64 : Int64)).toInt = j.toInt / 64 := by
  rw [Jvm.Kit.i64_div (by intro q; exact absurd q.2 (by decide))]
  rw [Int.tdiv_eq_ediv_of_nonneg h0]
  rfl

theorem own_ltn {y n : Int32} (h : y < n) (hn : n.toInt ≤ 8) : y.toInt < 8 := by
  rw [Int32.lt_iff_toInt_lt] at h
  omega
theorem own_nn0 {y : Int32} (h : ¬ (y < (0 : Int32))) : 0 ≤ y.toInt := by
  rw [Int32.lt_iff_toInt_lt, Int32.toInt_zero] at h
  omega
theorem own_lt27 {y n : Int32} (h : y < n) (hn : n.toInt ≤ 8) : (y.toInt64) < (134217728 : Int64) := by
  have a := own_ltn h hn
  rw [Int64.lt_iff_toInt_lt, Int32.toInt_toInt64]
  have e : (134217728 : Int64).toInt = 134217728 := by decide
  omega
theorem own_inb {y n : Int32} (h0 : ¬ (y < (0 : Int32))) (h : y < n) (hn : n.toInt ≤ 8) : (((y.toInt64) &&& (134217727 : Int64)).toInt32) = y := by
  have a := own_ltn h hn
  have b := own_nn0 h0
  apply Int32.toInt_inj.mp
  have m := Jvm.Kit.i64_mask (y.toInt64) 134217727 (k := 27) (by decide) (by decide)
  rw [Int32.toInt_toInt64] at m
  rw [Jvm.Kit.i32_of_i64 (by omega) (by omega), m]
  omega
theorem own_q64 {i q n : Int32} (h0 : ¬ (i < (0 : Int32))) (h : i < n) (hn : n.toInt ≤ 8) (g0 : ¬ (q < (0 : Int32))) (g1 : q < (64 : Int32)) : (((i.toInt64) * (64 : Int64)) + (q.toInt64)).toInt = i.toInt * 64 + q.toInt ∧ 0 ≤ i.toInt ∧ i.toInt < 8 ∧ 0 ≤ q.toInt ∧ q.toInt < 64 := by
  have a := own_ltn h hn
  have b := own_nn0 h0
  have c := own_nn0 g0
  rw [Int32.lt_iff_toInt_lt] at g1
  have g2 : q.toInt < 64 := g1
  have e : (64 : Int64).toInt = 64 := by decide
  have m : ((i.toInt64) * (64 : Int64)).toInt = i.toInt * 64 := by
    rw [Jvm.Kit.i64_mul (by rw [Int32.toInt_toInt64, e]; omega) (by rw [Int32.toInt_toInt64, e]; omega), Int32.toInt_toInt64, e]
  refine ⟨?_, b, a, c, g2⟩
  rw [Jvm.Kit.i64_add (by rw [m, Int32.toInt_toInt64]; omega) (by rw [m, Int32.toInt_toInt64]; omega), m, Int32.toInt_toInt64]
theorem own_d64 {i q n : Int32} (h0 : ¬ (i < (0 : Int32))) (h : i < n) (hn : n.toInt ≤ 8) (g0 : ¬ (q < (0 : Int32))) (g1 : q < (64 : Int32)) : ((((i.toInt64) * (64 : Int64)) + (q.toInt64)) / (64 : Int64)) = (i.toInt64) := by
  obtain ⟨d, b, a, c, g2⟩ := own_q64 h0 h hn g0 g1
  apply Int64.toInt_inj.mp
  rw [own_div64 _ (by omega), d, Int32.toInt_toInt64]
  omega
theorem own_sh64 {i q n : Int32} (h0 : ¬ (i < (0 : Int32))) (h : i < n) (hn : n.toInt ≤ 8) (g0 : ¬ (q < (0 : Int32))) (g1 : q < (64 : Int32)) : (((((i.toInt64) * (64 : Int64)) + (q.toInt64)).toInt32) &&& 0x3f) = (q &&& 0x3f) := by
  obtain ⟨d, b, a, c, g2⟩ := own_q64 h0 h hn g0 g1
  apply Int32.toInt_inj.mp
  rw [Jvm.Kit.i32_mask _ 0x3f (k := 6) (by decide) (by decide), Jvm.Kit.i32_mask _ 0x3f (k := 6) (by decide) (by decide), Jvm.Kit.i32_of_i64 (by omega) (by omega), d]
  omega
theorem own_b01 (z : Int64) : (z &&& (1 : Int64)) = 0 ∨ (z &&& (1 : Int64)) = 1 := by
  have m := Jvm.Kit.i64_mask z 1 (k := 1) (by decide) (by decide)
  rcases (by omega : (z &&& (1 : Int64)).toInt = 0 ∨ (z &&& (1 : Int64)).toInt = 1) with q | q
  · exact Or.inl (Int64.toInt_inj.mp (q.trans rfl))
  · exact Or.inr (Int64.toInt_inj.mp (q.trans rfl))
theorem own_bq (w : Int64) {i q n : Int32} (h0 : ¬ (i < (0 : Int32))) (h : i < n) (hn : n.toInt ≤ 8) (g0 : ¬ (q < (0 : Int32))) (g1 : q < (64 : Int32)) : (w &&& ((1 : Int64) <<< (((((i.toInt64) * (64 : Int64)) + (q.toInt64)).toInt32) &&& 0x3f).toInt64)) = (0 : Int64) ↔ (((w.toUInt64 >>> (q &&& 0x3f).toInt64.toUInt64).toInt64) &&& (1 : Int64)) = (0 : Int64) := by
  have m := Jvm.Kit.i32_mask q 0x3f (k := 6) (by decide) (by decide)
  rw [own_sh64 h0 h hn g0 g1]
  refine (own_bit w _ (by rw [m]; omega) (by rw [m]; omega)).trans ?_
  rcases own_b01 ((w.toUInt64 >>> (q &&& 0x3f).toInt64.toUInt64).toInt64) with e | e <;> rw [e] <;> decide

theorem own_n1 (x : Int32) : (0 : Int32) < ((1 : Int32) + (x &&& (7 : Int32))) := by
  have m := Jvm.Kit.i32_mask x 7 (k := 3) (by decide) (by decide)
  have e : (1 : Int32).toInt = 1 := by decide
  rw [Int32.lt_iff_toInt_lt, Jvm.Kit.i32_add (by omega) (by omega), Int32.toInt_zero]
  omega
theorem own_n9 (x : Int32) : ((1 : Int32) + (x &&& (7 : Int32))) < (9 : Int32) := by
  have m := Jvm.Kit.i32_mask x 7 (k := 3) (by decide) (by decide)
  have e : (1 : Int32).toInt = 1 := by decide
  have e9 : (9 : Int32).toInt = 9 := by decide
  rw [Int32.lt_iff_toInt_lt, Jvm.Kit.i32_add (by omega) (by omega)]
  omega
theorem own_le8 {n : Int32} (h : n < (9 : Int32)) : n.toInt ≤ 8 := by
  rw [Int32.lt_iff_toInt_lt] at h
  have e9 : (9 : Int32).toInt = 9 := by decide
  omega
theorem own_cap {n : Int32} (h0 : (0 : Int32) < n) (h : n < (9 : Int32)) : n.toNatClampNeg ≤ 8 := by
  have a := own_le8 h
  have b := own_pos h0
  show n.toInt.toNat ≤ 8
  omega
theorem own_notneg {n : Int32} (h0 : (0 : Int32) < n) : ¬ n < 0 := by
  have b := own_pos h0
  rw [Int32.lt_iff_toInt_lt, Int32.toInt_zero]
  omega
theorem own_blk {n : Int32} (h0 : (0 : Int32) < n) (h : n < (9 : Int32)) : ((((((n.toInt64) + (134217727 : Int64))).toUInt64 >>> ((27 : Int32) &&& 0x3f).toInt64.toUInt64).toInt64).toInt32) = (1 : Int32) := by
  have a := own_le8 h
  have b := own_pos h0
  have e : (134217727 : Int64).toInt = 134217727 := by decide
  have s : ((n.toInt64) + (134217727 : Int64)).toInt = n.toInt + 134217727 := by rw [Jvm.Kit.i64_add (by rw [Int32.toInt_toInt64, e]; omega) (by rw [Int32.toInt_toInt64, e]; omega), Int32.toInt_toInt64, e]
  have q := Jvm.Kit.i64_lushr (x := (n.toInt64) + (134217727 : Int64)) (by rw [Jvm.Kit.i64_nonneg, s]; omega) (n := ((27 : Int32) &&& 0x3f).toInt64.toUInt64) (k := 27) (by decide) (by decide)
  apply Int32.toInt_inj.mp
  rw [Jvm.Kit.i32_of_i64 (by rw [q, s]; omega) (by rw [q, s]; omega), q, s]
  have e1 : (1 : Int32).toInt = 1 := by decide
  omega
theorem own_min {n : Int32} (h : n < (9 : Int32)) : ¬ ((134217728 : Int64) < ((n.toInt64) - (0 : Int64))) := by
  have a := own_le8 h
  have e : (134217728 : Int64).toInt = 134217728 := by decide
  rw [Int64.sub_zero, Int64.lt_iff_toInt_lt, Int32.toInt_toInt64]
  omega
theorem own_back (n : Int32) : (((n.toInt64) - (0 : Int64)).toInt32) = n := by rw [Int64.sub_zero, Int32.toInt32_toInt64]

abbrev zs1 : String := "com/example/tuccia/tuccia/WordArray"
theorem d1_0 : decode prog_20_method_1_code 0 = .ok (.aload_n 0, 1) := by decide +kernel
theorem d1_1 : decode prog_20_method_1_code 1 = .ok (.invokespecial 3, 3) := by decide +kernel
theorem d1_4 : decode prog_20_method_1_code 4 = .ok (.aload_n 0, 1) := by decide +kernel
theorem d1_5 : decode prog_20_method_1_code 5 = .ok (.lload_n 1, 1) := by decide +kernel
theorem d1_6 : decode prog_20_method_1_code 6 = .ok (.putfield 9, 3) := by decide +kernel
theorem d1_9 : decode prog_20_method_1_code 9 = .ok (.aload_n 0, 1) := by decide +kernel
theorem d1_10 : decode prog_20_method_1_code 10 = .ok (.lload_n 1, 1) := by decide +kernel
theorem d1_11 : decode prog_20_method_1_code 11 = .ok (.ldc2_w 13, 3) := by decide +kernel
theorem d1_14 : decode prog_20_method_1_code 14 = .ok (.ladd, 1) := by decide +kernel
theorem d1_15 : decode prog_20_method_1_code 15 = .ok (.getstatic 15, 3) := by decide +kernel
theorem d1_18 : decode prog_20_method_1_code 18 = .ok (.lushr, 1) := by decide +kernel
theorem d1_19 : decode prog_20_method_1_code 19 = .ok (.l2i, 1) := by decide +kernel
theorem d1_20 : decode prog_20_method_1_code 20 = .ok (.anewarray 19, 3) := by decide +kernel
theorem d1_23 : decode prog_20_method_1_code 23 = .ok (.putfield 21, 3) := by decide +kernel
theorem d1_26 : decode prog_20_method_1_code 26 = .ok (.iconst 0, 1) := by decide +kernel
theorem d1_27 : decode prog_20_method_1_code 27 = .ok (.istore_n 3, 1) := by decide +kernel
theorem d1_28 : decode prog_20_method_1_code 28 = .ok (.iload_n 3, 1) := by decide +kernel
theorem d1_29 : decode prog_20_method_1_code 29 = .ok (.aload_n 0, 1) := by decide +kernel
theorem d1_30 : decode prog_20_method_1_code 30 = .ok (.getfield 21, 3) := by decide +kernel
theorem d1_33 : decode prog_20_method_1_code 33 = .ok (.arraylength, 1) := by decide +kernel
theorem d1_34 : decode prog_20_method_1_code 34 = .ok (.if_icmp .ge 36, 3) := by decide +kernel
theorem d1_37 : decode prog_20_method_1_code 37 = .ok (.iload_n 3, 1) := by decide +kernel
theorem d1_38 : decode prog_20_method_1_code 38 = .ok (.i2l, 1) := by decide +kernel
theorem d1_39 : decode prog_20_method_1_code 39 = .ok (.getstatic 15, 3) := by decide +kernel
theorem d1_42 : decode prog_20_method_1_code 42 = .ok (.lshl, 1) := by decide +kernel
theorem d1_43 : decode prog_20_method_1_code 43 = .ok (.lstore 4, 2) := by decide +kernel
theorem d1_45 : decode prog_20_method_1_code 45 = .ok (.aload_n 0, 1) := by decide +kernel
theorem d1_46 : decode prog_20_method_1_code 46 = .ok (.getfield 21, 3) := by decide +kernel
theorem d1_49 : decode prog_20_method_1_code 49 = .ok (.iload_n 3, 1) := by decide +kernel
theorem d1_50 : decode prog_20_method_1_code 50 = .ok (.lload_n 1, 1) := by decide +kernel
theorem d1_51 : decode prog_20_method_1_code 51 = .ok (.lload 4, 2) := by decide +kernel
theorem d1_53 : decode prog_20_method_1_code 53 = .ok (.lsub, 1) := by decide +kernel
theorem d1_54 : decode prog_20_method_1_code 54 = .ok (.ldc2_w 25, 3) := by decide +kernel
theorem d1_57 : decode prog_20_method_1_code 57 = .ok (.invokestatic 27, 3) := by decide +kernel
theorem d3_0 : decode jdk_29_method_70_code 0 = .ok (.lload_n 0, 1) := by decide +kernel
theorem d3_1 : decode jdk_29_method_70_code 1 = .ok (.lload_n 2, 1) := by decide +kernel
theorem d3_2 : decode jdk_29_method_70_code 2 = .ok (.lcmp, 1) := by decide +kernel
theorem d3_3 : decode jdk_29_method_70_code 3 = .ok (.ifCond .gt 7, 3) := by decide +kernel
theorem d3_6 : decode jdk_29_method_70_code 6 = .ok (.lload_n 0, 1) := by decide +kernel
theorem d3_7 : decode jdk_29_method_70_code 7 = .ok (.goto 4, 3) := by decide +kernel
theorem d3_11 : decode jdk_29_method_70_code 11 = .ok (.lreturn, 1) := by decide +kernel
theorem ef_1 (m : MethodId) (x0 : Int64) (x1 : Int64) : entryFrame m #[(.long x0), (.long x1)] 4 = mkF m 0 #[.val (.long x0), .second, .val (.long x1), .second] [] := by first | (simp [entryFrame, mkF, argsToLocals, Value.category]; done) | rfl
def Q1 (Z : State) (j76 : Int64) (h0 : Heap) (n0 : Nat) (v : Option Value) (h : Heap) (L : List Loc) : Prop := v = some (.long j76) ∧ Fr n0 L ∧ h = h0
set_option maxRecDepth 65536 in
set_option maxHeartbeats 40000000 in
theorem rm1 (l : Launch) (Z : State) (a0 : Array Value) (hw : ∀ d ∈ tables_1, d.before a0 Z = true) (ws : List Jvm.Cond) (j76 : Int64) (h0 : Heap) (n0 : Nat) (O0 : Old Z n0 h0) (pC119 : ¬ ((134217728 : Int64) < j76)) :
    MetFree l (⟨"java/lang/Math", "min", "(JJ)J"⟩ : MethodName) (head1 (Jvm.Cond.code (⟨"java/lang/Math", "min", "(JJ)J"⟩ : MethodName) jdk_29_method_70_code 4 (some .long) :: ws) ({ frames := 0, cells := 0, slots := 0, locals := 0 } : Room)) (fun a U => a = #[(.long j76), (.long (134217728 : Int64))] ∧ Z.Warmed39 U.vm ∧ U.heap = h0) (fun _ _ _ _ _ => True) (fun _ U o U' => ∃ v L, o = .returned v ∧ Q1 Z j76 h0 n0 v U'.heap L ∧ FrameEnd U o U' L ({ frames := 0, cells := 0, slots := 0, locals := 0 } : Room).cells ({ frames := 0, cells := 0, slots := 0, locals := 0 } : Room).slots) := by
  refine MetFree.of_bodySF (Jvm.Free.JP.mathPlain rfl (by decide +kernel)) hisR ?_
  intro p e s m args below meth c s₁ Bd hml0 hP hK
  obtain ⟨rfl, hZ, hh⟩ := hP
  have hx := Bd.exec
  have hby := Bd.bytes
  have hml : c.maxLocals = 4 := hml0
  have hown : s.vm.findClass "java/lang/Math" = some m.cls := findClass_of_methodNamed Bd.named
  have hnm := (name_of_methodNamed Bd.named Bd.method).1
  have X0 : Stand p l e ({ frames := 0, cells := 0, slots := 0, locals := 0 } : Room) s m #[(.long j76), (.long (134217728 : Int64))] below meth c s₁ [] 0 0 := Stand.of_body Bd
  have e0 : s₁.heap = h0 := by rw [← hh, Bd.state]; rfl
  have N0 := Fr.nil n0
  refine own_out ?_
  refine own_via (fun t k => castTop (ef_1 m j76 (134217728 : Int64)) (XS.lloadN X0.here hx rfl (hb hby d3_0) rfl (XS.lloadN X0.here hx rfl (hb hby d3_1) rfl (XS.lcmp X0.here hx rfl (hb hby d3_2) rfl (XS.ifNo X0.here hx rfl (hb hby d3_3) rfl ((if0 _ _).trans (flt (fun q => pC119 ((lw_gt j76 (134217728 : Int64)).mp q))).2.2.1) (XS.lloadN X0.here hx rfl (hb hby d3_6) rfl (XS.goto X0.here hx rfl (pc0 := 7) (pc' := 11) rfl (hb hby d3_7) (by decide) (by decide) k))))))) ?_
  show own_Goes p e below (s₁.setTop (mkF m 11 #[.val (.long j76), .second, .val (.long (134217728 : Int64)), .second] [(.long j76)])) _
  obtain ⟨fs, hr, hrun, hended, hW, hsame⟩ := X0.leave (v := some (.long j76)) (fun h => by rw [Bd.returns] at h; cases h)
  refine own_end (t := s₁.setFrames fs) ?_ ⟨_, hrun, hended, _, _, rfl, ?_, ⟨_, rfl⟩, hW, hsame.mono (by decide) (by decide)⟩
  · jvm_step X0.here [X0.here.top, hx, (hb hby d3_11), X0.method', Bd.returns, narrow]
    first | (intro acts; rw [hr _ acts rfl rfl rfl]) | rw [hr _ _ rfl rfl rfl]
    exact Steps.refl _
  · show Q1 Z j76 h0 n0 _ s₁.heap _
    rw [e0]
    exact ⟨rfl, N0, rfl⟩
theorem pd_1 : parseMethodDescriptor "(JJ)J" = some ⟨[.long, .long], some .long⟩ := by decide +kernel
theorem d1_60 : decode prog_20_method_1_code 60 = .ok (.l2i, 1) := by decide +kernel
theorem d1_61 : decode prog_20_method_1_code 61 = .ok (.newarray .long, 2) := by decide +kernel
theorem d1_63 : decode prog_20_method_1_code 63 = .ok (.aastore, 1) := by decide +kernel
theorem d1_64 : decode prog_20_method_1_code 64 = .ok (.iinc 3 1, 3) := by decide +kernel
theorem d1_67 : decode prog_20_method_1_code 67 = .ok (.goto (-39), 3) := by decide +kernel
theorem d1_70 : decode prog_20_method_1_code 70 = .ok (.aload_n 0, 1) := by decide +kernel
theorem d1_71 : decode prog_20_method_1_code 71 = .ok (.aload_n 0, 1) := by decide +kernel
theorem d1_72 : decode prog_20_method_1_code 72 = .ok (.getfield 21, 3) := by decide +kernel
theorem d1_75 : decode prog_20_method_1_code 75 = .ok (.iconst 0, 1) := by decide +kernel
theorem d1_76 : decode prog_20_method_1_code 76 = .ok (.aaload, 1) := by decide +kernel
theorem d1_77 : decode prog_20_method_1_code 77 = .ok (.putfield 33, 3) := by decide +kernel
theorem d1_80 : decode prog_20_method_1_code 80 = .ok (.return_, 1) := by decide +kernel
theorem ef_2 (m : MethodId) (x0 : Addr) (x1 : Int64) : entryFrame m #[(.ref x0), (.long x1)] 6 = mkF m 0 #[rv x0, .val (.long x1), .second, .unset, .unset, .unset] [] := by first | (simp [entryFrame, mkF, argsToLocals, Value.category]; done) | rfl
theorem pn_1 : plainName "com/example/tuccia/tuccia/WordArray" = true := by first | (simp [plainName, overriddenIn]; done) | decide +kernel
def Q2 (Z : State) (a15 : Addr) (p16 : Int32) (j17 : Int64) (h0 : Heap) (n0 : Nat) (v : Option Value) (h : Heap) (L : List Loc) : Prop := (∃ (b122 : Addr) (k121 : ClassId), v = none ∧ Fr n0 L ∧ Keep h0 h [a15] ∧ Exa Z h a15 zs1 ∧ Fld Z h a15 zs1 "length" "J" (.long (p16.toInt64)) ∧ Fld Z h a15 zs1 "firstBlock" "[J" (.ref b122) ∧ h0.size ≤ b122 ∧ Arv Z h b122 k121 .long p16 [] (.long (0 : Int64)) ∧ Exa Z h b122 "[J")
set_option maxRecDepth 65536 in
set_option maxHeartbeats 40000000 in
theorem rm2 (l : Launch) (Z : State) (a0 : Array Value) (hw : ∀ d ∈ tables_1, d.before a0 Z = true) (ws : List Jvm.Cond) (a15 : Addr) (p16 : Int32) (j17 : Int64) (h0 : Heap) (n0 : Nat) (O0 : Old Z n0 h0) (pF_a15_length : Fld Z h0 a15 zs1 "length" "J" (.long j17)) (pE_a15 : Exa Z h0 a15 zs1) (pG_a15 : n0 ≤ a15) (S_WordArray_BLOCK_SHIFT : Sta Z Z.heap zs1 "BLOCK_SHIFT" "I" (.int (27 : Int32))) (pC23 : (0 : Int32) < p16) (pC24 : p16 < (9 : Int32)) (pF_a15_blocks : Fld Z h0 a15 zs1 "blocks" "[[J" .null) (pF_a15_firstBlock : Fld Z h0 a15 zs1 "firstBlock" "[J" .null) :
    MetFree l (⟨zs1, "<init>", "(J)V"⟩ : MethodName) (head1 (Jvm.Cond.code (⟨zs1, "<init>", "(J)V"⟩ : MethodName) prog_20_method_1_code 6 none :: ws) ({ frames := 1, cells := 2, slots := 9, locals := 17 } : Room)) (fun a U => a = #[(.ref a15), (.long (p16.toInt64))] ∧ Z.Warmed39 U.vm ∧ U.heap = h0) (fun _ _ _ _ _ => True) (fun _ U o U' => ∃ v L, o = .returned v ∧ Q2 Z a15 p16 j17 h0 n0 v U'.heap L ∧ FrameEnd U o U' L ({ frames := 1, cells := 2, slots := 9, locals := 17 } : Room).cells ({ frames := 1, cells := 2, slots := 9, locals := 17 } : Room).slots) := by
  refine MetFree.of_bodySF (plainFor_of_name pn_1) hisR ?_
  intro p e s m args below meth c s₁ Bd hml0 hP hK
  obtain ⟨rfl, hZ, hh⟩ := hP
  have hx := Bd.exec
  have hby := Bd.bytes
  have hml : c.maxLocals = 6 := hml0
  have hown : s.vm.findClass zs1 = some m.cls := findClass_of_methodNamed Bd.named
  have hnm := (name_of_methodNamed Bd.named Bd.method).1
  have X0 : Stand p l e ({ frames := 1, cells := 2, slots := 9, locals := 17 } : Room) s m #[(.ref a15), (.long (p16.toInt64))] below meth c s₁ [] 0 0 := Stand.of_body Bd
  have e0 : s₁.heap = h0 := by rw [← hh, Bd.state]; rfl
  have N0 := Fr.nil n0
  refine own_out ?_
  refine own_via (fun t k => castTop (ef_2 m a15 (p16.toInt64)) (XS.aloadN X0.here hx rfl (hb hby d1_0) rfl rfl k)) ?_
  obtain ⟨T56, X56, e56, st56⟩ := initO X0 hx hZ hown (wd hw 7 rfl) (wd hw 8 rfl) (wd hw 9 rfl) e0 (g := (mkF m 1 #[rv a15, .val (.long (p16.toInt64)), .second, .unset, .unset, .unset] [(.ref a15)])) rfl (by rw [hml]; rfl) rfl (hb hby d1_1) (by decide) (W := 0) (by show 2 * 0 + _ ≤ _; exact Nat.le_of_eq rfl) (by decide)
  refine own_via (fun t k => st56 t (XS.aloadN X56.here hx rfl (hb hby d1_4) rfl rfl (XS.lloadN X56.here hx rfl (hb hby d1_5) rfl k))) ?_
  show own_Goes p e below (T56.setTop (mkF m 6 #[rv a15, .val (.long (p16.toInt64)), .second, .unset, .unset, .unset] [(.long (p16.toInt64)), (.ref a15)])) _
  obtain ⟨T57, h57, X57, e57, W57, st57⟩ := putF X56 hx hZ hown (host := "") (Or.inl (wd hw 10 rfl)) Via.refl e56 pF_a15_length pE_a15 (Or.inr ⟨(wd hw 11 rfl), rfl, hnm⟩) (wd hw 2 rfl) (ty := .long) (by decide) rfl rfl (g := (mkF m 6 #[rv a15, .val (.long (p16.toInt64)), .second, .unset, .unset, .unset] [(.long (p16.toInt64)), (.ref a15)])) rfl rfl (hb hby d1_6)
  refine own_via (fun t k => st57 t k) ?_
  have Fw57 : Fld Z h57 a15 zs1 "length" "J" (.long (p16.toInt64)) := pF_a15_length.same W57
  have N57 := Fr.snoc X57 N0 pG_a15
  show own_Goes p e below (T57.setTop (mkF m 9 #[rv a15, .val (.long (p16.toInt64)), .second, .unset, .unset, .unset] [])) _
  refine own_via (fun t k => XS.aloadN X57.here hx rfl (hb hby d1_9) rfl rfl (XS.lloadN X57.here hx rfl (hb hby d1_10) rfl (X57.ldc2Long hx hown (mvT hZ (wd hw 12 rfl)) (g := (mkF m 11 #[rv a15, .val (.long (p16.toInt64)), .second, .unset, .unset, .unset] [(.long (p16.toInt64)), (.ref a15)])) rfl (hb hby d1_11) t (XS.ladd X57.here hx rfl (hb hby d1_14) rfl k)))) ?_
  show own_Goes p e below (T57.setTop (mkF m 15 #[rv a15, .val (.long (p16.toInt64)), .second, .unset, .unset, .unset] [(.long ((p16.toInt64) + (134217727 : Int64))), (.ref a15)])) _
  have O59 : Old Z n0 h57 := (O0.wr W57 pG_a15)
  obtain ⟨T58, X58, e58, st58⟩ := getS2 X57 hx hZ hown (host := "") (Or.inl (wd hw 13 rfl)) Via.refl e57 (S_WordArray_BLOCK_SHIFT.ext O59.2) (g := (mkF m 15 #[rv a15, .val (.long (p16.toInt64)), .second, .unset, .unset, .unset] [(.long ((p16.toInt64) + (134217727 : Int64))), (.ref a15)])) rfl (hb hby d1_15)
  refine own_via (fun t k => st58 t (XS.lushr X58.here hx rfl (hb hby d1_18) rfl (XS.l2i X58.here hx rfl (hb hby d1_19) rfl k))) ?_
  show own_Goes p e below (T58.setTop (mkF m 20 #[rv a15, .val (.long (p16.toInt64)), .second, .unset, .unset, .unset] [(.int (((((p16.toInt64) + (134217727 : Int64)).toUInt64 >>> ((27 : Int32) &&& 0x3f).toInt64.toUInt64).toInt64).toInt32)), (.ref a15)])) _
  show own_Goes p e below (T58.setTop (mkF m 20 #[rv a15, .val (.long (p16.toInt64)), .second, .unset, .unset, .unset] [(.int (((((p16.toInt64) + (134217727 : Int64)).toUInt64 >>> ((27 : Int32) &&& 0x3f).toInt64.toUInt64).toInt64).toInt32)), (.ref a15)])) _
  rw [own_blk pC23 pC24]
  show own_Goes p e below (T58.setTop (mkF m 20 #[rv a15, .val (.long (p16.toInt64)), .second, .unset, .unset, .unset] [(.int (1 : Int32)), (.ref a15)])) _
  obtain ⟨T60, h60, k60, X60, e60, E60, A60, -, O60, st60⟩ := newRA X58 hx hZ hown (C := "[J") (ty := .long) (by decide) (wd hw 15 rfl) (wd hw 16 rfl) e58 (g := (mkF m 20 #[rv a15, .val (.long (p16.toInt64)), .second, .unset, .unset, .unset] [(.int (1 : Int32)), (.ref a15)])) rfl (hb hby d1_20) rfl (by decide) (cap := 1) (by decide) (by decide) (by decide) (by decide) (ad := "[[J") (by decide)
  obtain ⟨b61, q60⟩ : ∃ z, z = h57.size := ⟨_, rfl⟩
  rw [← q60] at A60 st60
  refine own_via (fun t k => st60 t k) ?_
  have g62 : n0 ≤ b61 := Nat.le_trans (own_old O59) (Nat.le_of_eq q60.symm)
  have Z64 : h0.size ≤ h57.size := (Nat.le_trans (Nat.le_refl _) (Nat.le_of_eq W57.size.symm))
  have B63 : h0.size ≤ b61 := Nat.le_trans Z64 (Nat.le_of_eq q60.symm)
  have V65 : Arv Z h60 b61 k60 (.array .long) (1 : Int32) [] .null := Arv.new A60 (by decide)
  show own_Goes p e below (T60.setTop (mkF m 23 #[rv a15, .val (.long (p16.toInt64)), .second, .unset, .unset, .unset] [(.ref b61), (.ref a15)])) _
  have F66 : Fld Z h60 a15 zs1 "blocks" "[[J" .null := ((pF_a15_blocks.other W57 (Or.inr (slot_ne (Or.inr (wd hw 18 rfl)) (Or.inr (wd hw 11 rfl)) (by decide) (t := (.array (.array .long))) (t' := .long) (by decide) (by decide)))).ext E60)
  have E67 : Exa Z h60 a15 zs1 := ((pE_a15.wr W57).ext E60)
  obtain ⟨T68, h68, X68, e68, W68, st68⟩ := putF X60 hx hZ hown (host := "") (Or.inl (wd hw 17 rfl)) Via.refl e60 F66 E67 (Or.inr ⟨(wd hw 18 rfl), rfl, hnm⟩) (wd hw 2 rfl) (ty := (.array (.array .long))) (by decide) rfl rfl (g := (mkF m 23 #[rv a15, .val (.long (p16.toInt64)), .second, .unset, .unset, .unset] [(.ref b61), (.ref a15)])) rfl rfl (hb hby d1_23)
  refine own_via (fun t k => st68 t k) ?_
  have Fw68 : Fld Z h68 a15 zs1 "blocks" "[[J" (.ref b61) := F66.same W68
  have N68 := Fr.snoc X68 N57 pG_a15
  show own_Goes p e below (T68.setTop (mkF m 26 #[rv a15, .val (.long (p16.toInt64)), .second, .unset, .unset, .unset] [])) _
  refine own_via (fun t k => XS.iconst X68.here hx rfl (hb hby d1_26) (XS.istoreN X68.here hx rfl (hb hby d1_27) rfl (l' := #[rv a15, .val (.long (p16.toInt64)), .second, iv (0 : Int32), .unset, .unset]) rfl (XS.iloadN X68.here hx rfl (hb hby d1_28) rfl (XS.aloadN X68.here hx rfl (hb hby d1_29) rfl rfl k)))) ?_
  show own_Goes p e below (T68.setTop (mkF m 30 #[rv a15, .val (.long (p16.toInt64)), .second, iv (0 : Int32), .unset, .unset] [(.ref a15), (.int (0 : Int32))])) _
  obtain ⟨T69, X69, e69, st69⟩ := getF X68 hx hZ hown (host := "") (Or.inl (wd hw 17 rfl)) Via.refl e68 Fw68 (g := (mkF m 30 #[rv a15, .val (.long (p16.toInt64)), .second, iv (0 : Int32), .unset, .unset] [(.ref a15), (.int (0 : Int32))])) rfl rfl (hb hby d1_30)
  refine own_via (fun t k => st69 t k) ?_
  have V70 : Arv Z h68 b61 k60 (.array .long) (1 : Int32) [] .null := (V65.other W68 (Ne.symm (Nat.ne_of_lt (Nat.lt_of_lt_of_le pE_a15.lt B63))))
  obtain ⟨cl71, Ar71, -, S71, M71, -, -⟩ := id (V70)
  refine own_via (fun t k => X69.arraylength hx (by rw [e69]; exact Ar71.1) (State.isArrayOf_alike hZ.alike Ar71.2.1) (g := (mkF m 33 #[rv a15, .val (.long (p16.toInt64)), .second, iv (0 : Int32), .unset, .unset] [(.ref b61), (.int (0 : Int32))])) rfl rfl (hb hby d1_33) t k) ?_
  rw [len_of S71 M71]
  show own_Goes p e below (T69.setTop (mkF m 34 #[rv a15, .val (.long (p16.toInt64)), .second, iv (0 : Int32), .unset, .unset] [(.int (1 : Int32)), (.int (0 : Int32))])) _
  refine own_via (fun t k => XS.icmpNo X69.here hx rfl (hb hby d1_34) rfl (tlt (by decide : (0 : Int32) < (1 : Int32))).2.1 (XS.iloadN X69.here hx rfl (hb hby d1_37) rfl (XS.i2l X69.here hx rfl (hb hby d1_38) rfl k))) ?_
  show own_Goes p e below (T69.setTop (mkF m 39 #[rv a15, .val (.long (p16.toInt64)), .second, iv (0 : Int32), .unset, .unset] [(.long (0 : Int64))])) _
  have O73 : Old Z n0 h68 := ((O59.ext E60).wr W68 pG_a15)
  obtain ⟨T72, X72, e72, st72⟩ := getS2 X69 hx hZ hown (host := "") (Or.inl (wd hw 13 rfl)) Via.refl e69 (S_WordArray_BLOCK_SHIFT.ext O73.2) (g := (mkF m 39 #[rv a15, .val (.long (p16.toInt64)), .second, iv (0 : Int32), .unset, .unset] [(.long (0 : Int64))])) rfl (hb hby d1_39)
  refine own_via (fun t k => st72 t (XS.lshl X72.here hx rfl (hb hby d1_42) rfl (XS.lstore X72.here hx rfl (hb hby d1_43) rfl (l' := #[rv a15, .val (.long (p16.toInt64)), .second, iv (0 : Int32), .val (.long (0 : Int64)), .second]) rfl (XS.aloadN X72.here hx rfl (hb hby d1_45) rfl rfl k)))) ?_
  show own_Goes p e below (T72.setTop (mkF m 46 #[rv a15, .val (.long (p16.toInt64)), .second, iv (0 : Int32), .val (.long (0 : Int64)), .second] [(.ref a15)])) _
  obtain ⟨T74, X74, e74, st74⟩ := getF X72 hx hZ hown (host := "") (Or.inl (wd hw 17 rfl)) Via.refl e72 Fw68 (g := (mkF m 46 #[rv a15, .val (.long (p16.toInt64)), .second, iv (0 : Int32), .val (.long (0 : Int64)), .second] [(.ref a15)])) rfl rfl (hb hby d1_46)
  refine own_via (fun t k => st74 t (XS.iloadN X74.here hx rfl (hb hby d1_49) rfl (XS.lloadN X74.here hx rfl (hb hby d1_50) rfl (XS.lload X74.here hx rfl (hb hby d1_51) rfl (XS.lsub X74.here hx rfl (hb hby d1_53) rfl (X74.ldc2Long hx hown (mvT hZ (wd hw 19 rfl)) (g := (mkF m 54 #[rv a15, .val (.long (p16.toInt64)), .second, iv (0 : Int32), .val (.long (0 : Int64)), .second] [(.long ((p16.toInt64) - (0 : Int64))), (.int (0 : Int32)), (.ref b61)])) rfl (hb hby d1_54) t k)))))) ?_
  show own_Goes p e below (T74.setTop (mkF m 57 #[rv a15, .val (.long (p16.toInt64)), .second, iv (0 : Int32), .val (.long (0 : Int64)), .second] [(.long (134217728 : Int64)), (.long ((p16.toInt64) - (0 : Int64))), (.int (0 : Int32)), (.ref b61)])) _
  obtain ⟨_, T75, _, X75, hQ75, st75⟩ := own_cs X74 hx hZ hown (wd hw 20 rfl) (wd hw 21 rfl) (wd hw 23 rfl) (wd hw 22 rfl) (by decide) (rm1 l Z a0 hw [] ((p16.toInt64) - (0 : Int64)) h68 n0 O73 (own_min pC24)) e74 (g := (mkF m 57 #[rv a15, .val (.long (p16.toInt64)), .second, iv (0 : Int32), .val (.long (0 : Int64)), .second] [(.long (134217728 : Int64)), (.long ((p16.toInt64) - (0 : Int64))), (.int (0 : Int32)), (.ref b61)])) rfl (by rw [hml]; rfl) (rest := [(.int (0 : Int32)), (.ref b61)]) (W := 2) (lenOf pd_1 rfl) rfl (by show 2 * 0 + _ ≤ _; exact Nat.le_of_eq rfl) (hb hby d1_57) (by decide) (by decide) (by decide) (by decide)
  obtain ⟨rfl, Nq75, hh120⟩ := hQ75
  have N75 := Fr.app N68 Nq75
  refine own_via (fun t k => st75 t (XS.l2i X75.here hx rfl (hb hby d1_60) rfl k)) ?_
  show own_Goes p e below (T75.setTop (mkF m 61 #[rv a15, .val (.long (p16.toInt64)), .second, iv (0 : Int32), .val (.long (0 : Int64)), .second] [(.int (((p16.toInt64) - (0 : Int64)).toInt32)), (.int (0 : Int32)), (.ref b61)])) _
  show own_Goes p e below (T75.setTop (mkF m 61 #[rv a15, .val (.long (p16.toInt64)), .second, iv (0 : Int32), .val (.long (0 : Int64)), .second] [(.int (((p16.toInt64) - (0 : Int64)).toInt32)), (.int (0 : Int32)), (.ref b61)])) _
  rw [own_back p16]
  show own_Goes p e below (T75.setTop (mkF m 61 #[rv a15, .val (.long (p16.toInt64)), .second, iv (0 : Int32), .val (.long (0 : Int64)), .second] [(.int p16), (.int (0 : Int32)), (.ref b61)])) _
  obtain ⟨T121, h121, k121, X121, e121, E121, A121, a121x, st121⟩ := newPE X75 hx hZ (wd hw 24 rfl) hh120 (g := (mkF m 61 #[rv a15, .val (.long (p16.toInt64)), .second, iv (0 : Int32), .val (.long (0 : Int64)), .second] [(.int p16), (.int (0 : Int32)), (.ref b61)])) rfl (hb hby d1_61) rfl (own_notneg pC23) (cap := 8) (own_cap pC23 pC24) (by decide) (by decide) (by decide) (ad := "[J") (by decide)
  obtain ⟨b122, q121⟩ : ∃ z, z = h68.size := ⟨_, rfl⟩
  rw [← q121] at A121 st121 a121x
  refine own_via (fun t k => st121 t k) ?_
  have N123 : b61 ≠ b122 := Nat.ne_of_lt (Nat.lt_of_lt_of_le V70.lt (Nat.le_of_eq q121.symm))
  have g124 : n0 ≤ b122 := Nat.le_trans (own_old O73) (Nat.le_of_eq q121.symm)
  have Z126 : h0.size ≤ h68.size := (Nat.le_trans (Nat.le_trans Z64 E60.1) (Nat.le_of_eq W68.size.symm))
  have B125 : h0.size ≤ b122 := Nat.le_trans Z126 (Nat.le_of_eq q121.symm)
  have V127 : Arv Z h121 b122 k121 .long p16 [] (.long (0 : Int64)) := Arv.new A121 (own_notneg pC23)
  show own_Goes p e below (T121.setTop (mkF m 63 #[rv a15, .val (.long (p16.toInt64)), .second, iv (0 : Int32), .val (.long (0 : Int64)), .second] [(.ref b122), (.int (0 : Int32)), (.ref b61)])) _
  have V128 : Arv Z h121 b61 k60 (.array .long) (1 : Int32) [] .null := (V70.ext E121)
  have V129 : Arv Z h121 b61 k60 (.array .long) (1 : Int32) [.null] .null := V128.pad (pad_rep [] .null 1)
  obtain ⟨cl130, Ar130, qq130, S130, M130, H130, G130⟩ := id (V129)
  have hin130 : ¬ ((0 : Int32) < 0 ∨ cl130.slots.size ≤ ((0 : Int32)).toNatClampNeg) := inb_of S130 ⟨by decide, by decide⟩
  obtain ⟨T130, h130, X130, e130, W130, st130⟩ := stR X121 hx hZ e121 Ar130 (j := (0 : Int32)) hin130 rfl (Sto.ofVA Ar130 qq130 O60 (Ins.self a121x)) (g := (mkF m 63 #[rv a15, .val (.long (p16.toInt64)), .second, iv (0 : Int32), .val (.long (0 : Int64)), .second] [(.ref b122), (.int (0 : Int32)), (.ref b61)])) rfl rfl (hb hby d1_63)
  refine own_via (fun t k => st130 t k) ?_
  have V131 : Arv Z h130 b61 k60 (.array .long) (1 : Int32) [(.ref b122)] .null := Arv.set Ar130 qq130 S130 M130 H130 G130 rfl W130 0 rfl (Nat.le_of_ble_eq_true rfl)
  have N130 := Fr.snoc X130 N75 g62
  show own_Goes p e below (T130.setTop (mkF m 64 #[rv a15, .val (.long (p16.toInt64)), .second, iv (0 : Int32), .val (.long (0 : Int64)), .second] [])) _
  refine own_via (fun t k => XS.iinc X130.here hx rfl (hb hby d1_64) rfl (l' := #[rv a15, .val (.long (p16.toInt64)), .second, iv (1 : Int32), .val (.long (0 : Int64)), .second]) rfl (XS.goto X130.here hx rfl (pc0 := 67) (pc' := 28) rfl (hb hby d1_67) (by decide) (by decide) (XS.iloadN X130.here hx rfl (hb hby d1_28) rfl (XS.aloadN X130.here hx rfl (hb hby d1_29) rfl rfl k)))) ?_
  show own_Goes p e below (T130.setTop (mkF m 30 #[rv a15, .val (.long (p16.toInt64)), .second, iv (1 : Int32), .val (.long (0 : Int64)), .second] [(.ref a15), (.int (1 : Int32))])) _
  have F132 : Fld Z h130 a15 zs1 "blocks" "[[J" (.ref b61) := ((Fw68.ext E121).other W130 (Or.inl (Nat.ne_of_lt (Nat.lt_of_lt_of_le pE_a15.lt B63))))
  obtain ⟨T133, X133, e133, st133⟩ := getF X130 hx hZ hown (host := "") (Or.inl (wd hw 17 rfl)) Via.refl e130 F132 (g := (mkF m 30 #[rv a15, .val (.long (p16.toInt64)), .second, iv (1 : Int32), .val (.long (0 : Int64)), .second] [(.ref a15), (.int (1 : Int32))])) rfl rfl (hb hby d1_30)
  refine own_via (fun t k => st133 t k) ?_
  obtain ⟨cl134, Ar134, -, S134, M134, -, -⟩ := id (V131)
  refine own_via (fun t k => X133.arraylength hx (by rw [e133]; exact Ar134.1) (State.isArrayOf_alike hZ.alike Ar134.2.1) (g := (mkF m 33 #[rv a15, .val (.long (p16.toInt64)), .second, iv (1 : Int32), .val (.long (0 : Int64)), .second] [(.ref b61), (.int (1 : Int32))])) rfl rfl (hb hby d1_33) t k) ?_
  rw [len_of S134 M134]
  show own_Goes p e below (T133.setTop (mkF m 34 #[rv a15, .val (.long (p16.toInt64)), .second, iv (1 : Int32), .val (.long (0 : Int64)), .second] [(.int (1 : Int32)), (.int (1 : Int32))])) _
  refine own_via (fun t k => XS.icmpYes X133.here hx rfl (pc0 := 34) (pc' := 70) rfl (hb hby d1_34) rfl (flt (by decide : ¬ ((1 : Int32) < (1 : Int32)))).2.1 (by decide) (by decide) (XS.aloadN X133.here hx rfl (hb hby d1_70) rfl rfl (XS.aloadN X133.here hx rfl (hb hby d1_71) rfl rfl k))) ?_
  show own_Goes p e below (T133.setTop (mkF m 72 #[rv a15, .val (.long (p16.toInt64)), .second, iv (1 : Int32), .val (.long (0 : Int64)), .second] [(.ref a15), (.ref a15)])) _
  obtain ⟨T135, X135, e135, st135⟩ := getF X133 hx hZ hown (host := "") (Or.inl (wd hw 17 rfl)) Via.refl e133 F132 (g := (mkF m 72 #[rv a15, .val (.long (p16.toInt64)), .second, iv (1 : Int32), .val (.long (0 : Int64)), .second] [(.ref a15), (.ref a15)])) rfl rfl (hb hby d1_72)
  refine own_via (fun t k => st135 t (XS.iconst X135.here hx rfl (hb hby d1_75) k)) ?_
  obtain ⟨cl136, Ar136, qq136, S136, M136, H136, G136⟩ := id (V131)
  have hin136 : ¬ ((0 : Int32) < 0 ∨ cl136.slots.size ≤ ((0 : Int32)).toNatClampNeg) := inb_of S136 ⟨by decide, by decide⟩
  refine own_via (fun t k => X135.aaload hx (j := (0 : Int32)) (v := (.ref b122)) (by rw [e135]; exact Ar136.1) (State.isArrayOf_alike hZ.alike Ar136.2.1) rfl Ar136.2.2 hin136 (Has.at H136 hin136 rfl) (g := (mkF m 76 #[rv a15, .val (.long (p16.toInt64)), .second, iv (1 : Int32), .val (.long (0 : Int64)), .second] [(.int (0 : Int32)), (.ref b61), (.ref a15)])) rfl rfl (hb hby d1_76) t k) ?_
  have F137 : Fld Z h130 a15 zs1 "firstBlock" "[J" .null := (((((pF_a15_firstBlock.other W57 (Or.inr (slot_ne (Or.inr (wd hw 27 rfl)) (Or.inr (wd hw 11 rfl)) (by decide) (t := (.array .long)) (t' := .long) (by decide) (by decide)))).ext E60).other W68 (Or.inr (slot_ne (Or.inr (wd hw 27 rfl)) (Or.inr (wd hw 18 rfl)) (by decide) (t := (.array .long)) (t' := (.array (.array .long))) (by decide) (by decide)))).ext E121).other W130 (Or.inl (Nat.ne_of_lt (Nat.lt_of_lt_of_le pE_a15.lt B63))))
  have E138 : Exa Z h130 a15 zs1 := (((E67.wr W68).ext E121).wr W130)
  obtain ⟨T139, h139, X139, e139, W139, st139⟩ := putF X135 hx hZ hown (host := "") (Or.inl (wd hw 26 rfl)) Via.refl e135 F137 E138 (Or.inr ⟨(wd hw 27 rfl), rfl, hnm⟩) (wd hw 2 rfl) (ty := (.array .long)) (by decide) rfl rfl (g := (mkF m 77 #[rv a15, .val (.long (p16.toInt64)), .second, iv (1 : Int32), .val (.long (0 : Int64)), .second] [(.ref b122), (.ref a15)])) rfl rfl (hb hby d1_77)
  refine own_via (fun t k => st139 t k) ?_
  have Fw139 : Fld Z h139 a15 zs1 "firstBlock" "[J" (.ref b122) := F137.same W139
  have N139 := Fr.snoc X139 N130 pG_a15
  show own_Goes p e below (T139.setTop (mkF m 80 #[rv a15, .val (.long (p16.toInt64)), .second, iv (1 : Int32), .val (.long (0 : Int64)), .second] [])) _
  obtain ⟨fs, hr, hrun, hended, hW, hsame⟩ := X139.leave (v := none) (fun _ => rfl)
  refine own_end (t := T139.setFrames fs) ?_ ⟨_, hrun, hended, _, _, rfl, ?_, ⟨_, rfl⟩, hW, hsame.mono (by decide) (by decide)⟩
  · exact X139.returnOut hx Bd.returns (hb hby d1_80) hr
  have E140 : Exa Z h139 a15 zs1 := (E138.wr W139)
  have F141 : Fld Z h139 a15 zs1 "length" "J" (.long (p16.toInt64)) := (((((Fw57.ext E60).other W68 (Or.inr (slot_ne (Or.inr (wd hw 11 rfl)) (Or.inr (wd hw 18 rfl)) (by decide) (t := .long) (t' := (.array (.array .long))) (by decide) (by decide)))).ext E121).other W130 (Or.inl (Nat.ne_of_lt (Nat.lt_of_lt_of_le pE_a15.lt B63)))).other W139 (Or.inr (slot_ne (Or.inr (wd hw 11 rfl)) (Or.inr (wd hw 27 rfl)) (by decide) (t := .long) (t' := (.array .long)) (by decide) (by decide))))
  have V142 : Arv Z h139 b122 k121 .long p16 [] (.long (0 : Int64)) := ((V127.other W130 (Ne.symm N123)).other W139 (Ne.symm (Nat.ne_of_lt (Nat.lt_of_lt_of_le pE_a15.lt B125))))
  have E143 : Exa Z h139 b122 "[J" := ((a121x.wr W130).wr W139)
  · show Q2 Z a15 p16 j17 h0 n0 _ T139.heap _
    rw [e139]
    exact ⟨b122, k121, rfl, N139, (((((((Keep.refl h0 [a15]).wr W57 (Or.inl (List.mem_of_getElem? (i := 0) rfl))).ext E60).wr W68 (Or.inl (List.mem_of_getElem? (i := 0) rfl))).ext E121).wr W130 (Or.inr B63)).wr W139 (Or.inl (List.mem_of_getElem? (i := 0) rfl))), E140, F141, Fw139, B125, V142, E143⟩
theorem pd_2 : parseMethodDescriptor "(J)V" = some ⟨[.long], none⟩ := by decide +kernel
theorem d4_0 : decode prog_20_method_4_code 0 = .ok (.aload_n 0, 1) := by decide +kernel
theorem d4_1 : decode prog_20_method_4_code 1 = .ok (.lload_n 1, 1) := by decide +kernel
theorem d4_2 : decode prog_20_method_4_code 2 = .ok (.invokevirtual 36, 3) := by decide +kernel
theorem d5_0 : decode prog_20_method_11_code 0 = .ok (.lload_n 1, 1) := by decide +kernel
theorem d5_1 : decode prog_20_method_11_code 1 = .ok (.ldc2_w 25, 3) := by decide +kernel
theorem d5_4 : decode prog_20_method_11_code 4 = .ok (.lcmp, 1) := by decide +kernel
theorem d5_5 : decode prog_20_method_11_code 5 = .ok (.ifCond .ge 11, 3) := by decide +kernel
theorem d5_8 : decode prog_20_method_11_code 8 = .ok (.aload_n 0, 1) := by decide +kernel
theorem d5_9 : decode prog_20_method_11_code 9 = .ok (.getfield 33, 3) := by decide +kernel
theorem d5_12 : decode prog_20_method_11_code 12 = .ok (.astore_n 3, 1) := by decide +kernel
theorem d5_13 : decode prog_20_method_11_code 13 = .ok (.goto 15, 3) := by decide +kernel
theorem d5_28 : decode prog_20_method_11_code 28 = .ok (.aload_n 3, 1) := by decide +kernel
theorem d5_29 : decode prog_20_method_11_code 29 = .ok (.areturn, 1) := by decide +kernel
theorem ef_3 (m : MethodId) (x0 : Addr) (x1 : Int64) : entryFrame m #[(.ref x0), (.long x1)] 4 = mkF m 0 #[rv x0, .val (.long x1), .second, .unset] [] := by first | (simp [entryFrame, mkF, argsToLocals, Value.category]; done) | rfl
def Q3 (Z : State) (a202 : Addr) (p203 : Int32) (p205 : Int32) (a204 : Addr) (h0 : Heap) (n0 : Nat) (v : Option Value) (h : Heap) (L : List Loc) : Prop := v = some (.ref a204) ∧ Fr n0 L ∧ h = h0
set_option maxRecDepth 65536 in
set_option maxHeartbeats 40000000 in
theorem rm3 (l : Launch) (Z : State) (a0 : Array Value) (hw : ∀ d ∈ tables_1, d.before a0 Z = true) (ws : List Jvm.Cond) (a202 : Addr) (p203 : Int32) (p205 : Int32) (a204 : Addr) (h0 : Heap) (n0 : Nat) (O0 : Old Z n0 h0) (pC220 : p203 < p205) (pC213 : p205 < (9 : Int32)) (pF_a202_firstBlock : Fld Z h0 a202 zs1 "firstBlock" "[J" (.ref a204)) :
    MetFree l (⟨zs1, "blockOf", "(J)[J"⟩ : MethodName) (head1 (Jvm.Cond.code (⟨zs1, "blockOf", "(J)[J"⟩ : MethodName) prog_20_method_11_code 4 (some (.array .long)) :: ws) ({ frames := 0, cells := 0, slots := 0, locals := 0 } : Room)) (fun a U => a = #[(.ref a202), (.long (p203.toInt64))] ∧ Z.Warmed39 U.vm ∧ U.heap = h0) (fun _ _ _ _ _ => True) (fun _ U o U' => ∃ v L, o = .returned v ∧ Q3 Z a202 p203 p205 a204 h0 n0 v U'.heap L ∧ FrameEnd U o U' L ({ frames := 0, cells := 0, slots := 0, locals := 0 } : Room).cells ({ frames := 0, cells := 0, slots := 0, locals := 0 } : Room).slots) := by
  refine MetFree.of_bodySF (plainFor_of_name pn_1) hisR ?_
  intro p e s m args below meth c s₁ Bd hml0 hP hK
  obtain ⟨rfl, hZ, hh⟩ := hP
  have hx := Bd.exec
  have hby := Bd.bytes
  have hml : c.maxLocals = 4 := hml0
  have hown : s.vm.findClass zs1 = some m.cls := findClass_of_methodNamed Bd.named
  have hnm := (name_of_methodNamed Bd.named Bd.method).1
  have X0 : Stand p l e ({ frames := 0, cells := 0, slots := 0, locals := 0 } : Room) s m #[(.ref a202), (.long (p203.toInt64))] below meth c s₁ [] 0 0 := Stand.of_body Bd
  have e0 : s₁.heap = h0 := by rw [← hh, Bd.state]; rfl
  have N0 := Fr.nil n0
  refine own_out ?_
  refine own_via (fun t k => castTop (ef_3 m a202 (p203.toInt64)) (XS.lloadN X0.here hx rfl (hb hby d5_0) rfl (X0.ldc2Long hx hown (mvT hZ (wd hw 19 rfl)) (g := (mkF m 1 #[rv a202, .val (.long (p203.toInt64)), .second, .unset] [(.long (p203.toInt64))])) rfl (hb hby d5_1) t (XS.lcmp X0.here hx rfl (hb hby d5_4) rfl (XS.ifNo X0.here hx rfl (hb hby d5_5) rfl ((if0 _ _).trans (tlt ((lw_lt (p203.toInt64) (134217728 : Int64)).mpr (own_lt27 pC220 (own_le8 pC213)))).2.1) (XS.aloadN X0.here hx rfl (hb hby d5_8) rfl rfl k)))))) ?_
  show own_Goes p e below (s₁.setTop (mkF m 9 #[rv a202, .val (.long (p203.toInt64)), .second, .unset] [(.ref a202)])) _
  obtain ⟨T244, X244, e244, st244⟩ := getF X0 hx hZ hown (host := "") (Or.inl (wd hw 26 rfl)) Via.refl e0 pF_a202_firstBlock (g := (mkF m 9 #[rv a202, .val (.long (p203.toInt64)), .second, .unset] [(.ref a202)])) rfl rfl (hb hby d5_9)
  refine own_via (fun t k => st244 t (XS.astoreN X244.here hx rfl (hb hby d5_12) rfl rfl (l' := #[rv a202, .val (.long (p203.toInt64)), .second, rv a204]) rfl (XS.goto X244.here hx rfl (pc0 := 13) (pc' := 28) rfl (hb hby d5_13) (by decide) (by decide) (XS.aloadN X244.here hx rfl (hb hby d5_28) rfl rfl k)))) ?_
  show own_Goes p e below (T244.setTop (mkF m 29 #[rv a202, .val (.long (p203.toInt64)), .second, rv a204] [(.ref a204)])) _
  obtain ⟨fs, hr, hrun, hended, hW, hsame⟩ := X244.leave (v := some (.ref a204)) (fun h => by rw [Bd.returns] at h; cases h)
  refine own_end (t := T244.setFrames fs) ?_ ⟨_, hrun, hended, _, _, rfl, ?_, ⟨_, rfl⟩, hW, hsame.mono (by decide) (by decide)⟩
  · jvm_step X244.here [X244.here.top, hx, (hb hby d5_29), X244.method', Bd.returns, Value.isRef, FieldType.isReference]
    first | (intro acts; rw [hr _ acts rfl rfl rfl]) | rw [hr _ _ rfl rfl rfl]
    exact Steps.refl _
  · show Q3 Z a202 p203 p205 a204 h0 n0 _ T244.heap _
    rw [e244]
    exact ⟨rfl, N0, rfl⟩
theorem pd_3 : parseMethodDescriptor "(J)[J" = some ⟨[.long], some (.array .long)⟩ := by decide +kernel
theorem own_selPriv {args : Array Value} {s : State} {y : MethodName} {n : Nat} (hw : (Jvm.Cond.instantiable y.cls n).before args s = true) (hi : (Jvm.Cond.instanceMethod y).before args s = true) (hp : s.PrivateAt y) (hy : y.cls ≠ "java/lang/invoke/MethodHandle" ∧ y.cls ≠ "java/lang/invoke/VarHandle") : (Jvm.Cond.selects y.cls y y).before args s = true := by
  obtain ⟨c, k, h1, h2, -, h4, -⟩ := Cond.instantiable_spec hw
  exact selects_self_of_private h1 h2 (by cases hk : k.isInterface <;> simp_all) hp hi hy
theorem d4_5 : decode prog_20_method_4_code 5 = .ok (.lload_n 1, 1) := by decide +kernel
theorem d4_6 : decode prog_20_method_4_code 6 = .ok (.invokestatic 40, 3) := by decide +kernel
theorem d6_0 : decode prog_20_method_12_code 0 = .ok (.lload_n 0, 1) := by decide +kernel
theorem d6_1 : decode prog_20_method_12_code 1 = .ok (.ldc2_w 13, 3) := by decide +kernel
theorem d6_4 : decode prog_20_method_12_code 4 = .ok (.land, 1) := by decide +kernel
theorem d6_5 : decode prog_20_method_12_code 5 = .ok (.l2i, 1) := by decide +kernel
theorem d6_6 : decode prog_20_method_12_code 6 = .ok (.ireturn, 1) := by decide +kernel
theorem ef_4 (m : MethodId) (x0 : Int64) : entryFrame m #[(.long x0)] 2 = mkF m 0 #[.val (.long x0), .second] [] := by first | (simp [entryFrame, mkF, argsToLocals, Value.category]; done) | rfl
def Q4 (Z : State) (p247 : Int32) (h0 : Heap) (n0 : Nat) (v : Option Value) (h : Heap) (L : List Loc) : Prop := v = some (.int (((p247.toInt64) &&& (134217727 : Int64)).toInt32)) ∧ Fr n0 L ∧ h = h0
set_option maxRecDepth 65536 in
set_option maxHeartbeats 40000000 in
theorem rm4 (l : Launch) (Z : State) (a0 : Array Value) (hw : ∀ d ∈ tables_1, d.before a0 Z = true) (ws : List Jvm.Cond) (p247 : Int32) (h0 : Heap) (n0 : Nat) (O0 : Old Z n0 h0) :
    MetFree l (⟨zs1, "inBlock", "(J)I"⟩ : MethodName) (head1 (Jvm.Cond.code (⟨zs1, "inBlock", "(J)I"⟩ : MethodName) prog_20_method_12_code 2 (some .int) :: ws) ({ frames := 0, cells := 0, slots := 0, locals := 0 } : Room)) (fun a U => a = #[(.long (p247.toInt64))] ∧ Z.Warmed39 U.vm ∧ U.heap = h0) (fun _ _ _ _ _ => True) (fun _ U o U' => ∃ v L, o = .returned v ∧ Q4 Z p247 h0 n0 v U'.heap L ∧ FrameEnd U o U' L ({ frames := 0, cells := 0, slots := 0, locals := 0 } : Room).cells ({ frames := 0, cells := 0, slots := 0, locals := 0 } : Room).slots) := by
  refine MetFree.of_bodySF (plainFor_of_name pn_1) hisR ?_
  intro p e s m args below meth c s₁ Bd hml0 hP hK
  obtain ⟨rfl, hZ, hh⟩ := hP
  have hx := Bd.exec
  have hby := Bd.bytes
  have hml : c.maxLocals = 2 := hml0
  have hown : s.vm.findClass zs1 = some m.cls := findClass_of_methodNamed Bd.named
  have hnm := (name_of_methodNamed Bd.named Bd.method).1
  have X0 : Stand p l e ({ frames := 0, cells := 0, slots := 0, locals := 0 } : Room) s m #[(.long (p247.toInt64))] below meth c s₁ [] 0 0 := Stand.of_body Bd
  have e0 : s₁.heap = h0 := by rw [← hh, Bd.state]; rfl
  have N0 := Fr.nil n0
  refine own_out ?_
  refine own_via (fun t k => castTop (ef_4 m (p247.toInt64)) (XS.lloadN X0.here hx rfl (hb hby d6_0) rfl (X0.ldc2Long hx hown (mvT hZ (wd hw 12 rfl)) (g := (mkF m 1 #[.val (.long (p247.toInt64)), .second] [(.long (p247.toInt64))])) rfl (hb hby d6_1) t (XS.land X0.here hx rfl (hb hby d6_4) rfl (XS.l2i X0.here hx rfl (hb hby d6_5) rfl k))))) ?_
  show own_Goes p e below (s₁.setTop (mkF m 6 #[.val (.long (p247.toInt64)), .second] [(.int (((p247.toInt64) &&& (134217727 : Int64)).toInt32))])) _
  obtain ⟨fs, hr, hrun, hended, hW, hsame⟩ := X0.leave (v := some (.int (((p247.toInt64) &&& (134217727 : Int64)).toInt32))) (fun h => by rw [Bd.returns] at h; cases h)
  refine own_end (t := s₁.setFrames fs) ?_ ⟨_, hrun, hended, _, _, rfl, ?_, ⟨_, rfl⟩, hW, hsame.mono (by decide) (by decide)⟩
  · exact retI X0 hx Bd.returns (hb hby d6_6) hr
  · show Q4 Z p247 h0 n0 _ s₁.heap _
    rw [e0]
    exact ⟨rfl, N0, rfl⟩
theorem pd_4 : parseMethodDescriptor "(J)I" = some ⟨[.long], some .int⟩ := by decide +kernel
theorem d4_9 : decode prog_20_method_4_code 9 = .ok (.lload_n 3, 1) := by decide +kernel
theorem d4_10 : decode prog_20_method_4_code 10 = .ok (.lastore, 1) := by decide +kernel
theorem d4_11 : decode prog_20_method_4_code 11 = .ok (.return_, 1) := by decide +kernel
theorem ef_5 (m : MethodId) (x0 : Addr) (x1 : Int64) (x2 : Int64) : entryFrame m #[(.ref x0), (.long x1), (.long x2)] 5 = mkF m 0 #[rv x0, .val (.long x1), .second, .val (.long x2), .second] [] := by first | (simp [entryFrame, mkF, argsToLocals, Value.category]; done) | rfl
def Q5 (Z : State) (a158 : Addr) (p159 : Int32) (j160 : Int64) (p162 : Int32) (a161 : Addr) (k163 : ClassId) (h0 : Heap) (n0 : Nat) (v : Option Value) (h : Heap) (L : List Loc) : Prop := v = none ∧ Fr n0 L ∧ Keep h0 h [a161] ∧ Arh Z h a161 k163 .long p162 [(p159, (.long j160))] [] (.long (0 : Int64)) ∧ Exa Z h a161 "[J"
set_option maxRecDepth 65536 in
set_option maxHeartbeats 40000000 in
theorem rm5 (l : Launch) (Z : State) (a0 : Array Value) (hw : ∀ d ∈ tables_1, d.before a0 Z = true) (ws : List Jvm.Cond) (a158 : Addr) (p159 : Int32) (j160 : Int64) (p162 : Int32) (a161 : Addr) (k163 : ClassId) (h0 : Heap) (n0 : Nat) (O0 : Old Z n0 h0) (pC177 : p159 < p162) (pC170 : p162 < (9 : Int32)) (pF_a158_firstBlock : Fld Z h0 a158 zs1 "firstBlock" "[J" (.ref a161)) (pE_a158 : Exa Z h0 a158 zs1) (pC176 : ¬ (p159 < (0 : Int32))) (pV_a161 : Arv Z h0 a161 k163 .long p162 [] (.long (0 : Int64))) (pG_a161 : n0 ≤ a161) (pE_a161 : Exa Z h0 a161 "[J") :
    MetFree l (⟨zs1, "set", "(JJ)V"⟩ : MethodName) (head1 (Jvm.Cond.code (⟨zs1, "set", "(JJ)V"⟩ : MethodName) prog_20_method_4_code 5 none :: ws) ({ frames := 1, cells := 0, slots := 0, locals := 15 } : Room)) (fun a U => a = #[(.ref a158), (.long (p159.toInt64)), (.long j160)] ∧ Z.Warmed39 U.vm ∧ U.heap = h0) (fun _ _ _ _ _ => True) (fun _ U o U' => ∃ v L, o = .returned v ∧ Q5 Z a158 p159 j160 p162 a161 k163 h0 n0 v U'.heap L ∧ FrameEnd U o U' L ({ frames := 1, cells := 0, slots := 0, locals := 15 } : Room).cells ({ frames := 1, cells := 0, slots := 0, locals := 15 } : Room).slots) := by
  refine MetFree.of_bodySF (plainFor_of_name pn_1) hisR ?_
  intro p e s m args below meth c s₁ Bd hml0 hP hK
  obtain ⟨rfl, hZ, hh⟩ := hP
  have hx := Bd.exec
  have hby := Bd.bytes
  have hml : c.maxLocals = 5 := hml0
  have hown : s.vm.findClass zs1 = some m.cls := findClass_of_methodNamed Bd.named
  have hnm := (name_of_methodNamed Bd.named Bd.method).1
  have X0 : Stand p l e ({ frames := 1, cells := 0, slots := 0, locals := 15 } : Room) s m #[(.ref a158), (.long (p159.toInt64)), (.long j160)] below meth c s₁ [] 0 0 := Stand.of_body Bd
  have e0 : s₁.heap = h0 := by rw [← hh, Bd.state]; rfl
  have N0 := Fr.nil n0
  refine own_out ?_
  refine own_via (fun t k => castTop (ef_5 m a158 (p159.toInt64) j160) (XS.aloadN X0.here hx rfl (hb hby d4_0) rfl rfl (XS.lloadN X0.here hx rfl (hb hby d4_1) rfl k))) ?_
  show own_Goes p e below (s₁.setTop (mkF m 2 #[rv a158, .val (.long (p159.toInt64)), .second, .val (.long j160), .second] [(.long (p159.toInt64)), (.ref a158)])) _
  obtain ⟨cq201, q201, q201'⟩ := pE_a158.cell
  obtain ⟨_, _, ⟨T201, L201, c201, n201⟩, -, X201, ⟨Lc201, hQ201, l201, y201, z201⟩, st201⟩ := X0.privateBack hx (y := (⟨zs1, "blockOf", "(J)[J"⟩ : MethodName)) hown (mvT hZ (wd hw 33 rfl)) (mvT hZ (wd hw 34 rfl)) (own_selPriv (mvT hZ (wd hw 2 rfl)) (mvT hZ (wd hw 34 rfl)) (Cond.privateMethod_at (mvP hZ (wd hw 35 rfl) (args := #[]))) (by decide)) (Cond.privateMethod_at (mvP hZ (wd hw 35 rfl) (args := #[]))) (mvT hZ (wd hw 36 rfl)) (by decide) (backOf (W := 0) (rm3 l Z a0 hw [] a158 p159 p162 a161 h0 n0 O0 pC177 pC170 pF_a158_firstBlock) hZ (wd hw 36 rfl) (wd hw 3 rfl) (by decide) (by decide)) (g := (mkF m 2 #[rv a158, .val (.long (p159.toInt64)), .second, .val (.long j160), .second] [(.long (p159.toInt64)), (.ref a158)])) rfl (by rw [hml]; rfl) (Steps.refl _) (a := a158) (by rw [e0]; exact q201) q201' (argsL := [(.long (p159.toInt64))]) (rest := []) (lenOf pd_3 rfl) rfl (by show 2 * 0 + _ ≤ _; exact Nat.le_of_eq rfl) (hb hby d4_2) (fun _ _ => ⟨rfl, e0, (by decide : 0 + 0 ≤ _), (by decide : 0 + 0 ≤ _)⟩)
  dsimp only [Pt.U, Pt.locs, Pt.cells, Pt.slots] at X201 l201 y201 z201 st201 hQ201
  subst l201 y201 z201
  obtain ⟨rfl, Nq201, hh245⟩ := hQ201
  have N201 := Fr.app N0 Nq201
  refine own_via (fun t k => st201.trans (XS.lloadN X201.here hx rfl (hb hby d4_5) rfl k)) ?_
  obtain ⟨_, T246, _, X246, hQ246, st246⟩ := own_cs X201 hx hZ hown (wd hw 37 rfl) (wd hw 38 rfl) (wd hw 39 rfl) (wd hw 3 rfl) (by decide) (rm4 l Z a0 hw [] p159 h0 n0 O0 ) hh245 (g := (mkF m 6 #[rv a158, .val (.long (p159.toInt64)), .second, .val (.long j160), .second] [(.long (p159.toInt64)), (.ref a161)])) rfl (by rw [hml]; rfl) (rest := [(.ref a161)]) (W := 1) (lenOf pd_4 rfl) rfl (by show 2 * 0 + _ ≤ _; exact Nat.le_of_eq rfl) (hb hby d4_6) (by decide) (by decide) (by decide) (by decide)
  obtain ⟨rfl, Nq246, hh289⟩ := hQ246
  have N246 := Fr.app N201 Nq246
  refine own_via (fun t k => st246 t k) ?_
  show own_Goes p e below (T246.setTop (mkF m 9 #[rv a158, .val (.long (p159.toInt64)), .second, .val (.long j160), .second] [(.int (((p159.toInt64) &&& (134217727 : Int64)).toInt32)), (.ref a161)])) _
  show own_Goes p e below (T246.setTop (mkF m 9 #[rv a158, .val (.long (p159.toInt64)), .second, .val (.long j160), .second] [(.int (((p159.toInt64) &&& (134217727 : Int64)).toInt32)), (.ref a161)])) _
  rw [own_inb pC176 pC177 (own_le8 pC170)]
  show own_Goes p e below (T246.setTop (mkF m 9 #[rv a158, .val (.long (p159.toInt64)), .second, .val (.long j160), .second] [(.int p159), (.ref a161)])) _
  refine own_via (fun t k => XS.lloadN X246.here hx rfl (hb hby d4_9) rfl k) ?_
  obtain ⟨cl290, Ar290, qq290, S290, M290, H290, G290⟩ := id (pV_a161.arh)
  have hin290 : ¬ (p159 < 0 ∨ cl290.slots.size ≤ (p159).toNatClampNeg) := inb_of S290 ⟨pC176, pC177⟩
  obtain ⟨T290, h290, X290, e290, W290, st290⟩ := stJ X246 hx hZ hh289 Ar290 (j := p159) hin290 (g := (mkF m 10 #[rv a158, .val (.long (p159.toInt64)), .second, .val (.long j160), .second] [(.long j160), (.int p159), (.ref a161)])) rfl rfl (hb hby d4_10)
  refine own_via (fun t k => st290 t k) ?_
  have V291 : Arh Z h290 a161 k163 .long p162 [(p159, (.long j160))] [] (.long (0 : Int64)) := Arh.push Ar290 qq290 S290 M290 H290 G290 rfl W290 hin290
  have N290 := Fr.snoc X290 N246 pG_a161
  show own_Goes p e below (T290.setTop (mkF m 11 #[rv a158, .val (.long (p159.toInt64)), .second, .val (.long j160), .second] [])) _
  obtain ⟨fs, hr, hrun, hended, hW, hsame⟩ := X290.leave (v := none) (fun _ => rfl)
  refine own_end (t := T290.setFrames fs) ?_ ⟨_, hrun, hended, _, _, rfl, ?_, ⟨_, rfl⟩, hW, hsame.mono (by decide) (by decide)⟩
  · exact X290.returnOut hx Bd.returns (hb hby d4_11) hr
  have E292 : Exa Z h290 a161 "[J" := (pE_a161.wr W290)
  · show Q5 Z a158 p159 j160 p162 a161 k163 h0 n0 _ T290.heap _
    rw [e290]
    exact ⟨rfl, N290, ((Keep.refl h0 [a161]).wr W290 (Or.inl (List.mem_of_getElem? (i := 0) rfl))), V291, E292⟩
theorem pd_5 : parseMethodDescriptor "(JJ)V" = some ⟨[.long, .long], none⟩ := by decide +kernel
theorem d7_0 : decode prog_20_method_3_code 0 = .ok (.aload_n 0, 1) := by decide +kernel
theorem d7_1 : decode prog_20_method_3_code 1 = .ok (.lload_n 1, 1) := by decide +kernel
theorem d7_2 : decode prog_20_method_3_code 2 = .ok (.invokevirtual 36, 3) := by decide +kernel
theorem d7_5 : decode prog_20_method_3_code 5 = .ok (.lload_n 1, 1) := by decide +kernel
theorem d7_6 : decode prog_20_method_3_code 6 = .ok (.invokestatic 40, 3) := by decide +kernel
theorem d7_9 : decode prog_20_method_3_code 9 = .ok (.laload, 1) := by decide +kernel
theorem d7_10 : decode prog_20_method_3_code 10 = .ok (.lreturn, 1) := by decide +kernel
theorem ef_6 (m : MethodId) (x0 : Addr) (x1 : Int64) : entryFrame m #[(.ref x0), (.long x1)] 3 = mkF m 0 #[rv x0, .val (.long x1), .second] [] := by first | (simp [entryFrame, mkF, argsToLocals, Value.category]; done) | rfl
def Q6 (Z : State) (a297 : Addr) (p298 : Int32) (p300 : Int32) (a299 : Addr) (k301 : ClassId) (j302 : Int64) (h0 : Heap) (n0 : Nat) (v : Option Value) (h : Heap) (L : List Loc) : Prop := v = some (.long j302) ∧ Fr n0 L ∧ h = h0
set_option maxRecDepth 65536 in
set_option maxHeartbeats 40000000 in
theorem rm6 (l : Launch) (Z : State) (a0 : Array Value) (hw : ∀ d ∈ tables_1, d.before a0 Z = true) (ws : List Jvm.Cond) (a297 : Addr) (p298 : Int32) (p300 : Int32) (a299 : Addr) (k301 : ClassId) (j302 : Int64) (h0 : Heap) (n0 : Nat) (O0 : Old Z n0 h0) (pC316 : p298 < p300) (pC309 : p300 < (9 : Int32)) (pF_a297_firstBlock : Fld Z h0 a297 zs1 "firstBlock" "[J" (.ref a299)) (pE_a297 : Exa Z h0 a297 zs1) (pC315 : ¬ (p298 < (0 : Int32))) (pV_a299 : Arh Z h0 a299 k301 .long p300 [(p298, (.long j302))] [] (.long (0 : Int64))) :
    MetFree l (⟨zs1, "get", "(J)J"⟩ : MethodName) (head1 (Jvm.Cond.code (⟨zs1, "get", "(J)J"⟩ : MethodName) prog_20_method_3_code 3 (some .long) :: ws) ({ frames := 1, cells := 0, slots := 0, locals := 15 } : Room)) (fun a U => a = #[(.ref a297), (.long (p298.toInt64))] ∧ Z.Warmed39 U.vm ∧ U.heap = h0) (fun _ _ _ _ _ => True) (fun _ U o U' => ∃ v L, o = .returned v ∧ Q6 Z a297 p298 p300 a299 k301 j302 h0 n0 v U'.heap L ∧ FrameEnd U o U' L ({ frames := 1, cells := 0, slots := 0, locals := 15 } : Room).cells ({ frames := 1, cells := 0, slots := 0, locals := 15 } : Room).slots) := by
  refine MetFree.of_bodySF (plainFor_of_name pn_1) hisR ?_
  intro p e s m args below meth c s₁ Bd hml0 hP hK
  obtain ⟨rfl, hZ, hh⟩ := hP
  have hx := Bd.exec
  have hby := Bd.bytes
  have hml : c.maxLocals = 3 := hml0
  have hown : s.vm.findClass zs1 = some m.cls := findClass_of_methodNamed Bd.named
  have hnm := (name_of_methodNamed Bd.named Bd.method).1
  have X0 : Stand p l e ({ frames := 1, cells := 0, slots := 0, locals := 15 } : Room) s m #[(.ref a297), (.long (p298.toInt64))] below meth c s₁ [] 0 0 := Stand.of_body Bd
  have e0 : s₁.heap = h0 := by rw [← hh, Bd.state]; rfl
  have N0 := Fr.nil n0
  refine own_out ?_
  refine own_via (fun t k => castTop (ef_6 m a297 (p298.toInt64)) (XS.aloadN X0.here hx rfl (hb hby d7_0) rfl rfl (XS.lloadN X0.here hx rfl (hb hby d7_1) rfl k))) ?_
  show own_Goes p e below (s₁.setTop (mkF m 2 #[rv a297, .val (.long (p298.toInt64)), .second] [(.long (p298.toInt64)), (.ref a297)])) _
  obtain ⟨cq340, q340, q340'⟩ := pE_a297.cell
  obtain ⟨_, _, ⟨T340, L340, c340, n340⟩, -, X340, ⟨Lc340, hQ340, l340, y340, z340⟩, st340⟩ := X0.privateBack hx (y := (⟨zs1, "blockOf", "(J)[J"⟩ : MethodName)) hown (mvT hZ (wd hw 33 rfl)) (mvT hZ (wd hw 34 rfl)) (own_selPriv (mvT hZ (wd hw 2 rfl)) (mvT hZ (wd hw 34 rfl)) (Cond.privateMethod_at (mvP hZ (wd hw 35 rfl) (args := #[]))) (by decide)) (Cond.privateMethod_at (mvP hZ (wd hw 35 rfl) (args := #[]))) (mvT hZ (wd hw 36 rfl)) (by decide) (backOf (W := 0) (rm3 l Z a0 hw [] a297 p298 p300 a299 h0 n0 O0 pC316 pC309 pF_a297_firstBlock) hZ (wd hw 36 rfl) (wd hw 3 rfl) (by decide) (by decide)) (g := (mkF m 2 #[rv a297, .val (.long (p298.toInt64)), .second] [(.long (p298.toInt64)), (.ref a297)])) rfl (by rw [hml]; rfl) (Steps.refl _) (a := a297) (by rw [e0]; exact q340) q340' (argsL := [(.long (p298.toInt64))]) (rest := []) (lenOf pd_3 rfl) rfl (by show 2 * 0 + _ ≤ _; exact Nat.le_of_eq rfl) (hb hby d7_2) (fun _ _ => ⟨rfl, e0, (by decide : 0 + 0 ≤ _), (by decide : 0 + 0 ≤ _)⟩)
  dsimp only [Pt.U, Pt.locs, Pt.cells, Pt.slots] at X340 l340 y340 z340 st340 hQ340
  subst l340 y340 z340
  obtain ⟨rfl, Nq340, hh341⟩ := hQ340
  have N340 := Fr.app N0 Nq340
  refine own_via (fun t k => st340.trans (XS.lloadN X340.here hx rfl (hb hby d7_5) rfl k)) ?_
  obtain ⟨_, T342, _, X342, hQ342, st342⟩ := own_cs X340 hx hZ hown (wd hw 37 rfl) (wd hw 38 rfl) (wd hw 39 rfl) (wd hw 3 rfl) (by decide) (rm4 l Z a0 hw [] p298 h0 n0 O0 ) hh341 (g := (mkF m 6 #[rv a297, .val (.long (p298.toInt64)), .second] [(.long (p298.toInt64)), (.ref a299)])) rfl (by rw [hml]; rfl) (rest := [(.ref a299)]) (W := 1) (lenOf pd_4 rfl) rfl (by show 2 * 0 + _ ≤ _; exact Nat.le_of_eq rfl) (hb hby d7_6) (by decide) (by decide) (by decide) (by decide)
  obtain ⟨rfl, Nq342, hh343⟩ := hQ342
  have N342 := Fr.app N340 Nq342
  refine own_via (fun t k => st342 t k) ?_
  show own_Goes p e below (T342.setTop (mkF m 9 #[rv a297, .val (.long (p298.toInt64)), .second] [(.int (((p298.toInt64) &&& (134217727 : Int64)).toInt32)), (.ref a299)])) _
  show own_Goes p e below (T342.setTop (mkF m 9 #[rv a297, .val (.long (p298.toInt64)), .second] [(.int (((p298.toInt64) &&& (134217727 : Int64)).toInt32)), (.ref a299)])) _
  rw [own_inb pC315 pC316 (own_le8 pC309)]
  show own_Goes p e below (T342.setTop (mkF m 9 #[rv a297, .val (.long (p298.toInt64)), .second] [(.int p298), (.ref a299)])) _
  obtain ⟨cl344, Ar344, qq344, S344, M344, H344, G344⟩ := id (pV_a299)
  have hin344 : ¬ (p298 < 0 ∨ cl344.slots.size ≤ (p298).toNatClampNeg) := inb_of S344 ⟨pC315, pC316⟩
  refine own_via (fun t k => X342.laload hx (j := p298) (v := (.long j302)) (by rw [hh343]; exact Ar344.1) (State.isArrayOf_alike hZ.alike Ar344.2.1) Ar344.2.2 hin344 (atH H344 hin344 (getH_hit pC315 (rfl : p298 = p298))) (g := (mkF m 9 #[rv a297, .val (.long (p298.toInt64)), .second] [(.int p298), (.ref a299)])) rfl rfl (hb hby d7_9) t k) ?_
  obtain ⟨fs, hr, hrun, hended, hW, hsame⟩ := X342.leave (v := some (.long j302)) (fun h => by rw [Bd.returns] at h; cases h)
  refine own_end (t := T342.setFrames fs) ?_ ⟨_, hrun, hended, _, _, rfl, ?_, ⟨_, rfl⟩, hW, hsame.mono (by decide) (by decide)⟩
  · jvm_step X342.here [X342.here.top, hx, (hb hby d7_10), X342.method', Bd.returns, narrow]
    first | (intro acts; rw [hr _ acts rfl rfl rfl]) | rw [hr _ _ rfl rfl rfl]
    exact Steps.refl _
  · show Q6 Z a297 p298 p300 a299 k301 j302 h0 n0 _ T342.heap _
    rw [hh343]
    exact ⟨rfl, N342, rfl⟩
theorem pd_6 : parseMethodDescriptor "(J)J" = some ⟨[.long], some .long⟩ := by decide +kernel
def Q7 (Z : State) (a350 : Addr) (p351 : Int32) (p353 : Int32) (a352 : Addr) (k354 : ClassId) (p355 : Int32) (j356 : Int64) (h0 : Heap) (n0 : Nat) (v : Option Value) (h : Heap) (L : List Loc) : Prop := (p351 = p355 ∧ v = some (.long j356) ∧ Fr n0 L ∧ h = h0) ∨ (¬ (p351 = p355) ∧ v = some (.long (0 : Int64)) ∧ Fr n0 L ∧ h = h0)
set_option maxRecDepth 65536 in
set_option maxHeartbeats 40000000 in
theorem rm7 (l : Launch) (Z : State) (a0 : Array Value) (hw : ∀ d ∈ tables_1, d.before a0 Z = true) (ws : List Jvm.Cond) (a350 : Addr) (p351 : Int32) (p353 : Int32) (a352 : Addr) (k354 : ClassId) (p355 : Int32) (j356 : Int64) (h0 : Heap) (n0 : Nat) (O0 : Old Z n0 h0) (pC385 : p351 < p353) (pC363 : p353 < (9 : Int32)) (pF_a350_firstBlock : Fld Z h0 a350 zs1 "firstBlock" "[J" (.ref a352)) (pE_a350 : Exa Z h0 a350 zs1) (pC384 : ¬ (p351 < (0 : Int32))) (pV_a352 : Arh Z h0 a352 k354 .long p353 [(p355, (.long j356))] [] (.long (0 : Int64))) :
    MetFree l (⟨zs1, "get", "(J)J"⟩ : MethodName) (head1 (Jvm.Cond.code (⟨zs1, "get", "(J)J"⟩ : MethodName) prog_20_method_3_code 3 (some .long) :: ws) ({ frames := 1, cells := 0, slots := 0, locals := 15 } : Room)) (fun a U => a = #[(.ref a350), (.long (p351.toInt64))] ∧ Z.Warmed39 U.vm ∧ U.heap = h0) (fun _ _ _ _ _ => True) (fun _ U o U' => ∃ v L, o = .returned v ∧ Q7 Z a350 p351 p353 a352 k354 p355 j356 h0 n0 v U'.heap L ∧ FrameEnd U o U' L ({ frames := 1, cells := 0, slots := 0, locals := 15 } : Room).cells ({ frames := 1, cells := 0, slots := 0, locals := 15 } : Room).slots) := by
  refine MetFree.of_bodySF (plainFor_of_name pn_1) hisR ?_
  intro p e s m args below meth c s₁ Bd hml0 hP hK
  obtain ⟨rfl, hZ, hh⟩ := hP
  have hx := Bd.exec
  have hby := Bd.bytes
  have hml : c.maxLocals = 3 := hml0
  have hown : s.vm.findClass zs1 = some m.cls := findClass_of_methodNamed Bd.named
  have hnm := (name_of_methodNamed Bd.named Bd.method).1
  have X0 : Stand p l e ({ frames := 1, cells := 0, slots := 0, locals := 15 } : Room) s m #[(.ref a350), (.long (p351.toInt64))] below meth c s₁ [] 0 0 := Stand.of_body Bd
  have e0 : s₁.heap = h0 := by rw [← hh, Bd.state]; rfl
  have N0 := Fr.nil n0
  refine own_out ?_
  refine own_via (fun t k => castTop (ef_6 m a350 (p351.toInt64)) (XS.aloadN X0.here hx rfl (hb hby d7_0) rfl rfl (XS.lloadN X0.here hx rfl (hb hby d7_1) rfl k))) ?_
  show own_Goes p e below (s₁.setTop (mkF m 2 #[rv a350, .val (.long (p351.toInt64)), .second] [(.long (p351.toInt64)), (.ref a350)])) _
  obtain ⟨cq393, q393, q393'⟩ := pE_a350.cell
  obtain ⟨_, _, ⟨T393, L393, c393, n393⟩, -, X393, ⟨Lc393, hQ393, l393, y393, z393⟩, st393⟩ := X0.privateBack hx (y := (⟨zs1, "blockOf", "(J)[J"⟩ : MethodName)) hown (mvT hZ (wd hw 33 rfl)) (mvT hZ (wd hw 34 rfl)) (own_selPriv (mvT hZ (wd hw 2 rfl)) (mvT hZ (wd hw 34 rfl)) (Cond.privateMethod_at (mvP hZ (wd hw 35 rfl) (args := #[]))) (by decide)) (Cond.privateMethod_at (mvP hZ (wd hw 35 rfl) (args := #[]))) (mvT hZ (wd hw 36 rfl)) (by decide) (backOf (W := 0) (rm3 l Z a0 hw [] a350 p351 p353 a352 h0 n0 O0 pC385 pC363 pF_a350_firstBlock) hZ (wd hw 36 rfl) (wd hw 3 rfl) (by decide) (by decide)) (g := (mkF m 2 #[rv a350, .val (.long (p351.toInt64)), .second] [(.long (p351.toInt64)), (.ref a350)])) rfl (by rw [hml]; rfl) (Steps.refl _) (a := a350) (by rw [e0]; exact q393) q393' (argsL := [(.long (p351.toInt64))]) (rest := []) (lenOf pd_3 rfl) rfl (by show 2 * 0 + _ ≤ _; exact Nat.le_of_eq rfl) (hb hby d7_2) (fun _ _ => ⟨rfl, e0, (by decide : 0 + 0 ≤ _), (by decide : 0 + 0 ≤ _)⟩)
  dsimp only [Pt.U, Pt.locs, Pt.cells, Pt.slots] at X393 l393 y393 z393 st393 hQ393
  subst l393 y393 z393
  obtain ⟨rfl, Nq393, hh394⟩ := hQ393
  have N393 := Fr.app N0 Nq393
  refine own_via (fun t k => st393.trans (XS.lloadN X393.here hx rfl (hb hby d7_5) rfl k)) ?_
  obtain ⟨_, T395, _, X395, hQ395, st395⟩ := own_cs X393 hx hZ hown (wd hw 37 rfl) (wd hw 38 rfl) (wd hw 39 rfl) (wd hw 3 rfl) (by decide) (rm4 l Z a0 hw [] p351 h0 n0 O0 ) hh394 (g := (mkF m 6 #[rv a350, .val (.long (p351.toInt64)), .second] [(.long (p351.toInt64)), (.ref a352)])) rfl (by rw [hml]; rfl) (rest := [(.ref a352)]) (W := 1) (lenOf pd_4 rfl) rfl (by show 2 * 0 + _ ≤ _; exact Nat.le_of_eq rfl) (hb hby d7_6) (by decide) (by decide) (by decide) (by decide)
  obtain ⟨rfl, Nq395, hh396⟩ := hQ395
  have N395 := Fr.app N393 Nq395
  refine own_via (fun t k => st395 t k) ?_
  show own_Goes p e below (T395.setTop (mkF m 9 #[rv a350, .val (.long (p351.toInt64)), .second] [(.int (((p351.toInt64) &&& (134217727 : Int64)).toInt32)), (.ref a352)])) _
  show own_Goes p e below (T395.setTop (mkF m 9 #[rv a350, .val (.long (p351.toInt64)), .second] [(.int (((p351.toInt64) &&& (134217727 : Int64)).toInt32)), (.ref a352)])) _
  rw [own_inb pC384 pC385 (own_le8 pC363)]
  show own_Goes p e below (T395.setTop (mkF m 9 #[rv a350, .val (.long (p351.toInt64)), .second] [(.int p351), (.ref a352)])) _
  obtain ⟨cl397, Ar397, qq397, S397, M397, H397, G397⟩ := id (pV_a352)
  have hin397 : ¬ (p351 < 0 ∨ cl397.slots.size ≤ (p351).toNatClampNeg) := inb_of S397 ⟨pC384, pC385⟩
  by_cases hc398 : p351 = p355
  · refine own_via (fun t k => X395.laload hx (j := p351) (v := (.long j356)) (by rw [hh396]; exact Ar397.1) (State.isArrayOf_alike hZ.alike Ar397.2.1) Ar397.2.2 hin397 (atH H397 hin397 (getH_hit pC384 hc398)) (g := (mkF m 9 #[rv a350, .val (.long (p351.toInt64)), .second] [(.int p351), (.ref a352)])) rfl rfl (hb hby d7_9) t k) ?_
    obtain ⟨fs, hr, hrun, hended, hW, hsame⟩ := X395.leave (v := some (.long j356)) (fun h => by rw [Bd.returns] at h; cases h)
    refine own_end (t := T395.setFrames fs) ?_ ⟨_, hrun, hended, _, _, rfl, ?_, ⟨_, rfl⟩, hW, hsame.mono (by decide) (by decide)⟩
    · jvm_step X395.here [X395.here.top, hx, (hb hby d7_10), X395.method', Bd.returns, narrow]
      first | (intro acts; rw [hr _ acts rfl rfl rfl]) | rw [hr _ _ rfl rfl rfl]
      exact Steps.refl _
    · show Q7 Z a350 p351 p353 a352 k354 p355 j356 h0 n0 _ T395.heap _
      rw [hh396]
      exact Or.inl <| ⟨hc398, rfl, N395, rfl⟩
  · refine own_via (fun t k => X395.laload hx (j := p351) (v := (.long (0 : Int64))) (by rw [hh396]; exact Ar397.1) (State.isArrayOf_alike hZ.alike Ar397.2.1) Ar397.2.2 hin397 (atH H397 hin397 (getH_miss pC384 hc398 rfl)) (g := (mkF m 9 #[rv a350, .val (.long (p351.toInt64)), .second] [(.int p351), (.ref a352)])) rfl rfl (hb hby d7_9) t k) ?_
    obtain ⟨fs, hr, hrun, hended, hW, hsame⟩ := X395.leave (v := some (.long (0 : Int64))) (fun h => by rw [Bd.returns] at h; cases h)
    refine own_end (t := T395.setFrames fs) ?_ ⟨_, hrun, hended, _, _, rfl, ?_, ⟨_, rfl⟩, hW, hsame.mono (by decide) (by decide)⟩
    · jvm_step X395.here [X395.here.top, hx, (hb hby d7_10), X395.method', Bd.returns, narrow]
      first | (intro acts; rw [hr _ acts rfl rfl rfl]) | rw [hr _ _ rfl rfl rfl]
      exact Steps.refl _
    · show Q7 Z a350 p351 p353 a352 k354 p355 j356 h0 n0 _ T395.heap _
      rw [hh396]
      exact Or.inr <| ⟨hc398, rfl, N395, rfl⟩
theorem d8_0 : decode prog_20_method_5_code 0 = .ok (.aload_n 0, 1) := by decide +kernel
theorem d8_1 : decode prog_20_method_5_code 1 = .ok (.lload_n 1, 1) := by decide +kernel
theorem d8_2 : decode prog_20_method_5_code 2 = .ok (.ldc2_w 46, 3) := by decide +kernel
theorem d8_5 : decode prog_20_method_5_code 5 = .ok (.ldiv, 1) := by decide +kernel
theorem d8_6 : decode prog_20_method_5_code 6 = .ok (.invokevirtual 48, 3) := by decide +kernel
theorem d8_9 : decode prog_20_method_5_code 9 = .ok (.lconst 1, 1) := by decide +kernel
theorem d8_10 : decode prog_20_method_5_code 10 = .ok (.lload_n 1, 1) := by decide +kernel
theorem d8_11 : decode prog_20_method_5_code 11 = .ok (.l2i, 1) := by decide +kernel
theorem d8_12 : decode prog_20_method_5_code 12 = .ok (.lshl, 1) := by decide +kernel
theorem d8_13 : decode prog_20_method_5_code 13 = .ok (.land, 1) := by decide +kernel
theorem d8_14 : decode prog_20_method_5_code 14 = .ok (.lconst 0, 1) := by decide +kernel
theorem d8_15 : decode prog_20_method_5_code 15 = .ok (.lcmp, 1) := by decide +kernel
theorem d8_16 : decode prog_20_method_5_code 16 = .ok (.ifCond .eq 7, 3) := by decide +kernel
theorem d8_23 : decode prog_20_method_5_code 23 = .ok (.iconst 0, 1) := by decide +kernel
theorem d8_24 : decode prog_20_method_5_code 24 = .ok (.ireturn, 1) := by decide +kernel
theorem d8_19 : decode prog_20_method_5_code 19 = .ok (.iconst 1, 1) := by decide +kernel
theorem d8_20 : decode prog_20_method_5_code 20 = .ok (.goto 4, 3) := by decide +kernel
theorem ef_7 (m : MethodId) (x0 : Addr) (x1 : Int64) : entryFrame m #[(.ref x0), (.long x1)] 3 = mkF m 0 #[rv x0, .val (.long x1), .second] [] := by first | (simp [entryFrame, mkF, argsToLocals, Value.category]; done) | rfl
def Q8 (Z : State) (a404 : Addr) (p405 : Int32) (p406 : Int32) (p408 : Int32) (a407 : Addr) (k409 : ClassId) (j410 : Int64) (h0 : Heap) (n0 : Nat) (v : Option Value) (h : Heap) (L : List Loc) : Prop := ((j410 &&& ((1 : Int64) <<< (((((p405.toInt64) * (64 : Int64)) + (p406.toInt64)).toInt32) &&& 0x3f).toInt64)) = (0 : Int64) ∧ v = some (.int (0 : Int32)) ∧ Fr n0 L ∧ h = h0) ∨ (¬ ((j410 &&& ((1 : Int64) <<< (((((p405.toInt64) * (64 : Int64)) + (p406.toInt64)).toInt32) &&& 0x3f).toInt64)) = (0 : Int64)) ∧ v = some (.int (1 : Int32)) ∧ Fr n0 L ∧ h = h0)
set_option maxRecDepth 65536 in
set_option maxHeartbeats 40000000 in
theorem rm8 (l : Launch) (Z : State) (a0 : Array Value) (hw : ∀ d ∈ tables_1, d.before a0 Z = true) (ws : List Jvm.Cond) (a404 : Addr) (p405 : Int32) (p406 : Int32) (p408 : Int32) (a407 : Addr) (k409 : ClassId) (j410 : Int64) (h0 : Heap) (n0 : Nat) (O0 : Old Z n0 h0) (pC423 : ¬ (p405 < (0 : Int32))) (pC424 : p405 < p408) (pC417 : p408 < (9 : Int32)) (pC444 : ¬ (p406 < (0 : Int32))) (pC445 : p406 < (64 : Int32)) (pF_a404_firstBlock : Fld Z h0 a404 zs1 "firstBlock" "[J" (.ref a407)) (pE_a404 : Exa Z h0 a404 zs1) (pV_a407 : Arh Z h0 a407 k409 .long p408 [(p405, (.long j410))] [] (.long (0 : Int64))) :
    MetFree l (⟨zs1, "getBit", "(J)Z"⟩ : MethodName) (head1 (Jvm.Cond.code (⟨zs1, "getBit", "(J)Z"⟩ : MethodName) prog_20_method_5_code 3 (some .boolean) :: ws) ({ frames := 2, cells := 0, slots := 0, locals := 29 } : Room)) (fun a U => a = #[(.ref a404), (.long (((p405.toInt64) * (64 : Int64)) + (p406.toInt64)))] ∧ Z.Warmed39 U.vm ∧ U.heap = h0) (fun _ _ _ _ _ => True) (fun _ U o U' => ∃ v L, o = .returned v ∧ Q8 Z a404 p405 p406 p408 a407 k409 j410 h0 n0 v U'.heap L ∧ FrameEnd U o U' L ({ frames := 2, cells := 0, slots := 0, locals := 29 } : Room).cells ({ frames := 2, cells := 0, slots := 0, locals := 29 } : Room).slots) := by
  refine MetFree.of_bodySF (plainFor_of_name pn_1) hisR ?_
  intro p e s m args below meth c s₁ Bd hml0 hP hK
  obtain ⟨rfl, hZ, hh⟩ := hP
  have hx := Bd.exec
  have hby := Bd.bytes
  have hml : c.maxLocals = 3 := hml0
  have hown : s.vm.findClass zs1 = some m.cls := findClass_of_methodNamed Bd.named
  have hnm := (name_of_methodNamed Bd.named Bd.method).1
  have X0 : Stand p l e ({ frames := 2, cells := 0, slots := 0, locals := 29 } : Room) s m #[(.ref a404), (.long (((p405.toInt64) * (64 : Int64)) + (p406.toInt64)))] below meth c s₁ [] 0 0 := Stand.of_body Bd
  have e0 : s₁.heap = h0 := by rw [← hh, Bd.state]; rfl
  have N0 := Fr.nil n0
  refine own_out ?_
  refine own_via (fun t k => castTop (ef_7 m a404 (((p405.toInt64) * (64 : Int64)) + (p406.toInt64))) (XS.aloadN X0.here hx rfl (hb hby d8_0) rfl rfl (XS.lloadN X0.here hx rfl (hb hby d8_1) rfl (X0.ldc2Long hx hown (mvT hZ (wd hw 51 rfl)) (g := (mkF m 2 #[rv a404, .val (.long (((p405.toInt64) * (64 : Int64)) + (p406.toInt64))), .second] [(.long (((p405.toInt64) * (64 : Int64)) + (p406.toInt64))), (.ref a404)])) rfl (hb hby d8_2) t (XS.ldiv X0.here hx rfl (hb hby d8_5) rfl (by decide) k))))) ?_
  show own_Goes p e below (s₁.setTop (mkF m 6 #[rv a404, .val (.long (((p405.toInt64) * (64 : Int64)) + (p406.toInt64))), .second] [(.long ((((p405.toInt64) * (64 : Int64)) + (p406.toInt64)) / (64 : Int64))), (.ref a404)])) _
  show own_Goes p e below (s₁.setTop (mkF m 6 #[rv a404, .val (.long (((p405.toInt64) * (64 : Int64)) + (p406.toInt64))), .second] [(.long ((((p405.toInt64) * (64 : Int64)) + (p406.toInt64)) / (64 : Int64))), (.ref a404)])) _
  rw [own_d64 pC423 pC424 (own_le8 pC417) pC444 pC445]
  show own_Goes p e below (s₁.setTop (mkF m 6 #[rv a404, .val (.long (((p405.toInt64) * (64 : Int64)) + (p406.toInt64))), .second] [(.long (p405.toInt64)), (.ref a404)])) _
  obtain ⟨_, T448, _, X448, hQ448, st448⟩ := own_cv X0 hx hZ hown (wd hw 52 rfl) (wd hw 41 rfl) (wd hw 43 rfl) (wd hw 42 rfl) (wd hw 44 rfl) (wd hw 3 rfl) (by decide) (rm6 l Z a0 hw [] a404 p405 p408 a407 k409 j410 h0 n0 O0 pC424 pC417 pF_a404_firstBlock pE_a404 pC423 pV_a407) e0 pE_a404 (g := (mkF m 6 #[rv a404, .val (.long (((p405.toInt64) * (64 : Int64)) + (p406.toInt64))), .second] [(.long (p405.toInt64)), (.ref a404)])) rfl (by rw [hml]; rfl) (rest := []) (W := 0) (lenOf pd_6 rfl) rfl (by show 2 * 0 + _ ≤ _; exact Nat.le_of_eq rfl) (hb hby d8_6) (by decide) (by decide) (by decide) (by decide)
  obtain ⟨rfl, Nq448, hh449⟩ := hQ448
  have N448 := Fr.app N0 Nq448
  refine own_via (fun t k => st448 t (XS.lconst X448.here hx rfl (hb hby d8_9) (XS.lloadN X448.here hx rfl (hb hby d8_10) rfl (XS.l2i X448.here hx rfl (hb hby d8_11) rfl (XS.lshl X448.here hx rfl (hb hby d8_12) rfl (XS.land X448.here hx rfl (hb hby d8_13) rfl (XS.lconst X448.here hx rfl (hb hby d8_14) (XS.lcmp X448.here hx rfl (hb hby d8_15) rfl k)))))))) ?_
  show own_Goes p e below (T448.setTop (mkF m 16 #[rv a404, .val (.long (((p405.toInt64) * (64 : Int64)) + (p406.toInt64))), .second] [(.int (lcmpW (j410 &&& ((1 : Int64) <<< (((((p405.toInt64) * (64 : Int64)) + (p406.toInt64)).toInt32) &&& 0x3f).toInt64)) (0 : Int64)))])) _
  by_cases hc450 : (j410 &&& ((1 : Int64) <<< (((((p405.toInt64) * (64 : Int64)) + (p406.toInt64)).toInt32) &&& 0x3f).toInt64)) = (0 : Int64)
  · refine own_via (fun t k => XS.ifYes X448.here hx rfl (pc0 := 16) (pc' := 23) rfl (hb hby d8_16) rfl ((if0 _ _).trans (teq ((lw_eq (j410 &&& ((1 : Int64) <<< (((((p405.toInt64) * (64 : Int64)) + (p406.toInt64)).toInt32) &&& 0x3f).toInt64)) (0 : Int64)).mpr hc450)).1) (by decide) (by decide) (XS.iconst X448.here hx rfl (hb hby d8_23) k)) ?_
    obtain ⟨fs, hr, hrun, hended, hW, hsame⟩ := X448.leave (v := some (.int (0 : Int32))) (fun h => by rw [Bd.returns] at h; cases h)
    refine own_end (t := T448.setFrames fs) ?_ ⟨_, hrun, hended, _, _, rfl, ?_, ⟨_, rfl⟩, hW, hsame.mono (by decide) (by decide)⟩
    · exact retN X448 hx (t := .boolean) Bd.returns (by simp) (hb hby d8_24) hr
    · show Q8 Z a404 p405 p406 p408 a407 k409 j410 h0 n0 _ T448.heap _
      rw [hh449]
      exact Or.inl <| ⟨hc450, rfl, N448, rfl⟩
  · refine own_via (fun t k => XS.ifNo X448.here hx rfl (hb hby d8_16) rfl ((if0 _ _).trans (feq (fun q => hc450 ((lw_eq (j410 &&& ((1 : Int64) <<< (((((p405.toInt64) * (64 : Int64)) + (p406.toInt64)).toInt32) &&& 0x3f).toInt64)) (0 : Int64)).mp q))).1) (XS.iconst X448.here hx rfl (hb hby d8_19) (XS.goto X448.here hx rfl (pc0 := 20) (pc' := 24) rfl (hb hby d8_20) (by decide) (by decide) k))) ?_
    show own_Goes p e below (T448.setTop (mkF m 24 #[rv a404, .val (.long (((p405.toInt64) * (64 : Int64)) + (p406.toInt64))), .second] [(.int (1 : Int32))])) _
    obtain ⟨fs, hr, hrun, hended, hW, hsame⟩ := X448.leave (v := some (.int (1 : Int32))) (fun h => by rw [Bd.returns] at h; cases h)
    refine own_end (t := T448.setFrames fs) ?_ ⟨_, hrun, hended, _, _, rfl, ?_, ⟨_, rfl⟩, hW, hsame.mono (by decide) (by decide)⟩
    · exact retN X448 hx (t := .boolean) Bd.returns (by simp) (hb hby d8_24) hr
    · show Q8 Z a404 p405 p406 p408 a407 k409 j410 h0 n0 _ T448.heap _
      rw [hh449]
      exact Or.inr <| ⟨hc450, rfl, N448, rfl⟩
theorem pd_7 : parseMethodDescriptor "(J)Z" = some ⟨[.long], some .boolean⟩ := by decide +kernel
def Q9 (Z : State) (a456 : Addr) (p457 : Int32) (j458 : Int64) (p460 : Int32) (a459 : Addr) (k461 : ClassId) (p462 : Int32) (j463 : Int64) (h0 : Heap) (n0 : Nat) (v : Option Value) (h : Heap) (L : List Loc) : Prop := v = none ∧ Fr n0 L ∧ Keep h0 h [a459] ∧ Exa Z h a459 "[J" ∧ Arh Z h a459 k461 .long p460 [(p457, (.long j458)), (p462, (.long j463))] [] (.long (0 : Int64))
set_option maxRecDepth 65536 in
set_option maxHeartbeats 40000000 in
theorem rm9 (l : Launch) (Z : State) (a0 : Array Value) (hw : ∀ d ∈ tables_1, d.before a0 Z = true) (ws : List Jvm.Cond) (a456 : Addr) (p457 : Int32) (j458 : Int64) (p460 : Int32) (a459 : Addr) (k461 : ClassId) (p462 : Int32) (j463 : Int64) (h0 : Heap) (n0 : Nat) (O0 : Old Z n0 h0) (pC484 : p457 < p460) (pC470 : p460 < (9 : Int32)) (pF_a456_firstBlock : Fld Z h0 a456 zs1 "firstBlock" "[J" (.ref a459)) (pE_a456 : Exa Z h0 a456 zs1) (pC483 : ¬ (p457 < (0 : Int32))) (pV_a459 : Arh Z h0 a459 k461 .long p460 [(p462, (.long j463))] [] (.long (0 : Int64))) (pG_a459 : n0 ≤ a459) (pE_a459 : Exa Z h0 a459 "[J") :
    MetFree l (⟨zs1, "set", "(JJ)V"⟩ : MethodName) (head1 (Jvm.Cond.code (⟨zs1, "set", "(JJ)V"⟩ : MethodName) prog_20_method_4_code 5 none :: ws) ({ frames := 1, cells := 0, slots := 0, locals := 15 } : Room)) (fun a U => a = #[(.ref a456), (.long (p457.toInt64)), (.long j458)] ∧ Z.Warmed39 U.vm ∧ U.heap = h0) (fun _ _ _ _ _ => True) (fun _ U o U' => ∃ v L, o = .returned v ∧ Q9 Z a456 p457 j458 p460 a459 k461 p462 j463 h0 n0 v U'.heap L ∧ FrameEnd U o U' L ({ frames := 1, cells := 0, slots := 0, locals := 15 } : Room).cells ({ frames := 1, cells := 0, slots := 0, locals := 15 } : Room).slots) := by
  refine MetFree.of_bodySF (plainFor_of_name pn_1) hisR ?_
  intro p e s m args below meth c s₁ Bd hml0 hP hK
  obtain ⟨rfl, hZ, hh⟩ := hP
  have hx := Bd.exec
  have hby := Bd.bytes
  have hml : c.maxLocals = 5 := hml0
  have hown : s.vm.findClass zs1 = some m.cls := findClass_of_methodNamed Bd.named
  have hnm := (name_of_methodNamed Bd.named Bd.method).1
  have X0 : Stand p l e ({ frames := 1, cells := 0, slots := 0, locals := 15 } : Room) s m #[(.ref a456), (.long (p457.toInt64)), (.long j458)] below meth c s₁ [] 0 0 := Stand.of_body Bd
  have e0 : s₁.heap = h0 := by rw [← hh, Bd.state]; rfl
  have N0 := Fr.nil n0
  refine own_out ?_
  refine own_via (fun t k => castTop (ef_5 m a456 (p457.toInt64) j458) (XS.aloadN X0.here hx rfl (hb hby d4_0) rfl rfl (XS.lloadN X0.here hx rfl (hb hby d4_1) rfl k))) ?_
  show own_Goes p e below (s₁.setTop (mkF m 2 #[rv a456, .val (.long (p457.toInt64)), .second, .val (.long j458), .second] [(.long (p457.toInt64)), (.ref a456)])) _
  obtain ⟨cq502, q502, q502'⟩ := pE_a456.cell
  obtain ⟨_, _, ⟨T502, L502, c502, n502⟩, -, X502, ⟨Lc502, hQ502, l502, y502, z502⟩, st502⟩ := X0.privateBack hx (y := (⟨zs1, "blockOf", "(J)[J"⟩ : MethodName)) hown (mvT hZ (wd hw 33 rfl)) (mvT hZ (wd hw 34 rfl)) (own_selPriv (mvT hZ (wd hw 2 rfl)) (mvT hZ (wd hw 34 rfl)) (Cond.privateMethod_at (mvP hZ (wd hw 35 rfl) (args := #[]))) (by decide)) (Cond.privateMethod_at (mvP hZ (wd hw 35 rfl) (args := #[]))) (mvT hZ (wd hw 36 rfl)) (by decide) (backOf (W := 0) (rm3 l Z a0 hw [] a456 p457 p460 a459 h0 n0 O0 pC484 pC470 pF_a456_firstBlock) hZ (wd hw 36 rfl) (wd hw 3 rfl) (by decide) (by decide)) (g := (mkF m 2 #[rv a456, .val (.long (p457.toInt64)), .second, .val (.long j458), .second] [(.long (p457.toInt64)), (.ref a456)])) rfl (by rw [hml]; rfl) (Steps.refl _) (a := a456) (by rw [e0]; exact q502) q502' (argsL := [(.long (p457.toInt64))]) (rest := []) (lenOf pd_3 rfl) rfl (by show 2 * 0 + _ ≤ _; exact Nat.le_of_eq rfl) (hb hby d4_2) (fun _ _ => ⟨rfl, e0, (by decide : 0 + 0 ≤ _), (by decide : 0 + 0 ≤ _)⟩)
  dsimp only [Pt.U, Pt.locs, Pt.cells, Pt.slots] at X502 l502 y502 z502 st502 hQ502
  subst l502 y502 z502
  obtain ⟨rfl, Nq502, hh503⟩ := hQ502
  have N502 := Fr.app N0 Nq502
  refine own_via (fun t k => st502.trans (XS.lloadN X502.here hx rfl (hb hby d4_5) rfl k)) ?_
  obtain ⟨_, T504, _, X504, hQ504, st504⟩ := own_cs X502 hx hZ hown (wd hw 37 rfl) (wd hw 38 rfl) (wd hw 39 rfl) (wd hw 3 rfl) (by decide) (rm4 l Z a0 hw [] p457 h0 n0 O0 ) hh503 (g := (mkF m 6 #[rv a456, .val (.long (p457.toInt64)), .second, .val (.long j458), .second] [(.long (p457.toInt64)), (.ref a459)])) rfl (by rw [hml]; rfl) (rest := [(.ref a459)]) (W := 1) (lenOf pd_4 rfl) rfl (by show 2 * 0 + _ ≤ _; exact Nat.le_of_eq rfl) (hb hby d4_6) (by decide) (by decide) (by decide) (by decide)
  obtain ⟨rfl, Nq504, hh505⟩ := hQ504
  have N504 := Fr.app N502 Nq504
  refine own_via (fun t k => st504 t k) ?_
  show own_Goes p e below (T504.setTop (mkF m 9 #[rv a456, .val (.long (p457.toInt64)), .second, .val (.long j458), .second] [(.int (((p457.toInt64) &&& (134217727 : Int64)).toInt32)), (.ref a459)])) _
  show own_Goes p e below (T504.setTop (mkF m 9 #[rv a456, .val (.long (p457.toInt64)), .second, .val (.long j458), .second] [(.int (((p457.toInt64) &&& (134217727 : Int64)).toInt32)), (.ref a459)])) _
  rw [own_inb pC483 pC484 (own_le8 pC470)]
  show own_Goes p e below (T504.setTop (mkF m 9 #[rv a456, .val (.long (p457.toInt64)), .second, .val (.long j458), .second] [(.int p457), (.ref a459)])) _
  refine own_via (fun t k => XS.lloadN X504.here hx rfl (hb hby d4_9) rfl k) ?_
  obtain ⟨cl506, Ar506, qq506, S506, M506, H506, G506⟩ := id (pV_a459)
  have hin506 : ¬ (p457 < 0 ∨ cl506.slots.size ≤ (p457).toNatClampNeg) := inb_of S506 ⟨pC483, pC484⟩
  obtain ⟨T506, h506, X506, e506, W506, st506⟩ := stJ X504 hx hZ hh505 Ar506 (j := p457) hin506 (g := (mkF m 10 #[rv a456, .val (.long (p457.toInt64)), .second, .val (.long j458), .second] [(.long j458), (.int p457), (.ref a459)])) rfl rfl (hb hby d4_10)
  refine own_via (fun t k => st506 t k) ?_
  have V507 : Arh Z h506 a459 k461 .long p460 [(p457, (.long j458)), (p462, (.long j463))] [] (.long (0 : Int64)) := Arh.push Ar506 qq506 S506 M506 H506 G506 rfl W506 hin506
  have N506 := Fr.snoc X506 N504 pG_a459
  show own_Goes p e below (T506.setTop (mkF m 11 #[rv a456, .val (.long (p457.toInt64)), .second, .val (.long j458), .second] [])) _
  obtain ⟨fs, hr, hrun, hended, hW, hsame⟩ := X506.leave (v := none) (fun _ => rfl)
  refine own_end (t := T506.setFrames fs) ?_ ⟨_, hrun, hended, _, _, rfl, ?_, ⟨_, rfl⟩, hW, hsame.mono (by decide) (by decide)⟩
  · exact X506.returnOut hx Bd.returns (hb hby d4_11) hr
  have E508 : Exa Z h506 a459 "[J" := (pE_a459.wr W506)
  · show Q9 Z a456 p457 j458 p460 a459 k461 p462 j463 h0 n0 _ T506.heap _
    rw [e506]
    exact ⟨rfl, N506, ((Keep.refl h0 [a459]).wr W506 (Or.inl (List.mem_of_getElem? (i := 0) rfl))), E508, V507⟩
def Q10 (Z : State) (a514 : Addr) (p515 : Int32) (p517 : Int32) (a516 : Addr) (k518 : ClassId) (p519 : Int32) (j520 : Int64) (j521 : Int64) (h0 : Heap) (n0 : Nat) (v : Option Value) (h : Heap) (L : List Loc) : Prop := v = some (.long j520) ∧ Fr n0 L ∧ h = h0
set_option maxRecDepth 65536 in
set_option maxHeartbeats 40000000 in
theorem rm10 (l : Launch) (Z : State) (a0 : Array Value) (hw : ∀ d ∈ tables_1, d.before a0 Z = true) (ws : List Jvm.Cond) (a514 : Addr) (p515 : Int32) (p517 : Int32) (a516 : Addr) (k518 : ClassId) (p519 : Int32) (j520 : Int64) (j521 : Int64) (h0 : Heap) (n0 : Nat) (O0 : Old Z n0 h0) (pC535 : p515 < p517) (pC528 : p517 < (9 : Int32)) (pF_a514_firstBlock : Fld Z h0 a514 zs1 "firstBlock" "[J" (.ref a516)) (pE_a514 : Exa Z h0 a514 zs1) (pC534 : ¬ (p515 < (0 : Int32))) (pV_a516 : Arh Z h0 a516 k518 .long p517 [(p519, (.long j520)), (p515, (.long j521))] [] (.long (0 : Int64))) (pC560 : p515 = p519) :
    MetFree l (⟨zs1, "get", "(J)J"⟩ : MethodName) (head1 (Jvm.Cond.code (⟨zs1, "get", "(J)J"⟩ : MethodName) prog_20_method_3_code 3 (some .long) :: ws) ({ frames := 1, cells := 0, slots := 0, locals := 15 } : Room)) (fun a U => a = #[(.ref a514), (.long (p515.toInt64))] ∧ Z.Warmed39 U.vm ∧ U.heap = h0) (fun _ _ _ _ _ => True) (fun _ U o U' => ∃ v L, o = .returned v ∧ Q10 Z a514 p515 p517 a516 k518 p519 j520 j521 h0 n0 v U'.heap L ∧ FrameEnd U o U' L ({ frames := 1, cells := 0, slots := 0, locals := 15 } : Room).cells ({ frames := 1, cells := 0, slots := 0, locals := 15 } : Room).slots) := by
  refine MetFree.of_bodySF (plainFor_of_name pn_1) hisR ?_
  intro p e s m args below meth c s₁ Bd hml0 hP hK
  obtain ⟨rfl, hZ, hh⟩ := hP
  have hx := Bd.exec
  have hby := Bd.bytes
  have hml : c.maxLocals = 3 := hml0
  have hown : s.vm.findClass zs1 = some m.cls := findClass_of_methodNamed Bd.named
  have hnm := (name_of_methodNamed Bd.named Bd.method).1
  have X0 : Stand p l e ({ frames := 1, cells := 0, slots := 0, locals := 15 } : Room) s m #[(.ref a514), (.long (p515.toInt64))] below meth c s₁ [] 0 0 := Stand.of_body Bd
  have e0 : s₁.heap = h0 := by rw [← hh, Bd.state]; rfl
  have N0 := Fr.nil n0
  refine own_out ?_
  refine own_via (fun t k => castTop (ef_6 m a514 (p515.toInt64)) (XS.aloadN X0.here hx rfl (hb hby d7_0) rfl rfl (XS.lloadN X0.here hx rfl (hb hby d7_1) rfl k))) ?_
  show own_Goes p e below (s₁.setTop (mkF m 2 #[rv a514, .val (.long (p515.toInt64)), .second] [(.long (p515.toInt64)), (.ref a514)])) _
  obtain ⟨cq562, q562, q562'⟩ := pE_a514.cell
  obtain ⟨_, _, ⟨T562, L562, c562, n562⟩, -, X562, ⟨Lc562, hQ562, l562, y562, z562⟩, st562⟩ := X0.privateBack hx (y := (⟨zs1, "blockOf", "(J)[J"⟩ : MethodName)) hown (mvT hZ (wd hw 33 rfl)) (mvT hZ (wd hw 34 rfl)) (own_selPriv (mvT hZ (wd hw 2 rfl)) (mvT hZ (wd hw 34 rfl)) (Cond.privateMethod_at (mvP hZ (wd hw 35 rfl) (args := #[]))) (by decide)) (Cond.privateMethod_at (mvP hZ (wd hw 35 rfl) (args := #[]))) (mvT hZ (wd hw 36 rfl)) (by decide) (backOf (W := 0) (rm3 l Z a0 hw [] a514 p515 p517 a516 h0 n0 O0 pC535 pC528 pF_a514_firstBlock) hZ (wd hw 36 rfl) (wd hw 3 rfl) (by decide) (by decide)) (g := (mkF m 2 #[rv a514, .val (.long (p515.toInt64)), .second] [(.long (p515.toInt64)), (.ref a514)])) rfl (by rw [hml]; rfl) (Steps.refl _) (a := a514) (by rw [e0]; exact q562) q562' (argsL := [(.long (p515.toInt64))]) (rest := []) (lenOf pd_3 rfl) rfl (by show 2 * 0 + _ ≤ _; exact Nat.le_of_eq rfl) (hb hby d7_2) (fun _ _ => ⟨rfl, e0, (by decide : 0 + 0 ≤ _), (by decide : 0 + 0 ≤ _)⟩)
  dsimp only [Pt.U, Pt.locs, Pt.cells, Pt.slots] at X562 l562 y562 z562 st562 hQ562
  subst l562 y562 z562
  obtain ⟨rfl, Nq562, hh563⟩ := hQ562
  have N562 := Fr.app N0 Nq562
  refine own_via (fun t k => st562.trans (XS.lloadN X562.here hx rfl (hb hby d7_5) rfl k)) ?_
  obtain ⟨_, T564, _, X564, hQ564, st564⟩ := own_cs X562 hx hZ hown (wd hw 37 rfl) (wd hw 38 rfl) (wd hw 39 rfl) (wd hw 3 rfl) (by decide) (rm4 l Z a0 hw [] p515 h0 n0 O0 ) hh563 (g := (mkF m 6 #[rv a514, .val (.long (p515.toInt64)), .second] [(.long (p515.toInt64)), (.ref a516)])) rfl (by rw [hml]; rfl) (rest := [(.ref a516)]) (W := 1) (lenOf pd_4 rfl) rfl (by show 2 * 0 + _ ≤ _; exact Nat.le_of_eq rfl) (hb hby d7_6) (by decide) (by decide) (by decide) (by decide)
  obtain ⟨rfl, Nq564, hh565⟩ := hQ564
  have N564 := Fr.app N562 Nq564
  refine own_via (fun t k => st564 t k) ?_
  show own_Goes p e below (T564.setTop (mkF m 9 #[rv a514, .val (.long (p515.toInt64)), .second] [(.int (((p515.toInt64) &&& (134217727 : Int64)).toInt32)), (.ref a516)])) _
  show own_Goes p e below (T564.setTop (mkF m 9 #[rv a514, .val (.long (p515.toInt64)), .second] [(.int (((p515.toInt64) &&& (134217727 : Int64)).toInt32)), (.ref a516)])) _
  rw [own_inb pC534 pC535 (own_le8 pC528)]
  show own_Goes p e below (T564.setTop (mkF m 9 #[rv a514, .val (.long (p515.toInt64)), .second] [(.int p515), (.ref a516)])) _
  obtain ⟨cl566, Ar566, qq566, S566, M566, H566, G566⟩ := id (pV_a516)
  have hin566 : ¬ (p515 < 0 ∨ cl566.slots.size ≤ (p515).toNatClampNeg) := inb_of S566 ⟨pC534, pC535⟩
  refine own_via (fun t k => X564.laload hx (j := p515) (v := (.long j520)) (by rw [hh565]; exact Ar566.1) (State.isArrayOf_alike hZ.alike Ar566.2.1) Ar566.2.2 hin566 (atH H566 hin566 (getH_hit pC534 pC560)) (g := (mkF m 9 #[rv a514, .val (.long (p515.toInt64)), .second] [(.int p515), (.ref a516)])) rfl rfl (hb hby d7_9) t k) ?_
  obtain ⟨fs, hr, hrun, hended, hW, hsame⟩ := X564.leave (v := some (.long j520)) (fun h => by rw [Bd.returns] at h; cases h)
  refine own_end (t := T564.setFrames fs) ?_ ⟨_, hrun, hended, _, _, rfl, ?_, ⟨_, rfl⟩, hW, hsame.mono (by decide) (by decide)⟩
  · jvm_step X564.here [X564.here.top, hx, (hb hby d7_10), X564.method', Bd.returns, narrow]
    first | (intro acts; rw [hr _ acts rfl rfl rfl]) | rw [hr _ _ rfl rfl rfl]
    exact Steps.refl _
  · show Q10 Z a514 p515 p517 a516 k518 p519 j520 j521 h0 n0 _ T564.heap _
    rw [hh565]
    exact ⟨rfl, N564, rfl⟩
def Q11 (Z : State) (a572 : Addr) (p573 : Int32) (p575 : Int32) (a574 : Addr) (k576 : ClassId) (p577 : Int32) (j578 : Int64) (p579 : Int32) (j580 : Int64) (h0 : Heap) (n0 : Nat) (v : Option Value) (h : Heap) (L : List Loc) : Prop := v = some (.long j578) ∧ Fr n0 L ∧ h = h0
set_option maxRecDepth 65536 in
set_option maxHeartbeats 40000000 in
theorem rm11 (l : Launch) (Z : State) (a0 : Array Value) (hw : ∀ d ∈ tables_1, d.before a0 Z = true) (ws : List Jvm.Cond) (a572 : Addr) (p573 : Int32) (p575 : Int32) (a574 : Addr) (k576 : ClassId) (p577 : Int32) (j578 : Int64) (p579 : Int32) (j580 : Int64) (h0 : Heap) (n0 : Nat) (O0 : Old Z n0 h0) (pC608 : p573 < p575) (pC587 : p575 < (9 : Int32)) (pF_a572_firstBlock : Fld Z h0 a572 zs1 "firstBlock" "[J" (.ref a574)) (pE_a572 : Exa Z h0 a572 zs1) (pC607 : ¬ (p573 < (0 : Int32))) (pV_a574 : Arh Z h0 a574 k576 .long p575 [(p577, (.long j578)), (p579, (.long j580))] [] (.long (0 : Int64))) (pC619 : p573 = p577) :
    MetFree l (⟨zs1, "get", "(J)J"⟩ : MethodName) (head1 (Jvm.Cond.code (⟨zs1, "get", "(J)J"⟩ : MethodName) prog_20_method_3_code 3 (some .long) :: ws) ({ frames := 1, cells := 0, slots := 0, locals := 15 } : Room)) (fun a U => a = #[(.ref a572), (.long (p573.toInt64))] ∧ Z.Warmed39 U.vm ∧ U.heap = h0) (fun _ _ _ _ _ => True) (fun _ U o U' => ∃ v L, o = .returned v ∧ Q11 Z a572 p573 p575 a574 k576 p577 j578 p579 j580 h0 n0 v U'.heap L ∧ FrameEnd U o U' L ({ frames := 1, cells := 0, slots := 0, locals := 15 } : Room).cells ({ frames := 1, cells := 0, slots := 0, locals := 15 } : Room).slots) := by
  refine MetFree.of_bodySF (plainFor_of_name pn_1) hisR ?_
  intro p e s m args below meth c s₁ Bd hml0 hP hK
  obtain ⟨rfl, hZ, hh⟩ := hP
  have hx := Bd.exec
  have hby := Bd.bytes
  have hml : c.maxLocals = 3 := hml0
  have hown : s.vm.findClass zs1 = some m.cls := findClass_of_methodNamed Bd.named
  have hnm := (name_of_methodNamed Bd.named Bd.method).1
  have X0 : Stand p l e ({ frames := 1, cells := 0, slots := 0, locals := 15 } : Room) s m #[(.ref a572), (.long (p573.toInt64))] below meth c s₁ [] 0 0 := Stand.of_body Bd
  have e0 : s₁.heap = h0 := by rw [← hh, Bd.state]; rfl
  have N0 := Fr.nil n0
  refine own_out ?_
  refine own_via (fun t k => castTop (ef_6 m a572 (p573.toInt64)) (XS.aloadN X0.here hx rfl (hb hby d7_0) rfl rfl (XS.lloadN X0.here hx rfl (hb hby d7_1) rfl k))) ?_
  show own_Goes p e below (s₁.setTop (mkF m 2 #[rv a572, .val (.long (p573.toInt64)), .second] [(.long (p573.toInt64)), (.ref a572)])) _
  obtain ⟨cq620, q620, q620'⟩ := pE_a572.cell
  obtain ⟨_, _, ⟨T620, L620, c620, n620⟩, -, X620, ⟨Lc620, hQ620, l620, y620, z620⟩, st620⟩ := X0.privateBack hx (y := (⟨zs1, "blockOf", "(J)[J"⟩ : MethodName)) hown (mvT hZ (wd hw 33 rfl)) (mvT hZ (wd hw 34 rfl)) (own_selPriv (mvT hZ (wd hw 2 rfl)) (mvT hZ (wd hw 34 rfl)) (Cond.privateMethod_at (mvP hZ (wd hw 35 rfl) (args := #[]))) (by decide)) (Cond.privateMethod_at (mvP hZ (wd hw 35 rfl) (args := #[]))) (mvT hZ (wd hw 36 rfl)) (by decide) (backOf (W := 0) (rm3 l Z a0 hw [] a572 p573 p575 a574 h0 n0 O0 pC608 pC587 pF_a572_firstBlock) hZ (wd hw 36 rfl) (wd hw 3 rfl) (by decide) (by decide)) (g := (mkF m 2 #[rv a572, .val (.long (p573.toInt64)), .second] [(.long (p573.toInt64)), (.ref a572)])) rfl (by rw [hml]; rfl) (Steps.refl _) (a := a572) (by rw [e0]; exact q620) q620' (argsL := [(.long (p573.toInt64))]) (rest := []) (lenOf pd_3 rfl) rfl (by show 2 * 0 + _ ≤ _; exact Nat.le_of_eq rfl) (hb hby d7_2) (fun _ _ => ⟨rfl, e0, (by decide : 0 + 0 ≤ _), (by decide : 0 + 0 ≤ _)⟩)
  dsimp only [Pt.U, Pt.locs, Pt.cells, Pt.slots] at X620 l620 y620 z620 st620 hQ620
  subst l620 y620 z620
  obtain ⟨rfl, Nq620, hh621⟩ := hQ620
  have N620 := Fr.app N0 Nq620
  refine own_via (fun t k => st620.trans (XS.lloadN X620.here hx rfl (hb hby d7_5) rfl k)) ?_
  obtain ⟨_, T622, _, X622, hQ622, st622⟩ := own_cs X620 hx hZ hown (wd hw 37 rfl) (wd hw 38 rfl) (wd hw 39 rfl) (wd hw 3 rfl) (by decide) (rm4 l Z a0 hw [] p573 h0 n0 O0 ) hh621 (g := (mkF m 6 #[rv a572, .val (.long (p573.toInt64)), .second] [(.long (p573.toInt64)), (.ref a574)])) rfl (by rw [hml]; rfl) (rest := [(.ref a574)]) (W := 1) (lenOf pd_4 rfl) rfl (by show 2 * 0 + _ ≤ _; exact Nat.le_of_eq rfl) (hb hby d7_6) (by decide) (by decide) (by decide) (by decide)
  obtain ⟨rfl, Nq622, hh623⟩ := hQ622
  have N622 := Fr.app N620 Nq622
  refine own_via (fun t k => st622 t k) ?_
  show own_Goes p e below (T622.setTop (mkF m 9 #[rv a572, .val (.long (p573.toInt64)), .second] [(.int (((p573.toInt64) &&& (134217727 : Int64)).toInt32)), (.ref a574)])) _
  show own_Goes p e below (T622.setTop (mkF m 9 #[rv a572, .val (.long (p573.toInt64)), .second] [(.int (((p573.toInt64) &&& (134217727 : Int64)).toInt32)), (.ref a574)])) _
  rw [own_inb pC607 pC608 (own_le8 pC587)]
  show own_Goes p e below (T622.setTop (mkF m 9 #[rv a572, .val (.long (p573.toInt64)), .second] [(.int p573), (.ref a574)])) _
  obtain ⟨cl624, Ar624, qq624, S624, M624, H624, G624⟩ := id (pV_a574)
  have hin624 : ¬ (p573 < 0 ∨ cl624.slots.size ≤ (p573).toNatClampNeg) := inb_of S624 ⟨pC607, pC608⟩
  refine own_via (fun t k => X622.laload hx (j := p573) (v := (.long j578)) (by rw [hh623]; exact Ar624.1) (State.isArrayOf_alike hZ.alike Ar624.2.1) Ar624.2.2 hin624 (atH H624 hin624 (getH_hit pC607 pC619)) (g := (mkF m 9 #[rv a572, .val (.long (p573.toInt64)), .second] [(.int p573), (.ref a574)])) rfl rfl (hb hby d7_9) t k) ?_
  obtain ⟨fs, hr, hrun, hended, hW, hsame⟩ := X622.leave (v := some (.long j578)) (fun h => by rw [Bd.returns] at h; cases h)
  refine own_end (t := T622.setFrames fs) ?_ ⟨_, hrun, hended, _, _, rfl, ?_, ⟨_, rfl⟩, hW, hsame.mono (by decide) (by decide)⟩
  · jvm_step X622.here [X622.here.top, hx, (hb hby d7_10), X622.method', Bd.returns, narrow]
    first | (intro acts; rw [hr _ acts rfl rfl rfl]) | rw [hr _ _ rfl rfl rfl]
    exact Steps.refl _
  · show Q11 Z a572 p573 p575 a574 k576 p577 j578 p579 j580 h0 n0 _ T622.heap _
    rw [hh623]
    exact ⟨rfl, N622, rfl⟩
theorem d9_0 : decode prog_20_method_2_code 0 = .ok (.aload_n 0, 1) := by decide +kernel
theorem d9_1 : decode prog_20_method_2_code 1 = .ok (.getfield 9, 3) := by decide +kernel
theorem d9_4 : decode prog_20_method_2_code 4 = .ok (.lreturn, 1) := by decide +kernel
theorem ef_8 (m : MethodId) (x0 : Addr) : entryFrame m #[(.ref x0)] 1 = mkF m 0 #[rv x0] [] := by first | (simp [entryFrame, mkF, argsToLocals, Value.category]; done) | rfl
def Q12 (Z : State) (a627 : Addr) (p629 : Int32) (h0 : Heap) (n0 : Nat) (v : Option Value) (h : Heap) (L : List Loc) : Prop := v = some (.long (p629.toInt64)) ∧ Fr n0 L ∧ h = h0
set_option maxRecDepth 65536 in
set_option maxHeartbeats 40000000 in
theorem rm12 (l : Launch) (Z : State) (a0 : Array Value) (hw : ∀ d ∈ tables_1, d.before a0 Z = true) (ws : List Jvm.Cond) (a627 : Addr) (p629 : Int32) (h0 : Heap) (n0 : Nat) (O0 : Old Z n0 h0) (pF_a627_length : Fld Z h0 a627 zs1 "length" "J" (.long (p629.toInt64))) :
    MetFree l (⟨zs1, "length", "()J"⟩ : MethodName) (head1 (Jvm.Cond.code (⟨zs1, "length", "()J"⟩ : MethodName) prog_20_method_2_code 1 (some .long) :: ws) ({ frames := 0, cells := 0, slots := 0, locals := 0 } : Room)) (fun a U => a = #[(.ref a627)] ∧ Z.Warmed39 U.vm ∧ U.heap = h0) (fun _ _ _ _ _ => True) (fun _ U o U' => ∃ v L, o = .returned v ∧ Q12 Z a627 p629 h0 n0 v U'.heap L ∧ FrameEnd U o U' L ({ frames := 0, cells := 0, slots := 0, locals := 0 } : Room).cells ({ frames := 0, cells := 0, slots := 0, locals := 0 } : Room).slots) := by
  refine MetFree.of_bodySF (plainFor_of_name pn_1) hisR ?_
  intro p e s m args below meth c s₁ Bd hml0 hP hK
  obtain ⟨rfl, hZ, hh⟩ := hP
  have hx := Bd.exec
  have hby := Bd.bytes
  have hml : c.maxLocals = 1 := hml0
  have hown : s.vm.findClass zs1 = some m.cls := findClass_of_methodNamed Bd.named
  have hnm := (name_of_methodNamed Bd.named Bd.method).1
  have X0 : Stand p l e ({ frames := 0, cells := 0, slots := 0, locals := 0 } : Room) s m #[(.ref a627)] below meth c s₁ [] 0 0 := Stand.of_body Bd
  have e0 : s₁.heap = h0 := by rw [← hh, Bd.state]; rfl
  have N0 := Fr.nil n0
  refine own_out ?_
  refine own_via (fun t k => castTop (ef_8 m a627) (XS.aloadN X0.here hx rfl (hb hby d9_0) rfl rfl k)) ?_
  obtain ⟨T675, X675, e675, st675⟩ := getF X0 hx hZ hown (host := "") (Or.inl (wd hw 10 rfl)) Via.refl e0 pF_a627_length (g := (mkF m 1 #[rv a627] [(.ref a627)])) rfl rfl (hb hby d9_1)
  refine own_via (fun t k => st675 t k) ?_
  obtain ⟨fs, hr, hrun, hended, hW, hsame⟩ := X675.leave (v := some (.long (p629.toInt64))) (fun h => by rw [Bd.returns] at h; cases h)
  refine own_end (t := T675.setFrames fs) ?_ ⟨_, hrun, hended, _, _, rfl, ?_, ⟨_, rfl⟩, hW, hsame.mono (by decide) (by decide)⟩
  · jvm_step X675.here [X675.here.top, hx, (hb hby d9_4), X675.method', Bd.returns, narrow]
    first | (intro acts; rw [hr _ acts rfl rfl rfl]) | rw [hr _ _ rfl rfl rfl]
    exact Steps.refl _
  · show Q12 Z a627 p629 h0 n0 _ T675.heap _
    rw [e675]
    exact ⟨rfl, N0, rfl⟩
theorem pd_8 : parseMethodDescriptor "()J" = some ⟨[], some .long⟩ := by decide +kernel
def Q13 (Z : State) (a684 : Addr) (p685 : Int32) (p687 : Int32) (a686 : Addr) (k688 : ClassId) (p689 : Int32) (j690 : Int64) (p691 : Int32) (j692 : Int64) (h0 : Heap) (n0 : Nat) (v : Option Value) (h : Heap) (L : List Loc) : Prop := v = some (.long j692) ∧ Fr n0 L ∧ h = h0
set_option maxRecDepth 65536 in
set_option maxHeartbeats 40000000 in
theorem rm13 (l : Launch) (Z : State) (a0 : Array Value) (hw : ∀ d ∈ tables_1, d.before a0 Z = true) (ws : List Jvm.Cond) (a684 : Addr) (p685 : Int32) (p687 : Int32) (a686 : Addr) (k688 : ClassId) (p689 : Int32) (j690 : Int64) (p691 : Int32) (j692 : Int64) (h0 : Heap) (n0 : Nat) (O0 : Old Z n0 h0) (pC720 : p685 < p687) (pC699 : p687 < (9 : Int32)) (pF_a684_firstBlock : Fld Z h0 a684 zs1 "firstBlock" "[J" (.ref a686)) (pE_a684 : Exa Z h0 a684 zs1) (pC719 : ¬ (p685 < (0 : Int32))) (pV_a686 : Arh Z h0 a686 k688 .long p687 [(p689, (.long j690)), (p691, (.long j692))] [] (.long (0 : Int64))) (pC731 : ¬ (p685 = p689)) (pC728 : p685 = p691) :
    MetFree l (⟨zs1, "get", "(J)J"⟩ : MethodName) (head1 (Jvm.Cond.code (⟨zs1, "get", "(J)J"⟩ : MethodName) prog_20_method_3_code 3 (some .long) :: ws) ({ frames := 1, cells := 0, slots := 0, locals := 15 } : Room)) (fun a U => a = #[(.ref a684), (.long (p685.toInt64))] ∧ Z.Warmed39 U.vm ∧ U.heap = h0) (fun _ _ _ _ _ => True) (fun _ U o U' => ∃ v L, o = .returned v ∧ Q13 Z a684 p685 p687 a686 k688 p689 j690 p691 j692 h0 n0 v U'.heap L ∧ FrameEnd U o U' L ({ frames := 1, cells := 0, slots := 0, locals := 15 } : Room).cells ({ frames := 1, cells := 0, slots := 0, locals := 15 } : Room).slots) := by
  refine MetFree.of_bodySF (plainFor_of_name pn_1) hisR ?_
  intro p e s m args below meth c s₁ Bd hml0 hP hK
  obtain ⟨rfl, hZ, hh⟩ := hP
  have hx := Bd.exec
  have hby := Bd.bytes
  have hml : c.maxLocals = 3 := hml0
  have hown : s.vm.findClass zs1 = some m.cls := findClass_of_methodNamed Bd.named
  have hnm := (name_of_methodNamed Bd.named Bd.method).1
  have X0 : Stand p l e ({ frames := 1, cells := 0, slots := 0, locals := 15 } : Room) s m #[(.ref a684), (.long (p685.toInt64))] below meth c s₁ [] 0 0 := Stand.of_body Bd
  have e0 : s₁.heap = h0 := by rw [← hh, Bd.state]; rfl
  have N0 := Fr.nil n0
  refine own_out ?_
  refine own_via (fun t k => castTop (ef_6 m a684 (p685.toInt64)) (XS.aloadN X0.here hx rfl (hb hby d7_0) rfl rfl (XS.lloadN X0.here hx rfl (hb hby d7_1) rfl k))) ?_
  show own_Goes p e below (s₁.setTop (mkF m 2 #[rv a684, .val (.long (p685.toInt64)), .second] [(.long (p685.toInt64)), (.ref a684)])) _
  obtain ⟨cq732, q732, q732'⟩ := pE_a684.cell
  obtain ⟨_, _, ⟨T732, L732, c732, n732⟩, -, X732, ⟨Lc732, hQ732, l732, y732, z732⟩, st732⟩ := X0.privateBack hx (y := (⟨zs1, "blockOf", "(J)[J"⟩ : MethodName)) hown (mvT hZ (wd hw 33 rfl)) (mvT hZ (wd hw 34 rfl)) (own_selPriv (mvT hZ (wd hw 2 rfl)) (mvT hZ (wd hw 34 rfl)) (Cond.privateMethod_at (mvP hZ (wd hw 35 rfl) (args := #[]))) (by decide)) (Cond.privateMethod_at (mvP hZ (wd hw 35 rfl) (args := #[]))) (mvT hZ (wd hw 36 rfl)) (by decide) (backOf (W := 0) (rm3 l Z a0 hw [] a684 p685 p687 a686 h0 n0 O0 pC720 pC699 pF_a684_firstBlock) hZ (wd hw 36 rfl) (wd hw 3 rfl) (by decide) (by decide)) (g := (mkF m 2 #[rv a684, .val (.long (p685.toInt64)), .second] [(.long (p685.toInt64)), (.ref a684)])) rfl (by rw [hml]; rfl) (Steps.refl _) (a := a684) (by rw [e0]; exact q732) q732' (argsL := [(.long (p685.toInt64))]) (rest := []) (lenOf pd_3 rfl) rfl (by show 2 * 0 + _ ≤ _; exact Nat.le_of_eq rfl) (hb hby d7_2) (fun _ _ => ⟨rfl, e0, (by decide : 0 + 0 ≤ _), (by decide : 0 + 0 ≤ _)⟩)
  dsimp only [Pt.U, Pt.locs, Pt.cells, Pt.slots] at X732 l732 y732 z732 st732 hQ732
  subst l732 y732 z732
  obtain ⟨rfl, Nq732, hh733⟩ := hQ732
  have N732 := Fr.app N0 Nq732
  refine own_via (fun t k => st732.trans (XS.lloadN X732.here hx rfl (hb hby d7_5) rfl k)) ?_
  obtain ⟨_, T734, _, X734, hQ734, st734⟩ := own_cs X732 hx hZ hown (wd hw 37 rfl) (wd hw 38 rfl) (wd hw 39 rfl) (wd hw 3 rfl) (by decide) (rm4 l Z a0 hw [] p685 h0 n0 O0 ) hh733 (g := (mkF m 6 #[rv a684, .val (.long (p685.toInt64)), .second] [(.long (p685.toInt64)), (.ref a686)])) rfl (by rw [hml]; rfl) (rest := [(.ref a686)]) (W := 1) (lenOf pd_4 rfl) rfl (by show 2 * 0 + _ ≤ _; exact Nat.le_of_eq rfl) (hb hby d7_6) (by decide) (by decide) (by decide) (by decide)
  obtain ⟨rfl, Nq734, hh735⟩ := hQ734
  have N734 := Fr.app N732 Nq734
  refine own_via (fun t k => st734 t k) ?_
  show own_Goes p e below (T734.setTop (mkF m 9 #[rv a684, .val (.long (p685.toInt64)), .second] [(.int (((p685.toInt64) &&& (134217727 : Int64)).toInt32)), (.ref a686)])) _
  show own_Goes p e below (T734.setTop (mkF m 9 #[rv a684, .val (.long (p685.toInt64)), .second] [(.int (((p685.toInt64) &&& (134217727 : Int64)).toInt32)), (.ref a686)])) _
  rw [own_inb pC719 pC720 (own_le8 pC699)]
  show own_Goes p e below (T734.setTop (mkF m 9 #[rv a684, .val (.long (p685.toInt64)), .second] [(.int p685), (.ref a686)])) _
  obtain ⟨cl736, Ar736, qq736, S736, M736, H736, G736⟩ := id (pV_a686)
  have hin736 : ¬ (p685 < 0 ∨ cl736.slots.size ≤ (p685).toNatClampNeg) := inb_of S736 ⟨pC719, pC720⟩
  refine own_via (fun t k => X734.laload hx (j := p685) (v := (.long j692)) (by rw [hh735]; exact Ar736.1) (State.isArrayOf_alike hZ.alike Ar736.2.1) Ar736.2.2 hin736 (atH H736 hin736 (getH_miss pC719 pC731 (getH_hit pC719 pC728))) (g := (mkF m 9 #[rv a684, .val (.long (p685.toInt64)), .second] [(.int p685), (.ref a686)])) rfl rfl (hb hby d7_9) t k) ?_
  obtain ⟨fs, hr, hrun, hended, hW, hsame⟩ := X734.leave (v := some (.long j692)) (fun h => by rw [Bd.returns] at h; cases h)
  refine own_end (t := T734.setFrames fs) ?_ ⟨_, hrun, hended, _, _, rfl, ?_, ⟨_, rfl⟩, hW, hsame.mono (by decide) (by decide)⟩
  · jvm_step X734.here [X734.here.top, hx, (hb hby d7_10), X734.method', Bd.returns, narrow]
    first | (intro acts; rw [hr _ acts rfl rfl rfl]) | rw [hr _ _ rfl rfl rfl]
    exact Steps.refl _
  · show Q13 Z a684 p685 p687 a686 k688 p689 j690 p691 j692 h0 n0 _ T734.heap _
    rw [hh735]
    exact ⟨rfl, N734, rfl⟩
def Q14 (Z : State) (a743 : Addr) (p744 : Int32) (p746 : Int32) (a745 : Addr) (k747 : ClassId) (p748 : Int32) (j749 : Int64) (j750 : Int64) (h0 : Heap) (n0 : Nat) (v : Option Value) (h : Heap) (L : List Loc) : Prop := v = some (.long j750) ∧ Fr n0 L ∧ h = h0
set_option maxRecDepth 65536 in
set_option maxHeartbeats 40000000 in
theorem rm14 (l : Launch) (Z : State) (a0 : Array Value) (hw : ∀ d ∈ tables_1, d.before a0 Z = true) (ws : List Jvm.Cond) (a743 : Addr) (p744 : Int32) (p746 : Int32) (a745 : Addr) (k747 : ClassId) (p748 : Int32) (j749 : Int64) (j750 : Int64) (h0 : Heap) (n0 : Nat) (O0 : Old Z n0 h0) (pC764 : p744 < p746) (pC757 : p746 < (9 : Int32)) (pF_a743_firstBlock : Fld Z h0 a743 zs1 "firstBlock" "[J" (.ref a745)) (pE_a743 : Exa Z h0 a743 zs1) (pC763 : ¬ (p744 < (0 : Int32))) (pV_a745 : Arh Z h0 a745 k747 .long p746 [(p748, (.long j749)), (p744, (.long j750))] [] (.long (0 : Int64))) (pC789 : ¬ (p744 = p748)) :
    MetFree l (⟨zs1, "get", "(J)J"⟩ : MethodName) (head1 (Jvm.Cond.code (⟨zs1, "get", "(J)J"⟩ : MethodName) prog_20_method_3_code 3 (some .long) :: ws) ({ frames := 1, cells := 0, slots := 0, locals := 15 } : Room)) (fun a U => a = #[(.ref a743), (.long (p744.toInt64))] ∧ Z.Warmed39 U.vm ∧ U.heap = h0) (fun _ _ _ _ _ => True) (fun _ U o U' => ∃ v L, o = .returned v ∧ Q14 Z a743 p744 p746 a745 k747 p748 j749 j750 h0 n0 v U'.heap L ∧ FrameEnd U o U' L ({ frames := 1, cells := 0, slots := 0, locals := 15 } : Room).cells ({ frames := 1, cells := 0, slots := 0, locals := 15 } : Room).slots) := by
  refine MetFree.of_bodySF (plainFor_of_name pn_1) hisR ?_
  intro p e s m args below meth c s₁ Bd hml0 hP hK
  obtain ⟨rfl, hZ, hh⟩ := hP
  have hx := Bd.exec
  have hby := Bd.bytes
  have hml : c.maxLocals = 3 := hml0
  have hown : s.vm.findClass zs1 = some m.cls := findClass_of_methodNamed Bd.named
  have hnm := (name_of_methodNamed Bd.named Bd.method).1
  have X0 : Stand p l e ({ frames := 1, cells := 0, slots := 0, locals := 15 } : Room) s m #[(.ref a743), (.long (p744.toInt64))] below meth c s₁ [] 0 0 := Stand.of_body Bd
  have e0 : s₁.heap = h0 := by rw [← hh, Bd.state]; rfl
  have N0 := Fr.nil n0
  refine own_out ?_
  refine own_via (fun t k => castTop (ef_6 m a743 (p744.toInt64)) (XS.aloadN X0.here hx rfl (hb hby d7_0) rfl rfl (XS.lloadN X0.here hx rfl (hb hby d7_1) rfl k))) ?_
  show own_Goes p e below (s₁.setTop (mkF m 2 #[rv a743, .val (.long (p744.toInt64)), .second] [(.long (p744.toInt64)), (.ref a743)])) _
  obtain ⟨cq791, q791, q791'⟩ := pE_a743.cell
  obtain ⟨_, _, ⟨T791, L791, c791, n791⟩, -, X791, ⟨Lc791, hQ791, l791, y791, z791⟩, st791⟩ := X0.privateBack hx (y := (⟨zs1, "blockOf", "(J)[J"⟩ : MethodName)) hown (mvT hZ (wd hw 33 rfl)) (mvT hZ (wd hw 34 rfl)) (own_selPriv (mvT hZ (wd hw 2 rfl)) (mvT hZ (wd hw 34 rfl)) (Cond.privateMethod_at (mvP hZ (wd hw 35 rfl) (args := #[]))) (by decide)) (Cond.privateMethod_at (mvP hZ (wd hw 35 rfl) (args := #[]))) (mvT hZ (wd hw 36 rfl)) (by decide) (backOf (W := 0) (rm3 l Z a0 hw [] a743 p744 p746 a745 h0 n0 O0 pC764 pC757 pF_a743_firstBlock) hZ (wd hw 36 rfl) (wd hw 3 rfl) (by decide) (by decide)) (g := (mkF m 2 #[rv a743, .val (.long (p744.toInt64)), .second] [(.long (p744.toInt64)), (.ref a743)])) rfl (by rw [hml]; rfl) (Steps.refl _) (a := a743) (by rw [e0]; exact q791) q791' (argsL := [(.long (p744.toInt64))]) (rest := []) (lenOf pd_3 rfl) rfl (by show 2 * 0 + _ ≤ _; exact Nat.le_of_eq rfl) (hb hby d7_2) (fun _ _ => ⟨rfl, e0, (by decide : 0 + 0 ≤ _), (by decide : 0 + 0 ≤ _)⟩)
  dsimp only [Pt.U, Pt.locs, Pt.cells, Pt.slots] at X791 l791 y791 z791 st791 hQ791
  subst l791 y791 z791
  obtain ⟨rfl, Nq791, hh792⟩ := hQ791
  have N791 := Fr.app N0 Nq791
  refine own_via (fun t k => st791.trans (XS.lloadN X791.here hx rfl (hb hby d7_5) rfl k)) ?_
  obtain ⟨_, T793, _, X793, hQ793, st793⟩ := own_cs X791 hx hZ hown (wd hw 37 rfl) (wd hw 38 rfl) (wd hw 39 rfl) (wd hw 3 rfl) (by decide) (rm4 l Z a0 hw [] p744 h0 n0 O0 ) hh792 (g := (mkF m 6 #[rv a743, .val (.long (p744.toInt64)), .second] [(.long (p744.toInt64)), (.ref a745)])) rfl (by rw [hml]; rfl) (rest := [(.ref a745)]) (W := 1) (lenOf pd_4 rfl) rfl (by show 2 * 0 + _ ≤ _; exact Nat.le_of_eq rfl) (hb hby d7_6) (by decide) (by decide) (by decide) (by decide)
  obtain ⟨rfl, Nq793, hh794⟩ := hQ793
  have N793 := Fr.app N791 Nq793
  refine own_via (fun t k => st793 t k) ?_
  show own_Goes p e below (T793.setTop (mkF m 9 #[rv a743, .val (.long (p744.toInt64)), .second] [(.int (((p744.toInt64) &&& (134217727 : Int64)).toInt32)), (.ref a745)])) _
  show own_Goes p e below (T793.setTop (mkF m 9 #[rv a743, .val (.long (p744.toInt64)), .second] [(.int (((p744.toInt64) &&& (134217727 : Int64)).toInt32)), (.ref a745)])) _
  rw [own_inb pC763 pC764 (own_le8 pC757)]
  show own_Goes p e below (T793.setTop (mkF m 9 #[rv a743, .val (.long (p744.toInt64)), .second] [(.int p744), (.ref a745)])) _
  obtain ⟨cl795, Ar795, qq795, S795, M795, H795, G795⟩ := id (pV_a745)
  have hin795 : ¬ (p744 < 0 ∨ cl795.slots.size ≤ (p744).toNatClampNeg) := inb_of S795 ⟨pC763, pC764⟩
  refine own_via (fun t k => X793.laload hx (j := p744) (v := (.long j750)) (by rw [hh794]; exact Ar795.1) (State.isArrayOf_alike hZ.alike Ar795.2.1) Ar795.2.2 hin795 (atH H795 hin795 (getH_miss pC763 pC789 (getH_hit pC763 (rfl : p744 = p744)))) (g := (mkF m 9 #[rv a743, .val (.long (p744.toInt64)), .second] [(.int p744), (.ref a745)])) rfl rfl (hb hby d7_9) t k) ?_
  obtain ⟨fs, hr, hrun, hended, hW, hsame⟩ := X793.leave (v := some (.long j750)) (fun h => by rw [Bd.returns] at h; cases h)
  refine own_end (t := T793.setFrames fs) ?_ ⟨_, hrun, hended, _, _, rfl, ?_, ⟨_, rfl⟩, hW, hsame.mono (by decide) (by decide)⟩
  · jvm_step X793.here [X793.here.top, hx, (hb hby d7_10), X793.method', Bd.returns, narrow]
    first | (intro acts; rw [hr _ acts rfl rfl rfl]) | rw [hr _ _ rfl rfl rfl]
    exact Steps.refl _
  · show Q14 Z a743 p744 p746 a745 k747 p748 j749 j750 h0 n0 _ T793.heap _
    rw [hh794]
    exact ⟨rfl, N793, rfl⟩
def Q15 (Z : State) (a887 : Addr) (p888 : Int32) (p890 : Int32) (a889 : Addr) (k891 : ClassId) (p892 : Int32) (j893 : Int64) (p894 : Int32) (j895 : Int64) (h0 : Heap) (n0 : Nat) (v : Option Value) (h : Heap) (L : List Loc) : Prop := v = some (.long (0 : Int64)) ∧ Fr n0 L ∧ h = h0
set_option maxRecDepth 65536 in
set_option maxHeartbeats 40000000 in
theorem rm15 (l : Launch) (Z : State) (a0 : Array Value) (hw : ∀ d ∈ tables_1, d.before a0 Z = true) (ws : List Jvm.Cond) (a887 : Addr) (p888 : Int32) (p890 : Int32) (a889 : Addr) (k891 : ClassId) (p892 : Int32) (j893 : Int64) (p894 : Int32) (j895 : Int64) (h0 : Heap) (n0 : Nat) (O0 : Old Z n0 h0) (pC923 : p888 < p890) (pC902 : p890 < (9 : Int32)) (pF_a887_firstBlock : Fld Z h0 a887 zs1 "firstBlock" "[J" (.ref a889)) (pE_a887 : Exa Z h0 a887 zs1) (pC922 : ¬ (p888 < (0 : Int32))) (pV_a889 : Arh Z h0 a889 k891 .long p890 [(p892, (.long j893)), (p894, (.long j895))] [] (.long (0 : Int64))) (pC934 : ¬ (p888 = p892)) (pC931 : ¬ (p888 = p894)) :
    MetFree l (⟨zs1, "get", "(J)J"⟩ : MethodName) (head1 (Jvm.Cond.code (⟨zs1, "get", "(J)J"⟩ : MethodName) prog_20_method_3_code 3 (some .long) :: ws) ({ frames := 1, cells := 0, slots := 0, locals := 15 } : Room)) (fun a U => a = #[(.ref a887), (.long (p888.toInt64))] ∧ Z.Warmed39 U.vm ∧ U.heap = h0) (fun _ _ _ _ _ => True) (fun _ U o U' => ∃ v L, o = .returned v ∧ Q15 Z a887 p888 p890 a889 k891 p892 j893 p894 j895 h0 n0 v U'.heap L ∧ FrameEnd U o U' L ({ frames := 1, cells := 0, slots := 0, locals := 15 } : Room).cells ({ frames := 1, cells := 0, slots := 0, locals := 15 } : Room).slots) := by
  refine MetFree.of_bodySF (plainFor_of_name pn_1) hisR ?_
  intro p e s m args below meth c s₁ Bd hml0 hP hK
  obtain ⟨rfl, hZ, hh⟩ := hP
  have hx := Bd.exec
  have hby := Bd.bytes
  have hml : c.maxLocals = 3 := hml0
  have hown : s.vm.findClass zs1 = some m.cls := findClass_of_methodNamed Bd.named
  have hnm := (name_of_methodNamed Bd.named Bd.method).1
  have X0 : Stand p l e ({ frames := 1, cells := 0, slots := 0, locals := 15 } : Room) s m #[(.ref a887), (.long (p888.toInt64))] below meth c s₁ [] 0 0 := Stand.of_body Bd
  have e0 : s₁.heap = h0 := by rw [← hh, Bd.state]; rfl
  have N0 := Fr.nil n0
  refine own_out ?_
  refine own_via (fun t k => castTop (ef_6 m a887 (p888.toInt64)) (XS.aloadN X0.here hx rfl (hb hby d7_0) rfl rfl (XS.lloadN X0.here hx rfl (hb hby d7_1) rfl k))) ?_
  show own_Goes p e below (s₁.setTop (mkF m 2 #[rv a887, .val (.long (p888.toInt64)), .second] [(.long (p888.toInt64)), (.ref a887)])) _
  obtain ⟨cq935, q935, q935'⟩ := pE_a887.cell
  obtain ⟨_, _, ⟨T935, L935, c935, n935⟩, -, X935, ⟨Lc935, hQ935, l935, y935, z935⟩, st935⟩ := X0.privateBack hx (y := (⟨zs1, "blockOf", "(J)[J"⟩ : MethodName)) hown (mvT hZ (wd hw 33 rfl)) (mvT hZ (wd hw 34 rfl)) (own_selPriv (mvT hZ (wd hw 2 rfl)) (mvT hZ (wd hw 34 rfl)) (Cond.privateMethod_at (mvP hZ (wd hw 35 rfl) (args := #[]))) (by decide)) (Cond.privateMethod_at (mvP hZ (wd hw 35 rfl) (args := #[]))) (mvT hZ (wd hw 36 rfl)) (by decide) (backOf (W := 0) (rm3 l Z a0 hw [] a887 p888 p890 a889 h0 n0 O0 pC923 pC902 pF_a887_firstBlock) hZ (wd hw 36 rfl) (wd hw 3 rfl) (by decide) (by decide)) (g := (mkF m 2 #[rv a887, .val (.long (p888.toInt64)), .second] [(.long (p888.toInt64)), (.ref a887)])) rfl (by rw [hml]; rfl) (Steps.refl _) (a := a887) (by rw [e0]; exact q935) q935' (argsL := [(.long (p888.toInt64))]) (rest := []) (lenOf pd_3 rfl) rfl (by show 2 * 0 + _ ≤ _; exact Nat.le_of_eq rfl) (hb hby d7_2) (fun _ _ => ⟨rfl, e0, (by decide : 0 + 0 ≤ _), (by decide : 0 + 0 ≤ _)⟩)
  dsimp only [Pt.U, Pt.locs, Pt.cells, Pt.slots] at X935 l935 y935 z935 st935 hQ935
  subst l935 y935 z935
  obtain ⟨rfl, Nq935, hh936⟩ := hQ935
  have N935 := Fr.app N0 Nq935
  refine own_via (fun t k => st935.trans (XS.lloadN X935.here hx rfl (hb hby d7_5) rfl k)) ?_
  obtain ⟨_, T937, _, X937, hQ937, st937⟩ := own_cs X935 hx hZ hown (wd hw 37 rfl) (wd hw 38 rfl) (wd hw 39 rfl) (wd hw 3 rfl) (by decide) (rm4 l Z a0 hw [] p888 h0 n0 O0 ) hh936 (g := (mkF m 6 #[rv a887, .val (.long (p888.toInt64)), .second] [(.long (p888.toInt64)), (.ref a889)])) rfl (by rw [hml]; rfl) (rest := [(.ref a889)]) (W := 1) (lenOf pd_4 rfl) rfl (by show 2 * 0 + _ ≤ _; exact Nat.le_of_eq rfl) (hb hby d7_6) (by decide) (by decide) (by decide) (by decide)
  obtain ⟨rfl, Nq937, hh938⟩ := hQ937
  have N937 := Fr.app N935 Nq937
  refine own_via (fun t k => st937 t k) ?_
  show own_Goes p e below (T937.setTop (mkF m 9 #[rv a887, .val (.long (p888.toInt64)), .second] [(.int (((p888.toInt64) &&& (134217727 : Int64)).toInt32)), (.ref a889)])) _
  show own_Goes p e below (T937.setTop (mkF m 9 #[rv a887, .val (.long (p888.toInt64)), .second] [(.int (((p888.toInt64) &&& (134217727 : Int64)).toInt32)), (.ref a889)])) _
  rw [own_inb pC922 pC923 (own_le8 pC902)]
  show own_Goes p e below (T937.setTop (mkF m 9 #[rv a887, .val (.long (p888.toInt64)), .second] [(.int p888), (.ref a889)])) _
  obtain ⟨cl939, Ar939, qq939, S939, M939, H939, G939⟩ := id (pV_a889)
  have hin939 : ¬ (p888 < 0 ∨ cl939.slots.size ≤ (p888).toNatClampNeg) := inb_of S939 ⟨pC922, pC923⟩
  refine own_via (fun t k => X937.laload hx (j := p888) (v := (.long (0 : Int64))) (by rw [hh938]; exact Ar939.1) (State.isArrayOf_alike hZ.alike Ar939.2.1) Ar939.2.2 hin939 (atH H939 hin939 (getH_miss pC922 pC934 (getH_miss pC922 pC931 rfl))) (g := (mkF m 9 #[rv a887, .val (.long (p888.toInt64)), .second] [(.int p888), (.ref a889)])) rfl rfl (hb hby d7_9) t k) ?_
  obtain ⟨fs, hr, hrun, hended, hW, hsame⟩ := X937.leave (v := some (.long (0 : Int64))) (fun h => by rw [Bd.returns] at h; cases h)
  refine own_end (t := T937.setFrames fs) ?_ ⟨_, hrun, hended, _, _, rfl, ?_, ⟨_, rfl⟩, hW, hsame.mono (by decide) (by decide)⟩
  · jvm_step X937.here [X937.here.top, hx, (hb hby d7_10), X937.method', Bd.returns, narrow]
    first | (intro acts; rw [hr _ acts rfl rfl rfl]) | rw [hr _ _ rfl rfl rfl]
    exact Steps.refl _
  · show Q15 Z a887 p888 p890 a889 k891 p892 j893 p894 j895 h0 n0 _ T937.heap _
    rw [hh938]
    exact ⟨rfl, N937, rfl⟩
theorem ef_9 (m : MethodId) (x0 : Int32) (x1 : Int32) (x2 : Int32) (x3 : Int32) (x4 : Int64) (x5 : Int64) : entryFrame m #[(.int x0), (.int x1), (.int x2), (.int x3), (.long x4), (.long x5)] maxLocals = mkF m 0 #[iv x0, iv x1, iv x2, iv x3, .val (.long x4), .second, .val (.long x5), .second, .unset, .unset, .unset, .unset, .unset, .unset, .unset, .unset, .unset, .unset, .unset, .unset] [] := by first | (simp [entryFrame, mkF, argsToLocals, Value.category, maxLocals]; done) | rfl
theorem pn_2 : plainName "com/example/tuccia/tuccia/WordArraySetPinLaw" = true := by first | (simp [plainName, overriddenIn]; done) | decide +kernel
set_option maxRecDepth 65536 in
set_option maxHeartbeats 40000000 in
theorem rm0 (l : Launch) (Z : State) (a0 : Array Value) (hw : ∀ d ∈ tables_1, d.before a0 Z = true) (ws : List Jvm.Cond) (i0 : Int32) (i1 : Int32) (i2 : Int32) (i3 : Int32) (i4 : Int64) (i5 : Int64) (h0 : Heap) (n0 : Nat) (O0 : Old Z n0 h0) (S_WordArray_BLOCK_SHIFT : Sta Z Z.heap zs1 "BLOCK_SHIFT" "I" (.int (27 : Int32))) :
    MetFree l x (head1 (Jvm.Cond.code x code maxLocals ret :: ws) room_1) (fun a U => a = #[(.int i0), (.int i1), (.int i2), (.int i3), (.long i4), (.long i5)] ∧ Z.Warmed39 U.vm ∧ U.heap = h0) (fun _ _ _ _ _ => True) (fun _ U o U' => ∃ v L, o = .returned v ∧ own_Q0 n0 v L ∧ FrameEnd U o U' L room_1.cells room_1.slots) := by
  refine MetFree.of_bodySF (plainFor_of_name pn_2) hisR ?_
  intro p e s m args below meth c s₁ Bd hml0 hP hK
  obtain ⟨rfl, hZ, hh⟩ := hP
  have hx := Bd.exec
  have hby := Bd.bytes
  have hml : c.maxLocals = 20 := hml0
  have hown : s.vm.findClass "com/example/tuccia/tuccia/WordArraySetPinLaw" = some m.cls := findClass_of_methodNamed Bd.named
  have hnm := (name_of_methodNamed Bd.named Bd.method).1
  have X0 : Stand p l e room_1 s m #[(.int i0), (.int i1), (.int i2), (.int i3), (.long i4), (.long i5)] below meth c s₁ [] 0 0 := Stand.of_body Bd
  have e0 : s₁.heap = h0 := by rw [← hh, Bd.state]; rfl
  have N0 := Fr.nil n0
  refine own_out ?_
  show own_Goes p e below _ (own_G s below n0)
  refine own_via (fun t k => castTop (ef_9 m i0 i1 i2 i3 i4 i5) (XS.iconst X0.here hx rfl (hb hby at_0) (XS.iloadN X0.here hx rfl (hb hby at_1) rfl (XS.bipush X0.here hx rfl (hb hby at_2) (XS.iand X0.here hx rfl (hb hby at_4) rfl (XS.iadd X0.here hx rfl (hb hby at_5) rfl k)))))) ?_
  show own_Goes p e below (s₁.setTop (mkF m 6 #[iv i0, iv i1, iv i2, iv i3, .val (.long i4), .second, .val (.long i5), .second, .unset, .unset, .unset, .unset, .unset, .unset, .unset, .unset, .unset, .unset, .unset, .unset] [(.int ((1 : Int32) + (i0 &&& (7 : Int32))))])) _
  obtain ⟨y2, hy2⟩ : ∃ z, z = ((1 : Int32) + (i0 &&& (7 : Int32))) := ⟨_, rfl⟩
  rw [← hy2]
  show own_Goes p e below (s₁.setTop (mkF m 6 #[iv i0, iv i1, iv i2, iv i3, .val (.long i4), .second, .val (.long i5), .second, .unset, .unset, .unset, .unset, .unset, .unset, .unset, .unset, .unset, .unset, .unset, .unset] [(.int y2)])) _
  refine own_via (fun t k => XS.istore X0.here hx rfl (hb hby at_6) rfl (l' := #[iv i0, iv i1, iv i2, iv i3, .val (.long i4), .second, .val (.long i5), .second, iv y2, .unset, .unset, .unset, .unset, .unset, .unset, .unset, .unset, .unset, .unset, .unset]) rfl (XS.iloadN X0.here hx rfl (hb hby at_8) rfl (X0.ldcInt hx hown (mvT hZ (wd hw 0 rfl)) (g := (mkF m 9 #[iv i0, iv i1, iv i2, iv i3, .val (.long i4), .second, .val (.long i5), .second, iv y2, .unset, .unset, .unset, .unset, .unset, .unset, .unset, .unset, .unset, .unset, .unset] [(.int i1)])) rfl (hb hby at_9) t (XS.iand X0.here hx rfl (hb hby at_11) rfl (XS.iload X0.here hx rfl (hb hby at_12) rfl (iremM (g := (mkF m 14 #[iv i0, iv i1, iv i2, iv i3, .val (.long i4), .second, .val (.long i5), .second, iv y2, .unset, .unset, .unset, .unset, .unset, .unset, .unset, .unset, .unset, .unset, .unset] [(.int y2), (.int (i1 &&& (2147483647 : Int32)))])) X0 hx rfl (hb hby at_14) rfl (own_ne0 (by rw [hy2]; exact (own_n1 i0))) k)))))) ?_
  show own_Goes p e below (s₁.setTop (mkF m 15 #[iv i0, iv i1, iv i2, iv i3, .val (.long i4), .second, .val (.long i5), .second, iv y2, .unset, .unset, .unset, .unset, .unset, .unset, .unset, .unset, .unset, .unset, .unset] [(.int ((i1 &&& (2147483647 : Int32)) % y2))])) _
  obtain ⟨y3, hy3⟩ : ∃ z, z = ((i1 &&& (2147483647 : Int32)) % y2) := ⟨_, rfl⟩
  rw [← hy3]
  show own_Goes p e below (s₁.setTop (mkF m 15 #[iv i0, iv i1, iv i2, iv i3, .val (.long i4), .second, .val (.long i5), .second, iv y2, .unset, .unset, .unset, .unset, .unset, .unset, .unset, .unset, .unset, .unset, .unset] [(.int y3)])) _
  refine own_via (fun t k => XS.istore X0.here hx rfl (hb hby at_15) rfl (l' := #[iv i0, iv i1, iv i2, iv i3, .val (.long i4), .second, .val (.long i5), .second, iv y2, iv y3, .unset, .unset, .unset, .unset, .unset, .unset, .unset, .unset, .unset, .unset]) rfl (XS.iloadN X0.here hx rfl (hb hby at_17) rfl (X0.ldcInt hx hown (mvT hZ (wd hw 0 rfl)) (g := (mkF m 18 #[iv i0, iv i1, iv i2, iv i3, .val (.long i4), .second, .val (.long i5), .second, iv y2, iv y3, .unset, .unset, .unset, .unset, .unset, .unset, .unset, .unset, .unset, .unset] [(.int i2)])) rfl (hb hby at_18) t (XS.iand X0.here hx rfl (hb hby at_20) rfl (XS.iload X0.here hx rfl (hb hby at_21) rfl (iremM (g := (mkF m 23 #[iv i0, iv i1, iv i2, iv i3, .val (.long i4), .second, .val (.long i5), .second, iv y2, iv y3, .unset, .unset, .unset, .unset, .unset, .unset, .unset, .unset, .unset, .unset] [(.int y2), (.int (i2 &&& (2147483647 : Int32)))])) X0 hx rfl (hb hby at_23) rfl (own_ne0 (by rw [hy2]; exact (own_n1 i0))) k)))))) ?_
  show own_Goes p e below (s₁.setTop (mkF m 24 #[iv i0, iv i1, iv i2, iv i3, .val (.long i4), .second, .val (.long i5), .second, iv y2, iv y3, .unset, .unset, .unset, .unset, .unset, .unset, .unset, .unset, .unset, .unset] [(.int ((i2 &&& (2147483647 : Int32)) % y2))])) _
  obtain ⟨y4, hy4⟩ : ∃ z, z = ((i2 &&& (2147483647 : Int32)) % y2) := ⟨_, rfl⟩
  rw [← hy4]
  show own_Goes p e below (s₁.setTop (mkF m 24 #[iv i0, iv i1, iv i2, iv i3, .val (.long i4), .second, .val (.long i5), .second, iv y2, iv y3, .unset, .unset, .unset, .unset, .unset, .unset, .unset, .unset, .unset, .unset] [(.int y4)])) _
  refine own_via (fun t k => XS.istore X0.here hx rfl (hb hby at_24) rfl (l' := #[iv i0, iv i1, iv i2, iv i3, .val (.long i4), .second, .val (.long i5), .second, iv y2, iv y3, iv y4, .unset, .unset, .unset, .unset, .unset, .unset, .unset, .unset, .unset]) rfl (XS.iloadN X0.here hx rfl (hb hby at_26) rfl (X0.ldcInt hx hown (mvT hZ (wd hw 0 rfl)) (g := (mkF m 27 #[iv i0, iv i1, iv i2, iv i3, .val (.long i4), .second, .val (.long i5), .second, iv y2, iv y3, iv y4, .unset, .unset, .unset, .unset, .unset, .unset, .unset, .unset, .unset] [(.int i3)])) rfl (hb hby at_27) t (XS.iand X0.here hx rfl (hb hby at_29) rfl (XS.iload X0.here hx rfl (hb hby at_30) rfl (iremM (g := (mkF m 32 #[iv i0, iv i1, iv i2, iv i3, .val (.long i4), .second, .val (.long i5), .second, iv y2, iv y3, iv y4, .unset, .unset, .unset, .unset, .unset, .unset, .unset, .unset, .unset] [(.int y2), (.int (i3 &&& (2147483647 : Int32)))])) X0 hx rfl (hb hby at_32) rfl (own_ne0 (by rw [hy2]; exact (own_n1 i0))) k)))))) ?_
  show own_Goes p e below (s₁.setTop (mkF m 33 #[iv i0, iv i1, iv i2, iv i3, .val (.long i4), .second, .val (.long i5), .second, iv y2, iv y3, iv y4, .unset, .unset, .unset, .unset, .unset, .unset, .unset, .unset, .unset] [(.int ((i3 &&& (2147483647 : Int32)) % y2))])) _
  obtain ⟨y5, hy5⟩ : ∃ z, z = ((i3 &&& (2147483647 : Int32)) % y2) := ⟨_, rfl⟩
  rw [← hy5]
  show own_Goes p e below (s₁.setTop (mkF m 33 #[iv i0, iv i1, iv i2, iv i3, .val (.long i4), .second, .val (.long i5), .second, iv y2, iv y3, iv y4, .unset, .unset, .unset, .unset, .unset, .unset, .unset, .unset, .unset] [(.int y5)])) _
  refine own_via (fun t k => XS.istore X0.here hx rfl (hb hby at_33) rfl (l' := #[iv i0, iv i1, iv i2, iv i3, .val (.long i4), .second, .val (.long i5), .second, iv y2, iv y3, iv y4, iv y5, .unset, .unset, .unset, .unset, .unset, .unset, .unset, .unset]) rfl (XS.iloadN X0.here hx rfl (hb hby at_35) rfl (XS.iconst X0.here hx rfl (hb hby at_36) (XS.iushr X0.here hx rfl (hb hby at_37) rfl (XS.bipush X0.here hx rfl (hb hby at_38) (XS.iand X0.here hx rfl (hb hby at_40) rfl k)))))) ?_
  show own_Goes p e below (s₁.setTop (mkF m 41 #[iv i0, iv i1, iv i2, iv i3, .val (.long i4), .second, .val (.long i5), .second, iv y2, iv y3, iv y4, iv y5, .unset, .unset, .unset, .unset, .unset, .unset, .unset, .unset] [(.int (((i0.toUInt32 >>> ((3 : Int32) &&& 31).toUInt32).toInt32) &&& (63 : Int32)))])) _
  obtain ⟨y6, hy6⟩ : ∃ z, z = (((i0.toUInt32 >>> ((3 : Int32) &&& 31).toUInt32).toInt32) &&& (63 : Int32)) := ⟨_, rfl⟩
  rw [← hy6]
  show own_Goes p e below (s₁.setTop (mkF m 41 #[iv i0, iv i1, iv i2, iv i3, .val (.long i4), .second, .val (.long i5), .second, iv y2, iv y3, iv y4, iv y5, .unset, .unset, .unset, .unset, .unset, .unset, .unset, .unset] [(.int y6)])) _
  refine own_via (fun t k => XS.istore X0.here hx rfl (hb hby at_41) rfl (l' := #[iv i0, iv i1, iv i2, iv i3, .val (.long i4), .second, .val (.long i5), .second, iv y2, iv y3, iv y4, iv y5, iv y6, .unset, .unset, .unset, .unset, .unset, .unset, .unset]) rfl k) ?_
  obtain ⟨T7, h7, X7, e7, E7, A7, D7, -, st7⟩ := newO X0 hx hZ hown (wd hw 1 rfl) (wd hw 2 rfl) (wd hw 3 rfl) e0 (g := (mkF m 43 #[iv i0, iv i1, iv i2, iv i3, .val (.long i4), .second, .val (.long i5), .second, iv y2, iv y3, iv y4, iv y5, iv y6, .unset, .unset, .unset, .unset, .unset, .unset, .unset] [])) rfl (hb hby at_43) (by decide) (by decide)
  obtain ⟨b8, q7⟩ : ∃ z, z = h0.size := ⟨_, rfl⟩
  rw [← q7] at A7 D7 st7
  refine own_via (fun t k => st7 t k) ?_
  have g9 : n0 ≤ b8 := Nat.le_trans (own_old O0) (Nat.le_of_eq q7.symm)
  have B10 : h0.size ≤ b8 := Nat.le_trans (Nat.le_refl _) (Nat.le_of_eq q7.symm)
  have F11 : Fld Z h7 b8 zs1 "length" "J" (.long (0 : Int64)) := D7 (Or.inr (wd hw 11 rfl)) (ty := .long) (by decide)
  have F12 : Fld Z h7 b8 zs1 "blocks" "[[J" .null := D7 (Or.inr (wd hw 18 rfl)) (ty := (.array (.array .long))) (by decide)
  have F13 : Fld Z h7 b8 zs1 "firstBlock" "[J" .null := D7 (Or.inr (wd hw 27 rfl)) (ty := (.array .long)) (by decide)
  show own_Goes p e below (T7.setTop (mkF m 46 #[iv i0, iv i1, iv i2, iv i3, .val (.long i4), .second, .val (.long i5), .second, iv y2, iv y3, iv y4, iv y5, iv y6, .unset, .unset, .unset, .unset, .unset, .unset, .unset] [(.ref b8)])) _
  refine own_via (fun t k => XS.dup X7.here hx rfl (hb hby at_46) rfl rfl (XS.iload X7.here hx rfl (hb hby at_47) rfl (XS.i2l X7.here hx rfl (hb hby at_49) rfl k))) ?_
  show own_Goes p e below (T7.setTop (mkF m 50 #[iv i0, iv i1, iv i2, iv i3, .val (.long i4), .second, .val (.long i5), .second, iv y2, iv y3, iv y4, iv y5, iv y6, .unset, .unset, .unset, .unset, .unset, .unset, .unset] [(.long (y2.toInt64)), (.ref b8), (.ref b8)])) _
  have O144 : Old Z n0 h7 := (O0.ext E7)
  obtain ⟨_, T14, _, X14, hQ14, st14⟩ := own_ci X7 hx hZ hown (wd hw 4 rfl) (wd hw 5 rfl) (wd hw 6 rfl) (wd hw 3 rfl) rfl (by decide) (rm2 l Z a0 hw [] b8 y2 (0 : Int64) h7 n0 O144 F11 A7 g9 S_WordArray_BLOCK_SHIFT (by rw [hy2]; exact (own_n1 i0)) (by rw [hy2]; exact (own_n9 i0)) F12 F13) e7 (g := (mkF m 50 #[iv i0, iv i1, iv i2, iv i3, .val (.long i4), .second, .val (.long i5), .second, iv y2, iv y3, iv y4, iv y5, iv y6, .unset, .unset, .unset, .unset, .unset, .unset, .unset] [(.long (y2.toInt64)), (.ref b8), (.ref b8)])) rfl (by rw [hml]; rfl) (rest := [(.ref b8)]) (W := 1) (lenOf pd_2 rfl) rfl (by show 2 * 0 + _ ≤ _; exact Nat.le_of_eq rfl) (hb hby at_50) (by decide) (by decide) (by decide) (by decide)
  obtain ⟨h14, e14⟩ : ∃ z, T14.heap = z := ⟨_, rfl⟩
  rw [e14] at hQ14
  obtain ⟨b145, k146, rfl, Nq14, K14, ex147, fx148, fx149, bx150, vx151, ex152⟩ := hQ14
  have N14 := Fr.app N0 Nq14
  have N153 : b8 ≠ b145 := Nat.ne_of_lt (Nat.lt_of_lt_of_le A7.lt bx150)
  have g154 : n0 ≤ b145 := Nat.le_trans (own_old O144) bx150
  have Z156 : h0.size ≤ h7.size := (Nat.le_trans (Nat.le_refl _) E7.1)
  have B155 : h0.size ≤ b145 := Nat.le_trans Z156 bx150
  refine own_via (fun t k => st14 t (XS.astore X14.here hx rfl (hb hby at_53) rfl rfl (l' := #[iv i0, iv i1, iv i2, iv i3, .val (.long i4), .second, .val (.long i5), .second, iv y2, iv y3, iv y4, iv y5, iv y6, rv b8, .unset, .unset, .unset, .unset, .unset, .unset]) rfl (XS.aload X14.here hx rfl (hb hby at_55) rfl rfl (XS.iload X14.here hx rfl (hb hby at_57) rfl (XS.i2l X14.here hx rfl (hb hby at_59) rfl (XS.lload X14.here hx rfl (hb hby at_60) rfl k)))))) ?_
  show own_Goes p e below (T14.setTop (mkF m 62 #[iv i0, iv i1, iv i2, iv i3, .val (.long i4), .second, .val (.long i5), .second, iv y2, iv y3, iv y4, iv y5, iv y6, rv b8, .unset, .unset, .unset, .unset, .unset, .unset] [(.long i4), (.long (y3.toInt64)), (.ref b8)])) _
  have O293 : Old Z n0 h14 := (O144.keep K14 (allS g9 all0))
  obtain ⟨_, T157, _, X157, hQ157, st157⟩ := own_cv X14 hx hZ hown (wd hw 28 rfl) (wd hw 29 rfl) (wd hw 31 rfl) (wd hw 30 rfl) (wd hw 32 rfl) (wd hw 3 rfl) (by decide) (rm5 l Z a0 hw [] b8 y3 i4 y2 b145 k146 h14 n0 O293 (by rw [hy3]; exact (own_lt_rem y2 (own_nn_mask i1 (2147483647 : Int32) 31 (by decide) (by decide)) (own_pos (by rw [hy2]; exact (own_n1 i0))))) (by rw [hy2]; exact (own_n9 i0)) fx149 ex147 (by rw [hy3]; exact (own_nn_rem y2 (own_nn_mask i1 (2147483647 : Int32) 31 (by decide) (by decide)))) vx151 g154 ex152) e14 ex147 (g := (mkF m 62 #[iv i0, iv i1, iv i2, iv i3, .val (.long i4), .second, .val (.long i5), .second, iv y2, iv y3, iv y4, iv y5, iv y6, rv b8, .unset, .unset, .unset, .unset, .unset, .unset] [(.long i4), (.long (y3.toInt64)), (.ref b8)])) rfl (by rw [hml]; rfl) (rest := []) (W := 0) (lenOf pd_5 rfl) rfl (by show 2 * 0 + _ ≤ _; exact Nat.le_of_eq rfl) (hb hby at_62) (by decide) (by decide) (by decide) (by decide)
  obtain ⟨h157, e157⟩ : ∃ z, T157.heap = z := ⟨_, rfl⟩
  rw [e157] at hQ157
  obtain ⟨rfl, Nq157, K157, vx294, ex295⟩ := hQ157
  have N157 := Fr.app N14 Nq157
  refine own_via (fun t k => st157 t (XS.aload X157.here hx rfl (hb hby at_65) rfl rfl (XS.iload X157.here hx rfl (hb hby at_67) rfl (XS.i2l X157.here hx rfl (hb hby at_69) rfl k)))) ?_
  show own_Goes p e below (T157.setTop (mkF m 70 #[iv i0, iv i1, iv i2, iv i3, .val (.long i4), .second, .val (.long i5), .second, iv y2, iv y3, iv y4, iv y5, iv y6, rv b8, .unset, .unset, .unset, .unset, .unset, .unset] [(.long (y3.toInt64)), (.ref b8)])) _
  have F345 : Fld Z h157 b8 zs1 "firstBlock" "[J" (.ref b145) := (fx149.keep K157 (ninS N153 nin0))
  have E346 : Exa Z h157 b8 zs1 := (ex147.keep K157)
  have O347 : Old Z n0 h157 := (O293.keep K157 (allS g154 all0))
  obtain ⟨_, T296, _, X296, hQ296, st296⟩ := own_cv X157 hx hZ hown (wd hw 40 rfl) (wd hw 41 rfl) (wd hw 43 rfl) (wd hw 42 rfl) (wd hw 44 rfl) (wd hw 3 rfl) (by decide) (rm6 l Z a0 hw [] b8 y3 y2 b145 k146 i4 h157 n0 O347 (by rw [hy3]; exact (own_lt_rem y2 (own_nn_mask i1 (2147483647 : Int32) 31 (by decide) (by decide)) (own_pos (by rw [hy2]; exact (own_n1 i0))))) (by rw [hy2]; exact (own_n9 i0)) F345 E346 (by rw [hy3]; exact (own_nn_rem y2 (own_nn_mask i1 (2147483647 : Int32) 31 (by decide) (by decide)))) vx294) e157 E346 (g := (mkF m 70 #[iv i0, iv i1, iv i2, iv i3, .val (.long i4), .second, .val (.long i5), .second, iv y2, iv y3, iv y4, iv y5, iv y6, rv b8, .unset, .unset, .unset, .unset, .unset, .unset] [(.long (y3.toInt64)), (.ref b8)])) rfl (by rw [hml]; rfl) (rest := []) (W := 0) (lenOf pd_6 rfl) rfl (by show 2 * 0 + _ ≤ _; exact Nat.le_of_eq rfl) (hb hby at_70) (by decide) (by decide) (by decide) (by decide)
  obtain ⟨rfl, Nq296, hh348⟩ := hQ296
  have N296 := Fr.app N157 Nq296
  refine own_via (fun t k => st296 t (XS.lload X296.here hx rfl (hb hby at_73) rfl (XS.lcmp X296.here hx rfl (hb hby at_75) rfl (XS.ifNo X296.here hx rfl (hb hby at_76) rfl ((if0 _ _).trans (teq ((lw_eq i4 i4).mpr (rfl : i4 = i4))).2) (XS.aload X296.here hx rfl (hb hby at_79) rfl rfl (XS.iload X296.here hx rfl (hb hby at_81) rfl (XS.i2l X296.here hx rfl (hb hby at_83) rfl k))))))) ?_
  show own_Goes p e below (T296.setTop (mkF m 84 #[iv i0, iv i1, iv i2, iv i3, .val (.long i4), .second, .val (.long i5), .second, iv y2, iv y3, iv y4, iv y5, iv y6, rv b8, .unset, .unset, .unset, .unset, .unset, .unset] [(.long (y5.toInt64)), (.ref b8)])) _
  obtain ⟨_, T349, _, X349, hQ349, st349⟩ := own_cv X296 hx hZ hown (wd hw 40 rfl) (wd hw 41 rfl) (wd hw 43 rfl) (wd hw 42 rfl) (wd hw 44 rfl) (wd hw 3 rfl) (by decide) (rm7 l Z a0 hw [] b8 y5 y2 b145 k146 y3 i4 h157 n0 O347 (by rw [hy5]; exact (own_lt_rem y2 (own_nn_mask i3 (2147483647 : Int32) 31 (by decide) (by decide)) (own_pos (by rw [hy2]; exact (own_n1 i0))))) (by rw [hy2]; exact (own_n9 i0)) F345 E346 (by rw [hy5]; exact (own_nn_rem y2 (own_nn_mask i3 (2147483647 : Int32) 31 (by decide) (by decide)))) vx294) hh348 E346 (g := (mkF m 84 #[iv i0, iv i1, iv i2, iv i3, .val (.long i4), .second, .val (.long i5), .second, iv y2, iv y3, iv y4, iv y5, iv y6, rv b8, .unset, .unset, .unset, .unset, .unset, .unset] [(.long (y5.toInt64)), (.ref b8)])) rfl (by rw [hml]; rfl) (rest := []) (W := 0) (lenOf pd_6 rfl) rfl (by show 2 * 0 + _ ≤ _; exact Nat.le_of_eq rfl) (hb hby at_84) (by decide) (by decide) (by decide) (by decide)
  rcases hQ349 with ⟨hq399, rfl, Nq349, hh400⟩ | ⟨hq401, rfl, Nq349, hh402⟩
  · have N349 := Fr.app N296 Nq349
    refine own_via (fun t k => st349 t (XS.iload X349.here hx rfl (hb hby at_87) rfl (XS.iload X349.here hx rfl (hb hby at_89) rfl (XS.icmpNo X349.here hx rfl (hb hby at_91) rfl (teq hq399).2 (XS.lload X349.here hx rfl (hb hby at_94) rfl (XS.goto X349.here hx rfl (pc0 := 96) (pc' := 100) rfl (hb hby at_96) (by decide) (by decide) (XS.lcmp X349.here hx rfl (hb hby at_100) rfl (XS.ifNo X349.here hx rfl (hb hby at_101) rfl ((if0 _ _).trans (teq ((lw_eq i4 i4).mpr (rfl : i4 = i4))).2) (XS.iconst X349.here hx rfl (hb hby at_104) (XS.goto X349.here hx rfl (pc0 := 105) (pc' := 109) rfl (hb hby at_105) (by decide) (by decide) (XS.istore X349.here hx rfl (hb hby at_109) rfl (l' := #[iv i0, iv i1, iv i2, iv i3, .val (.long i4), .second, .val (.long i5), .second, iv y2, iv y3, iv y4, iv y5, iv y6, rv b8, iv (1 : Int32), .unset, .unset, .unset, .unset, .unset]) rfl (XS.aload X349.here hx rfl (hb hby at_111) rfl rfl k)))))))))))) ?_
    show own_Goes p e below (T349.setTop (mkF m 113 #[iv i0, iv i1, iv i2, iv i3, .val (.long i4), .second, .val (.long i5), .second, iv y2, iv y3, iv y4, iv y5, iv y6, rv b8, iv (1 : Int32), .unset, .unset, .unset, .unset, .unset] [(.ref b8)])) _
    refine own_via (fun t k => XS.iload X349.here hx rfl (hb hby at_113) rfl (XS.i2l X349.here hx rfl (hb hby at_115) rfl (X349.ldc2Long hx hown (mvT hZ (wd hw 45 rfl)) (g := (mkF m 116 #[iv i0, iv i1, iv i2, iv i3, .val (.long i4), .second, .val (.long i5), .second, iv y2, iv y3, iv y4, iv y5, iv y6, rv b8, iv (1 : Int32), .unset, .unset, .unset, .unset, .unset] [(.long (y3.toInt64)), (.ref b8)])) rfl (hb hby at_116) t (XS.lmul X349.here hx rfl (hb hby at_119) rfl (XS.iload X349.here hx rfl (hb hby at_120) rfl (XS.i2l X349.here hx rfl (hb hby at_122) rfl (XS.ladd X349.here hx rfl (hb hby at_123) rfl k))))))) ?_
    show own_Goes p e below (T349.setTop (mkF m 124 #[iv i0, iv i1, iv i2, iv i3, .val (.long i4), .second, .val (.long i5), .second, iv y2, iv y3, iv y4, iv y5, iv y6, rv b8, iv (1 : Int32), .unset, .unset, .unset, .unset, .unset] [(.long (((y3.toInt64) * (64 : Int64)) + (y6.toInt64))), (.ref b8)])) _
    obtain ⟨_, T403, _, X403, hQ403, st403⟩ := own_cv X349 hx hZ hown (wd hw 46 rfl) (wd hw 47 rfl) (wd hw 49 rfl) (wd hw 48 rfl) (wd hw 50 rfl) (wd hw 3 rfl) (by decide) (rm8 l Z a0 hw [] b8 y3 y6 y2 b145 k146 i4 h157 n0 O347 (by rw [hy3]; exact (own_nn_rem y2 (own_nn_mask i1 (2147483647 : Int32) 31 (by decide) (by decide)))) (by rw [hy3]; exact (own_lt_rem y2 (own_nn_mask i1 (2147483647 : Int32) 31 (by decide) (by decide)) (own_pos (by rw [hy2]; exact (own_n1 i0))))) (by rw [hy2]; exact (own_n9 i0)) (by rw [hy6]; exact (own_nn_mask ((i0.toUInt32 >>> ((3 : Int32) &&& 31).toUInt32).toInt32) (63 : Int32) 6 (by decide) (by decide))) (by rw [hy6]; exact (own_lt_mask ((i0.toUInt32 >>> ((3 : Int32) &&& 31).toUInt32).toInt32) (63 : Int32) 6 (by decide) (by decide) (by decide))) F345 E346 vx294) hh400 E346 (g := (mkF m 124 #[iv i0, iv i1, iv i2, iv i3, .val (.long i4), .second, .val (.long i5), .second, iv y2, iv y3, iv y4, iv y5, iv y6, rv b8, iv (1 : Int32), .unset, .unset, .unset, .unset, .unset] [(.long (((y3.toInt64) * (64 : Int64)) + (y6.toInt64))), (.ref b8)])) rfl (by rw [hml]; rfl) (rest := []) (W := 0) (lenOf pd_7 rfl) rfl (by show 2 * 0 + _ ≤ _; exact Nat.le_of_eq rfl) (hb hby at_124) (by decide) (by decide) (by decide) (by decide)
    rcases hQ403 with ⟨hq451, rfl, Nq403, hh452⟩ | ⟨hq453, rfl, Nq403, hh454⟩
    · have N403 := Fr.app N349 Nq403
      refine own_via (fun t k => st403 t (XS.lload X403.here hx rfl (hb hby at_127) rfl (XS.iload X403.here hx rfl (hb hby at_129) rfl (XS.lushr X403.here hx rfl (hb hby at_131) rfl (XS.lconst X403.here hx rfl (hb hby at_132) (XS.land X403.here hx rfl (hb hby at_133) rfl (XS.lconst X403.here hx rfl (hb hby at_134) (XS.lcmp X403.here hx rfl (hb hby at_135) rfl (XS.ifYes X403.here hx rfl (pc0 := 136) (pc' := 143) rfl (hb hby at_136) rfl ((if0 _ _).trans (teq ((lw_eq (((i4.toUInt64 >>> (y6 &&& 0x3f).toInt64.toUInt64).toInt64) &&& (1 : Int64)) (0 : Int64)).mpr ((own_bq i4 (by rw [hy3]; exact (own_nn_rem y2 (own_nn_mask i1 (2147483647 : Int32) 31 (by decide) (by decide)))) (by rw [hy3]; exact (own_lt_rem y2 (own_nn_mask i1 (2147483647 : Int32) 31 (by decide) (by decide)) (own_pos (by rw [hy2]; exact (own_n1 i0))))) (own_le8 (by rw [hy2]; exact (own_n9 i0))) (by rw [hy6]; exact (own_nn_mask ((i0.toUInt32 >>> ((3 : Int32) &&& 31).toUInt32).toInt32) (63 : Int32) 6 (by decide) (by decide))) (by rw [hy6]; exact (own_lt_mask ((i0.toUInt32 >>> ((3 : Int32) &&& 31).toUInt32).toInt32) (63 : Int32) 6 (by decide) (by decide) (by decide)))).mp hq451))).1) (by decide) (by decide) (XS.iconst X403.here hx rfl (hb hby at_143) (XS.icmpNo X403.here hx rfl (hb hby at_144) rfl (teq (by decide : (0 : Int32) = (0 : Int32))).2 (XS.iconst X403.here hx rfl (hb hby at_147) k)))))))))))) ?_
      show own_Goes p e below (T403.setTop (mkF m 148 #[iv i0, iv i1, iv i2, iv i3, .val (.long i4), .second, .val (.long i5), .second, iv y2, iv y3, iv y4, iv y5, iv y6, rv b8, iv (1 : Int32), .unset, .unset, .unset, .unset, .unset] [(.int (1 : Int32))])) _
      refine own_via (fun t k => XS.goto X403.here hx rfl (pc0 := 148) (pc' := 152) rfl (hb hby at_148) (by decide) (by decide) (XS.istore X403.here hx rfl (hb hby at_152) rfl (l' := #[iv i0, iv i1, iv i2, iv i3, .val (.long i4), .second, .val (.long i5), .second, iv y2, iv y3, iv y4, iv y5, iv y6, rv b8, iv (1 : Int32), iv (1 : Int32), .unset, .unset, .unset, .unset]) rfl (XS.aload X403.here hx rfl (hb hby at_154) rfl rfl (XS.iload X403.here hx rfl (hb hby at_156) rfl (XS.i2l X403.here hx rfl (hb hby at_158) rfl (XS.lload X403.here hx rfl (hb hby at_159) rfl k)))))) ?_
      show own_Goes p e below (T403.setTop (mkF m 161 #[iv i0, iv i1, iv i2, iv i3, .val (.long i4), .second, .val (.long i5), .second, iv y2, iv y3, iv y4, iv y5, iv y6, rv b8, iv (1 : Int32), iv (1 : Int32), .unset, .unset, .unset, .unset] [(.long i5), (.long (y4.toInt64)), (.ref b8)])) _
      obtain ⟨_, T455, _, X455, hQ455, st455⟩ := own_cv X403 hx hZ hown (wd hw 28 rfl) (wd hw 29 rfl) (wd hw 31 rfl) (wd hw 30 rfl) (wd hw 32 rfl) (wd hw 3 rfl) (by decide) (rm9 l Z a0 hw [] b8 y4 i5 y2 b145 k146 y3 i4 h157 n0 O347 (by rw [hy4]; exact (own_lt_rem y2 (own_nn_mask i2 (2147483647 : Int32) 31 (by decide) (by decide)) (own_pos (by rw [hy2]; exact (own_n1 i0))))) (by rw [hy2]; exact (own_n9 i0)) F345 E346 (by rw [hy4]; exact (own_nn_rem y2 (own_nn_mask i2 (2147483647 : Int32) 31 (by decide) (by decide)))) vx294 g154 ex295) hh452 E346 (g := (mkF m 161 #[iv i0, iv i1, iv i2, iv i3, .val (.long i4), .second, .val (.long i5), .second, iv y2, iv y3, iv y4, iv y5, iv y6, rv b8, iv (1 : Int32), iv (1 : Int32), .unset, .unset, .unset, .unset] [(.long i5), (.long (y4.toInt64)), (.ref b8)])) rfl (by rw [hml]; rfl) (rest := []) (W := 0) (lenOf pd_5 rfl) rfl (by show 2 * 0 + _ ≤ _; exact Nat.le_of_eq rfl) (hb hby at_161) (by decide) (by decide) (by decide) (by decide)
      obtain ⟨h455, e455⟩ : ∃ z, T455.heap = z := ⟨_, rfl⟩
      rw [e455] at hQ455
      obtain ⟨rfl, Nq455, K455, ex509, vx510⟩ := hQ455
      have N455 := Fr.app N403 Nq455
      refine own_via (fun t k => st455 t (XS.iload X455.here hx rfl (hb hby at_164) rfl (XS.iload X455.here hx rfl (hb hby at_166) rfl k))) ?_
      show own_Goes p e below (T455.setTop (mkF m 168 #[iv i0, iv i1, iv i2, iv i3, .val (.long i4), .second, .val (.long i5), .second, iv y2, iv y3, iv y4, iv y5, iv y6, rv b8, iv (1 : Int32), iv (1 : Int32), .unset, .unset, .unset, .unset] [(.int y4), (.int y3)])) _
      by_cases hc511 : y3 = y4
      · refine own_via (fun t k => XS.icmpNo X455.here hx rfl (hb hby at_168) rfl (teq hc511).2 (XS.lload X455.here hx rfl (hb hby at_171) rfl (XS.goto X455.here hx rfl (pc0 := 173) (pc' := 178) rfl (hb hby at_173) (by decide) (by decide) (XS.lstore X455.here hx rfl (hb hby at_178) rfl (l' := #[iv i0, iv i1, iv i2, iv i3, .val (.long i4), .second, .val (.long i5), .second, iv y2, iv y3, iv y4, iv y5, iv y6, rv b8, iv (1 : Int32), iv (1 : Int32), .val (.long i5), .second, .unset, .unset]) rfl (XS.iload X455.here hx rfl (hb hby at_180) rfl (XS.iload X455.here hx rfl (hb hby at_182) rfl k)))))) ?_
        show own_Goes p e below (T455.setTop (mkF m 184 #[iv i0, iv i1, iv i2, iv i3, .val (.long i4), .second, .val (.long i5), .second, iv y2, iv y3, iv y4, iv y5, iv y6, rv b8, iv (1 : Int32), iv (1 : Int32), .val (.long i5), .second, .unset, .unset] [(.int y4), (.int y5)])) _
        by_cases hc512 : y5 = y4
        · refine own_via (fun t k => XS.icmpNo X455.here hx rfl (hb hby at_184) rfl (teq hc512).2 (XS.lload X455.here hx rfl (hb hby at_187) rfl (XS.goto X455.here hx rfl (pc0 := 189) (pc' := 205) rfl (hb hby at_189) (by decide) (by decide) (XS.lstore X455.here hx rfl (hb hby at_205) rfl (l' := #[iv i0, iv i1, iv i2, iv i3, .val (.long i4), .second, .val (.long i5), .second, iv y2, iv y3, iv y4, iv y5, iv y6, rv b8, iv (1 : Int32), iv (1 : Int32), .val (.long i5), .second, .val (.long i5), .second]) rfl (XS.iload X455.here hx rfl (hb hby at_207) rfl (XS.ifNo X455.here hx rfl (hb hby at_209) rfl ((if0 _ _).trans (feq (by decide : ¬ ((1 : Int32) = (0 : Int32)))).1) (XS.iload X455.here hx rfl (hb hby at_212) rfl (XS.ifNo X455.here hx rfl (hb hby at_214) rfl ((if0 _ _).trans (feq (by decide : ¬ ((1 : Int32) = (0 : Int32)))).1) (XS.aload X455.here hx rfl (hb hby at_217) rfl rfl (XS.iload X455.here hx rfl (hb hby at_219) rfl (XS.i2l X455.here hx rfl (hb hby at_221) rfl k))))))))))) ?_
          show own_Goes p e below (T455.setTop (mkF m 222 #[iv i0, iv i1, iv i2, iv i3, .val (.long i4), .second, .val (.long i5), .second, iv y2, iv y3, iv y4, iv y5, iv y6, rv b8, iv (1 : Int32), iv (1 : Int32), .val (.long i5), .second, .val (.long i5), .second] [(.long (y3.toInt64)), (.ref b8)])) _
          have F567 : Fld Z h455 b8 zs1 "firstBlock" "[J" (.ref b145) := (F345.keep K455 (ninS N153 nin0))
          have E568 : Exa Z h455 b8 zs1 := (E346.keep K455)
          have O569 : Old Z n0 h455 := (O347.keep K455 (allS g154 all0))
          obtain ⟨_, T513, _, X513, hQ513, st513⟩ := own_cv X455 hx hZ hown (wd hw 40 rfl) (wd hw 41 rfl) (wd hw 43 rfl) (wd hw 42 rfl) (wd hw 44 rfl) (wd hw 3 rfl) (by decide) (rm10 l Z a0 hw [] b8 y3 y2 b145 k146 y4 i5 i4 h455 n0 O569 (by rw [hy3]; exact (own_lt_rem y2 (own_nn_mask i1 (2147483647 : Int32) 31 (by decide) (by decide)) (own_pos (by rw [hy2]; exact (own_n1 i0))))) (by rw [hy2]; exact (own_n9 i0)) F567 E568 (by rw [hy3]; exact (own_nn_rem y2 (own_nn_mask i1 (2147483647 : Int32) 31 (by decide) (by decide)))) vx510 hc511) e455 E568 (g := (mkF m 222 #[iv i0, iv i1, iv i2, iv i3, .val (.long i4), .second, .val (.long i5), .second, iv y2, iv y3, iv y4, iv y5, iv y6, rv b8, iv (1 : Int32), iv (1 : Int32), .val (.long i5), .second, .val (.long i5), .second] [(.long (y3.toInt64)), (.ref b8)])) rfl (by rw [hml]; rfl) (rest := []) (W := 0) (lenOf pd_6 rfl) rfl (by show 2 * 0 + _ ≤ _; exact Nat.le_of_eq rfl) (hb hby at_222) (by decide) (by decide) (by decide) (by decide)
          obtain ⟨rfl, Nq513, hh570⟩ := hQ513
          have N513 := Fr.app N455 Nq513
          refine own_via (fun t k => st513 t (XS.lload X513.here hx rfl (hb hby at_225) rfl (XS.lcmp X513.here hx rfl (hb hby at_227) rfl (XS.ifNo X513.here hx rfl (hb hby at_228) rfl ((if0 _ _).trans (teq ((lw_eq i5 i5).mpr (rfl : i5 = i5))).2) (XS.aload X513.here hx rfl (hb hby at_231) rfl rfl (XS.iload X513.here hx rfl (hb hby at_233) rfl (XS.i2l X513.here hx rfl (hb hby at_235) rfl k))))))) ?_
          show own_Goes p e below (T513.setTop (mkF m 236 #[iv i0, iv i1, iv i2, iv i3, .val (.long i4), .second, .val (.long i5), .second, iv y2, iv y3, iv y4, iv y5, iv y6, rv b8, iv (1 : Int32), iv (1 : Int32), .val (.long i5), .second, .val (.long i5), .second] [(.long (y5.toInt64)), (.ref b8)])) _
          obtain ⟨_, T571, _, X571, hQ571, st571⟩ := own_cv X513 hx hZ hown (wd hw 40 rfl) (wd hw 41 rfl) (wd hw 43 rfl) (wd hw 42 rfl) (wd hw 44 rfl) (wd hw 3 rfl) (by decide) (rm11 l Z a0 hw [] b8 y5 y2 b145 k146 y4 i5 y3 i4 h455 n0 O569 (by rw [hy5]; exact (own_lt_rem y2 (own_nn_mask i3 (2147483647 : Int32) 31 (by decide) (by decide)) (own_pos (by rw [hy2]; exact (own_n1 i0))))) (by rw [hy2]; exact (own_n9 i0)) F567 E568 (by rw [hy5]; exact (own_nn_rem y2 (own_nn_mask i3 (2147483647 : Int32) 31 (by decide) (by decide)))) vx510 hc512) hh570 E568 (g := (mkF m 236 #[iv i0, iv i1, iv i2, iv i3, .val (.long i4), .second, .val (.long i5), .second, iv y2, iv y3, iv y4, iv y5, iv y6, rv b8, iv (1 : Int32), iv (1 : Int32), .val (.long i5), .second, .val (.long i5), .second] [(.long (y5.toInt64)), (.ref b8)])) rfl (by rw [hml]; rfl) (rest := []) (W := 0) (lenOf pd_6 rfl) rfl (by show 2 * 0 + _ ≤ _; exact Nat.le_of_eq rfl) (hb hby at_236) (by decide) (by decide) (by decide) (by decide)
          obtain ⟨rfl, Nq571, hh625⟩ := hQ571
          have N571 := Fr.app N513 Nq571
          refine own_via (fun t k => st571 t (XS.lload X571.here hx rfl (hb hby at_239) rfl (XS.lcmp X571.here hx rfl (hb hby at_241) rfl (XS.ifNo X571.here hx rfl (hb hby at_242) rfl ((if0 _ _).trans (teq ((lw_eq i5 i5).mpr (rfl : i5 = i5))).2) (XS.aload X571.here hx rfl (hb hby at_245) rfl rfl k))))) ?_
          show own_Goes p e below (T571.setTop (mkF m 247 #[iv i0, iv i1, iv i2, iv i3, .val (.long i4), .second, .val (.long i5), .second, iv y2, iv y3, iv y4, iv y5, iv y6, rv b8, iv (1 : Int32), iv (1 : Int32), .val (.long i5), .second, .val (.long i5), .second] [(.ref b8)])) _
          have F676 : Fld Z h455 b8 zs1 "length" "J" (.long (y2.toInt64)) := ((fx148.keep K157 (ninS N153 nin0)).keep K455 (ninS N153 nin0))
          obtain ⟨_, T626, _, X626, hQ626, st626⟩ := own_cv X571 hx hZ hown (wd hw 53 rfl) (wd hw 54 rfl) (wd hw 56 rfl) (wd hw 55 rfl) (wd hw 57 rfl) (wd hw 3 rfl) (by decide) (rm12 l Z a0 hw [] b8 y2 h455 n0 O569 F676) hh625 E568 (g := (mkF m 247 #[iv i0, iv i1, iv i2, iv i3, .val (.long i4), .second, .val (.long i5), .second, iv y2, iv y3, iv y4, iv y5, iv y6, rv b8, iv (1 : Int32), iv (1 : Int32), .val (.long i5), .second, .val (.long i5), .second] [(.ref b8)])) rfl (by rw [hml]; rfl) (rest := []) (W := 0) (lenOf pd_8 rfl) rfl (by show 2 * 0 + _ ≤ _; exact Nat.le_of_eq rfl) (hb hby at_247) (by decide) (by decide) (by decide) (by decide)
          obtain ⟨rfl, Nq626, hh677⟩ := hQ626
          have N626 := Fr.app N571 Nq626
          refine own_via (fun t k => st626 t (XS.iload X626.here hx rfl (hb hby at_250) rfl (XS.i2l X626.here hx rfl (hb hby at_252) rfl (XS.lcmp X626.here hx rfl (hb hby at_253) rfl (XS.ifNo X626.here hx rfl (hb hby at_254) rfl ((if0 _ _).trans (teq ((lw_eq (y2.toInt64) (y2.toInt64)).mpr (rfl : (y2.toInt64) = (y2.toInt64)))).2) (XS.iconst X626.here hx rfl (hb hby at_257) (XS.goto X626.here hx rfl (pc0 := 258) (pc' := 262) rfl (hb hby at_258) (by decide) (by decide) k))))))) ?_
          show own_Goes p e below (T626.setTop (mkF m 262 #[iv i0, iv i1, iv i2, iv i3, .val (.long i4), .second, .val (.long i5), .second, iv y2, iv y3, iv y4, iv y5, iv y6, rv b8, iv (1 : Int32), iv (1 : Int32), .val (.long i5), .second, .val (.long i5), .second] [(.int (1 : Int32))])) _
          obtain ⟨fs, hr, hrun, hended, hW, hsame⟩ := X626.leave (v := some (.int (1 : Int32))) (fun h => by rw [Bd.returns] at h; cases h)
          refine own_end (t := T626.setFrames fs) ?_ ⟨_, hrun, hended, _, _, rfl, ?_, ⟨_, rfl⟩, hW, hsame.mono (by decide) (by decide)⟩
          · exact retN X626 hx (t := .boolean) Bd.returns (by simp) (hb hby at_262) hr
          · exact ⟨rfl, N626⟩
        · refine own_via (fun t k => XS.icmpYes X455.here hx rfl (pc0 := 184) (pc' := 192) rfl (hb hby at_184) rfl (feq hc512).2 (by decide) (by decide) (XS.iload X455.here hx rfl (hb hby at_192) rfl (XS.iload X455.here hx rfl (hb hby at_194) rfl (XS.icmpNo X455.here hx rfl (hb hby at_196) rfl (teq hq399).2 (XS.lload X455.here hx rfl (hb hby at_199) rfl (XS.goto X455.here hx rfl (pc0 := 201) (pc' := 205) rfl (hb hby at_201) (by decide) (by decide) (XS.lstore X455.here hx rfl (hb hby at_205) rfl (l' := #[iv i0, iv i1, iv i2, iv i3, .val (.long i4), .second, .val (.long i5), .second, iv y2, iv y3, iv y4, iv y5, iv y6, rv b8, iv (1 : Int32), iv (1 : Int32), .val (.long i5), .second, .val (.long i4), .second]) rfl (XS.iload X455.here hx rfl (hb hby at_207) rfl (XS.ifNo X455.here hx rfl (hb hby at_209) rfl ((if0 _ _).trans (feq (by decide : ¬ ((1 : Int32) = (0 : Int32)))).1) (XS.iload X455.here hx rfl (hb hby at_212) rfl (XS.ifNo X455.here hx rfl (hb hby at_214) rfl ((if0 _ _).trans (feq (by decide : ¬ ((1 : Int32) = (0 : Int32)))).1) (XS.aload X455.here hx rfl (hb hby at_217) rfl rfl k)))))))))))) ?_
          show own_Goes p e below (T455.setTop (mkF m 219 #[iv i0, iv i1, iv i2, iv i3, .val (.long i4), .second, .val (.long i5), .second, iv y2, iv y3, iv y4, iv y5, iv y6, rv b8, iv (1 : Int32), iv (1 : Int32), .val (.long i5), .second, .val (.long i4), .second] [(.ref b8)])) _
          refine own_via (fun t k => XS.iload X455.here hx rfl (hb hby at_219) rfl (XS.i2l X455.here hx rfl (hb hby at_221) rfl k)) ?_
          have F679 : Fld Z h455 b8 zs1 "firstBlock" "[J" (.ref b145) := (F345.keep K455 (ninS N153 nin0))
          have E680 : Exa Z h455 b8 zs1 := (E346.keep K455)
          have O681 : Old Z n0 h455 := (O347.keep K455 (allS g154 all0))
          obtain ⟨_, T678, _, X678, hQ678, st678⟩ := own_cv X455 hx hZ hown (wd hw 40 rfl) (wd hw 41 rfl) (wd hw 43 rfl) (wd hw 42 rfl) (wd hw 44 rfl) (wd hw 3 rfl) (by decide) (rm10 l Z a0 hw [] b8 y3 y2 b145 k146 y4 i5 i4 h455 n0 O681 (by rw [hy3]; exact (own_lt_rem y2 (own_nn_mask i1 (2147483647 : Int32) 31 (by decide) (by decide)) (own_pos (by rw [hy2]; exact (own_n1 i0))))) (by rw [hy2]; exact (own_n9 i0)) F679 E680 (by rw [hy3]; exact (own_nn_rem y2 (own_nn_mask i1 (2147483647 : Int32) 31 (by decide) (by decide)))) vx510 hc511) e455 E680 (g := (mkF m 222 #[iv i0, iv i1, iv i2, iv i3, .val (.long i4), .second, .val (.long i5), .second, iv y2, iv y3, iv y4, iv y5, iv y6, rv b8, iv (1 : Int32), iv (1 : Int32), .val (.long i5), .second, .val (.long i4), .second] [(.long (y3.toInt64)), (.ref b8)])) rfl (by rw [hml]; rfl) (rest := []) (W := 0) (lenOf pd_6 rfl) rfl (by show 2 * 0 + _ ≤ _; exact Nat.le_of_eq rfl) (hb hby at_222) (by decide) (by decide) (by decide) (by decide)
          obtain ⟨rfl, Nq678, hh682⟩ := hQ678
          have N678 := Fr.app N455 Nq678
          refine own_via (fun t k => st678 t (XS.lload X678.here hx rfl (hb hby at_225) rfl (XS.lcmp X678.here hx rfl (hb hby at_227) rfl (XS.ifNo X678.here hx rfl (hb hby at_228) rfl ((if0 _ _).trans (teq ((lw_eq i5 i5).mpr (rfl : i5 = i5))).2) (XS.aload X678.here hx rfl (hb hby at_231) rfl rfl (XS.iload X678.here hx rfl (hb hby at_233) rfl (XS.i2l X678.here hx rfl (hb hby at_235) rfl k))))))) ?_
          show own_Goes p e below (T678.setTop (mkF m 236 #[iv i0, iv i1, iv i2, iv i3, .val (.long i4), .second, .val (.long i5), .second, iv y2, iv y3, iv y4, iv y5, iv y6, rv b8, iv (1 : Int32), iv (1 : Int32), .val (.long i5), .second, .val (.long i4), .second] [(.long (y5.toInt64)), (.ref b8)])) _
          obtain ⟨_, T683, _, X683, hQ683, st683⟩ := own_cv X678 hx hZ hown (wd hw 40 rfl) (wd hw 41 rfl) (wd hw 43 rfl) (wd hw 42 rfl) (wd hw 44 rfl) (wd hw 3 rfl) (by decide) (rm13 l Z a0 hw [] b8 y5 y2 b145 k146 y4 i5 y3 i4 h455 n0 O681 (by rw [hy5]; exact (own_lt_rem y2 (own_nn_mask i3 (2147483647 : Int32) 31 (by decide) (by decide)) (own_pos (by rw [hy2]; exact (own_n1 i0))))) (by rw [hy2]; exact (own_n9 i0)) F679 E680 (by rw [hy5]; exact (own_nn_rem y2 (own_nn_mask i3 (2147483647 : Int32) 31 (by decide) (by decide)))) vx510 hc512 hq399) hh682 E680 (g := (mkF m 236 #[iv i0, iv i1, iv i2, iv i3, .val (.long i4), .second, .val (.long i5), .second, iv y2, iv y3, iv y4, iv y5, iv y6, rv b8, iv (1 : Int32), iv (1 : Int32), .val (.long i5), .second, .val (.long i4), .second] [(.long (y5.toInt64)), (.ref b8)])) rfl (by rw [hml]; rfl) (rest := []) (W := 0) (lenOf pd_6 rfl) rfl (by show 2 * 0 + _ ≤ _; exact Nat.le_of_eq rfl) (hb hby at_236) (by decide) (by decide) (by decide) (by decide)
          obtain ⟨rfl, Nq683, hh737⟩ := hQ683
          have N683 := Fr.app N678 Nq683
          refine own_via (fun t k => st683 t (XS.lload X683.here hx rfl (hb hby at_239) rfl (XS.lcmp X683.here hx rfl (hb hby at_241) rfl (XS.ifNo X683.here hx rfl (hb hby at_242) rfl ((if0 _ _).trans (teq ((lw_eq i4 i4).mpr (rfl : i4 = i4))).2) (XS.aload X683.here hx rfl (hb hby at_245) rfl rfl k))))) ?_
          show own_Goes p e below (T683.setTop (mkF m 247 #[iv i0, iv i1, iv i2, iv i3, .val (.long i4), .second, .val (.long i5), .second, iv y2, iv y3, iv y4, iv y5, iv y6, rv b8, iv (1 : Int32), iv (1 : Int32), .val (.long i5), .second, .val (.long i4), .second] [(.ref b8)])) _
          have F739 : Fld Z h455 b8 zs1 "length" "J" (.long (y2.toInt64)) := ((fx148.keep K157 (ninS N153 nin0)).keep K455 (ninS N153 nin0))
          obtain ⟨_, T738, _, X738, hQ738, st738⟩ := own_cv X683 hx hZ hown (wd hw 53 rfl) (wd hw 54 rfl) (wd hw 56 rfl) (wd hw 55 rfl) (wd hw 57 rfl) (wd hw 3 rfl) (by decide) (rm12 l Z a0 hw [] b8 y2 h455 n0 O681 F739) hh737 E680 (g := (mkF m 247 #[iv i0, iv i1, iv i2, iv i3, .val (.long i4), .second, .val (.long i5), .second, iv y2, iv y3, iv y4, iv y5, iv y6, rv b8, iv (1 : Int32), iv (1 : Int32), .val (.long i5), .second, .val (.long i4), .second] [(.ref b8)])) rfl (by rw [hml]; rfl) (rest := []) (W := 0) (lenOf pd_8 rfl) rfl (by show 2 * 0 + _ ≤ _; exact Nat.le_of_eq rfl) (hb hby at_247) (by decide) (by decide) (by decide) (by decide)
          obtain ⟨rfl, Nq738, hh740⟩ := hQ738
          have N738 := Fr.app N683 Nq738
          refine own_via (fun t k => st738 t (XS.iload X738.here hx rfl (hb hby at_250) rfl (XS.i2l X738.here hx rfl (hb hby at_252) rfl (XS.lcmp X738.here hx rfl (hb hby at_253) rfl (XS.ifNo X738.here hx rfl (hb hby at_254) rfl ((if0 _ _).trans (teq ((lw_eq (y2.toInt64) (y2.toInt64)).mpr (rfl : (y2.toInt64) = (y2.toInt64)))).2) (XS.iconst X738.here hx rfl (hb hby at_257) (XS.goto X738.here hx rfl (pc0 := 258) (pc' := 262) rfl (hb hby at_258) (by decide) (by decide) k))))))) ?_
          show own_Goes p e below (T738.setTop (mkF m 262 #[iv i0, iv i1, iv i2, iv i3, .val (.long i4), .second, .val (.long i5), .second, iv y2, iv y3, iv y4, iv y5, iv y6, rv b8, iv (1 : Int32), iv (1 : Int32), .val (.long i5), .second, .val (.long i4), .second] [(.int (1 : Int32))])) _
          obtain ⟨fs, hr, hrun, hended, hW, hsame⟩ := X738.leave (v := some (.int (1 : Int32))) (fun h => by rw [Bd.returns] at h; cases h)
          refine own_end (t := T738.setFrames fs) ?_ ⟨_, hrun, hended, _, _, rfl, ?_, ⟨_, rfl⟩, hW, hsame.mono (by decide) (by decide)⟩
          · exact retN X738 hx (t := .boolean) Bd.returns (by simp) (hb hby at_262) hr
          · exact ⟨rfl, N738⟩
      · refine own_via (fun t k => XS.icmpYes X455.here hx rfl (pc0 := 168) (pc' := 176) rfl (hb hby at_168) rfl (feq hc511).2 (by decide) (by decide) (XS.lload X455.here hx rfl (hb hby at_176) rfl (XS.lstore X455.here hx rfl (hb hby at_178) rfl (l' := #[iv i0, iv i1, iv i2, iv i3, .val (.long i4), .second, .val (.long i5), .second, iv y2, iv y3, iv y4, iv y5, iv y6, rv b8, iv (1 : Int32), iv (1 : Int32), .val (.long i4), .second, .unset, .unset]) rfl (XS.iload X455.here hx rfl (hb hby at_180) rfl (XS.iload X455.here hx rfl (hb hby at_182) rfl k))))) ?_
        show own_Goes p e below (T455.setTop (mkF m 184 #[iv i0, iv i1, iv i2, iv i3, .val (.long i4), .second, .val (.long i5), .second, iv y2, iv y3, iv y4, iv y5, iv y6, rv b8, iv (1 : Int32), iv (1 : Int32), .val (.long i4), .second, .unset, .unset] [(.int y4), (.int y5)])) _
        by_cases hc741 : y5 = y4
        · refine own_via (fun t k => XS.icmpNo X455.here hx rfl (hb hby at_184) rfl (teq hc741).2 (XS.lload X455.here hx rfl (hb hby at_187) rfl (XS.goto X455.here hx rfl (pc0 := 189) (pc' := 205) rfl (hb hby at_189) (by decide) (by decide) (XS.lstore X455.here hx rfl (hb hby at_205) rfl (l' := #[iv i0, iv i1, iv i2, iv i3, .val (.long i4), .second, .val (.long i5), .second, iv y2, iv y3, iv y4, iv y5, iv y6, rv b8, iv (1 : Int32), iv (1 : Int32), .val (.long i4), .second, .val (.long i5), .second]) rfl (XS.iload X455.here hx rfl (hb hby at_207) rfl (XS.ifNo X455.here hx rfl (hb hby at_209) rfl ((if0 _ _).trans (feq (by decide : ¬ ((1 : Int32) = (0 : Int32)))).1) (XS.iload X455.here hx rfl (hb hby at_212) rfl (XS.ifNo X455.here hx rfl (hb hby at_214) rfl ((if0 _ _).trans (feq (by decide : ¬ ((1 : Int32) = (0 : Int32)))).1) (XS.aload X455.here hx rfl (hb hby at_217) rfl rfl (XS.iload X455.here hx rfl (hb hby at_219) rfl (XS.i2l X455.here hx rfl (hb hby at_221) rfl k))))))))))) ?_
          show own_Goes p e below (T455.setTop (mkF m 222 #[iv i0, iv i1, iv i2, iv i3, .val (.long i4), .second, .val (.long i5), .second, iv y2, iv y3, iv y4, iv y5, iv y6, rv b8, iv (1 : Int32), iv (1 : Int32), .val (.long i4), .second, .val (.long i5), .second] [(.long (y3.toInt64)), (.ref b8)])) _
          have F796 : Fld Z h455 b8 zs1 "firstBlock" "[J" (.ref b145) := (F345.keep K455 (ninS N153 nin0))
          have E797 : Exa Z h455 b8 zs1 := (E346.keep K455)
          have O798 : Old Z n0 h455 := (O347.keep K455 (allS g154 all0))
          obtain ⟨_, T742, _, X742, hQ742, st742⟩ := own_cv X455 hx hZ hown (wd hw 40 rfl) (wd hw 41 rfl) (wd hw 43 rfl) (wd hw 42 rfl) (wd hw 44 rfl) (wd hw 3 rfl) (by decide) (rm14 l Z a0 hw [] b8 y3 y2 b145 k146 y4 i5 i4 h455 n0 O798 (by rw [hy3]; exact (own_lt_rem y2 (own_nn_mask i1 (2147483647 : Int32) 31 (by decide) (by decide)) (own_pos (by rw [hy2]; exact (own_n1 i0))))) (by rw [hy2]; exact (own_n9 i0)) F796 E797 (by rw [hy3]; exact (own_nn_rem y2 (own_nn_mask i1 (2147483647 : Int32) 31 (by decide) (by decide)))) vx510 hc511) e455 E797 (g := (mkF m 222 #[iv i0, iv i1, iv i2, iv i3, .val (.long i4), .second, .val (.long i5), .second, iv y2, iv y3, iv y4, iv y5, iv y6, rv b8, iv (1 : Int32), iv (1 : Int32), .val (.long i4), .second, .val (.long i5), .second] [(.long (y3.toInt64)), (.ref b8)])) rfl (by rw [hml]; rfl) (rest := []) (W := 0) (lenOf pd_6 rfl) rfl (by show 2 * 0 + _ ≤ _; exact Nat.le_of_eq rfl) (hb hby at_222) (by decide) (by decide) (by decide) (by decide)
          obtain ⟨rfl, Nq742, hh799⟩ := hQ742
          have N742 := Fr.app N455 Nq742
          refine own_via (fun t k => st742 t (XS.lload X742.here hx rfl (hb hby at_225) rfl (XS.lcmp X742.here hx rfl (hb hby at_227) rfl (XS.ifNo X742.here hx rfl (hb hby at_228) rfl ((if0 _ _).trans (teq ((lw_eq i4 i4).mpr (rfl : i4 = i4))).2) (XS.aload X742.here hx rfl (hb hby at_231) rfl rfl (XS.iload X742.here hx rfl (hb hby at_233) rfl (XS.i2l X742.here hx rfl (hb hby at_235) rfl k))))))) ?_
          show own_Goes p e below (T742.setTop (mkF m 236 #[iv i0, iv i1, iv i2, iv i3, .val (.long i4), .second, .val (.long i5), .second, iv y2, iv y3, iv y4, iv y5, iv y6, rv b8, iv (1 : Int32), iv (1 : Int32), .val (.long i4), .second, .val (.long i5), .second] [(.long (y5.toInt64)), (.ref b8)])) _
          obtain ⟨_, T800, _, X800, hQ800, st800⟩ := own_cv X742 hx hZ hown (wd hw 40 rfl) (wd hw 41 rfl) (wd hw 43 rfl) (wd hw 42 rfl) (wd hw 44 rfl) (wd hw 3 rfl) (by decide) (rm11 l Z a0 hw [] b8 y5 y2 b145 k146 y4 i5 y3 i4 h455 n0 O798 (by rw [hy5]; exact (own_lt_rem y2 (own_nn_mask i3 (2147483647 : Int32) 31 (by decide) (by decide)) (own_pos (by rw [hy2]; exact (own_n1 i0))))) (by rw [hy2]; exact (own_n9 i0)) F796 E797 (by rw [hy5]; exact (own_nn_rem y2 (own_nn_mask i3 (2147483647 : Int32) 31 (by decide) (by decide)))) vx510 hc741) hh799 E797 (g := (mkF m 236 #[iv i0, iv i1, iv i2, iv i3, .val (.long i4), .second, .val (.long i5), .second, iv y2, iv y3, iv y4, iv y5, iv y6, rv b8, iv (1 : Int32), iv (1 : Int32), .val (.long i4), .second, .val (.long i5), .second] [(.long (y5.toInt64)), (.ref b8)])) rfl (by rw [hml]; rfl) (rest := []) (W := 0) (lenOf pd_6 rfl) rfl (by show 2 * 0 + _ ≤ _; exact Nat.le_of_eq rfl) (hb hby at_236) (by decide) (by decide) (by decide) (by decide)
          obtain ⟨rfl, Nq800, hh801⟩ := hQ800
          have N800 := Fr.app N742 Nq800
          refine own_via (fun t k => st800 t (XS.lload X800.here hx rfl (hb hby at_239) rfl (XS.lcmp X800.here hx rfl (hb hby at_241) rfl (XS.ifNo X800.here hx rfl (hb hby at_242) rfl ((if0 _ _).trans (teq ((lw_eq i5 i5).mpr (rfl : i5 = i5))).2) (XS.aload X800.here hx rfl (hb hby at_245) rfl rfl k))))) ?_
          show own_Goes p e below (T800.setTop (mkF m 247 #[iv i0, iv i1, iv i2, iv i3, .val (.long i4), .second, .val (.long i5), .second, iv y2, iv y3, iv y4, iv y5, iv y6, rv b8, iv (1 : Int32), iv (1 : Int32), .val (.long i4), .second, .val (.long i5), .second] [(.ref b8)])) _
          have F803 : Fld Z h455 b8 zs1 "length" "J" (.long (y2.toInt64)) := ((fx148.keep K157 (ninS N153 nin0)).keep K455 (ninS N153 nin0))
          obtain ⟨_, T802, _, X802, hQ802, st802⟩ := own_cv X800 hx hZ hown (wd hw 53 rfl) (wd hw 54 rfl) (wd hw 56 rfl) (wd hw 55 rfl) (wd hw 57 rfl) (wd hw 3 rfl) (by decide) (rm12 l Z a0 hw [] b8 y2 h455 n0 O798 F803) hh801 E797 (g := (mkF m 247 #[iv i0, iv i1, iv i2, iv i3, .val (.long i4), .second, .val (.long i5), .second, iv y2, iv y3, iv y4, iv y5, iv y6, rv b8, iv (1 : Int32), iv (1 : Int32), .val (.long i4), .second, .val (.long i5), .second] [(.ref b8)])) rfl (by rw [hml]; rfl) (rest := []) (W := 0) (lenOf pd_8 rfl) rfl (by show 2 * 0 + _ ≤ _; exact Nat.le_of_eq rfl) (hb hby at_247) (by decide) (by decide) (by decide) (by decide)
          obtain ⟨rfl, Nq802, hh804⟩ := hQ802
          have N802 := Fr.app N800 Nq802
          refine own_via (fun t k => st802 t (XS.iload X802.here hx rfl (hb hby at_250) rfl (XS.i2l X802.here hx rfl (hb hby at_252) rfl (XS.lcmp X802.here hx rfl (hb hby at_253) rfl (XS.ifNo X802.here hx rfl (hb hby at_254) rfl ((if0 _ _).trans (teq ((lw_eq (y2.toInt64) (y2.toInt64)).mpr (rfl : (y2.toInt64) = (y2.toInt64)))).2) (XS.iconst X802.here hx rfl (hb hby at_257) (XS.goto X802.here hx rfl (pc0 := 258) (pc' := 262) rfl (hb hby at_258) (by decide) (by decide) k))))))) ?_
          show own_Goes p e below (T802.setTop (mkF m 262 #[iv i0, iv i1, iv i2, iv i3, .val (.long i4), .second, .val (.long i5), .second, iv y2, iv y3, iv y4, iv y5, iv y6, rv b8, iv (1 : Int32), iv (1 : Int32), .val (.long i4), .second, .val (.long i5), .second] [(.int (1 : Int32))])) _
          obtain ⟨fs, hr, hrun, hended, hW, hsame⟩ := X802.leave (v := some (.int (1 : Int32))) (fun h => by rw [Bd.returns] at h; cases h)
          refine own_end (t := T802.setFrames fs) ?_ ⟨_, hrun, hended, _, _, rfl, ?_, ⟨_, rfl⟩, hW, hsame.mono (by decide) (by decide)⟩
          · exact retN X802 hx (t := .boolean) Bd.returns (by simp) (hb hby at_262) hr
          · exact ⟨rfl, N802⟩
        · refine own_via (fun t k => XS.icmpYes X455.here hx rfl (pc0 := 184) (pc' := 192) rfl (hb hby at_184) rfl (feq hc741).2 (by decide) (by decide) (XS.iload X455.here hx rfl (hb hby at_192) rfl (XS.iload X455.here hx rfl (hb hby at_194) rfl (XS.icmpNo X455.here hx rfl (hb hby at_196) rfl (teq hq399).2 (XS.lload X455.here hx rfl (hb hby at_199) rfl (XS.goto X455.here hx rfl (pc0 := 201) (pc' := 205) rfl (hb hby at_201) (by decide) (by decide) (XS.lstore X455.here hx rfl (hb hby at_205) rfl (l' := #[iv i0, iv i1, iv i2, iv i3, .val (.long i4), .second, .val (.long i5), .second, iv y2, iv y3, iv y4, iv y5, iv y6, rv b8, iv (1 : Int32), iv (1 : Int32), .val (.long i4), .second, .val (.long i4), .second]) rfl (XS.iload X455.here hx rfl (hb hby at_207) rfl (XS.ifNo X455.here hx rfl (hb hby at_209) rfl ((if0 _ _).trans (feq (by decide : ¬ ((1 : Int32) = (0 : Int32)))).1) (XS.iload X455.here hx rfl (hb hby at_212) rfl (XS.ifNo X455.here hx rfl (hb hby at_214) rfl ((if0 _ _).trans (feq (by decide : ¬ ((1 : Int32) = (0 : Int32)))).1) (XS.aload X455.here hx rfl (hb hby at_217) rfl rfl k)))))))))))) ?_
          show own_Goes p e below (T455.setTop (mkF m 219 #[iv i0, iv i1, iv i2, iv i3, .val (.long i4), .second, .val (.long i5), .second, iv y2, iv y3, iv y4, iv y5, iv y6, rv b8, iv (1 : Int32), iv (1 : Int32), .val (.long i4), .second, .val (.long i4), .second] [(.ref b8)])) _
          refine own_via (fun t k => XS.iload X455.here hx rfl (hb hby at_219) rfl (XS.i2l X455.here hx rfl (hb hby at_221) rfl k)) ?_
          have F806 : Fld Z h455 b8 zs1 "firstBlock" "[J" (.ref b145) := (F345.keep K455 (ninS N153 nin0))
          have E807 : Exa Z h455 b8 zs1 := (E346.keep K455)
          have O808 : Old Z n0 h455 := (O347.keep K455 (allS g154 all0))
          obtain ⟨_, T805, _, X805, hQ805, st805⟩ := own_cv X455 hx hZ hown (wd hw 40 rfl) (wd hw 41 rfl) (wd hw 43 rfl) (wd hw 42 rfl) (wd hw 44 rfl) (wd hw 3 rfl) (by decide) (rm14 l Z a0 hw [] b8 y3 y2 b145 k146 y4 i5 i4 h455 n0 O808 (by rw [hy3]; exact (own_lt_rem y2 (own_nn_mask i1 (2147483647 : Int32) 31 (by decide) (by decide)) (own_pos (by rw [hy2]; exact (own_n1 i0))))) (by rw [hy2]; exact (own_n9 i0)) F806 E807 (by rw [hy3]; exact (own_nn_rem y2 (own_nn_mask i1 (2147483647 : Int32) 31 (by decide) (by decide)))) vx510 hc511) e455 E807 (g := (mkF m 222 #[iv i0, iv i1, iv i2, iv i3, .val (.long i4), .second, .val (.long i5), .second, iv y2, iv y3, iv y4, iv y5, iv y6, rv b8, iv (1 : Int32), iv (1 : Int32), .val (.long i4), .second, .val (.long i4), .second] [(.long (y3.toInt64)), (.ref b8)])) rfl (by rw [hml]; rfl) (rest := []) (W := 0) (lenOf pd_6 rfl) rfl (by show 2 * 0 + _ ≤ _; exact Nat.le_of_eq rfl) (hb hby at_222) (by decide) (by decide) (by decide) (by decide)
          obtain ⟨rfl, Nq805, hh809⟩ := hQ805
          have N805 := Fr.app N455 Nq805
          refine own_via (fun t k => st805 t (XS.lload X805.here hx rfl (hb hby at_225) rfl (XS.lcmp X805.here hx rfl (hb hby at_227) rfl (XS.ifNo X805.here hx rfl (hb hby at_228) rfl ((if0 _ _).trans (teq ((lw_eq i4 i4).mpr (rfl : i4 = i4))).2) (XS.aload X805.here hx rfl (hb hby at_231) rfl rfl (XS.iload X805.here hx rfl (hb hby at_233) rfl (XS.i2l X805.here hx rfl (hb hby at_235) rfl k))))))) ?_
          show own_Goes p e below (T805.setTop (mkF m 236 #[iv i0, iv i1, iv i2, iv i3, .val (.long i4), .second, .val (.long i5), .second, iv y2, iv y3, iv y4, iv y5, iv y6, rv b8, iv (1 : Int32), iv (1 : Int32), .val (.long i4), .second, .val (.long i4), .second] [(.long (y5.toInt64)), (.ref b8)])) _
          obtain ⟨_, T810, _, X810, hQ810, st810⟩ := own_cv X805 hx hZ hown (wd hw 40 rfl) (wd hw 41 rfl) (wd hw 43 rfl) (wd hw 42 rfl) (wd hw 44 rfl) (wd hw 3 rfl) (by decide) (rm13 l Z a0 hw [] b8 y5 y2 b145 k146 y4 i5 y3 i4 h455 n0 O808 (by rw [hy5]; exact (own_lt_rem y2 (own_nn_mask i3 (2147483647 : Int32) 31 (by decide) (by decide)) (own_pos (by rw [hy2]; exact (own_n1 i0))))) (by rw [hy2]; exact (own_n9 i0)) F806 E807 (by rw [hy5]; exact (own_nn_rem y2 (own_nn_mask i3 (2147483647 : Int32) 31 (by decide) (by decide)))) vx510 hc741 hq399) hh809 E807 (g := (mkF m 236 #[iv i0, iv i1, iv i2, iv i3, .val (.long i4), .second, .val (.long i5), .second, iv y2, iv y3, iv y4, iv y5, iv y6, rv b8, iv (1 : Int32), iv (1 : Int32), .val (.long i4), .second, .val (.long i4), .second] [(.long (y5.toInt64)), (.ref b8)])) rfl (by rw [hml]; rfl) (rest := []) (W := 0) (lenOf pd_6 rfl) rfl (by show 2 * 0 + _ ≤ _; exact Nat.le_of_eq rfl) (hb hby at_236) (by decide) (by decide) (by decide) (by decide)
          obtain ⟨rfl, Nq810, hh811⟩ := hQ810
          have N810 := Fr.app N805 Nq810
          refine own_via (fun t k => st810 t (XS.lload X810.here hx rfl (hb hby at_239) rfl (XS.lcmp X810.here hx rfl (hb hby at_241) rfl (XS.ifNo X810.here hx rfl (hb hby at_242) rfl ((if0 _ _).trans (teq ((lw_eq i4 i4).mpr (rfl : i4 = i4))).2) (XS.aload X810.here hx rfl (hb hby at_245) rfl rfl k))))) ?_
          show own_Goes p e below (T810.setTop (mkF m 247 #[iv i0, iv i1, iv i2, iv i3, .val (.long i4), .second, .val (.long i5), .second, iv y2, iv y3, iv y4, iv y5, iv y6, rv b8, iv (1 : Int32), iv (1 : Int32), .val (.long i4), .second, .val (.long i4), .second] [(.ref b8)])) _
          have F813 : Fld Z h455 b8 zs1 "length" "J" (.long (y2.toInt64)) := ((fx148.keep K157 (ninS N153 nin0)).keep K455 (ninS N153 nin0))
          obtain ⟨_, T812, _, X812, hQ812, st812⟩ := own_cv X810 hx hZ hown (wd hw 53 rfl) (wd hw 54 rfl) (wd hw 56 rfl) (wd hw 55 rfl) (wd hw 57 rfl) (wd hw 3 rfl) (by decide) (rm12 l Z a0 hw [] b8 y2 h455 n0 O808 F813) hh811 E807 (g := (mkF m 247 #[iv i0, iv i1, iv i2, iv i3, .val (.long i4), .second, .val (.long i5), .second, iv y2, iv y3, iv y4, iv y5, iv y6, rv b8, iv (1 : Int32), iv (1 : Int32), .val (.long i4), .second, .val (.long i4), .second] [(.ref b8)])) rfl (by rw [hml]; rfl) (rest := []) (W := 0) (lenOf pd_8 rfl) rfl (by show 2 * 0 + _ ≤ _; exact Nat.le_of_eq rfl) (hb hby at_247) (by decide) (by decide) (by decide) (by decide)
          obtain ⟨rfl, Nq812, hh814⟩ := hQ812
          have N812 := Fr.app N810 Nq812
          refine own_via (fun t k => st812 t (XS.iload X812.here hx rfl (hb hby at_250) rfl (XS.i2l X812.here hx rfl (hb hby at_252) rfl (XS.lcmp X812.here hx rfl (hb hby at_253) rfl (XS.ifNo X812.here hx rfl (hb hby at_254) rfl ((if0 _ _).trans (teq ((lw_eq (y2.toInt64) (y2.toInt64)).mpr (rfl : (y2.toInt64) = (y2.toInt64)))).2) (XS.iconst X812.here hx rfl (hb hby at_257) (XS.goto X812.here hx rfl (pc0 := 258) (pc' := 262) rfl (hb hby at_258) (by decide) (by decide) k))))))) ?_
          show own_Goes p e below (T812.setTop (mkF m 262 #[iv i0, iv i1, iv i2, iv i3, .val (.long i4), .second, .val (.long i5), .second, iv y2, iv y3, iv y4, iv y5, iv y6, rv b8, iv (1 : Int32), iv (1 : Int32), .val (.long i4), .second, .val (.long i4), .second] [(.int (1 : Int32))])) _
          obtain ⟨fs, hr, hrun, hended, hW, hsame⟩ := X812.leave (v := some (.int (1 : Int32))) (fun h => by rw [Bd.returns] at h; cases h)
          refine own_end (t := T812.setFrames fs) ?_ ⟨_, hrun, hended, _, _, rfl, ?_, ⟨_, rfl⟩, hW, hsame.mono (by decide) (by decide)⟩
          · exact retN X812 hx (t := .boolean) Bd.returns (by simp) (hb hby at_262) hr
          · exact ⟨rfl, N812⟩
    · have N403 := Fr.app N349 Nq403
      refine own_via (fun t k => st403 t (XS.lload X403.here hx rfl (hb hby at_127) rfl (XS.iload X403.here hx rfl (hb hby at_129) rfl (XS.lushr X403.here hx rfl (hb hby at_131) rfl (XS.lconst X403.here hx rfl (hb hby at_132) (XS.land X403.here hx rfl (hb hby at_133) rfl (XS.lconst X403.here hx rfl (hb hby at_134) (XS.lcmp X403.here hx rfl (hb hby at_135) rfl (XS.ifNo X403.here hx rfl (hb hby at_136) rfl ((if0 _ _).trans (feq (fun q => (fun q => hq453 ((own_bq i4 (by rw [hy3]; exact (own_nn_rem y2 (own_nn_mask i1 (2147483647 : Int32) 31 (by decide) (by decide)))) (by rw [hy3]; exact (own_lt_rem y2 (own_nn_mask i1 (2147483647 : Int32) 31 (by decide) (by decide)) (own_pos (by rw [hy2]; exact (own_n1 i0))))) (own_le8 (by rw [hy2]; exact (own_n9 i0))) (by rw [hy6]; exact (own_nn_mask ((i0.toUInt32 >>> ((3 : Int32) &&& 31).toUInt32).toInt32) (63 : Int32) 6 (by decide) (by decide))) (by rw [hy6]; exact (own_lt_mask ((i0.toUInt32 >>> ((3 : Int32) &&& 31).toUInt32).toInt32) (63 : Int32) 6 (by decide) (by decide) (by decide)))).mpr q)) ((lw_eq (((i4.toUInt64 >>> (y6 &&& 0x3f).toInt64.toUInt64).toInt64) &&& (1 : Int64)) (0 : Int64)).mp q))).1) (XS.iconst X403.here hx rfl (hb hby at_139) (XS.goto X403.here hx rfl (pc0 := 140) (pc' := 144) rfl (hb hby at_140) (by decide) (by decide) (XS.icmpNo X403.here hx rfl (hb hby at_144) rfl (teq (by decide : (1 : Int32) = (1 : Int32))).2 k)))))))))))) ?_
      show own_Goes p e below (T403.setTop (mkF m 147 #[iv i0, iv i1, iv i2, iv i3, .val (.long i4), .second, .val (.long i5), .second, iv y2, iv y3, iv y4, iv y5, iv y6, rv b8, iv (1 : Int32), .unset, .unset, .unset, .unset, .unset] [])) _
      refine own_via (fun t k => XS.iconst X403.here hx rfl (hb hby at_147) (XS.goto X403.here hx rfl (pc0 := 148) (pc' := 152) rfl (hb hby at_148) (by decide) (by decide) (XS.istore X403.here hx rfl (hb hby at_152) rfl (l' := #[iv i0, iv i1, iv i2, iv i3, .val (.long i4), .second, .val (.long i5), .second, iv y2, iv y3, iv y4, iv y5, iv y6, rv b8, iv (1 : Int32), iv (1 : Int32), .unset, .unset, .unset, .unset]) rfl (XS.aload X403.here hx rfl (hb hby at_154) rfl rfl (XS.iload X403.here hx rfl (hb hby at_156) rfl (XS.i2l X403.here hx rfl (hb hby at_158) rfl (XS.lload X403.here hx rfl (hb hby at_159) rfl k))))))) ?_
      show own_Goes p e below (T403.setTop (mkF m 161 #[iv i0, iv i1, iv i2, iv i3, .val (.long i4), .second, .val (.long i5), .second, iv y2, iv y3, iv y4, iv y5, iv y6, rv b8, iv (1 : Int32), iv (1 : Int32), .unset, .unset, .unset, .unset] [(.long i5), (.long (y4.toInt64)), (.ref b8)])) _
      obtain ⟨_, T815, _, X815, hQ815, st815⟩ := own_cv X403 hx hZ hown (wd hw 28 rfl) (wd hw 29 rfl) (wd hw 31 rfl) (wd hw 30 rfl) (wd hw 32 rfl) (wd hw 3 rfl) (by decide) (rm9 l Z a0 hw [] b8 y4 i5 y2 b145 k146 y3 i4 h157 n0 O347 (by rw [hy4]; exact (own_lt_rem y2 (own_nn_mask i2 (2147483647 : Int32) 31 (by decide) (by decide)) (own_pos (by rw [hy2]; exact (own_n1 i0))))) (by rw [hy2]; exact (own_n9 i0)) F345 E346 (by rw [hy4]; exact (own_nn_rem y2 (own_nn_mask i2 (2147483647 : Int32) 31 (by decide) (by decide)))) vx294 g154 ex295) hh454 E346 (g := (mkF m 161 #[iv i0, iv i1, iv i2, iv i3, .val (.long i4), .second, .val (.long i5), .second, iv y2, iv y3, iv y4, iv y5, iv y6, rv b8, iv (1 : Int32), iv (1 : Int32), .unset, .unset, .unset, .unset] [(.long i5), (.long (y4.toInt64)), (.ref b8)])) rfl (by rw [hml]; rfl) (rest := []) (W := 0) (lenOf pd_5 rfl) rfl (by show 2 * 0 + _ ≤ _; exact Nat.le_of_eq rfl) (hb hby at_161) (by decide) (by decide) (by decide) (by decide)
      obtain ⟨h815, e815⟩ : ∃ z, T815.heap = z := ⟨_, rfl⟩
      rw [e815] at hQ815
      obtain ⟨rfl, Nq815, K815, ex816, vx817⟩ := hQ815
      have N815 := Fr.app N403 Nq815
      refine own_via (fun t k => st815 t (XS.iload X815.here hx rfl (hb hby at_164) rfl (XS.iload X815.here hx rfl (hb hby at_166) rfl k))) ?_
      show own_Goes p e below (T815.setTop (mkF m 168 #[iv i0, iv i1, iv i2, iv i3, .val (.long i4), .second, .val (.long i5), .second, iv y2, iv y3, iv y4, iv y5, iv y6, rv b8, iv (1 : Int32), iv (1 : Int32), .unset, .unset, .unset, .unset] [(.int y4), (.int y3)])) _
      by_cases hc818 : y3 = y4
      · refine own_via (fun t k => XS.icmpNo X815.here hx rfl (hb hby at_168) rfl (teq hc818).2 (XS.lload X815.here hx rfl (hb hby at_171) rfl (XS.goto X815.here hx rfl (pc0 := 173) (pc' := 178) rfl (hb hby at_173) (by decide) (by decide) (XS.lstore X815.here hx rfl (hb hby at_178) rfl (l' := #[iv i0, iv i1, iv i2, iv i3, .val (.long i4), .second, .val (.long i5), .second, iv y2, iv y3, iv y4, iv y5, iv y6, rv b8, iv (1 : Int32), iv (1 : Int32), .val (.long i5), .second, .unset, .unset]) rfl (XS.iload X815.here hx rfl (hb hby at_180) rfl (XS.iload X815.here hx rfl (hb hby at_182) rfl k)))))) ?_
        show own_Goes p e below (T815.setTop (mkF m 184 #[iv i0, iv i1, iv i2, iv i3, .val (.long i4), .second, .val (.long i5), .second, iv y2, iv y3, iv y4, iv y5, iv y6, rv b8, iv (1 : Int32), iv (1 : Int32), .val (.long i5), .second, .unset, .unset] [(.int y4), (.int y5)])) _
        by_cases hc819 : y5 = y4
        · refine own_via (fun t k => XS.icmpNo X815.here hx rfl (hb hby at_184) rfl (teq hc819).2 (XS.lload X815.here hx rfl (hb hby at_187) rfl (XS.goto X815.here hx rfl (pc0 := 189) (pc' := 205) rfl (hb hby at_189) (by decide) (by decide) (XS.lstore X815.here hx rfl (hb hby at_205) rfl (l' := #[iv i0, iv i1, iv i2, iv i3, .val (.long i4), .second, .val (.long i5), .second, iv y2, iv y3, iv y4, iv y5, iv y6, rv b8, iv (1 : Int32), iv (1 : Int32), .val (.long i5), .second, .val (.long i5), .second]) rfl (XS.iload X815.here hx rfl (hb hby at_207) rfl (XS.ifNo X815.here hx rfl (hb hby at_209) rfl ((if0 _ _).trans (feq (by decide : ¬ ((1 : Int32) = (0 : Int32)))).1) (XS.iload X815.here hx rfl (hb hby at_212) rfl (XS.ifNo X815.here hx rfl (hb hby at_214) rfl ((if0 _ _).trans (feq (by decide : ¬ ((1 : Int32) = (0 : Int32)))).1) (XS.aload X815.here hx rfl (hb hby at_217) rfl rfl (XS.iload X815.here hx rfl (hb hby at_219) rfl (XS.i2l X815.here hx rfl (hb hby at_221) rfl k))))))))))) ?_
          show own_Goes p e below (T815.setTop (mkF m 222 #[iv i0, iv i1, iv i2, iv i3, .val (.long i4), .second, .val (.long i5), .second, iv y2, iv y3, iv y4, iv y5, iv y6, rv b8, iv (1 : Int32), iv (1 : Int32), .val (.long i5), .second, .val (.long i5), .second] [(.long (y3.toInt64)), (.ref b8)])) _
          have F821 : Fld Z h815 b8 zs1 "firstBlock" "[J" (.ref b145) := (F345.keep K815 (ninS N153 nin0))
          have E822 : Exa Z h815 b8 zs1 := (E346.keep K815)
          have O823 : Old Z n0 h815 := (O347.keep K815 (allS g154 all0))
          obtain ⟨_, T820, _, X820, hQ820, st820⟩ := own_cv X815 hx hZ hown (wd hw 40 rfl) (wd hw 41 rfl) (wd hw 43 rfl) (wd hw 42 rfl) (wd hw 44 rfl) (wd hw 3 rfl) (by decide) (rm10 l Z a0 hw [] b8 y3 y2 b145 k146 y4 i5 i4 h815 n0 O823 (by rw [hy3]; exact (own_lt_rem y2 (own_nn_mask i1 (2147483647 : Int32) 31 (by decide) (by decide)) (own_pos (by rw [hy2]; exact (own_n1 i0))))) (by rw [hy2]; exact (own_n9 i0)) F821 E822 (by rw [hy3]; exact (own_nn_rem y2 (own_nn_mask i1 (2147483647 : Int32) 31 (by decide) (by decide)))) vx817 hc818) e815 E822 (g := (mkF m 222 #[iv i0, iv i1, iv i2, iv i3, .val (.long i4), .second, .val (.long i5), .second, iv y2, iv y3, iv y4, iv y5, iv y6, rv b8, iv (1 : Int32), iv (1 : Int32), .val (.long i5), .second, .val (.long i5), .second] [(.long (y3.toInt64)), (.ref b8)])) rfl (by rw [hml]; rfl) (rest := []) (W := 0) (lenOf pd_6 rfl) rfl (by show 2 * 0 + _ ≤ _; exact Nat.le_of_eq rfl) (hb hby at_222) (by decide) (by decide) (by decide) (by decide)
          obtain ⟨rfl, Nq820, hh824⟩ := hQ820
          have N820 := Fr.app N815 Nq820
          refine own_via (fun t k => st820 t (XS.lload X820.here hx rfl (hb hby at_225) rfl (XS.lcmp X820.here hx rfl (hb hby at_227) rfl (XS.ifNo X820.here hx rfl (hb hby at_228) rfl ((if0 _ _).trans (teq ((lw_eq i5 i5).mpr (rfl : i5 = i5))).2) (XS.aload X820.here hx rfl (hb hby at_231) rfl rfl (XS.iload X820.here hx rfl (hb hby at_233) rfl (XS.i2l X820.here hx rfl (hb hby at_235) rfl k))))))) ?_
          show own_Goes p e below (T820.setTop (mkF m 236 #[iv i0, iv i1, iv i2, iv i3, .val (.long i4), .second, .val (.long i5), .second, iv y2, iv y3, iv y4, iv y5, iv y6, rv b8, iv (1 : Int32), iv (1 : Int32), .val (.long i5), .second, .val (.long i5), .second] [(.long (y5.toInt64)), (.ref b8)])) _
          obtain ⟨_, T825, _, X825, hQ825, st825⟩ := own_cv X820 hx hZ hown (wd hw 40 rfl) (wd hw 41 rfl) (wd hw 43 rfl) (wd hw 42 rfl) (wd hw 44 rfl) (wd hw 3 rfl) (by decide) (rm11 l Z a0 hw [] b8 y5 y2 b145 k146 y4 i5 y3 i4 h815 n0 O823 (by rw [hy5]; exact (own_lt_rem y2 (own_nn_mask i3 (2147483647 : Int32) 31 (by decide) (by decide)) (own_pos (by rw [hy2]; exact (own_n1 i0))))) (by rw [hy2]; exact (own_n9 i0)) F821 E822 (by rw [hy5]; exact (own_nn_rem y2 (own_nn_mask i3 (2147483647 : Int32) 31 (by decide) (by decide)))) vx817 hc819) hh824 E822 (g := (mkF m 236 #[iv i0, iv i1, iv i2, iv i3, .val (.long i4), .second, .val (.long i5), .second, iv y2, iv y3, iv y4, iv y5, iv y6, rv b8, iv (1 : Int32), iv (1 : Int32), .val (.long i5), .second, .val (.long i5), .second] [(.long (y5.toInt64)), (.ref b8)])) rfl (by rw [hml]; rfl) (rest := []) (W := 0) (lenOf pd_6 rfl) rfl (by show 2 * 0 + _ ≤ _; exact Nat.le_of_eq rfl) (hb hby at_236) (by decide) (by decide) (by decide) (by decide)
          obtain ⟨rfl, Nq825, hh826⟩ := hQ825
          have N825 := Fr.app N820 Nq825
          refine own_via (fun t k => st825 t (XS.lload X825.here hx rfl (hb hby at_239) rfl (XS.lcmp X825.here hx rfl (hb hby at_241) rfl (XS.ifNo X825.here hx rfl (hb hby at_242) rfl ((if0 _ _).trans (teq ((lw_eq i5 i5).mpr (rfl : i5 = i5))).2) (XS.aload X825.here hx rfl (hb hby at_245) rfl rfl k))))) ?_
          show own_Goes p e below (T825.setTop (mkF m 247 #[iv i0, iv i1, iv i2, iv i3, .val (.long i4), .second, .val (.long i5), .second, iv y2, iv y3, iv y4, iv y5, iv y6, rv b8, iv (1 : Int32), iv (1 : Int32), .val (.long i5), .second, .val (.long i5), .second] [(.ref b8)])) _
          have F828 : Fld Z h815 b8 zs1 "length" "J" (.long (y2.toInt64)) := ((fx148.keep K157 (ninS N153 nin0)).keep K815 (ninS N153 nin0))
          obtain ⟨_, T827, _, X827, hQ827, st827⟩ := own_cv X825 hx hZ hown (wd hw 53 rfl) (wd hw 54 rfl) (wd hw 56 rfl) (wd hw 55 rfl) (wd hw 57 rfl) (wd hw 3 rfl) (by decide) (rm12 l Z a0 hw [] b8 y2 h815 n0 O823 F828) hh826 E822 (g := (mkF m 247 #[iv i0, iv i1, iv i2, iv i3, .val (.long i4), .second, .val (.long i5), .second, iv y2, iv y3, iv y4, iv y5, iv y6, rv b8, iv (1 : Int32), iv (1 : Int32), .val (.long i5), .second, .val (.long i5), .second] [(.ref b8)])) rfl (by rw [hml]; rfl) (rest := []) (W := 0) (lenOf pd_8 rfl) rfl (by show 2 * 0 + _ ≤ _; exact Nat.le_of_eq rfl) (hb hby at_247) (by decide) (by decide) (by decide) (by decide)
          obtain ⟨rfl, Nq827, hh829⟩ := hQ827
          have N827 := Fr.app N825 Nq827
          refine own_via (fun t k => st827 t (XS.iload X827.here hx rfl (hb hby at_250) rfl (XS.i2l X827.here hx rfl (hb hby at_252) rfl (XS.lcmp X827.here hx rfl (hb hby at_253) rfl (XS.ifNo X827.here hx rfl (hb hby at_254) rfl ((if0 _ _).trans (teq ((lw_eq (y2.toInt64) (y2.toInt64)).mpr (rfl : (y2.toInt64) = (y2.toInt64)))).2) (XS.iconst X827.here hx rfl (hb hby at_257) (XS.goto X827.here hx rfl (pc0 := 258) (pc' := 262) rfl (hb hby at_258) (by decide) (by decide) k))))))) ?_
          show own_Goes p e below (T827.setTop (mkF m 262 #[iv i0, iv i1, iv i2, iv i3, .val (.long i4), .second, .val (.long i5), .second, iv y2, iv y3, iv y4, iv y5, iv y6, rv b8, iv (1 : Int32), iv (1 : Int32), .val (.long i5), .second, .val (.long i5), .second] [(.int (1 : Int32))])) _
          obtain ⟨fs, hr, hrun, hended, hW, hsame⟩ := X827.leave (v := some (.int (1 : Int32))) (fun h => by rw [Bd.returns] at h; cases h)
          refine own_end (t := T827.setFrames fs) ?_ ⟨_, hrun, hended, _, _, rfl, ?_, ⟨_, rfl⟩, hW, hsame.mono (by decide) (by decide)⟩
          · exact retN X827 hx (t := .boolean) Bd.returns (by simp) (hb hby at_262) hr
          · exact ⟨rfl, N827⟩
        · refine own_via (fun t k => XS.icmpYes X815.here hx rfl (pc0 := 184) (pc' := 192) rfl (hb hby at_184) rfl (feq hc819).2 (by decide) (by decide) (XS.iload X815.here hx rfl (hb hby at_192) rfl (XS.iload X815.here hx rfl (hb hby at_194) rfl (XS.icmpNo X815.here hx rfl (hb hby at_196) rfl (teq hq399).2 (XS.lload X815.here hx rfl (hb hby at_199) rfl (XS.goto X815.here hx rfl (pc0 := 201) (pc' := 205) rfl (hb hby at_201) (by decide) (by decide) (XS.lstore X815.here hx rfl (hb hby at_205) rfl (l' := #[iv i0, iv i1, iv i2, iv i3, .val (.long i4), .second, .val (.long i5), .second, iv y2, iv y3, iv y4, iv y5, iv y6, rv b8, iv (1 : Int32), iv (1 : Int32), .val (.long i5), .second, .val (.long i4), .second]) rfl (XS.iload X815.here hx rfl (hb hby at_207) rfl (XS.ifNo X815.here hx rfl (hb hby at_209) rfl ((if0 _ _).trans (feq (by decide : ¬ ((1 : Int32) = (0 : Int32)))).1) (XS.iload X815.here hx rfl (hb hby at_212) rfl (XS.ifNo X815.here hx rfl (hb hby at_214) rfl ((if0 _ _).trans (feq (by decide : ¬ ((1 : Int32) = (0 : Int32)))).1) (XS.aload X815.here hx rfl (hb hby at_217) rfl rfl k)))))))))))) ?_
          show own_Goes p e below (T815.setTop (mkF m 219 #[iv i0, iv i1, iv i2, iv i3, .val (.long i4), .second, .val (.long i5), .second, iv y2, iv y3, iv y4, iv y5, iv y6, rv b8, iv (1 : Int32), iv (1 : Int32), .val (.long i5), .second, .val (.long i4), .second] [(.ref b8)])) _
          refine own_via (fun t k => XS.iload X815.here hx rfl (hb hby at_219) rfl (XS.i2l X815.here hx rfl (hb hby at_221) rfl k)) ?_
          have F831 : Fld Z h815 b8 zs1 "firstBlock" "[J" (.ref b145) := (F345.keep K815 (ninS N153 nin0))
          have E832 : Exa Z h815 b8 zs1 := (E346.keep K815)
          have O833 : Old Z n0 h815 := (O347.keep K815 (allS g154 all0))
          obtain ⟨_, T830, _, X830, hQ830, st830⟩ := own_cv X815 hx hZ hown (wd hw 40 rfl) (wd hw 41 rfl) (wd hw 43 rfl) (wd hw 42 rfl) (wd hw 44 rfl) (wd hw 3 rfl) (by decide) (rm10 l Z a0 hw [] b8 y3 y2 b145 k146 y4 i5 i4 h815 n0 O833 (by rw [hy3]; exact (own_lt_rem y2 (own_nn_mask i1 (2147483647 : Int32) 31 (by decide) (by decide)) (own_pos (by rw [hy2]; exact (own_n1 i0))))) (by rw [hy2]; exact (own_n9 i0)) F831 E832 (by rw [hy3]; exact (own_nn_rem y2 (own_nn_mask i1 (2147483647 : Int32) 31 (by decide) (by decide)))) vx817 hc818) e815 E832 (g := (mkF m 222 #[iv i0, iv i1, iv i2, iv i3, .val (.long i4), .second, .val (.long i5), .second, iv y2, iv y3, iv y4, iv y5, iv y6, rv b8, iv (1 : Int32), iv (1 : Int32), .val (.long i5), .second, .val (.long i4), .second] [(.long (y3.toInt64)), (.ref b8)])) rfl (by rw [hml]; rfl) (rest := []) (W := 0) (lenOf pd_6 rfl) rfl (by show 2 * 0 + _ ≤ _; exact Nat.le_of_eq rfl) (hb hby at_222) (by decide) (by decide) (by decide) (by decide)
          obtain ⟨rfl, Nq830, hh834⟩ := hQ830
          have N830 := Fr.app N815 Nq830
          refine own_via (fun t k => st830 t (XS.lload X830.here hx rfl (hb hby at_225) rfl (XS.lcmp X830.here hx rfl (hb hby at_227) rfl (XS.ifNo X830.here hx rfl (hb hby at_228) rfl ((if0 _ _).trans (teq ((lw_eq i5 i5).mpr (rfl : i5 = i5))).2) (XS.aload X830.here hx rfl (hb hby at_231) rfl rfl (XS.iload X830.here hx rfl (hb hby at_233) rfl (XS.i2l X830.here hx rfl (hb hby at_235) rfl k))))))) ?_
          show own_Goes p e below (T830.setTop (mkF m 236 #[iv i0, iv i1, iv i2, iv i3, .val (.long i4), .second, .val (.long i5), .second, iv y2, iv y3, iv y4, iv y5, iv y6, rv b8, iv (1 : Int32), iv (1 : Int32), .val (.long i5), .second, .val (.long i4), .second] [(.long (y5.toInt64)), (.ref b8)])) _
          obtain ⟨_, T835, _, X835, hQ835, st835⟩ := own_cv X830 hx hZ hown (wd hw 40 rfl) (wd hw 41 rfl) (wd hw 43 rfl) (wd hw 42 rfl) (wd hw 44 rfl) (wd hw 3 rfl) (by decide) (rm13 l Z a0 hw [] b8 y5 y2 b145 k146 y4 i5 y3 i4 h815 n0 O833 (by rw [hy5]; exact (own_lt_rem y2 (own_nn_mask i3 (2147483647 : Int32) 31 (by decide) (by decide)) (own_pos (by rw [hy2]; exact (own_n1 i0))))) (by rw [hy2]; exact (own_n9 i0)) F831 E832 (by rw [hy5]; exact (own_nn_rem y2 (own_nn_mask i3 (2147483647 : Int32) 31 (by decide) (by decide)))) vx817 hc819 hq399) hh834 E832 (g := (mkF m 236 #[iv i0, iv i1, iv i2, iv i3, .val (.long i4), .second, .val (.long i5), .second, iv y2, iv y3, iv y4, iv y5, iv y6, rv b8, iv (1 : Int32), iv (1 : Int32), .val (.long i5), .second, .val (.long i4), .second] [(.long (y5.toInt64)), (.ref b8)])) rfl (by rw [hml]; rfl) (rest := []) (W := 0) (lenOf pd_6 rfl) rfl (by show 2 * 0 + _ ≤ _; exact Nat.le_of_eq rfl) (hb hby at_236) (by decide) (by decide) (by decide) (by decide)
          obtain ⟨rfl, Nq835, hh836⟩ := hQ835
          have N835 := Fr.app N830 Nq835
          refine own_via (fun t k => st835 t (XS.lload X835.here hx rfl (hb hby at_239) rfl (XS.lcmp X835.here hx rfl (hb hby at_241) rfl (XS.ifNo X835.here hx rfl (hb hby at_242) rfl ((if0 _ _).trans (teq ((lw_eq i4 i4).mpr (rfl : i4 = i4))).2) (XS.aload X835.here hx rfl (hb hby at_245) rfl rfl k))))) ?_
          show own_Goes p e below (T835.setTop (mkF m 247 #[iv i0, iv i1, iv i2, iv i3, .val (.long i4), .second, .val (.long i5), .second, iv y2, iv y3, iv y4, iv y5, iv y6, rv b8, iv (1 : Int32), iv (1 : Int32), .val (.long i5), .second, .val (.long i4), .second] [(.ref b8)])) _
          have F838 : Fld Z h815 b8 zs1 "length" "J" (.long (y2.toInt64)) := ((fx148.keep K157 (ninS N153 nin0)).keep K815 (ninS N153 nin0))
          obtain ⟨_, T837, _, X837, hQ837, st837⟩ := own_cv X835 hx hZ hown (wd hw 53 rfl) (wd hw 54 rfl) (wd hw 56 rfl) (wd hw 55 rfl) (wd hw 57 rfl) (wd hw 3 rfl) (by decide) (rm12 l Z a0 hw [] b8 y2 h815 n0 O833 F838) hh836 E832 (g := (mkF m 247 #[iv i0, iv i1, iv i2, iv i3, .val (.long i4), .second, .val (.long i5), .second, iv y2, iv y3, iv y4, iv y5, iv y6, rv b8, iv (1 : Int32), iv (1 : Int32), .val (.long i5), .second, .val (.long i4), .second] [(.ref b8)])) rfl (by rw [hml]; rfl) (rest := []) (W := 0) (lenOf pd_8 rfl) rfl (by show 2 * 0 + _ ≤ _; exact Nat.le_of_eq rfl) (hb hby at_247) (by decide) (by decide) (by decide) (by decide)
          obtain ⟨rfl, Nq837, hh839⟩ := hQ837
          have N837 := Fr.app N835 Nq837
          refine own_via (fun t k => st837 t (XS.iload X837.here hx rfl (hb hby at_250) rfl (XS.i2l X837.here hx rfl (hb hby at_252) rfl (XS.lcmp X837.here hx rfl (hb hby at_253) rfl (XS.ifNo X837.here hx rfl (hb hby at_254) rfl ((if0 _ _).trans (teq ((lw_eq (y2.toInt64) (y2.toInt64)).mpr (rfl : (y2.toInt64) = (y2.toInt64)))).2) (XS.iconst X837.here hx rfl (hb hby at_257) (XS.goto X837.here hx rfl (pc0 := 258) (pc' := 262) rfl (hb hby at_258) (by decide) (by decide) k))))))) ?_
          show own_Goes p e below (T837.setTop (mkF m 262 #[iv i0, iv i1, iv i2, iv i3, .val (.long i4), .second, .val (.long i5), .second, iv y2, iv y3, iv y4, iv y5, iv y6, rv b8, iv (1 : Int32), iv (1 : Int32), .val (.long i5), .second, .val (.long i4), .second] [(.int (1 : Int32))])) _
          obtain ⟨fs, hr, hrun, hended, hW, hsame⟩ := X837.leave (v := some (.int (1 : Int32))) (fun h => by rw [Bd.returns] at h; cases h)
          refine own_end (t := T837.setFrames fs) ?_ ⟨_, hrun, hended, _, _, rfl, ?_, ⟨_, rfl⟩, hW, hsame.mono (by decide) (by decide)⟩
          · exact retN X837 hx (t := .boolean) Bd.returns (by simp) (hb hby at_262) hr
          · exact ⟨rfl, N837⟩
      · refine own_via (fun t k => XS.icmpYes X815.here hx rfl (pc0 := 168) (pc' := 176) rfl (hb hby at_168) rfl (feq hc818).2 (by decide) (by decide) (XS.lload X815.here hx rfl (hb hby at_176) rfl (XS.lstore X815.here hx rfl (hb hby at_178) rfl (l' := #[iv i0, iv i1, iv i2, iv i3, .val (.long i4), .second, .val (.long i5), .second, iv y2, iv y3, iv y4, iv y5, iv y6, rv b8, iv (1 : Int32), iv (1 : Int32), .val (.long i4), .second, .unset, .unset]) rfl (XS.iload X815.here hx rfl (hb hby at_180) rfl (XS.iload X815.here hx rfl (hb hby at_182) rfl k))))) ?_
        show own_Goes p e below (T815.setTop (mkF m 184 #[iv i0, iv i1, iv i2, iv i3, .val (.long i4), .second, .val (.long i5), .second, iv y2, iv y3, iv y4, iv y5, iv y6, rv b8, iv (1 : Int32), iv (1 : Int32), .val (.long i4), .second, .unset, .unset] [(.int y4), (.int y5)])) _
        by_cases hc840 : y5 = y4
        · refine own_via (fun t k => XS.icmpNo X815.here hx rfl (hb hby at_184) rfl (teq hc840).2 (XS.lload X815.here hx rfl (hb hby at_187) rfl (XS.goto X815.here hx rfl (pc0 := 189) (pc' := 205) rfl (hb hby at_189) (by decide) (by decide) (XS.lstore X815.here hx rfl (hb hby at_205) rfl (l' := #[iv i0, iv i1, iv i2, iv i3, .val (.long i4), .second, .val (.long i5), .second, iv y2, iv y3, iv y4, iv y5, iv y6, rv b8, iv (1 : Int32), iv (1 : Int32), .val (.long i4), .second, .val (.long i5), .second]) rfl (XS.iload X815.here hx rfl (hb hby at_207) rfl (XS.ifNo X815.here hx rfl (hb hby at_209) rfl ((if0 _ _).trans (feq (by decide : ¬ ((1 : Int32) = (0 : Int32)))).1) (XS.iload X815.here hx rfl (hb hby at_212) rfl (XS.ifNo X815.here hx rfl (hb hby at_214) rfl ((if0 _ _).trans (feq (by decide : ¬ ((1 : Int32) = (0 : Int32)))).1) (XS.aload X815.here hx rfl (hb hby at_217) rfl rfl (XS.iload X815.here hx rfl (hb hby at_219) rfl (XS.i2l X815.here hx rfl (hb hby at_221) rfl k))))))))))) ?_
          show own_Goes p e below (T815.setTop (mkF m 222 #[iv i0, iv i1, iv i2, iv i3, .val (.long i4), .second, .val (.long i5), .second, iv y2, iv y3, iv y4, iv y5, iv y6, rv b8, iv (1 : Int32), iv (1 : Int32), .val (.long i4), .second, .val (.long i5), .second] [(.long (y3.toInt64)), (.ref b8)])) _
          have F842 : Fld Z h815 b8 zs1 "firstBlock" "[J" (.ref b145) := (F345.keep K815 (ninS N153 nin0))
          have E843 : Exa Z h815 b8 zs1 := (E346.keep K815)
          have O844 : Old Z n0 h815 := (O347.keep K815 (allS g154 all0))
          obtain ⟨_, T841, _, X841, hQ841, st841⟩ := own_cv X815 hx hZ hown (wd hw 40 rfl) (wd hw 41 rfl) (wd hw 43 rfl) (wd hw 42 rfl) (wd hw 44 rfl) (wd hw 3 rfl) (by decide) (rm14 l Z a0 hw [] b8 y3 y2 b145 k146 y4 i5 i4 h815 n0 O844 (by rw [hy3]; exact (own_lt_rem y2 (own_nn_mask i1 (2147483647 : Int32) 31 (by decide) (by decide)) (own_pos (by rw [hy2]; exact (own_n1 i0))))) (by rw [hy2]; exact (own_n9 i0)) F842 E843 (by rw [hy3]; exact (own_nn_rem y2 (own_nn_mask i1 (2147483647 : Int32) 31 (by decide) (by decide)))) vx817 hc818) e815 E843 (g := (mkF m 222 #[iv i0, iv i1, iv i2, iv i3, .val (.long i4), .second, .val (.long i5), .second, iv y2, iv y3, iv y4, iv y5, iv y6, rv b8, iv (1 : Int32), iv (1 : Int32), .val (.long i4), .second, .val (.long i5), .second] [(.long (y3.toInt64)), (.ref b8)])) rfl (by rw [hml]; rfl) (rest := []) (W := 0) (lenOf pd_6 rfl) rfl (by show 2 * 0 + _ ≤ _; exact Nat.le_of_eq rfl) (hb hby at_222) (by decide) (by decide) (by decide) (by decide)
          obtain ⟨rfl, Nq841, hh845⟩ := hQ841
          have N841 := Fr.app N815 Nq841
          refine own_via (fun t k => st841 t (XS.lload X841.here hx rfl (hb hby at_225) rfl (XS.lcmp X841.here hx rfl (hb hby at_227) rfl (XS.ifNo X841.here hx rfl (hb hby at_228) rfl ((if0 _ _).trans (teq ((lw_eq i4 i4).mpr (rfl : i4 = i4))).2) (XS.aload X841.here hx rfl (hb hby at_231) rfl rfl (XS.iload X841.here hx rfl (hb hby at_233) rfl (XS.i2l X841.here hx rfl (hb hby at_235) rfl k))))))) ?_
          show own_Goes p e below (T841.setTop (mkF m 236 #[iv i0, iv i1, iv i2, iv i3, .val (.long i4), .second, .val (.long i5), .second, iv y2, iv y3, iv y4, iv y5, iv y6, rv b8, iv (1 : Int32), iv (1 : Int32), .val (.long i4), .second, .val (.long i5), .second] [(.long (y5.toInt64)), (.ref b8)])) _
          obtain ⟨_, T846, _, X846, hQ846, st846⟩ := own_cv X841 hx hZ hown (wd hw 40 rfl) (wd hw 41 rfl) (wd hw 43 rfl) (wd hw 42 rfl) (wd hw 44 rfl) (wd hw 3 rfl) (by decide) (rm11 l Z a0 hw [] b8 y5 y2 b145 k146 y4 i5 y3 i4 h815 n0 O844 (by rw [hy5]; exact (own_lt_rem y2 (own_nn_mask i3 (2147483647 : Int32) 31 (by decide) (by decide)) (own_pos (by rw [hy2]; exact (own_n1 i0))))) (by rw [hy2]; exact (own_n9 i0)) F842 E843 (by rw [hy5]; exact (own_nn_rem y2 (own_nn_mask i3 (2147483647 : Int32) 31 (by decide) (by decide)))) vx817 hc840) hh845 E843 (g := (mkF m 236 #[iv i0, iv i1, iv i2, iv i3, .val (.long i4), .second, .val (.long i5), .second, iv y2, iv y3, iv y4, iv y5, iv y6, rv b8, iv (1 : Int32), iv (1 : Int32), .val (.long i4), .second, .val (.long i5), .second] [(.long (y5.toInt64)), (.ref b8)])) rfl (by rw [hml]; rfl) (rest := []) (W := 0) (lenOf pd_6 rfl) rfl (by show 2 * 0 + _ ≤ _; exact Nat.le_of_eq rfl) (hb hby at_236) (by decide) (by decide) (by decide) (by decide)
          obtain ⟨rfl, Nq846, hh847⟩ := hQ846
          have N846 := Fr.app N841 Nq846
          refine own_via (fun t k => st846 t (XS.lload X846.here hx rfl (hb hby at_239) rfl (XS.lcmp X846.here hx rfl (hb hby at_241) rfl (XS.ifNo X846.here hx rfl (hb hby at_242) rfl ((if0 _ _).trans (teq ((lw_eq i5 i5).mpr (rfl : i5 = i5))).2) (XS.aload X846.here hx rfl (hb hby at_245) rfl rfl k))))) ?_
          show own_Goes p e below (T846.setTop (mkF m 247 #[iv i0, iv i1, iv i2, iv i3, .val (.long i4), .second, .val (.long i5), .second, iv y2, iv y3, iv y4, iv y5, iv y6, rv b8, iv (1 : Int32), iv (1 : Int32), .val (.long i4), .second, .val (.long i5), .second] [(.ref b8)])) _
          have F849 : Fld Z h815 b8 zs1 "length" "J" (.long (y2.toInt64)) := ((fx148.keep K157 (ninS N153 nin0)).keep K815 (ninS N153 nin0))
          obtain ⟨_, T848, _, X848, hQ848, st848⟩ := own_cv X846 hx hZ hown (wd hw 53 rfl) (wd hw 54 rfl) (wd hw 56 rfl) (wd hw 55 rfl) (wd hw 57 rfl) (wd hw 3 rfl) (by decide) (rm12 l Z a0 hw [] b8 y2 h815 n0 O844 F849) hh847 E843 (g := (mkF m 247 #[iv i0, iv i1, iv i2, iv i3, .val (.long i4), .second, .val (.long i5), .second, iv y2, iv y3, iv y4, iv y5, iv y6, rv b8, iv (1 : Int32), iv (1 : Int32), .val (.long i4), .second, .val (.long i5), .second] [(.ref b8)])) rfl (by rw [hml]; rfl) (rest := []) (W := 0) (lenOf pd_8 rfl) rfl (by show 2 * 0 + _ ≤ _; exact Nat.le_of_eq rfl) (hb hby at_247) (by decide) (by decide) (by decide) (by decide)
          obtain ⟨rfl, Nq848, hh850⟩ := hQ848
          have N848 := Fr.app N846 Nq848
          refine own_via (fun t k => st848 t (XS.iload X848.here hx rfl (hb hby at_250) rfl (XS.i2l X848.here hx rfl (hb hby at_252) rfl (XS.lcmp X848.here hx rfl (hb hby at_253) rfl (XS.ifNo X848.here hx rfl (hb hby at_254) rfl ((if0 _ _).trans (teq ((lw_eq (y2.toInt64) (y2.toInt64)).mpr (rfl : (y2.toInt64) = (y2.toInt64)))).2) (XS.iconst X848.here hx rfl (hb hby at_257) (XS.goto X848.here hx rfl (pc0 := 258) (pc' := 262) rfl (hb hby at_258) (by decide) (by decide) k))))))) ?_
          show own_Goes p e below (T848.setTop (mkF m 262 #[iv i0, iv i1, iv i2, iv i3, .val (.long i4), .second, .val (.long i5), .second, iv y2, iv y3, iv y4, iv y5, iv y6, rv b8, iv (1 : Int32), iv (1 : Int32), .val (.long i4), .second, .val (.long i5), .second] [(.int (1 : Int32))])) _
          obtain ⟨fs, hr, hrun, hended, hW, hsame⟩ := X848.leave (v := some (.int (1 : Int32))) (fun h => by rw [Bd.returns] at h; cases h)
          refine own_end (t := T848.setFrames fs) ?_ ⟨_, hrun, hended, _, _, rfl, ?_, ⟨_, rfl⟩, hW, hsame.mono (by decide) (by decide)⟩
          · exact retN X848 hx (t := .boolean) Bd.returns (by simp) (hb hby at_262) hr
          · exact ⟨rfl, N848⟩
        · refine own_via (fun t k => XS.icmpYes X815.here hx rfl (pc0 := 184) (pc' := 192) rfl (hb hby at_184) rfl (feq hc840).2 (by decide) (by decide) (XS.iload X815.here hx rfl (hb hby at_192) rfl (XS.iload X815.here hx rfl (hb hby at_194) rfl (XS.icmpNo X815.here hx rfl (hb hby at_196) rfl (teq hq399).2 (XS.lload X815.here hx rfl (hb hby at_199) rfl (XS.goto X815.here hx rfl (pc0 := 201) (pc' := 205) rfl (hb hby at_201) (by decide) (by decide) (XS.lstore X815.here hx rfl (hb hby at_205) rfl (l' := #[iv i0, iv i1, iv i2, iv i3, .val (.long i4), .second, .val (.long i5), .second, iv y2, iv y3, iv y4, iv y5, iv y6, rv b8, iv (1 : Int32), iv (1 : Int32), .val (.long i4), .second, .val (.long i4), .second]) rfl (XS.iload X815.here hx rfl (hb hby at_207) rfl (XS.ifNo X815.here hx rfl (hb hby at_209) rfl ((if0 _ _).trans (feq (by decide : ¬ ((1 : Int32) = (0 : Int32)))).1) (XS.iload X815.here hx rfl (hb hby at_212) rfl (XS.ifNo X815.here hx rfl (hb hby at_214) rfl ((if0 _ _).trans (feq (by decide : ¬ ((1 : Int32) = (0 : Int32)))).1) (XS.aload X815.here hx rfl (hb hby at_217) rfl rfl k)))))))))))) ?_
          show own_Goes p e below (T815.setTop (mkF m 219 #[iv i0, iv i1, iv i2, iv i3, .val (.long i4), .second, .val (.long i5), .second, iv y2, iv y3, iv y4, iv y5, iv y6, rv b8, iv (1 : Int32), iv (1 : Int32), .val (.long i4), .second, .val (.long i4), .second] [(.ref b8)])) _
          refine own_via (fun t k => XS.iload X815.here hx rfl (hb hby at_219) rfl (XS.i2l X815.here hx rfl (hb hby at_221) rfl k)) ?_
          have F852 : Fld Z h815 b8 zs1 "firstBlock" "[J" (.ref b145) := (F345.keep K815 (ninS N153 nin0))
          have E853 : Exa Z h815 b8 zs1 := (E346.keep K815)
          have O854 : Old Z n0 h815 := (O347.keep K815 (allS g154 all0))
          obtain ⟨_, T851, _, X851, hQ851, st851⟩ := own_cv X815 hx hZ hown (wd hw 40 rfl) (wd hw 41 rfl) (wd hw 43 rfl) (wd hw 42 rfl) (wd hw 44 rfl) (wd hw 3 rfl) (by decide) (rm14 l Z a0 hw [] b8 y3 y2 b145 k146 y4 i5 i4 h815 n0 O854 (by rw [hy3]; exact (own_lt_rem y2 (own_nn_mask i1 (2147483647 : Int32) 31 (by decide) (by decide)) (own_pos (by rw [hy2]; exact (own_n1 i0))))) (by rw [hy2]; exact (own_n9 i0)) F852 E853 (by rw [hy3]; exact (own_nn_rem y2 (own_nn_mask i1 (2147483647 : Int32) 31 (by decide) (by decide)))) vx817 hc818) e815 E853 (g := (mkF m 222 #[iv i0, iv i1, iv i2, iv i3, .val (.long i4), .second, .val (.long i5), .second, iv y2, iv y3, iv y4, iv y5, iv y6, rv b8, iv (1 : Int32), iv (1 : Int32), .val (.long i4), .second, .val (.long i4), .second] [(.long (y3.toInt64)), (.ref b8)])) rfl (by rw [hml]; rfl) (rest := []) (W := 0) (lenOf pd_6 rfl) rfl (by show 2 * 0 + _ ≤ _; exact Nat.le_of_eq rfl) (hb hby at_222) (by decide) (by decide) (by decide) (by decide)
          obtain ⟨rfl, Nq851, hh855⟩ := hQ851
          have N851 := Fr.app N815 Nq851
          refine own_via (fun t k => st851 t (XS.lload X851.here hx rfl (hb hby at_225) rfl (XS.lcmp X851.here hx rfl (hb hby at_227) rfl (XS.ifNo X851.here hx rfl (hb hby at_228) rfl ((if0 _ _).trans (teq ((lw_eq i4 i4).mpr (rfl : i4 = i4))).2) (XS.aload X851.here hx rfl (hb hby at_231) rfl rfl (XS.iload X851.here hx rfl (hb hby at_233) rfl (XS.i2l X851.here hx rfl (hb hby at_235) rfl k))))))) ?_
          show own_Goes p e below (T851.setTop (mkF m 236 #[iv i0, iv i1, iv i2, iv i3, .val (.long i4), .second, .val (.long i5), .second, iv y2, iv y3, iv y4, iv y5, iv y6, rv b8, iv (1 : Int32), iv (1 : Int32), .val (.long i4), .second, .val (.long i4), .second] [(.long (y5.toInt64)), (.ref b8)])) _
          obtain ⟨_, T856, _, X856, hQ856, st856⟩ := own_cv X851 hx hZ hown (wd hw 40 rfl) (wd hw 41 rfl) (wd hw 43 rfl) (wd hw 42 rfl) (wd hw 44 rfl) (wd hw 3 rfl) (by decide) (rm13 l Z a0 hw [] b8 y5 y2 b145 k146 y4 i5 y3 i4 h815 n0 O854 (by rw [hy5]; exact (own_lt_rem y2 (own_nn_mask i3 (2147483647 : Int32) 31 (by decide) (by decide)) (own_pos (by rw [hy2]; exact (own_n1 i0))))) (by rw [hy2]; exact (own_n9 i0)) F852 E853 (by rw [hy5]; exact (own_nn_rem y2 (own_nn_mask i3 (2147483647 : Int32) 31 (by decide) (by decide)))) vx817 hc840 hq399) hh855 E853 (g := (mkF m 236 #[iv i0, iv i1, iv i2, iv i3, .val (.long i4), .second, .val (.long i5), .second, iv y2, iv y3, iv y4, iv y5, iv y6, rv b8, iv (1 : Int32), iv (1 : Int32), .val (.long i4), .second, .val (.long i4), .second] [(.long (y5.toInt64)), (.ref b8)])) rfl (by rw [hml]; rfl) (rest := []) (W := 0) (lenOf pd_6 rfl) rfl (by show 2 * 0 + _ ≤ _; exact Nat.le_of_eq rfl) (hb hby at_236) (by decide) (by decide) (by decide) (by decide)
          obtain ⟨rfl, Nq856, hh857⟩ := hQ856
          have N856 := Fr.app N851 Nq856
          refine own_via (fun t k => st856 t (XS.lload X856.here hx rfl (hb hby at_239) rfl (XS.lcmp X856.here hx rfl (hb hby at_241) rfl (XS.ifNo X856.here hx rfl (hb hby at_242) rfl ((if0 _ _).trans (teq ((lw_eq i4 i4).mpr (rfl : i4 = i4))).2) (XS.aload X856.here hx rfl (hb hby at_245) rfl rfl k))))) ?_
          show own_Goes p e below (T856.setTop (mkF m 247 #[iv i0, iv i1, iv i2, iv i3, .val (.long i4), .second, .val (.long i5), .second, iv y2, iv y3, iv y4, iv y5, iv y6, rv b8, iv (1 : Int32), iv (1 : Int32), .val (.long i4), .second, .val (.long i4), .second] [(.ref b8)])) _
          have F859 : Fld Z h815 b8 zs1 "length" "J" (.long (y2.toInt64)) := ((fx148.keep K157 (ninS N153 nin0)).keep K815 (ninS N153 nin0))
          obtain ⟨_, T858, _, X858, hQ858, st858⟩ := own_cv X856 hx hZ hown (wd hw 53 rfl) (wd hw 54 rfl) (wd hw 56 rfl) (wd hw 55 rfl) (wd hw 57 rfl) (wd hw 3 rfl) (by decide) (rm12 l Z a0 hw [] b8 y2 h815 n0 O854 F859) hh857 E853 (g := (mkF m 247 #[iv i0, iv i1, iv i2, iv i3, .val (.long i4), .second, .val (.long i5), .second, iv y2, iv y3, iv y4, iv y5, iv y6, rv b8, iv (1 : Int32), iv (1 : Int32), .val (.long i4), .second, .val (.long i4), .second] [(.ref b8)])) rfl (by rw [hml]; rfl) (rest := []) (W := 0) (lenOf pd_8 rfl) rfl (by show 2 * 0 + _ ≤ _; exact Nat.le_of_eq rfl) (hb hby at_247) (by decide) (by decide) (by decide) (by decide)
          obtain ⟨rfl, Nq858, hh860⟩ := hQ858
          have N858 := Fr.app N856 Nq858
          refine own_via (fun t k => st858 t (XS.iload X858.here hx rfl (hb hby at_250) rfl (XS.i2l X858.here hx rfl (hb hby at_252) rfl (XS.lcmp X858.here hx rfl (hb hby at_253) rfl (XS.ifNo X858.here hx rfl (hb hby at_254) rfl ((if0 _ _).trans (teq ((lw_eq (y2.toInt64) (y2.toInt64)).mpr (rfl : (y2.toInt64) = (y2.toInt64)))).2) (XS.iconst X858.here hx rfl (hb hby at_257) (XS.goto X858.here hx rfl (pc0 := 258) (pc' := 262) rfl (hb hby at_258) (by decide) (by decide) k))))))) ?_
          show own_Goes p e below (T858.setTop (mkF m 262 #[iv i0, iv i1, iv i2, iv i3, .val (.long i4), .second, .val (.long i5), .second, iv y2, iv y3, iv y4, iv y5, iv y6, rv b8, iv (1 : Int32), iv (1 : Int32), .val (.long i4), .second, .val (.long i4), .second] [(.int (1 : Int32))])) _
          obtain ⟨fs, hr, hrun, hended, hW, hsame⟩ := X858.leave (v := some (.int (1 : Int32))) (fun h => by rw [Bd.returns] at h; cases h)
          refine own_end (t := T858.setFrames fs) ?_ ⟨_, hrun, hended, _, _, rfl, ?_, ⟨_, rfl⟩, hW, hsame.mono (by decide) (by decide)⟩
          · exact retN X858 hx (t := .boolean) Bd.returns (by simp) (hb hby at_262) hr
          · exact ⟨rfl, N858⟩
  · have N349 := Fr.app N296 Nq349
    refine own_via (fun t k => st349 t (XS.iload X349.here hx rfl (hb hby at_87) rfl (XS.iload X349.here hx rfl (hb hby at_89) rfl (XS.icmpYes X349.here hx rfl (pc0 := 91) (pc' := 99) rfl (hb hby at_91) rfl (feq hq401).2 (by decide) (by decide) (XS.lconst X349.here hx rfl (hb hby at_99) (XS.lcmp X349.here hx rfl (hb hby at_100) rfl (XS.ifNo X349.here hx rfl (hb hby at_101) rfl ((if0 _ _).trans (teq (by decide : (0 : Int32) = (0 : Int32))).2) (XS.iconst X349.here hx rfl (hb hby at_104) (XS.goto X349.here hx rfl (pc0 := 105) (pc' := 109) rfl (hb hby at_105) (by decide) (by decide) (XS.istore X349.here hx rfl (hb hby at_109) rfl (l' := #[iv i0, iv i1, iv i2, iv i3, .val (.long i4), .second, .val (.long i5), .second, iv y2, iv y3, iv y4, iv y5, iv y6, rv b8, iv (1 : Int32), .unset, .unset, .unset, .unset, .unset]) rfl (XS.aload X349.here hx rfl (hb hby at_111) rfl rfl (XS.iload X349.here hx rfl (hb hby at_113) rfl k)))))))))))) ?_
    show own_Goes p e below (T349.setTop (mkF m 115 #[iv i0, iv i1, iv i2, iv i3, .val (.long i4), .second, .val (.long i5), .second, iv y2, iv y3, iv y4, iv y5, iv y6, rv b8, iv (1 : Int32), .unset, .unset, .unset, .unset, .unset] [(.int y3), (.ref b8)])) _
    refine own_via (fun t k => XS.i2l X349.here hx rfl (hb hby at_115) rfl (X349.ldc2Long hx hown (mvT hZ (wd hw 45 rfl)) (g := (mkF m 116 #[iv i0, iv i1, iv i2, iv i3, .val (.long i4), .second, .val (.long i5), .second, iv y2, iv y3, iv y4, iv y5, iv y6, rv b8, iv (1 : Int32), .unset, .unset, .unset, .unset, .unset] [(.long (y3.toInt64)), (.ref b8)])) rfl (hb hby at_116) t (XS.lmul X349.here hx rfl (hb hby at_119) rfl (XS.iload X349.here hx rfl (hb hby at_120) rfl (XS.i2l X349.here hx rfl (hb hby at_122) rfl (XS.ladd X349.here hx rfl (hb hby at_123) rfl k)))))) ?_
    show own_Goes p e below (T349.setTop (mkF m 124 #[iv i0, iv i1, iv i2, iv i3, .val (.long i4), .second, .val (.long i5), .second, iv y2, iv y3, iv y4, iv y5, iv y6, rv b8, iv (1 : Int32), .unset, .unset, .unset, .unset, .unset] [(.long (((y3.toInt64) * (64 : Int64)) + (y6.toInt64))), (.ref b8)])) _
    obtain ⟨_, T861, _, X861, hQ861, st861⟩ := own_cv X349 hx hZ hown (wd hw 46 rfl) (wd hw 47 rfl) (wd hw 49 rfl) (wd hw 48 rfl) (wd hw 50 rfl) (wd hw 3 rfl) (by decide) (rm8 l Z a0 hw [] b8 y3 y6 y2 b145 k146 i4 h157 n0 O347 (by rw [hy3]; exact (own_nn_rem y2 (own_nn_mask i1 (2147483647 : Int32) 31 (by decide) (by decide)))) (by rw [hy3]; exact (own_lt_rem y2 (own_nn_mask i1 (2147483647 : Int32) 31 (by decide) (by decide)) (own_pos (by rw [hy2]; exact (own_n1 i0))))) (by rw [hy2]; exact (own_n9 i0)) (by rw [hy6]; exact (own_nn_mask ((i0.toUInt32 >>> ((3 : Int32) &&& 31).toUInt32).toInt32) (63 : Int32) 6 (by decide) (by decide))) (by rw [hy6]; exact (own_lt_mask ((i0.toUInt32 >>> ((3 : Int32) &&& 31).toUInt32).toInt32) (63 : Int32) 6 (by decide) (by decide) (by decide))) F345 E346 vx294) hh402 E346 (g := (mkF m 124 #[iv i0, iv i1, iv i2, iv i3, .val (.long i4), .second, .val (.long i5), .second, iv y2, iv y3, iv y4, iv y5, iv y6, rv b8, iv (1 : Int32), .unset, .unset, .unset, .unset, .unset] [(.long (((y3.toInt64) * (64 : Int64)) + (y6.toInt64))), (.ref b8)])) rfl (by rw [hml]; rfl) (rest := []) (W := 0) (lenOf pd_7 rfl) rfl (by show 2 * 0 + _ ≤ _; exact Nat.le_of_eq rfl) (hb hby at_124) (by decide) (by decide) (by decide) (by decide)
    rcases hQ861 with ⟨hq862, rfl, Nq861, hh863⟩ | ⟨hq864, rfl, Nq861, hh865⟩
    · have N861 := Fr.app N349 Nq861
      refine own_via (fun t k => st861 t (XS.lload X861.here hx rfl (hb hby at_127) rfl (XS.iload X861.here hx rfl (hb hby at_129) rfl (XS.lushr X861.here hx rfl (hb hby at_131) rfl (XS.lconst X861.here hx rfl (hb hby at_132) (XS.land X861.here hx rfl (hb hby at_133) rfl (XS.lconst X861.here hx rfl (hb hby at_134) (XS.lcmp X861.here hx rfl (hb hby at_135) rfl (XS.ifYes X861.here hx rfl (pc0 := 136) (pc' := 143) rfl (hb hby at_136) rfl ((if0 _ _).trans (teq ((lw_eq (((i4.toUInt64 >>> (y6 &&& 0x3f).toInt64.toUInt64).toInt64) &&& (1 : Int64)) (0 : Int64)).mpr ((own_bq i4 (by rw [hy3]; exact (own_nn_rem y2 (own_nn_mask i1 (2147483647 : Int32) 31 (by decide) (by decide)))) (by rw [hy3]; exact (own_lt_rem y2 (own_nn_mask i1 (2147483647 : Int32) 31 (by decide) (by decide)) (own_pos (by rw [hy2]; exact (own_n1 i0))))) (own_le8 (by rw [hy2]; exact (own_n9 i0))) (by rw [hy6]; exact (own_nn_mask ((i0.toUInt32 >>> ((3 : Int32) &&& 31).toUInt32).toInt32) (63 : Int32) 6 (by decide) (by decide))) (by rw [hy6]; exact (own_lt_mask ((i0.toUInt32 >>> ((3 : Int32) &&& 31).toUInt32).toInt32) (63 : Int32) 6 (by decide) (by decide) (by decide)))).mp hq862))).1) (by decide) (by decide) (XS.iconst X861.here hx rfl (hb hby at_143) (XS.icmpNo X861.here hx rfl (hb hby at_144) rfl (teq (by decide : (0 : Int32) = (0 : Int32))).2 (XS.iconst X861.here hx rfl (hb hby at_147) k)))))))))))) ?_
      show own_Goes p e below (T861.setTop (mkF m 148 #[iv i0, iv i1, iv i2, iv i3, .val (.long i4), .second, .val (.long i5), .second, iv y2, iv y3, iv y4, iv y5, iv y6, rv b8, iv (1 : Int32), .unset, .unset, .unset, .unset, .unset] [(.int (1 : Int32))])) _
      refine own_via (fun t k => XS.goto X861.here hx rfl (pc0 := 148) (pc' := 152) rfl (hb hby at_148) (by decide) (by decide) (XS.istore X861.here hx rfl (hb hby at_152) rfl (l' := #[iv i0, iv i1, iv i2, iv i3, .val (.long i4), .second, .val (.long i5), .second, iv y2, iv y3, iv y4, iv y5, iv y6, rv b8, iv (1 : Int32), iv (1 : Int32), .unset, .unset, .unset, .unset]) rfl (XS.aload X861.here hx rfl (hb hby at_154) rfl rfl (XS.iload X861.here hx rfl (hb hby at_156) rfl (XS.i2l X861.here hx rfl (hb hby at_158) rfl (XS.lload X861.here hx rfl (hb hby at_159) rfl k)))))) ?_
      show own_Goes p e below (T861.setTop (mkF m 161 #[iv i0, iv i1, iv i2, iv i3, .val (.long i4), .second, .val (.long i5), .second, iv y2, iv y3, iv y4, iv y5, iv y6, rv b8, iv (1 : Int32), iv (1 : Int32), .unset, .unset, .unset, .unset] [(.long i5), (.long (y4.toInt64)), (.ref b8)])) _
      obtain ⟨_, T866, _, X866, hQ866, st866⟩ := own_cv X861 hx hZ hown (wd hw 28 rfl) (wd hw 29 rfl) (wd hw 31 rfl) (wd hw 30 rfl) (wd hw 32 rfl) (wd hw 3 rfl) (by decide) (rm9 l Z a0 hw [] b8 y4 i5 y2 b145 k146 y3 i4 h157 n0 O347 (by rw [hy4]; exact (own_lt_rem y2 (own_nn_mask i2 (2147483647 : Int32) 31 (by decide) (by decide)) (own_pos (by rw [hy2]; exact (own_n1 i0))))) (by rw [hy2]; exact (own_n9 i0)) F345 E346 (by rw [hy4]; exact (own_nn_rem y2 (own_nn_mask i2 (2147483647 : Int32) 31 (by decide) (by decide)))) vx294 g154 ex295) hh863 E346 (g := (mkF m 161 #[iv i0, iv i1, iv i2, iv i3, .val (.long i4), .second, .val (.long i5), .second, iv y2, iv y3, iv y4, iv y5, iv y6, rv b8, iv (1 : Int32), iv (1 : Int32), .unset, .unset, .unset, .unset] [(.long i5), (.long (y4.toInt64)), (.ref b8)])) rfl (by rw [hml]; rfl) (rest := []) (W := 0) (lenOf pd_5 rfl) rfl (by show 2 * 0 + _ ≤ _; exact Nat.le_of_eq rfl) (hb hby at_161) (by decide) (by decide) (by decide) (by decide)
      obtain ⟨h866, e866⟩ : ∃ z, T866.heap = z := ⟨_, rfl⟩
      rw [e866] at hQ866
      obtain ⟨rfl, Nq866, K866, ex867, vx868⟩ := hQ866
      have N866 := Fr.app N861 Nq866
      refine own_via (fun t k => st866 t (XS.iload X866.here hx rfl (hb hby at_164) rfl (XS.iload X866.here hx rfl (hb hby at_166) rfl k))) ?_
      show own_Goes p e below (T866.setTop (mkF m 168 #[iv i0, iv i1, iv i2, iv i3, .val (.long i4), .second, .val (.long i5), .second, iv y2, iv y3, iv y4, iv y5, iv y6, rv b8, iv (1 : Int32), iv (1 : Int32), .unset, .unset, .unset, .unset] [(.int y4), (.int y3)])) _
      by_cases hc869 : y3 = y4
      · refine own_via (fun t k => XS.icmpNo X866.here hx rfl (hb hby at_168) rfl (teq hc869).2 (XS.lload X866.here hx rfl (hb hby at_171) rfl (XS.goto X866.here hx rfl (pc0 := 173) (pc' := 178) rfl (hb hby at_173) (by decide) (by decide) (XS.lstore X866.here hx rfl (hb hby at_178) rfl (l' := #[iv i0, iv i1, iv i2, iv i3, .val (.long i4), .second, .val (.long i5), .second, iv y2, iv y3, iv y4, iv y5, iv y6, rv b8, iv (1 : Int32), iv (1 : Int32), .val (.long i5), .second, .unset, .unset]) rfl (XS.iload X866.here hx rfl (hb hby at_180) rfl (XS.iload X866.here hx rfl (hb hby at_182) rfl k)))))) ?_
        show own_Goes p e below (T866.setTop (mkF m 184 #[iv i0, iv i1, iv i2, iv i3, .val (.long i4), .second, .val (.long i5), .second, iv y2, iv y3, iv y4, iv y5, iv y6, rv b8, iv (1 : Int32), iv (1 : Int32), .val (.long i5), .second, .unset, .unset] [(.int y4), (.int y5)])) _
        by_cases hc870 : y5 = y4
        · refine own_via (fun t k => XS.icmpNo X866.here hx rfl (hb hby at_184) rfl (teq hc870).2 (XS.lload X866.here hx rfl (hb hby at_187) rfl (XS.goto X866.here hx rfl (pc0 := 189) (pc' := 205) rfl (hb hby at_189) (by decide) (by decide) (XS.lstore X866.here hx rfl (hb hby at_205) rfl (l' := #[iv i0, iv i1, iv i2, iv i3, .val (.long i4), .second, .val (.long i5), .second, iv y2, iv y3, iv y4, iv y5, iv y6, rv b8, iv (1 : Int32), iv (1 : Int32), .val (.long i5), .second, .val (.long i5), .second]) rfl (XS.iload X866.here hx rfl (hb hby at_207) rfl (XS.ifNo X866.here hx rfl (hb hby at_209) rfl ((if0 _ _).trans (feq (by decide : ¬ ((1 : Int32) = (0 : Int32)))).1) (XS.iload X866.here hx rfl (hb hby at_212) rfl (XS.ifNo X866.here hx rfl (hb hby at_214) rfl ((if0 _ _).trans (feq (by decide : ¬ ((1 : Int32) = (0 : Int32)))).1) (XS.aload X866.here hx rfl (hb hby at_217) rfl rfl (XS.iload X866.here hx rfl (hb hby at_219) rfl (XS.i2l X866.here hx rfl (hb hby at_221) rfl k))))))))))) ?_
          show own_Goes p e below (T866.setTop (mkF m 222 #[iv i0, iv i1, iv i2, iv i3, .val (.long i4), .second, .val (.long i5), .second, iv y2, iv y3, iv y4, iv y5, iv y6, rv b8, iv (1 : Int32), iv (1 : Int32), .val (.long i5), .second, .val (.long i5), .second] [(.long (y3.toInt64)), (.ref b8)])) _
          have F872 : Fld Z h866 b8 zs1 "firstBlock" "[J" (.ref b145) := (F345.keep K866 (ninS N153 nin0))
          have E873 : Exa Z h866 b8 zs1 := (E346.keep K866)
          have O874 : Old Z n0 h866 := (O347.keep K866 (allS g154 all0))
          obtain ⟨_, T871, _, X871, hQ871, st871⟩ := own_cv X866 hx hZ hown (wd hw 40 rfl) (wd hw 41 rfl) (wd hw 43 rfl) (wd hw 42 rfl) (wd hw 44 rfl) (wd hw 3 rfl) (by decide) (rm10 l Z a0 hw [] b8 y3 y2 b145 k146 y4 i5 i4 h866 n0 O874 (by rw [hy3]; exact (own_lt_rem y2 (own_nn_mask i1 (2147483647 : Int32) 31 (by decide) (by decide)) (own_pos (by rw [hy2]; exact (own_n1 i0))))) (by rw [hy2]; exact (own_n9 i0)) F872 E873 (by rw [hy3]; exact (own_nn_rem y2 (own_nn_mask i1 (2147483647 : Int32) 31 (by decide) (by decide)))) vx868 hc869) e866 E873 (g := (mkF m 222 #[iv i0, iv i1, iv i2, iv i3, .val (.long i4), .second, .val (.long i5), .second, iv y2, iv y3, iv y4, iv y5, iv y6, rv b8, iv (1 : Int32), iv (1 : Int32), .val (.long i5), .second, .val (.long i5), .second] [(.long (y3.toInt64)), (.ref b8)])) rfl (by rw [hml]; rfl) (rest := []) (W := 0) (lenOf pd_6 rfl) rfl (by show 2 * 0 + _ ≤ _; exact Nat.le_of_eq rfl) (hb hby at_222) (by decide) (by decide) (by decide) (by decide)
          obtain ⟨rfl, Nq871, hh875⟩ := hQ871
          have N871 := Fr.app N866 Nq871
          refine own_via (fun t k => st871 t (XS.lload X871.here hx rfl (hb hby at_225) rfl (XS.lcmp X871.here hx rfl (hb hby at_227) rfl (XS.ifNo X871.here hx rfl (hb hby at_228) rfl ((if0 _ _).trans (teq ((lw_eq i5 i5).mpr (rfl : i5 = i5))).2) (XS.aload X871.here hx rfl (hb hby at_231) rfl rfl (XS.iload X871.here hx rfl (hb hby at_233) rfl (XS.i2l X871.here hx rfl (hb hby at_235) rfl k))))))) ?_
          show own_Goes p e below (T871.setTop (mkF m 236 #[iv i0, iv i1, iv i2, iv i3, .val (.long i4), .second, .val (.long i5), .second, iv y2, iv y3, iv y4, iv y5, iv y6, rv b8, iv (1 : Int32), iv (1 : Int32), .val (.long i5), .second, .val (.long i5), .second] [(.long (y5.toInt64)), (.ref b8)])) _
          obtain ⟨_, T876, _, X876, hQ876, st876⟩ := own_cv X871 hx hZ hown (wd hw 40 rfl) (wd hw 41 rfl) (wd hw 43 rfl) (wd hw 42 rfl) (wd hw 44 rfl) (wd hw 3 rfl) (by decide) (rm11 l Z a0 hw [] b8 y5 y2 b145 k146 y4 i5 y3 i4 h866 n0 O874 (by rw [hy5]; exact (own_lt_rem y2 (own_nn_mask i3 (2147483647 : Int32) 31 (by decide) (by decide)) (own_pos (by rw [hy2]; exact (own_n1 i0))))) (by rw [hy2]; exact (own_n9 i0)) F872 E873 (by rw [hy5]; exact (own_nn_rem y2 (own_nn_mask i3 (2147483647 : Int32) 31 (by decide) (by decide)))) vx868 hc870) hh875 E873 (g := (mkF m 236 #[iv i0, iv i1, iv i2, iv i3, .val (.long i4), .second, .val (.long i5), .second, iv y2, iv y3, iv y4, iv y5, iv y6, rv b8, iv (1 : Int32), iv (1 : Int32), .val (.long i5), .second, .val (.long i5), .second] [(.long (y5.toInt64)), (.ref b8)])) rfl (by rw [hml]; rfl) (rest := []) (W := 0) (lenOf pd_6 rfl) rfl (by show 2 * 0 + _ ≤ _; exact Nat.le_of_eq rfl) (hb hby at_236) (by decide) (by decide) (by decide) (by decide)
          obtain ⟨rfl, Nq876, hh877⟩ := hQ876
          have N876 := Fr.app N871 Nq876
          refine own_via (fun t k => st876 t (XS.lload X876.here hx rfl (hb hby at_239) rfl (XS.lcmp X876.here hx rfl (hb hby at_241) rfl (XS.ifNo X876.here hx rfl (hb hby at_242) rfl ((if0 _ _).trans (teq ((lw_eq i5 i5).mpr (rfl : i5 = i5))).2) (XS.aload X876.here hx rfl (hb hby at_245) rfl rfl k))))) ?_
          show own_Goes p e below (T876.setTop (mkF m 247 #[iv i0, iv i1, iv i2, iv i3, .val (.long i4), .second, .val (.long i5), .second, iv y2, iv y3, iv y4, iv y5, iv y6, rv b8, iv (1 : Int32), iv (1 : Int32), .val (.long i5), .second, .val (.long i5), .second] [(.ref b8)])) _
          have F879 : Fld Z h866 b8 zs1 "length" "J" (.long (y2.toInt64)) := ((fx148.keep K157 (ninS N153 nin0)).keep K866 (ninS N153 nin0))
          obtain ⟨_, T878, _, X878, hQ878, st878⟩ := own_cv X876 hx hZ hown (wd hw 53 rfl) (wd hw 54 rfl) (wd hw 56 rfl) (wd hw 55 rfl) (wd hw 57 rfl) (wd hw 3 rfl) (by decide) (rm12 l Z a0 hw [] b8 y2 h866 n0 O874 F879) hh877 E873 (g := (mkF m 247 #[iv i0, iv i1, iv i2, iv i3, .val (.long i4), .second, .val (.long i5), .second, iv y2, iv y3, iv y4, iv y5, iv y6, rv b8, iv (1 : Int32), iv (1 : Int32), .val (.long i5), .second, .val (.long i5), .second] [(.ref b8)])) rfl (by rw [hml]; rfl) (rest := []) (W := 0) (lenOf pd_8 rfl) rfl (by show 2 * 0 + _ ≤ _; exact Nat.le_of_eq rfl) (hb hby at_247) (by decide) (by decide) (by decide) (by decide)
          obtain ⟨rfl, Nq878, hh880⟩ := hQ878
          have N878 := Fr.app N876 Nq878
          refine own_via (fun t k => st878 t (XS.iload X878.here hx rfl (hb hby at_250) rfl (XS.i2l X878.here hx rfl (hb hby at_252) rfl (XS.lcmp X878.here hx rfl (hb hby at_253) rfl (XS.ifNo X878.here hx rfl (hb hby at_254) rfl ((if0 _ _).trans (teq ((lw_eq (y2.toInt64) (y2.toInt64)).mpr (rfl : (y2.toInt64) = (y2.toInt64)))).2) (XS.iconst X878.here hx rfl (hb hby at_257) (XS.goto X878.here hx rfl (pc0 := 258) (pc' := 262) rfl (hb hby at_258) (by decide) (by decide) k))))))) ?_
          show own_Goes p e below (T878.setTop (mkF m 262 #[iv i0, iv i1, iv i2, iv i3, .val (.long i4), .second, .val (.long i5), .second, iv y2, iv y3, iv y4, iv y5, iv y6, rv b8, iv (1 : Int32), iv (1 : Int32), .val (.long i5), .second, .val (.long i5), .second] [(.int (1 : Int32))])) _
          obtain ⟨fs, hr, hrun, hended, hW, hsame⟩ := X878.leave (v := some (.int (1 : Int32))) (fun h => by rw [Bd.returns] at h; cases h)
          refine own_end (t := T878.setFrames fs) ?_ ⟨_, hrun, hended, _, _, rfl, ?_, ⟨_, rfl⟩, hW, hsame.mono (by decide) (by decide)⟩
          · exact retN X878 hx (t := .boolean) Bd.returns (by simp) (hb hby at_262) hr
          · exact ⟨rfl, N878⟩
        · refine own_via (fun t k => XS.icmpYes X866.here hx rfl (pc0 := 184) (pc' := 192) rfl (hb hby at_184) rfl (feq hc870).2 (by decide) (by decide) (XS.iload X866.here hx rfl (hb hby at_192) rfl (XS.iload X866.here hx rfl (hb hby at_194) rfl (XS.icmpYes X866.here hx rfl (pc0 := 196) (pc' := 204) rfl (hb hby at_196) rfl (feq hq401).2 (by decide) (by decide) (XS.lconst X866.here hx rfl (hb hby at_204) (XS.lstore X866.here hx rfl (hb hby at_205) rfl (l' := #[iv i0, iv i1, iv i2, iv i3, .val (.long i4), .second, .val (.long i5), .second, iv y2, iv y3, iv y4, iv y5, iv y6, rv b8, iv (1 : Int32), iv (1 : Int32), .val (.long i5), .second, .val (.long (0 : Int64)), .second]) rfl (XS.iload X866.here hx rfl (hb hby at_207) rfl (XS.ifNo X866.here hx rfl (hb hby at_209) rfl ((if0 _ _).trans (feq (by decide : ¬ ((1 : Int32) = (0 : Int32)))).1) (XS.iload X866.here hx rfl (hb hby at_212) rfl (XS.ifNo X866.here hx rfl (hb hby at_214) rfl ((if0 _ _).trans (feq (by decide : ¬ ((1 : Int32) = (0 : Int32)))).1) (XS.aload X866.here hx rfl (hb hby at_217) rfl rfl (XS.iload X866.here hx rfl (hb hby at_219) rfl k)))))))))))) ?_
          show own_Goes p e below (T866.setTop (mkF m 221 #[iv i0, iv i1, iv i2, iv i3, .val (.long i4), .second, .val (.long i5), .second, iv y2, iv y3, iv y4, iv y5, iv y6, rv b8, iv (1 : Int32), iv (1 : Int32), .val (.long i5), .second, .val (.long (0 : Int64)), .second] [(.int y3), (.ref b8)])) _
          refine own_via (fun t k => XS.i2l X866.here hx rfl (hb hby at_221) rfl k) ?_
          have F882 : Fld Z h866 b8 zs1 "firstBlock" "[J" (.ref b145) := (F345.keep K866 (ninS N153 nin0))
          have E883 : Exa Z h866 b8 zs1 := (E346.keep K866)
          have O884 : Old Z n0 h866 := (O347.keep K866 (allS g154 all0))
          obtain ⟨_, T881, _, X881, hQ881, st881⟩ := own_cv X866 hx hZ hown (wd hw 40 rfl) (wd hw 41 rfl) (wd hw 43 rfl) (wd hw 42 rfl) (wd hw 44 rfl) (wd hw 3 rfl) (by decide) (rm10 l Z a0 hw [] b8 y3 y2 b145 k146 y4 i5 i4 h866 n0 O884 (by rw [hy3]; exact (own_lt_rem y2 (own_nn_mask i1 (2147483647 : Int32) 31 (by decide) (by decide)) (own_pos (by rw [hy2]; exact (own_n1 i0))))) (by rw [hy2]; exact (own_n9 i0)) F882 E883 (by rw [hy3]; exact (own_nn_rem y2 (own_nn_mask i1 (2147483647 : Int32) 31 (by decide) (by decide)))) vx868 hc869) e866 E883 (g := (mkF m 222 #[iv i0, iv i1, iv i2, iv i3, .val (.long i4), .second, .val (.long i5), .second, iv y2, iv y3, iv y4, iv y5, iv y6, rv b8, iv (1 : Int32), iv (1 : Int32), .val (.long i5), .second, .val (.long (0 : Int64)), .second] [(.long (y3.toInt64)), (.ref b8)])) rfl (by rw [hml]; rfl) (rest := []) (W := 0) (lenOf pd_6 rfl) rfl (by show 2 * 0 + _ ≤ _; exact Nat.le_of_eq rfl) (hb hby at_222) (by decide) (by decide) (by decide) (by decide)
          obtain ⟨rfl, Nq881, hh885⟩ := hQ881
          have N881 := Fr.app N866 Nq881
          refine own_via (fun t k => st881 t (XS.lload X881.here hx rfl (hb hby at_225) rfl (XS.lcmp X881.here hx rfl (hb hby at_227) rfl (XS.ifNo X881.here hx rfl (hb hby at_228) rfl ((if0 _ _).trans (teq ((lw_eq i5 i5).mpr (rfl : i5 = i5))).2) (XS.aload X881.here hx rfl (hb hby at_231) rfl rfl (XS.iload X881.here hx rfl (hb hby at_233) rfl (XS.i2l X881.here hx rfl (hb hby at_235) rfl k))))))) ?_
          show own_Goes p e below (T881.setTop (mkF m 236 #[iv i0, iv i1, iv i2, iv i3, .val (.long i4), .second, .val (.long i5), .second, iv y2, iv y3, iv y4, iv y5, iv y6, rv b8, iv (1 : Int32), iv (1 : Int32), .val (.long i5), .second, .val (.long (0 : Int64)), .second] [(.long (y5.toInt64)), (.ref b8)])) _
          obtain ⟨_, T886, _, X886, hQ886, st886⟩ := own_cv X881 hx hZ hown (wd hw 40 rfl) (wd hw 41 rfl) (wd hw 43 rfl) (wd hw 42 rfl) (wd hw 44 rfl) (wd hw 3 rfl) (by decide) (rm15 l Z a0 hw [] b8 y5 y2 b145 k146 y4 i5 y3 i4 h866 n0 O884 (by rw [hy5]; exact (own_lt_rem y2 (own_nn_mask i3 (2147483647 : Int32) 31 (by decide) (by decide)) (own_pos (by rw [hy2]; exact (own_n1 i0))))) (by rw [hy2]; exact (own_n9 i0)) F882 E883 (by rw [hy5]; exact (own_nn_rem y2 (own_nn_mask i3 (2147483647 : Int32) 31 (by decide) (by decide)))) vx868 hc870 hq401) hh885 E883 (g := (mkF m 236 #[iv i0, iv i1, iv i2, iv i3, .val (.long i4), .second, .val (.long i5), .second, iv y2, iv y3, iv y4, iv y5, iv y6, rv b8, iv (1 : Int32), iv (1 : Int32), .val (.long i5), .second, .val (.long (0 : Int64)), .second] [(.long (y5.toInt64)), (.ref b8)])) rfl (by rw [hml]; rfl) (rest := []) (W := 0) (lenOf pd_6 rfl) rfl (by show 2 * 0 + _ ≤ _; exact Nat.le_of_eq rfl) (hb hby at_236) (by decide) (by decide) (by decide) (by decide)
          obtain ⟨rfl, Nq886, hh940⟩ := hQ886
          have N886 := Fr.app N881 Nq886
          refine own_via (fun t k => st886 t (XS.lload X886.here hx rfl (hb hby at_239) rfl (XS.lcmp X886.here hx rfl (hb hby at_241) rfl (XS.ifNo X886.here hx rfl (hb hby at_242) rfl ((if0 _ _).trans (teq (by decide : (0 : Int32) = (0 : Int32))).2) (XS.aload X886.here hx rfl (hb hby at_245) rfl rfl k))))) ?_
          show own_Goes p e below (T886.setTop (mkF m 247 #[iv i0, iv i1, iv i2, iv i3, .val (.long i4), .second, .val (.long i5), .second, iv y2, iv y3, iv y4, iv y5, iv y6, rv b8, iv (1 : Int32), iv (1 : Int32), .val (.long i5), .second, .val (.long (0 : Int64)), .second] [(.ref b8)])) _
          have F942 : Fld Z h866 b8 zs1 "length" "J" (.long (y2.toInt64)) := ((fx148.keep K157 (ninS N153 nin0)).keep K866 (ninS N153 nin0))
          obtain ⟨_, T941, _, X941, hQ941, st941⟩ := own_cv X886 hx hZ hown (wd hw 53 rfl) (wd hw 54 rfl) (wd hw 56 rfl) (wd hw 55 rfl) (wd hw 57 rfl) (wd hw 3 rfl) (by decide) (rm12 l Z a0 hw [] b8 y2 h866 n0 O884 F942) hh940 E883 (g := (mkF m 247 #[iv i0, iv i1, iv i2, iv i3, .val (.long i4), .second, .val (.long i5), .second, iv y2, iv y3, iv y4, iv y5, iv y6, rv b8, iv (1 : Int32), iv (1 : Int32), .val (.long i5), .second, .val (.long (0 : Int64)), .second] [(.ref b8)])) rfl (by rw [hml]; rfl) (rest := []) (W := 0) (lenOf pd_8 rfl) rfl (by show 2 * 0 + _ ≤ _; exact Nat.le_of_eq rfl) (hb hby at_247) (by decide) (by decide) (by decide) (by decide)
          obtain ⟨rfl, Nq941, hh943⟩ := hQ941
          have N941 := Fr.app N886 Nq941
          refine own_via (fun t k => st941 t (XS.iload X941.here hx rfl (hb hby at_250) rfl (XS.i2l X941.here hx rfl (hb hby at_252) rfl (XS.lcmp X941.here hx rfl (hb hby at_253) rfl (XS.ifNo X941.here hx rfl (hb hby at_254) rfl ((if0 _ _).trans (teq ((lw_eq (y2.toInt64) (y2.toInt64)).mpr (rfl : (y2.toInt64) = (y2.toInt64)))).2) (XS.iconst X941.here hx rfl (hb hby at_257) (XS.goto X941.here hx rfl (pc0 := 258) (pc' := 262) rfl (hb hby at_258) (by decide) (by decide) k))))))) ?_
          show own_Goes p e below (T941.setTop (mkF m 262 #[iv i0, iv i1, iv i2, iv i3, .val (.long i4), .second, .val (.long i5), .second, iv y2, iv y3, iv y4, iv y5, iv y6, rv b8, iv (1 : Int32), iv (1 : Int32), .val (.long i5), .second, .val (.long (0 : Int64)), .second] [(.int (1 : Int32))])) _
          obtain ⟨fs, hr, hrun, hended, hW, hsame⟩ := X941.leave (v := some (.int (1 : Int32))) (fun h => by rw [Bd.returns] at h; cases h)
          refine own_end (t := T941.setFrames fs) ?_ ⟨_, hrun, hended, _, _, rfl, ?_, ⟨_, rfl⟩, hW, hsame.mono (by decide) (by decide)⟩
          · exact retN X941 hx (t := .boolean) Bd.returns (by simp) (hb hby at_262) hr
          · exact ⟨rfl, N941⟩
      · refine own_via (fun t k => XS.icmpYes X866.here hx rfl (pc0 := 168) (pc' := 176) rfl (hb hby at_168) rfl (feq hc869).2 (by decide) (by decide) (XS.lload X866.here hx rfl (hb hby at_176) rfl (XS.lstore X866.here hx rfl (hb hby at_178) rfl (l' := #[iv i0, iv i1, iv i2, iv i3, .val (.long i4), .second, .val (.long i5), .second, iv y2, iv y3, iv y4, iv y5, iv y6, rv b8, iv (1 : Int32), iv (1 : Int32), .val (.long i4), .second, .unset, .unset]) rfl (XS.iload X866.here hx rfl (hb hby at_180) rfl (XS.iload X866.here hx rfl (hb hby at_182) rfl k))))) ?_
        show own_Goes p e below (T866.setTop (mkF m 184 #[iv i0, iv i1, iv i2, iv i3, .val (.long i4), .second, .val (.long i5), .second, iv y2, iv y3, iv y4, iv y5, iv y6, rv b8, iv (1 : Int32), iv (1 : Int32), .val (.long i4), .second, .unset, .unset] [(.int y4), (.int y5)])) _
        by_cases hc944 : y5 = y4
        · refine own_via (fun t k => XS.icmpNo X866.here hx rfl (hb hby at_184) rfl (teq hc944).2 (XS.lload X866.here hx rfl (hb hby at_187) rfl (XS.goto X866.here hx rfl (pc0 := 189) (pc' := 205) rfl (hb hby at_189) (by decide) (by decide) (XS.lstore X866.here hx rfl (hb hby at_205) rfl (l' := #[iv i0, iv i1, iv i2, iv i3, .val (.long i4), .second, .val (.long i5), .second, iv y2, iv y3, iv y4, iv y5, iv y6, rv b8, iv (1 : Int32), iv (1 : Int32), .val (.long i4), .second, .val (.long i5), .second]) rfl (XS.iload X866.here hx rfl (hb hby at_207) rfl (XS.ifNo X866.here hx rfl (hb hby at_209) rfl ((if0 _ _).trans (feq (by decide : ¬ ((1 : Int32) = (0 : Int32)))).1) (XS.iload X866.here hx rfl (hb hby at_212) rfl (XS.ifNo X866.here hx rfl (hb hby at_214) rfl ((if0 _ _).trans (feq (by decide : ¬ ((1 : Int32) = (0 : Int32)))).1) (XS.aload X866.here hx rfl (hb hby at_217) rfl rfl (XS.iload X866.here hx rfl (hb hby at_219) rfl (XS.i2l X866.here hx rfl (hb hby at_221) rfl k))))))))))) ?_
          show own_Goes p e below (T866.setTop (mkF m 222 #[iv i0, iv i1, iv i2, iv i3, .val (.long i4), .second, .val (.long i5), .second, iv y2, iv y3, iv y4, iv y5, iv y6, rv b8, iv (1 : Int32), iv (1 : Int32), .val (.long i4), .second, .val (.long i5), .second] [(.long (y3.toInt64)), (.ref b8)])) _
          have F946 : Fld Z h866 b8 zs1 "firstBlock" "[J" (.ref b145) := (F345.keep K866 (ninS N153 nin0))
          have E947 : Exa Z h866 b8 zs1 := (E346.keep K866)
          have O948 : Old Z n0 h866 := (O347.keep K866 (allS g154 all0))
          obtain ⟨_, T945, _, X945, hQ945, st945⟩ := own_cv X866 hx hZ hown (wd hw 40 rfl) (wd hw 41 rfl) (wd hw 43 rfl) (wd hw 42 rfl) (wd hw 44 rfl) (wd hw 3 rfl) (by decide) (rm14 l Z a0 hw [] b8 y3 y2 b145 k146 y4 i5 i4 h866 n0 O948 (by rw [hy3]; exact (own_lt_rem y2 (own_nn_mask i1 (2147483647 : Int32) 31 (by decide) (by decide)) (own_pos (by rw [hy2]; exact (own_n1 i0))))) (by rw [hy2]; exact (own_n9 i0)) F946 E947 (by rw [hy3]; exact (own_nn_rem y2 (own_nn_mask i1 (2147483647 : Int32) 31 (by decide) (by decide)))) vx868 hc869) e866 E947 (g := (mkF m 222 #[iv i0, iv i1, iv i2, iv i3, .val (.long i4), .second, .val (.long i5), .second, iv y2, iv y3, iv y4, iv y5, iv y6, rv b8, iv (1 : Int32), iv (1 : Int32), .val (.long i4), .second, .val (.long i5), .second] [(.long (y3.toInt64)), (.ref b8)])) rfl (by rw [hml]; rfl) (rest := []) (W := 0) (lenOf pd_6 rfl) rfl (by show 2 * 0 + _ ≤ _; exact Nat.le_of_eq rfl) (hb hby at_222) (by decide) (by decide) (by decide) (by decide)
          obtain ⟨rfl, Nq945, hh949⟩ := hQ945
          have N945 := Fr.app N866 Nq945
          refine own_via (fun t k => st945 t (XS.lload X945.here hx rfl (hb hby at_225) rfl (XS.lcmp X945.here hx rfl (hb hby at_227) rfl (XS.ifNo X945.here hx rfl (hb hby at_228) rfl ((if0 _ _).trans (teq ((lw_eq i4 i4).mpr (rfl : i4 = i4))).2) (XS.aload X945.here hx rfl (hb hby at_231) rfl rfl (XS.iload X945.here hx rfl (hb hby at_233) rfl (XS.i2l X945.here hx rfl (hb hby at_235) rfl k))))))) ?_
          show own_Goes p e below (T945.setTop (mkF m 236 #[iv i0, iv i1, iv i2, iv i3, .val (.long i4), .second, .val (.long i5), .second, iv y2, iv y3, iv y4, iv y5, iv y6, rv b8, iv (1 : Int32), iv (1 : Int32), .val (.long i4), .second, .val (.long i5), .second] [(.long (y5.toInt64)), (.ref b8)])) _
          obtain ⟨_, T950, _, X950, hQ950, st950⟩ := own_cv X945 hx hZ hown (wd hw 40 rfl) (wd hw 41 rfl) (wd hw 43 rfl) (wd hw 42 rfl) (wd hw 44 rfl) (wd hw 3 rfl) (by decide) (rm11 l Z a0 hw [] b8 y5 y2 b145 k146 y4 i5 y3 i4 h866 n0 O948 (by rw [hy5]; exact (own_lt_rem y2 (own_nn_mask i3 (2147483647 : Int32) 31 (by decide) (by decide)) (own_pos (by rw [hy2]; exact (own_n1 i0))))) (by rw [hy2]; exact (own_n9 i0)) F946 E947 (by rw [hy5]; exact (own_nn_rem y2 (own_nn_mask i3 (2147483647 : Int32) 31 (by decide) (by decide)))) vx868 hc944) hh949 E947 (g := (mkF m 236 #[iv i0, iv i1, iv i2, iv i3, .val (.long i4), .second, .val (.long i5), .second, iv y2, iv y3, iv y4, iv y5, iv y6, rv b8, iv (1 : Int32), iv (1 : Int32), .val (.long i4), .second, .val (.long i5), .second] [(.long (y5.toInt64)), (.ref b8)])) rfl (by rw [hml]; rfl) (rest := []) (W := 0) (lenOf pd_6 rfl) rfl (by show 2 * 0 + _ ≤ _; exact Nat.le_of_eq rfl) (hb hby at_236) (by decide) (by decide) (by decide) (by decide)
          obtain ⟨rfl, Nq950, hh951⟩ := hQ950
          have N950 := Fr.app N945 Nq950
          refine own_via (fun t k => st950 t (XS.lload X950.here hx rfl (hb hby at_239) rfl (XS.lcmp X950.here hx rfl (hb hby at_241) rfl (XS.ifNo X950.here hx rfl (hb hby at_242) rfl ((if0 _ _).trans (teq ((lw_eq i5 i5).mpr (rfl : i5 = i5))).2) (XS.aload X950.here hx rfl (hb hby at_245) rfl rfl k))))) ?_
          show own_Goes p e below (T950.setTop (mkF m 247 #[iv i0, iv i1, iv i2, iv i3, .val (.long i4), .second, .val (.long i5), .second, iv y2, iv y3, iv y4, iv y5, iv y6, rv b8, iv (1 : Int32), iv (1 : Int32), .val (.long i4), .second, .val (.long i5), .second] [(.ref b8)])) _
          have F953 : Fld Z h866 b8 zs1 "length" "J" (.long (y2.toInt64)) := ((fx148.keep K157 (ninS N153 nin0)).keep K866 (ninS N153 nin0))
          obtain ⟨_, T952, _, X952, hQ952, st952⟩ := own_cv X950 hx hZ hown (wd hw 53 rfl) (wd hw 54 rfl) (wd hw 56 rfl) (wd hw 55 rfl) (wd hw 57 rfl) (wd hw 3 rfl) (by decide) (rm12 l Z a0 hw [] b8 y2 h866 n0 O948 F953) hh951 E947 (g := (mkF m 247 #[iv i0, iv i1, iv i2, iv i3, .val (.long i4), .second, .val (.long i5), .second, iv y2, iv y3, iv y4, iv y5, iv y6, rv b8, iv (1 : Int32), iv (1 : Int32), .val (.long i4), .second, .val (.long i5), .second] [(.ref b8)])) rfl (by rw [hml]; rfl) (rest := []) (W := 0) (lenOf pd_8 rfl) rfl (by show 2 * 0 + _ ≤ _; exact Nat.le_of_eq rfl) (hb hby at_247) (by decide) (by decide) (by decide) (by decide)
          obtain ⟨rfl, Nq952, hh954⟩ := hQ952
          have N952 := Fr.app N950 Nq952
          refine own_via (fun t k => st952 t (XS.iload X952.here hx rfl (hb hby at_250) rfl (XS.i2l X952.here hx rfl (hb hby at_252) rfl (XS.lcmp X952.here hx rfl (hb hby at_253) rfl (XS.ifNo X952.here hx rfl (hb hby at_254) rfl ((if0 _ _).trans (teq ((lw_eq (y2.toInt64) (y2.toInt64)).mpr (rfl : (y2.toInt64) = (y2.toInt64)))).2) (XS.iconst X952.here hx rfl (hb hby at_257) (XS.goto X952.here hx rfl (pc0 := 258) (pc' := 262) rfl (hb hby at_258) (by decide) (by decide) k))))))) ?_
          show own_Goes p e below (T952.setTop (mkF m 262 #[iv i0, iv i1, iv i2, iv i3, .val (.long i4), .second, .val (.long i5), .second, iv y2, iv y3, iv y4, iv y5, iv y6, rv b8, iv (1 : Int32), iv (1 : Int32), .val (.long i4), .second, .val (.long i5), .second] [(.int (1 : Int32))])) _
          obtain ⟨fs, hr, hrun, hended, hW, hsame⟩ := X952.leave (v := some (.int (1 : Int32))) (fun h => by rw [Bd.returns] at h; cases h)
          refine own_end (t := T952.setFrames fs) ?_ ⟨_, hrun, hended, _, _, rfl, ?_, ⟨_, rfl⟩, hW, hsame.mono (by decide) (by decide)⟩
          · exact retN X952 hx (t := .boolean) Bd.returns (by simp) (hb hby at_262) hr
          · exact ⟨rfl, N952⟩
        · refine own_via (fun t k => XS.icmpYes X866.here hx rfl (pc0 := 184) (pc' := 192) rfl (hb hby at_184) rfl (feq hc944).2 (by decide) (by decide) (XS.iload X866.here hx rfl (hb hby at_192) rfl (XS.iload X866.here hx rfl (hb hby at_194) rfl (XS.icmpYes X866.here hx rfl (pc0 := 196) (pc' := 204) rfl (hb hby at_196) rfl (feq hq401).2 (by decide) (by decide) (XS.lconst X866.here hx rfl (hb hby at_204) (XS.lstore X866.here hx rfl (hb hby at_205) rfl (l' := #[iv i0, iv i1, iv i2, iv i3, .val (.long i4), .second, .val (.long i5), .second, iv y2, iv y3, iv y4, iv y5, iv y6, rv b8, iv (1 : Int32), iv (1 : Int32), .val (.long i4), .second, .val (.long (0 : Int64)), .second]) rfl (XS.iload X866.here hx rfl (hb hby at_207) rfl (XS.ifNo X866.here hx rfl (hb hby at_209) rfl ((if0 _ _).trans (feq (by decide : ¬ ((1 : Int32) = (0 : Int32)))).1) (XS.iload X866.here hx rfl (hb hby at_212) rfl (XS.ifNo X866.here hx rfl (hb hby at_214) rfl ((if0 _ _).trans (feq (by decide : ¬ ((1 : Int32) = (0 : Int32)))).1) (XS.aload X866.here hx rfl (hb hby at_217) rfl rfl (XS.iload X866.here hx rfl (hb hby at_219) rfl k)))))))))))) ?_
          show own_Goes p e below (T866.setTop (mkF m 221 #[iv i0, iv i1, iv i2, iv i3, .val (.long i4), .second, .val (.long i5), .second, iv y2, iv y3, iv y4, iv y5, iv y6, rv b8, iv (1 : Int32), iv (1 : Int32), .val (.long i4), .second, .val (.long (0 : Int64)), .second] [(.int y3), (.ref b8)])) _
          refine own_via (fun t k => XS.i2l X866.here hx rfl (hb hby at_221) rfl k) ?_
          have F956 : Fld Z h866 b8 zs1 "firstBlock" "[J" (.ref b145) := (F345.keep K866 (ninS N153 nin0))
          have E957 : Exa Z h866 b8 zs1 := (E346.keep K866)
          have O958 : Old Z n0 h866 := (O347.keep K866 (allS g154 all0))
          obtain ⟨_, T955, _, X955, hQ955, st955⟩ := own_cv X866 hx hZ hown (wd hw 40 rfl) (wd hw 41 rfl) (wd hw 43 rfl) (wd hw 42 rfl) (wd hw 44 rfl) (wd hw 3 rfl) (by decide) (rm14 l Z a0 hw [] b8 y3 y2 b145 k146 y4 i5 i4 h866 n0 O958 (by rw [hy3]; exact (own_lt_rem y2 (own_nn_mask i1 (2147483647 : Int32) 31 (by decide) (by decide)) (own_pos (by rw [hy2]; exact (own_n1 i0))))) (by rw [hy2]; exact (own_n9 i0)) F956 E957 (by rw [hy3]; exact (own_nn_rem y2 (own_nn_mask i1 (2147483647 : Int32) 31 (by decide) (by decide)))) vx868 hc869) e866 E957 (g := (mkF m 222 #[iv i0, iv i1, iv i2, iv i3, .val (.long i4), .second, .val (.long i5), .second, iv y2, iv y3, iv y4, iv y5, iv y6, rv b8, iv (1 : Int32), iv (1 : Int32), .val (.long i4), .second, .val (.long (0 : Int64)), .second] [(.long (y3.toInt64)), (.ref b8)])) rfl (by rw [hml]; rfl) (rest := []) (W := 0) (lenOf pd_6 rfl) rfl (by show 2 * 0 + _ ≤ _; exact Nat.le_of_eq rfl) (hb hby at_222) (by decide) (by decide) (by decide) (by decide)
          obtain ⟨rfl, Nq955, hh959⟩ := hQ955
          have N955 := Fr.app N866 Nq955
          refine own_via (fun t k => st955 t (XS.lload X955.here hx rfl (hb hby at_225) rfl (XS.lcmp X955.here hx rfl (hb hby at_227) rfl (XS.ifNo X955.here hx rfl (hb hby at_228) rfl ((if0 _ _).trans (teq ((lw_eq i4 i4).mpr (rfl : i4 = i4))).2) (XS.aload X955.here hx rfl (hb hby at_231) rfl rfl (XS.iload X955.here hx rfl (hb hby at_233) rfl (XS.i2l X955.here hx rfl (hb hby at_235) rfl k))))))) ?_
          show own_Goes p e below (T955.setTop (mkF m 236 #[iv i0, iv i1, iv i2, iv i3, .val (.long i4), .second, .val (.long i5), .second, iv y2, iv y3, iv y4, iv y5, iv y6, rv b8, iv (1 : Int32), iv (1 : Int32), .val (.long i4), .second, .val (.long (0 : Int64)), .second] [(.long (y5.toInt64)), (.ref b8)])) _
          obtain ⟨_, T960, _, X960, hQ960, st960⟩ := own_cv X955 hx hZ hown (wd hw 40 rfl) (wd hw 41 rfl) (wd hw 43 rfl) (wd hw 42 rfl) (wd hw 44 rfl) (wd hw 3 rfl) (by decide) (rm15 l Z a0 hw [] b8 y5 y2 b145 k146 y4 i5 y3 i4 h866 n0 O958 (by rw [hy5]; exact (own_lt_rem y2 (own_nn_mask i3 (2147483647 : Int32) 31 (by decide) (by decide)) (own_pos (by rw [hy2]; exact (own_n1 i0))))) (by rw [hy2]; exact (own_n9 i0)) F956 E957 (by rw [hy5]; exact (own_nn_rem y2 (own_nn_mask i3 (2147483647 : Int32) 31 (by decide) (by decide)))) vx868 hc944 hq401) hh959 E957 (g := (mkF m 236 #[iv i0, iv i1, iv i2, iv i3, .val (.long i4), .second, .val (.long i5), .second, iv y2, iv y3, iv y4, iv y5, iv y6, rv b8, iv (1 : Int32), iv (1 : Int32), .val (.long i4), .second, .val (.long (0 : Int64)), .second] [(.long (y5.toInt64)), (.ref b8)])) rfl (by rw [hml]; rfl) (rest := []) (W := 0) (lenOf pd_6 rfl) rfl (by show 2 * 0 + _ ≤ _; exact Nat.le_of_eq rfl) (hb hby at_236) (by decide) (by decide) (by decide) (by decide)
          obtain ⟨rfl, Nq960, hh961⟩ := hQ960
          have N960 := Fr.app N955 Nq960
          refine own_via (fun t k => st960 t (XS.lload X960.here hx rfl (hb hby at_239) rfl (XS.lcmp X960.here hx rfl (hb hby at_241) rfl (XS.ifNo X960.here hx rfl (hb hby at_242) rfl ((if0 _ _).trans (teq (by decide : (0 : Int32) = (0 : Int32))).2) (XS.aload X960.here hx rfl (hb hby at_245) rfl rfl k))))) ?_
          show own_Goes p e below (T960.setTop (mkF m 247 #[iv i0, iv i1, iv i2, iv i3, .val (.long i4), .second, .val (.long i5), .second, iv y2, iv y3, iv y4, iv y5, iv y6, rv b8, iv (1 : Int32), iv (1 : Int32), .val (.long i4), .second, .val (.long (0 : Int64)), .second] [(.ref b8)])) _
          have F963 : Fld Z h866 b8 zs1 "length" "J" (.long (y2.toInt64)) := ((fx148.keep K157 (ninS N153 nin0)).keep K866 (ninS N153 nin0))
          obtain ⟨_, T962, _, X962, hQ962, st962⟩ := own_cv X960 hx hZ hown (wd hw 53 rfl) (wd hw 54 rfl) (wd hw 56 rfl) (wd hw 55 rfl) (wd hw 57 rfl) (wd hw 3 rfl) (by decide) (rm12 l Z a0 hw [] b8 y2 h866 n0 O958 F963) hh961 E957 (g := (mkF m 247 #[iv i0, iv i1, iv i2, iv i3, .val (.long i4), .second, .val (.long i5), .second, iv y2, iv y3, iv y4, iv y5, iv y6, rv b8, iv (1 : Int32), iv (1 : Int32), .val (.long i4), .second, .val (.long (0 : Int64)), .second] [(.ref b8)])) rfl (by rw [hml]; rfl) (rest := []) (W := 0) (lenOf pd_8 rfl) rfl (by show 2 * 0 + _ ≤ _; exact Nat.le_of_eq rfl) (hb hby at_247) (by decide) (by decide) (by decide) (by decide)
          obtain ⟨rfl, Nq962, hh964⟩ := hQ962
          have N962 := Fr.app N960 Nq962
          refine own_via (fun t k => st962 t (XS.iload X962.here hx rfl (hb hby at_250) rfl (XS.i2l X962.here hx rfl (hb hby at_252) rfl (XS.lcmp X962.here hx rfl (hb hby at_253) rfl (XS.ifNo X962.here hx rfl (hb hby at_254) rfl ((if0 _ _).trans (teq ((lw_eq (y2.toInt64) (y2.toInt64)).mpr (rfl : (y2.toInt64) = (y2.toInt64)))).2) (XS.iconst X962.here hx rfl (hb hby at_257) (XS.goto X962.here hx rfl (pc0 := 258) (pc' := 262) rfl (hb hby at_258) (by decide) (by decide) k))))))) ?_
          show own_Goes p e below (T962.setTop (mkF m 262 #[iv i0, iv i1, iv i2, iv i3, .val (.long i4), .second, .val (.long i5), .second, iv y2, iv y3, iv y4, iv y5, iv y6, rv b8, iv (1 : Int32), iv (1 : Int32), .val (.long i4), .second, .val (.long (0 : Int64)), .second] [(.int (1 : Int32))])) _
          obtain ⟨fs, hr, hrun, hended, hW, hsame⟩ := X962.leave (v := some (.int (1 : Int32))) (fun h => by rw [Bd.returns] at h; cases h)
          refine own_end (t := T962.setFrames fs) ?_ ⟨_, hrun, hended, _, _, rfl, ?_, ⟨_, rfl⟩, hW, hsame.mono (by decide) (by decide)⟩
          · exact retN X962 hx (t := .boolean) Bd.returns (by simp) (hb hby at_262) hr
          · exact ⟨rfl, N962⟩
    · have N861 := Fr.app N349 Nq861
      refine own_via (fun t k => st861 t (XS.lload X861.here hx rfl (hb hby at_127) rfl (XS.iload X861.here hx rfl (hb hby at_129) rfl (XS.lushr X861.here hx rfl (hb hby at_131) rfl (XS.lconst X861.here hx rfl (hb hby at_132) (XS.land X861.here hx rfl (hb hby at_133) rfl (XS.lconst X861.here hx rfl (hb hby at_134) (XS.lcmp X861.here hx rfl (hb hby at_135) rfl (XS.ifNo X861.here hx rfl (hb hby at_136) rfl ((if0 _ _).trans (feq (fun q => (fun q => hq864 ((own_bq i4 (by rw [hy3]; exact (own_nn_rem y2 (own_nn_mask i1 (2147483647 : Int32) 31 (by decide) (by decide)))) (by rw [hy3]; exact (own_lt_rem y2 (own_nn_mask i1 (2147483647 : Int32) 31 (by decide) (by decide)) (own_pos (by rw [hy2]; exact (own_n1 i0))))) (own_le8 (by rw [hy2]; exact (own_n9 i0))) (by rw [hy6]; exact (own_nn_mask ((i0.toUInt32 >>> ((3 : Int32) &&& 31).toUInt32).toInt32) (63 : Int32) 6 (by decide) (by decide))) (by rw [hy6]; exact (own_lt_mask ((i0.toUInt32 >>> ((3 : Int32) &&& 31).toUInt32).toInt32) (63 : Int32) 6 (by decide) (by decide) (by decide)))).mpr q)) ((lw_eq (((i4.toUInt64 >>> (y6 &&& 0x3f).toInt64.toUInt64).toInt64) &&& (1 : Int64)) (0 : Int64)).mp q))).1) (XS.iconst X861.here hx rfl (hb hby at_139) (XS.goto X861.here hx rfl (pc0 := 140) (pc' := 144) rfl (hb hby at_140) (by decide) (by decide) (XS.icmpNo X861.here hx rfl (hb hby at_144) rfl (teq (by decide : (1 : Int32) = (1 : Int32))).2 k)))))))))))) ?_
      show own_Goes p e below (T861.setTop (mkF m 147 #[iv i0, iv i1, iv i2, iv i3, .val (.long i4), .second, .val (.long i5), .second, iv y2, iv y3, iv y4, iv y5, iv y6, rv b8, iv (1 : Int32), .unset, .unset, .unset, .unset, .unset] [])) _
      refine own_via (fun t k => XS.iconst X861.here hx rfl (hb hby at_147) (XS.goto X861.here hx rfl (pc0 := 148) (pc' := 152) rfl (hb hby at_148) (by decide) (by decide) (XS.istore X861.here hx rfl (hb hby at_152) rfl (l' := #[iv i0, iv i1, iv i2, iv i3, .val (.long i4), .second, .val (.long i5), .second, iv y2, iv y3, iv y4, iv y5, iv y6, rv b8, iv (1 : Int32), iv (1 : Int32), .unset, .unset, .unset, .unset]) rfl (XS.aload X861.here hx rfl (hb hby at_154) rfl rfl (XS.iload X861.here hx rfl (hb hby at_156) rfl (XS.i2l X861.here hx rfl (hb hby at_158) rfl (XS.lload X861.here hx rfl (hb hby at_159) rfl k))))))) ?_
      show own_Goes p e below (T861.setTop (mkF m 161 #[iv i0, iv i1, iv i2, iv i3, .val (.long i4), .second, .val (.long i5), .second, iv y2, iv y3, iv y4, iv y5, iv y6, rv b8, iv (1 : Int32), iv (1 : Int32), .unset, .unset, .unset, .unset] [(.long i5), (.long (y4.toInt64)), (.ref b8)])) _
      obtain ⟨_, T965, _, X965, hQ965, st965⟩ := own_cv X861 hx hZ hown (wd hw 28 rfl) (wd hw 29 rfl) (wd hw 31 rfl) (wd hw 30 rfl) (wd hw 32 rfl) (wd hw 3 rfl) (by decide) (rm9 l Z a0 hw [] b8 y4 i5 y2 b145 k146 y3 i4 h157 n0 O347 (by rw [hy4]; exact (own_lt_rem y2 (own_nn_mask i2 (2147483647 : Int32) 31 (by decide) (by decide)) (own_pos (by rw [hy2]; exact (own_n1 i0))))) (by rw [hy2]; exact (own_n9 i0)) F345 E346 (by rw [hy4]; exact (own_nn_rem y2 (own_nn_mask i2 (2147483647 : Int32) 31 (by decide) (by decide)))) vx294 g154 ex295) hh865 E346 (g := (mkF m 161 #[iv i0, iv i1, iv i2, iv i3, .val (.long i4), .second, .val (.long i5), .second, iv y2, iv y3, iv y4, iv y5, iv y6, rv b8, iv (1 : Int32), iv (1 : Int32), .unset, .unset, .unset, .unset] [(.long i5), (.long (y4.toInt64)), (.ref b8)])) rfl (by rw [hml]; rfl) (rest := []) (W := 0) (lenOf pd_5 rfl) rfl (by show 2 * 0 + _ ≤ _; exact Nat.le_of_eq rfl) (hb hby at_161) (by decide) (by decide) (by decide) (by decide)
      obtain ⟨h965, e965⟩ : ∃ z, T965.heap = z := ⟨_, rfl⟩
      rw [e965] at hQ965
      obtain ⟨rfl, Nq965, K965, ex966, vx967⟩ := hQ965
      have N965 := Fr.app N861 Nq965
      refine own_via (fun t k => st965 t (XS.iload X965.here hx rfl (hb hby at_164) rfl (XS.iload X965.here hx rfl (hb hby at_166) rfl k))) ?_
      show own_Goes p e below (T965.setTop (mkF m 168 #[iv i0, iv i1, iv i2, iv i3, .val (.long i4), .second, .val (.long i5), .second, iv y2, iv y3, iv y4, iv y5, iv y6, rv b8, iv (1 : Int32), iv (1 : Int32), .unset, .unset, .unset, .unset] [(.int y4), (.int y3)])) _
      by_cases hc968 : y3 = y4
      · refine own_via (fun t k => XS.icmpNo X965.here hx rfl (hb hby at_168) rfl (teq hc968).2 (XS.lload X965.here hx rfl (hb hby at_171) rfl (XS.goto X965.here hx rfl (pc0 := 173) (pc' := 178) rfl (hb hby at_173) (by decide) (by decide) (XS.lstore X965.here hx rfl (hb hby at_178) rfl (l' := #[iv i0, iv i1, iv i2, iv i3, .val (.long i4), .second, .val (.long i5), .second, iv y2, iv y3, iv y4, iv y5, iv y6, rv b8, iv (1 : Int32), iv (1 : Int32), .val (.long i5), .second, .unset, .unset]) rfl (XS.iload X965.here hx rfl (hb hby at_180) rfl (XS.iload X965.here hx rfl (hb hby at_182) rfl k)))))) ?_
        show own_Goes p e below (T965.setTop (mkF m 184 #[iv i0, iv i1, iv i2, iv i3, .val (.long i4), .second, .val (.long i5), .second, iv y2, iv y3, iv y4, iv y5, iv y6, rv b8, iv (1 : Int32), iv (1 : Int32), .val (.long i5), .second, .unset, .unset] [(.int y4), (.int y5)])) _
        by_cases hc969 : y5 = y4
        · refine own_via (fun t k => XS.icmpNo X965.here hx rfl (hb hby at_184) rfl (teq hc969).2 (XS.lload X965.here hx rfl (hb hby at_187) rfl (XS.goto X965.here hx rfl (pc0 := 189) (pc' := 205) rfl (hb hby at_189) (by decide) (by decide) (XS.lstore X965.here hx rfl (hb hby at_205) rfl (l' := #[iv i0, iv i1, iv i2, iv i3, .val (.long i4), .second, .val (.long i5), .second, iv y2, iv y3, iv y4, iv y5, iv y6, rv b8, iv (1 : Int32), iv (1 : Int32), .val (.long i5), .second, .val (.long i5), .second]) rfl (XS.iload X965.here hx rfl (hb hby at_207) rfl (XS.ifNo X965.here hx rfl (hb hby at_209) rfl ((if0 _ _).trans (feq (by decide : ¬ ((1 : Int32) = (0 : Int32)))).1) (XS.iload X965.here hx rfl (hb hby at_212) rfl (XS.ifNo X965.here hx rfl (hb hby at_214) rfl ((if0 _ _).trans (feq (by decide : ¬ ((1 : Int32) = (0 : Int32)))).1) (XS.aload X965.here hx rfl (hb hby at_217) rfl rfl (XS.iload X965.here hx rfl (hb hby at_219) rfl (XS.i2l X965.here hx rfl (hb hby at_221) rfl k))))))))))) ?_
          show own_Goes p e below (T965.setTop (mkF m 222 #[iv i0, iv i1, iv i2, iv i3, .val (.long i4), .second, .val (.long i5), .second, iv y2, iv y3, iv y4, iv y5, iv y6, rv b8, iv (1 : Int32), iv (1 : Int32), .val (.long i5), .second, .val (.long i5), .second] [(.long (y3.toInt64)), (.ref b8)])) _
          have F971 : Fld Z h965 b8 zs1 "firstBlock" "[J" (.ref b145) := (F345.keep K965 (ninS N153 nin0))
          have E972 : Exa Z h965 b8 zs1 := (E346.keep K965)
          have O973 : Old Z n0 h965 := (O347.keep K965 (allS g154 all0))
          obtain ⟨_, T970, _, X970, hQ970, st970⟩ := own_cv X965 hx hZ hown (wd hw 40 rfl) (wd hw 41 rfl) (wd hw 43 rfl) (wd hw 42 rfl) (wd hw 44 rfl) (wd hw 3 rfl) (by decide) (rm10 l Z a0 hw [] b8 y3 y2 b145 k146 y4 i5 i4 h965 n0 O973 (by rw [hy3]; exact (own_lt_rem y2 (own_nn_mask i1 (2147483647 : Int32) 31 (by decide) (by decide)) (own_pos (by rw [hy2]; exact (own_n1 i0))))) (by rw [hy2]; exact (own_n9 i0)) F971 E972 (by rw [hy3]; exact (own_nn_rem y2 (own_nn_mask i1 (2147483647 : Int32) 31 (by decide) (by decide)))) vx967 hc968) e965 E972 (g := (mkF m 222 #[iv i0, iv i1, iv i2, iv i3, .val (.long i4), .second, .val (.long i5), .second, iv y2, iv y3, iv y4, iv y5, iv y6, rv b8, iv (1 : Int32), iv (1 : Int32), .val (.long i5), .second, .val (.long i5), .second] [(.long (y3.toInt64)), (.ref b8)])) rfl (by rw [hml]; rfl) (rest := []) (W := 0) (lenOf pd_6 rfl) rfl (by show 2 * 0 + _ ≤ _; exact Nat.le_of_eq rfl) (hb hby at_222) (by decide) (by decide) (by decide) (by decide)
          obtain ⟨rfl, Nq970, hh974⟩ := hQ970
          have N970 := Fr.app N965 Nq970
          refine own_via (fun t k => st970 t (XS.lload X970.here hx rfl (hb hby at_225) rfl (XS.lcmp X970.here hx rfl (hb hby at_227) rfl (XS.ifNo X970.here hx rfl (hb hby at_228) rfl ((if0 _ _).trans (teq ((lw_eq i5 i5).mpr (rfl : i5 = i5))).2) (XS.aload X970.here hx rfl (hb hby at_231) rfl rfl (XS.iload X970.here hx rfl (hb hby at_233) rfl (XS.i2l X970.here hx rfl (hb hby at_235) rfl k))))))) ?_
          show own_Goes p e below (T970.setTop (mkF m 236 #[iv i0, iv i1, iv i2, iv i3, .val (.long i4), .second, .val (.long i5), .second, iv y2, iv y3, iv y4, iv y5, iv y6, rv b8, iv (1 : Int32), iv (1 : Int32), .val (.long i5), .second, .val (.long i5), .second] [(.long (y5.toInt64)), (.ref b8)])) _
          obtain ⟨_, T975, _, X975, hQ975, st975⟩ := own_cv X970 hx hZ hown (wd hw 40 rfl) (wd hw 41 rfl) (wd hw 43 rfl) (wd hw 42 rfl) (wd hw 44 rfl) (wd hw 3 rfl) (by decide) (rm11 l Z a0 hw [] b8 y5 y2 b145 k146 y4 i5 y3 i4 h965 n0 O973 (by rw [hy5]; exact (own_lt_rem y2 (own_nn_mask i3 (2147483647 : Int32) 31 (by decide) (by decide)) (own_pos (by rw [hy2]; exact (own_n1 i0))))) (by rw [hy2]; exact (own_n9 i0)) F971 E972 (by rw [hy5]; exact (own_nn_rem y2 (own_nn_mask i3 (2147483647 : Int32) 31 (by decide) (by decide)))) vx967 hc969) hh974 E972 (g := (mkF m 236 #[iv i0, iv i1, iv i2, iv i3, .val (.long i4), .second, .val (.long i5), .second, iv y2, iv y3, iv y4, iv y5, iv y6, rv b8, iv (1 : Int32), iv (1 : Int32), .val (.long i5), .second, .val (.long i5), .second] [(.long (y5.toInt64)), (.ref b8)])) rfl (by rw [hml]; rfl) (rest := []) (W := 0) (lenOf pd_6 rfl) rfl (by show 2 * 0 + _ ≤ _; exact Nat.le_of_eq rfl) (hb hby at_236) (by decide) (by decide) (by decide) (by decide)
          obtain ⟨rfl, Nq975, hh976⟩ := hQ975
          have N975 := Fr.app N970 Nq975
          refine own_via (fun t k => st975 t (XS.lload X975.here hx rfl (hb hby at_239) rfl (XS.lcmp X975.here hx rfl (hb hby at_241) rfl (XS.ifNo X975.here hx rfl (hb hby at_242) rfl ((if0 _ _).trans (teq ((lw_eq i5 i5).mpr (rfl : i5 = i5))).2) (XS.aload X975.here hx rfl (hb hby at_245) rfl rfl k))))) ?_
          show own_Goes p e below (T975.setTop (mkF m 247 #[iv i0, iv i1, iv i2, iv i3, .val (.long i4), .second, .val (.long i5), .second, iv y2, iv y3, iv y4, iv y5, iv y6, rv b8, iv (1 : Int32), iv (1 : Int32), .val (.long i5), .second, .val (.long i5), .second] [(.ref b8)])) _
          have F978 : Fld Z h965 b8 zs1 "length" "J" (.long (y2.toInt64)) := ((fx148.keep K157 (ninS N153 nin0)).keep K965 (ninS N153 nin0))
          obtain ⟨_, T977, _, X977, hQ977, st977⟩ := own_cv X975 hx hZ hown (wd hw 53 rfl) (wd hw 54 rfl) (wd hw 56 rfl) (wd hw 55 rfl) (wd hw 57 rfl) (wd hw 3 rfl) (by decide) (rm12 l Z a0 hw [] b8 y2 h965 n0 O973 F978) hh976 E972 (g := (mkF m 247 #[iv i0, iv i1, iv i2, iv i3, .val (.long i4), .second, .val (.long i5), .second, iv y2, iv y3, iv y4, iv y5, iv y6, rv b8, iv (1 : Int32), iv (1 : Int32), .val (.long i5), .second, .val (.long i5), .second] [(.ref b8)])) rfl (by rw [hml]; rfl) (rest := []) (W := 0) (lenOf pd_8 rfl) rfl (by show 2 * 0 + _ ≤ _; exact Nat.le_of_eq rfl) (hb hby at_247) (by decide) (by decide) (by decide) (by decide)
          obtain ⟨rfl, Nq977, hh979⟩ := hQ977
          have N977 := Fr.app N975 Nq977
          refine own_via (fun t k => st977 t (XS.iload X977.here hx rfl (hb hby at_250) rfl (XS.i2l X977.here hx rfl (hb hby at_252) rfl (XS.lcmp X977.here hx rfl (hb hby at_253) rfl (XS.ifNo X977.here hx rfl (hb hby at_254) rfl ((if0 _ _).trans (teq ((lw_eq (y2.toInt64) (y2.toInt64)).mpr (rfl : (y2.toInt64) = (y2.toInt64)))).2) (XS.iconst X977.here hx rfl (hb hby at_257) (XS.goto X977.here hx rfl (pc0 := 258) (pc' := 262) rfl (hb hby at_258) (by decide) (by decide) k))))))) ?_
          show own_Goes p e below (T977.setTop (mkF m 262 #[iv i0, iv i1, iv i2, iv i3, .val (.long i4), .second, .val (.long i5), .second, iv y2, iv y3, iv y4, iv y5, iv y6, rv b8, iv (1 : Int32), iv (1 : Int32), .val (.long i5), .second, .val (.long i5), .second] [(.int (1 : Int32))])) _
          obtain ⟨fs, hr, hrun, hended, hW, hsame⟩ := X977.leave (v := some (.int (1 : Int32))) (fun h => by rw [Bd.returns] at h; cases h)
          refine own_end (t := T977.setFrames fs) ?_ ⟨_, hrun, hended, _, _, rfl, ?_, ⟨_, rfl⟩, hW, hsame.mono (by decide) (by decide)⟩
          · exact retN X977 hx (t := .boolean) Bd.returns (by simp) (hb hby at_262) hr
          · exact ⟨rfl, N977⟩
        · refine own_via (fun t k => XS.icmpYes X965.here hx rfl (pc0 := 184) (pc' := 192) rfl (hb hby at_184) rfl (feq hc969).2 (by decide) (by decide) (XS.iload X965.here hx rfl (hb hby at_192) rfl (XS.iload X965.here hx rfl (hb hby at_194) rfl (XS.icmpYes X965.here hx rfl (pc0 := 196) (pc' := 204) rfl (hb hby at_196) rfl (feq hq401).2 (by decide) (by decide) (XS.lconst X965.here hx rfl (hb hby at_204) (XS.lstore X965.here hx rfl (hb hby at_205) rfl (l' := #[iv i0, iv i1, iv i2, iv i3, .val (.long i4), .second, .val (.long i5), .second, iv y2, iv y3, iv y4, iv y5, iv y6, rv b8, iv (1 : Int32), iv (1 : Int32), .val (.long i5), .second, .val (.long (0 : Int64)), .second]) rfl (XS.iload X965.here hx rfl (hb hby at_207) rfl (XS.ifNo X965.here hx rfl (hb hby at_209) rfl ((if0 _ _).trans (feq (by decide : ¬ ((1 : Int32) = (0 : Int32)))).1) (XS.iload X965.here hx rfl (hb hby at_212) rfl (XS.ifNo X965.here hx rfl (hb hby at_214) rfl ((if0 _ _).trans (feq (by decide : ¬ ((1 : Int32) = (0 : Int32)))).1) (XS.aload X965.here hx rfl (hb hby at_217) rfl rfl (XS.iload X965.here hx rfl (hb hby at_219) rfl k)))))))))))) ?_
          show own_Goes p e below (T965.setTop (mkF m 221 #[iv i0, iv i1, iv i2, iv i3, .val (.long i4), .second, .val (.long i5), .second, iv y2, iv y3, iv y4, iv y5, iv y6, rv b8, iv (1 : Int32), iv (1 : Int32), .val (.long i5), .second, .val (.long (0 : Int64)), .second] [(.int y3), (.ref b8)])) _
          refine own_via (fun t k => XS.i2l X965.here hx rfl (hb hby at_221) rfl k) ?_
          have F981 : Fld Z h965 b8 zs1 "firstBlock" "[J" (.ref b145) := (F345.keep K965 (ninS N153 nin0))
          have E982 : Exa Z h965 b8 zs1 := (E346.keep K965)
          have O983 : Old Z n0 h965 := (O347.keep K965 (allS g154 all0))
          obtain ⟨_, T980, _, X980, hQ980, st980⟩ := own_cv X965 hx hZ hown (wd hw 40 rfl) (wd hw 41 rfl) (wd hw 43 rfl) (wd hw 42 rfl) (wd hw 44 rfl) (wd hw 3 rfl) (by decide) (rm10 l Z a0 hw [] b8 y3 y2 b145 k146 y4 i5 i4 h965 n0 O983 (by rw [hy3]; exact (own_lt_rem y2 (own_nn_mask i1 (2147483647 : Int32) 31 (by decide) (by decide)) (own_pos (by rw [hy2]; exact (own_n1 i0))))) (by rw [hy2]; exact (own_n9 i0)) F981 E982 (by rw [hy3]; exact (own_nn_rem y2 (own_nn_mask i1 (2147483647 : Int32) 31 (by decide) (by decide)))) vx967 hc968) e965 E982 (g := (mkF m 222 #[iv i0, iv i1, iv i2, iv i3, .val (.long i4), .second, .val (.long i5), .second, iv y2, iv y3, iv y4, iv y5, iv y6, rv b8, iv (1 : Int32), iv (1 : Int32), .val (.long i5), .second, .val (.long (0 : Int64)), .second] [(.long (y3.toInt64)), (.ref b8)])) rfl (by rw [hml]; rfl) (rest := []) (W := 0) (lenOf pd_6 rfl) rfl (by show 2 * 0 + _ ≤ _; exact Nat.le_of_eq rfl) (hb hby at_222) (by decide) (by decide) (by decide) (by decide)
          obtain ⟨rfl, Nq980, hh984⟩ := hQ980
          have N980 := Fr.app N965 Nq980
          refine own_via (fun t k => st980 t (XS.lload X980.here hx rfl (hb hby at_225) rfl (XS.lcmp X980.here hx rfl (hb hby at_227) rfl (XS.ifNo X980.here hx rfl (hb hby at_228) rfl ((if0 _ _).trans (teq ((lw_eq i5 i5).mpr (rfl : i5 = i5))).2) (XS.aload X980.here hx rfl (hb hby at_231) rfl rfl (XS.iload X980.here hx rfl (hb hby at_233) rfl (XS.i2l X980.here hx rfl (hb hby at_235) rfl k))))))) ?_
          show own_Goes p e below (T980.setTop (mkF m 236 #[iv i0, iv i1, iv i2, iv i3, .val (.long i4), .second, .val (.long i5), .second, iv y2, iv y3, iv y4, iv y5, iv y6, rv b8, iv (1 : Int32), iv (1 : Int32), .val (.long i5), .second, .val (.long (0 : Int64)), .second] [(.long (y5.toInt64)), (.ref b8)])) _
          obtain ⟨_, T985, _, X985, hQ985, st985⟩ := own_cv X980 hx hZ hown (wd hw 40 rfl) (wd hw 41 rfl) (wd hw 43 rfl) (wd hw 42 rfl) (wd hw 44 rfl) (wd hw 3 rfl) (by decide) (rm15 l Z a0 hw [] b8 y5 y2 b145 k146 y4 i5 y3 i4 h965 n0 O983 (by rw [hy5]; exact (own_lt_rem y2 (own_nn_mask i3 (2147483647 : Int32) 31 (by decide) (by decide)) (own_pos (by rw [hy2]; exact (own_n1 i0))))) (by rw [hy2]; exact (own_n9 i0)) F981 E982 (by rw [hy5]; exact (own_nn_rem y2 (own_nn_mask i3 (2147483647 : Int32) 31 (by decide) (by decide)))) vx967 hc969 hq401) hh984 E982 (g := (mkF m 236 #[iv i0, iv i1, iv i2, iv i3, .val (.long i4), .second, .val (.long i5), .second, iv y2, iv y3, iv y4, iv y5, iv y6, rv b8, iv (1 : Int32), iv (1 : Int32), .val (.long i5), .second, .val (.long (0 : Int64)), .second] [(.long (y5.toInt64)), (.ref b8)])) rfl (by rw [hml]; rfl) (rest := []) (W := 0) (lenOf pd_6 rfl) rfl (by show 2 * 0 + _ ≤ _; exact Nat.le_of_eq rfl) (hb hby at_236) (by decide) (by decide) (by decide) (by decide)
          obtain ⟨rfl, Nq985, hh986⟩ := hQ985
          have N985 := Fr.app N980 Nq985
          refine own_via (fun t k => st985 t (XS.lload X985.here hx rfl (hb hby at_239) rfl (XS.lcmp X985.here hx rfl (hb hby at_241) rfl (XS.ifNo X985.here hx rfl (hb hby at_242) rfl ((if0 _ _).trans (teq (by decide : (0 : Int32) = (0 : Int32))).2) (XS.aload X985.here hx rfl (hb hby at_245) rfl rfl k))))) ?_
          show own_Goes p e below (T985.setTop (mkF m 247 #[iv i0, iv i1, iv i2, iv i3, .val (.long i4), .second, .val (.long i5), .second, iv y2, iv y3, iv y4, iv y5, iv y6, rv b8, iv (1 : Int32), iv (1 : Int32), .val (.long i5), .second, .val (.long (0 : Int64)), .second] [(.ref b8)])) _
          have F988 : Fld Z h965 b8 zs1 "length" "J" (.long (y2.toInt64)) := ((fx148.keep K157 (ninS N153 nin0)).keep K965 (ninS N153 nin0))
          obtain ⟨_, T987, _, X987, hQ987, st987⟩ := own_cv X985 hx hZ hown (wd hw 53 rfl) (wd hw 54 rfl) (wd hw 56 rfl) (wd hw 55 rfl) (wd hw 57 rfl) (wd hw 3 rfl) (by decide) (rm12 l Z a0 hw [] b8 y2 h965 n0 O983 F988) hh986 E982 (g := (mkF m 247 #[iv i0, iv i1, iv i2, iv i3, .val (.long i4), .second, .val (.long i5), .second, iv y2, iv y3, iv y4, iv y5, iv y6, rv b8, iv (1 : Int32), iv (1 : Int32), .val (.long i5), .second, .val (.long (0 : Int64)), .second] [(.ref b8)])) rfl (by rw [hml]; rfl) (rest := []) (W := 0) (lenOf pd_8 rfl) rfl (by show 2 * 0 + _ ≤ _; exact Nat.le_of_eq rfl) (hb hby at_247) (by decide) (by decide) (by decide) (by decide)
          obtain ⟨rfl, Nq987, hh989⟩ := hQ987
          have N987 := Fr.app N985 Nq987
          refine own_via (fun t k => st987 t (XS.iload X987.here hx rfl (hb hby at_250) rfl (XS.i2l X987.here hx rfl (hb hby at_252) rfl (XS.lcmp X987.here hx rfl (hb hby at_253) rfl (XS.ifNo X987.here hx rfl (hb hby at_254) rfl ((if0 _ _).trans (teq ((lw_eq (y2.toInt64) (y2.toInt64)).mpr (rfl : (y2.toInt64) = (y2.toInt64)))).2) (XS.iconst X987.here hx rfl (hb hby at_257) (XS.goto X987.here hx rfl (pc0 := 258) (pc' := 262) rfl (hb hby at_258) (by decide) (by decide) k))))))) ?_
          show own_Goes p e below (T987.setTop (mkF m 262 #[iv i0, iv i1, iv i2, iv i3, .val (.long i4), .second, .val (.long i5), .second, iv y2, iv y3, iv y4, iv y5, iv y6, rv b8, iv (1 : Int32), iv (1 : Int32), .val (.long i5), .second, .val (.long (0 : Int64)), .second] [(.int (1 : Int32))])) _
          obtain ⟨fs, hr, hrun, hended, hW, hsame⟩ := X987.leave (v := some (.int (1 : Int32))) (fun h => by rw [Bd.returns] at h; cases h)
          refine own_end (t := T987.setFrames fs) ?_ ⟨_, hrun, hended, _, _, rfl, ?_, ⟨_, rfl⟩, hW, hsame.mono (by decide) (by decide)⟩
          · exact retN X987 hx (t := .boolean) Bd.returns (by simp) (hb hby at_262) hr
          · exact ⟨rfl, N987⟩
      · refine own_via (fun t k => XS.icmpYes X965.here hx rfl (pc0 := 168) (pc' := 176) rfl (hb hby at_168) rfl (feq hc968).2 (by decide) (by decide) (XS.lload X965.here hx rfl (hb hby at_176) rfl (XS.lstore X965.here hx rfl (hb hby at_178) rfl (l' := #[iv i0, iv i1, iv i2, iv i3, .val (.long i4), .second, .val (.long i5), .second, iv y2, iv y3, iv y4, iv y5, iv y6, rv b8, iv (1 : Int32), iv (1 : Int32), .val (.long i4), .second, .unset, .unset]) rfl (XS.iload X965.here hx rfl (hb hby at_180) rfl (XS.iload X965.here hx rfl (hb hby at_182) rfl k))))) ?_
        show own_Goes p e below (T965.setTop (mkF m 184 #[iv i0, iv i1, iv i2, iv i3, .val (.long i4), .second, .val (.long i5), .second, iv y2, iv y3, iv y4, iv y5, iv y6, rv b8, iv (1 : Int32), iv (1 : Int32), .val (.long i4), .second, .unset, .unset] [(.int y4), (.int y5)])) _
        by_cases hc990 : y5 = y4
        · refine own_via (fun t k => XS.icmpNo X965.here hx rfl (hb hby at_184) rfl (teq hc990).2 (XS.lload X965.here hx rfl (hb hby at_187) rfl (XS.goto X965.here hx rfl (pc0 := 189) (pc' := 205) rfl (hb hby at_189) (by decide) (by decide) (XS.lstore X965.here hx rfl (hb hby at_205) rfl (l' := #[iv i0, iv i1, iv i2, iv i3, .val (.long i4), .second, .val (.long i5), .second, iv y2, iv y3, iv y4, iv y5, iv y6, rv b8, iv (1 : Int32), iv (1 : Int32), .val (.long i4), .second, .val (.long i5), .second]) rfl (XS.iload X965.here hx rfl (hb hby at_207) rfl (XS.ifNo X965.here hx rfl (hb hby at_209) rfl ((if0 _ _).trans (feq (by decide : ¬ ((1 : Int32) = (0 : Int32)))).1) (XS.iload X965.here hx rfl (hb hby at_212) rfl (XS.ifNo X965.here hx rfl (hb hby at_214) rfl ((if0 _ _).trans (feq (by decide : ¬ ((1 : Int32) = (0 : Int32)))).1) (XS.aload X965.here hx rfl (hb hby at_217) rfl rfl (XS.iload X965.here hx rfl (hb hby at_219) rfl (XS.i2l X965.here hx rfl (hb hby at_221) rfl k))))))))))) ?_
          show own_Goes p e below (T965.setTop (mkF m 222 #[iv i0, iv i1, iv i2, iv i3, .val (.long i4), .second, .val (.long i5), .second, iv y2, iv y3, iv y4, iv y5, iv y6, rv b8, iv (1 : Int32), iv (1 : Int32), .val (.long i4), .second, .val (.long i5), .second] [(.long (y3.toInt64)), (.ref b8)])) _
          have F992 : Fld Z h965 b8 zs1 "firstBlock" "[J" (.ref b145) := (F345.keep K965 (ninS N153 nin0))
          have E993 : Exa Z h965 b8 zs1 := (E346.keep K965)
          have O994 : Old Z n0 h965 := (O347.keep K965 (allS g154 all0))
          obtain ⟨_, T991, _, X991, hQ991, st991⟩ := own_cv X965 hx hZ hown (wd hw 40 rfl) (wd hw 41 rfl) (wd hw 43 rfl) (wd hw 42 rfl) (wd hw 44 rfl) (wd hw 3 rfl) (by decide) (rm14 l Z a0 hw [] b8 y3 y2 b145 k146 y4 i5 i4 h965 n0 O994 (by rw [hy3]; exact (own_lt_rem y2 (own_nn_mask i1 (2147483647 : Int32) 31 (by decide) (by decide)) (own_pos (by rw [hy2]; exact (own_n1 i0))))) (by rw [hy2]; exact (own_n9 i0)) F992 E993 (by rw [hy3]; exact (own_nn_rem y2 (own_nn_mask i1 (2147483647 : Int32) 31 (by decide) (by decide)))) vx967 hc968) e965 E993 (g := (mkF m 222 #[iv i0, iv i1, iv i2, iv i3, .val (.long i4), .second, .val (.long i5), .second, iv y2, iv y3, iv y4, iv y5, iv y6, rv b8, iv (1 : Int32), iv (1 : Int32), .val (.long i4), .second, .val (.long i5), .second] [(.long (y3.toInt64)), (.ref b8)])) rfl (by rw [hml]; rfl) (rest := []) (W := 0) (lenOf pd_6 rfl) rfl (by show 2 * 0 + _ ≤ _; exact Nat.le_of_eq rfl) (hb hby at_222) (by decide) (by decide) (by decide) (by decide)
          obtain ⟨rfl, Nq991, hh995⟩ := hQ991
          have N991 := Fr.app N965 Nq991
          refine own_via (fun t k => st991 t (XS.lload X991.here hx rfl (hb hby at_225) rfl (XS.lcmp X991.here hx rfl (hb hby at_227) rfl (XS.ifNo X991.here hx rfl (hb hby at_228) rfl ((if0 _ _).trans (teq ((lw_eq i4 i4).mpr (rfl : i4 = i4))).2) (XS.aload X991.here hx rfl (hb hby at_231) rfl rfl (XS.iload X991.here hx rfl (hb hby at_233) rfl (XS.i2l X991.here hx rfl (hb hby at_235) rfl k))))))) ?_
          show own_Goes p e below (T991.setTop (mkF m 236 #[iv i0, iv i1, iv i2, iv i3, .val (.long i4), .second, .val (.long i5), .second, iv y2, iv y3, iv y4, iv y5, iv y6, rv b8, iv (1 : Int32), iv (1 : Int32), .val (.long i4), .second, .val (.long i5), .second] [(.long (y5.toInt64)), (.ref b8)])) _
          obtain ⟨_, T996, _, X996, hQ996, st996⟩ := own_cv X991 hx hZ hown (wd hw 40 rfl) (wd hw 41 rfl) (wd hw 43 rfl) (wd hw 42 rfl) (wd hw 44 rfl) (wd hw 3 rfl) (by decide) (rm11 l Z a0 hw [] b8 y5 y2 b145 k146 y4 i5 y3 i4 h965 n0 O994 (by rw [hy5]; exact (own_lt_rem y2 (own_nn_mask i3 (2147483647 : Int32) 31 (by decide) (by decide)) (own_pos (by rw [hy2]; exact (own_n1 i0))))) (by rw [hy2]; exact (own_n9 i0)) F992 E993 (by rw [hy5]; exact (own_nn_rem y2 (own_nn_mask i3 (2147483647 : Int32) 31 (by decide) (by decide)))) vx967 hc990) hh995 E993 (g := (mkF m 236 #[iv i0, iv i1, iv i2, iv i3, .val (.long i4), .second, .val (.long i5), .second, iv y2, iv y3, iv y4, iv y5, iv y6, rv b8, iv (1 : Int32), iv (1 : Int32), .val (.long i4), .second, .val (.long i5), .second] [(.long (y5.toInt64)), (.ref b8)])) rfl (by rw [hml]; rfl) (rest := []) (W := 0) (lenOf pd_6 rfl) rfl (by show 2 * 0 + _ ≤ _; exact Nat.le_of_eq rfl) (hb hby at_236) (by decide) (by decide) (by decide) (by decide)
          obtain ⟨rfl, Nq996, hh997⟩ := hQ996
          have N996 := Fr.app N991 Nq996
          refine own_via (fun t k => st996 t (XS.lload X996.here hx rfl (hb hby at_239) rfl (XS.lcmp X996.here hx rfl (hb hby at_241) rfl (XS.ifNo X996.here hx rfl (hb hby at_242) rfl ((if0 _ _).trans (teq ((lw_eq i5 i5).mpr (rfl : i5 = i5))).2) (XS.aload X996.here hx rfl (hb hby at_245) rfl rfl k))))) ?_
          show own_Goes p e below (T996.setTop (mkF m 247 #[iv i0, iv i1, iv i2, iv i3, .val (.long i4), .second, .val (.long i5), .second, iv y2, iv y3, iv y4, iv y5, iv y6, rv b8, iv (1 : Int32), iv (1 : Int32), .val (.long i4), .second, .val (.long i5), .second] [(.ref b8)])) _
          have F999 : Fld Z h965 b8 zs1 "length" "J" (.long (y2.toInt64)) := ((fx148.keep K157 (ninS N153 nin0)).keep K965 (ninS N153 nin0))
          obtain ⟨_, T998, _, X998, hQ998, st998⟩ := own_cv X996 hx hZ hown (wd hw 53 rfl) (wd hw 54 rfl) (wd hw 56 rfl) (wd hw 55 rfl) (wd hw 57 rfl) (wd hw 3 rfl) (by decide) (rm12 l Z a0 hw [] b8 y2 h965 n0 O994 F999) hh997 E993 (g := (mkF m 247 #[iv i0, iv i1, iv i2, iv i3, .val (.long i4), .second, .val (.long i5), .second, iv y2, iv y3, iv y4, iv y5, iv y6, rv b8, iv (1 : Int32), iv (1 : Int32), .val (.long i4), .second, .val (.long i5), .second] [(.ref b8)])) rfl (by rw [hml]; rfl) (rest := []) (W := 0) (lenOf pd_8 rfl) rfl (by show 2 * 0 + _ ≤ _; exact Nat.le_of_eq rfl) (hb hby at_247) (by decide) (by decide) (by decide) (by decide)
          obtain ⟨rfl, Nq998, hh1000⟩ := hQ998
          have N998 := Fr.app N996 Nq998
          refine own_via (fun t k => st998 t (XS.iload X998.here hx rfl (hb hby at_250) rfl (XS.i2l X998.here hx rfl (hb hby at_252) rfl (XS.lcmp X998.here hx rfl (hb hby at_253) rfl (XS.ifNo X998.here hx rfl (hb hby at_254) rfl ((if0 _ _).trans (teq ((lw_eq (y2.toInt64) (y2.toInt64)).mpr (rfl : (y2.toInt64) = (y2.toInt64)))).2) (XS.iconst X998.here hx rfl (hb hby at_257) (XS.goto X998.here hx rfl (pc0 := 258) (pc' := 262) rfl (hb hby at_258) (by decide) (by decide) k))))))) ?_
          show own_Goes p e below (T998.setTop (mkF m 262 #[iv i0, iv i1, iv i2, iv i3, .val (.long i4), .second, .val (.long i5), .second, iv y2, iv y3, iv y4, iv y5, iv y6, rv b8, iv (1 : Int32), iv (1 : Int32), .val (.long i4), .second, .val (.long i5), .second] [(.int (1 : Int32))])) _
          obtain ⟨fs, hr, hrun, hended, hW, hsame⟩ := X998.leave (v := some (.int (1 : Int32))) (fun h => by rw [Bd.returns] at h; cases h)
          refine own_end (t := T998.setFrames fs) ?_ ⟨_, hrun, hended, _, _, rfl, ?_, ⟨_, rfl⟩, hW, hsame.mono (by decide) (by decide)⟩
          · exact retN X998 hx (t := .boolean) Bd.returns (by simp) (hb hby at_262) hr
          · exact ⟨rfl, N998⟩
        · refine own_via (fun t k => XS.icmpYes X965.here hx rfl (pc0 := 184) (pc' := 192) rfl (hb hby at_184) rfl (feq hc990).2 (by decide) (by decide) (XS.iload X965.here hx rfl (hb hby at_192) rfl (XS.iload X965.here hx rfl (hb hby at_194) rfl (XS.icmpYes X965.here hx rfl (pc0 := 196) (pc' := 204) rfl (hb hby at_196) rfl (feq hq401).2 (by decide) (by decide) (XS.lconst X965.here hx rfl (hb hby at_204) (XS.lstore X965.here hx rfl (hb hby at_205) rfl (l' := #[iv i0, iv i1, iv i2, iv i3, .val (.long i4), .second, .val (.long i5), .second, iv y2, iv y3, iv y4, iv y5, iv y6, rv b8, iv (1 : Int32), iv (1 : Int32), .val (.long i4), .second, .val (.long (0 : Int64)), .second]) rfl (XS.iload X965.here hx rfl (hb hby at_207) rfl (XS.ifNo X965.here hx rfl (hb hby at_209) rfl ((if0 _ _).trans (feq (by decide : ¬ ((1 : Int32) = (0 : Int32)))).1) (XS.iload X965.here hx rfl (hb hby at_212) rfl (XS.ifNo X965.here hx rfl (hb hby at_214) rfl ((if0 _ _).trans (feq (by decide : ¬ ((1 : Int32) = (0 : Int32)))).1) (XS.aload X965.here hx rfl (hb hby at_217) rfl rfl (XS.iload X965.here hx rfl (hb hby at_219) rfl k)))))))))))) ?_
          show own_Goes p e below (T965.setTop (mkF m 221 #[iv i0, iv i1, iv i2, iv i3, .val (.long i4), .second, .val (.long i5), .second, iv y2, iv y3, iv y4, iv y5, iv y6, rv b8, iv (1 : Int32), iv (1 : Int32), .val (.long i4), .second, .val (.long (0 : Int64)), .second] [(.int y3), (.ref b8)])) _
          refine own_via (fun t k => XS.i2l X965.here hx rfl (hb hby at_221) rfl k) ?_
          have F1002 : Fld Z h965 b8 zs1 "firstBlock" "[J" (.ref b145) := (F345.keep K965 (ninS N153 nin0))
          have E1003 : Exa Z h965 b8 zs1 := (E346.keep K965)
          have O1004 : Old Z n0 h965 := (O347.keep K965 (allS g154 all0))
          obtain ⟨_, T1001, _, X1001, hQ1001, st1001⟩ := own_cv X965 hx hZ hown (wd hw 40 rfl) (wd hw 41 rfl) (wd hw 43 rfl) (wd hw 42 rfl) (wd hw 44 rfl) (wd hw 3 rfl) (by decide) (rm14 l Z a0 hw [] b8 y3 y2 b145 k146 y4 i5 i4 h965 n0 O1004 (by rw [hy3]; exact (own_lt_rem y2 (own_nn_mask i1 (2147483647 : Int32) 31 (by decide) (by decide)) (own_pos (by rw [hy2]; exact (own_n1 i0))))) (by rw [hy2]; exact (own_n9 i0)) F1002 E1003 (by rw [hy3]; exact (own_nn_rem y2 (own_nn_mask i1 (2147483647 : Int32) 31 (by decide) (by decide)))) vx967 hc968) e965 E1003 (g := (mkF m 222 #[iv i0, iv i1, iv i2, iv i3, .val (.long i4), .second, .val (.long i5), .second, iv y2, iv y3, iv y4, iv y5, iv y6, rv b8, iv (1 : Int32), iv (1 : Int32), .val (.long i4), .second, .val (.long (0 : Int64)), .second] [(.long (y3.toInt64)), (.ref b8)])) rfl (by rw [hml]; rfl) (rest := []) (W := 0) (lenOf pd_6 rfl) rfl (by show 2 * 0 + _ ≤ _; exact Nat.le_of_eq rfl) (hb hby at_222) (by decide) (by decide) (by decide) (by decide)
          obtain ⟨rfl, Nq1001, hh1005⟩ := hQ1001
          have N1001 := Fr.app N965 Nq1001
          refine own_via (fun t k => st1001 t (XS.lload X1001.here hx rfl (hb hby at_225) rfl (XS.lcmp X1001.here hx rfl (hb hby at_227) rfl (XS.ifNo X1001.here hx rfl (hb hby at_228) rfl ((if0 _ _).trans (teq ((lw_eq i4 i4).mpr (rfl : i4 = i4))).2) (XS.aload X1001.here hx rfl (hb hby at_231) rfl rfl (XS.iload X1001.here hx rfl (hb hby at_233) rfl (XS.i2l X1001.here hx rfl (hb hby at_235) rfl k))))))) ?_
          show own_Goes p e below (T1001.setTop (mkF m 236 #[iv i0, iv i1, iv i2, iv i3, .val (.long i4), .second, .val (.long i5), .second, iv y2, iv y3, iv y4, iv y5, iv y6, rv b8, iv (1 : Int32), iv (1 : Int32), .val (.long i4), .second, .val (.long (0 : Int64)), .second] [(.long (y5.toInt64)), (.ref b8)])) _
          obtain ⟨_, T1006, _, X1006, hQ1006, st1006⟩ := own_cv X1001 hx hZ hown (wd hw 40 rfl) (wd hw 41 rfl) (wd hw 43 rfl) (wd hw 42 rfl) (wd hw 44 rfl) (wd hw 3 rfl) (by decide) (rm15 l Z a0 hw [] b8 y5 y2 b145 k146 y4 i5 y3 i4 h965 n0 O1004 (by rw [hy5]; exact (own_lt_rem y2 (own_nn_mask i3 (2147483647 : Int32) 31 (by decide) (by decide)) (own_pos (by rw [hy2]; exact (own_n1 i0))))) (by rw [hy2]; exact (own_n9 i0)) F1002 E1003 (by rw [hy5]; exact (own_nn_rem y2 (own_nn_mask i3 (2147483647 : Int32) 31 (by decide) (by decide)))) vx967 hc990 hq401) hh1005 E1003 (g := (mkF m 236 #[iv i0, iv i1, iv i2, iv i3, .val (.long i4), .second, .val (.long i5), .second, iv y2, iv y3, iv y4, iv y5, iv y6, rv b8, iv (1 : Int32), iv (1 : Int32), .val (.long i4), .second, .val (.long (0 : Int64)), .second] [(.long (y5.toInt64)), (.ref b8)])) rfl (by rw [hml]; rfl) (rest := []) (W := 0) (lenOf pd_6 rfl) rfl (by show 2 * 0 + _ ≤ _; exact Nat.le_of_eq rfl) (hb hby at_236) (by decide) (by decide) (by decide) (by decide)
          obtain ⟨rfl, Nq1006, hh1007⟩ := hQ1006
          have N1006 := Fr.app N1001 Nq1006
          refine own_via (fun t k => st1006 t (XS.lload X1006.here hx rfl (hb hby at_239) rfl (XS.lcmp X1006.here hx rfl (hb hby at_241) rfl (XS.ifNo X1006.here hx rfl (hb hby at_242) rfl ((if0 _ _).trans (teq (by decide : (0 : Int32) = (0 : Int32))).2) (XS.aload X1006.here hx rfl (hb hby at_245) rfl rfl k))))) ?_
          show own_Goes p e below (T1006.setTop (mkF m 247 #[iv i0, iv i1, iv i2, iv i3, .val (.long i4), .second, .val (.long i5), .second, iv y2, iv y3, iv y4, iv y5, iv y6, rv b8, iv (1 : Int32), iv (1 : Int32), .val (.long i4), .second, .val (.long (0 : Int64)), .second] [(.ref b8)])) _
          have F1009 : Fld Z h965 b8 zs1 "length" "J" (.long (y2.toInt64)) := ((fx148.keep K157 (ninS N153 nin0)).keep K965 (ninS N153 nin0))
          obtain ⟨_, T1008, _, X1008, hQ1008, st1008⟩ := own_cv X1006 hx hZ hown (wd hw 53 rfl) (wd hw 54 rfl) (wd hw 56 rfl) (wd hw 55 rfl) (wd hw 57 rfl) (wd hw 3 rfl) (by decide) (rm12 l Z a0 hw [] b8 y2 h965 n0 O1004 F1009) hh1007 E1003 (g := (mkF m 247 #[iv i0, iv i1, iv i2, iv i3, .val (.long i4), .second, .val (.long i5), .second, iv y2, iv y3, iv y4, iv y5, iv y6, rv b8, iv (1 : Int32), iv (1 : Int32), .val (.long i4), .second, .val (.long (0 : Int64)), .second] [(.ref b8)])) rfl (by rw [hml]; rfl) (rest := []) (W := 0) (lenOf pd_8 rfl) rfl (by show 2 * 0 + _ ≤ _; exact Nat.le_of_eq rfl) (hb hby at_247) (by decide) (by decide) (by decide) (by decide)
          obtain ⟨rfl, Nq1008, hh1010⟩ := hQ1008
          have N1008 := Fr.app N1006 Nq1008
          refine own_via (fun t k => st1008 t (XS.iload X1008.here hx rfl (hb hby at_250) rfl (XS.i2l X1008.here hx rfl (hb hby at_252) rfl (XS.lcmp X1008.here hx rfl (hb hby at_253) rfl (XS.ifNo X1008.here hx rfl (hb hby at_254) rfl ((if0 _ _).trans (teq ((lw_eq (y2.toInt64) (y2.toInt64)).mpr (rfl : (y2.toInt64) = (y2.toInt64)))).2) (XS.iconst X1008.here hx rfl (hb hby at_257) (XS.goto X1008.here hx rfl (pc0 := 258) (pc' := 262) rfl (hb hby at_258) (by decide) (by decide) k))))))) ?_
          show own_Goes p e below (T1008.setTop (mkF m 262 #[iv i0, iv i1, iv i2, iv i3, .val (.long i4), .second, .val (.long i5), .second, iv y2, iv y3, iv y4, iv y5, iv y6, rv b8, iv (1 : Int32), iv (1 : Int32), .val (.long i4), .second, .val (.long (0 : Int64)), .second] [(.int (1 : Int32))])) _
          obtain ⟨fs, hr, hrun, hended, hW, hsame⟩ := X1008.leave (v := some (.int (1 : Int32))) (fun h => by rw [Bd.returns] at h; cases h)
          refine own_end (t := T1008.setFrames fs) ?_ ⟨_, hrun, hended, _, _, rfl, ?_, ⟨_, rfl⟩, hW, hsame.mono (by decide) (by decide)⟩
          · exact retN X1008 hx (t := .boolean) Bd.returns (by simp) (hb hby at_262) hr
          · exact ⟨rfl, N1008⟩
set_option maxRecDepth 65536 in
set_option maxHeartbeats 40000000 in
theorem comes_1 {Post : Tables → Env → Array Value → State → Outcome → State → Prop} (hpost : ∀ tb e args s v u, (limb_1_1.after args s (.returned v) u = true ∧ limb_1_2.after args s (.returned v) u = true ∧ True) → FrameEnd s (.returned v) u (Jvm.fieldLocs frame_1_writes args s ++ Jvm.arrayLocs frame_1_arrays args s ++ Jvm.staticLocs frame_1_statics s) 16 128 → Post tb e args s (.returned v) u) :
    ArmFor flags0 classFile x code maxLocals ret World_1 tables_1 room_1 Calls_1 rest_1 Pre_1 Post := by
  intro l hfl _ _ p e ha hc hk s m args below hf hA hF happ hP
  obtain ⟨hcalls, hrest, hpre⟩ := hP
  obtain ⟨-, -, -, hnamed, -, -, -, hat⟩ := (Spec.applies_iff hf).mp happ
  obtain ⟨hg, hn⟩ := and_e (Cond.before_iff.mp (show (Jvm.Cond.and given_1 narrow_1).before args s = true from hpre))
  obtain ⟨g1011, g1012⟩ := and_e hg
  obtain ⟨g1013, g1014⟩ := and_e g1012
  obtain ⟨g1015, g1016⟩ := and_e g1014
  obtain ⟨g1017, g1018⟩ := and_e g1016
  obtain ⟨g1019, g1020⟩ := and_e g1018
  obtain ⟨g1021, g1022⟩ := and_e g1020
  obtain ⟨w0, w1, w2, w3, w4, w5, rfl⟩ : ∃ w0 w1 w2 w3 w4 w5 : Value, args = #[w0, w1, w2, w3, w4, w5] := by
    have hs : args.size = 6 := by simpa [Cond.value, given_1] using g1011
    obtain ⟨L⟩ := args
    match L, hs with
    | [w0, w1, w2, w3, w4, w5], _ => exact ⟨w0, w1, w2, w3, w4, w5, rfl⟩
  have hw := fun d (hd : d ∈ tables_1) => atoms_spec (ws := Jvm.Cond.code x code maxLocals ret :: tables_1) hat d (List.mem_cons_of_mem _ hd)
  have hfit : Fit s := fun {y c} hc i hi => by
    obtain ⟨ha, rfl⟩ := Array.getElem?_eq_some_iff.mp hc
    have q := List.all_eq_true.mp ((Array.all_eq_true_iff_forall_mem.mp hF) _ (Array.getElem_mem ha)) i (List.mem_range.mpr hi)
    simpa [Array.getElem?_eq_getElem hi] using q
  have ev1 := Cond.eq_int (show (Jvm.Cond.eq _ _).holds _ _ _ _ _ = true from Cond.before_iff.mpr hn) rfl
  have S_WordArray_BLOCK_SHIFT : Sta s s.heap zs1 "BLOCK_SHIFT" "I" (.int (27 : Int32)) := Sta.start ev1 (Or.inr ⟨(wd hw 3 rfl), (wd hw 14 rfl)⟩)
  obtain ⟨i0, ei0⟩ := is_v g1013
  obtain rfl : w0 = (.int i0) := Option.some.inj ei0
  obtain ⟨i1, ei1⟩ := is_v g1015
  obtain rfl : w1 = (.int i1) := Option.some.inj ei1
  obtain ⟨i2, ei2⟩ := is_v g1017
  obtain rfl : w2 = (.int i2) := Option.some.inj ei2
  obtain ⟨i3, ei3⟩ := is_v g1019
  obtain rfl : w3 = (.int i3) := Option.some.inj ei3
  obtain ⟨i4, ei4⟩ := isL_v g1021
  obtain rfl : w4 = (.long i4) := Option.some.inj ei4
  obtain ⟨i5, ei5⟩ := isL_v g1022
  obtain rfl : w5 = (.long i5) := Option.some.inj ei5
  obtain ⟨n, o, h1, h2, h3, _, L, rfl, ⟨rfl, N⟩, hq⟩ := rm0 l s _ hw tables_1 i0 i1 i2 i3 i4 i5 s.heap s.heap.size (Old.start s) S_WordArray_BLOCK_SHIFT p e ha hc hk s m _ below hf ((Spec.applies_iff_loose hf).mp happ).1 ⟨rfl, State.Warmed39.refl s, rfl⟩ trivial
  refine ⟨n, _, h1, h2, h3, hpost _ _ _ _ _ _ ⟨Cond.after_iff.mpr rfl, Cond.after_iff.mpr (eq_i res_at (Term.int_eval (1)) rfl), trivial⟩ ⟨hq.1, hq.2.1, (hq.2.2.sift fun y hy => Or.inr (N y hy)).mono (by decide) (by decide)⟩⟩
theorem main_1_1 : Claimed_1_1 := comes_1 fun _ _ _ _ _ _ h hF => ⟨h.1, hF⟩
theorem main_1_2 : Claimed_1_2 := comes_1 fun _ _ _ _ _ _ h hF => ⟨h.2.1, hF⟩
end Jvm.Pilot.@@N@@
namespace Jvm.Pilot.@@N@@
open Jvm Jvm.ClassFile Sem Op Lib Jvm.Free Jvm.Stand Jvm.Pilot.@@N@@.Jvm.D
/-! MADE BY PROGRAM (witnessworld.py) out of the Statement's table words and the real class files: 12 classes; the members and pool entries that the words name. The judged class is class 1, her method 1. -/
namespace start1
open Jvm.ClassFile
def u (s : String) : CpInfo := .utf8 (stringToUtf16 s)
/-- a pool by its gaps: so many unusable entries, then the entry; so many at the end -/
def gap : Nat → List CpInfo → List CpInfo
  | 0, r => r
  | n + 1, r => .unusable :: gap n r
def poolList (es : List (Nat × CpInfo)) (last : Nat) : List CpInfo := es.foldr (fun e r => gap e.1 (e.2 :: r)) (gap last [])
def pool (es : List (Nat × CpInfo)) (last : Nat) : Array CpInfo := ⟨poolList es last⟩
def fileOf (pool : Array CpInfo) (this : Nat) (attrs : Array Attribute := #[]) (ms : Array MethodInfo := #[]) (fl : Nat := 33) (sup : Nat := 0) (ifs : Array Nat := #[]) (fds : Array FieldInfo := #[]) : ClassFile where
  minorVersion := 0
  majorVersion := 65
  constantPool := pool
  accessFlags := fl
  thisClass := this
  superClass := sup
  interfaces := ifs
  fields := fds
  methods := ms
  attributes := attrs
def plain (name : String) (sup : Option ClassId) : Class where
  name := name
  kind := .ordinary
  loader := none
  accessFlags := 33
  super := sup
  interfaces := #[]
  cf := none
  fields := #[]
  methods := #[]
  instanceTypes := #[]
  staticTypes := #[]
  resolved := #[]
  callSites := []
  init := .initialized
  statics := none
  mirror := none

def pool0 : Array CpInfo := pool [(5, u "<init>"), (0, u "()V"), (1, .class_ 10), (1, u "java/lang/Object")] 113

def k0c0 : Code := { maxStack := 0, maxLocals := 1, code := object_method_1_code, exceptionTable := #[], attributes := #[] }
def k0m0 : Method := { name := "<init>", desc := "()V", sig := { parameters := [], returnType := none }, accessFlags := 1, code := some k0c0 }
/-- java/lang/Object -/
def k0 : Class := { plain "java/lang/Object" none with
  accessFlags := 33
  interfaces := #[]
  cf := some (fileOf pool0 8 #[] #[{ accessFlags := 1, nameIndex := 5, descriptorIndex := 6, attributes := #[] }] 33 0 #[] #[])
  fields := #[]
  methods := #[k0m0]
  instanceTypes := #[]
  staticTypes := #[]
  resolved := Array.replicate 124 none
  statics := none }

def pool1 : Array CpInfo := pool [(2, .class_ 4), (1, u "java/lang/Object"), (0, u "<init>"), (0, u "()V"), (0, .integer 2147483647), (0, .class_ 9), (0, u "com/example/tuccia/tuccia/WordArray"), (0, .methodref 8 11), (0, .nameAndType 5 12), (0, u "(J)V"), (0, .methodref 8 14), (0, .nameAndType 15 16), (0, u "set"), (0, u "(JJ)V"), (0, .methodref 8 18), (0, .nameAndType 19 20), (0, u "get"), (0, u "(J)J"), (0, .long 64), (1, .methodref 8 24), (0, .nameAndType 25 26), (0, u "getBit"), (0, u "(J)Z"), (0, .methodref 8 28), (0, .nameAndType 29 30), (0, u "length"), (0, u "()J"), (0, .class_ 32), (0, u "com/example/tuccia/tuccia/WordArraySetPinLaw"), (2, u "law"), (0, u "(IIIIJJ)Z")] 3

def k1m0 : Method := { name := "<init>", desc := "()V", sig := { parameters := [], returnType := none }, accessFlags := 1, code := none }
def k1c1 : Code := { maxStack := 5, maxLocals := 20, code := code, exceptionTable := #[], attributes := #[] }
def k1m1 : Method := { name := "law", desc := "(IIIIJJ)Z", sig := { parameters := [.int, .int, .int, .int, .long, .long], returnType := some .boolean }, accessFlags := 9, code := some k1c1 }
/-- com/example/tuccia/tuccia/WordArraySetPinLaw -/
def k1 : Class := { plain "com/example/tuccia/tuccia/WordArraySetPinLaw" (some 0) with
  accessFlags := 49
  interfaces := #[]
  cf := some (fileOf pool1 31 #[] #[{ accessFlags := 1, nameIndex := 5, descriptorIndex := 6, attributes := #[] }, { accessFlags := 9, nameIndex := 35, descriptorIndex := 36, attributes := #[] }] 49 2 #[] #[])
  fields := #[]
  methods := #[k1m0, k1m1]
  instanceTypes := #[]
  staticTypes := #[]
  resolved := Array.replicate 40 none
  statics := none }

def pool2 : Array CpInfo := pool [(1, .class_ 2), (0, u "com/example/tuccia/tuccia/WordArray"), (0, .methodref 4 5), (0, .class_ 6), (0, .nameAndType 7 8), (0, u "java/lang/Object"), (0, u "<init>"), (0, u "()V"), (0, .fieldref 1 10), (0, .nameAndType 11 12), (0, u "length"), (0, u "J"), (0, .long 134217727), (1, .fieldref 1 16), (0, .nameAndType 17 18), (0, u "BLOCK_SHIFT"), (0, u "I"), (0, .class_ 20), (0, u "[J"), (0, .fieldref 1 22), (0, .nameAndType 23 24), (0, u "blocks"), (0, u "[[J"), (0, .long 134217728), (1, .methodref 28 29), (0, .class_ 30), (0, .nameAndType 31 32), (0, u "java/lang/Math"), (0, u "min"), (0, u "(JJ)J"), (0, .fieldref 1 34), (0, .nameAndType 35 20), (0, u "firstBlock"), (0, .methodref 1 37), (0, .nameAndType 38 39), (0, u "blockOf"), (0, u "(J)[J"), (0, .methodref 1 41), (0, .nameAndType 42 43), (0, u "inBlock"), (0, u "(J)I"), (2, .long 64), (1, .methodref 1 49), (0, .nameAndType 50 51), (0, u "get"), (0, u "(J)J"), (7, u "set"), (0, u "(JJ)V"), (3, u "BLOCK_WORDS"), (1, u "IN_BLOCK"), (0, u "(J)V"), (3, u "()J"), (0, u "getBit"), (0, u "(J)Z")] 10

def k2c0 : Code := { maxStack := 6, maxLocals := 6, code := prog_20_method_1_code, exceptionTable := #[], attributes := #[] }
def k2m0 : Method := { name := "<init>", desc := "(J)V", sig := { parameters := [.long], returnType := none }, accessFlags := 0, code := some k2c0 }
def k2c1 : Code := { maxStack := 2, maxLocals := 1, code := prog_20_method_2_code, exceptionTable := #[], attributes := #[] }
def k2m1 : Method := { name := "length", desc := "()J", sig := { parameters := [], returnType := some .long }, accessFlags := 0, code := some k2c1 }
def k2c2 : Code := { maxStack := 3, maxLocals := 3, code := prog_20_method_3_code, exceptionTable := #[], attributes := #[] }
def k2m2 : Method := { name := "get", desc := "(J)J", sig := { parameters := [.long], returnType := some .long }, accessFlags := 0, code := some k2c2 }
def k2c3 : Code := { maxStack := 4, maxLocals := 5, code := prog_20_method_4_code, exceptionTable := #[], attributes := #[] }
def k2m3 : Method := { name := "set", desc := "(JJ)V", sig := { parameters := [.long, .long], returnType := none }, accessFlags := 0, code := some k2c3 }
def k2c4 : Code := { maxStack := 6, maxLocals := 3, code := prog_20_method_5_code, exceptionTable := #[], attributes := #[] }
def k2m4 : Method := { name := "getBit", desc := "(J)Z", sig := { parameters := [.long], returnType := some .boolean }, accessFlags := 0, code := some k2c4 }
def k2c5 : Code := { maxStack := 4, maxLocals := 4, code := prog_20_method_11_code, exceptionTable := #[], attributes := #[] }
def k2m5 : Method := { name := "blockOf", desc := "(J)[J", sig := { parameters := [.long], returnType := some (.array .long) }, accessFlags := 2, code := some k2c5 }
def k2c6 : Code := { maxStack := 4, maxLocals := 2, code := prog_20_method_12_code, exceptionTable := #[], attributes := #[] }
def k2m6 : Method := { name := "inBlock", desc := "(J)I", sig := { parameters := [.long], returnType := some .int }, accessFlags := 10, code := some k2c6 }
/-- com/example/tuccia/tuccia/WordArray -/
def k2 : Class := { plain "com/example/tuccia/tuccia/WordArray" (some 0) with
  accessFlags := 48
  interfaces := #[]
  cf := some (fileOf pool2 1 #[] #[{ accessFlags := 0, nameIndex := 7, descriptorIndex := 67, attributes := #[] }, { accessFlags := 0, nameIndex := 11, descriptorIndex := 71, attributes := #[] }, { accessFlags := 0, nameIndex := 50, descriptorIndex := 51, attributes := #[] }, { accessFlags := 0, nameIndex := 59, descriptorIndex := 60, attributes := #[] }, { accessFlags := 0, nameIndex := 72, descriptorIndex := 73, attributes := #[] }, { accessFlags := 2, nameIndex := 38, descriptorIndex := 39, attributes := #[] }, { accessFlags := 10, nameIndex := 42, descriptorIndex := 43, attributes := #[] }] 48 4 #[] #[{ accessFlags := 24, nameIndex := 64, descriptorIndex := 12, attributes := #[] }, { accessFlags := 26, nameIndex := 17, descriptorIndex := 18, attributes := #[] }, { accessFlags := 26, nameIndex := 66, descriptorIndex := 12, attributes := #[] }, { accessFlags := 18, nameIndex := 11, descriptorIndex := 12, attributes := #[] }, { accessFlags := 18, nameIndex := 23, descriptorIndex := 24, attributes := #[] }, { accessFlags := 18, nameIndex := 35, descriptorIndex := 20, attributes := #[] }])
  fields := #[{ name := "BLOCK_WORDS", type := .long, accessFlags := 24, slot := 0, constantValue := 0 }, { name := "BLOCK_SHIFT", type := .int, accessFlags := 26, slot := 1, constantValue := 0 }, { name := "IN_BLOCK", type := .long, accessFlags := 26, slot := 2, constantValue := 0 }, { name := "length", type := .long, accessFlags := 18, slot := 0, constantValue := 0 }, { name := "blocks", type := (.array (.array .long)), accessFlags := 18, slot := 1, constantValue := 0 }, { name := "firstBlock", type := (.array .long), accessFlags := 18, slot := 2, constantValue := 0 }]
  methods := #[k2m0, k2m1, k2m2, k2m3, k2m4, k2m5, k2m6]
  instanceTypes := #[.long, (.array (.array .long)), (.array .long)]
  staticTypes := #[.long, .int, .long]
  resolved := Array.replicate 84 none
  statics := some 0 }

def pool3 : Array CpInfo := pool [(1, .class_ 2), (0, u "java/lang/Math"), (1, .class_ 6), (1, u "java/lang/Object"), (0, u "<init>"), (0, u "()V"), (89, .class_ 100), (1, u "java/lang/Math$RandomNumberGeneratorHolder"), (20, u "(JJ)J"), (50, u "negativeZeroFloatBits"), (0, u "J"), (2, u "negativeZeroDoubleBits"), (24, u "min"), (43, u "$assertionsDisabled"), (0, u "Z"), (91, u "twoToTheDoubleScaleDown"), (0, u "D"), (4, u "twoToTheDoubleScaleUp"), (9, u "E"), (3, u "PI"), (2, u "TAU"), (2, u "DEGREES_TO_RADIANS"), (0, u "RADIANS_TO_DEGREES")] 94

def k3m0 : Method := { name := "<init>", desc := "()V", sig := { parameters := [], returnType := none }, accessFlags := 2, code := none }
def k3c1 : Code := { maxStack := 4, maxLocals := 4, code := jdk_29_method_70_code, exceptionTable := #[], attributes := #[] }
def k3m1 : Method := { name := "min", desc := "(JJ)J", sig := { parameters := [.long, .long], returnType := some .long }, accessFlags := 9, code := some k3c1 }
/-- java/lang/Math -/
def k3 : Class := { plain "java/lang/Math" (some 0) with
  accessFlags := 49
  interfaces := #[]
  cf := some (fileOf pool3 1 #[.nestMembers #[98]] #[{ accessFlags := 2, nameIndex := 7, descriptorIndex := 8, attributes := #[] }, { accessFlags := 9, nameIndex := 201, descriptorIndex := 121, attributes := #[] }] 49 4 #[] #[{ accessFlags := 25, nameIndex := 354, descriptorIndex := 339, attributes := #[] }, { accessFlags := 25, nameIndex := 358, descriptorIndex := 339, attributes := #[] }, { accessFlags := 25, nameIndex := 361, descriptorIndex := 339, attributes := #[] }, { accessFlags := 26, nameIndex := 364, descriptorIndex := 339, attributes := #[] }, { accessFlags := 26, nameIndex := 365, descriptorIndex := 339, attributes := #[] }, { accessFlags := 26, nameIndex := 172, descriptorIndex := 173, attributes := #[] }, { accessFlags := 26, nameIndex := 176, descriptorIndex := 173, attributes := #[] }, { accessFlags := 8, nameIndex := 344, descriptorIndex := 339, attributes := #[] }, { accessFlags := 8, nameIndex := 338, descriptorIndex := 339, attributes := #[] }, { accessFlags := 4120, nameIndex := 245, descriptorIndex := 246, attributes := #[] }])
  fields := #[{ name := "E", type := .double, accessFlags := 25, slot := 0, constantValue := 0 }, { name := "PI", type := .double, accessFlags := 25, slot := 1, constantValue := 0 }, { name := "TAU", type := .double, accessFlags := 25, slot := 2, constantValue := 0 }, { name := "DEGREES_TO_RADIANS", type := .double, accessFlags := 26, slot := 3, constantValue := 0 }, { name := "RADIANS_TO_DEGREES", type := .double, accessFlags := 26, slot := 4, constantValue := 0 }, { name := "negativeZeroFloatBits", type := .long, accessFlags := 26, slot := 5, constantValue := 0 }, { name := "negativeZeroDoubleBits", type := .long, accessFlags := 26, slot := 6, constantValue := 0 }, { name := "twoToTheDoubleScaleUp", type := .double, accessFlags := 8, slot := 7, constantValue := 0 }, { name := "twoToTheDoubleScaleDown", type := .double, accessFlags := 8, slot := 8, constantValue := 0 }, { name := "$assertionsDisabled", type := .boolean, accessFlags := 4120, slot := 9, constantValue := 0 }]
  methods := #[k3m0, k3m1]
  instanceTypes := #[]
  staticTypes := #[.double, .double, .double, .double, .double, .long, .long, .double, .double, .boolean]
  resolved := Array.replicate 460 none
  statics := none }

def pool4 : Array CpInfo := pool [(1, u "java/lang/Cloneable"), (0, .class_ 1), (0, u "java/lang/Object"), (0, .class_ 3)] 3

/-- java/lang/Cloneable -/
def k4 : Class := { plain "java/lang/Cloneable" (some 0) with
  accessFlags := 1537
  interfaces := #[]
  cf := some (fileOf pool4 2 #[] #[] 1537 4 #[] #[])
  fields := #[]
  methods := #[]
  instanceTypes := #[]
  staticTypes := #[]
  resolved := Array.replicate 8 none
  statics := none }

def pool5 : Array CpInfo := pool [(1, u "java/io/Serializable"), (0, .class_ 1), (0, u "java/lang/Object"), (0, .class_ 3)] 3

/-- java/io/Serializable -/
def k5 : Class := { plain "java/io/Serializable" (some 0) with
  accessFlags := 1537
  interfaces := #[]
  cf := some (fileOf pool5 2 #[] #[] 1537 4 #[] #[])
  fields := #[]
  methods := #[]
  instanceTypes := #[]
  staticTypes := #[]
  resolved := Array.replicate 8 none
  statics := none }

/-- the primitive byte -/
def k6 : Class := { plain "byte" none with kind := .primitive 'B', accessFlags := 0x411 }
/-- [B -/
def k7 : Class := { plain "[B" (some 0) with kind := .array 6 .byte, interfaces := #[4, 5], accessFlags := 1041 }

/-- the primitive int -/
def k8 : Class := { plain "int" none with kind := .primitive 'I', accessFlags := 0x411 }
/-- [I -/
def k9 : Class := { plain "[I" (some 0) with kind := .array 8 .int, interfaces := #[4, 5], accessFlags := 1041 }

/-- the primitive long -/
def k10 : Class := { plain "long" none with kind := .primitive 'J', accessFlags := 0x411 }
/-- [J -/
def k11 : Class := { plain "[J" (some 0) with kind := .array 10 .long, interfaces := #[4, 5], accessFlags := 1041 }

/-- [[J -/
def k12 : Class := { plain "[[J" (some 0) with kind := .array 11 (.array .long), interfaces := #[4, 5], accessFlags := 1041 }
def heap : Heap := #[{ cls := 2, slots := #[.long 0, .int 27, .long 0], vm := .statics 2 }]
def classes : Array Class := #[k0, k1, k2, k3, k4, k5, k6, k7, k8, k9, k10, k11, k12]
def interned : List (Array UInt16 × Addr) := []
def slotsUsed : Nat := 3
def theMethod : MethodId := ⟨1, 1⟩
def args0 : Array Value := #[.int 5, .int 5, .int 5, .int 5, .long 5, .long 5]
def aboutOver (below : List Frame) : State where
  vm := { classes := classes, interned := interned.toArray }
  heap := heap
  slotsUsed := slotsUsed
  threads := #[{ frames := .invoking theMethod args0 :: below }]
def below0 : List Frame := [.native { method := ⟨0, 0⟩, args := #[] }]
def about1 : State := aboutOver below0
def p0 : Program := .bare "" "" ""
def e0 : Env := launch0.env 0 0 0
theorem w_frames : about1.frames = Frame.invoking theMethod args0 :: below0 := rfl
set_option maxRecDepth 65536 in
theorem w_args : argsFit about1.vm theMethod args0 = true := by decide +kernel
set_option maxRecDepth 65536 in
theorem w_heap : heapFits about1 = true := by decide +kernel
set_option maxRecDepth 65536 in
theorem w_runnable : about1.curStatus? = some .runnable := by decide +kernel
set_option maxRecDepth 65536 in
theorem w_alone : about1.alone = true := by decide +kernel
set_option maxRecDepth 65536 in
theorem w_named : about1.methodNamed? x = some theMethod := by decide +kernel
set_option maxRecDepth 65536 in
theorem w_hears : about1.hears theMethod below0 = true := by decide +kernel
set_option maxRecDepth 65536 in
theorem w_ripe : about1.ripe theMethod args0 below0 = true := by decide +kernel
theorem w_running : about1.status = .running := rfl
set_option maxRecDepth 65536 in
theorem w_room : about1.hasRoom e0.platform room_1 = true :=
  launch0.hasRoom_least _ room_1 (by decide +kernel) (by decide +kernel) (by decide +kernel) (by decide +kernel) (by decide +kernel) (by decide +kernel)
theorem allAtoms_all (ts : List Jvm.Cond) (a : Array Jvm.Value) (st : Jvm.State) : (allAtoms ts).before a st = ts.all (fun c => c.before a st) := by
  induction ts with
  | nil => rfl
  | cons c t ih =>
    show (Jvm.Cond.and c (allAtoms t)).before a st = _
    rw [Jvm.Cond.before_and, ih, List.all_cons]
def words1 : List Jvm.Cond := Jvm.Cond.code x code maxLocals ret :: tables_1
/-- a 'code' word, met by the world's own term for the bytes: nothing is compared byte by byte -/
theorem code_word {y : MethodName} {bytes : ByteArray} {mx : Nat} {rt : Option FieldType} {a : Array Value} {s : State} {m : MethodId} {meth : Method} {c : Code} (h1 : s.methodNamed? y = some m) (h2 : s.vm.method? m = some meth) (h3 : meth.code = some c) (h4 : c.code = bytes)
    (h5 : (c.maxLocals == mx && c.exceptionTable.isEmpty && decide (c.maxStack ≤ mostOperands) && decide (meth.sig.returnType = rt) && !meth.locks && decide (parseMethodDescriptor y.desc = some meth.sig)) = true) : (Jvm.Cond.code y bytes mx rt).before a s = true := by
  simp only [Bool.and_eq_true, beq_iff_eq, Bool.not_eq_true', decide_eq_true_eq] at h5
  obtain ⟨⟨⟨⟨⟨g1, g2⟩, g3⟩, g4⟩, g5⟩, g6⟩ := h5
  simp [Cond.before, Cond.holds, Cond.value, h1, h2, h3, h4, g1, g2, g3, g4, g5, g6]
def isCode : Jvm.Cond → Bool
  | .code _ _ _ _ => true
  | _ => false
theorem all_split {L : List Jvm.Cond} {P : Jvm.Cond → Bool} (h1 : L.all (fun c => isCode c || P c) = true) (h2 : ∀ c ∈ L.filter isCode, P c = true) : L.all P = true := by
  refine List.all_eq_true.mpr fun c hc => ?_
  have h := List.all_eq_true.mp h1 c hc
  rcases Bool.eq_false_or_eq_true (isCode c) with hi | hi
  · exact h2 c (List.mem_filter.mpr ⟨hc, hi⟩)
  · simpa [hi] using h
set_option maxRecDepth 65536 in
theorem w_c0 : (Jvm.Cond.code x code maxLocals ret).before args0 about1 = true := code_word (m := ⟨1, 1⟩) (meth := k1m1) (c := k1c1) (by decide +kernel) rfl rfl rfl (by decide +kernel)
set_option maxRecDepth 65536 in
theorem w_c1 : (Jvm.Cond.code ({ cls := "com/example/tuccia/tuccia/WordArray", name := "<init>", desc := "(J)V" } : Jvm.MethodName) prog_20_method_1_code (6 : Nat) (Option.none : Option Jvm.ClassFile.FieldType)).before args0 about1 = true := code_word (m := ⟨2, 0⟩) (meth := k2m0) (c := k2c0) (by decide +kernel) rfl rfl rfl (by decide +kernel)
set_option maxRecDepth 65536 in
theorem w_c2 : (Jvm.Cond.code ({ cls := "java/lang/Object", name := "<init>", desc := "()V" } : Jvm.MethodName) object_method_1_code (1 : Nat) (Option.none : Option Jvm.ClassFile.FieldType)).before args0 about1 = true := code_word (m := ⟨0, 0⟩) (meth := k0m0) (c := k0c0) (by decide +kernel) rfl rfl rfl (by decide +kernel)
set_option maxRecDepth 65536 in
theorem w_c3 : (Jvm.Cond.code ({ cls := "java/lang/Math", name := "min", desc := "(JJ)J" } : Jvm.MethodName) jdk_29_method_70_code (4 : Nat) (Option.some Jvm.ClassFile.FieldType.long)).before args0 about1 = true := code_word (m := ⟨3, 1⟩) (meth := k3m1) (c := k3c1) (by decide +kernel) rfl rfl rfl (by decide +kernel)
set_option maxRecDepth 65536 in
theorem w_c4 : (Jvm.Cond.code ({ cls := "com/example/tuccia/tuccia/WordArray", name := "set", desc := "(JJ)V" } : Jvm.MethodName) prog_20_method_4_code (5 : Nat) (Option.none : Option Jvm.ClassFile.FieldType)).before args0 about1 = true := code_word (m := ⟨2, 3⟩) (meth := k2m3) (c := k2c3) (by decide +kernel) rfl rfl rfl (by decide +kernel)
set_option maxRecDepth 65536 in
theorem w_c5 : (Jvm.Cond.code ({ cls := "com/example/tuccia/tuccia/WordArray", name := "blockOf", desc := "(J)[J" } : Jvm.MethodName) prog_20_method_11_code (4 : Nat) (Option.some (Jvm.ClassFile.FieldType.array Jvm.ClassFile.FieldType.long))).before args0 about1 = true := code_word (m := ⟨2, 5⟩) (meth := k2m5) (c := k2c5) (by decide +kernel) rfl rfl rfl (by decide +kernel)
set_option maxRecDepth 65536 in
theorem w_c6 : (Jvm.Cond.code ({ cls := "com/example/tuccia/tuccia/WordArray", name := "inBlock", desc := "(J)I" } : Jvm.MethodName) prog_20_method_12_code (2 : Nat) (Option.some Jvm.ClassFile.FieldType.int)).before args0 about1 = true := code_word (m := ⟨2, 6⟩) (meth := k2m6) (c := k2c6) (by decide +kernel) rfl rfl rfl (by decide +kernel)
set_option maxRecDepth 65536 in
theorem w_c7 : (Jvm.Cond.code ({ cls := "com/example/tuccia/tuccia/WordArray", name := "get", desc := "(J)J" } : Jvm.MethodName) prog_20_method_3_code (3 : Nat) (Option.some Jvm.ClassFile.FieldType.long)).before args0 about1 = true := code_word (m := ⟨2, 2⟩) (meth := k2m2) (c := k2c2) (by decide +kernel) rfl rfl rfl (by decide +kernel)
set_option maxRecDepth 65536 in
theorem w_c8 : (Jvm.Cond.code ({ cls := "com/example/tuccia/tuccia/WordArray", name := "getBit", desc := "(J)Z" } : Jvm.MethodName) prog_20_method_5_code (3 : Nat) (Option.some Jvm.ClassFile.FieldType.boolean)).before args0 about1 = true := code_word (m := ⟨2, 4⟩) (meth := k2m4) (c := k2c4) (by decide +kernel) rfl rfl rfl (by decide +kernel)
set_option maxRecDepth 65536 in
theorem w_c9 : (Jvm.Cond.code ({ cls := "com/example/tuccia/tuccia/WordArray", name := "length", desc := "()J" } : Jvm.MethodName) prog_20_method_2_code (1 : Nat) (Option.some Jvm.ClassFile.FieldType.long)).before args0 about1 = true := code_word (m := ⟨2, 1⟩) (meth := k2m1) (c := k2c1) (by decide +kernel) rfl rfl rfl (by decide +kernel)
def codes1 : List Jvm.Cond := [Jvm.Cond.code x code maxLocals ret, Jvm.Cond.code ({ cls := "com/example/tuccia/tuccia/WordArray", name := "<init>", desc := "(J)V" } : Jvm.MethodName) prog_20_method_1_code (6 : Nat) (Option.none : Option Jvm.ClassFile.FieldType), Jvm.Cond.code ({ cls := "java/lang/Object", name := "<init>", desc := "()V" } : Jvm.MethodName) object_method_1_code (1 : Nat) (Option.none : Option Jvm.ClassFile.FieldType), Jvm.Cond.code ({ cls := "java/lang/Math", name := "min", desc := "(JJ)J" } : Jvm.MethodName) jdk_29_method_70_code (4 : Nat) (Option.some Jvm.ClassFile.FieldType.long), Jvm.Cond.code ({ cls := "com/example/tuccia/tuccia/WordArray", name := "set", desc := "(JJ)V" } : Jvm.MethodName) prog_20_method_4_code (5 : Nat) (Option.none : Option Jvm.ClassFile.FieldType), Jvm.Cond.code ({ cls := "com/example/tuccia/tuccia/WordArray", name := "blockOf", desc := "(J)[J" } : Jvm.MethodName) prog_20_method_11_code (4 : Nat) (Option.some (Jvm.ClassFile.FieldType.array Jvm.ClassFile.FieldType.long)), Jvm.Cond.code ({ cls := "com/example/tuccia/tuccia/WordArray", name := "inBlock", desc := "(J)I" } : Jvm.MethodName) prog_20_method_12_code (2 : Nat) (Option.some Jvm.ClassFile.FieldType.int), Jvm.Cond.code ({ cls := "com/example/tuccia/tuccia/WordArray", name := "get", desc := "(J)J" } : Jvm.MethodName) prog_20_method_3_code (3 : Nat) (Option.some Jvm.ClassFile.FieldType.long), Jvm.Cond.code ({ cls := "com/example/tuccia/tuccia/WordArray", name := "getBit", desc := "(J)Z" } : Jvm.MethodName) prog_20_method_5_code (3 : Nat) (Option.some Jvm.ClassFile.FieldType.boolean), Jvm.Cond.code ({ cls := "com/example/tuccia/tuccia/WordArray", name := "length", desc := "()J" } : Jvm.MethodName) prog_20_method_2_code (1 : Nat) (Option.some Jvm.ClassFile.FieldType.long)]
set_option maxRecDepth 65536 in
theorem codes_eq : words1.filter isCode = codes1 := rfl
theorem w_codes : ∀ c ∈ words1.filter isCode, c.before args0 about1 = true := by
  rw [codes_eq]
  intro c hc
  simp only [codes1, List.mem_cons, List.not_mem_nil, or_false] at hc
  rcases hc with rfl | rfl | rfl | rfl | rfl | rfl | rfl | rfl | rfl | rfl
  · exact w_c0
  · exact w_c1
  · exact w_c2
  · exact w_c3
  · exact w_c4
  · exact w_c5
  · exact w_c6
  · exact w_c7
  · exact w_c8
  · exact w_c9
set_option maxRecDepth 65536 in
theorem w_t1 : (words1.take 24).all (fun c => isCode c || c.before args0 about1) = true := by decide +kernel
set_option maxRecDepth 65536 in
theorem w_t2 : ((words1.drop 24).take 24).all (fun c => isCode c || c.before args0 about1) = true := by decide +kernel
set_option maxRecDepth 65536 in
theorem w_t3 : ((words1.drop 24).drop 24).all (fun c => isCode c || c.before args0 about1) = true := by decide +kernel
theorem w_tables : (allAtoms (Jvm.Cond.code x code maxLocals ret :: tables_1)).before args0 about1 = true := by
  rw [allAtoms_all]
  show words1.all (fun c => c.before args0 about1) = true
  refine all_split ?_ w_codes
  rw [← List.take_append_drop 24 words1, List.all_append, w_t1, ← List.take_append_drop 24 (words1.drop 24), List.all_append, w_t2, w_t3]
  rfl
set_option maxRecDepth 65536 in
theorem w_case : (Jvm.Cond.and given_1 narrow_1).before args0 about1 = true := by decide +kernel
theorem w_applies : (headSpec (Jvm.Cond.code x code maxLocals ret :: tables_1) room_1).applies x e0.platform about1 = true :=
  (Spec.applies_iff w_frames).mpr ⟨w_running, w_runnable, w_alone, w_named, w_hears, w_ripe, w_room, w_tables⟩
theorem atStart : AtStart classFile x code maxLocals ret World_1 tables_1 room_1 Calls_1 rest_1 Pre_1 launch0 p0 e0 about1 theMethod args0 below0 :=
  ⟨lists_1, trivial, launch0.admits_env _ _ _, launch0.least_env, fairChoices_fair.cas, fairChoices_fair.clock, w_frames, w_args, w_heap, w_applies, trivial, trivial, w_case⟩
end start1
theorem witness_1 : WitnessClaimed_1 := ⟨start1.p0, start1.e0, start1.about1, start1.theMethod, start1.args0, start1.below0, start1.atStart⟩
end Jvm.Pilot.@@N@@
