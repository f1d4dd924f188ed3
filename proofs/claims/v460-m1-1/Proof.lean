import JvmDerived
import JvmDerived.Pilot.@@N@@Statement
import JvmDerived.Pilot.@@N@@Code
set_option linter.unusedVariables false
set_option linter.unusedSimpArgs false
@@BLOCK:NumsL.lean.txt@@
namespace Jvm.RoadKit
open Sem ClassFile Op Lib Jvm.Stand Jvm.Free Jvm.LawKit
section New
variable {p : Program} {l : Launch} {e : Env} {R : Room} {s : State} {m : MethodId} {args : Array Value} {below : List Frame} {meth : Method} {c : Code} {T : State} {locs : List Loc} {cells slots : Nat}
theorem retI (X : Stand p l e R s m args below meth c T locs cells slots) (hx : p.tables.exec = Jvm.exec) {pc : Nat} {Ls : Array Slot} {z : Int32} {rest : List Value} (hret : meth.sig.returnType = some .int) (hd : decode c.code pc = .ok (.ireturn, 1)) {fs : List Frame}
    (hl : ∀ (f : JFrame) (acts : List Action), f.method = m → f.locked = none → f.entered = [] → (doReturn e (T.setTop f) acts (some (.int z))).1 = T.setFrames fs) : Steps p.tables e below (T.setTop (mkF m pc Ls (.int z :: rest))) (T.setFrames fs) := by
  have hm' : T.vm.method? m = some meth := X.method'
  have hn : narrow .int (.int z) = .int z := rfl
  show Steps p.tables e below (T.setTop { method := m, pc := pc, locals := Ls, stack := _ :: rest, locked := none }) _
  jvm_step X.here [X.here.top, hx, hd, hm', hret, hn]
  first | (intro acts; rw [hl _ acts rfl rfl rfl]) | rw [hl _ _ rfl rfl rfl]
  exact Steps.refl _
end New
end Jvm.RoadKit
namespace Jvm.Pilot.@@N@@
open Jvm Jvm.ClassFile Sem Op Lib Jvm.Free Jvm.Stand Jvm.LawKit Jvm.RoadKit Bundle Jvm.Pilot.@@N@@.Jvm.D
/-! own_Goes: from S the run comes to some state of which G holds: such a goal may be split in the middle of a walk -/
def own_Goes (p : Program) (e : Env) (below : List Frame) (S : State) (G : State → Prop) : Prop := ∃ t, Steps p.tables e below S t ∧ G t
theorem own_via {p : Program} {e : Env} {below : List Frame} {S S' : State} {G : State → Prop} (f : ∀ t, Steps p.tables e below S' t → Steps p.tables e below S t) (h : own_Goes p e below S' G) : own_Goes p e below S G := by
  obtain ⟨t, h1, h2⟩ := h
  exact ⟨t, f t h1, h2⟩
theorem own_end {p : Program} {e : Env} {below : List Frame} {S t : State} {G : State → Prop} (h : Steps p.tables e below S t) (g : G t) : own_Goes p e below S G := ⟨t, h, g⟩
theorem own_out {p : Program} {e : Env} {below : List Frame} {S : State} {P : State → Outcome → Prop} (h : own_Goes p e below S (fun t => ∃ o, t.status = .running ∧ Ended t below o ∧ P t o)) : ∃ t o, Steps p.tables e below S t ∧ t.status = .running ∧ Ended t below o ∧ P t o := by
  obtain ⟨t, h1, o, h2, h3, h4⟩ := h
  exact ⟨t, o, h1, h2, h3, h4⟩
theorem wd {a0 : Array Value} {Z : State} (hw : ∀ d ∈ tables_1, d.before a0 Z = true) (i : Nat) {d : Jvm.Cond} (h : tables_1[i]? = some d) : d.before a0 Z = true := hw _ (List.mem_of_getElem? h)
theorem own_old {Z : State} {n0 : Nat} {h : Heap} (O : Old Z n0 h) : n0 ≤ h.size := by rw [← O.1]; exact O.2.1
def own_Q0 (n0 : Nat) (v : Option Value) (L : List Loc) : Prop := v = some (.int (1 : Int32)) ∧ Fr n0 L
def own_G (s : State) (below : List Frame) (n0 : Nat) (t : State) : Prop := ∃ o, t.status = .running ∧ Ended t below o ∧ ∃ v L, o = .returned v ∧ own_Q0 n0 v L ∧ FrameEnd s o t L room_1.cells room_1.slots
def own_Len (Z : State) (h : Heap) (a : Addr) (ty : FieldType) (n : Int32) : Prop := ∃ k vs d, Arv Z h a k ty n vs d
theorem own_len_ext {Z : State} {h h' : Heap} {a : Addr} {ty : FieldType} {n : Int32} (F : own_Len Z h a ty n) (E : Ext h h') : own_Len Z h' a ty n := by
  obtain ⟨k, vs, d, V⟩ := F
  exact ⟨k, vs, d, V.ext E⟩
theorem own_len_other {Z : State} {h h' : Heap} {a b : Addr} {sl : Nat} {v : Value} {ty : FieldType} {n : Int32} (F : own_Len Z h b ty n) (W : Wr h h' a sl v) (q : b ≠ a) : own_Len Z h' b ty n := by
  obtain ⟨k, vs, d, V⟩ := F
  exact ⟨k, vs, d, V.other W q⟩
theorem own_len_keep {Z : State} {h h' : Heap} {a : Addr} {ws : List Addr} {ty : FieldType} {n : Int32} (F : own_Len Z h a ty n) (K : Keep h h' ws) (q : a ∉ ws) : own_Len Z h' a ty n := by
  obtain ⟨k, vs, d, V⟩ := F
  exact ⟨k, vs, d, V.keep K q⟩
theorem own_len_lt {Z : State} {h : Heap} {a : Addr} {ty : FieldType} {n : Int32} (F : own_Len Z h a ty n) : a < h.size := by
  obtain ⟨k, vs, d, V⟩ := F
  exact V.lt
theorem own_c2 (x : Int32) : x.toUInt32.toUInt16.toUInt32.toInt32.toUInt32.toUInt16.toUInt32.toInt32 = x.toUInt32.toUInt16.toUInt32.toInt32 := by rw [UInt32.toUInt32_toInt32, UInt16.toUInt16_toUInt32]
theorem own_b2 (x : Int32) : x.toInt8.toInt32.toInt8.toInt32 = x.toInt8.toInt32 := by rw [Int8.toInt8_toInt32]
section Calls
variable {p : Program} {l : Launch} {e : Env} {R : Room} {s : State} {m : MethodId} {args : Array Value} {below : List Frame} {meth : Method} {c : Code} {T : State} {locs : List Loc} {cells slots : Nat} {Z : State} {a0 : Array Value} {h : Heap} {own C : String} {index : Nat} {y : MethodName} {bytes : ByteArray} {maxL : Nat} {rm : Room} {Q : Option Value → Heap → List Loc → Prop} {a : Addr} {argsL : List Value} {g : JFrame}
/-! a call by its contract, in one step: virtual (the class's own method), a constructor, static -/
theorem own_cv {ret : Option FieldType} (X : Stand p l e R s m args below meth c T locs cells slots) (hx : p.tables.exec = Jvm.exec) (hZ : Z.Warmed39 s.vm) (hown : s.vm.findClass own = some m.cls) (w1 : (Jvm.Cond.methodLink own index y).before a0 Z = true) (w2 : (Jvm.Cond.declares y).before a0 Z = true) (w3 : (Jvm.Cond.selects C y y).before a0 Z = true) (w4 : (Jvm.Cond.instanceMethod y).before a0 Z = true) (wc : (Jvm.Cond.code y bytes maxL ret).before a0 Z = true) (wz : (Jvm.Cond.initialized y.cls).before a0 Z = true) (hy : y.cls ≠ "java/lang/invoke/MethodHandle" ∧ y.cls ≠ "java/lang/invoke/VarHandle")
    (hM : MetFree l y (head1 [Jvm.Cond.code y bytes maxL ret] rm) (fun A U => A = (.ref a :: argsL).toArray ∧ Z.Warmed39 U.vm ∧ U.heap = h) (fun _ _ _ _ _ => True) (fun _ U o U' => ∃ v L, o = .returned v ∧ Q v U'.heap L ∧ FrameEnd U o U' L rm.cells rm.slots)) (eT : T.heap = h) (E : Exa Z h a C) (hg : g.method = m) (hsize : g.locals.size = c.maxLocals) {rest : List Value} {W : Nat}
    (hlen : ∀ sig, parseMethodDescriptor y.desc = some sig → argsL.length = sig.parameters.length) (hstack : g.stack = argsL.reverse ++ .ref a :: rest) (hW : 2 * g.monitorRoom + (rest.map fun v => v.category).sum ≤ W) (hdg : decode c.code g.pc = .ok (.invokevirtual index, 3)) (r1 : rm.frames + 1 ≤ R.frames) (r2 : W + (maxL + 11) + rm.locals ≤ R.locals) (r3 : cells + rm.cells ≤ R.cells) (r4 : slots + rm.slots ≤ R.slots) :
    ∃ (v : Option Value) (T' : State) (L : List Loc), Stand p l e R s m args below meth c T' (locs ++ L) (cells + rm.cells) (slots + rm.slots) ∧ Q v T'.heap L ∧ ∀ t, Steps p.tables e below (T'.setTop { g with pc := g.pc + 3, stack := v.toList ++ rest }) t → Steps p.tables e below (T.setTop g) t := by
  obtain ⟨cq, kq, qa, -, qc⟩ := isOf hZ eT E
  obtain ⟨v, _, ⟨T', L', c', n'⟩, -, X', ⟨Lc, hQ, l1, y1, z1⟩, st⟩ := X.virtualBack hx (y := y) (z := y) hown (mvT hZ w1) (mvT hZ w2) (notFace_of_selects (args := #[]) (mvT hZ w3)) (mvT hZ w3) (mvT hZ w4) hy (backOf (W := W) hM hZ wc wz r1 r2) qa qc (g := g) hg hsize (Steps.refl _) (argsL := argsL) (rest := rest) hlen hstack hW hdg (fun _ _ => ⟨rfl, eT, r3, r4⟩)
  dsimp only [Pt.U, Pt.locs, Pt.cells, Pt.slots] at X' l1 y1 z1 st hQ
  subst l1 y1 z1
  exact ⟨v, T', Lc, X', hQ, fun t k => st.trans k⟩
theorem own_ci (X : Stand p l e R s m args below meth c T locs cells slots) (hx : p.tables.exec = Jvm.exec) (hZ : Z.Warmed39 s.vm) (hown : s.vm.findClass own = some m.cls) (w1 : (Jvm.Cond.methodLink own index y).before a0 Z = true) (w4 : (Jvm.Cond.instanceMethod y).before a0 Z = true) (wc : (Jvm.Cond.code y bytes maxL none).before a0 Z = true) (wz : (Jvm.Cond.initialized y.cls).before a0 Z = true) (hi : y.name = "<init>") (hy : y.cls ≠ "java/lang/invoke/MethodHandle" ∧ y.cls ≠ "java/lang/invoke/VarHandle")
    (hM : MetFree l y (head1 [Jvm.Cond.code y bytes maxL none] rm) (fun A U => A = (.ref a :: argsL).toArray ∧ Z.Warmed39 U.vm ∧ U.heap = h) (fun _ _ _ _ _ => True) (fun _ U o U' => ∃ v L, o = .returned v ∧ Q v U'.heap L ∧ FrameEnd U o U' L rm.cells rm.slots)) (eT : T.heap = h) (hg : g.method = m) (hsize : g.locals.size = c.maxLocals) {rest : List Value} {W : Nat}
    (hlen : ∀ sig, parseMethodDescriptor y.desc = some sig → argsL.length = sig.parameters.length) (hstack : g.stack = argsL.reverse ++ .ref a :: rest) (hW : 2 * g.monitorRoom + (rest.map fun v => v.category).sum ≤ W) (hdg : decode c.code g.pc = .ok (.invokespecial index, 3)) (r1 : rm.frames + 1 ≤ R.frames) (r2 : W + (maxL + 11) + rm.locals ≤ R.locals) (r3 : cells + rm.cells ≤ R.cells) (r4 : slots + rm.slots ≤ R.slots) :
    ∃ (v : Option Value) (T' : State) (L : List Loc), Stand p l e R s m args below meth c T' (locs ++ L) (cells + rm.cells) (slots + rm.slots) ∧ Q v T'.heap L ∧ ∀ t, Steps p.tables e below (T'.setTop { g with pc := g.pc + 3, stack := v.toList ++ rest }) t → Steps p.tables e below (T.setTop g) t := by
  obtain ⟨v, _, ⟨T', L', c', n'⟩, -, X', ⟨Lc, hQ, l1, y1, z1⟩, st⟩ := X.specialBack hx (y := y) hi hown (mvT hZ w1) (mvT hZ w4) (mvT hZ wc) hy (backOf (W := W) hM hZ wc wz r1 r2) (g := g) hg hsize (Steps.refl _) (a := a) (argsL := argsL) (rest := rest) hlen hstack hW hdg (fun _ _ => ⟨rfl, eT, r3, r4⟩)
  dsimp only [Pt.U, Pt.locs, Pt.cells, Pt.slots] at X' l1 y1 z1 st hQ
  subst l1 y1 z1
  exact ⟨v, T', Lc, X', hQ, fun t k => st.trans k⟩
theorem own_cs {ret : Option FieldType} (X : Stand p l e R s m args below meth c T locs cells slots) (hx : p.tables.exec = Jvm.exec) (hZ : Z.Warmed39 s.vm) (hown : s.vm.findClass own = some m.cls) (w1 : (Jvm.Cond.methodLink own index y).before a0 Z = true) (w4 : (Jvm.Cond.static y).before a0 Z = true) (wc : (Jvm.Cond.code y bytes maxL ret).before a0 Z = true) (wz : (Jvm.Cond.initialized y.cls).before a0 Z = true) (hy : y.cls ≠ "java/lang/invoke/MethodHandle" ∧ y.cls ≠ "java/lang/invoke/VarHandle")
    (hM : MetFree l y (head1 [Jvm.Cond.code y bytes maxL ret] rm) (fun A U => A = argsL.toArray ∧ Z.Warmed39 U.vm ∧ U.heap = h) (fun _ _ _ _ _ => True) (fun _ U o U' => ∃ v L, o = .returned v ∧ Q v U'.heap L ∧ FrameEnd U o U' L rm.cells rm.slots)) (eT : T.heap = h) (hg : g.method = m) (hsize : g.locals.size = c.maxLocals) {rest : List Value} {W : Nat}
    (hlen : ∀ sig, parseMethodDescriptor y.desc = some sig → argsL.length = sig.parameters.length) (hstack : g.stack = argsL.reverse ++ rest) (hW : 2 * g.monitorRoom + (rest.map fun v => v.category).sum ≤ W) (hdg : decode c.code g.pc = .ok (.invokestatic index, 3)) (r1 : rm.frames + 1 ≤ R.frames) (r2 : W + (maxL + 11) + rm.locals ≤ R.locals) (r3 : cells + rm.cells ≤ R.cells) (r4 : slots + rm.slots ≤ R.slots) :
    ∃ (v : Option Value) (T' : State) (L : List Loc), Stand p l e R s m args below meth c T' (locs ++ L) (cells + rm.cells) (slots + rm.slots) ∧ Q v T'.heap L ∧ ∀ t, Steps p.tables e below (T'.setTop { g with pc := g.pc + 3, stack := v.toList ++ rest }) t → Steps p.tables e below (T.setTop g) t := by
  obtain ⟨v, _, ⟨T', L', c', n'⟩, -, X', ⟨Lc, hQ, l1, y1, z1⟩, st⟩ := Jvm.LawKit.callS X hx (y := y) hown (mvT hZ w1) (mvT hZ w4) (mvT hZ wz) (mvT hZ wc) hy (backOf (W := W) hM hZ wc wz r1 r2) (g := g) hg hsize (argsL := argsL) (rest := rest) hlen hstack hW hdg (fun _ _ => ⟨rfl, eT, r3, r4⟩)
  dsimp only [Pt.U, Pt.locs, Pt.cells, Pt.slots] at X' l1 y1 z1 st hQ
  subst l1 y1 z1
  exact ⟨v, T', Lc, X', hQ, st⟩
end Calls
theorem own_eq_ref {args : Array Value} {s : State} {a b : Term} {w : Addr} (h : (Jvm.Cond.eq a b).value args s none s [] = some true) (hb : b.eval args s none [] s = some (.ref w)) : a.eval args s none [] s = some (.ref w) := by
  obtain ⟨x, y, e1, e2, k1, k2⟩ := cmp_v (Or.inl h)
  rw [hb] at e2
  cases e2
  have hx : x.isRef = true := by cases x <;> simp_all [Kin, Value.isRef]
  have q := gotT (eq_R e1 hb hx rfl) h
  rw [e1, q]
theorem own_ne_ref {args : Array Value} {s : State} {a b : Term} {u w : Addr} (h : (Jvm.Cond.not (Jvm.Cond.eq a b)).value args s none s [] = some true) (ha : a.eval args s none [] s = some (.ref u)) (hb : b.eval args s none [] s = some (.ref w)) : u ≠ w := fun q => gotF (eq_R ha hb rfl rfl) (not_v h) (by rw [q])
theorem own_nn_mask (x m : Int32) (k : Nat) (hk : k < 32) (hm : m.toBitVec.toNat = 2 ^ k - 1) : ¬ ((x &&& m) < (0 : Int32)) := by
  rw [Int32.lt_iff_toInt_lt, Jvm.Kit.i32_mask x m hk hm]
  have h := Int.emod_nonneg x.toInt (show ((2 : Int) ^ k) ≠ 0 from Int.ne_of_gt (Int.pow_pos (by decide)))
  rw [Int32.toInt_zero]
  omega
theorem own_lt_mask (x m : Int32) (k : Nat) (hk : k < 32) (hm : m.toBitVec.toNat = 2 ^ k - 1) {n : Int32} (hn : n.toInt = 2 ^ k) : (x &&& m) < n := by
  rw [Int32.lt_iff_toInt_lt, Jvm.Kit.i32_mask x m hk hm, hn]
  exact Int.emod_lt_of_pos _ (Int.pow_pos (by decide))
theorem own_nn_rem {x : Int32} (n : Int32) (h : ¬ (x < (0 : Int32))) : ¬ (x % n < (0 : Int32)) := by
  rw [Int32.lt_iff_toInt_lt, Int32.toInt_zero] at h ⊢
  rw [Int32.toInt_mod]
  have := Int.tmod_nonneg n.toInt (show 0 ≤ x.toInt by omega)
  omega
theorem own_pos {n : Int32} (h : (0 : Int32) < n) : 0 < n.toInt := by
  rw [Int32.lt_iff_toInt_lt, Int32.toInt_zero] at h
  exact h
theorem own_ne0 {n : Int32} (h : (0 : Int32) < n) : n ≠ 0 := fun q => by
  rw [q] at h
  exact absurd h (by decide)
theorem own_lt_rem {x : Int32} (n : Int32) (h : ¬ (x < (0 : Int32))) (hn : 0 < n.toInt) : x % n < n := by
  rw [Int32.lt_iff_toInt_lt] at h ⊢
  rw [Int32.toInt_zero] at h
  rw [Jvm.Kit.i32_rem_nonneg (by omega)]
  exact Int.emod_lt_of_pos _ hn
theorem own_modlo (x n : Int32) (hn : 0 < n.toInt) : 0 ≤ ((x &&& (2147483647 : Int32)) % n).toInt := by
  have a := Jvm.Kit.i32_mask x 2147483647 (k := 31) (by decide) (by decide)
  rw [Jvm.Kit.i32_rem_nonneg (by omega)]
  exact Int.emod_nonneg _ (by omega)
theorem own_modhi (x n : Int32) (hn : 0 < n.toInt) : ((x &&& (2147483647 : Int32)) % n).toInt < n.toInt := by
  have a := Jvm.Kit.i32_mask x 2147483647 (k := 31) (by decide) (by decide)
  rw [Jvm.Kit.i32_rem_nonneg (by omega)]
  exact Int.emod_lt_of_pos _ hn
theorem own_div64 (j : Int64) (h0 : 0 ≤ j.toInt) : (j / (64 : Int64)).toInt = j.toInt / 64 := by
  rw [Jvm.Kit.i64_div (by intro q; exact absurd q.2 (by decide))]
  rw [Int.tdiv_eq_ediv_of_nonneg h0]
  rfl

theorem own_bitlo (x : Int64) : 0 ≤ (x &&& (255 : Int64)).toInt := by rw [Jvm.Kit.i64_mask x 255 (k := 8) (by decide) (by decide)]; omega
theorem own_bithi (x : Int64) : (x &&& (255 : Int64)).toInt < 256 := by rw [Jvm.Kit.i64_mask x 255 (k := 8) (by decide) (by decide)]; omega
theorem own_div4 (j : Int64) (h0 : 0 ≤ j.toInt) (h1 : j.toInt < 256) : (j / (64 : Int64)) = (0 : Int64) ∨ (j / (64 : Int64)) = (1 : Int64) ∨ (j / (64 : Int64)) = (2 : Int64) ∨ (j / (64 : Int64)) = (3 : Int64) := by
  have d := own_div64 j h0
  have e : ∀ k : Int64, (j / (64 : Int64)).toInt = k.toInt → (j / (64 : Int64)) = k := fun k q => Int64.toInt_inj.mp q
  rcases (by omega : (j / (64 : Int64)).toInt = 0 ∨ (j / (64 : Int64)).toInt = 1 ∨ (j / (64 : Int64)).toInt = 2 ∨ (j / (64 : Int64)).toInt = 3) with q | q | q | q
  · exact Or.inl (e 0 (q.trans rfl))
  · exact Or.inr (Or.inl (e 1 (q.trans rfl)))
  · exact Or.inr (Or.inr (Or.inl (e 2 (q.trans rfl))))
  · exact Or.inr (Or.inr (Or.inr (e 3 (q.trans rfl))))
theorem own_idx (b k : Int64) (h0 : 0 ≤ b.toInt) (h : (b / (64 : Int64)) = k) : ((b.toUInt64 >>> ((6 : Int32) &&& 0x3f).toInt64.toUInt64).toInt64) = k := by
  apply Int64.toInt_inj.mp
  rw [Jvm.Kit.i64_lushr (by rw [Jvm.Kit.i64_nonneg]; exact h0) (k := 6) (by decide) (by decide), ← h, own_div64 b h0]
  rfl
theorem own_m63 (b : Int64) : ((((b &&& (63 : Int64)).toInt32) &&& 0x3f)) = ((b.toInt32) &&& 0x3f) := by
  rw [Int64.toInt32_and]
  show (b.toInt32 &&& 63) &&& 63 = b.toInt32 &&& 63
  rw [Int32.and_assoc]
  rfl

abbrev zs1 : String := "com/example/tuccia/tuccia/WordArray"
abbrev zs2 : String := "com/example/tuccia/tuccia/WordArraySetBitPinLaw"
theorem d1_0 : decode prog_20_method_1_code 0 = .ok (.aload_n 0, 1) := by decide +kernel
theorem d1_1 : decode prog_20_method_1_code 1 = .ok (.invokespecial 3, 3) := by decide +kernel
theorem d1_4 : decode prog_20_method_1_code 4 = .ok (.aload_n 0, 1) := by decide +kernel
theorem d1_5 : decode prog_20_method_1_code 5 = .ok (.lload_n 1, 1) := by decide +kernel
theorem d1_6 : decode prog_20_method_1_code 6 = .ok (.putfield 9, 3) := by decide +kernel
theorem d1_9 : decode prog_20_method_1_code 9 = .ok (.aload_n 0, 1) := by decide +kernel
theorem d1_10 : decode prog_20_method_1_code 10 = .ok (.lload_n 1, 1) := by decide +kernel
theorem d1_11 : decode prog_20_method_1_code 11 = .ok (.ldc2_w 13, 3) := by decide +kernel
theorem d1_14 : decode prog_20_method_1_code 14 = .ok (.ladd, 1) := by decide +kernel
theorem d1_15 : decode prog_20_method_1_code 15 = .ok (.getstatic 15, 3) := by decide +kernel
theorem d1_18 : decode prog_20_method_1_code 18 = .ok (.lushr, 1) := by decide +kernel
theorem d1_19 : decode prog_20_method_1_code 19 = .ok (.l2i, 1) := by decide +kernel
theorem d1_20 : decode prog_20_method_1_code 20 = .ok (.anewarray 19, 3) := by decide +kernel
theorem d1_23 : decode prog_20_method_1_code 23 = .ok (.putfield 21, 3) := by decide +kernel
theorem d1_26 : decode prog_20_method_1_code 26 = .ok (.iconst 0, 1) := by decide +kernel
theorem d1_27 : decode prog_20_method_1_code 27 = .ok (.istore_n 3, 1) := by decide +kernel
theorem d1_28 : decode prog_20_method_1_code 28 = .ok (.iload_n 3, 1) := by decide +kernel
theorem d1_29 : decode prog_20_method_1_code 29 = .ok (.aload_n 0, 1) := by decide +kernel
theorem d1_30 : decode prog_20_method_1_code 30 = .ok (.getfield 21, 3) := by decide +kernel
theorem d1_33 : decode prog_20_method_1_code 33 = .ok (.arraylength, 1) := by decide +kernel
theorem d1_34 : decode prog_20_method_1_code 34 = .ok (.if_icmp .ge 36, 3) := by decide +kernel
theorem d1_37 : decode prog_20_method_1_code 37 = .ok (.iload_n 3, 1) := by decide +kernel
theorem d1_38 : decode prog_20_method_1_code 38 = .ok (.i2l, 1) := by decide +kernel
theorem d1_39 : decode prog_20_method_1_code 39 = .ok (.getstatic 15, 3) := by decide +kernel
theorem d1_42 : decode prog_20_method_1_code 42 = .ok (.lshl, 1) := by decide +kernel
theorem d1_43 : decode prog_20_method_1_code 43 = .ok (.lstore 4, 2) := by decide +kernel
theorem d1_45 : decode prog_20_method_1_code 45 = .ok (.aload_n 0, 1) := by decide +kernel
theorem d1_46 : decode prog_20_method_1_code 46 = .ok (.getfield 21, 3) := by decide +kernel
theorem d1_49 : decode prog_20_method_1_code 49 = .ok (.iload_n 3, 1) := by decide +kernel
theorem d1_50 : decode prog_20_method_1_code 50 = .ok (.lload_n 1, 1) := by decide +kernel
theorem d1_51 : decode prog_20_method_1_code 51 = .ok (.lload 4, 2) := by decide +kernel
theorem d1_53 : decode prog_20_method_1_code 53 = .ok (.lsub, 1) := by decide +kernel
theorem d1_54 : decode prog_20_method_1_code 54 = .ok (.ldc2_w 25, 3) := by decide +kernel
theorem d1_57 : decode prog_20_method_1_code 57 = .ok (.invokestatic 27, 3) := by decide +kernel
theorem d3_0 : decode jdk_29_method_70_code 0 = .ok (.lload_n 0, 1) := by decide +kernel
theorem d3_1 : decode jdk_29_method_70_code 1 = .ok (.lload_n 2, 1) := by decide +kernel
theorem d3_2 : decode jdk_29_method_70_code 2 = .ok (.lcmp, 1) := by decide +kernel
theorem d3_3 : decode jdk_29_method_70_code 3 = .ok (.ifCond .gt 7, 3) := by decide +kernel
theorem d3_6 : decode jdk_29_method_70_code 6 = .ok (.lload_n 0, 1) := by decide +kernel
theorem d3_7 : decode jdk_29_method_70_code 7 = .ok (.goto 4, 3) := by decide +kernel
theorem d3_11 : decode jdk_29_method_70_code 11 = .ok (.lreturn, 1) := by decide +kernel
theorem ef_1 (m : MethodId) (x0 : Int64) (x1 : Int64) : entryFrame m #[(.long x0), (.long x1)] 4 = mkF m 0 #[.val (.long x0), .second, .val (.long x1), .second] [] := by first | (simp [entryFrame, mkF, argsToLocals, Value.category]; done) | rfl
def Q1 (Z : State)  (h0 : Heap) (n0 : Nat) (v : Option Value) (h : Heap) (L : List Loc) : Prop := v = some (.long (4 : Int64)) ∧ Fr n0 L ∧ h = h0
set_option maxRecDepth 65536 in
set_option maxHeartbeats 40000000 in
theorem rm1 (l : Launch) (Z : State) (a0 : Array Value) (hw : ∀ d ∈ tables_1, d.before a0 Z = true) (ws : List Jvm.Cond)  (h0 : Heap) (n0 : Nat) (O0 : Old Z n0 h0) :
    MetFree l (⟨"java/lang/Math", "min", "(JJ)J"⟩ : MethodName) (head1 (Jvm.Cond.code (⟨"java/lang/Math", "min", "(JJ)J"⟩ : MethodName) jdk_29_method_70_code 4 (some .long) :: ws) ({ frames := 0, cells := 0, slots := 0, locals := 0 } : Room)) (fun a U => a = #[(.long (4 : Int64)), (.long (134217728 : Int64))] ∧ Z.Warmed39 U.vm ∧ U.heap = h0) (fun _ _ _ _ _ => True) (fun _ U o U' => ∃ v L, o = .returned v ∧ Q1 Z  h0 n0 v U'.heap L ∧ FrameEnd U o U' L ({ frames := 0, cells := 0, slots := 0, locals := 0 } : Room).cells ({ frames := 0, cells := 0, slots := 0, locals := 0 } : Room).slots) := by
  refine MetFree.of_bodySF (Jvm.Free.JP.mathPlain rfl (by decide +kernel)) hisR ?_
  intro p e s m args below meth c s₁ Bd hml0 hP hK
  obtain ⟨rfl, hZ, hh⟩ := hP
  have hx := Bd.exec
  have hby := Bd.bytes
  have hml : c.maxLocals = 4 := hml0
  have hown : s.vm.findClass "java/lang/Math" = some m.cls := findClass_of_methodNamed Bd.named
  have hnm := (name_of_methodNamed Bd.named Bd.method).1
  have X0 : Stand p l e ({ frames := 0, cells := 0, slots := 0, locals := 0 } : Room) s m #[(.long (4 : Int64)), (.long (134217728 : Int64))] below meth c s₁ [] 0 0 := Stand.of_body Bd
  have e0 : s₁.heap = h0 := by rw [← hh, Bd.state]; rfl
  have N0 := Fr.nil n0
  refine own_out ?_
  refine own_via (fun t k => castTop (ef_1 m (4 : Int64) (134217728 : Int64)) (XS.lloadN X0.here hx rfl (hb hby d3_0) rfl (XS.lloadN X0.here hx rfl (hb hby d3_1) rfl (XS.lcmp X0.here hx rfl (hb hby d3_2) rfl (XS.ifNo X0.here hx rfl (hb hby d3_3) rfl ((if0 _ _).trans (flt (by decide : ¬ ((0 : Int32) < (-1 : Int32)))).2.2.1) (XS.lloadN X0.here hx rfl (hb hby d3_6) rfl (XS.goto X0.here hx rfl (pc0 := 7) (pc' := 11) rfl (hb hby d3_7) (by decide) (by decide) k))))))) ?_
  obtain ⟨fs, hr, hrun, hended, hW, hsame⟩ := X0.leave (v := some (.long (4 : Int64))) (fun h => by rw [Bd.returns] at h; cases h)
  refine own_end (t := s₁.setFrames fs) ?_ ⟨_, hrun, hended, _, _, rfl, ?_, ⟨_, rfl⟩, hW, hsame.mono (by decide) (by decide)⟩
  · jvm_step X0.here [X0.here.top, hx, (hb hby d3_11), X0.method', Bd.returns, narrow]
    first | (intro acts; rw [hr _ acts rfl rfl rfl]) | rw [hr _ _ rfl rfl rfl]
    exact Steps.refl _
  · show Q1 Z  h0 n0 _ s₁.heap _
    rw [e0]
    exact ⟨rfl, N0, rfl⟩
theorem pd_1 : parseMethodDescriptor "(JJ)J" = some ⟨[.long, .long], some .long⟩ := by decide +kernel
theorem d1_60 : decode prog_20_method_1_code 60 = .ok (.l2i, 1) := by decide +kernel
theorem d1_61 : decode prog_20_method_1_code 61 = .ok (.newarray .long, 2) := by decide +kernel
theorem d1_63 : decode prog_20_method_1_code 63 = .ok (.aastore, 1) := by decide +kernel
theorem d1_64 : decode prog_20_method_1_code 64 = .ok (.iinc 3 1, 3) := by decide +kernel
theorem d1_67 : decode prog_20_method_1_code 67 = .ok (.goto (-39), 3) := by decide +kernel
theorem d1_70 : decode prog_20_method_1_code 70 = .ok (.aload_n 0, 1) := by decide +kernel
theorem d1_71 : decode prog_20_method_1_code 71 = .ok (.aload_n 0, 1) := by decide +kernel
theorem d1_72 : decode prog_20_method_1_code 72 = .ok (.getfield 21, 3) := by decide +kernel
theorem d1_75 : decode prog_20_method_1_code 75 = .ok (.iconst 0, 1) := by decide +kernel
theorem d1_76 : decode prog_20_method_1_code 76 = .ok (.aaload, 1) := by decide +kernel
theorem d1_77 : decode prog_20_method_1_code 77 = .ok (.putfield 33, 3) := by decide +kernel
theorem d1_80 : decode prog_20_method_1_code 80 = .ok (.return_, 1) := by decide +kernel
theorem ef_2 (m : MethodId) (x0 : Addr) (x1 : Int64) : entryFrame m #[(.ref x0), (.long x1)] 6 = mkF m 0 #[rv x0, .val (.long x1), .second, .unset, .unset, .unset] [] := by first | (simp [entryFrame, mkF, argsToLocals, Value.category]; done) | rfl
theorem pn_1 : plainName "com/example/tuccia/tuccia/WordArray" = true := by first | (simp [plainName, overriddenIn]; done) | decide +kernel
def Q2 (Z : State) (a10 : Addr) (j11 : Int64) (h0 : Heap) (n0 : Nat) (v : Option Value) (h : Heap) (L : List Loc) : Prop := (∃ (b38 : Addr) (k37 : ClassId), v = none ∧ Fr n0 L ∧ Keep h0 h [a10] ∧ Exa Z h a10 zs1 ∧ Fld Z h a10 zs1 "length" "J" (.long (4 : Int64)) ∧ Fld Z h a10 zs1 "firstBlock" "[J" (.ref b38) ∧ h0.size ≤ b38 ∧ Arv Z h b38 k37 .long (4 : Int32) [] (.long (0 : Int64)) ∧ Exa Z h b38 "[J")
set_option maxRecDepth 65536 in
set_option maxHeartbeats 40000000 in
theorem rm2 (l : Launch) (Z : State) (a0 : Array Value) (hw : ∀ d ∈ tables_1, d.before a0 Z = true) (ws : List Jvm.Cond) (a10 : Addr) (j11 : Int64) (h0 : Heap) (n0 : Nat) (O0 : Old Z n0 h0) (pF_a10_length : Fld Z h0 a10 zs1 "length" "J" (.long j11)) (pE_a10 : Exa Z h0 a10 zs1) (pG_a10 : n0 ≤ a10) (S_WordArray_BLOCK_SHIFT : Sta Z Z.heap zs1 "BLOCK_SHIFT" "I" (.int (27 : Int32))) (pF_a10_blocks : Fld Z h0 a10 zs1 "blocks" "[[J" .null) (pF_a10_firstBlock : Fld Z h0 a10 zs1 "firstBlock" "[J" .null) :
    MetFree l (⟨zs1, "<init>", "(J)V"⟩ : MethodName) (head1 (Jvm.Cond.code (⟨zs1, "<init>", "(J)V"⟩ : MethodName) prog_20_method_1_code 6 none :: ws) ({ frames := 1, cells := 2, slots := 5, locals := 17 } : Room)) (fun a U => a = #[(.ref a10), (.long (4 : Int64))] ∧ Z.Warmed39 U.vm ∧ U.heap = h0) (fun _ _ _ _ _ => True) (fun _ U o U' => ∃ v L, o = .returned v ∧ Q2 Z a10 j11 h0 n0 v U'.heap L ∧ FrameEnd U o U' L ({ frames := 1, cells := 2, slots := 5, locals := 17 } : Room).cells ({ frames := 1, cells := 2, slots := 5, locals := 17 } : Room).slots) := by
  refine MetFree.of_bodySF (plainFor_of_name pn_1) hisR ?_
  intro p e s m args below meth c s₁ Bd hml0 hP hK
  obtain ⟨rfl, hZ, hh⟩ := hP
  have hx := Bd.exec
  have hby := Bd.bytes
  have hml : c.maxLocals = 6 := hml0
  have hown : s.vm.findClass zs1 = some m.cls := findClass_of_methodNamed Bd.named
  have hnm := (name_of_methodNamed Bd.named Bd.method).1
  have X0 : Stand p l e ({ frames := 1, cells := 2, slots := 5, locals := 17 } : Room) s m #[(.ref a10), (.long (4 : Int64))] below meth c s₁ [] 0 0 := Stand.of_body Bd
  have e0 : s₁.heap = h0 := by rw [← hh, Bd.state]; rfl
  have N0 := Fr.nil n0
  refine own_out ?_
  refine own_via (fun t k => castTop (ef_2 m a10 (4 : Int64)) (XS.aloadN X0.here hx rfl (hb hby d1_0) rfl rfl k)) ?_
  obtain ⟨T12, X12, e12, st12⟩ := initO X0 hx hZ hown (wd hw 8 rfl) (wd hw 9 rfl) (wd hw 10 rfl) e0 (g := (mkF m 1 #[rv a10, .val (.long (4 : Int64)), .second, .unset, .unset, .unset] [(.ref a10)])) rfl (by rw [hml]; rfl) rfl (hb hby d1_1) (by decide) (W := 0) (by show 2 * 0 + _ ≤ _; exact Nat.le_of_eq rfl) (by decide)
  refine own_via (fun t k => st12 t (XS.aloadN X12.here hx rfl (hb hby d1_4) rfl rfl (XS.lloadN X12.here hx rfl (hb hby d1_5) rfl k))) ?_
  obtain ⟨T13, h13, X13, e13, W13, st13⟩ := putF X12 hx hZ hown (host := "") (Or.inl (wd hw 11 rfl)) Via.refl e12 pF_a10_length pE_a10 (Or.inr ⟨(wd hw 12 rfl), rfl, hnm⟩) (wd hw 2 rfl) (ty := .long) (by decide) rfl rfl (g := (mkF m 6 #[rv a10, .val (.long (4 : Int64)), .second, .unset, .unset, .unset] [(.long (4 : Int64)), (.ref a10)])) rfl rfl (hb hby d1_6)
  refine own_via (fun t k => st13 t k) ?_
  have Fw13 : Fld Z h13 a10 zs1 "length" "J" (.long (4 : Int64)) := pF_a10_length.same W13
  have N13 := Fr.snoc X13 N0 pG_a10
  show own_Goes p e below (T13.setTop (mkF m 9 #[rv a10, .val (.long (4 : Int64)), .second, .unset, .unset, .unset] [])) _
  refine own_via (fun t k => XS.aloadN X13.here hx rfl (hb hby d1_9) rfl rfl (XS.lloadN X13.here hx rfl (hb hby d1_10) rfl (X13.ldc2Long hx hown (mvT hZ (wd hw 13 rfl)) (g := (mkF m 11 #[rv a10, .val (.long (4 : Int64)), .second, .unset, .unset, .unset] [(.long (4 : Int64)), (.ref a10)])) rfl (hb hby d1_11) t (XS.ladd X13.here hx rfl (hb hby d1_14) rfl k)))) ?_
  have O15 : Old Z n0 h13 := (O0.wr W13 pG_a10)
  obtain ⟨T14, X14, e14, st14⟩ := getS2 X13 hx hZ hown (host := "") (Or.inl (wd hw 14 rfl)) Via.refl e13 (S_WordArray_BLOCK_SHIFT.ext O15.2) (g := (mkF m 15 #[rv a10, .val (.long (4 : Int64)), .second, .unset, .unset, .unset] [(.long (134217731 : Int64)), (.ref a10)])) rfl (hb hby d1_15)
  refine own_via (fun t k => st14 t (XS.lushr X14.here hx rfl (hb hby d1_18) rfl (XS.l2i X14.here hx rfl (hb hby d1_19) rfl k))) ?_
  obtain ⟨T16, h16, k16, X16, e16, E16, A16, -, O16, st16⟩ := newRA X14 hx hZ hown (C := "[J") (ty := .long) (by decide) (wd hw 16 rfl) (wd hw 17 rfl) e14 (g := (mkF m 20 #[rv a10, .val (.long (4 : Int64)), .second, .unset, .unset, .unset] [(.int (1 : Int32)), (.ref a10)])) rfl (hb hby d1_20) rfl (by decide) (cap := 1) (by decide) (by decide) (by decide) (by decide) (ad := "[[J") (by decide)
  obtain ⟨b17, q16⟩ : ∃ z, z = h13.size := ⟨_, rfl⟩
  rw [← q16] at A16 st16
  refine own_via (fun t k => st16 t k) ?_
  have g18 : n0 ≤ b17 := Nat.le_trans (own_old O15) (Nat.le_of_eq q16.symm)
  have Z20 : h0.size ≤ h13.size := (Nat.le_trans (Nat.le_refl _) (Nat.le_of_eq W13.size.symm))
  have B19 : h0.size ≤ b17 := Nat.le_trans Z20 (Nat.le_of_eq q16.symm)
  have V21 : Arv Z h16 b17 k16 (.array .long) (1 : Int32) [] .null := Arv.new A16 (by decide)
  show own_Goes p e below (T16.setTop (mkF m 23 #[rv a10, .val (.long (4 : Int64)), .second, .unset, .unset, .unset] [(.ref b17), (.ref a10)])) _
  have F22 : Fld Z h16 a10 zs1 "blocks" "[[J" .null := ((pF_a10_blocks.other W13 (Or.inr (slot_ne (Or.inr (wd hw 19 rfl)) (Or.inr (wd hw 12 rfl)) (by decide) (t := (.array (.array .long))) (t' := .long) (by decide) (by decide)))).ext E16)
  have E23 : Exa Z h16 a10 zs1 := ((pE_a10.wr W13).ext E16)
  obtain ⟨T24, h24, X24, e24, W24, st24⟩ := putF X16 hx hZ hown (host := "") (Or.inl (wd hw 18 rfl)) Via.refl e16 F22 E23 (Or.inr ⟨(wd hw 19 rfl), rfl, hnm⟩) (wd hw 2 rfl) (ty := (.array (.array .long))) (by decide) rfl rfl (g := (mkF m 23 #[rv a10, .val (.long (4 : Int64)), .second, .unset, .unset, .unset] [(.ref b17), (.ref a10)])) rfl rfl (hb hby d1_23)
  refine own_via (fun t k => st24 t k) ?_
  have Fw24 : Fld Z h24 a10 zs1 "blocks" "[[J" (.ref b17) := F22.same W24
  have N24 := Fr.snoc X24 N13 pG_a10
  show own_Goes p e below (T24.setTop (mkF m 26 #[rv a10, .val (.long (4 : Int64)), .second, .unset, .unset, .unset] [])) _
  refine own_via (fun t k => XS.iconst X24.here hx rfl (hb hby d1_26) (XS.istoreN X24.here hx rfl (hb hby d1_27) rfl (l' := #[rv a10, .val (.long (4 : Int64)), .second, iv (0 : Int32), .unset, .unset]) rfl (XS.iloadN X24.here hx rfl (hb hby d1_28) rfl (XS.aloadN X24.here hx rfl (hb hby d1_29) rfl rfl k)))) ?_
  obtain ⟨T25, X25, e25, st25⟩ := getF X24 hx hZ hown (host := "") (Or.inl (wd hw 18 rfl)) Via.refl e24 Fw24 (g := (mkF m 30 #[rv a10, .val (.long (4 : Int64)), .second, iv (0 : Int32), .unset, .unset] [(.ref a10), (.int (0 : Int32))])) rfl rfl (hb hby d1_30)
  refine own_via (fun t k => st25 t k) ?_
  have V26 : Arv Z h24 b17 k16 (.array .long) (1 : Int32) [] .null := (V21.other W24 (Ne.symm (Nat.ne_of_lt (Nat.lt_of_lt_of_le pE_a10.lt B19))))
  obtain ⟨cl27, Ar27, -, S27, M27, -, -⟩ := id (V26)
  refine own_via (fun t k => X25.arraylength hx (by rw [e25]; exact Ar27.1) (State.isArrayOf_alike hZ.alike Ar27.2.1) (g := (mkF m 33 #[rv a10, .val (.long (4 : Int64)), .second, iv (0 : Int32), .unset, .unset] [(.ref b17), (.int (0 : Int32))])) rfl rfl (hb hby d1_33) t k) ?_
  rw [len_of S27 M27]
  show own_Goes p e below (T25.setTop (mkF m 34 #[rv a10, .val (.long (4 : Int64)), .second, iv (0 : Int32), .unset, .unset] [(.int (1 : Int32)), (.int (0 : Int32))])) _
  refine own_via (fun t k => XS.icmpNo X25.here hx rfl (hb hby d1_34) rfl (tlt (by decide : (0 : Int32) < (1 : Int32))).2.1 (XS.iloadN X25.here hx rfl (hb hby d1_37) rfl (XS.i2l X25.here hx rfl (hb hby d1_38) rfl k))) ?_
  have O29 : Old Z n0 h24 := ((O15.ext E16).wr W24 pG_a10)
  obtain ⟨T28, X28, e28, st28⟩ := getS2 X25 hx hZ hown (host := "") (Or.inl (wd hw 14 rfl)) Via.refl e25 (S_WordArray_BLOCK_SHIFT.ext O29.2) (g := (mkF m 39 #[rv a10, .val (.long (4 : Int64)), .second, iv (0 : Int32), .unset, .unset] [(.long (0 : Int64))])) rfl (hb hby d1_39)
  refine own_via (fun t k => st28 t (XS.lshl X28.here hx rfl (hb hby d1_42) rfl (XS.lstore X28.here hx rfl (hb hby d1_43) rfl (l' := #[rv a10, .val (.long (4 : Int64)), .second, iv (0 : Int32), .val (.long (0 : Int64)), .second]) rfl (XS.aloadN X28.here hx rfl (hb hby d1_45) rfl rfl k)))) ?_
  obtain ⟨T30, X30, e30, st30⟩ := getF X28 hx hZ hown (host := "") (Or.inl (wd hw 18 rfl)) Via.refl e28 Fw24 (g := (mkF m 46 #[rv a10, .val (.long (4 : Int64)), .second, iv (0 : Int32), .val (.long (0 : Int64)), .second] [(.ref a10)])) rfl rfl (hb hby d1_46)
  refine own_via (fun t k => st30 t (XS.iloadN X30.here hx rfl (hb hby d1_49) rfl (XS.lloadN X30.here hx rfl (hb hby d1_50) rfl (XS.lload X30.here hx rfl (hb hby d1_51) rfl (XS.lsub X30.here hx rfl (hb hby d1_53) rfl (X30.ldc2Long hx hown (mvT hZ (wd hw 20 rfl)) (g := (mkF m 54 #[rv a10, .val (.long (4 : Int64)), .second, iv (0 : Int32), .val (.long (0 : Int64)), .second] [(.long (4 : Int64)), (.int (0 : Int32)), (.ref b17)])) rfl (hb hby d1_54) t k)))))) ?_
  obtain ⟨_, T31, _, X31, hQ31, st31⟩ := own_cs X30 hx hZ hown (wd hw 21 rfl) (wd hw 22 rfl) (wd hw 24 rfl) (wd hw 23 rfl) (by decide) (rm1 l Z a0 hw []  h24 n0 O29 ) e30 (g := (mkF m 57 #[rv a10, .val (.long (4 : Int64)), .second, iv (0 : Int32), .val (.long (0 : Int64)), .second] [(.long (134217728 : Int64)), (.long (4 : Int64)), (.int (0 : Int32)), (.ref b17)])) rfl (by rw [hml]; rfl) (rest := [(.int (0 : Int32)), (.ref b17)]) (W := 2) (lenOf pd_1 rfl) rfl (by show 2 * 0 + _ ≤ _; exact Nat.le_of_eq rfl) (hb hby d1_57) (by decide) (by decide) (by decide) (by decide)
  obtain ⟨rfl, Nq31, hh36⟩ := hQ31
  have N31 := Fr.app N24 Nq31
  refine own_via (fun t k => st31 t (XS.l2i X31.here hx rfl (hb hby d1_60) rfl k)) ?_
  obtain ⟨T37, h37, k37, X37, e37, E37, A37, a37x, st37⟩ := newPE X31 hx hZ (wd hw 25 rfl) hh36 (g := (mkF m 61 #[rv a10, .val (.long (4 : Int64)), .second, iv (0 : Int32), .val (.long (0 : Int64)), .second] [(.int (4 : Int32)), (.int (0 : Int32)), (.ref b17)])) rfl (hb hby d1_61) rfl (by decide) (cap := 4) (by decide) (by decide) (by decide) (by decide) (ad := "[J") (by decide)
  obtain ⟨b38, q37⟩ : ∃ z, z = h24.size := ⟨_, rfl⟩
  rw [← q37] at A37 st37 a37x
  refine own_via (fun t k => st37 t k) ?_
  have N39 : b17 ≠ b38 := Nat.ne_of_lt (Nat.lt_of_lt_of_le V26.lt (Nat.le_of_eq q37.symm))
  have g40 : n0 ≤ b38 := Nat.le_trans (own_old O29) (Nat.le_of_eq q37.symm)
  have Z42 : h0.size ≤ h24.size := (Nat.le_trans (Nat.le_trans Z20 E16.1) (Nat.le_of_eq W24.size.symm))
  have B41 : h0.size ≤ b38 := Nat.le_trans Z42 (Nat.le_of_eq q37.symm)
  have V43 : Arv Z h37 b38 k37 .long (4 : Int32) [] (.long (0 : Int64)) := Arv.new A37 (by decide)
  show own_Goes p e below (T37.setTop (mkF m 63 #[rv a10, .val (.long (4 : Int64)), .second, iv (0 : Int32), .val (.long (0 : Int64)), .second] [(.ref b38), (.int (0 : Int32)), (.ref b17)])) _
  have V44 : Arv Z h37 b17 k16 (.array .long) (1 : Int32) [] .null := (V26.ext E37)
  have V45 : Arv Z h37 b17 k16 (.array .long) (1 : Int32) [.null] .null := V44.pad (pad_rep [] .null 1)
  obtain ⟨cl46, Ar46, qq46, S46, M46, H46, G46⟩ := id (V45)
  have hin46 : ¬ ((0 : Int32) < 0 ∨ cl46.slots.size ≤ ((0 : Int32)).toNatClampNeg) := inb_of S46 ⟨by decide, by decide⟩
  obtain ⟨T46, h46, X46, e46, W46, st46⟩ := stR X37 hx hZ e37 Ar46 (j := (0 : Int32)) hin46 rfl (Sto.ofVA Ar46 qq46 O16 (Ins.self a37x)) (g := (mkF m 63 #[rv a10, .val (.long (4 : Int64)), .second, iv (0 : Int32), .val (.long (0 : Int64)), .second] [(.ref b38), (.int (0 : Int32)), (.ref b17)])) rfl rfl (hb hby d1_63)
  refine own_via (fun t k => st46 t k) ?_
  have V47 : Arv Z h46 b17 k16 (.array .long) (1 : Int32) [(.ref b38)] .null := Arv.set Ar46 qq46 S46 M46 H46 G46 rfl W46 0 rfl (Nat.le_of_ble_eq_true rfl)
  have N46 := Fr.snoc X46 N31 g18
  show own_Goes p e below (T46.setTop (mkF m 64 #[rv a10, .val (.long (4 : Int64)), .second, iv (0 : Int32), .val (.long (0 : Int64)), .second] [])) _
  refine own_via (fun t k => XS.iinc X46.here hx rfl (hb hby d1_64) rfl (l' := #[rv a10, .val (.long (4 : Int64)), .second, iv (1 : Int32), .val (.long (0 : Int64)), .second]) rfl (XS.goto X46.here hx rfl (pc0 := 67) (pc' := 28) rfl (hb hby d1_67) (by decide) (by decide) (XS.iloadN X46.here hx rfl (hb hby d1_28) rfl (XS.aloadN X46.here hx rfl (hb hby d1_29) rfl rfl k)))) ?_
  have F48 : Fld Z h46 a10 zs1 "blocks" "[[J" (.ref b17) := ((Fw24.ext E37).other W46 (Or.inl (Nat.ne_of_lt (Nat.lt_of_lt_of_le pE_a10.lt B19))))
  obtain ⟨T49, X49, e49, st49⟩ := getF X46 hx hZ hown (host := "") (Or.inl (wd hw 18 rfl)) Via.refl e46 F48 (g := (mkF m 30 #[rv a10, .val (.long (4 : Int64)), .second, iv (1 : Int32), .val (.long (0 : Int64)), .second] [(.ref a10), (.int (1 : Int32))])) rfl rfl (hb hby d1_30)
  refine own_via (fun t k => st49 t k) ?_
  obtain ⟨cl50, Ar50, -, S50, M50, -, -⟩ := id (V47)
  refine own_via (fun t k => X49.arraylength hx (by rw [e49]; exact Ar50.1) (State.isArrayOf_alike hZ.alike Ar50.2.1) (g := (mkF m 33 #[rv a10, .val (.long (4 : Int64)), .second, iv (1 : Int32), .val (.long (0 : Int64)), .second] [(.ref b17), (.int (1 : Int32))])) rfl rfl (hb hby d1_33) t k) ?_
  rw [len_of S50 M50]
  show own_Goes p e below (T49.setTop (mkF m 34 #[rv a10, .val (.long (4 : Int64)), .second, iv (1 : Int32), .val (.long (0 : Int64)), .second] [(.int (1 : Int32)), (.int (1 : Int32))])) _
  refine own_via (fun t k => XS.icmpYes X49.here hx rfl (pc0 := 34) (pc' := 70) rfl (hb hby d1_34) rfl (flt (by decide : ¬ ((1 : Int32) < (1 : Int32)))).2.1 (by decide) (by decide) (XS.aloadN X49.here hx rfl (hb hby d1_70) rfl rfl (XS.aloadN X49.here hx rfl (hb hby d1_71) rfl rfl k))) ?_
  obtain ⟨T51, X51, e51, st51⟩ := getF X49 hx hZ hown (host := "") (Or.inl (wd hw 18 rfl)) Via.refl e49 F48 (g := (mkF m 72 #[rv a10, .val (.long (4 : Int64)), .second, iv (1 : Int32), .val (.long (0 : Int64)), .second] [(.ref a10), (.ref a10)])) rfl rfl (hb hby d1_72)
  refine own_via (fun t k => st51 t (XS.iconst X51.here hx rfl (hb hby d1_75) k)) ?_
  obtain ⟨cl52, Ar52, qq52, S52, M52, H52, G52⟩ := id (V47)
  have hin52 : ¬ ((0 : Int32) < 0 ∨ cl52.slots.size ≤ ((0 : Int32)).toNatClampNeg) := inb_of S52 ⟨by decide, by decide⟩
  refine own_via (fun t k => X51.aaload hx (j := (0 : Int32)) (v := (.ref b38)) (by rw [e51]; exact Ar52.1) (State.isArrayOf_alike hZ.alike Ar52.2.1) rfl Ar52.2.2 hin52 (Has.at H52 hin52 rfl) (g := (mkF m 76 #[rv a10, .val (.long (4 : Int64)), .second, iv (1 : Int32), .val (.long (0 : Int64)), .second] [(.int (0 : Int32)), (.ref b17), (.ref a10)])) rfl rfl (hb hby d1_76) t k) ?_
  have F53 : Fld Z h46 a10 zs1 "firstBlock" "[J" .null := (((((pF_a10_firstBlock.other W13 (Or.inr (slot_ne (Or.inr (wd hw 28 rfl)) (Or.inr (wd hw 12 rfl)) (by decide) (t := (.array .long)) (t' := .long) (by decide) (by decide)))).ext E16).other W24 (Or.inr (slot_ne (Or.inr (wd hw 28 rfl)) (Or.inr (wd hw 19 rfl)) (by decide) (t := (.array .long)) (t' := (.array (.array .long))) (by decide) (by decide)))).ext E37).other W46 (Or.inl (Nat.ne_of_lt (Nat.lt_of_lt_of_le pE_a10.lt B19))))
  have E54 : Exa Z h46 a10 zs1 := (((E23.wr W24).ext E37).wr W46)
  obtain ⟨T55, h55, X55, e55, W55, st55⟩ := putF X51 hx hZ hown (host := "") (Or.inl (wd hw 27 rfl)) Via.refl e51 F53 E54 (Or.inr ⟨(wd hw 28 rfl), rfl, hnm⟩) (wd hw 2 rfl) (ty := (.array .long)) (by decide) rfl rfl (g := (mkF m 77 #[rv a10, .val (.long (4 : Int64)), .second, iv (1 : Int32), .val (.long (0 : Int64)), .second] [(.ref b38), (.ref a10)])) rfl rfl (hb hby d1_77)
  refine own_via (fun t k => st55 t k) ?_
  have Fw55 : Fld Z h55 a10 zs1 "firstBlock" "[J" (.ref b38) := F53.same W55
  have N55 := Fr.snoc X55 N46 pG_a10
  show own_Goes p e below (T55.setTop (mkF m 80 #[rv a10, .val (.long (4 : Int64)), .second, iv (1 : Int32), .val (.long (0 : Int64)), .second] [])) _
  obtain ⟨fs, hr, hrun, hended, hW, hsame⟩ := X55.leave (v := none) (fun _ => rfl)
  refine own_end (t := T55.setFrames fs) ?_ ⟨_, hrun, hended, _, _, rfl, ?_, ⟨_, rfl⟩, hW, hsame.mono (by decide) (by decide)⟩
  · exact X55.returnOut hx Bd.returns (hb hby d1_80) hr
  have E56 : Exa Z h55 a10 zs1 := (E54.wr W55)
  have F57 : Fld Z h55 a10 zs1 "length" "J" (.long (4 : Int64)) := (((((Fw13.ext E16).other W24 (Or.inr (slot_ne (Or.inr (wd hw 12 rfl)) (Or.inr (wd hw 19 rfl)) (by decide) (t := .long) (t' := (.array (.array .long))) (by decide) (by decide)))).ext E37).other W46 (Or.inl (Nat.ne_of_lt (Nat.lt_of_lt_of_le pE_a10.lt B19)))).other W55 (Or.inr (slot_ne (Or.inr (wd hw 12 rfl)) (Or.inr (wd hw 28 rfl)) (by decide) (t := .long) (t' := (.array .long)) (by decide) (by decide))))
  have V58 : Arv Z h55 b38 k37 .long (4 : Int32) [] (.long (0 : Int64)) := ((V43.other W46 (Ne.symm N39)).other W55 (Ne.symm (Nat.ne_of_lt (Nat.lt_of_lt_of_le pE_a10.lt B41))))
  have E59 : Exa Z h55 b38 "[J" := ((a37x.wr W46).wr W55)
  · show Q2 Z a10 j11 h0 n0 _ T55.heap _
    rw [e55]
    exact ⟨b38, k37, rfl, N55, (((((((Keep.refl h0 [a10]).wr W13 (Or.inl (List.mem_of_getElem? (i := 0) rfl))).ext E16).wr W24 (Or.inl (List.mem_of_getElem? (i := 0) rfl))).ext E37).wr W46 (Or.inr B19)).wr W55 (Or.inl (List.mem_of_getElem? (i := 0) rfl))), E56, F57, Fw55, B41, V58, E59⟩
theorem pd_2 : parseMethodDescriptor "(J)V" = some ⟨[.long], none⟩ := by decide +kernel
theorem d4_0 : decode prog_20_method_4_code 0 = .ok (.aload_n 0, 1) := by decide +kernel
theorem d4_1 : decode prog_20_method_4_code 1 = .ok (.lload_n 1, 1) := by decide +kernel
theorem d4_2 : decode prog_20_method_4_code 2 = .ok (.invokevirtual 36, 3) := by decide +kernel
theorem d5_0 : decode prog_20_method_11_code 0 = .ok (.lload_n 1, 1) := by decide +kernel
theorem d5_1 : decode prog_20_method_11_code 1 = .ok (.ldc2_w 25, 3) := by decide +kernel
theorem d5_4 : decode prog_20_method_11_code 4 = .ok (.lcmp, 1) := by decide +kernel
theorem d5_5 : decode prog_20_method_11_code 5 = .ok (.ifCond .ge 11, 3) := by decide +kernel
theorem d5_8 : decode prog_20_method_11_code 8 = .ok (.aload_n 0, 1) := by decide +kernel
theorem d5_9 : decode prog_20_method_11_code 9 = .ok (.getfield 33, 3) := by decide +kernel
theorem d5_12 : decode prog_20_method_11_code 12 = .ok (.astore_n 3, 1) := by decide +kernel
theorem d5_13 : decode prog_20_method_11_code 13 = .ok (.goto 15, 3) := by decide +kernel
theorem d5_28 : decode prog_20_method_11_code 28 = .ok (.aload_n 3, 1) := by decide +kernel
theorem d5_29 : decode prog_20_method_11_code 29 = .ok (.areturn, 1) := by decide +kernel
theorem ef_3 (m : MethodId) (x0 : Addr) (x1 : Int64) : entryFrame m #[(.ref x0), (.long x1)] 4 = mkF m 0 #[rv x0, .val (.long x1), .second, .unset] [] := by first | (simp [entryFrame, mkF, argsToLocals, Value.category]; done) | rfl
def Q3 (Z : State) (a80 : Addr) (a81 : Addr) (h0 : Heap) (n0 : Nat) (v : Option Value) (h : Heap) (L : List Loc) : Prop := v = some (.ref a81) ∧ Fr n0 L ∧ h = h0
set_option maxRecDepth 65536 in
set_option maxHeartbeats 40000000 in
theorem rm3 (l : Launch) (Z : State) (a0 : Array Value) (hw : ∀ d ∈ tables_1, d.before a0 Z = true) (ws : List Jvm.Cond) (a80 : Addr) (a81 : Addr) (h0 : Heap) (n0 : Nat) (O0 : Old Z n0 h0) (pF_a80_firstBlock : Fld Z h0 a80 zs1 "firstBlock" "[J" (.ref a81)) :
    MetFree l (⟨zs1, "blockOf", "(J)[J"⟩ : MethodName) (head1 (Jvm.Cond.code (⟨zs1, "blockOf", "(J)[J"⟩ : MethodName) prog_20_method_11_code 4 (some (.array .long)) :: ws) ({ frames := 0, cells := 0, slots := 0, locals := 0 } : Room)) (fun a U => a = #[(.ref a80), (.long (0 : Int64))] ∧ Z.Warmed39 U.vm ∧ U.heap = h0) (fun _ _ _ _ _ => True) (fun _ U o U' => ∃ v L, o = .returned v ∧ Q3 Z a80 a81 h0 n0 v U'.heap L ∧ FrameEnd U o U' L ({ frames := 0, cells := 0, slots := 0, locals := 0 } : Room).cells ({ frames := 0, cells := 0, slots := 0, locals := 0 } : Room).slots) := by
  refine MetFree.of_bodySF (plainFor_of_name pn_1) hisR ?_
  intro p e s m args below meth c s₁ Bd hml0 hP hK
  obtain ⟨rfl, hZ, hh⟩ := hP
  have hx := Bd.exec
  have hby := Bd.bytes
  have hml : c.maxLocals = 4 := hml0
  have hown : s.vm.findClass zs1 = some m.cls := findClass_of_methodNamed Bd.named
  have hnm := (name_of_methodNamed Bd.named Bd.method).1
  have X0 : Stand p l e ({ frames := 0, cells := 0, slots := 0, locals := 0 } : Room) s m #[(.ref a80), (.long (0 : Int64))] below meth c s₁ [] 0 0 := Stand.of_body Bd
  have e0 : s₁.heap = h0 := by rw [← hh, Bd.state]; rfl
  have N0 := Fr.nil n0
  refine own_out ?_
  refine own_via (fun t k => castTop (ef_3 m a80 (0 : Int64)) (XS.lloadN X0.here hx rfl (hb hby d5_0) rfl (X0.ldc2Long hx hown (mvT hZ (wd hw 20 rfl)) (g := (mkF m 1 #[rv a80, .val (.long (0 : Int64)), .second, .unset] [(.long (0 : Int64))])) rfl (hb hby d5_1) t (XS.lcmp X0.here hx rfl (hb hby d5_4) rfl (XS.ifNo X0.here hx rfl (hb hby d5_5) rfl ((if0 _ _).trans (tlt (by decide : (-1 : Int32) < (0 : Int32))).2.1) (XS.aloadN X0.here hx rfl (hb hby d5_8) rfl rfl k)))))) ?_
  obtain ⟨T84, X84, e84, st84⟩ := getF X0 hx hZ hown (host := "") (Or.inl (wd hw 27 rfl)) Via.refl e0 pF_a80_firstBlock (g := (mkF m 9 #[rv a80, .val (.long (0 : Int64)), .second, .unset] [(.ref a80)])) rfl rfl (hb hby d5_9)
  refine own_via (fun t k => st84 t (XS.astoreN X84.here hx rfl (hb hby d5_12) rfl rfl (l' := #[rv a80, .val (.long (0 : Int64)), .second, rv a81]) rfl (XS.goto X84.here hx rfl (pc0 := 13) (pc' := 28) rfl (hb hby d5_13) (by decide) (by decide) (XS.aloadN X84.here hx rfl (hb hby d5_28) rfl rfl k)))) ?_
  obtain ⟨fs, hr, hrun, hended, hW, hsame⟩ := X84.leave (v := some (.ref a81)) (fun h => by rw [Bd.returns] at h; cases h)
  refine own_end (t := T84.setFrames fs) ?_ ⟨_, hrun, hended, _, _, rfl, ?_, ⟨_, rfl⟩, hW, hsame.mono (by decide) (by decide)⟩
  · jvm_step X84.here [X84.here.top, hx, (hb hby d5_29), X84.method', Bd.returns, Value.isRef, FieldType.isReference]
    first | (intro acts; rw [hr _ acts rfl rfl rfl]) | rw [hr _ _ rfl rfl rfl]
    exact Steps.refl _
  · show Q3 Z a80 a81 h0 n0 _ T84.heap _
    rw [e84]
    exact ⟨rfl, N0, rfl⟩
theorem pd_3 : parseMethodDescriptor "(J)[J" = some ⟨[.long], some (.array .long)⟩ := by decide +kernel
theorem own_selPriv {args : Array Value} {s : State} {y : MethodName} {n : Nat} (hw : (Jvm.Cond.instantiable y.cls n).before args s = true) (hi : (Jvm.Cond.instanceMethod y).before args s = true) (hp : s.PrivateAt y) (hy : y.cls ≠ "java/lang/invoke/MethodHandle" ∧ y.cls ≠ "java/lang/invoke/VarHandle") : (Jvm.Cond.selects y.cls y y).before args s = true := by
  obtain ⟨c, k, h1, h2, -, h4, -⟩ := Cond.instantiable_spec hw
  exact selects_self_of_private h1 h2 (by cases hk : k.isInterface <;> simp_all) hp hi hy
theorem d4_5 : decode prog_20_method_4_code 5 = .ok (.lload_n 1, 1) := by decide +kernel
theorem d4_6 : decode prog_20_method_4_code 6 = .ok (.invokestatic 40, 3) := by decide +kernel
theorem d6_0 : decode prog_20_method_12_code 0 = .ok (.lload_n 0, 1) := by decide +kernel
theorem d6_1 : decode prog_20_method_12_code 1 = .ok (.ldc2_w 13, 3) := by decide +kernel
theorem d6_4 : decode prog_20_method_12_code 4 = .ok (.land, 1) := by decide +kernel
theorem d6_5 : decode prog_20_method_12_code 5 = .ok (.l2i, 1) := by decide +kernel
theorem d6_6 : decode prog_20_method_12_code 6 = .ok (.ireturn, 1) := by decide +kernel
theorem ef_4 (m : MethodId) (x0 : Int64) : entryFrame m #[(.long x0)] 2 = mkF m 0 #[.val (.long x0), .second] [] := by first | (simp [entryFrame, mkF, argsToLocals, Value.category]; done) | rfl
def Q4 (Z : State)  (h0 : Heap) (n0 : Nat) (v : Option Value) (h : Heap) (L : List Loc) : Prop := v = some (.int (0 : Int32)) ∧ Fr n0 L ∧ h = h0
set_option maxRecDepth 65536 in
set_option maxHeartbeats 40000000 in
theorem rm4 (l : Launch) (Z : State) (a0 : Array Value) (hw : ∀ d ∈ tables_1, d.before a0 Z = true) (ws : List Jvm.Cond)  (h0 : Heap) (n0 : Nat) (O0 : Old Z n0 h0) :
    MetFree l (⟨zs1, "inBlock", "(J)I"⟩ : MethodName) (head1 (Jvm.Cond.code (⟨zs1, "inBlock", "(J)I"⟩ : MethodName) prog_20_method_12_code 2 (some .int) :: ws) ({ frames := 0, cells := 0, slots := 0, locals := 0 } : Room)) (fun a U => a = #[(.long (0 : Int64))] ∧ Z.Warmed39 U.vm ∧ U.heap = h0) (fun _ _ _ _ _ => True) (fun _ U o U' => ∃ v L, o = .returned v ∧ Q4 Z  h0 n0 v U'.heap L ∧ FrameEnd U o U' L ({ frames := 0, cells := 0, slots := 0, locals := 0 } : Room).cells ({ frames := 0, cells := 0, slots := 0, locals := 0 } : Room).slots) := by
  refine MetFree.of_bodySF (plainFor_of_name pn_1) hisR ?_
  intro p e s m args below meth c s₁ Bd hml0 hP hK
  obtain ⟨rfl, hZ, hh⟩ := hP
  have hx := Bd.exec
  have hby := Bd.bytes
  have hml : c.maxLocals = 2 := hml0
  have hown : s.vm.findClass zs1 = some m.cls := findClass_of_methodNamed Bd.named
  have hnm := (name_of_methodNamed Bd.named Bd.method).1
  have X0 : Stand p l e ({ frames := 0, cells := 0, slots := 0, locals := 0 } : Room) s m #[(.long (0 : Int64))] below meth c s₁ [] 0 0 := Stand.of_body Bd
  have e0 : s₁.heap = h0 := by rw [← hh, Bd.state]; rfl
  have N0 := Fr.nil n0
  refine own_out ?_
  refine own_via (fun t k => castTop (ef_4 m (0 : Int64)) (XS.lloadN X0.here hx rfl (hb hby d6_0) rfl (X0.ldc2Long hx hown (mvT hZ (wd hw 13 rfl)) (g := (mkF m 1 #[.val (.long (0 : Int64)), .second] [(.long (0 : Int64))])) rfl (hb hby d6_1) t (XS.land X0.here hx rfl (hb hby d6_4) rfl (XS.l2i X0.here hx rfl (hb hby d6_5) rfl k))))) ?_
  obtain ⟨fs, hr, hrun, hended, hW, hsame⟩ := X0.leave (v := some (.int (0 : Int32))) (fun h => by rw [Bd.returns] at h; cases h)
  refine own_end (t := s₁.setFrames fs) ?_ ⟨_, hrun, hended, _, _, rfl, ?_, ⟨_, rfl⟩, hW, hsame.mono (by decide) (by decide)⟩
  · exact retI X0 hx Bd.returns (hb hby d6_6) hr
  · show Q4 Z  h0 n0 _ s₁.heap _
    rw [e0]
    exact ⟨rfl, N0, rfl⟩
theorem pd_4 : parseMethodDescriptor "(J)I" = some ⟨[.long], some .int⟩ := by decide +kernel
theorem d4_9 : decode prog_20_method_4_code 9 = .ok (.lload_n 3, 1) := by decide +kernel
theorem d4_10 : decode prog_20_method_4_code 10 = .ok (.lastore, 1) := by decide +kernel
theorem d4_11 : decode prog_20_method_4_code 11 = .ok (.return_, 1) := by decide +kernel
theorem ef_5 (m : MethodId) (x0 : Addr) (x1 : Int64) (x2 : Int64) : entryFrame m #[(.ref x0), (.long x1), (.long x2)] 5 = mkF m 0 #[rv x0, .val (.long x1), .second, .val (.long x2), .second] [] := by first | (simp [entryFrame, mkF, argsToLocals, Value.category]; done) | rfl
def Q5 (Z : State) (a74 : Addr) (j75 : Int64) (a76 : Addr) (k78 : ClassId) (h0 : Heap) (n0 : Nat) (v : Option Value) (h : Heap) (L : List Loc) : Prop := v = none ∧ Fr n0 L ∧ Keep h0 h [a76] ∧ Arv Z h a76 k78 .long (4 : Int32) [(.long j75)] (.long (0 : Int64)) ∧ Exa Z h a76 "[J"
set_option maxRecDepth 65536 in
set_option maxHeartbeats 40000000 in
theorem rm5 (l : Launch) (Z : State) (a0 : Array Value) (hw : ∀ d ∈ tables_1, d.before a0 Z = true) (ws : List Jvm.Cond) (a74 : Addr) (j75 : Int64) (a76 : Addr) (k78 : ClassId) (h0 : Heap) (n0 : Nat) (O0 : Old Z n0 h0) (pF_a74_firstBlock : Fld Z h0 a74 zs1 "firstBlock" "[J" (.ref a76)) (pE_a74 : Exa Z h0 a74 zs1) (pV_a76 : Arv Z h0 a76 k78 .long (4 : Int32) [] (.long (0 : Int64))) (pG_a76 : n0 ≤ a76) (pE_a76 : Exa Z h0 a76 "[J") :
    MetFree l (⟨zs1, "set", "(JJ)V"⟩ : MethodName) (head1 (Jvm.Cond.code (⟨zs1, "set", "(JJ)V"⟩ : MethodName) prog_20_method_4_code 5 none :: ws) ({ frames := 1, cells := 0, slots := 0, locals := 15 } : Room)) (fun a U => a = #[(.ref a74), (.long (0 : Int64)), (.long j75)] ∧ Z.Warmed39 U.vm ∧ U.heap = h0) (fun _ _ _ _ _ => True) (fun _ U o U' => ∃ v L, o = .returned v ∧ Q5 Z a74 j75 a76 k78 h0 n0 v U'.heap L ∧ FrameEnd U o U' L ({ frames := 1, cells := 0, slots := 0, locals := 15 } : Room).cells ({ frames := 1, cells := 0, slots := 0, locals := 15 } : Room).slots) := by
  refine MetFree.of_bodySF (plainFor_of_name pn_1) hisR ?_
  intro p e s m args below meth c s₁ Bd hml0 hP hK
  obtain ⟨rfl, hZ, hh⟩ := hP
  have hx := Bd.exec
  have hby := Bd.bytes
  have hml : c.maxLocals = 5 := hml0
  have hown : s.vm.findClass zs1 = some m.cls := findClass_of_methodNamed Bd.named
  have hnm := (name_of_methodNamed Bd.named Bd.method).1
  have X0 : Stand p l e ({ frames := 1, cells := 0, slots := 0, locals := 15 } : Room) s m #[(.ref a74), (.long (0 : Int64)), (.long j75)] below meth c s₁ [] 0 0 := Stand.of_body Bd
  have e0 : s₁.heap = h0 := by rw [← hh, Bd.state]; rfl
  have N0 := Fr.nil n0
  refine own_out ?_
  refine own_via (fun t k => castTop (ef_5 m a74 (0 : Int64) j75) (XS.aloadN X0.here hx rfl (hb hby d4_0) rfl rfl (XS.lloadN X0.here hx rfl (hb hby d4_1) rfl k))) ?_
  obtain ⟨cq79, q79, q79'⟩ := pE_a74.cell
  obtain ⟨_, _, ⟨T79, L79, c79, n79⟩, -, X79, ⟨Lc79, hQ79, l79, y79, z79⟩, st79⟩ := X0.privateBack hx (y := (⟨zs1, "blockOf", "(J)[J"⟩ : MethodName)) hown (mvT hZ (wd hw 34 rfl)) (mvT hZ (wd hw 35 rfl)) (own_selPriv (mvT hZ (wd hw 2 rfl)) (mvT hZ (wd hw 35 rfl)) (Cond.privateMethod_at (mvP hZ (wd hw 36 rfl) (args := #[]))) (by decide)) (Cond.privateMethod_at (mvP hZ (wd hw 36 rfl) (args := #[]))) (mvT hZ (wd hw 37 rfl)) (by decide) (backOf (W := 0) (rm3 l Z a0 hw [] a74 a76 h0 n0 O0 pF_a74_firstBlock) hZ (wd hw 37 rfl) (wd hw 3 rfl) (by decide) (by decide)) (g := (mkF m 2 #[rv a74, .val (.long (0 : Int64)), .second, .val (.long j75), .second] [(.long (0 : Int64)), (.ref a74)])) rfl (by rw [hml]; rfl) (Steps.refl _) (a := a74) (by rw [e0]; exact q79) q79' (argsL := [(.long (0 : Int64))]) (rest := []) (lenOf pd_3 rfl) rfl (by show 2 * 0 + _ ≤ _; exact Nat.le_of_eq rfl) (hb hby d4_2) (fun _ _ => ⟨rfl, e0, (by decide : 0 + 0 ≤ _), (by decide : 0 + 0 ≤ _)⟩)
  dsimp only [Pt.U, Pt.locs, Pt.cells, Pt.slots] at X79 l79 y79 z79 st79 hQ79
  subst l79 y79 z79
  obtain ⟨rfl, Nq79, hh85⟩ := hQ79
  have N79 := Fr.app N0 Nq79
  refine own_via (fun t k => st79.trans (XS.lloadN X79.here hx rfl (hb hby d4_5) rfl k)) ?_
  obtain ⟨_, T86, _, X86, hQ86, st86⟩ := own_cs X79 hx hZ hown (wd hw 38 rfl) (wd hw 39 rfl) (wd hw 40 rfl) (wd hw 3 rfl) (by decide) (rm4 l Z a0 hw []  h0 n0 O0 ) hh85 (g := (mkF m 6 #[rv a74, .val (.long (0 : Int64)), .second, .val (.long j75), .second] [(.long (0 : Int64)), (.ref a76)])) rfl (by rw [hml]; rfl) (rest := [(.ref a76)]) (W := 1) (lenOf pd_4 rfl) rfl (by show 2 * 0 + _ ≤ _; exact Nat.le_of_eq rfl) (hb hby d4_6) (by decide) (by decide) (by decide) (by decide)
  obtain ⟨rfl, Nq86, hh91⟩ := hQ86
  have N86 := Fr.app N79 Nq86
  refine own_via (fun t k => st86 t (XS.lloadN X86.here hx rfl (hb hby d4_9) rfl k)) ?_
  have V92 : Arv Z h0 a76 k78 .long (4 : Int32) [(.long (0 : Int64))] (.long (0 : Int64)) := pV_a76.pad (pad_rep [] (.long (0 : Int64)) 1)
  obtain ⟨cl93, Ar93, qq93, S93, M93, H93, G93⟩ := id (V92)
  have hin93 : ¬ ((0 : Int32) < 0 ∨ cl93.slots.size ≤ ((0 : Int32)).toNatClampNeg) := inb_of S93 ⟨by decide, by decide⟩
  obtain ⟨T93, h93, X93, e93, W93, st93⟩ := stJ X86 hx hZ hh91 Ar93 (j := (0 : Int32)) hin93 (g := (mkF m 10 #[rv a74, .val (.long (0 : Int64)), .second, .val (.long j75), .second] [(.long j75), (.int (0 : Int32)), (.ref a76)])) rfl rfl (hb hby d4_10)
  refine own_via (fun t k => st93 t k) ?_
  have V94 : Arv Z h93 a76 k78 .long (4 : Int32) [(.long j75)] (.long (0 : Int64)) := Arv.set Ar93 qq93 S93 M93 H93 G93 rfl W93 0 rfl (Nat.le_of_ble_eq_true rfl)
  have N93 := Fr.snoc X93 N86 pG_a76
  show own_Goes p e below (T93.setTop (mkF m 11 #[rv a74, .val (.long (0 : Int64)), .second, .val (.long j75), .second] [])) _
  obtain ⟨fs, hr, hrun, hended, hW, hsame⟩ := X93.leave (v := none) (fun _ => rfl)
  refine own_end (t := T93.setFrames fs) ?_ ⟨_, hrun, hended, _, _, rfl, ?_, ⟨_, rfl⟩, hW, hsame.mono (by decide) (by decide)⟩
  · exact X93.returnOut hx Bd.returns (hb hby d4_11) hr
  have E95 : Exa Z h93 a76 "[J" := (pE_a76.wr W93)
  · show Q5 Z a74 j75 a76 k78 h0 n0 _ T93.heap _
    rw [e93]
    exact ⟨rfl, N93, ((Keep.refl h0 [a76]).wr W93 (Or.inl (List.mem_of_getElem? (i := 0) rfl))), V94, E95⟩
theorem pd_5 : parseMethodDescriptor "(JJ)V" = some ⟨[.long, .long], none⟩ := by decide +kernel
def Q6 (Z : State) (a107 : Addr) (a108 : Addr) (h0 : Heap) (n0 : Nat) (v : Option Value) (h : Heap) (L : List Loc) : Prop := v = some (.ref a108) ∧ Fr n0 L ∧ h = h0
set_option maxRecDepth 65536 in
set_option maxHeartbeats 40000000 in
theorem rm6 (l : Launch) (Z : State) (a0 : Array Value) (hw : ∀ d ∈ tables_1, d.before a0 Z = true) (ws : List Jvm.Cond) (a107 : Addr) (a108 : Addr) (h0 : Heap) (n0 : Nat) (O0 : Old Z n0 h0) (pF_a107_firstBlock : Fld Z h0 a107 zs1 "firstBlock" "[J" (.ref a108)) :
    MetFree l (⟨zs1, "blockOf", "(J)[J"⟩ : MethodName) (head1 (Jvm.Cond.code (⟨zs1, "blockOf", "(J)[J"⟩ : MethodName) prog_20_method_11_code 4 (some (.array .long)) :: ws) ({ frames := 0, cells := 0, slots := 0, locals := 0 } : Room)) (fun a U => a = #[(.ref a107), (.long (1 : Int64))] ∧ Z.Warmed39 U.vm ∧ U.heap = h0) (fun _ _ _ _ _ => True) (fun _ U o U' => ∃ v L, o = .returned v ∧ Q6 Z a107 a108 h0 n0 v U'.heap L ∧ FrameEnd U o U' L ({ frames := 0, cells := 0, slots := 0, locals := 0 } : Room).cells ({ frames := 0, cells := 0, slots := 0, locals := 0 } : Room).slots) := by
  refine MetFree.of_bodySF (plainFor_of_name pn_1) hisR ?_
  intro p e s m args below meth c s₁ Bd hml0 hP hK
  obtain ⟨rfl, hZ, hh⟩ := hP
  have hx := Bd.exec
  have hby := Bd.bytes
  have hml : c.maxLocals = 4 := hml0
  have hown : s.vm.findClass zs1 = some m.cls := findClass_of_methodNamed Bd.named
  have hnm := (name_of_methodNamed Bd.named Bd.method).1
  have X0 : Stand p l e ({ frames := 0, cells := 0, slots := 0, locals := 0 } : Room) s m #[(.ref a107), (.long (1 : Int64))] below meth c s₁ [] 0 0 := Stand.of_body Bd
  have e0 : s₁.heap = h0 := by rw [← hh, Bd.state]; rfl
  have N0 := Fr.nil n0
  refine own_out ?_
  refine own_via (fun t k => castTop (ef_3 m a107 (1 : Int64)) (XS.lloadN X0.here hx rfl (hb hby d5_0) rfl (X0.ldc2Long hx hown (mvT hZ (wd hw 20 rfl)) (g := (mkF m 1 #[rv a107, .val (.long (1 : Int64)), .second, .unset] [(.long (1 : Int64))])) rfl (hb hby d5_1) t (XS.lcmp X0.here hx rfl (hb hby d5_4) rfl (XS.ifNo X0.here hx rfl (hb hby d5_5) rfl ((if0 _ _).trans (tlt (by decide : (-1 : Int32) < (0 : Int32))).2.1) (XS.aloadN X0.here hx rfl (hb hby d5_8) rfl rfl k)))))) ?_
  obtain ⟨T112, X112, e112, st112⟩ := getF X0 hx hZ hown (host := "") (Or.inl (wd hw 27 rfl)) Via.refl e0 pF_a107_firstBlock (g := (mkF m 9 #[rv a107, .val (.long (1 : Int64)), .second, .unset] [(.ref a107)])) rfl rfl (hb hby d5_9)
  refine own_via (fun t k => st112 t (XS.astoreN X112.here hx rfl (hb hby d5_12) rfl rfl (l' := #[rv a107, .val (.long (1 : Int64)), .second, rv a108]) rfl (XS.goto X112.here hx rfl (pc0 := 13) (pc' := 28) rfl (hb hby d5_13) (by decide) (by decide) (XS.aloadN X112.here hx rfl (hb hby d5_28) rfl rfl k)))) ?_
  obtain ⟨fs, hr, hrun, hended, hW, hsame⟩ := X112.leave (v := some (.ref a108)) (fun h => by rw [Bd.returns] at h; cases h)
  refine own_end (t := T112.setFrames fs) ?_ ⟨_, hrun, hended, _, _, rfl, ?_, ⟨_, rfl⟩, hW, hsame.mono (by decide) (by decide)⟩
  · jvm_step X112.here [X112.here.top, hx, (hb hby d5_29), X112.method', Bd.returns, Value.isRef, FieldType.isReference]
    first | (intro acts; rw [hr _ acts rfl rfl rfl]) | rw [hr _ _ rfl rfl rfl]
    exact Steps.refl _
  · show Q6 Z a107 a108 h0 n0 _ T112.heap _
    rw [e112]
    exact ⟨rfl, N0, rfl⟩
def Q7 (Z : State)  (h0 : Heap) (n0 : Nat) (v : Option Value) (h : Heap) (L : List Loc) : Prop := v = some (.int (1 : Int32)) ∧ Fr n0 L ∧ h = h0
set_option maxRecDepth 65536 in
set_option maxHeartbeats 40000000 in
theorem rm7 (l : Launch) (Z : State) (a0 : Array Value) (hw : ∀ d ∈ tables_1, d.before a0 Z = true) (ws : List Jvm.Cond)  (h0 : Heap) (n0 : Nat) (O0 : Old Z n0 h0) :
    MetFree l (⟨zs1, "inBlock", "(J)I"⟩ : MethodName) (head1 (Jvm.Cond.code (⟨zs1, "inBlock", "(J)I"⟩ : MethodName) prog_20_method_12_code 2 (some .int) :: ws) ({ frames := 0, cells := 0, slots := 0, locals := 0 } : Room)) (fun a U => a = #[(.long (1 : Int64))] ∧ Z.Warmed39 U.vm ∧ U.heap = h0) (fun _ _ _ _ _ => True) (fun _ U o U' => ∃ v L, o = .returned v ∧ Q7 Z  h0 n0 v U'.heap L ∧ FrameEnd U o U' L ({ frames := 0, cells := 0, slots := 0, locals := 0 } : Room).cells ({ frames := 0, cells := 0, slots := 0, locals := 0 } : Room).slots) := by
  refine MetFree.of_bodySF (plainFor_of_name pn_1) hisR ?_
  intro p e s m args below meth c s₁ Bd hml0 hP hK
  obtain ⟨rfl, hZ, hh⟩ := hP
  have hx := Bd.exec
  have hby := Bd.bytes
  have hml : c.maxLocals = 2 := hml0
  have hown : s.vm.findClass zs1 = some m.cls := findClass_of_methodNamed Bd.named
  have hnm := (name_of_methodNamed Bd.named Bd.method).1
  have X0 : Stand p l e ({ frames := 0, cells := 0, slots := 0, locals := 0 } : Room) s m #[(.long (1 : Int64))] below meth c s₁ [] 0 0 := Stand.of_body Bd
  have e0 : s₁.heap = h0 := by rw [← hh, Bd.state]; rfl
  have N0 := Fr.nil n0
  refine own_out ?_
  refine own_via (fun t k => castTop (ef_4 m (1 : Int64)) (XS.lloadN X0.here hx rfl (hb hby d6_0) rfl (X0.ldc2Long hx hown (mvT hZ (wd hw 13 rfl)) (g := (mkF m 1 #[.val (.long (1 : Int64)), .second] [(.long (1 : Int64))])) rfl (hb hby d6_1) t (XS.land X0.here hx rfl (hb hby d6_4) rfl (XS.l2i X0.here hx rfl (hb hby d6_5) rfl k))))) ?_
  obtain ⟨fs, hr, hrun, hended, hW, hsame⟩ := X0.leave (v := some (.int (1 : Int32))) (fun h => by rw [Bd.returns] at h; cases h)
  refine own_end (t := s₁.setFrames fs) ?_ ⟨_, hrun, hended, _, _, rfl, ?_, ⟨_, rfl⟩, hW, hsame.mono (by decide) (by decide)⟩
  · exact retI X0 hx Bd.returns (hb hby d6_6) hr
  · show Q7 Z  h0 n0 _ s₁.heap _
    rw [e0]
    exact ⟨rfl, N0, rfl⟩
def Q8 (Z : State) (a100 : Addr) (j101 : Int64) (a102 : Addr) (k105 : ClassId) (j104 : Int64) (h0 : Heap) (n0 : Nat) (v : Option Value) (h : Heap) (L : List Loc) : Prop := v = none ∧ Fr n0 L ∧ Keep h0 h [a102] ∧ Exa Z h a102 "[J" ∧ Arv Z h a102 k105 .long (4 : Int32) [(.long j104), (.long j101)] (.long (0 : Int64))
set_option maxRecDepth 65536 in
set_option maxHeartbeats 40000000 in
theorem rm8 (l : Launch) (Z : State) (a0 : Array Value) (hw : ∀ d ∈ tables_1, d.before a0 Z = true) (ws : List Jvm.Cond) (a100 : Addr) (j101 : Int64) (a102 : Addr) (k105 : ClassId) (j104 : Int64) (h0 : Heap) (n0 : Nat) (O0 : Old Z n0 h0) (pF_a100_firstBlock : Fld Z h0 a100 zs1 "firstBlock" "[J" (.ref a102)) (pE_a100 : Exa Z h0 a100 zs1) (pV_a102 : Arv Z h0 a102 k105 .long (4 : Int32) [(.long j104)] (.long (0 : Int64))) (pG_a102 : n0 ≤ a102) (pE_a102 : Exa Z h0 a102 "[J") :
    MetFree l (⟨zs1, "set", "(JJ)V"⟩ : MethodName) (head1 (Jvm.Cond.code (⟨zs1, "set", "(JJ)V"⟩ : MethodName) prog_20_method_4_code 5 none :: ws) ({ frames := 1, cells := 0, slots := 0, locals := 15 } : Room)) (fun a U => a = #[(.ref a100), (.long (1 : Int64)), (.long j101)] ∧ Z.Warmed39 U.vm ∧ U.heap = h0) (fun _ _ _ _ _ => True) (fun _ U o U' => ∃ v L, o = .returned v ∧ Q8 Z a100 j101 a102 k105 j104 h0 n0 v U'.heap L ∧ FrameEnd U o U' L ({ frames := 1, cells := 0, slots := 0, locals := 15 } : Room).cells ({ frames := 1, cells := 0, slots := 0, locals := 15 } : Room).slots) := by
  refine MetFree.of_bodySF (plainFor_of_name pn_1) hisR ?_
  intro p e s m args below meth c s₁ Bd hml0 hP hK
  obtain ⟨rfl, hZ, hh⟩ := hP
  have hx := Bd.exec
  have hby := Bd.bytes
  have hml : c.maxLocals = 5 := hml0
  have hown : s.vm.findClass zs1 = some m.cls := findClass_of_methodNamed Bd.named
  have hnm := (name_of_methodNamed Bd.named Bd.method).1
  have X0 : Stand p l e ({ frames := 1, cells := 0, slots := 0, locals := 15 } : Room) s m #[(.ref a100), (.long (1 : Int64)), (.long j101)] below meth c s₁ [] 0 0 := Stand.of_body Bd
  have e0 : s₁.heap = h0 := by rw [← hh, Bd.state]; rfl
  have N0 := Fr.nil n0
  refine own_out ?_
  refine own_via (fun t k => castTop (ef_5 m a100 (1 : Int64) j101) (XS.aloadN X0.here hx rfl (hb hby d4_0) rfl rfl (XS.lloadN X0.here hx rfl (hb hby d4_1) rfl k))) ?_
  obtain ⟨cq106, q106, q106'⟩ := pE_a100.cell
  obtain ⟨_, _, ⟨T106, L106, c106, n106⟩, -, X106, ⟨Lc106, hQ106, l106, y106, z106⟩, st106⟩ := X0.privateBack hx (y := (⟨zs1, "blockOf", "(J)[J"⟩ : MethodName)) hown (mvT hZ (wd hw 34 rfl)) (mvT hZ (wd hw 35 rfl)) (own_selPriv (mvT hZ (wd hw 2 rfl)) (mvT hZ (wd hw 35 rfl)) (Cond.privateMethod_at (mvP hZ (wd hw 36 rfl) (args := #[]))) (by decide)) (Cond.privateMethod_at (mvP hZ (wd hw 36 rfl) (args := #[]))) (mvT hZ (wd hw 37 rfl)) (by decide) (backOf (W := 0) (rm6 l Z a0 hw [] a100 a102 h0 n0 O0 pF_a100_firstBlock) hZ (wd hw 37 rfl) (wd hw 3 rfl) (by decide) (by decide)) (g := (mkF m 2 #[rv a100, .val (.long (1 : Int64)), .second, .val (.long j101), .second] [(.long (1 : Int64)), (.ref a100)])) rfl (by rw [hml]; rfl) (Steps.refl _) (a := a100) (by rw [e0]; exact q106) q106' (argsL := [(.long (1 : Int64))]) (rest := []) (lenOf pd_3 rfl) rfl (by show 2 * 0 + _ ≤ _; exact Nat.le_of_eq rfl) (hb hby d4_2) (fun _ _ => ⟨rfl, e0, (by decide : 0 + 0 ≤ _), (by decide : 0 + 0 ≤ _)⟩)
  dsimp only [Pt.U, Pt.locs, Pt.cells, Pt.slots] at X106 l106 y106 z106 st106 hQ106
  subst l106 y106 z106
  obtain ⟨rfl, Nq106, hh113⟩ := hQ106
  have N106 := Fr.app N0 Nq106
  refine own_via (fun t k => st106.trans (XS.lloadN X106.here hx rfl (hb hby d4_5) rfl k)) ?_
  obtain ⟨_, T114, _, X114, hQ114, st114⟩ := own_cs X106 hx hZ hown (wd hw 38 rfl) (wd hw 39 rfl) (wd hw 40 rfl) (wd hw 3 rfl) (by decide) (rm7 l Z a0 hw []  h0 n0 O0 ) hh113 (g := (mkF m 6 #[rv a100, .val (.long (1 : Int64)), .second, .val (.long j101), .second] [(.long (1 : Int64)), (.ref a102)])) rfl (by rw [hml]; rfl) (rest := [(.ref a102)]) (W := 1) (lenOf pd_4 rfl) rfl (by show 2 * 0 + _ ≤ _; exact Nat.le_of_eq rfl) (hb hby d4_6) (by decide) (by decide) (by decide) (by decide)
  obtain ⟨rfl, Nq114, hh120⟩ := hQ114
  have N114 := Fr.app N106 Nq114
  refine own_via (fun t k => st114 t (XS.lloadN X114.here hx rfl (hb hby d4_9) rfl k)) ?_
  have V121 : Arv Z h0 a102 k105 .long (4 : Int32) [(.long j104), (.long (0 : Int64))] (.long (0 : Int64)) := pV_a102.pad (pad_rep [(.long j104)] (.long (0 : Int64)) 1)
  obtain ⟨cl122, Ar122, qq122, S122, M122, H122, G122⟩ := id (V121)
  have hin122 : ¬ ((1 : Int32) < 0 ∨ cl122.slots.size ≤ ((1 : Int32)).toNatClampNeg) := inb_of S122 ⟨by decide, by decide⟩
  obtain ⟨T122, h122, X122, e122, W122, st122⟩ := stJ X114 hx hZ hh120 Ar122 (j := (1 : Int32)) hin122 (g := (mkF m 10 #[rv a100, .val (.long (1 : Int64)), .second, .val (.long j101), .second] [(.long j101), (.int (1 : Int32)), (.ref a102)])) rfl rfl (hb hby d4_10)
  refine own_via (fun t k => st122 t k) ?_
  have V123 : Arv Z h122 a102 k105 .long (4 : Int32) [(.long j104), (.long j101)] (.long (0 : Int64)) := Arv.set Ar122 qq122 S122 M122 H122 G122 rfl W122 1 rfl (Nat.le_of_ble_eq_true rfl)
  have N122 := Fr.snoc X122 N114 pG_a102
  show own_Goes p e below (T122.setTop (mkF m 11 #[rv a100, .val (.long (1 : Int64)), .second, .val (.long j101), .second] [])) _
  obtain ⟨fs, hr, hrun, hended, hW, hsame⟩ := X122.leave (v := none) (fun _ => rfl)
  refine own_end (t := T122.setFrames fs) ?_ ⟨_, hrun, hended, _, _, rfl, ?_, ⟨_, rfl⟩, hW, hsame.mono (by decide) (by decide)⟩
  · exact X122.returnOut hx Bd.returns (hb hby d4_11) hr
  have E124 : Exa Z h122 a102 "[J" := (pE_a102.wr W122)
  · show Q8 Z a100 j101 a102 k105 j104 h0 n0 _ T122.heap _
    rw [e122]
    exact ⟨rfl, N122, ((Keep.refl h0 [a102]).wr W122 (Or.inl (List.mem_of_getElem? (i := 0) rfl))), E124, V123⟩
def Q9 (Z : State) (a139 : Addr) (a140 : Addr) (h0 : Heap) (n0 : Nat) (v : Option Value) (h : Heap) (L : List Loc) : Prop := v = some (.ref a140) ∧ Fr n0 L ∧ h = h0
set_option maxRecDepth 65536 in
set_option maxHeartbeats 40000000 in
theorem rm9 (l : Launch) (Z : State) (a0 : Array Value) (hw : ∀ d ∈ tables_1, d.before a0 Z = true) (ws : List Jvm.Cond) (a139 : Addr) (a140 : Addr) (h0 : Heap) (n0 : Nat) (O0 : Old Z n0 h0) (pF_a139_firstBlock : Fld Z h0 a139 zs1 "firstBlock" "[J" (.ref a140)) :
    MetFree l (⟨zs1, "blockOf", "(J)[J"⟩ : MethodName) (head1 (Jvm.Cond.code (⟨zs1, "blockOf", "(J)[J"⟩ : MethodName) prog_20_method_11_code 4 (some (.array .long)) :: ws) ({ frames := 0, cells := 0, slots := 0, locals := 0 } : Room)) (fun a U => a = #[(.ref a139), (.long (2 : Int64))] ∧ Z.Warmed39 U.vm ∧ U.heap = h0) (fun _ _ _ _ _ => True) (fun _ U o U' => ∃ v L, o = .returned v ∧ Q9 Z a139 a140 h0 n0 v U'.heap L ∧ FrameEnd U o U' L ({ frames := 0, cells := 0, slots := 0, locals := 0 } : Room).cells ({ frames := 0, cells := 0, slots := 0, locals := 0 } : Room).slots) := by
  refine MetFree.of_bodySF (plainFor_of_name pn_1) hisR ?_
  intro p e s m args below meth c s₁ Bd hml0 hP hK
  obtain ⟨rfl, hZ, hh⟩ := hP
  have hx := Bd.exec
  have hby := Bd.bytes
  have hml : c.maxLocals = 4 := hml0
  have hown : s.vm.findClass zs1 = some m.cls := findClass_of_methodNamed Bd.named
  have hnm := (name_of_methodNamed Bd.named Bd.method).1
  have X0 : Stand p l e ({ frames := 0, cells := 0, slots := 0, locals := 0 } : Room) s m #[(.ref a139), (.long (2 : Int64))] below meth c s₁ [] 0 0 := Stand.of_body Bd
  have e0 : s₁.heap = h0 := by rw [← hh, Bd.state]; rfl
  have N0 := Fr.nil n0
  refine own_out ?_
  refine own_via (fun t k => castTop (ef_3 m a139 (2 : Int64)) (XS.lloadN X0.here hx rfl (hb hby d5_0) rfl (X0.ldc2Long hx hown (mvT hZ (wd hw 20 rfl)) (g := (mkF m 1 #[rv a139, .val (.long (2 : Int64)), .second, .unset] [(.long (2 : Int64))])) rfl (hb hby d5_1) t (XS.lcmp X0.here hx rfl (hb hby d5_4) rfl (XS.ifNo X0.here hx rfl (hb hby d5_5) rfl ((if0 _ _).trans (tlt (by decide : (-1 : Int32) < (0 : Int32))).2.1) (XS.aloadN X0.here hx rfl (hb hby d5_8) rfl rfl k)))))) ?_
  obtain ⟨T145, X145, e145, st145⟩ := getF X0 hx hZ hown (host := "") (Or.inl (wd hw 27 rfl)) Via.refl e0 pF_a139_firstBlock (g := (mkF m 9 #[rv a139, .val (.long (2 : Int64)), .second, .unset] [(.ref a139)])) rfl rfl (hb hby d5_9)
  refine own_via (fun t k => st145 t (XS.astoreN X145.here hx rfl (hb hby d5_12) rfl rfl (l' := #[rv a139, .val (.long (2 : Int64)), .second, rv a140]) rfl (XS.goto X145.here hx rfl (pc0 := 13) (pc' := 28) rfl (hb hby d5_13) (by decide) (by decide) (XS.aloadN X145.here hx rfl (hb hby d5_28) rfl rfl k)))) ?_
  obtain ⟨fs, hr, hrun, hended, hW, hsame⟩ := X145.leave (v := some (.ref a140)) (fun h => by rw [Bd.returns] at h; cases h)
  refine own_end (t := T145.setFrames fs) ?_ ⟨_, hrun, hended, _, _, rfl, ?_, ⟨_, rfl⟩, hW, hsame.mono (by decide) (by decide)⟩
  · jvm_step X145.here [X145.here.top, hx, (hb hby d5_29), X145.method', Bd.returns, Value.isRef, FieldType.isReference]
    first | (intro acts; rw [hr _ acts rfl rfl rfl]) | rw [hr _ _ rfl rfl rfl]
    exact Steps.refl _
  · show Q9 Z a139 a140 h0 n0 _ T145.heap _
    rw [e145]
    exact ⟨rfl, N0, rfl⟩
def Q10 (Z : State)  (h0 : Heap) (n0 : Nat) (v : Option Value) (h : Heap) (L : List Loc) : Prop := v = some (.int (2 : Int32)) ∧ Fr n0 L ∧ h = h0
set_option maxRecDepth 65536 in
set_option maxHeartbeats 40000000 in
theorem rm10 (l : Launch) (Z : State) (a0 : Array Value) (hw : ∀ d ∈ tables_1, d.before a0 Z = true) (ws : List Jvm.Cond)  (h0 : Heap) (n0 : Nat) (O0 : Old Z n0 h0) :
    MetFree l (⟨zs1, "inBlock", "(J)I"⟩ : MethodName) (head1 (Jvm.Cond.code (⟨zs1, "inBlock", "(J)I"⟩ : MethodName) prog_20_method_12_code 2 (some .int) :: ws) ({ frames := 0, cells := 0, slots := 0, locals := 0 } : Room)) (fun a U => a = #[(.long (2 : Int64))] ∧ Z.Warmed39 U.vm ∧ U.heap = h0) (fun _ _ _ _ _ => True) (fun _ U o U' => ∃ v L, o = .returned v ∧ Q10 Z  h0 n0 v U'.heap L ∧ FrameEnd U o U' L ({ frames := 0, cells := 0, slots := 0, locals := 0 } : Room).cells ({ frames := 0, cells := 0, slots := 0, locals := 0 } : Room).slots) := by
  refine MetFree.of_bodySF (plainFor_of_name pn_1) hisR ?_
  intro p e s m args below meth c s₁ Bd hml0 hP hK
  obtain ⟨rfl, hZ, hh⟩ := hP
  have hx := Bd.exec
  have hby := Bd.bytes
  have hml : c.maxLocals = 2 := hml0
  have hown : s.vm.findClass zs1 = some m.cls := findClass_of_methodNamed Bd.named
  have hnm := (name_of_methodNamed Bd.named Bd.method).1
  have X0 : Stand p l e ({ frames := 0, cells := 0, slots := 0, locals := 0 } : Room) s m #[(.long (2 : Int64))] below meth c s₁ [] 0 0 := Stand.of_body Bd
  have e0 : s₁.heap = h0 := by rw [← hh, Bd.state]; rfl
  have N0 := Fr.nil n0
  refine own_out ?_
  refine own_via (fun t k => castTop (ef_4 m (2 : Int64)) (XS.lloadN X0.here hx rfl (hb hby d6_0) rfl (X0.ldc2Long hx hown (mvT hZ (wd hw 13 rfl)) (g := (mkF m 1 #[.val (.long (2 : Int64)), .second] [(.long (2 : Int64))])) rfl (hb hby d6_1) t (XS.land X0.here hx rfl (hb hby d6_4) rfl (XS.l2i X0.here hx rfl (hb hby d6_5) rfl k))))) ?_
  obtain ⟨fs, hr, hrun, hended, hW, hsame⟩ := X0.leave (v := some (.int (2 : Int32))) (fun h => by rw [Bd.returns] at h; cases h)
  refine own_end (t := s₁.setFrames fs) ?_ ⟨_, hrun, hended, _, _, rfl, ?_, ⟨_, rfl⟩, hW, hsame.mono (by decide) (by decide)⟩
  · exact retI X0 hx Bd.returns (hb hby d6_6) hr
  · show Q10 Z  h0 n0 _ s₁.heap _
    rw [e0]
    exact ⟨rfl, N0, rfl⟩
def Q11 (Z : State) (a131 : Addr) (j132 : Int64) (a133 : Addr) (k137 : ClassId) (j135 : Int64) (j136 : Int64) (h0 : Heap) (n0 : Nat) (v : Option Value) (h : Heap) (L : List Loc) : Prop := v = none ∧ Fr n0 L ∧ Keep h0 h [a133] ∧ Exa Z h a133 "[J" ∧ Arv Z h a133 k137 .long (4 : Int32) [(.long j135), (.long j136), (.long j132)] (.long (0 : Int64))
set_option maxRecDepth 65536 in
set_option maxHeartbeats 40000000 in
theorem rm11 (l : Launch) (Z : State) (a0 : Array Value) (hw : ∀ d ∈ tables_1, d.before a0 Z = true) (ws : List Jvm.Cond) (a131 : Addr) (j132 : Int64) (a133 : Addr) (k137 : ClassId) (j135 : Int64) (j136 : Int64) (h0 : Heap) (n0 : Nat) (O0 : Old Z n0 h0) (pF_a131_firstBlock : Fld Z h0 a131 zs1 "firstBlock" "[J" (.ref a133)) (pE_a131 : Exa Z h0 a131 zs1) (pV_a133 : Arv Z h0 a133 k137 .long (4 : Int32) [(.long j135), (.long j136)] (.long (0 : Int64))) (pG_a133 : n0 ≤ a133) (pE_a133 : Exa Z h0 a133 "[J") :
    MetFree l (⟨zs1, "set", "(JJ)V"⟩ : MethodName) (head1 (Jvm.Cond.code (⟨zs1, "set", "(JJ)V"⟩ : MethodName) prog_20_method_4_code 5 none :: ws) ({ frames := 1, cells := 0, slots := 0, locals := 15 } : Room)) (fun a U => a = #[(.ref a131), (.long (2 : Int64)), (.long j132)] ∧ Z.Warmed39 U.vm ∧ U.heap = h0) (fun _ _ _ _ _ => True) (fun _ U o U' => ∃ v L, o = .returned v ∧ Q11 Z a131 j132 a133 k137 j135 j136 h0 n0 v U'.heap L ∧ FrameEnd U o U' L ({ frames := 1, cells := 0, slots := 0, locals := 15 } : Room).cells ({ frames := 1, cells := 0, slots := 0, locals := 15 } : Room).slots) := by
  refine MetFree.of_bodySF (plainFor_of_name pn_1) hisR ?_
  intro p e s m args below meth c s₁ Bd hml0 hP hK
  obtain ⟨rfl, hZ, hh⟩ := hP
  have hx := Bd.exec
  have hby := Bd.bytes
  have hml : c.maxLocals = 5 := hml0
  have hown : s.vm.findClass zs1 = some m.cls := findClass_of_methodNamed Bd.named
  have hnm := (name_of_methodNamed Bd.named Bd.method).1
  have X0 : Stand p l e ({ frames := 1, cells := 0, slots := 0, locals := 15 } : Room) s m #[(.ref a131), (.long (2 : Int64)), (.long j132)] below meth c s₁ [] 0 0 := Stand.of_body Bd
  have e0 : s₁.heap = h0 := by rw [← hh, Bd.state]; rfl
  have N0 := Fr.nil n0
  refine own_out ?_
  refine own_via (fun t k => castTop (ef_5 m a131 (2 : Int64) j132) (XS.aloadN X0.here hx rfl (hb hby d4_0) rfl rfl (XS.lloadN X0.here hx rfl (hb hby d4_1) rfl k))) ?_
  obtain ⟨cq138, q138, q138'⟩ := pE_a131.cell
  obtain ⟨_, _, ⟨T138, L138, c138, n138⟩, -, X138, ⟨Lc138, hQ138, l138, y138, z138⟩, st138⟩ := X0.privateBack hx (y := (⟨zs1, "blockOf", "(J)[J"⟩ : MethodName)) hown (mvT hZ (wd hw 34 rfl)) (mvT hZ (wd hw 35 rfl)) (own_selPriv (mvT hZ (wd hw 2 rfl)) (mvT hZ (wd hw 35 rfl)) (Cond.privateMethod_at (mvP hZ (wd hw 36 rfl) (args := #[]))) (by decide)) (Cond.privateMethod_at (mvP hZ (wd hw 36 rfl) (args := #[]))) (mvT hZ (wd hw 37 rfl)) (by decide) (backOf (W := 0) (rm9 l Z a0 hw [] a131 a133 h0 n0 O0 pF_a131_firstBlock) hZ (wd hw 37 rfl) (wd hw 3 rfl) (by decide) (by decide)) (g := (mkF m 2 #[rv a131, .val (.long (2 : Int64)), .second, .val (.long j132), .second] [(.long (2 : Int64)), (.ref a131)])) rfl (by rw [hml]; rfl) (Steps.refl _) (a := a131) (by rw [e0]; exact q138) q138' (argsL := [(.long (2 : Int64))]) (rest := []) (lenOf pd_3 rfl) rfl (by show 2 * 0 + _ ≤ _; exact Nat.le_of_eq rfl) (hb hby d4_2) (fun _ _ => ⟨rfl, e0, (by decide : 0 + 0 ≤ _), (by decide : 0 + 0 ≤ _)⟩)
  dsimp only [Pt.U, Pt.locs, Pt.cells, Pt.slots] at X138 l138 y138 z138 st138 hQ138
  subst l138 y138 z138
  obtain ⟨rfl, Nq138, hh146⟩ := hQ138
  have N138 := Fr.app N0 Nq138
  refine own_via (fun t k => st138.trans (XS.lloadN X138.here hx rfl (hb hby d4_5) rfl k)) ?_
  obtain ⟨_, T147, _, X147, hQ147, st147⟩ := own_cs X138 hx hZ hown (wd hw 38 rfl) (wd hw 39 rfl) (wd hw 40 rfl) (wd hw 3 rfl) (by decide) (rm10 l Z a0 hw []  h0 n0 O0 ) hh146 (g := (mkF m 6 #[rv a131, .val (.long (2 : Int64)), .second, .val (.long j132), .second] [(.long (2 : Int64)), (.ref a133)])) rfl (by rw [hml]; rfl) (rest := [(.ref a133)]) (W := 1) (lenOf pd_4 rfl) rfl (by show 2 * 0 + _ ≤ _; exact Nat.le_of_eq rfl) (hb hby d4_6) (by decide) (by decide) (by decide) (by decide)
  obtain ⟨rfl, Nq147, hh154⟩ := hQ147
  have N147 := Fr.app N138 Nq147
  refine own_via (fun t k => st147 t (XS.lloadN X147.here hx rfl (hb hby d4_9) rfl k)) ?_
  have V155 : Arv Z h0 a133 k137 .long (4 : Int32) [(.long j135), (.long j136), (.long (0 : Int64))] (.long (0 : Int64)) := pV_a133.pad (pad_rep [(.long j135), (.long j136)] (.long (0 : Int64)) 1)
  obtain ⟨cl156, Ar156, qq156, S156, M156, H156, G156⟩ := id (V155)
  have hin156 : ¬ ((2 : Int32) < 0 ∨ cl156.slots.size ≤ ((2 : Int32)).toNatClampNeg) := inb_of S156 ⟨by decide, by decide⟩
  obtain ⟨T156, h156, X156, e156, W156, st156⟩ := stJ X147 hx hZ hh154 Ar156 (j := (2 : Int32)) hin156 (g := (mkF m 10 #[rv a131, .val (.long (2 : Int64)), .second, .val (.long j132), .second] [(.long j132), (.int (2 : Int32)), (.ref a133)])) rfl rfl (hb hby d4_10)
  refine own_via (fun t k => st156 t k) ?_
  have V157 : Arv Z h156 a133 k137 .long (4 : Int32) [(.long j135), (.long j136), (.long j132)] (.long (0 : Int64)) := Arv.set Ar156 qq156 S156 M156 H156 G156 rfl W156 2 rfl (Nat.le_of_ble_eq_true rfl)
  have N156 := Fr.snoc X156 N147 pG_a133
  show own_Goes p e below (T156.setTop (mkF m 11 #[rv a131, .val (.long (2 : Int64)), .second, .val (.long j132), .second] [])) _
  obtain ⟨fs, hr, hrun, hended, hW, hsame⟩ := X156.leave (v := none) (fun _ => rfl)
  refine own_end (t := T156.setFrames fs) ?_ ⟨_, hrun, hended, _, _, rfl, ?_, ⟨_, rfl⟩, hW, hsame.mono (by decide) (by decide)⟩
  · exact X156.returnOut hx Bd.returns (hb hby d4_11) hr
  have E158 : Exa Z h156 a133 "[J" := (pE_a133.wr W156)
  · show Q11 Z a131 j132 a133 k137 j135 j136 h0 n0 _ T156.heap _
    rw [e156]
    exact ⟨rfl, N156, ((Keep.refl h0 [a133]).wr W156 (Or.inl (List.mem_of_getElem? (i := 0) rfl))), E158, V157⟩
def Q12 (Z : State) (a174 : Addr) (a175 : Addr) (h0 : Heap) (n0 : Nat) (v : Option Value) (h : Heap) (L : List Loc) : Prop := v = some (.ref a175) ∧ Fr n0 L ∧ h = h0
set_option maxRecDepth 65536 in
set_option maxHeartbeats 40000000 in
theorem rm12 (l : Launch) (Z : State) (a0 : Array Value) (hw : ∀ d ∈ tables_1, d.before a0 Z = true) (ws : List Jvm.Cond) (a174 : Addr) (a175 : Addr) (h0 : Heap) (n0 : Nat) (O0 : Old Z n0 h0) (pF_a174_firstBlock : Fld Z h0 a174 zs1 "firstBlock" "[J" (.ref a175)) :
    MetFree l (⟨zs1, "blockOf", "(J)[J"⟩ : MethodName) (head1 (Jvm.Cond.code (⟨zs1, "blockOf", "(J)[J"⟩ : MethodName) prog_20_method_11_code 4 (some (.array .long)) :: ws) ({ frames := 0, cells := 0, slots := 0, locals := 0 } : Room)) (fun a U => a = #[(.ref a174), (.long (3 : Int64))] ∧ Z.Warmed39 U.vm ∧ U.heap = h0) (fun _ _ _ _ _ => True) (fun _ U o U' => ∃ v L, o = .returned v ∧ Q12 Z a174 a175 h0 n0 v U'.heap L ∧ FrameEnd U o U' L ({ frames := 0, cells := 0, slots := 0, locals := 0 } : Room).cells ({ frames := 0, cells := 0, slots := 0, locals := 0 } : Room).slots) := by
  refine MetFree.of_bodySF (plainFor_of_name pn_1) hisR ?_
  intro p e s m args below meth c s₁ Bd hml0 hP hK
  obtain ⟨rfl, hZ, hh⟩ := hP
  have hx := Bd.exec
  have hby := Bd.bytes
  have hml : c.maxLocals = 4 := hml0
  have hown : s.vm.findClass zs1 = some m.cls := findClass_of_methodNamed Bd.named
  have hnm := (name_of_methodNamed Bd.named Bd.method).1
  have X0 : Stand p l e ({ frames := 0, cells := 0, slots := 0, locals := 0 } : Room) s m #[(.ref a174), (.long (3 : Int64))] below meth c s₁ [] 0 0 := Stand.of_body Bd
  have e0 : s₁.heap = h0 := by rw [← hh, Bd.state]; rfl
  have N0 := Fr.nil n0
  refine own_out ?_
  refine own_via (fun t k => castTop (ef_3 m a174 (3 : Int64)) (XS.lloadN X0.here hx rfl (hb hby d5_0) rfl (X0.ldc2Long hx hown (mvT hZ (wd hw 20 rfl)) (g := (mkF m 1 #[rv a174, .val (.long (3 : Int64)), .second, .unset] [(.long (3 : Int64))])) rfl (hb hby d5_1) t (XS.lcmp X0.here hx rfl (hb hby d5_4) rfl (XS.ifNo X0.here hx rfl (hb hby d5_5) rfl ((if0 _ _).trans (tlt (by decide : (-1 : Int32) < (0 : Int32))).2.1) (XS.aloadN X0.here hx rfl (hb hby d5_8) rfl rfl k)))))) ?_
  obtain ⟨T181, X181, e181, st181⟩ := getF X0 hx hZ hown (host := "") (Or.inl (wd hw 27 rfl)) Via.refl e0 pF_a174_firstBlock (g := (mkF m 9 #[rv a174, .val (.long (3 : Int64)), .second, .unset] [(.ref a174)])) rfl rfl (hb hby d5_9)
  refine own_via (fun t k => st181 t (XS.astoreN X181.here hx rfl (hb hby d5_12) rfl rfl (l' := #[rv a174, .val (.long (3 : Int64)), .second, rv a175]) rfl (XS.goto X181.here hx rfl (pc0 := 13) (pc' := 28) rfl (hb hby d5_13) (by decide) (by decide) (XS.aloadN X181.here hx rfl (hb hby d5_28) rfl rfl k)))) ?_
  obtain ⟨fs, hr, hrun, hended, hW, hsame⟩ := X181.leave (v := some (.ref a175)) (fun h => by rw [Bd.returns] at h; cases h)
  refine own_end (t := T181.setFrames fs) ?_ ⟨_, hrun, hended, _, _, rfl, ?_, ⟨_, rfl⟩, hW, hsame.mono (by decide) (by decide)⟩
  · jvm_step X181.here [X181.here.top, hx, (hb hby d5_29), X181.method', Bd.returns, Value.isRef, FieldType.isReference]
    first | (intro acts; rw [hr _ acts rfl rfl rfl]) | rw [hr _ _ rfl rfl rfl]
    exact Steps.refl _
  · show Q12 Z a174 a175 h0 n0 _ T181.heap _
    rw [e181]
    exact ⟨rfl, N0, rfl⟩
def Q13 (Z : State)  (h0 : Heap) (n0 : Nat) (v : Option Value) (h : Heap) (L : List Loc) : Prop := v = some (.int (3 : Int32)) ∧ Fr n0 L ∧ h = h0
set_option maxRecDepth 65536 in
set_option maxHeartbeats 40000000 in
theorem rm13 (l : Launch) (Z : State) (a0 : Array Value) (hw : ∀ d ∈ tables_1, d.before a0 Z = true) (ws : List Jvm.Cond)  (h0 : Heap) (n0 : Nat) (O0 : Old Z n0 h0) :
    MetFree l (⟨zs1, "inBlock", "(J)I"⟩ : MethodName) (head1 (Jvm.Cond.code (⟨zs1, "inBlock", "(J)I"⟩ : MethodName) prog_20_method_12_code 2 (some .int) :: ws) ({ frames := 0, cells := 0, slots := 0, locals := 0 } : Room)) (fun a U => a = #[(.long (3 : Int64))] ∧ Z.Warmed39 U.vm ∧ U.heap = h0) (fun _ _ _ _ _ => True) (fun _ U o U' => ∃ v L, o = .returned v ∧ Q13 Z  h0 n0 v U'.heap L ∧ FrameEnd U o U' L ({ frames := 0, cells := 0, slots := 0, locals := 0 } : Room).cells ({ frames := 0, cells := 0, slots := 0, locals := 0 } : Room).slots) := by
  refine MetFree.of_bodySF (plainFor_of_name pn_1) hisR ?_
  intro p e s m args below meth c s₁ Bd hml0 hP hK
  obtain ⟨rfl, hZ, hh⟩ := hP
  have hx := Bd.exec
  have hby := Bd.bytes
  have hml : c.maxLocals = 2 := hml0
  have hown : s.vm.findClass zs1 = some m.cls := findClass_of_methodNamed Bd.named
  have hnm := (name_of_methodNamed Bd.named Bd.method).1
  have X0 : Stand p l e ({ frames := 0, cells := 0, slots := 0, locals := 0 } : Room) s m #[(.long (3 : Int64))] below meth c s₁ [] 0 0 := Stand.of_body Bd
  have e0 : s₁.heap = h0 := by rw [← hh, Bd.state]; rfl
  have N0 := Fr.nil n0
  refine own_out ?_
  refine own_via (fun t k => castTop (ef_4 m (3 : Int64)) (XS.lloadN X0.here hx rfl (hb hby d6_0) rfl (X0.ldc2Long hx hown (mvT hZ (wd hw 13 rfl)) (g := (mkF m 1 #[.val (.long (3 : Int64)), .second] [(.long (3 : Int64))])) rfl (hb hby d6_1) t (XS.land X0.here hx rfl (hb hby d6_4) rfl (XS.l2i X0.here hx rfl (hb hby d6_5) rfl k))))) ?_
  obtain ⟨fs, hr, hrun, hended, hW, hsame⟩ := X0.leave (v := some (.int (3 : Int32))) (fun h => by rw [Bd.returns] at h; cases h)
  refine own_end (t := s₁.setFrames fs) ?_ ⟨_, hrun, hended, _, _, rfl, ?_, ⟨_, rfl⟩, hW, hsame.mono (by decide) (by decide)⟩
  · exact retI X0 hx Bd.returns (hb hby d6_6) hr
  · show Q13 Z  h0 n0 _ s₁.heap _
    rw [e0]
    exact ⟨rfl, N0, rfl⟩
def Q14 (Z : State) (a165 : Addr) (j166 : Int64) (a167 : Addr) (k172 : ClassId) (j169 : Int64) (j170 : Int64) (j171 : Int64) (h0 : Heap) (n0 : Nat) (v : Option Value) (h : Heap) (L : List Loc) : Prop := v = none ∧ Fr n0 L ∧ Keep h0 h [a167] ∧ Exa Z h a167 "[J" ∧ Arv Z h a167 k172 .long (4 : Int32) [(.long j169), (.long j170), (.long j171), (.long j166)] (.long (0 : Int64))
set_option maxRecDepth 65536 in
set_option maxHeartbeats 40000000 in
theorem rm14 (l : Launch) (Z : State) (a0 : Array Value) (hw : ∀ d ∈ tables_1, d.before a0 Z = true) (ws : List Jvm.Cond) (a165 : Addr) (j166 : Int64) (a167 : Addr) (k172 : ClassId) (j169 : Int64) (j170 : Int64) (j171 : Int64) (h0 : Heap) (n0 : Nat) (O0 : Old Z n0 h0) (pF_a165_firstBlock : Fld Z h0 a165 zs1 "firstBlock" "[J" (.ref a167)) (pE_a165 : Exa Z h0 a165 zs1) (pV_a167 : Arv Z h0 a167 k172 .long (4 : Int32) [(.long j169), (.long j170), (.long j171)] (.long (0 : Int64))) (pG_a167 : n0 ≤ a167) (pE_a167 : Exa Z h0 a167 "[J") :
    MetFree l (⟨zs1, "set", "(JJ)V"⟩ : MethodName) (head1 (Jvm.Cond.code (⟨zs1, "set", "(JJ)V"⟩ : MethodName) prog_20_method_4_code 5 none :: ws) ({ frames := 1, cells := 0, slots := 0, locals := 15 } : Room)) (fun a U => a = #[(.ref a165), (.long (3 : Int64)), (.long j166)] ∧ Z.Warmed39 U.vm ∧ U.heap = h0) (fun _ _ _ _ _ => True) (fun _ U o U' => ∃ v L, o = .returned v ∧ Q14 Z a165 j166 a167 k172 j169 j170 j171 h0 n0 v U'.heap L ∧ FrameEnd U o U' L ({ frames := 1, cells := 0, slots := 0, locals := 15 } : Room).cells ({ frames := 1, cells := 0, slots := 0, locals := 15 } : Room).slots) := by
  refine MetFree.of_bodySF (plainFor_of_name pn_1) hisR ?_
  intro p e s m args below meth c s₁ Bd hml0 hP hK
  obtain ⟨rfl, hZ, hh⟩ := hP
  have hx := Bd.exec
  have hby := Bd.bytes
  have hml : c.maxLocals = 5 := hml0
  have hown : s.vm.findClass zs1 = some m.cls := findClass_of_methodNamed Bd.named
  have hnm := (name_of_methodNamed Bd.named Bd.method).1
  have X0 : Stand p l e ({ frames := 1, cells := 0, slots := 0, locals := 15 } : Room) s m #[(.ref a165), (.long (3 : Int64)), (.long j166)] below meth c s₁ [] 0 0 := Stand.of_body Bd
  have e0 : s₁.heap = h0 := by rw [← hh, Bd.state]; rfl
  have N0 := Fr.nil n0
  refine own_out ?_
  refine own_via (fun t k => castTop (ef_5 m a165 (3 : Int64) j166) (XS.aloadN X0.here hx rfl (hb hby d4_0) rfl rfl (XS.lloadN X0.here hx rfl (hb hby d4_1) rfl k))) ?_
  obtain ⟨cq173, q173, q173'⟩ := pE_a165.cell
  obtain ⟨_, _, ⟨T173, L173, c173, n173⟩, -, X173, ⟨Lc173, hQ173, l173, y173, z173⟩, st173⟩ := X0.privateBack hx (y := (⟨zs1, "blockOf", "(J)[J"⟩ : MethodName)) hown (mvT hZ (wd hw 34 rfl)) (mvT hZ (wd hw 35 rfl)) (own_selPriv (mvT hZ (wd hw 2 rfl)) (mvT hZ (wd hw 35 rfl)) (Cond.privateMethod_at (mvP hZ (wd hw 36 rfl) (args := #[]))) (by decide)) (Cond.privateMethod_at (mvP hZ (wd hw 36 rfl) (args := #[]))) (mvT hZ (wd hw 37 rfl)) (by decide) (backOf (W := 0) (rm12 l Z a0 hw [] a165 a167 h0 n0 O0 pF_a165_firstBlock) hZ (wd hw 37 rfl) (wd hw 3 rfl) (by decide) (by decide)) (g := (mkF m 2 #[rv a165, .val (.long (3 : Int64)), .second, .val (.long j166), .second] [(.long (3 : Int64)), (.ref a165)])) rfl (by rw [hml]; rfl) (Steps.refl _) (a := a165) (by rw [e0]; exact q173) q173' (argsL := [(.long (3 : Int64))]) (rest := []) (lenOf pd_3 rfl) rfl (by show 2 * 0 + _ ≤ _; exact Nat.le_of_eq rfl) (hb hby d4_2) (fun _ _ => ⟨rfl, e0, (by decide : 0 + 0 ≤ _), (by decide : 0 + 0 ≤ _)⟩)
  dsimp only [Pt.U, Pt.locs, Pt.cells, Pt.slots] at X173 l173 y173 z173 st173 hQ173
  subst l173 y173 z173
  obtain ⟨rfl, Nq173, hh182⟩ := hQ173
  have N173 := Fr.app N0 Nq173
  refine own_via (fun t k => st173.trans (XS.lloadN X173.here hx rfl (hb hby d4_5) rfl k)) ?_
  obtain ⟨_, T183, _, X183, hQ183, st183⟩ := own_cs X173 hx hZ hown (wd hw 38 rfl) (wd hw 39 rfl) (wd hw 40 rfl) (wd hw 3 rfl) (by decide) (rm13 l Z a0 hw []  h0 n0 O0 ) hh182 (g := (mkF m 6 #[rv a165, .val (.long (3 : Int64)), .second, .val (.long j166), .second] [(.long (3 : Int64)), (.ref a167)])) rfl (by rw [hml]; rfl) (rest := [(.ref a167)]) (W := 1) (lenOf pd_4 rfl) rfl (by show 2 * 0 + _ ≤ _; exact Nat.le_of_eq rfl) (hb hby d4_6) (by decide) (by decide) (by decide) (by decide)
  obtain ⟨rfl, Nq183, hh191⟩ := hQ183
  have N183 := Fr.app N173 Nq183
  refine own_via (fun t k => st183 t (XS.lloadN X183.here hx rfl (hb hby d4_9) rfl k)) ?_
  have V192 : Arv Z h0 a167 k172 .long (4 : Int32) [(.long j169), (.long j170), (.long j171), (.long (0 : Int64))] (.long (0 : Int64)) := pV_a167.pad (pad_rep [(.long j169), (.long j170), (.long j171)] (.long (0 : Int64)) 1)
  obtain ⟨cl193, Ar193, qq193, S193, M193, H193, G193⟩ := id (V192)
  have hin193 : ¬ ((3 : Int32) < 0 ∨ cl193.slots.size ≤ ((3 : Int32)).toNatClampNeg) := inb_of S193 ⟨by decide, by decide⟩
  obtain ⟨T193, h193, X193, e193, W193, st193⟩ := stJ X183 hx hZ hh191 Ar193 (j := (3 : Int32)) hin193 (g := (mkF m 10 #[rv a165, .val (.long (3 : Int64)), .second, .val (.long j166), .second] [(.long j166), (.int (3 : Int32)), (.ref a167)])) rfl rfl (hb hby d4_10)
  refine own_via (fun t k => st193 t k) ?_
  have V194 : Arv Z h193 a167 k172 .long (4 : Int32) [(.long j169), (.long j170), (.long j171), (.long j166)] (.long (0 : Int64)) := Arv.set Ar193 qq193 S193 M193 H193 G193 rfl W193 3 rfl (Nat.le_of_ble_eq_true rfl)
  have N193 := Fr.snoc X193 N183 pG_a167
  show own_Goes p e below (T193.setTop (mkF m 11 #[rv a165, .val (.long (3 : Int64)), .second, .val (.long j166), .second] [])) _
  obtain ⟨fs, hr, hrun, hended, hW, hsame⟩ := X193.leave (v := none) (fun _ => rfl)
  refine own_end (t := T193.setFrames fs) ?_ ⟨_, hrun, hended, _, _, rfl, ?_, ⟨_, rfl⟩, hW, hsame.mono (by decide) (by decide)⟩
  · exact X193.returnOut hx Bd.returns (hb hby d4_11) hr
  have E195 : Exa Z h193 a167 "[J" := (pE_a167.wr W193)
  · show Q14 Z a165 j166 a167 k172 j169 j170 j171 h0 n0 _ T193.heap _
    rw [e193]
    exact ⟨rfl, N193, ((Keep.refl h0 [a167]).wr W193 (Or.inl (List.mem_of_getElem? (i := 0) rfl))), E195, V194⟩
theorem d7_0 : decode prog_20_method_6_code 0 = .ok (.lload_n 1, 1) := by decide +kernel
theorem d7_1 : decode prog_20_method_6_code 1 = .ok (.ldc2_w 46, 3) := by decide +kernel
theorem d7_4 : decode prog_20_method_6_code 4 = .ok (.ldiv, 1) := by decide +kernel
theorem d7_5 : decode prog_20_method_6_code 5 = .ok (.lstore_n 3, 1) := by decide +kernel
theorem d7_6 : decode prog_20_method_6_code 6 = .ok (.aload_n 0, 1) := by decide +kernel
theorem d7_7 : decode prog_20_method_6_code 7 = .ok (.lload_n 3, 1) := by decide +kernel
theorem d7_8 : decode prog_20_method_6_code 8 = .ok (.invokevirtual 36, 3) := by decide +kernel
theorem d7_11 : decode prog_20_method_6_code 11 = .ok (.lload_n 3, 1) := by decide +kernel
theorem d7_12 : decode prog_20_method_6_code 12 = .ok (.invokestatic 40, 3) := by decide +kernel
theorem d7_15 : decode prog_20_method_6_code 15 = .ok (.dup2, 1) := by decide +kernel
theorem d7_16 : decode prog_20_method_6_code 16 = .ok (.laload, 1) := by decide +kernel
theorem d7_17 : decode prog_20_method_6_code 17 = .ok (.lconst 1, 1) := by decide +kernel
theorem d7_18 : decode prog_20_method_6_code 18 = .ok (.lload_n 1, 1) := by decide +kernel
theorem d7_19 : decode prog_20_method_6_code 19 = .ok (.l2i, 1) := by decide +kernel
theorem d7_20 : decode prog_20_method_6_code 20 = .ok (.lshl, 1) := by decide +kernel
theorem d7_21 : decode prog_20_method_6_code 21 = .ok (.lor, 1) := by decide +kernel
theorem d7_22 : decode prog_20_method_6_code 22 = .ok (.lastore, 1) := by decide +kernel
theorem d7_23 : decode prog_20_method_6_code 23 = .ok (.return_, 1) := by decide +kernel
theorem ef_6 (m : MethodId) (x0 : Addr) (x1 : Int64) : entryFrame m #[(.ref x0), (.long x1)] 5 = mkF m 0 #[rv x0, .val (.long x1), .second, .unset, .unset] [] := by first | (simp [entryFrame, mkF, argsToLocals, Value.category]; done) | rfl
def Q15 (Z : State) (a202 : Addr) (j203 : Int64) (a204 : Addr) (k210 : ClassId) (j206 : Int64) (j207 : Int64) (j208 : Int64) (j209 : Int64) (h0 : Heap) (n0 : Nat) (v : Option Value) (h : Heap) (L : List Loc) : Prop := ((j203 / (64 : Int64)) = (0 : Int64) ∧ v = none ∧ Fr n0 L ∧ Keep h0 h [a204] ∧ Exa Z h a204 "[J" ∧ Arv Z h a204 k210 .long (4 : Int32) [(.long (j206 ||| ((1 : Int64) <<< ((j203.toInt32) &&& 0x3f).toInt64))), (.long j207), (.long j208), (.long j209)] (.long (0 : Int64))) ∨ ((j203 / (64 : Int64)) = (1 : Int64) ∧ v = none ∧ Fr n0 L ∧ Keep h0 h [a204] ∧ Exa Z h a204 "[J" ∧ Arv Z h a204 k210 .long (4 : Int32) [(.long j206), (.long (j207 ||| ((1 : Int64) <<< ((j203.toInt32) &&& 0x3f).toInt64))), (.long j208), (.long j209)] (.long (0 : Int64))) ∨ ((j203 / (64 : Int64)) = (2 : Int64) ∧ v = none ∧ Fr n0 L ∧ Keep h0 h [a204] ∧ Exa Z h a204 "[J" ∧ Arv Z h a204 k210 .long (4 : Int32) [(.long j206), (.long j207), (.long (j208 ||| ((1 : Int64) <<< ((j203.toInt32) &&& 0x3f).toInt64))), (.long j209)] (.long (0 : Int64))) ∨ ((j203 / (64 : Int64)) = (3 : Int64) ∧ v = none ∧ Fr n0 L ∧ Keep h0 h [a204] ∧ Exa Z h a204 "[J" ∧ Arv Z h a204 k210 .long (4 : Int32) [(.long j206), (.long j207), (.long j208), (.long (j209 ||| ((1 : Int64) <<< ((j203.toInt32) &&& 0x3f).toInt64)))] (.long (0 : Int64)))
set_option maxRecDepth 65536 in
set_option maxHeartbeats 40000000 in
theorem rm15 (l : Launch) (Z : State) (a0 : Array Value) (hw : ∀ d ∈ tables_1, d.before a0 Z = true) (ws : List Jvm.Cond) (a202 : Addr) (j203 : Int64) (a204 : Addr) (k210 : ClassId) (j206 : Int64) (j207 : Int64) (j208 : Int64) (j209 : Int64) (h0 : Heap) (n0 : Nat) (O0 : Old Z n0 h0) (pC211 : 0 ≤ j203.toInt) (pC212 : j203.toInt < 256) (pF_a202_firstBlock : Fld Z h0 a202 zs1 "firstBlock" "[J" (.ref a204)) (pE_a202 : Exa Z h0 a202 zs1) (pV_a204 : Arv Z h0 a204 k210 .long (4 : Int32) [(.long j206), (.long j207), (.long j208), (.long j209)] (.long (0 : Int64))) (pG_a204 : n0 ≤ a204) (pE_a204 : Exa Z h0 a204 "[J") :
    MetFree l (⟨zs1, "setBit", "(J)V"⟩ : MethodName) (head1 (Jvm.Cond.code (⟨zs1, "setBit", "(J)V"⟩ : MethodName) prog_20_method_6_code 5 none :: ws) ({ frames := 1, cells := 0, slots := 0, locals := 15 } : Room)) (fun a U => a = #[(.ref a202), (.long j203)] ∧ Z.Warmed39 U.vm ∧ U.heap = h0) (fun _ _ _ _ _ => True) (fun _ U o U' => ∃ v L, o = .returned v ∧ Q15 Z a202 j203 a204 k210 j206 j207 j208 j209 h0 n0 v U'.heap L ∧ FrameEnd U o U' L ({ frames := 1, cells := 0, slots := 0, locals := 15 } : Room).cells ({ frames := 1, cells := 0, slots := 0, locals := 15 } : Room).slots) := by
  refine MetFree.of_bodySF (plainFor_of_name pn_1) hisR ?_
  intro p e s m args below meth c s₁ Bd hml0 hP hK
  obtain ⟨rfl, hZ, hh⟩ := hP
  have hx := Bd.exec
  have hby := Bd.bytes
  have hml : c.maxLocals = 5 := hml0
  have hown : s.vm.findClass zs1 = some m.cls := findClass_of_methodNamed Bd.named
  have hnm := (name_of_methodNamed Bd.named Bd.method).1
  have X0 : Stand p l e ({ frames := 1, cells := 0, slots := 0, locals := 15 } : Room) s m #[(.ref a202), (.long j203)] below meth c s₁ [] 0 0 := Stand.of_body Bd
  have e0 : s₁.heap = h0 := by rw [← hh, Bd.state]; rfl
  have N0 := Fr.nil n0
  refine own_out ?_
  refine own_via (fun t k => castTop (ef_6 m a202 j203) (XS.lloadN X0.here hx rfl (hb hby d7_0) rfl (X0.ldc2Long hx hown (mvT hZ (wd hw 48 rfl)) (g := (mkF m 1 #[rv a202, .val (.long j203), .second, .unset, .unset] [(.long j203)])) rfl (hb hby d7_1) t (XS.ldiv X0.here hx rfl (hb hby d7_4) rfl (by decide) k)))) ?_
  show own_Goes p e below (s₁.setTop (mkF m 5 #[rv a202, .val (.long j203), .second, .unset, .unset] [(.long (j203 / (64 : Int64)))])) _
  rcases own_div4 j203 pC211 pC212 with qs | qs | qs | qs
  · have qs213 := qs
    rw [qs]
    show own_Goes p e below (s₁.setTop (mkF m 5 #[rv a202, .val (.long j203), .second, .unset, .unset] [(.long (0 : Int64))])) _
    refine own_via (fun t k => XS.lstoreN X0.here hx rfl (hb hby d7_5) rfl (l' := #[rv a202, .val (.long j203), .second, .val (.long (0 : Int64)), .second]) rfl (XS.aloadN X0.here hx rfl (hb hby d7_6) rfl rfl (XS.lloadN X0.here hx rfl (hb hby d7_7) rfl k))) ?_
    obtain ⟨cq214, q214, q214'⟩ := pE_a202.cell
    obtain ⟨_, _, ⟨T214, L214, c214, n214⟩, -, X214, ⟨Lc214, hQ214, l214, y214, z214⟩, st214⟩ := X0.privateBack hx (y := (⟨zs1, "blockOf", "(J)[J"⟩ : MethodName)) hown (mvT hZ (wd hw 34 rfl)) (mvT hZ (wd hw 35 rfl)) (own_selPriv (mvT hZ (wd hw 2 rfl)) (mvT hZ (wd hw 35 rfl)) (Cond.privateMethod_at (mvP hZ (wd hw 36 rfl) (args := #[]))) (by decide)) (Cond.privateMethod_at (mvP hZ (wd hw 36 rfl) (args := #[]))) (mvT hZ (wd hw 37 rfl)) (by decide) (backOf (W := 0) (rm3 l Z a0 hw [] a202 a204 h0 n0 O0 pF_a202_firstBlock) hZ (wd hw 37 rfl) (wd hw 3 rfl) (by decide) (by decide)) (g := (mkF m 8 #[rv a202, .val (.long j203), .second, .val (.long (0 : Int64)), .second] [(.long (0 : Int64)), (.ref a202)])) rfl (by rw [hml]; rfl) (Steps.refl _) (a := a202) (by rw [e0]; exact q214) q214' (argsL := [(.long (0 : Int64))]) (rest := []) (lenOf pd_3 rfl) rfl (by show 2 * 0 + _ ≤ _; exact Nat.le_of_eq rfl) (hb hby d7_8) (fun _ _ => ⟨rfl, e0, (by decide : 0 + 0 ≤ _), (by decide : 0 + 0 ≤ _)⟩)
    dsimp only [Pt.U, Pt.locs, Pt.cells, Pt.slots] at X214 l214 y214 z214 st214 hQ214
    subst l214 y214 z214
    obtain ⟨rfl, Nq214, hh215⟩ := hQ214
    have N214 := Fr.app N0 Nq214
    refine own_via (fun t k => st214.trans (XS.lloadN X214.here hx rfl (hb hby d7_11) rfl k)) ?_
    obtain ⟨_, T216, _, X216, hQ216, st216⟩ := own_cs X214 hx hZ hown (wd hw 38 rfl) (wd hw 39 rfl) (wd hw 40 rfl) (wd hw 3 rfl) (by decide) (rm4 l Z a0 hw []  h0 n0 O0 ) hh215 (g := (mkF m 12 #[rv a202, .val (.long j203), .second, .val (.long (0 : Int64)), .second] [(.long (0 : Int64)), (.ref a204)])) rfl (by rw [hml]; rfl) (rest := [(.ref a204)]) (W := 1) (lenOf pd_4 rfl) rfl (by show 2 * 0 + _ ≤ _; exact Nat.le_of_eq rfl) (hb hby d7_12) (by decide) (by decide) (by decide) (by decide)
    obtain ⟨rfl, Nq216, hh217⟩ := hQ216
    have N216 := Fr.app N214 Nq216
    refine own_via (fun t k => st216 t k) ?_
    refine own_via (S' := T216.setTop (mkF m 16 #[rv a202, .val (.long j203), .second, .val (.long (0 : Int64)), .second] [(.int (0 : Int32)), (.ref a204), (.int (0 : Int32)), (.ref a204)])) (fun t k => by jvm_step X216.here [X216.here.top, hx, (hb hby d7_15), Value.category]; exact k) ?_
    show own_Goes p e below (T216.setTop (mkF m 16 #[rv a202, .val (.long j203), .second, .val (.long (0 : Int64)), .second] [(.int (0 : Int32)), (.ref a204), (.int (0 : Int32)), (.ref a204)])) _
    obtain ⟨cl218, Ar218, qq218, S218, M218, H218, G218⟩ := id (pV_a204)
    have hin218 : ¬ ((0 : Int32) < 0 ∨ cl218.slots.size ≤ ((0 : Int32)).toNatClampNeg) := inb_of S218 ⟨by decide, by decide⟩
    refine own_via (fun t k => X216.laload hx (j := (0 : Int32)) (v := (.long j206)) (by rw [hh217]; exact Ar218.1) (State.isArrayOf_alike hZ.alike Ar218.2.1) Ar218.2.2 hin218 (Has.at H218 hin218 rfl) (g := (mkF m 16 #[rv a202, .val (.long j203), .second, .val (.long (0 : Int64)), .second] [(.int (0 : Int32)), (.ref a204), (.int (0 : Int32)), (.ref a204)])) rfl rfl (hb hby d7_16) t (XS.lconst X216.here hx rfl (hb hby d7_17) (XS.lloadN X216.here hx rfl (hb hby d7_18) rfl (XS.l2i X216.here hx rfl (hb hby d7_19) rfl (XS.lshl X216.here hx rfl (hb hby d7_20) rfl (XS.lor X216.here hx rfl (hb hby d7_21) rfl k)))))) ?_
    obtain ⟨cl219, Ar219, qq219, S219, M219, H219, G219⟩ := id (pV_a204)
    have hin219 : ¬ ((0 : Int32) < 0 ∨ cl219.slots.size ≤ ((0 : Int32)).toNatClampNeg) := inb_of S219 ⟨by decide, by decide⟩
    obtain ⟨T219, h219, X219, e219, W219, st219⟩ := stJ X216 hx hZ hh217 Ar219 (j := (0 : Int32)) hin219 (g := (mkF m 22 #[rv a202, .val (.long j203), .second, .val (.long (0 : Int64)), .second] [(.long (j206 ||| ((1 : Int64) <<< ((j203.toInt32) &&& 0x3f).toInt64))), (.int (0 : Int32)), (.ref a204)])) rfl rfl (hb hby d7_22)
    refine own_via (fun t k => st219 t k) ?_
    have V220 : Arv Z h219 a204 k210 .long (4 : Int32) [(.long (j206 ||| ((1 : Int64) <<< ((j203.toInt32) &&& 0x3f).toInt64))), (.long j207), (.long j208), (.long j209)] (.long (0 : Int64)) := Arv.set Ar219 qq219 S219 M219 H219 G219 rfl W219 0 rfl (Nat.le_of_ble_eq_true rfl)
    have N219 := Fr.snoc X219 N216 pG_a204
    show own_Goes p e below (T219.setTop (mkF m 23 #[rv a202, .val (.long j203), .second, .val (.long (0 : Int64)), .second] [])) _
    obtain ⟨fs, hr, hrun, hended, hW, hsame⟩ := X219.leave (v := none) (fun _ => rfl)
    refine own_end (t := T219.setFrames fs) ?_ ⟨_, hrun, hended, _, _, rfl, ?_, ⟨_, rfl⟩, hW, hsame.mono (by decide) (by decide)⟩
    · exact X219.returnOut hx Bd.returns (hb hby d7_23) hr
    have E221 : Exa Z h219 a204 "[J" := (pE_a204.wr W219)
    · show Q15 Z a202 j203 a204 k210 j206 j207 j208 j209 h0 n0 _ T219.heap _
      rw [e219]
      exact Or.inl <| ⟨qs213, rfl, N219, ((Keep.refl h0 [a204]).wr W219 (Or.inl (List.mem_of_getElem? (i := 0) rfl))), E221, V220⟩
  · have qs222 := qs
    rw [qs]
    show own_Goes p e below (s₁.setTop (mkF m 5 #[rv a202, .val (.long j203), .second, .unset, .unset] [(.long (1 : Int64))])) _
    refine own_via (fun t k => XS.lstoreN X0.here hx rfl (hb hby d7_5) rfl (l' := #[rv a202, .val (.long j203), .second, .val (.long (1 : Int64)), .second]) rfl (XS.aloadN X0.here hx rfl (hb hby d7_6) rfl rfl (XS.lloadN X0.here hx rfl (hb hby d7_7) rfl k))) ?_
    obtain ⟨cq223, q223, q223'⟩ := pE_a202.cell
    obtain ⟨_, _, ⟨T223, L223, c223, n223⟩, -, X223, ⟨Lc223, hQ223, l223, y223, z223⟩, st223⟩ := X0.privateBack hx (y := (⟨zs1, "blockOf", "(J)[J"⟩ : MethodName)) hown (mvT hZ (wd hw 34 rfl)) (mvT hZ (wd hw 35 rfl)) (own_selPriv (mvT hZ (wd hw 2 rfl)) (mvT hZ (wd hw 35 rfl)) (Cond.privateMethod_at (mvP hZ (wd hw 36 rfl) (args := #[]))) (by decide)) (Cond.privateMethod_at (mvP hZ (wd hw 36 rfl) (args := #[]))) (mvT hZ (wd hw 37 rfl)) (by decide) (backOf (W := 0) (rm6 l Z a0 hw [] a202 a204 h0 n0 O0 pF_a202_firstBlock) hZ (wd hw 37 rfl) (wd hw 3 rfl) (by decide) (by decide)) (g := (mkF m 8 #[rv a202, .val (.long j203), .second, .val (.long (1 : Int64)), .second] [(.long (1 : Int64)), (.ref a202)])) rfl (by rw [hml]; rfl) (Steps.refl _) (a := a202) (by rw [e0]; exact q223) q223' (argsL := [(.long (1 : Int64))]) (rest := []) (lenOf pd_3 rfl) rfl (by show 2 * 0 + _ ≤ _; exact Nat.le_of_eq rfl) (hb hby d7_8) (fun _ _ => ⟨rfl, e0, (by decide : 0 + 0 ≤ _), (by decide : 0 + 0 ≤ _)⟩)
    dsimp only [Pt.U, Pt.locs, Pt.cells, Pt.slots] at X223 l223 y223 z223 st223 hQ223
    subst l223 y223 z223
    obtain ⟨rfl, Nq223, hh224⟩ := hQ223
    have N223 := Fr.app N0 Nq223
    refine own_via (fun t k => st223.trans (XS.lloadN X223.here hx rfl (hb hby d7_11) rfl k)) ?_
    obtain ⟨_, T225, _, X225, hQ225, st225⟩ := own_cs X223 hx hZ hown (wd hw 38 rfl) (wd hw 39 rfl) (wd hw 40 rfl) (wd hw 3 rfl) (by decide) (rm7 l Z a0 hw []  h0 n0 O0 ) hh224 (g := (mkF m 12 #[rv a202, .val (.long j203), .second, .val (.long (1 : Int64)), .second] [(.long (1 : Int64)), (.ref a204)])) rfl (by rw [hml]; rfl) (rest := [(.ref a204)]) (W := 1) (lenOf pd_4 rfl) rfl (by show 2 * 0 + _ ≤ _; exact Nat.le_of_eq rfl) (hb hby d7_12) (by decide) (by decide) (by decide) (by decide)
    obtain ⟨rfl, Nq225, hh226⟩ := hQ225
    have N225 := Fr.app N223 Nq225
    refine own_via (fun t k => st225 t k) ?_
    refine own_via (S' := T225.setTop (mkF m 16 #[rv a202, .val (.long j203), .second, .val (.long (1 : Int64)), .second] [(.int (1 : Int32)), (.ref a204), (.int (1 : Int32)), (.ref a204)])) (fun t k => by jvm_step X225.here [X225.here.top, hx, (hb hby d7_15), Value.category]; exact k) ?_
    show own_Goes p e below (T225.setTop (mkF m 16 #[rv a202, .val (.long j203), .second, .val (.long (1 : Int64)), .second] [(.int (1 : Int32)), (.ref a204), (.int (1 : Int32)), (.ref a204)])) _
    obtain ⟨cl227, Ar227, qq227, S227, M227, H227, G227⟩ := id (pV_a204)
    have hin227 : ¬ ((1 : Int32) < 0 ∨ cl227.slots.size ≤ ((1 : Int32)).toNatClampNeg) := inb_of S227 ⟨by decide, by decide⟩
    refine own_via (fun t k => X225.laload hx (j := (1 : Int32)) (v := (.long j207)) (by rw [hh226]; exact Ar227.1) (State.isArrayOf_alike hZ.alike Ar227.2.1) Ar227.2.2 hin227 (Has.at H227 hin227 rfl) (g := (mkF m 16 #[rv a202, .val (.long j203), .second, .val (.long (1 : Int64)), .second] [(.int (1 : Int32)), (.ref a204), (.int (1 : Int32)), (.ref a204)])) rfl rfl (hb hby d7_16) t (XS.lconst X225.here hx rfl (hb hby d7_17) (XS.lloadN X225.here hx rfl (hb hby d7_18) rfl (XS.l2i X225.here hx rfl (hb hby d7_19) rfl (XS.lshl X225.here hx rfl (hb hby d7_20) rfl (XS.lor X225.here hx rfl (hb hby d7_21) rfl k)))))) ?_
    obtain ⟨cl228, Ar228, qq228, S228, M228, H228, G228⟩ := id (pV_a204)
    have hin228 : ¬ ((1 : Int32) < 0 ∨ cl228.slots.size ≤ ((1 : Int32)).toNatClampNeg) := inb_of S228 ⟨by decide, by decide⟩
    obtain ⟨T228, h228, X228, e228, W228, st228⟩ := stJ X225 hx hZ hh226 Ar228 (j := (1 : Int32)) hin228 (g := (mkF m 22 #[rv a202, .val (.long j203), .second, .val (.long (1 : Int64)), .second] [(.long (j207 ||| ((1 : Int64) <<< ((j203.toInt32) &&& 0x3f).toInt64))), (.int (1 : Int32)), (.ref a204)])) rfl rfl (hb hby d7_22)
    refine own_via (fun t k => st228 t k) ?_
    have V229 : Arv Z h228 a204 k210 .long (4 : Int32) [(.long j206), (.long (j207 ||| ((1 : Int64) <<< ((j203.toInt32) &&& 0x3f).toInt64))), (.long j208), (.long j209)] (.long (0 : Int64)) := Arv.set Ar228 qq228 S228 M228 H228 G228 rfl W228 1 rfl (Nat.le_of_ble_eq_true rfl)
    have N228 := Fr.snoc X228 N225 pG_a204
    show own_Goes p e below (T228.setTop (mkF m 23 #[rv a202, .val (.long j203), .second, .val (.long (1 : Int64)), .second] [])) _
    obtain ⟨fs, hr, hrun, hended, hW, hsame⟩ := X228.leave (v := none) (fun _ => rfl)
    refine own_end (t := T228.setFrames fs) ?_ ⟨_, hrun, hended, _, _, rfl, ?_, ⟨_, rfl⟩, hW, hsame.mono (by decide) (by decide)⟩
    · exact X228.returnOut hx Bd.returns (hb hby d7_23) hr
    have E230 : Exa Z h228 a204 "[J" := (pE_a204.wr W228)
    · show Q15 Z a202 j203 a204 k210 j206 j207 j208 j209 h0 n0 _ T228.heap _
      rw [e228]
      exact Or.inr <| Or.inl <| ⟨qs222, rfl, N228, ((Keep.refl h0 [a204]).wr W228 (Or.inl (List.mem_of_getElem? (i := 0) rfl))), E230, V229⟩
  · have qs231 := qs
    rw [qs]
    show own_Goes p e below (s₁.setTop (mkF m 5 #[rv a202, .val (.long j203), .second, .unset, .unset] [(.long (2 : Int64))])) _
    refine own_via (fun t k => XS.lstoreN X0.here hx rfl (hb hby d7_5) rfl (l' := #[rv a202, .val (.long j203), .second, .val (.long (2 : Int64)), .second]) rfl (XS.aloadN X0.here hx rfl (hb hby d7_6) rfl rfl (XS.lloadN X0.here hx rfl (hb hby d7_7) rfl k))) ?_
    obtain ⟨cq232, q232, q232'⟩ := pE_a202.cell
    obtain ⟨_, _, ⟨T232, L232, c232, n232⟩, -, X232, ⟨Lc232, hQ232, l232, y232, z232⟩, st232⟩ := X0.privateBack hx (y := (⟨zs1, "blockOf", "(J)[J"⟩ : MethodName)) hown (mvT hZ (wd hw 34 rfl)) (mvT hZ (wd hw 35 rfl)) (own_selPriv (mvT hZ (wd hw 2 rfl)) (mvT hZ (wd hw 35 rfl)) (Cond.privateMethod_at (mvP hZ (wd hw 36 rfl) (args := #[]))) (by decide)) (Cond.privateMethod_at (mvP hZ (wd hw 36 rfl) (args := #[]))) (mvT hZ (wd hw 37 rfl)) (by decide) (backOf (W := 0) (rm9 l Z a0 hw [] a202 a204 h0 n0 O0 pF_a202_firstBlock) hZ (wd hw 37 rfl) (wd hw 3 rfl) (by decide) (by decide)) (g := (mkF m 8 #[rv a202, .val (.long j203), .second, .val (.long (2 : Int64)), .second] [(.long (2 : Int64)), (.ref a202)])) rfl (by rw [hml]; rfl) (Steps.refl _) (a := a202) (by rw [e0]; exact q232) q232' (argsL := [(.long (2 : Int64))]) (rest := []) (lenOf pd_3 rfl) rfl (by show 2 * 0 + _ ≤ _; exact Nat.le_of_eq rfl) (hb hby d7_8) (fun _ _ => ⟨rfl, e0, (by decide : 0 + 0 ≤ _), (by decide : 0 + 0 ≤ _)⟩)
    dsimp only [Pt.U, Pt.locs, Pt.cells, Pt.slots] at X232 l232 y232 z232 st232 hQ232
    subst l232 y232 z232
    obtain ⟨rfl, Nq232, hh233⟩ := hQ232
    have N232 := Fr.app N0 Nq232
    refine own_via (fun t k => st232.trans (XS.lloadN X232.here hx rfl (hb hby d7_11) rfl k)) ?_
    obtain ⟨_, T234, _, X234, hQ234, st234⟩ := own_cs X232 hx hZ hown (wd hw 38 rfl) (wd hw 39 rfl) (wd hw 40 rfl) (wd hw 3 rfl) (by decide) (rm10 l Z a0 hw []  h0 n0 O0 ) hh233 (g := (mkF m 12 #[rv a202, .val (.long j203), .second, .val (.long (2 : Int64)), .second] [(.long (2 : Int64)), (.ref a204)])) rfl (by rw [hml]; rfl) (rest := [(.ref a204)]) (W := 1) (lenOf pd_4 rfl) rfl (by show 2 * 0 + _ ≤ _; exact Nat.le_of_eq rfl) (hb hby d7_12) (by decide) (by decide) (by decide) (by decide)
    obtain ⟨rfl, Nq234, hh235⟩ := hQ234
    have N234 := Fr.app N232 Nq234
    refine own_via (fun t k => st234 t k) ?_
    refine own_via (S' := T234.setTop (mkF m 16 #[rv a202, .val (.long j203), .second, .val (.long (2 : Int64)), .second] [(.int (2 : Int32)), (.ref a204), (.int (2 : Int32)), (.ref a204)])) (fun t k => by jvm_step X234.here [X234.here.top, hx, (hb hby d7_15), Value.category]; exact k) ?_
    show own_Goes p e below (T234.setTop (mkF m 16 #[rv a202, .val (.long j203), .second, .val (.long (2 : Int64)), .second] [(.int (2 : Int32)), (.ref a204), (.int (2 : Int32)), (.ref a204)])) _
    obtain ⟨cl236, Ar236, qq236, S236, M236, H236, G236⟩ := id (pV_a204)
    have hin236 : ¬ ((2 : Int32) < 0 ∨ cl236.slots.size ≤ ((2 : Int32)).toNatClampNeg) := inb_of S236 ⟨by decide, by decide⟩
    refine own_via (fun t k => X234.laload hx (j := (2 : Int32)) (v := (.long j208)) (by rw [hh235]; exact Ar236.1) (State.isArrayOf_alike hZ.alike Ar236.2.1) Ar236.2.2 hin236 (Has.at H236 hin236 rfl) (g := (mkF m 16 #[rv a202, .val (.long j203), .second, .val (.long (2 : Int64)), .second] [(.int (2 : Int32)), (.ref a204), (.int (2 : Int32)), (.ref a204)])) rfl rfl (hb hby d7_16) t (XS.lconst X234.here hx rfl (hb hby d7_17) (XS.lloadN X234.here hx rfl (hb hby d7_18) rfl (XS.l2i X234.here hx rfl (hb hby d7_19) rfl (XS.lshl X234.here hx rfl (hb hby d7_20) rfl (XS.lor X234.here hx rfl (hb hby d7_21) rfl k)))))) ?_
    obtain ⟨cl237, Ar237, qq237, S237, M237, H237, G237⟩ := id (pV_a204)
    have hin237 : ¬ ((2 : Int32) < 0 ∨ cl237.slots.size ≤ ((2 : Int32)).toNatClampNeg) := inb_of S237 ⟨by decide, by decide⟩
    obtain ⟨T237, h237, X237, e237, W237, st237⟩ := stJ X234 hx hZ hh235 Ar237 (j := (2 : Int32)) hin237 (g := (mkF m 22 #[rv a202, .val (.long j203), .second, .val (.long (2 : Int64)), .second] [(.long (j208 ||| ((1 : Int64) <<< ((j203.toInt32) &&& 0x3f).toInt64))), (.int (2 : Int32)), (.ref a204)])) rfl rfl (hb hby d7_22)
    refine own_via (fun t k => st237 t k) ?_
    have V238 : Arv Z h237 a204 k210 .long (4 : Int32) [(.long j206), (.long j207), (.long (j208 ||| ((1 : Int64) <<< ((j203.toInt32) &&& 0x3f).toInt64))), (.long j209)] (.long (0 : Int64)) := Arv.set Ar237 qq237 S237 M237 H237 G237 rfl W237 2 rfl (Nat.le_of_ble_eq_true rfl)
    have N237 := Fr.snoc X237 N234 pG_a204
    show own_Goes p e below (T237.setTop (mkF m 23 #[rv a202, .val (.long j203), .second, .val (.long (2 : Int64)), .second] [])) _
    obtain ⟨fs, hr, hrun, hended, hW, hsame⟩ := X237.leave (v := none) (fun _ => rfl)
    refine own_end (t := T237.setFrames fs) ?_ ⟨_, hrun, hended, _, _, rfl, ?_, ⟨_, rfl⟩, hW, hsame.mono (by decide) (by decide)⟩
    · exact X237.returnOut hx Bd.returns (hb hby d7_23) hr
    have E239 : Exa Z h237 a204 "[J" := (pE_a204.wr W237)
    · show Q15 Z a202 j203 a204 k210 j206 j207 j208 j209 h0 n0 _ T237.heap _
      rw [e237]
      exact Or.inr <| Or.inr <| Or.inl <| ⟨qs231, rfl, N237, ((Keep.refl h0 [a204]).wr W237 (Or.inl (List.mem_of_getElem? (i := 0) rfl))), E239, V238⟩
  · have qs240 := qs
    rw [qs]
    show own_Goes p e below (s₁.setTop (mkF m 5 #[rv a202, .val (.long j203), .second, .unset, .unset] [(.long (3 : Int64))])) _
    refine own_via (fun t k => XS.lstoreN X0.here hx rfl (hb hby d7_5) rfl (l' := #[rv a202, .val (.long j203), .second, .val (.long (3 : Int64)), .second]) rfl (XS.aloadN X0.here hx rfl (hb hby d7_6) rfl rfl (XS.lloadN X0.here hx rfl (hb hby d7_7) rfl k))) ?_
    obtain ⟨cq241, q241, q241'⟩ := pE_a202.cell
    obtain ⟨_, _, ⟨T241, L241, c241, n241⟩, -, X241, ⟨Lc241, hQ241, l241, y241, z241⟩, st241⟩ := X0.privateBack hx (y := (⟨zs1, "blockOf", "(J)[J"⟩ : MethodName)) hown (mvT hZ (wd hw 34 rfl)) (mvT hZ (wd hw 35 rfl)) (own_selPriv (mvT hZ (wd hw 2 rfl)) (mvT hZ (wd hw 35 rfl)) (Cond.privateMethod_at (mvP hZ (wd hw 36 rfl) (args := #[]))) (by decide)) (Cond.privateMethod_at (mvP hZ (wd hw 36 rfl) (args := #[]))) (mvT hZ (wd hw 37 rfl)) (by decide) (backOf (W := 0) (rm12 l Z a0 hw [] a202 a204 h0 n0 O0 pF_a202_firstBlock) hZ (wd hw 37 rfl) (wd hw 3 rfl) (by decide) (by decide)) (g := (mkF m 8 #[rv a202, .val (.long j203), .second, .val (.long (3 : Int64)), .second] [(.long (3 : Int64)), (.ref a202)])) rfl (by rw [hml]; rfl) (Steps.refl _) (a := a202) (by rw [e0]; exact q241) q241' (argsL := [(.long (3 : Int64))]) (rest := []) (lenOf pd_3 rfl) rfl (by show 2 * 0 + _ ≤ _; exact Nat.le_of_eq rfl) (hb hby d7_8) (fun _ _ => ⟨rfl, e0, (by decide : 0 + 0 ≤ _), (by decide : 0 + 0 ≤ _)⟩)
    dsimp only [Pt.U, Pt.locs, Pt.cells, Pt.slots] at X241 l241 y241 z241 st241 hQ241
    subst l241 y241 z241
    obtain ⟨rfl, Nq241, hh242⟩ := hQ241
    have N241 := Fr.app N0 Nq241
    refine own_via (fun t k => st241.trans (XS.lloadN X241.here hx rfl (hb hby d7_11) rfl k)) ?_
    obtain ⟨_, T243, _, X243, hQ243, st243⟩ := own_cs X241 hx hZ hown (wd hw 38 rfl) (wd hw 39 rfl) (wd hw 40 rfl) (wd hw 3 rfl) (by decide) (rm13 l Z a0 hw []  h0 n0 O0 ) hh242 (g := (mkF m 12 #[rv a202, .val (.long j203), .second, .val (.long (3 : Int64)), .second] [(.long (3 : Int64)), (.ref a204)])) rfl (by rw [hml]; rfl) (rest := [(.ref a204)]) (W := 1) (lenOf pd_4 rfl) rfl (by show 2 * 0 + _ ≤ _; exact Nat.le_of_eq rfl) (hb hby d7_12) (by decide) (by decide) (by decide) (by decide)
    obtain ⟨rfl, Nq243, hh244⟩ := hQ243
    have N243 := Fr.app N241 Nq243
    refine own_via (fun t k => st243 t k) ?_
    refine own_via (S' := T243.setTop (mkF m 16 #[rv a202, .val (.long j203), .second, .val (.long (3 : Int64)), .second] [(.int (3 : Int32)), (.ref a204), (.int (3 : Int32)), (.ref a204)])) (fun t k => by jvm_step X243.here [X243.here.top, hx, (hb hby d7_15), Value.category]; exact k) ?_
    show own_Goes p e below (T243.setTop (mkF m 16 #[rv a202, .val (.long j203), .second, .val (.long (3 : Int64)), .second] [(.int (3 : Int32)), (.ref a204), (.int (3 : Int32)), (.ref a204)])) _
    obtain ⟨cl245, Ar245, qq245, S245, M245, H245, G245⟩ := id (pV_a204)
    have hin245 : ¬ ((3 : Int32) < 0 ∨ cl245.slots.size ≤ ((3 : Int32)).toNatClampNeg) := inb_of S245 ⟨by decide, by decide⟩
    refine own_via (fun t k => X243.laload hx (j := (3 : Int32)) (v := (.long j209)) (by rw [hh244]; exact Ar245.1) (State.isArrayOf_alike hZ.alike Ar245.2.1) Ar245.2.2 hin245 (Has.at H245 hin245 rfl) (g := (mkF m 16 #[rv a202, .val (.long j203), .second, .val (.long (3 : Int64)), .second] [(.int (3 : Int32)), (.ref a204), (.int (3 : Int32)), (.ref a204)])) rfl rfl (hb hby d7_16) t (XS.lconst X243.here hx rfl (hb hby d7_17) (XS.lloadN X243.here hx rfl (hb hby d7_18) rfl (XS.l2i X243.here hx rfl (hb hby d7_19) rfl (XS.lshl X243.here hx rfl (hb hby d7_20) rfl (XS.lor X243.here hx rfl (hb hby d7_21) rfl k)))))) ?_
    obtain ⟨cl246, Ar246, qq246, S246, M246, H246, G246⟩ := id (pV_a204)
    have hin246 : ¬ ((3 : Int32) < 0 ∨ cl246.slots.size ≤ ((3 : Int32)).toNatClampNeg) := inb_of S246 ⟨by decide, by decide⟩
    obtain ⟨T246, h246, X246, e246, W246, st246⟩ := stJ X243 hx hZ hh244 Ar246 (j := (3 : Int32)) hin246 (g := (mkF m 22 #[rv a202, .val (.long j203), .second, .val (.long (3 : Int64)), .second] [(.long (j209 ||| ((1 : Int64) <<< ((j203.toInt32) &&& 0x3f).toInt64))), (.int (3 : Int32)), (.ref a204)])) rfl rfl (hb hby d7_22)
    refine own_via (fun t k => st246 t k) ?_
    have V247 : Arv Z h246 a204 k210 .long (4 : Int32) [(.long j206), (.long j207), (.long j208), (.long (j209 ||| ((1 : Int64) <<< ((j203.toInt32) &&& 0x3f).toInt64)))] (.long (0 : Int64)) := Arv.set Ar246 qq246 S246 M246 H246 G246 rfl W246 3 rfl (Nat.le_of_ble_eq_true rfl)
    have N246 := Fr.snoc X246 N243 pG_a204
    show own_Goes p e below (T246.setTop (mkF m 23 #[rv a202, .val (.long j203), .second, .val (.long (3 : Int64)), .second] [])) _
    obtain ⟨fs, hr, hrun, hended, hW, hsame⟩ := X246.leave (v := none) (fun _ => rfl)
    refine own_end (t := T246.setFrames fs) ?_ ⟨_, hrun, hended, _, _, rfl, ?_, ⟨_, rfl⟩, hW, hsame.mono (by decide) (by decide)⟩
    · exact X246.returnOut hx Bd.returns (hb hby d7_23) hr
    have E248 : Exa Z h246 a204 "[J" := (pE_a204.wr W246)
    · show Q15 Z a202 j203 a204 k210 j206 j207 j208 j209 h0 n0 _ T246.heap _
      rw [e246]
      exact Or.inr <| Or.inr <| Or.inr <| ⟨qs240, rfl, N246, ((Keep.refl h0 [a204]).wr W246 (Or.inl (List.mem_of_getElem? (i := 0) rfl))), E248, V247⟩
theorem d8_0 : decode prog_20_method_3_code 0 = .ok (.aload_n 0, 1) := by decide +kernel
theorem d8_1 : decode prog_20_method_3_code 1 = .ok (.lload_n 1, 1) := by decide +kernel
theorem d8_2 : decode prog_20_method_3_code 2 = .ok (.invokevirtual 36, 3) := by decide +kernel
theorem d8_5 : decode prog_20_method_3_code 5 = .ok (.lload_n 1, 1) := by decide +kernel
theorem d8_6 : decode prog_20_method_3_code 6 = .ok (.invokestatic 40, 3) := by decide +kernel
theorem d8_9 : decode prog_20_method_3_code 9 = .ok (.laload, 1) := by decide +kernel
theorem d8_10 : decode prog_20_method_3_code 10 = .ok (.lreturn, 1) := by decide +kernel
theorem ef_7 (m : MethodId) (x0 : Addr) (x1 : Int64) : entryFrame m #[(.ref x0), (.long x1)] 3 = mkF m 0 #[rv x0, .val (.long x1), .second] [] := by first | (simp [entryFrame, mkF, argsToLocals, Value.category]; done) | rfl
def Q16 (Z : State) (a266 : Addr) (a267 : Addr) (k273 : ClassId) (j269 : Int64) (j270 : Int64) (j271 : Int64) (j272 : Int64) (h0 : Heap) (n0 : Nat) (v : Option Value) (h : Heap) (L : List Loc) : Prop := v = some (.long j269) ∧ Fr n0 L ∧ h = h0
set_option maxRecDepth 65536 in
set_option maxHeartbeats 40000000 in
theorem rm16 (l : Launch) (Z : State) (a0 : Array Value) (hw : ∀ d ∈ tables_1, d.before a0 Z = true) (ws : List Jvm.Cond) (a266 : Addr) (a267 : Addr) (k273 : ClassId) (j269 : Int64) (j270 : Int64) (j271 : Int64) (j272 : Int64) (h0 : Heap) (n0 : Nat) (O0 : Old Z n0 h0) (pF_a266_firstBlock : Fld Z h0 a266 zs1 "firstBlock" "[J" (.ref a267)) (pE_a266 : Exa Z h0 a266 zs1) (pV_a267 : Arv Z h0 a267 k273 .long (4 : Int32) [(.long j269), (.long j270), (.long j271), (.long j272)] (.long (0 : Int64))) :
    MetFree l (⟨zs1, "get", "(J)J"⟩ : MethodName) (head1 (Jvm.Cond.code (⟨zs1, "get", "(J)J"⟩ : MethodName) prog_20_method_3_code 3 (some .long) :: ws) ({ frames := 1, cells := 0, slots := 0, locals := 15 } : Room)) (fun a U => a = #[(.ref a266), (.long (0 : Int64))] ∧ Z.Warmed39 U.vm ∧ U.heap = h0) (fun _ _ _ _ _ => True) (fun _ U o U' => ∃ v L, o = .returned v ∧ Q16 Z a266 a267 k273 j269 j270 j271 j272 h0 n0 v U'.heap L ∧ FrameEnd U o U' L ({ frames := 1, cells := 0, slots := 0, locals := 15 } : Room).cells ({ frames := 1, cells := 0, slots := 0, locals := 15 } : Room).slots) := by
  refine MetFree.of_bodySF (plainFor_of_name pn_1) hisR ?_
  intro p e s m args below meth c s₁ Bd hml0 hP hK
  obtain ⟨rfl, hZ, hh⟩ := hP
  have hx := Bd.exec
  have hby := Bd.bytes
  have hml : c.maxLocals = 3 := hml0
  have hown : s.vm.findClass zs1 = some m.cls := findClass_of_methodNamed Bd.named
  have hnm := (name_of_methodNamed Bd.named Bd.method).1
  have X0 : Stand p l e ({ frames := 1, cells := 0, slots := 0, locals := 15 } : Room) s m #[(.ref a266), (.long (0 : Int64))] below meth c s₁ [] 0 0 := Stand.of_body Bd
  have e0 : s₁.heap = h0 := by rw [← hh, Bd.state]; rfl
  have N0 := Fr.nil n0
  refine own_out ?_
  refine own_via (fun t k => castTop (ef_7 m a266 (0 : Int64)) (XS.aloadN X0.here hx rfl (hb hby d8_0) rfl rfl (XS.lloadN X0.here hx rfl (hb hby d8_1) rfl k))) ?_
  obtain ⟨cq279, q279, q279'⟩ := pE_a266.cell
  obtain ⟨_, _, ⟨T279, L279, c279, n279⟩, -, X279, ⟨Lc279, hQ279, l279, y279, z279⟩, st279⟩ := X0.privateBack hx (y := (⟨zs1, "blockOf", "(J)[J"⟩ : MethodName)) hown (mvT hZ (wd hw 34 rfl)) (mvT hZ (wd hw 35 rfl)) (own_selPriv (mvT hZ (wd hw 2 rfl)) (mvT hZ (wd hw 35 rfl)) (Cond.privateMethod_at (mvP hZ (wd hw 36 rfl) (args := #[]))) (by decide)) (Cond.privateMethod_at (mvP hZ (wd hw 36 rfl) (args := #[]))) (mvT hZ (wd hw 37 rfl)) (by decide) (backOf (W := 0) (rm3 l Z a0 hw [] a266 a267 h0 n0 O0 pF_a266_firstBlock) hZ (wd hw 37 rfl) (wd hw 3 rfl) (by decide) (by decide)) (g := (mkF m 2 #[rv a266, .val (.long (0 : Int64)), .second] [(.long (0 : Int64)), (.ref a266)])) rfl (by rw [hml]; rfl) (Steps.refl _) (a := a266) (by rw [e0]; exact q279) q279' (argsL := [(.long (0 : Int64))]) (rest := []) (lenOf pd_3 rfl) rfl (by show 2 * 0 + _ ≤ _; exact Nat.le_of_eq rfl) (hb hby d8_2) (fun _ _ => ⟨rfl, e0, (by decide : 0 + 0 ≤ _), (by decide : 0 + 0 ≤ _)⟩)
  dsimp only [Pt.U, Pt.locs, Pt.cells, Pt.slots] at X279 l279 y279 z279 st279 hQ279
  subst l279 y279 z279
  obtain ⟨rfl, Nq279, hh280⟩ := hQ279
  have N279 := Fr.app N0 Nq279
  refine own_via (fun t k => st279.trans (XS.lloadN X279.here hx rfl (hb hby d8_5) rfl k)) ?_
  obtain ⟨_, T281, _, X281, hQ281, st281⟩ := own_cs X279 hx hZ hown (wd hw 38 rfl) (wd hw 39 rfl) (wd hw 40 rfl) (wd hw 3 rfl) (by decide) (rm4 l Z a0 hw []  h0 n0 O0 ) hh280 (g := (mkF m 6 #[rv a266, .val (.long (0 : Int64)), .second] [(.long (0 : Int64)), (.ref a267)])) rfl (by rw [hml]; rfl) (rest := [(.ref a267)]) (W := 1) (lenOf pd_4 rfl) rfl (by show 2 * 0 + _ ≤ _; exact Nat.le_of_eq rfl) (hb hby d8_6) (by decide) (by decide) (by decide) (by decide)
  obtain ⟨rfl, Nq281, hh282⟩ := hQ281
  have N281 := Fr.app N279 Nq281
  refine own_via (fun t k => st281 t k) ?_
  obtain ⟨cl283, Ar283, qq283, S283, M283, H283, G283⟩ := id (pV_a267)
  have hin283 : ¬ ((0 : Int32) < 0 ∨ cl283.slots.size ≤ ((0 : Int32)).toNatClampNeg) := inb_of S283 ⟨by decide, by decide⟩
  refine own_via (fun t k => X281.laload hx (j := (0 : Int32)) (v := (.long j269)) (by rw [hh282]; exact Ar283.1) (State.isArrayOf_alike hZ.alike Ar283.2.1) Ar283.2.2 hin283 (Has.at H283 hin283 rfl) (g := (mkF m 9 #[rv a266, .val (.long (0 : Int64)), .second] [(.int (0 : Int32)), (.ref a267)])) rfl rfl (hb hby d8_9) t k) ?_
  obtain ⟨fs, hr, hrun, hended, hW, hsame⟩ := X281.leave (v := some (.long j269)) (fun h => by rw [Bd.returns] at h; cases h)
  refine own_end (t := T281.setFrames fs) ?_ ⟨_, hrun, hended, _, _, rfl, ?_, ⟨_, rfl⟩, hW, hsame.mono (by decide) (by decide)⟩
  · jvm_step X281.here [X281.here.top, hx, (hb hby d8_10), X281.method', Bd.returns, narrow]
    first | (intro acts; rw [hr _ acts rfl rfl rfl]) | rw [hr _ _ rfl rfl rfl]
    exact Steps.refl _
  · show Q16 Z a266 a267 k273 j269 j270 j271 j272 h0 n0 _ T281.heap _
    rw [hh282]
    exact ⟨rfl, N281, rfl⟩
theorem pd_6 : parseMethodDescriptor "(J)J" = some ⟨[.long], some .long⟩ := by decide +kernel
theorem d9_0 : decode method_3_code 0 = .ok (.lload_n 0, 1) := by decide +kernel
theorem d9_1 : decode method_3_code 1 = .ok (.lload_n 2, 1) := by decide +kernel
theorem d9_2 : decode method_3_code 2 = .ok (.lcmp, 1) := by decide +kernel
theorem d9_3 : decode method_3_code 3 = .ok (.ifCond .ne 9, 3) := by decide +kernel
theorem d9_6 : decode method_3_code 6 = .ok (.lload 6, 2) := by decide +kernel
theorem d9_8 : decode method_3_code 8 = .ok (.lload 4, 2) := by decide +kernel
theorem d9_10 : decode method_3_code 10 = .ok (.lor, 1) := by decide +kernel
theorem d9_11 : decode method_3_code 11 = .ok (.lreturn, 1) := by decide +kernel
theorem ef_8 (m : MethodId) (x0 : Int64) (x1 : Int64) (x2 : Int64) (x3 : Int64) : entryFrame m #[(.long x0), (.long x1), (.long x2), (.long x3)] 8 = mkF m 0 #[.val (.long x0), .second, .val (.long x1), .second, .val (.long x2), .second, .val (.long x3), .second] [] := by first | (simp [entryFrame, mkF, argsToLocals, Value.category]; done) | rfl
theorem pn_2 : plainName "com/example/tuccia/tuccia/WordArraySetBitPinLaw" = true := by first | (simp [plainName, overriddenIn]; done) | decide +kernel
def Q17 (Z : State) (j289 : Int64) (j290 : Int64) (h0 : Heap) (n0 : Nat) (v : Option Value) (h : Heap) (L : List Loc) : Prop := v = some (.long (j290 ||| j289)) ∧ Fr n0 L ∧ h = h0
set_option maxRecDepth 65536 in
set_option maxHeartbeats 40000000 in
theorem rm17 (l : Launch) (Z : State) (a0 : Array Value) (hw : ∀ d ∈ tables_1, d.before a0 Z = true) (ws : List Jvm.Cond) (j289 : Int64) (j290 : Int64) (h0 : Heap) (n0 : Nat) (O0 : Old Z n0 h0) :
    MetFree l (⟨zs2, "expected", "(JJJJ)J"⟩ : MethodName) (head1 (Jvm.Cond.code (⟨zs2, "expected", "(JJJJ)J"⟩ : MethodName) method_3_code 8 (some .long) :: ws) ({ frames := 0, cells := 0, slots := 0, locals := 0 } : Room)) (fun a U => a = #[(.long (0 : Int64)), (.long (0 : Int64)), (.long j289), (.long j290)] ∧ Z.Warmed39 U.vm ∧ U.heap = h0) (fun _ _ _ _ _ => True) (fun _ U o U' => ∃ v L, o = .returned v ∧ Q17 Z j289 j290 h0 n0 v U'.heap L ∧ FrameEnd U o U' L ({ frames := 0, cells := 0, slots := 0, locals := 0 } : Room).cells ({ frames := 0, cells := 0, slots := 0, locals := 0 } : Room).slots) := by
  refine MetFree.of_bodySF (plainFor_of_name pn_2) hisR ?_
  intro p e s m args below meth c s₁ Bd hml0 hP hK
  obtain ⟨rfl, hZ, hh⟩ := hP
  have hx := Bd.exec
  have hby := Bd.bytes
  have hml : c.maxLocals = 8 := hml0
  have hown : s.vm.findClass zs2 = some m.cls := findClass_of_methodNamed Bd.named
  have hnm := (name_of_methodNamed Bd.named Bd.method).1
  have X0 : Stand p l e ({ frames := 0, cells := 0, slots := 0, locals := 0 } : Room) s m #[(.long (0 : Int64)), (.long (0 : Int64)), (.long j289), (.long j290)] below meth c s₁ [] 0 0 := Stand.of_body Bd
  have e0 : s₁.heap = h0 := by rw [← hh, Bd.state]; rfl
  have N0 := Fr.nil n0
  refine own_out ?_
  refine own_via (fun t k => castTop (ef_8 m (0 : Int64) (0 : Int64) j289 j290) (XS.lloadN X0.here hx rfl (hb hby d9_0) rfl (XS.lloadN X0.here hx rfl (hb hby d9_1) rfl (XS.lcmp X0.here hx rfl (hb hby d9_2) rfl (XS.ifNo X0.here hx rfl (hb hby d9_3) rfl ((if0 _ _).trans (teq (by decide : (0 : Int32) = (0 : Int32))).2) (XS.lload X0.here hx rfl (hb hby d9_6) rfl (XS.lload X0.here hx rfl (hb hby d9_8) rfl (XS.lor X0.here hx rfl (hb hby d9_10) rfl k)))))))) ?_
  obtain ⟨fs, hr, hrun, hended, hW, hsame⟩ := X0.leave (v := some (.long (j290 ||| j289))) (fun h => by rw [Bd.returns] at h; cases h)
  refine own_end (t := s₁.setFrames fs) ?_ ⟨_, hrun, hended, _, _, rfl, ?_, ⟨_, rfl⟩, hW, hsame.mono (by decide) (by decide)⟩
  · jvm_step X0.here [X0.here.top, hx, (hb hby d9_11), X0.method', Bd.returns, narrow]
    first | (intro acts; rw [hr _ acts rfl rfl rfl]) | rw [hr _ _ rfl rfl rfl]
    exact Steps.refl _
  · show Q17 Z j289 j290 h0 n0 _ s₁.heap _
    rw [e0]
    exact ⟨rfl, N0, rfl⟩
theorem pd_7 : parseMethodDescriptor "(JJJJ)J" = some ⟨[.long, .long, .long, .long], some .long⟩ := by decide +kernel
def Q18 (Z : State) (a305 : Addr) (a306 : Addr) (k312 : ClassId) (j308 : Int64) (j309 : Int64) (j310 : Int64) (j311 : Int64) (h0 : Heap) (n0 : Nat) (v : Option Value) (h : Heap) (L : List Loc) : Prop := v = some (.long j309) ∧ Fr n0 L ∧ h = h0
set_option maxRecDepth 65536 in
set_option maxHeartbeats 40000000 in
theorem rm18 (l : Launch) (Z : State) (a0 : Array Value) (hw : ∀ d ∈ tables_1, d.before a0 Z = true) (ws : List Jvm.Cond) (a305 : Addr) (a306 : Addr) (k312 : ClassId) (j308 : Int64) (j309 : Int64) (j310 : Int64) (j311 : Int64) (h0 : Heap) (n0 : Nat) (O0 : Old Z n0 h0) (pF_a305_firstBlock : Fld Z h0 a305 zs1 "firstBlock" "[J" (.ref a306)) (pE_a305 : Exa Z h0 a305 zs1) (pV_a306 : Arv Z h0 a306 k312 .long (4 : Int32) [(.long j308), (.long j309), (.long j310), (.long j311)] (.long (0 : Int64))) :
    MetFree l (⟨zs1, "get", "(J)J"⟩ : MethodName) (head1 (Jvm.Cond.code (⟨zs1, "get", "(J)J"⟩ : MethodName) prog_20_method_3_code 3 (some .long) :: ws) ({ frames := 1, cells := 0, slots := 0, locals := 15 } : Room)) (fun a U => a = #[(.ref a305), (.long (1 : Int64))] ∧ Z.Warmed39 U.vm ∧ U.heap = h0) (fun _ _ _ _ _ => True) (fun _ U o U' => ∃ v L, o = .returned v ∧ Q18 Z a305 a306 k312 j308 j309 j310 j311 h0 n0 v U'.heap L ∧ FrameEnd U o U' L ({ frames := 1, cells := 0, slots := 0, locals := 15 } : Room).cells ({ frames := 1, cells := 0, slots := 0, locals := 15 } : Room).slots) := by
  refine MetFree.of_bodySF (plainFor_of_name pn_1) hisR ?_
  intro p e s m args below meth c s₁ Bd hml0 hP hK
  obtain ⟨rfl, hZ, hh⟩ := hP
  have hx := Bd.exec
  have hby := Bd.bytes
  have hml : c.maxLocals = 3 := hml0
  have hown : s.vm.findClass zs1 = some m.cls := findClass_of_methodNamed Bd.named
  have hnm := (name_of_methodNamed Bd.named Bd.method).1
  have X0 : Stand p l e ({ frames := 1, cells := 0, slots := 0, locals := 15 } : Room) s m #[(.ref a305), (.long (1 : Int64))] below meth c s₁ [] 0 0 := Stand.of_body Bd
  have e0 : s₁.heap = h0 := by rw [← hh, Bd.state]; rfl
  have N0 := Fr.nil n0
  refine own_out ?_
  refine own_via (fun t k => castTop (ef_7 m a305 (1 : Int64)) (XS.aloadN X0.here hx rfl (hb hby d8_0) rfl rfl (XS.lloadN X0.here hx rfl (hb hby d8_1) rfl k))) ?_
  obtain ⟨cq318, q318, q318'⟩ := pE_a305.cell
  obtain ⟨_, _, ⟨T318, L318, c318, n318⟩, -, X318, ⟨Lc318, hQ318, l318, y318, z318⟩, st318⟩ := X0.privateBack hx (y := (⟨zs1, "blockOf", "(J)[J"⟩ : MethodName)) hown (mvT hZ (wd hw 34 rfl)) (mvT hZ (wd hw 35 rfl)) (own_selPriv (mvT hZ (wd hw 2 rfl)) (mvT hZ (wd hw 35 rfl)) (Cond.privateMethod_at (mvP hZ (wd hw 36 rfl) (args := #[]))) (by decide)) (Cond.privateMethod_at (mvP hZ (wd hw 36 rfl) (args := #[]))) (mvT hZ (wd hw 37 rfl)) (by decide) (backOf (W := 0) (rm6 l Z a0 hw [] a305 a306 h0 n0 O0 pF_a305_firstBlock) hZ (wd hw 37 rfl) (wd hw 3 rfl) (by decide) (by decide)) (g := (mkF m 2 #[rv a305, .val (.long (1 : Int64)), .second] [(.long (1 : Int64)), (.ref a305)])) rfl (by rw [hml]; rfl) (Steps.refl _) (a := a305) (by rw [e0]; exact q318) q318' (argsL := [(.long (1 : Int64))]) (rest := []) (lenOf pd_3 rfl) rfl (by show 2 * 0 + _ ≤ _; exact Nat.le_of_eq rfl) (hb hby d8_2) (fun _ _ => ⟨rfl, e0, (by decide : 0 + 0 ≤ _), (by decide : 0 + 0 ≤ _)⟩)
  dsimp only [Pt.U, Pt.locs, Pt.cells, Pt.slots] at X318 l318 y318 z318 st318 hQ318
  subst l318 y318 z318
  obtain ⟨rfl, Nq318, hh319⟩ := hQ318
  have N318 := Fr.app N0 Nq318
  refine own_via (fun t k => st318.trans (XS.lloadN X318.here hx rfl (hb hby d8_5) rfl k)) ?_
  obtain ⟨_, T320, _, X320, hQ320, st320⟩ := own_cs X318 hx hZ hown (wd hw 38 rfl) (wd hw 39 rfl) (wd hw 40 rfl) (wd hw 3 rfl) (by decide) (rm7 l Z a0 hw []  h0 n0 O0 ) hh319 (g := (mkF m 6 #[rv a305, .val (.long (1 : Int64)), .second] [(.long (1 : Int64)), (.ref a306)])) rfl (by rw [hml]; rfl) (rest := [(.ref a306)]) (W := 1) (lenOf pd_4 rfl) rfl (by show 2 * 0 + _ ≤ _; exact Nat.le_of_eq rfl) (hb hby d8_6) (by decide) (by decide) (by decide) (by decide)
  obtain ⟨rfl, Nq320, hh321⟩ := hQ320
  have N320 := Fr.app N318 Nq320
  refine own_via (fun t k => st320 t k) ?_
  obtain ⟨cl322, Ar322, qq322, S322, M322, H322, G322⟩ := id (pV_a306)
  have hin322 : ¬ ((1 : Int32) < 0 ∨ cl322.slots.size ≤ ((1 : Int32)).toNatClampNeg) := inb_of S322 ⟨by decide, by decide⟩
  refine own_via (fun t k => X320.laload hx (j := (1 : Int32)) (v := (.long j309)) (by rw [hh321]; exact Ar322.1) (State.isArrayOf_alike hZ.alike Ar322.2.1) Ar322.2.2 hin322 (Has.at H322 hin322 rfl) (g := (mkF m 9 #[rv a305, .val (.long (1 : Int64)), .second] [(.int (1 : Int32)), (.ref a306)])) rfl rfl (hb hby d8_9) t k) ?_
  obtain ⟨fs, hr, hrun, hended, hW, hsame⟩ := X320.leave (v := some (.long j309)) (fun h => by rw [Bd.returns] at h; cases h)
  refine own_end (t := T320.setFrames fs) ?_ ⟨_, hrun, hended, _, _, rfl, ?_, ⟨_, rfl⟩, hW, hsame.mono (by decide) (by decide)⟩
  · jvm_step X320.here [X320.here.top, hx, (hb hby d8_10), X320.method', Bd.returns, narrow]
    first | (intro acts; rw [hr _ acts rfl rfl rfl]) | rw [hr _ _ rfl rfl rfl]
    exact Steps.refl _
  · show Q18 Z a305 a306 k312 j308 j309 j310 j311 h0 n0 _ T320.heap _
    rw [hh321]
    exact ⟨rfl, N320, rfl⟩
theorem d9_12 : decode method_3_code 12 = .ok (.lload 6, 2) := by decide +kernel
theorem d9_14 : decode method_3_code 14 = .ok (.lreturn, 1) := by decide +kernel
def Q19 (Z : State) (j325 : Int64) (j326 : Int64) (h0 : Heap) (n0 : Nat) (v : Option Value) (h : Heap) (L : List Loc) : Prop := v = some (.long j326) ∧ Fr n0 L ∧ h = h0
set_option maxRecDepth 65536 in
set_option maxHeartbeats 40000000 in
theorem rm19 (l : Launch) (Z : State) (a0 : Array Value) (hw : ∀ d ∈ tables_1, d.before a0 Z = true) (ws : List Jvm.Cond) (j325 : Int64) (j326 : Int64) (h0 : Heap) (n0 : Nat) (O0 : Old Z n0 h0) :
    MetFree l (⟨zs2, "expected", "(JJJJ)J"⟩ : MethodName) (head1 (Jvm.Cond.code (⟨zs2, "expected", "(JJJJ)J"⟩ : MethodName) method_3_code 8 (some .long) :: ws) ({ frames := 0, cells := 0, slots := 0, locals := 0 } : Room)) (fun a U => a = #[(.long (1 : Int64)), (.long (0 : Int64)), (.long j325), (.long j326)] ∧ Z.Warmed39 U.vm ∧ U.heap = h0) (fun _ _ _ _ _ => True) (fun _ U o U' => ∃ v L, o = .returned v ∧ Q19 Z j325 j326 h0 n0 v U'.heap L ∧ FrameEnd U o U' L ({ frames := 0, cells := 0, slots := 0, locals := 0 } : Room).cells ({ frames := 0, cells := 0, slots := 0, locals := 0 } : Room).slots) := by
  refine MetFree.of_bodySF (plainFor_of_name pn_2) hisR ?_
  intro p e s m args below meth c s₁ Bd hml0 hP hK
  obtain ⟨rfl, hZ, hh⟩ := hP
  have hx := Bd.exec
  have hby := Bd.bytes
  have hml : c.maxLocals = 8 := hml0
  have hown : s.vm.findClass zs2 = some m.cls := findClass_of_methodNamed Bd.named
  have hnm := (name_of_methodNamed Bd.named Bd.method).1
  have X0 : Stand p l e ({ frames := 0, cells := 0, slots := 0, locals := 0 } : Room) s m #[(.long (1 : Int64)), (.long (0 : Int64)), (.long j325), (.long j326)] below meth c s₁ [] 0 0 := Stand.of_body Bd
  have e0 : s₁.heap = h0 := by rw [← hh, Bd.state]; rfl
  have N0 := Fr.nil n0
  refine own_out ?_
  refine own_via (fun t k => castTop (ef_8 m (1 : Int64) (0 : Int64) j325 j326) (XS.lloadN X0.here hx rfl (hb hby d9_0) rfl (XS.lloadN X0.here hx rfl (hb hby d9_1) rfl (XS.lcmp X0.here hx rfl (hb hby d9_2) rfl (XS.ifYes X0.here hx rfl (pc0 := 3) (pc' := 12) rfl (hb hby d9_3) rfl ((if0 _ _).trans (feq (by decide : ¬ ((1 : Int32) = (0 : Int32)))).2) (by decide) (by decide) (XS.lload X0.here hx rfl (hb hby d9_12) rfl k)))))) ?_
  obtain ⟨fs, hr, hrun, hended, hW, hsame⟩ := X0.leave (v := some (.long j326)) (fun h => by rw [Bd.returns] at h; cases h)
  refine own_end (t := s₁.setFrames fs) ?_ ⟨_, hrun, hended, _, _, rfl, ?_, ⟨_, rfl⟩, hW, hsame.mono (by decide) (by decide)⟩
  · jvm_step X0.here [X0.here.top, hx, (hb hby d9_14), X0.method', Bd.returns, narrow]
    first | (intro acts; rw [hr _ acts rfl rfl rfl]) | rw [hr _ _ rfl rfl rfl]
    exact Steps.refl _
  · show Q19 Z j325 j326 h0 n0 _ s₁.heap _
    rw [e0]
    exact ⟨rfl, N0, rfl⟩
def Q20 (Z : State) (a341 : Addr) (a342 : Addr) (k348 : ClassId) (j344 : Int64) (j345 : Int64) (j346 : Int64) (j347 : Int64) (h0 : Heap) (n0 : Nat) (v : Option Value) (h : Heap) (L : List Loc) : Prop := v = some (.long j346) ∧ Fr n0 L ∧ h = h0
set_option maxRecDepth 65536 in
set_option maxHeartbeats 40000000 in
theorem rm20 (l : Launch) (Z : State) (a0 : Array Value) (hw : ∀ d ∈ tables_1, d.before a0 Z = true) (ws : List Jvm.Cond) (a341 : Addr) (a342 : Addr) (k348 : ClassId) (j344 : Int64) (j345 : Int64) (j346 : Int64) (j347 : Int64) (h0 : Heap) (n0 : Nat) (O0 : Old Z n0 h0) (pF_a341_firstBlock : Fld Z h0 a341 zs1 "firstBlock" "[J" (.ref a342)) (pE_a341 : Exa Z h0 a341 zs1) (pV_a342 : Arv Z h0 a342 k348 .long (4 : Int32) [(.long j344), (.long j345), (.long j346), (.long j347)] (.long (0 : Int64))) :
    MetFree l (⟨zs1, "get", "(J)J"⟩ : MethodName) (head1 (Jvm.Cond.code (⟨zs1, "get", "(J)J"⟩ : MethodName) prog_20_method_3_code 3 (some .long) :: ws) ({ frames := 1, cells := 0, slots := 0, locals := 15 } : Room)) (fun a U => a = #[(.ref a341), (.long (2 : Int64))] ∧ Z.Warmed39 U.vm ∧ U.heap = h0) (fun _ _ _ _ _ => True) (fun _ U o U' => ∃ v L, o = .returned v ∧ Q20 Z a341 a342 k348 j344 j345 j346 j347 h0 n0 v U'.heap L ∧ FrameEnd U o U' L ({ frames := 1, cells := 0, slots := 0, locals := 15 } : Room).cells ({ frames := 1, cells := 0, slots := 0, locals := 15 } : Room).slots) := by
  refine MetFree.of_bodySF (plainFor_of_name pn_1) hisR ?_
  intro p e s m args below meth c s₁ Bd hml0 hP hK
  obtain ⟨rfl, hZ, hh⟩ := hP
  have hx := Bd.exec
  have hby := Bd.bytes
  have hml : c.maxLocals = 3 := hml0
  have hown : s.vm.findClass zs1 = some m.cls := findClass_of_methodNamed Bd.named
  have hnm := (name_of_methodNamed Bd.named Bd.method).1
  have X0 : Stand p l e ({ frames := 1, cells := 0, slots := 0, locals := 15 } : Room) s m #[(.ref a341), (.long (2 : Int64))] below meth c s₁ [] 0 0 := Stand.of_body Bd
  have e0 : s₁.heap = h0 := by rw [← hh, Bd.state]; rfl
  have N0 := Fr.nil n0
  refine own_out ?_
  refine own_via (fun t k => castTop (ef_7 m a341 (2 : Int64)) (XS.aloadN X0.here hx rfl (hb hby d8_0) rfl rfl (XS.lloadN X0.here hx rfl (hb hby d8_1) rfl k))) ?_
  obtain ⟨cq354, q354, q354'⟩ := pE_a341.cell
  obtain ⟨_, _, ⟨T354, L354, c354, n354⟩, -, X354, ⟨Lc354, hQ354, l354, y354, z354⟩, st354⟩ := X0.privateBack hx (y := (⟨zs1, "blockOf", "(J)[J"⟩ : MethodName)) hown (mvT hZ (wd hw 34 rfl)) (mvT hZ (wd hw 35 rfl)) (own_selPriv (mvT hZ (wd hw 2 rfl)) (mvT hZ (wd hw 35 rfl)) (Cond.privateMethod_at (mvP hZ (wd hw 36 rfl) (args := #[]))) (by decide)) (Cond.privateMethod_at (mvP hZ (wd hw 36 rfl) (args := #[]))) (mvT hZ (wd hw 37 rfl)) (by decide) (backOf (W := 0) (rm9 l Z a0 hw [] a341 a342 h0 n0 O0 pF_a341_firstBlock) hZ (wd hw 37 rfl) (wd hw 3 rfl) (by decide) (by decide)) (g := (mkF m 2 #[rv a341, .val (.long (2 : Int64)), .second] [(.long (2 : Int64)), (.ref a341)])) rfl (by rw [hml]; rfl) (Steps.refl _) (a := a341) (by rw [e0]; exact q354) q354' (argsL := [(.long (2 : Int64))]) (rest := []) (lenOf pd_3 rfl) rfl (by show 2 * 0 + _ ≤ _; exact Nat.le_of_eq rfl) (hb hby d8_2) (fun _ _ => ⟨rfl, e0, (by decide : 0 + 0 ≤ _), (by decide : 0 + 0 ≤ _)⟩)
  dsimp only [Pt.U, Pt.locs, Pt.cells, Pt.slots] at X354 l354 y354 z354 st354 hQ354
  subst l354 y354 z354
  obtain ⟨rfl, Nq354, hh355⟩ := hQ354
  have N354 := Fr.app N0 Nq354
  refine own_via (fun t k => st354.trans (XS.lloadN X354.here hx rfl (hb hby d8_5) rfl k)) ?_
  obtain ⟨_, T356, _, X356, hQ356, st356⟩ := own_cs X354 hx hZ hown (wd hw 38 rfl) (wd hw 39 rfl) (wd hw 40 rfl) (wd hw 3 rfl) (by decide) (rm10 l Z a0 hw []  h0 n0 O0 ) hh355 (g := (mkF m 6 #[rv a341, .val (.long (2 : Int64)), .second] [(.long (2 : Int64)), (.ref a342)])) rfl (by rw [hml]; rfl) (rest := [(.ref a342)]) (W := 1) (lenOf pd_4 rfl) rfl (by show 2 * 0 + _ ≤ _; exact Nat.le_of_eq rfl) (hb hby d8_6) (by decide) (by decide) (by decide) (by decide)
  obtain ⟨rfl, Nq356, hh357⟩ := hQ356
  have N356 := Fr.app N354 Nq356
  refine own_via (fun t k => st356 t k) ?_
  obtain ⟨cl358, Ar358, qq358, S358, M358, H358, G358⟩ := id (pV_a342)
  have hin358 : ¬ ((2 : Int32) < 0 ∨ cl358.slots.size ≤ ((2 : Int32)).toNatClampNeg) := inb_of S358 ⟨by decide, by decide⟩
  refine own_via (fun t k => X356.laload hx (j := (2 : Int32)) (v := (.long j346)) (by rw [hh357]; exact Ar358.1) (State.isArrayOf_alike hZ.alike Ar358.2.1) Ar358.2.2 hin358 (Has.at H358 hin358 rfl) (g := (mkF m 9 #[rv a341, .val (.long (2 : Int64)), .second] [(.int (2 : Int32)), (.ref a342)])) rfl rfl (hb hby d8_9) t k) ?_
  obtain ⟨fs, hr, hrun, hended, hW, hsame⟩ := X356.leave (v := some (.long j346)) (fun h => by rw [Bd.returns] at h; cases h)
  refine own_end (t := T356.setFrames fs) ?_ ⟨_, hrun, hended, _, _, rfl, ?_, ⟨_, rfl⟩, hW, hsame.mono (by decide) (by decide)⟩
  · jvm_step X356.here [X356.here.top, hx, (hb hby d8_10), X356.method', Bd.returns, narrow]
    first | (intro acts; rw [hr _ acts rfl rfl rfl]) | rw [hr _ _ rfl rfl rfl]
    exact Steps.refl _
  · show Q20 Z a341 a342 k348 j344 j345 j346 j347 h0 n0 _ T356.heap _
    rw [hh357]
    exact ⟨rfl, N356, rfl⟩
def Q21 (Z : State) (j361 : Int64) (j362 : Int64) (h0 : Heap) (n0 : Nat) (v : Option Value) (h : Heap) (L : List Loc) : Prop := v = some (.long j362) ∧ Fr n0 L ∧ h = h0
set_option maxRecDepth 65536 in
set_option maxHeartbeats 40000000 in
theorem rm21 (l : Launch) (Z : State) (a0 : Array Value) (hw : ∀ d ∈ tables_1, d.before a0 Z = true) (ws : List Jvm.Cond) (j361 : Int64) (j362 : Int64) (h0 : Heap) (n0 : Nat) (O0 : Old Z n0 h0) :
    MetFree l (⟨zs2, "expected", "(JJJJ)J"⟩ : MethodName) (head1 (Jvm.Cond.code (⟨zs2, "expected", "(JJJJ)J"⟩ : MethodName) method_3_code 8 (some .long) :: ws) ({ frames := 0, cells := 0, slots := 0, locals := 0 } : Room)) (fun a U => a = #[(.long (2 : Int64)), (.long (0 : Int64)), (.long j361), (.long j362)] ∧ Z.Warmed39 U.vm ∧ U.heap = h0) (fun _ _ _ _ _ => True) (fun _ U o U' => ∃ v L, o = .returned v ∧ Q21 Z j361 j362 h0 n0 v U'.heap L ∧ FrameEnd U o U' L ({ frames := 0, cells := 0, slots := 0, locals := 0 } : Room).cells ({ frames := 0, cells := 0, slots := 0, locals := 0 } : Room).slots) := by
  refine MetFree.of_bodySF (plainFor_of_name pn_2) hisR ?_
  intro p e s m args below meth c s₁ Bd hml0 hP hK
  obtain ⟨rfl, hZ, hh⟩ := hP
  have hx := Bd.exec
  have hby := Bd.bytes
  have hml : c.maxLocals = 8 := hml0
  have hown : s.vm.findClass zs2 = some m.cls := findClass_of_methodNamed Bd.named
  have hnm := (name_of_methodNamed Bd.named Bd.method).1
  have X0 : Stand p l e ({ frames := 0, cells := 0, slots := 0, locals := 0 } : Room) s m #[(.long (2 : Int64)), (.long (0 : Int64)), (.long j361), (.long j362)] below meth c s₁ [] 0 0 := Stand.of_body Bd
  have e0 : s₁.heap = h0 := by rw [← hh, Bd.state]; rfl
  have N0 := Fr.nil n0
  refine own_out ?_
  refine own_via (fun t k => castTop (ef_8 m (2 : Int64) (0 : Int64) j361 j362) (XS.lloadN X0.here hx rfl (hb hby d9_0) rfl (XS.lloadN X0.here hx rfl (hb hby d9_1) rfl (XS.lcmp X0.here hx rfl (hb hby d9_2) rfl (XS.ifYes X0.here hx rfl (pc0 := 3) (pc' := 12) rfl (hb hby d9_3) rfl ((if0 _ _).trans (feq (by decide : ¬ ((1 : Int32) = (0 : Int32)))).2) (by decide) (by decide) (XS.lload X0.here hx rfl (hb hby d9_12) rfl k)))))) ?_
  obtain ⟨fs, hr, hrun, hended, hW, hsame⟩ := X0.leave (v := some (.long j362)) (fun h => by rw [Bd.returns] at h; cases h)
  refine own_end (t := s₁.setFrames fs) ?_ ⟨_, hrun, hended, _, _, rfl, ?_, ⟨_, rfl⟩, hW, hsame.mono (by decide) (by decide)⟩
  · jvm_step X0.here [X0.here.top, hx, (hb hby d9_14), X0.method', Bd.returns, narrow]
    first | (intro acts; rw [hr _ acts rfl rfl rfl]) | rw [hr _ _ rfl rfl rfl]
    exact Steps.refl _
  · show Q21 Z j361 j362 h0 n0 _ s₁.heap _
    rw [e0]
    exact ⟨rfl, N0, rfl⟩
def Q22 (Z : State) (a377 : Addr) (a378 : Addr) (k384 : ClassId) (j380 : Int64) (j381 : Int64) (j382 : Int64) (j383 : Int64) (h0 : Heap) (n0 : Nat) (v : Option Value) (h : Heap) (L : List Loc) : Prop := v = some (.long j383) ∧ Fr n0 L ∧ h = h0
set_option maxRecDepth 65536 in
set_option maxHeartbeats 40000000 in
theorem rm22 (l : Launch) (Z : State) (a0 : Array Value) (hw : ∀ d ∈ tables_1, d.before a0 Z = true) (ws : List Jvm.Cond) (a377 : Addr) (a378 : Addr) (k384 : ClassId) (j380 : Int64) (j381 : Int64) (j382 : Int64) (j383 : Int64) (h0 : Heap) (n0 : Nat) (O0 : Old Z n0 h0) (pF_a377_firstBlock : Fld Z h0 a377 zs1 "firstBlock" "[J" (.ref a378)) (pE_a377 : Exa Z h0 a377 zs1) (pV_a378 : Arv Z h0 a378 k384 .long (4 : Int32) [(.long j380), (.long j381), (.long j382), (.long j383)] (.long (0 : Int64))) :
    MetFree l (⟨zs1, "get", "(J)J"⟩ : MethodName) (head1 (Jvm.Cond.code (⟨zs1, "get", "(J)J"⟩ : MethodName) prog_20_method_3_code 3 (some .long) :: ws) ({ frames := 1, cells := 0, slots := 0, locals := 15 } : Room)) (fun a U => a = #[(.ref a377), (.long (3 : Int64))] ∧ Z.Warmed39 U.vm ∧ U.heap = h0) (fun _ _ _ _ _ => True) (fun _ U o U' => ∃ v L, o = .returned v ∧ Q22 Z a377 a378 k384 j380 j381 j382 j383 h0 n0 v U'.heap L ∧ FrameEnd U o U' L ({ frames := 1, cells := 0, slots := 0, locals := 15 } : Room).cells ({ frames := 1, cells := 0, slots := 0, locals := 15 } : Room).slots) := by
  refine MetFree.of_bodySF (plainFor_of_name pn_1) hisR ?_
  intro p e s m args below meth c s₁ Bd hml0 hP hK
  obtain ⟨rfl, hZ, hh⟩ := hP
  have hx := Bd.exec
  have hby := Bd.bytes
  have hml : c.maxLocals = 3 := hml0
  have hown : s.vm.findClass zs1 = some m.cls := findClass_of_methodNamed Bd.named
  have hnm := (name_of_methodNamed Bd.named Bd.method).1
  have X0 : Stand p l e ({ frames := 1, cells := 0, slots := 0, locals := 15 } : Room) s m #[(.ref a377), (.long (3 : Int64))] below meth c s₁ [] 0 0 := Stand.of_body Bd
  have e0 : s₁.heap = h0 := by rw [← hh, Bd.state]; rfl
  have N0 := Fr.nil n0
  refine own_out ?_
  refine own_via (fun t k => castTop (ef_7 m a377 (3 : Int64)) (XS.aloadN X0.here hx rfl (hb hby d8_0) rfl rfl (XS.lloadN X0.here hx rfl (hb hby d8_1) rfl k))) ?_
  obtain ⟨cq390, q390, q390'⟩ := pE_a377.cell
  obtain ⟨_, _, ⟨T390, L390, c390, n390⟩, -, X390, ⟨Lc390, hQ390, l390, y390, z390⟩, st390⟩ := X0.privateBack hx (y := (⟨zs1, "blockOf", "(J)[J"⟩ : MethodName)) hown (mvT hZ (wd hw 34 rfl)) (mvT hZ (wd hw 35 rfl)) (own_selPriv (mvT hZ (wd hw 2 rfl)) (mvT hZ (wd hw 35 rfl)) (Cond.privateMethod_at (mvP hZ (wd hw 36 rfl) (args := #[]))) (by decide)) (Cond.privateMethod_at (mvP hZ (wd hw 36 rfl) (args := #[]))) (mvT hZ (wd hw 37 rfl)) (by decide) (backOf (W := 0) (rm12 l Z a0 hw [] a377 a378 h0 n0 O0 pF_a377_firstBlock) hZ (wd hw 37 rfl) (wd hw 3 rfl) (by decide) (by decide)) (g := (mkF m 2 #[rv a377, .val (.long (3 : Int64)), .second] [(.long (3 : Int64)), (.ref a377)])) rfl (by rw [hml]; rfl) (Steps.refl _) (a := a377) (by rw [e0]; exact q390) q390' (argsL := [(.long (3 : Int64))]) (rest := []) (lenOf pd_3 rfl) rfl (by show 2 * 0 + _ ≤ _; exact Nat.le_of_eq rfl) (hb hby d8_2) (fun _ _ => ⟨rfl, e0, (by decide : 0 + 0 ≤ _), (by decide : 0 + 0 ≤ _)⟩)
  dsimp only [Pt.U, Pt.locs, Pt.cells, Pt.slots] at X390 l390 y390 z390 st390 hQ390
  subst l390 y390 z390
  obtain ⟨rfl, Nq390, hh391⟩ := hQ390
  have N390 := Fr.app N0 Nq390
  refine own_via (fun t k => st390.trans (XS.lloadN X390.here hx rfl (hb hby d8_5) rfl k)) ?_
  obtain ⟨_, T392, _, X392, hQ392, st392⟩ := own_cs X390 hx hZ hown (wd hw 38 rfl) (wd hw 39 rfl) (wd hw 40 rfl) (wd hw 3 rfl) (by decide) (rm13 l Z a0 hw []  h0 n0 O0 ) hh391 (g := (mkF m 6 #[rv a377, .val (.long (3 : Int64)), .second] [(.long (3 : Int64)), (.ref a378)])) rfl (by rw [hml]; rfl) (rest := [(.ref a378)]) (W := 1) (lenOf pd_4 rfl) rfl (by show 2 * 0 + _ ≤ _; exact Nat.le_of_eq rfl) (hb hby d8_6) (by decide) (by decide) (by decide) (by decide)
  obtain ⟨rfl, Nq392, hh393⟩ := hQ392
  have N392 := Fr.app N390 Nq392
  refine own_via (fun t k => st392 t k) ?_
  obtain ⟨cl394, Ar394, qq394, S394, M394, H394, G394⟩ := id (pV_a378)
  have hin394 : ¬ ((3 : Int32) < 0 ∨ cl394.slots.size ≤ ((3 : Int32)).toNatClampNeg) := inb_of S394 ⟨by decide, by decide⟩
  refine own_via (fun t k => X392.laload hx (j := (3 : Int32)) (v := (.long j383)) (by rw [hh393]; exact Ar394.1) (State.isArrayOf_alike hZ.alike Ar394.2.1) Ar394.2.2 hin394 (Has.at H394 hin394 rfl) (g := (mkF m 9 #[rv a377, .val (.long (3 : Int64)), .second] [(.int (3 : Int32)), (.ref a378)])) rfl rfl (hb hby d8_9) t k) ?_
  obtain ⟨fs, hr, hrun, hended, hW, hsame⟩ := X392.leave (v := some (.long j383)) (fun h => by rw [Bd.returns] at h; cases h)
  refine own_end (t := T392.setFrames fs) ?_ ⟨_, hrun, hended, _, _, rfl, ?_, ⟨_, rfl⟩, hW, hsame.mono (by decide) (by decide)⟩
  · jvm_step X392.here [X392.here.top, hx, (hb hby d8_10), X392.method', Bd.returns, narrow]
    first | (intro acts; rw [hr _ acts rfl rfl rfl]) | rw [hr _ _ rfl rfl rfl]
    exact Steps.refl _
  · show Q22 Z a377 a378 k384 j380 j381 j382 j383 h0 n0 _ T392.heap _
    rw [hh393]
    exact ⟨rfl, N392, rfl⟩
def Q23 (Z : State) (j397 : Int64) (j398 : Int64) (h0 : Heap) (n0 : Nat) (v : Option Value) (h : Heap) (L : List Loc) : Prop := v = some (.long j398) ∧ Fr n0 L ∧ h = h0
set_option maxRecDepth 65536 in
set_option maxHeartbeats 40000000 in
theorem rm23 (l : Launch) (Z : State) (a0 : Array Value) (hw : ∀ d ∈ tables_1, d.before a0 Z = true) (ws : List Jvm.Cond) (j397 : Int64) (j398 : Int64) (h0 : Heap) (n0 : Nat) (O0 : Old Z n0 h0) :
    MetFree l (⟨zs2, "expected", "(JJJJ)J"⟩ : MethodName) (head1 (Jvm.Cond.code (⟨zs2, "expected", "(JJJJ)J"⟩ : MethodName) method_3_code 8 (some .long) :: ws) ({ frames := 0, cells := 0, slots := 0, locals := 0 } : Room)) (fun a U => a = #[(.long (3 : Int64)), (.long (0 : Int64)), (.long j397), (.long j398)] ∧ Z.Warmed39 U.vm ∧ U.heap = h0) (fun _ _ _ _ _ => True) (fun _ U o U' => ∃ v L, o = .returned v ∧ Q23 Z j397 j398 h0 n0 v U'.heap L ∧ FrameEnd U o U' L ({ frames := 0, cells := 0, slots := 0, locals := 0 } : Room).cells ({ frames := 0, cells := 0, slots := 0, locals := 0 } : Room).slots) := by
  refine MetFree.of_bodySF (plainFor_of_name pn_2) hisR ?_
  intro p e s m args below meth c s₁ Bd hml0 hP hK
  obtain ⟨rfl, hZ, hh⟩ := hP
  have hx := Bd.exec
  have hby := Bd.bytes
  have hml : c.maxLocals = 8 := hml0
  have hown : s.vm.findClass zs2 = some m.cls := findClass_of_methodNamed Bd.named
  have hnm := (name_of_methodNamed Bd.named Bd.method).1
  have X0 : Stand p l e ({ frames := 0, cells := 0, slots := 0, locals := 0 } : Room) s m #[(.long (3 : Int64)), (.long (0 : Int64)), (.long j397), (.long j398)] below meth c s₁ [] 0 0 := Stand.of_body Bd
  have e0 : s₁.heap = h0 := by rw [← hh, Bd.state]; rfl
  have N0 := Fr.nil n0
  refine own_out ?_
  refine own_via (fun t k => castTop (ef_8 m (3 : Int64) (0 : Int64) j397 j398) (XS.lloadN X0.here hx rfl (hb hby d9_0) rfl (XS.lloadN X0.here hx rfl (hb hby d9_1) rfl (XS.lcmp X0.here hx rfl (hb hby d9_2) rfl (XS.ifYes X0.here hx rfl (pc0 := 3) (pc' := 12) rfl (hb hby d9_3) rfl ((if0 _ _).trans (feq (by decide : ¬ ((1 : Int32) = (0 : Int32)))).2) (by decide) (by decide) (XS.lload X0.here hx rfl (hb hby d9_12) rfl k)))))) ?_
  obtain ⟨fs, hr, hrun, hended, hW, hsame⟩ := X0.leave (v := some (.long j398)) (fun h => by rw [Bd.returns] at h; cases h)
  refine own_end (t := s₁.setFrames fs) ?_ ⟨_, hrun, hended, _, _, rfl, ?_, ⟨_, rfl⟩, hW, hsame.mono (by decide) (by decide)⟩
  · jvm_step X0.here [X0.here.top, hx, (hb hby d9_14), X0.method', Bd.returns, narrow]
    first | (intro acts; rw [hr _ acts rfl rfl rfl]) | rw [hr _ _ rfl rfl rfl]
    exact Steps.refl _
  · show Q23 Z j397 j398 h0 n0 _ s₁.heap _
    rw [e0]
    exact ⟨rfl, N0, rfl⟩
def Q24 (Z : State) (j419 : Int64) (j420 : Int64) (h0 : Heap) (n0 : Nat) (v : Option Value) (h : Heap) (L : List Loc) : Prop := v = some (.long j420) ∧ Fr n0 L ∧ h = h0
set_option maxRecDepth 65536 in
set_option maxHeartbeats 40000000 in
theorem rm24 (l : Launch) (Z : State) (a0 : Array Value) (hw : ∀ d ∈ tables_1, d.before a0 Z = true) (ws : List Jvm.Cond) (j419 : Int64) (j420 : Int64) (h0 : Heap) (n0 : Nat) (O0 : Old Z n0 h0) :
    MetFree l (⟨zs2, "expected", "(JJJJ)J"⟩ : MethodName) (head1 (Jvm.Cond.code (⟨zs2, "expected", "(JJJJ)J"⟩ : MethodName) method_3_code 8 (some .long) :: ws) ({ frames := 0, cells := 0, slots := 0, locals := 0 } : Room)) (fun a U => a = #[(.long (0 : Int64)), (.long (1 : Int64)), (.long j419), (.long j420)] ∧ Z.Warmed39 U.vm ∧ U.heap = h0) (fun _ _ _ _ _ => True) (fun _ U o U' => ∃ v L, o = .returned v ∧ Q24 Z j419 j420 h0 n0 v U'.heap L ∧ FrameEnd U o U' L ({ frames := 0, cells := 0, slots := 0, locals := 0 } : Room).cells ({ frames := 0, cells := 0, slots := 0, locals := 0 } : Room).slots) := by
  refine MetFree.of_bodySF (plainFor_of_name pn_2) hisR ?_
  intro p e s m args below meth c s₁ Bd hml0 hP hK
  obtain ⟨rfl, hZ, hh⟩ := hP
  have hx := Bd.exec
  have hby := Bd.bytes
  have hml : c.maxLocals = 8 := hml0
  have hown : s.vm.findClass zs2 = some m.cls := findClass_of_methodNamed Bd.named
  have hnm := (name_of_methodNamed Bd.named Bd.method).1
  have X0 : Stand p l e ({ frames := 0, cells := 0, slots := 0, locals := 0 } : Room) s m #[(.long (0 : Int64)), (.long (1 : Int64)), (.long j419), (.long j420)] below meth c s₁ [] 0 0 := Stand.of_body Bd
  have e0 : s₁.heap = h0 := by rw [← hh, Bd.state]; rfl
  have N0 := Fr.nil n0
  refine own_out ?_
  refine own_via (fun t k => castTop (ef_8 m (0 : Int64) (1 : Int64) j419 j420) (XS.lloadN X0.here hx rfl (hb hby d9_0) rfl (XS.lloadN X0.here hx rfl (hb hby d9_1) rfl (XS.lcmp X0.here hx rfl (hb hby d9_2) rfl (XS.ifYes X0.here hx rfl (pc0 := 3) (pc' := 12) rfl (hb hby d9_3) rfl ((if0 _ _).trans (feq (by decide : ¬ ((-1 : Int32) = (0 : Int32)))).2) (by decide) (by decide) (XS.lload X0.here hx rfl (hb hby d9_12) rfl k)))))) ?_
  obtain ⟨fs, hr, hrun, hended, hW, hsame⟩ := X0.leave (v := some (.long j420)) (fun h => by rw [Bd.returns] at h; cases h)
  refine own_end (t := s₁.setFrames fs) ?_ ⟨_, hrun, hended, _, _, rfl, ?_, ⟨_, rfl⟩, hW, hsame.mono (by decide) (by decide)⟩
  · jvm_step X0.here [X0.here.top, hx, (hb hby d9_14), X0.method', Bd.returns, narrow]
    first | (intro acts; rw [hr _ acts rfl rfl rfl]) | rw [hr _ _ rfl rfl rfl]
    exact Steps.refl _
  · show Q24 Z j419 j420 h0 n0 _ s₁.heap _
    rw [e0]
    exact ⟨rfl, N0, rfl⟩
def Q25 (Z : State) (j437 : Int64) (j438 : Int64) (h0 : Heap) (n0 : Nat) (v : Option Value) (h : Heap) (L : List Loc) : Prop := v = some (.long (j438 ||| j437)) ∧ Fr n0 L ∧ h = h0
set_option maxRecDepth 65536 in
set_option maxHeartbeats 40000000 in
theorem rm25 (l : Launch) (Z : State) (a0 : Array Value) (hw : ∀ d ∈ tables_1, d.before a0 Z = true) (ws : List Jvm.Cond) (j437 : Int64) (j438 : Int64) (h0 : Heap) (n0 : Nat) (O0 : Old Z n0 h0) :
    MetFree l (⟨zs2, "expected", "(JJJJ)J"⟩ : MethodName) (head1 (Jvm.Cond.code (⟨zs2, "expected", "(JJJJ)J"⟩ : MethodName) method_3_code 8 (some .long) :: ws) ({ frames := 0, cells := 0, slots := 0, locals := 0 } : Room)) (fun a U => a = #[(.long (1 : Int64)), (.long (1 : Int64)), (.long j437), (.long j438)] ∧ Z.Warmed39 U.vm ∧ U.heap = h0) (fun _ _ _ _ _ => True) (fun _ U o U' => ∃ v L, o = .returned v ∧ Q25 Z j437 j438 h0 n0 v U'.heap L ∧ FrameEnd U o U' L ({ frames := 0, cells := 0, slots := 0, locals := 0 } : Room).cells ({ frames := 0, cells := 0, slots := 0, locals := 0 } : Room).slots) := by
  refine MetFree.of_bodySF (plainFor_of_name pn_2) hisR ?_
  intro p e s m args below meth c s₁ Bd hml0 hP hK
  obtain ⟨rfl, hZ, hh⟩ := hP
  have hx := Bd.exec
  have hby := Bd.bytes
  have hml : c.maxLocals = 8 := hml0
  have hown : s.vm.findClass zs2 = some m.cls := findClass_of_methodNamed Bd.named
  have hnm := (name_of_methodNamed Bd.named Bd.method).1
  have X0 : Stand p l e ({ frames := 0, cells := 0, slots := 0, locals := 0 } : Room) s m #[(.long (1 : Int64)), (.long (1 : Int64)), (.long j437), (.long j438)] below meth c s₁ [] 0 0 := Stand.of_body Bd
  have e0 : s₁.heap = h0 := by rw [← hh, Bd.state]; rfl
  have N0 := Fr.nil n0
  refine own_out ?_
  refine own_via (fun t k => castTop (ef_8 m (1 : Int64) (1 : Int64) j437 j438) (XS.lloadN X0.here hx rfl (hb hby d9_0) rfl (XS.lloadN X0.here hx rfl (hb hby d9_1) rfl (XS.lcmp X0.here hx rfl (hb hby d9_2) rfl (XS.ifNo X0.here hx rfl (hb hby d9_3) rfl ((if0 _ _).trans (teq (by decide : (0 : Int32) = (0 : Int32))).2) (XS.lload X0.here hx rfl (hb hby d9_6) rfl (XS.lload X0.here hx rfl (hb hby d9_8) rfl (XS.lor X0.here hx rfl (hb hby d9_10) rfl k)))))))) ?_
  obtain ⟨fs, hr, hrun, hended, hW, hsame⟩ := X0.leave (v := some (.long (j438 ||| j437))) (fun h => by rw [Bd.returns] at h; cases h)
  refine own_end (t := s₁.setFrames fs) ?_ ⟨_, hrun, hended, _, _, rfl, ?_, ⟨_, rfl⟩, hW, hsame.mono (by decide) (by decide)⟩
  · jvm_step X0.here [X0.here.top, hx, (hb hby d9_11), X0.method', Bd.returns, narrow]
    first | (intro acts; rw [hr _ acts rfl rfl rfl]) | rw [hr _ _ rfl rfl rfl]
    exact Steps.refl _
  · show Q25 Z j437 j438 h0 n0 _ s₁.heap _
    rw [e0]
    exact ⟨rfl, N0, rfl⟩
def Q26 (Z : State) (j455 : Int64) (j456 : Int64) (h0 : Heap) (n0 : Nat) (v : Option Value) (h : Heap) (L : List Loc) : Prop := v = some (.long j456) ∧ Fr n0 L ∧ h = h0
set_option maxRecDepth 65536 in
set_option maxHeartbeats 40000000 in
theorem rm26 (l : Launch) (Z : State) (a0 : Array Value) (hw : ∀ d ∈ tables_1, d.before a0 Z = true) (ws : List Jvm.Cond) (j455 : Int64) (j456 : Int64) (h0 : Heap) (n0 : Nat) (O0 : Old Z n0 h0) :
    MetFree l (⟨zs2, "expected", "(JJJJ)J"⟩ : MethodName) (head1 (Jvm.Cond.code (⟨zs2, "expected", "(JJJJ)J"⟩ : MethodName) method_3_code 8 (some .long) :: ws) ({ frames := 0, cells := 0, slots := 0, locals := 0 } : Room)) (fun a U => a = #[(.long (2 : Int64)), (.long (1 : Int64)), (.long j455), (.long j456)] ∧ Z.Warmed39 U.vm ∧ U.heap = h0) (fun _ _ _ _ _ => True) (fun _ U o U' => ∃ v L, o = .returned v ∧ Q26 Z j455 j456 h0 n0 v U'.heap L ∧ FrameEnd U o U' L ({ frames := 0, cells := 0, slots := 0, locals := 0 } : Room).cells ({ frames := 0, cells := 0, slots := 0, locals := 0 } : Room).slots) := by
  refine MetFree.of_bodySF (plainFor_of_name pn_2) hisR ?_
  intro p e s m args below meth c s₁ Bd hml0 hP hK
  obtain ⟨rfl, hZ, hh⟩ := hP
  have hx := Bd.exec
  have hby := Bd.bytes
  have hml : c.maxLocals = 8 := hml0
  have hown : s.vm.findClass zs2 = some m.cls := findClass_of_methodNamed Bd.named
  have hnm := (name_of_methodNamed Bd.named Bd.method).1
  have X0 : Stand p l e ({ frames := 0, cells := 0, slots := 0, locals := 0 } : Room) s m #[(.long (2 : Int64)), (.long (1 : Int64)), (.long j455), (.long j456)] below meth c s₁ [] 0 0 := Stand.of_body Bd
  have e0 : s₁.heap = h0 := by rw [← hh, Bd.state]; rfl
  have N0 := Fr.nil n0
  refine own_out ?_
  refine own_via (fun t k => castTop (ef_8 m (2 : Int64) (1 : Int64) j455 j456) (XS.lloadN X0.here hx rfl (hb hby d9_0) rfl (XS.lloadN X0.here hx rfl (hb hby d9_1) rfl (XS.lcmp X0.here hx rfl (hb hby d9_2) rfl (XS.ifYes X0.here hx rfl (pc0 := 3) (pc' := 12) rfl (hb hby d9_3) rfl ((if0 _ _).trans (feq (by decide : ¬ ((1 : Int32) = (0 : Int32)))).2) (by decide) (by decide) (XS.lload X0.here hx rfl (hb hby d9_12) rfl k)))))) ?_
  obtain ⟨fs, hr, hrun, hended, hW, hsame⟩ := X0.leave (v := some (.long j456)) (fun h => by rw [Bd.returns] at h; cases h)
  refine own_end (t := s₁.setFrames fs) ?_ ⟨_, hrun, hended, _, _, rfl, ?_, ⟨_, rfl⟩, hW, hsame.mono (by decide) (by decide)⟩
  · jvm_step X0.here [X0.here.top, hx, (hb hby d9_14), X0.method', Bd.returns, narrow]
    first | (intro acts; rw [hr _ acts rfl rfl rfl]) | rw [hr _ _ rfl rfl rfl]
    exact Steps.refl _
  · show Q26 Z j455 j456 h0 n0 _ s₁.heap _
    rw [e0]
    exact ⟨rfl, N0, rfl⟩
def Q27 (Z : State) (j473 : Int64) (j474 : Int64) (h0 : Heap) (n0 : Nat) (v : Option Value) (h : Heap) (L : List Loc) : Prop := v = some (.long j474) ∧ Fr n0 L ∧ h = h0
set_option maxRecDepth 65536 in
set_option maxHeartbeats 40000000 in
theorem rm27 (l : Launch) (Z : State) (a0 : Array Value) (hw : ∀ d ∈ tables_1, d.before a0 Z = true) (ws : List Jvm.Cond) (j473 : Int64) (j474 : Int64) (h0 : Heap) (n0 : Nat) (O0 : Old Z n0 h0) :
    MetFree l (⟨zs2, "expected", "(JJJJ)J"⟩ : MethodName) (head1 (Jvm.Cond.code (⟨zs2, "expected", "(JJJJ)J"⟩ : MethodName) method_3_code 8 (some .long) :: ws) ({ frames := 0, cells := 0, slots := 0, locals := 0 } : Room)) (fun a U => a = #[(.long (3 : Int64)), (.long (1 : Int64)), (.long j473), (.long j474)] ∧ Z.Warmed39 U.vm ∧ U.heap = h0) (fun _ _ _ _ _ => True) (fun _ U o U' => ∃ v L, o = .returned v ∧ Q27 Z j473 j474 h0 n0 v U'.heap L ∧ FrameEnd U o U' L ({ frames := 0, cells := 0, slots := 0, locals := 0 } : Room).cells ({ frames := 0, cells := 0, slots := 0, locals := 0 } : Room).slots) := by
  refine MetFree.of_bodySF (plainFor_of_name pn_2) hisR ?_
  intro p e s m args below meth c s₁ Bd hml0 hP hK
  obtain ⟨rfl, hZ, hh⟩ := hP
  have hx := Bd.exec
  have hby := Bd.bytes
  have hml : c.maxLocals = 8 := hml0
  have hown : s.vm.findClass zs2 = some m.cls := findClass_of_methodNamed Bd.named
  have hnm := (name_of_methodNamed Bd.named Bd.method).1
  have X0 : Stand p l e ({ frames := 0, cells := 0, slots := 0, locals := 0 } : Room) s m #[(.long (3 : Int64)), (.long (1 : Int64)), (.long j473), (.long j474)] below meth c s₁ [] 0 0 := Stand.of_body Bd
  have e0 : s₁.heap = h0 := by rw [← hh, Bd.state]; rfl
  have N0 := Fr.nil n0
  refine own_out ?_
  refine own_via (fun t k => castTop (ef_8 m (3 : Int64) (1 : Int64) j473 j474) (XS.lloadN X0.here hx rfl (hb hby d9_0) rfl (XS.lloadN X0.here hx rfl (hb hby d9_1) rfl (XS.lcmp X0.here hx rfl (hb hby d9_2) rfl (XS.ifYes X0.here hx rfl (pc0 := 3) (pc' := 12) rfl (hb hby d9_3) rfl ((if0 _ _).trans (feq (by decide : ¬ ((1 : Int32) = (0 : Int32)))).2) (by decide) (by decide) (XS.lload X0.here hx rfl (hb hby d9_12) rfl k)))))) ?_
  obtain ⟨fs, hr, hrun, hended, hW, hsame⟩ := X0.leave (v := some (.long j474)) (fun h => by rw [Bd.returns] at h; cases h)
  refine own_end (t := s₁.setFrames fs) ?_ ⟨_, hrun, hended, _, _, rfl, ?_, ⟨_, rfl⟩, hW, hsame.mono (by decide) (by decide)⟩
  · jvm_step X0.here [X0.here.top, hx, (hb hby d9_14), X0.method', Bd.returns, narrow]
    first | (intro acts; rw [hr _ acts rfl rfl rfl]) | rw [hr _ _ rfl rfl rfl]
    exact Steps.refl _
  · show Q27 Z j473 j474 h0 n0 _ s₁.heap _
    rw [e0]
    exact ⟨rfl, N0, rfl⟩
def Q28 (Z : State) (j495 : Int64) (j496 : Int64) (h0 : Heap) (n0 : Nat) (v : Option Value) (h : Heap) (L : List Loc) : Prop := v = some (.long j496) ∧ Fr n0 L ∧ h = h0
set_option maxRecDepth 65536 in
set_option maxHeartbeats 40000000 in
theorem rm28 (l : Launch) (Z : State) (a0 : Array Value) (hw : ∀ d ∈ tables_1, d.before a0 Z = true) (ws : List Jvm.Cond) (j495 : Int64) (j496 : Int64) (h0 : Heap) (n0 : Nat) (O0 : Old Z n0 h0) :
    MetFree l (⟨zs2, "expected", "(JJJJ)J"⟩ : MethodName) (head1 (Jvm.Cond.code (⟨zs2, "expected", "(JJJJ)J"⟩ : MethodName) method_3_code 8 (some .long) :: ws) ({ frames := 0, cells := 0, slots := 0, locals := 0 } : Room)) (fun a U => a = #[(.long (0 : Int64)), (.long (2 : Int64)), (.long j495), (.long j496)] ∧ Z.Warmed39 U.vm ∧ U.heap = h0) (fun _ _ _ _ _ => True) (fun _ U o U' => ∃ v L, o = .returned v ∧ Q28 Z j495 j496 h0 n0 v U'.heap L ∧ FrameEnd U o U' L ({ frames := 0, cells := 0, slots := 0, locals := 0 } : Room).cells ({ frames := 0, cells := 0, slots := 0, locals := 0 } : Room).slots) := by
  refine MetFree.of_bodySF (plainFor_of_name pn_2) hisR ?_
  intro p e s m args below meth c s₁ Bd hml0 hP hK
  obtain ⟨rfl, hZ, hh⟩ := hP
  have hx := Bd.exec
  have hby := Bd.bytes
  have hml : c.maxLocals = 8 := hml0
  have hown : s.vm.findClass zs2 = some m.cls := findClass_of_methodNamed Bd.named
  have hnm := (name_of_methodNamed Bd.named Bd.method).1
  have X0 : Stand p l e ({ frames := 0, cells := 0, slots := 0, locals := 0 } : Room) s m #[(.long (0 : Int64)), (.long (2 : Int64)), (.long j495), (.long j496)] below meth c s₁ [] 0 0 := Stand.of_body Bd
  have e0 : s₁.heap = h0 := by rw [← hh, Bd.state]; rfl
  have N0 := Fr.nil n0
  refine own_out ?_
  refine own_via (fun t k => castTop (ef_8 m (0 : Int64) (2 : Int64) j495 j496) (XS.lloadN X0.here hx rfl (hb hby d9_0) rfl (XS.lloadN X0.here hx rfl (hb hby d9_1) rfl (XS.lcmp X0.here hx rfl (hb hby d9_2) rfl (XS.ifYes X0.here hx rfl (pc0 := 3) (pc' := 12) rfl (hb hby d9_3) rfl ((if0 _ _).trans (feq (by decide : ¬ ((-1 : Int32) = (0 : Int32)))).2) (by decide) (by decide) (XS.lload X0.here hx rfl (hb hby d9_12) rfl k)))))) ?_
  obtain ⟨fs, hr, hrun, hended, hW, hsame⟩ := X0.leave (v := some (.long j496)) (fun h => by rw [Bd.returns] at h; cases h)
  refine own_end (t := s₁.setFrames fs) ?_ ⟨_, hrun, hended, _, _, rfl, ?_, ⟨_, rfl⟩, hW, hsame.mono (by decide) (by decide)⟩
  · jvm_step X0.here [X0.here.top, hx, (hb hby d9_14), X0.method', Bd.returns, narrow]
    first | (intro acts; rw [hr _ acts rfl rfl rfl]) | rw [hr _ _ rfl rfl rfl]
    exact Steps.refl _
  · show Q28 Z j495 j496 h0 n0 _ s₁.heap _
    rw [e0]
    exact ⟨rfl, N0, rfl⟩
def Q29 (Z : State) (j513 : Int64) (j514 : Int64) (h0 : Heap) (n0 : Nat) (v : Option Value) (h : Heap) (L : List Loc) : Prop := v = some (.long j514) ∧ Fr n0 L ∧ h = h0
set_option maxRecDepth 65536 in
set_option maxHeartbeats 40000000 in
theorem rm29 (l : Launch) (Z : State) (a0 : Array Value) (hw : ∀ d ∈ tables_1, d.before a0 Z = true) (ws : List Jvm.Cond) (j513 : Int64) (j514 : Int64) (h0 : Heap) (n0 : Nat) (O0 : Old Z n0 h0) :
    MetFree l (⟨zs2, "expected", "(JJJJ)J"⟩ : MethodName) (head1 (Jvm.Cond.code (⟨zs2, "expected", "(JJJJ)J"⟩ : MethodName) method_3_code 8 (some .long) :: ws) ({ frames := 0, cells := 0, slots := 0, locals := 0 } : Room)) (fun a U => a = #[(.long (1 : Int64)), (.long (2 : Int64)), (.long j513), (.long j514)] ∧ Z.Warmed39 U.vm ∧ U.heap = h0) (fun _ _ _ _ _ => True) (fun _ U o U' => ∃ v L, o = .returned v ∧ Q29 Z j513 j514 h0 n0 v U'.heap L ∧ FrameEnd U o U' L ({ frames := 0, cells := 0, slots := 0, locals := 0 } : Room).cells ({ frames := 0, cells := 0, slots := 0, locals := 0 } : Room).slots) := by
  refine MetFree.of_bodySF (plainFor_of_name pn_2) hisR ?_
  intro p e s m args below meth c s₁ Bd hml0 hP hK
  obtain ⟨rfl, hZ, hh⟩ := hP
  have hx := Bd.exec
  have hby := Bd.bytes
  have hml : c.maxLocals = 8 := hml0
  have hown : s.vm.findClass zs2 = some m.cls := findClass_of_methodNamed Bd.named
  have hnm := (name_of_methodNamed Bd.named Bd.method).1
  have X0 : Stand p l e ({ frames := 0, cells := 0, slots := 0, locals := 0 } : Room) s m #[(.long (1 : Int64)), (.long (2 : Int64)), (.long j513), (.long j514)] below meth c s₁ [] 0 0 := Stand.of_body Bd
  have e0 : s₁.heap = h0 := by rw [← hh, Bd.state]; rfl
  have N0 := Fr.nil n0
  refine own_out ?_
  refine own_via (fun t k => castTop (ef_8 m (1 : Int64) (2 : Int64) j513 j514) (XS.lloadN X0.here hx rfl (hb hby d9_0) rfl (XS.lloadN X0.here hx rfl (hb hby d9_1) rfl (XS.lcmp X0.here hx rfl (hb hby d9_2) rfl (XS.ifYes X0.here hx rfl (pc0 := 3) (pc' := 12) rfl (hb hby d9_3) rfl ((if0 _ _).trans (feq (by decide : ¬ ((-1 : Int32) = (0 : Int32)))).2) (by decide) (by decide) (XS.lload X0.here hx rfl (hb hby d9_12) rfl k)))))) ?_
  obtain ⟨fs, hr, hrun, hended, hW, hsame⟩ := X0.leave (v := some (.long j514)) (fun h => by rw [Bd.returns] at h; cases h)
  refine own_end (t := s₁.setFrames fs) ?_ ⟨_, hrun, hended, _, _, rfl, ?_, ⟨_, rfl⟩, hW, hsame.mono (by decide) (by decide)⟩
  · jvm_step X0.here [X0.here.top, hx, (hb hby d9_14), X0.method', Bd.returns, narrow]
    first | (intro acts; rw [hr _ acts rfl rfl rfl]) | rw [hr _ _ rfl rfl rfl]
    exact Steps.refl _
  · show Q29 Z j513 j514 h0 n0 _ s₁.heap _
    rw [e0]
    exact ⟨rfl, N0, rfl⟩
def Q30 (Z : State) (j531 : Int64) (j532 : Int64) (h0 : Heap) (n0 : Nat) (v : Option Value) (h : Heap) (L : List Loc) : Prop := v = some (.long (j532 ||| j531)) ∧ Fr n0 L ∧ h = h0
set_option maxRecDepth 65536 in
set_option maxHeartbeats 40000000 in
theorem rm30 (l : Launch) (Z : State) (a0 : Array Value) (hw : ∀ d ∈ tables_1, d.before a0 Z = true) (ws : List Jvm.Cond) (j531 : Int64) (j532 : Int64) (h0 : Heap) (n0 : Nat) (O0 : Old Z n0 h0) :
    MetFree l (⟨zs2, "expected", "(JJJJ)J"⟩ : MethodName) (head1 (Jvm.Cond.code (⟨zs2, "expected", "(JJJJ)J"⟩ : MethodName) method_3_code 8 (some .long) :: ws) ({ frames := 0, cells := 0, slots := 0, locals := 0 } : Room)) (fun a U => a = #[(.long (2 : Int64)), (.long (2 : Int64)), (.long j531), (.long j532)] ∧ Z.Warmed39 U.vm ∧ U.heap = h0) (fun _ _ _ _ _ => True) (fun _ U o U' => ∃ v L, o = .returned v ∧ Q30 Z j531 j532 h0 n0 v U'.heap L ∧ FrameEnd U o U' L ({ frames := 0, cells := 0, slots := 0, locals := 0 } : Room).cells ({ frames := 0, cells := 0, slots := 0, locals := 0 } : Room).slots) := by
  refine MetFree.of_bodySF (plainFor_of_name pn_2) hisR ?_
  intro p e s m args below meth c s₁ Bd hml0 hP hK
  obtain ⟨rfl, hZ, hh⟩ := hP
  have hx := Bd.exec
  have hby := Bd.bytes
  have hml : c.maxLocals = 8 := hml0
  have hown : s.vm.findClass zs2 = some m.cls := findClass_of_methodNamed Bd.named
  have hnm := (name_of_methodNamed Bd.named Bd.method).1
  have X0 : Stand p l e ({ frames := 0, cells := 0, slots := 0, locals := 0 } : Room) s m #[(.long (2 : Int64)), (.long (2 : Int64)), (.long j531), (.long j532)] below meth c s₁ [] 0 0 := Stand.of_body Bd
  have e0 : s₁.heap = h0 := by rw [← hh, Bd.state]; rfl
  have N0 := Fr.nil n0
  refine own_out ?_
  refine own_via (fun t k => castTop (ef_8 m (2 : Int64) (2 : Int64) j531 j532) (XS.lloadN X0.here hx rfl (hb hby d9_0) rfl (XS.lloadN X0.here hx rfl (hb hby d9_1) rfl (XS.lcmp X0.here hx rfl (hb hby d9_2) rfl (XS.ifNo X0.here hx rfl (hb hby d9_3) rfl ((if0 _ _).trans (teq (by decide : (0 : Int32) = (0 : Int32))).2) (XS.lload X0.here hx rfl (hb hby d9_6) rfl (XS.lload X0.here hx rfl (hb hby d9_8) rfl (XS.lor X0.here hx rfl (hb hby d9_10) rfl k)))))))) ?_
  obtain ⟨fs, hr, hrun, hended, hW, hsame⟩ := X0.leave (v := some (.long (j532 ||| j531))) (fun h => by rw [Bd.returns] at h; cases h)
  refine own_end (t := s₁.setFrames fs) ?_ ⟨_, hrun, hended, _, _, rfl, ?_, ⟨_, rfl⟩, hW, hsame.mono (by decide) (by decide)⟩
  · jvm_step X0.here [X0.here.top, hx, (hb hby d9_11), X0.method', Bd.returns, narrow]
    first | (intro acts; rw [hr _ acts rfl rfl rfl]) | rw [hr _ _ rfl rfl rfl]
    exact Steps.refl _
  · show Q30 Z j531 j532 h0 n0 _ s₁.heap _
    rw [e0]
    exact ⟨rfl, N0, rfl⟩
def Q31 (Z : State) (j549 : Int64) (j550 : Int64) (h0 : Heap) (n0 : Nat) (v : Option Value) (h : Heap) (L : List Loc) : Prop := v = some (.long j550) ∧ Fr n0 L ∧ h = h0
set_option maxRecDepth 65536 in
set_option maxHeartbeats 40000000 in
theorem rm31 (l : Launch) (Z : State) (a0 : Array Value) (hw : ∀ d ∈ tables_1, d.before a0 Z = true) (ws : List Jvm.Cond) (j549 : Int64) (j550 : Int64) (h0 : Heap) (n0 : Nat) (O0 : Old Z n0 h0) :
    MetFree l (⟨zs2, "expected", "(JJJJ)J"⟩ : MethodName) (head1 (Jvm.Cond.code (⟨zs2, "expected", "(JJJJ)J"⟩ : MethodName) method_3_code 8 (some .long) :: ws) ({ frames := 0, cells := 0, slots := 0, locals := 0 } : Room)) (fun a U => a = #[(.long (3 : Int64)), (.long (2 : Int64)), (.long j549), (.long j550)] ∧ Z.Warmed39 U.vm ∧ U.heap = h0) (fun _ _ _ _ _ => True) (fun _ U o U' => ∃ v L, o = .returned v ∧ Q31 Z j549 j550 h0 n0 v U'.heap L ∧ FrameEnd U o U' L ({ frames := 0, cells := 0, slots := 0, locals := 0 } : Room).cells ({ frames := 0, cells := 0, slots := 0, locals := 0 } : Room).slots) := by
  refine MetFree.of_bodySF (plainFor_of_name pn_2) hisR ?_
  intro p e s m args below meth c s₁ Bd hml0 hP hK
  obtain ⟨rfl, hZ, hh⟩ := hP
  have hx := Bd.exec
  have hby := Bd.bytes
  have hml : c.maxLocals = 8 := hml0
  have hown : s.vm.findClass zs2 = some m.cls := findClass_of_methodNamed Bd.named
  have hnm := (name_of_methodNamed Bd.named Bd.method).1
  have X0 : Stand p l e ({ frames := 0, cells := 0, slots := 0, locals := 0 } : Room) s m #[(.long (3 : Int64)), (.long (2 : Int64)), (.long j549), (.long j550)] below meth c s₁ [] 0 0 := Stand.of_body Bd
  have e0 : s₁.heap = h0 := by rw [← hh, Bd.state]; rfl
  have N0 := Fr.nil n0
  refine own_out ?_
  refine own_via (fun t k => castTop (ef_8 m (3 : Int64) (2 : Int64) j549 j550) (XS.lloadN X0.here hx rfl (hb hby d9_0) rfl (XS.lloadN X0.here hx rfl (hb hby d9_1) rfl (XS.lcmp X0.here hx rfl (hb hby d9_2) rfl (XS.ifYes X0.here hx rfl (pc0 := 3) (pc' := 12) rfl (hb hby d9_3) rfl ((if0 _ _).trans (feq (by decide : ¬ ((1 : Int32) = (0 : Int32)))).2) (by decide) (by decide) (XS.lload X0.here hx rfl (hb hby d9_12) rfl k)))))) ?_
  obtain ⟨fs, hr, hrun, hended, hW, hsame⟩ := X0.leave (v := some (.long j550)) (fun h => by rw [Bd.returns] at h; cases h)
  refine own_end (t := s₁.setFrames fs) ?_ ⟨_, hrun, hended, _, _, rfl, ?_, ⟨_, rfl⟩, hW, hsame.mono (by decide) (by decide)⟩
  · jvm_step X0.here [X0.here.top, hx, (hb hby d9_14), X0.method', Bd.returns, narrow]
    first | (intro acts; rw [hr _ acts rfl rfl rfl]) | rw [hr _ _ rfl rfl rfl]
    exact Steps.refl _
  · show Q31 Z j549 j550 h0 n0 _ s₁.heap _
    rw [e0]
    exact ⟨rfl, N0, rfl⟩
def Q32 (Z : State) (j571 : Int64) (j572 : Int64) (h0 : Heap) (n0 : Nat) (v : Option Value) (h : Heap) (L : List Loc) : Prop := v = some (.long j572) ∧ Fr n0 L ∧ h = h0
set_option maxRecDepth 65536 in
set_option maxHeartbeats 40000000 in
theorem rm32 (l : Launch) (Z : State) (a0 : Array Value) (hw : ∀ d ∈ tables_1, d.before a0 Z = true) (ws : List Jvm.Cond) (j571 : Int64) (j572 : Int64) (h0 : Heap) (n0 : Nat) (O0 : Old Z n0 h0) :
    MetFree l (⟨zs2, "expected", "(JJJJ)J"⟩ : MethodName) (head1 (Jvm.Cond.code (⟨zs2, "expected", "(JJJJ)J"⟩ : MethodName) method_3_code 8 (some .long) :: ws) ({ frames := 0, cells := 0, slots := 0, locals := 0 } : Room)) (fun a U => a = #[(.long (0 : Int64)), (.long (3 : Int64)), (.long j571), (.long j572)] ∧ Z.Warmed39 U.vm ∧ U.heap = h0) (fun _ _ _ _ _ => True) (fun _ U o U' => ∃ v L, o = .returned v ∧ Q32 Z j571 j572 h0 n0 v U'.heap L ∧ FrameEnd U o U' L ({ frames := 0, cells := 0, slots := 0, locals := 0 } : Room).cells ({ frames := 0, cells := 0, slots := 0, locals := 0 } : Room).slots) := by
  refine MetFree.of_bodySF (plainFor_of_name pn_2) hisR ?_
  intro p e s m args below meth c s₁ Bd hml0 hP hK
  obtain ⟨rfl, hZ, hh⟩ := hP
  have hx := Bd.exec
  have hby := Bd.bytes
  have hml : c.maxLocals = 8 := hml0
  have hown : s.vm.findClass zs2 = some m.cls := findClass_of_methodNamed Bd.named
  have hnm := (name_of_methodNamed Bd.named Bd.method).1
  have X0 : Stand p l e ({ frames := 0, cells := 0, slots := 0, locals := 0 } : Room) s m #[(.long (0 : Int64)), (.long (3 : Int64)), (.long j571), (.long j572)] below meth c s₁ [] 0 0 := Stand.of_body Bd
  have e0 : s₁.heap = h0 := by rw [← hh, Bd.state]; rfl
  have N0 := Fr.nil n0
  refine own_out ?_
  refine own_via (fun t k => castTop (ef_8 m (0 : Int64) (3 : Int64) j571 j572) (XS.lloadN X0.here hx rfl (hb hby d9_0) rfl (XS.lloadN X0.here hx rfl (hb hby d9_1) rfl (XS.lcmp X0.here hx rfl (hb hby d9_2) rfl (XS.ifYes X0.here hx rfl (pc0 := 3) (pc' := 12) rfl (hb hby d9_3) rfl ((if0 _ _).trans (feq (by decide : ¬ ((-1 : Int32) = (0 : Int32)))).2) (by decide) (by decide) (XS.lload X0.here hx rfl (hb hby d9_12) rfl k)))))) ?_
  obtain ⟨fs, hr, hrun, hended, hW, hsame⟩ := X0.leave (v := some (.long j572)) (fun h => by rw [Bd.returns] at h; cases h)
  refine own_end (t := s₁.setFrames fs) ?_ ⟨_, hrun, hended, _, _, rfl, ?_, ⟨_, rfl⟩, hW, hsame.mono (by decide) (by decide)⟩
  · jvm_step X0.here [X0.here.top, hx, (hb hby d9_14), X0.method', Bd.returns, narrow]
    first | (intro acts; rw [hr _ acts rfl rfl rfl]) | rw [hr _ _ rfl rfl rfl]
    exact Steps.refl _
  · show Q32 Z j571 j572 h0 n0 _ s₁.heap _
    rw [e0]
    exact ⟨rfl, N0, rfl⟩
def Q33 (Z : State) (j589 : Int64) (j590 : Int64) (h0 : Heap) (n0 : Nat) (v : Option Value) (h : Heap) (L : List Loc) : Prop := v = some (.long j590) ∧ Fr n0 L ∧ h = h0
set_option maxRecDepth 65536 in
set_option maxHeartbeats 40000000 in
theorem rm33 (l : Launch) (Z : State) (a0 : Array Value) (hw : ∀ d ∈ tables_1, d.before a0 Z = true) (ws : List Jvm.Cond) (j589 : Int64) (j590 : Int64) (h0 : Heap) (n0 : Nat) (O0 : Old Z n0 h0) :
    MetFree l (⟨zs2, "expected", "(JJJJ)J"⟩ : MethodName) (head1 (Jvm.Cond.code (⟨zs2, "expected", "(JJJJ)J"⟩ : MethodName) method_3_code 8 (some .long) :: ws) ({ frames := 0, cells := 0, slots := 0, locals := 0 } : Room)) (fun a U => a = #[(.long (1 : Int64)), (.long (3 : Int64)), (.long j589), (.long j590)] ∧ Z.Warmed39 U.vm ∧ U.heap = h0) (fun _ _ _ _ _ => True) (fun _ U o U' => ∃ v L, o = .returned v ∧ Q33 Z j589 j590 h0 n0 v U'.heap L ∧ FrameEnd U o U' L ({ frames := 0, cells := 0, slots := 0, locals := 0 } : Room).cells ({ frames := 0, cells := 0, slots := 0, locals := 0 } : Room).slots) := by
  refine MetFree.of_bodySF (plainFor_of_name pn_2) hisR ?_
  intro p e s m args below meth c s₁ Bd hml0 hP hK
  obtain ⟨rfl, hZ, hh⟩ := hP
  have hx := Bd.exec
  have hby := Bd.bytes
  have hml : c.maxLocals = 8 := hml0
  have hown : s.vm.findClass zs2 = some m.cls := findClass_of_methodNamed Bd.named
  have hnm := (name_of_methodNamed Bd.named Bd.method).1
  have X0 : Stand p l e ({ frames := 0, cells := 0, slots := 0, locals := 0 } : Room) s m #[(.long (1 : Int64)), (.long (3 : Int64)), (.long j589), (.long j590)] below meth c s₁ [] 0 0 := Stand.of_body Bd
  have e0 : s₁.heap = h0 := by rw [← hh, Bd.state]; rfl
  have N0 := Fr.nil n0
  refine own_out ?_
  refine own_via (fun t k => castTop (ef_8 m (1 : Int64) (3 : Int64) j589 j590) (XS.lloadN X0.here hx rfl (hb hby d9_0) rfl (XS.lloadN X0.here hx rfl (hb hby d9_1) rfl (XS.lcmp X0.here hx rfl (hb hby d9_2) rfl (XS.ifYes X0.here hx rfl (pc0 := 3) (pc' := 12) rfl (hb hby d9_3) rfl ((if0 _ _).trans (feq (by decide : ¬ ((-1 : Int32) = (0 : Int32)))).2) (by decide) (by decide) (XS.lload X0.here hx rfl (hb hby d9_12) rfl k)))))) ?_
  obtain ⟨fs, hr, hrun, hended, hW, hsame⟩ := X0.leave (v := some (.long j590)) (fun h => by rw [Bd.returns] at h; cases h)
  refine own_end (t := s₁.setFrames fs) ?_ ⟨_, hrun, hended, _, _, rfl, ?_, ⟨_, rfl⟩, hW, hsame.mono (by decide) (by decide)⟩
  · jvm_step X0.here [X0.here.top, hx, (hb hby d9_14), X0.method', Bd.returns, narrow]
    first | (intro acts; rw [hr _ acts rfl rfl rfl]) | rw [hr _ _ rfl rfl rfl]
    exact Steps.refl _
  · show Q33 Z j589 j590 h0 n0 _ s₁.heap _
    rw [e0]
    exact ⟨rfl, N0, rfl⟩
def Q34 (Z : State) (j607 : Int64) (j608 : Int64) (h0 : Heap) (n0 : Nat) (v : Option Value) (h : Heap) (L : List Loc) : Prop := v = some (.long j608) ∧ Fr n0 L ∧ h = h0
set_option maxRecDepth 65536 in
set_option maxHeartbeats 40000000 in
theorem rm34 (l : Launch) (Z : State) (a0 : Array Value) (hw : ∀ d ∈ tables_1, d.before a0 Z = true) (ws : List Jvm.Cond) (j607 : Int64) (j608 : Int64) (h0 : Heap) (n0 : Nat) (O0 : Old Z n0 h0) :
    MetFree l (⟨zs2, "expected", "(JJJJ)J"⟩ : MethodName) (head1 (Jvm.Cond.code (⟨zs2, "expected", "(JJJJ)J"⟩ : MethodName) method_3_code 8 (some .long) :: ws) ({ frames := 0, cells := 0, slots := 0, locals := 0 } : Room)) (fun a U => a = #[(.long (2 : Int64)), (.long (3 : Int64)), (.long j607), (.long j608)] ∧ Z.Warmed39 U.vm ∧ U.heap = h0) (fun _ _ _ _ _ => True) (fun _ U o U' => ∃ v L, o = .returned v ∧ Q34 Z j607 j608 h0 n0 v U'.heap L ∧ FrameEnd U o U' L ({ frames := 0, cells := 0, slots := 0, locals := 0 } : Room).cells ({ frames := 0, cells := 0, slots := 0, locals := 0 } : Room).slots) := by
  refine MetFree.of_bodySF (plainFor_of_name pn_2) hisR ?_
  intro p e s m args below meth c s₁ Bd hml0 hP hK
  obtain ⟨rfl, hZ, hh⟩ := hP
  have hx := Bd.exec
  have hby := Bd.bytes
  have hml : c.maxLocals = 8 := hml0
  have hown : s.vm.findClass zs2 = some m.cls := findClass_of_methodNamed Bd.named
  have hnm := (name_of_methodNamed Bd.named Bd.method).1
  have X0 : Stand p l e ({ frames := 0, cells := 0, slots := 0, locals := 0 } : Room) s m #[(.long (2 : Int64)), (.long (3 : Int64)), (.long j607), (.long j608)] below meth c s₁ [] 0 0 := Stand.of_body Bd
  have e0 : s₁.heap = h0 := by rw [← hh, Bd.state]; rfl
  have N0 := Fr.nil n0
  refine own_out ?_
  refine own_via (fun t k => castTop (ef_8 m (2 : Int64) (3 : Int64) j607 j608) (XS.lloadN X0.here hx rfl (hb hby d9_0) rfl (XS.lloadN X0.here hx rfl (hb hby d9_1) rfl (XS.lcmp X0.here hx rfl (hb hby d9_2) rfl (XS.ifYes X0.here hx rfl (pc0 := 3) (pc' := 12) rfl (hb hby d9_3) rfl ((if0 _ _).trans (feq (by decide : ¬ ((-1 : Int32) = (0 : Int32)))).2) (by decide) (by decide) (XS.lload X0.here hx rfl (hb hby d9_12) rfl k)))))) ?_
  obtain ⟨fs, hr, hrun, hended, hW, hsame⟩ := X0.leave (v := some (.long j608)) (fun h => by rw [Bd.returns] at h; cases h)
  refine own_end (t := s₁.setFrames fs) ?_ ⟨_, hrun, hended, _, _, rfl, ?_, ⟨_, rfl⟩, hW, hsame.mono (by decide) (by decide)⟩
  · jvm_step X0.here [X0.here.top, hx, (hb hby d9_14), X0.method', Bd.returns, narrow]
    first | (intro acts; rw [hr _ acts rfl rfl rfl]) | rw [hr _ _ rfl rfl rfl]
    exact Steps.refl _
  · show Q34 Z j607 j608 h0 n0 _ s₁.heap _
    rw [e0]
    exact ⟨rfl, N0, rfl⟩
def Q35 (Z : State) (j625 : Int64) (j626 : Int64) (h0 : Heap) (n0 : Nat) (v : Option Value) (h : Heap) (L : List Loc) : Prop := v = some (.long (j626 ||| j625)) ∧ Fr n0 L ∧ h = h0
set_option maxRecDepth 65536 in
set_option maxHeartbeats 40000000 in
theorem rm35 (l : Launch) (Z : State) (a0 : Array Value) (hw : ∀ d ∈ tables_1, d.before a0 Z = true) (ws : List Jvm.Cond) (j625 : Int64) (j626 : Int64) (h0 : Heap) (n0 : Nat) (O0 : Old Z n0 h0) :
    MetFree l (⟨zs2, "expected", "(JJJJ)J"⟩ : MethodName) (head1 (Jvm.Cond.code (⟨zs2, "expected", "(JJJJ)J"⟩ : MethodName) method_3_code 8 (some .long) :: ws) ({ frames := 0, cells := 0, slots := 0, locals := 0 } : Room)) (fun a U => a = #[(.long (3 : Int64)), (.long (3 : Int64)), (.long j625), (.long j626)] ∧ Z.Warmed39 U.vm ∧ U.heap = h0) (fun _ _ _ _ _ => True) (fun _ U o U' => ∃ v L, o = .returned v ∧ Q35 Z j625 j626 h0 n0 v U'.heap L ∧ FrameEnd U o U' L ({ frames := 0, cells := 0, slots := 0, locals := 0 } : Room).cells ({ frames := 0, cells := 0, slots := 0, locals := 0 } : Room).slots) := by
  refine MetFree.of_bodySF (plainFor_of_name pn_2) hisR ?_
  intro p e s m args below meth c s₁ Bd hml0 hP hK
  obtain ⟨rfl, hZ, hh⟩ := hP
  have hx := Bd.exec
  have hby := Bd.bytes
  have hml : c.maxLocals = 8 := hml0
  have hown : s.vm.findClass zs2 = some m.cls := findClass_of_methodNamed Bd.named
  have hnm := (name_of_methodNamed Bd.named Bd.method).1
  have X0 : Stand p l e ({ frames := 0, cells := 0, slots := 0, locals := 0 } : Room) s m #[(.long (3 : Int64)), (.long (3 : Int64)), (.long j625), (.long j626)] below meth c s₁ [] 0 0 := Stand.of_body Bd
  have e0 : s₁.heap = h0 := by rw [← hh, Bd.state]; rfl
  have N0 := Fr.nil n0
  refine own_out ?_
  refine own_via (fun t k => castTop (ef_8 m (3 : Int64) (3 : Int64) j625 j626) (XS.lloadN X0.here hx rfl (hb hby d9_0) rfl (XS.lloadN X0.here hx rfl (hb hby d9_1) rfl (XS.lcmp X0.here hx rfl (hb hby d9_2) rfl (XS.ifNo X0.here hx rfl (hb hby d9_3) rfl ((if0 _ _).trans (teq (by decide : (0 : Int32) = (0 : Int32))).2) (XS.lload X0.here hx rfl (hb hby d9_6) rfl (XS.lload X0.here hx rfl (hb hby d9_8) rfl (XS.lor X0.here hx rfl (hb hby d9_10) rfl k)))))))) ?_
  obtain ⟨fs, hr, hrun, hended, hW, hsame⟩ := X0.leave (v := some (.long (j626 ||| j625))) (fun h => by rw [Bd.returns] at h; cases h)
  refine own_end (t := s₁.setFrames fs) ?_ ⟨_, hrun, hended, _, _, rfl, ?_, ⟨_, rfl⟩, hW, hsame.mono (by decide) (by decide)⟩
  · jvm_step X0.here [X0.here.top, hx, (hb hby d9_11), X0.method', Bd.returns, narrow]
    first | (intro acts; rw [hr _ acts rfl rfl rfl]) | rw [hr _ _ rfl rfl rfl]
    exact Steps.refl _
  · show Q35 Z j625 j626 h0 n0 _ s₁.heap _
    rw [e0]
    exact ⟨rfl, N0, rfl⟩
theorem ef_9 (m : MethodId) (x0 : Int64) (x1 : Int64) (x2 : Int64) (x3 : Int64) (x4 : Int64) : entryFrame m #[(.long x0), (.long x1), (.long x2), (.long x3), (.long x4)] maxLocals = mkF m 0 #[.val (.long x0), .second, .val (.long x1), .second, .val (.long x2), .second, .val (.long x3), .second, .val (.long x4), .second, .unset, .unset, .unset, .unset, .unset, .unset, .unset] [] := by first | (simp [entryFrame, mkF, argsToLocals, Value.category, maxLocals]; done) | rfl
set_option maxRecDepth 65536 in
set_option maxHeartbeats 40000000 in
theorem rm0 (l : Launch) (Z : State) (a0 : Array Value) (hw : ∀ d ∈ tables_1, d.before a0 Z = true) (ws : List Jvm.Cond) (i0 : Int64) (i1 : Int64) (i2 : Int64) (i3 : Int64) (i4 : Int64) (h0 : Heap) (n0 : Nat) (O0 : Old Z n0 h0) (S_WordArray_BLOCK_SHIFT : Sta Z Z.heap zs1 "BLOCK_SHIFT" "I" (.int (27 : Int32))) :
    MetFree l x (head1 (Jvm.Cond.code x code maxLocals ret :: ws) room_1) (fun a U => a = #[(.long i0), (.long i1), (.long i2), (.long i3), (.long i4)] ∧ Z.Warmed39 U.vm ∧ U.heap = h0) (fun _ _ _ _ _ => True) (fun _ U o U' => ∃ v L, o = .returned v ∧ own_Q0 n0 v L ∧ FrameEnd U o U' L room_1.cells room_1.slots) := by
  refine MetFree.of_bodySF (plainFor_of_name pn_2) hisR ?_
  intro p e s m args below meth c s₁ Bd hml0 hP hK
  obtain ⟨rfl, hZ, hh⟩ := hP
  have hx := Bd.exec
  have hby := Bd.bytes
  have hml : c.maxLocals = 17 := hml0
  have hown : s.vm.findClass zs2 = some m.cls := findClass_of_methodNamed Bd.named
  have hnm := (name_of_methodNamed Bd.named Bd.method).1
  have X0 : Stand p l e room_1 s m #[(.long i0), (.long i1), (.long i2), (.long i3), (.long i4)] below meth c s₁ [] 0 0 := Stand.of_body Bd
  have e0 : s₁.heap = h0 := by rw [← hh, Bd.state]; rfl
  have N0 := Fr.nil n0
  refine own_out ?_
  show own_Goes p e below _ (own_G s below n0)
  refine own_via (fun t k => castTop (ef_9 m i0 i1 i2 i3 i4) (XS.lloadN X0.here hx rfl (hb hby at_0) rfl (X0.ldc2Long hx hown (mvT hZ (wd hw 0 rfl)) (g := (mkF m 1 #[.val (.long i0), .second, .val (.long i1), .second, .val (.long i2), .second, .val (.long i3), .second, .val (.long i4), .second, .unset, .unset, .unset, .unset, .unset, .unset, .unset] [(.long i0)])) rfl (hb hby at_1) t (XS.land X0.here hx rfl (hb hby at_4) rfl (XS.lstore X0.here hx rfl (hb hby at_5) rfl (l' := #[.val (.long i0), .second, .val (.long i1), .second, .val (.long i2), .second, .val (.long i3), .second, .val (.long i4), .second, .val (.long (i0 &&& (255 : Int64))), .second, .unset, .unset, .unset, .unset, .unset]) rfl k))))) ?_
  obtain ⟨T2, h2, X2, e2, E2, A2, D2, -, st2⟩ := newO X0 hx hZ hown (wd hw 1 rfl) (wd hw 2 rfl) (wd hw 3 rfl) e0 (g := (mkF m 7 #[.val (.long i0), .second, .val (.long i1), .second, .val (.long i2), .second, .val (.long i3), .second, .val (.long i4), .second, .val (.long (i0 &&& (255 : Int64))), .second, .unset, .unset, .unset, .unset, .unset] [])) rfl (hb hby at_7) (by decide) (by decide)
  obtain ⟨b3, q2⟩ : ∃ z, z = h0.size := ⟨_, rfl⟩
  rw [← q2] at A2 D2 st2
  refine own_via (fun t k => st2 t k) ?_
  have g4 : n0 ≤ b3 := Nat.le_trans (own_old O0) (Nat.le_of_eq q2.symm)
  have B5 : h0.size ≤ b3 := Nat.le_trans (Nat.le_refl _) (Nat.le_of_eq q2.symm)
  have F6 : Fld Z h2 b3 zs1 "length" "J" (.long (0 : Int64)) := D2 (Or.inr (wd hw 12 rfl)) (ty := .long) (by decide)
  have F7 : Fld Z h2 b3 zs1 "blocks" "[[J" .null := D2 (Or.inr (wd hw 19 rfl)) (ty := (.array (.array .long))) (by decide)
  have F8 : Fld Z h2 b3 zs1 "firstBlock" "[J" .null := D2 (Or.inr (wd hw 28 rfl)) (ty := (.array .long)) (by decide)
  show own_Goes p e below (T2.setTop (mkF m 10 #[.val (.long i0), .second, .val (.long i1), .second, .val (.long i2), .second, .val (.long i3), .second, .val (.long i4), .second, .val (.long (i0 &&& (255 : Int64))), .second, .unset, .unset, .unset, .unset, .unset] [(.ref b3)])) _
  refine own_via (fun t k => XS.dup X2.here hx rfl (hb hby at_10) rfl rfl (X2.ldc2Long hx hown (mvT hZ (wd hw 4 rfl)) (g := (mkF m 11 #[.val (.long i0), .second, .val (.long i1), .second, .val (.long i2), .second, .val (.long i3), .second, .val (.long i4), .second, .val (.long (i0 &&& (255 : Int64))), .second, .unset, .unset, .unset, .unset, .unset] [(.ref b3), (.ref b3)])) rfl (hb hby at_11) t k)) ?_
  have O60 : Old Z n0 h2 := (O0.ext E2)
  obtain ⟨_, T9, _, X9, hQ9, st9⟩ := own_ci X2 hx hZ hown (wd hw 5 rfl) (wd hw 6 rfl) (wd hw 7 rfl) (wd hw 3 rfl) rfl (by decide) (rm2 l Z a0 hw [] b3 (0 : Int64) h2 n0 O60 F6 A2 g4 S_WordArray_BLOCK_SHIFT F7 F8) e2 (g := (mkF m 14 #[.val (.long i0), .second, .val (.long i1), .second, .val (.long i2), .second, .val (.long i3), .second, .val (.long i4), .second, .val (.long (i0 &&& (255 : Int64))), .second, .unset, .unset, .unset, .unset, .unset] [(.long (4 : Int64)), (.ref b3), (.ref b3)])) rfl (by rw [hml]; rfl) (rest := [(.ref b3)]) (W := 1) (lenOf pd_2 rfl) rfl (by show 2 * 0 + _ ≤ _; exact Nat.le_of_eq rfl) (hb hby at_14) (by decide) (by decide) (by decide) (by decide)
  obtain ⟨h9, e9⟩ : ∃ z, T9.heap = z := ⟨_, rfl⟩
  rw [e9] at hQ9
  obtain ⟨b61, k62, rfl, Nq9, K9, ex63, fx64, fx65, bx66, vx67, ex68⟩ := hQ9
  have N9 := Fr.app N0 Nq9
  have N69 : b3 ≠ b61 := Nat.ne_of_lt (Nat.lt_of_lt_of_le A2.lt bx66)
  have g70 : n0 ≤ b61 := Nat.le_trans (own_old O60) bx66
  have Z72 : h0.size ≤ h2.size := (Nat.le_trans (Nat.le_refl _) E2.1)
  have B71 : h0.size ≤ b61 := Nat.le_trans Z72 bx66
  refine own_via (fun t k => st9 t (XS.astore X9.here hx rfl (hb hby at_17) rfl rfl (l' := #[.val (.long i0), .second, .val (.long i1), .second, .val (.long i2), .second, .val (.long i3), .second, .val (.long i4), .second, .val (.long (i0 &&& (255 : Int64))), .second, rv b3, .unset, .unset, .unset, .unset]) rfl (XS.aload X9.here hx rfl (hb hby at_19) rfl rfl (XS.lconst X9.here hx rfl (hb hby at_21) (XS.lloadN X9.here hx rfl (hb hby at_22) rfl k))))) ?_
  have O96 : Old Z n0 h9 := (O60.keep K9 (allS g4 all0))
  obtain ⟨_, T73, _, X73, hQ73, st73⟩ := own_cv X9 hx hZ hown (wd hw 29 rfl) (wd hw 30 rfl) (wd hw 32 rfl) (wd hw 31 rfl) (wd hw 33 rfl) (wd hw 3 rfl) (by decide) (rm5 l Z a0 hw [] b3 i1 b61 k62 h9 n0 O96 fx65 ex63 vx67 g70 ex68) e9 ex63 (g := (mkF m 23 #[.val (.long i0), .second, .val (.long i1), .second, .val (.long i2), .second, .val (.long i3), .second, .val (.long i4), .second, .val (.long (i0 &&& (255 : Int64))), .second, rv b3, .unset, .unset, .unset, .unset] [(.long i1), (.long (0 : Int64)), (.ref b3)])) rfl (by rw [hml]; rfl) (rest := []) (W := 0) (lenOf pd_5 rfl) rfl (by show 2 * 0 + _ ≤ _; exact Nat.le_of_eq rfl) (hb hby at_23) (by decide) (by decide) (by decide) (by decide)
  obtain ⟨h73, e73⟩ : ∃ z, T73.heap = z := ⟨_, rfl⟩
  rw [e73] at hQ73
  obtain ⟨rfl, Nq73, K73, vx97, ex98⟩ := hQ73
  have N73 := Fr.app N9 Nq73
  refine own_via (fun t k => st73 t (XS.aload X73.here hx rfl (hb hby at_26) rfl rfl (XS.lconst X73.here hx rfl (hb hby at_28) (XS.lload X73.here hx rfl (hb hby at_29) rfl k)))) ?_
  have F125 : Fld Z h73 b3 zs1 "firstBlock" "[J" (.ref b61) := (fx65.keep K73 (ninS N69 nin0))
  have E126 : Exa Z h73 b3 zs1 := (ex63.keep K73)
  have O127 : Old Z n0 h73 := (O96.keep K73 (allS g70 all0))
  obtain ⟨_, T99, _, X99, hQ99, st99⟩ := own_cv X73 hx hZ hown (wd hw 29 rfl) (wd hw 30 rfl) (wd hw 32 rfl) (wd hw 31 rfl) (wd hw 33 rfl) (wd hw 3 rfl) (by decide) (rm8 l Z a0 hw [] b3 i2 b61 k62 i1 h73 n0 O127 F125 E126 vx97 g70 ex98) e73 E126 (g := (mkF m 31 #[.val (.long i0), .second, .val (.long i1), .second, .val (.long i2), .second, .val (.long i3), .second, .val (.long i4), .second, .val (.long (i0 &&& (255 : Int64))), .second, rv b3, .unset, .unset, .unset, .unset] [(.long i2), (.long (1 : Int64)), (.ref b3)])) rfl (by rw [hml]; rfl) (rest := []) (W := 0) (lenOf pd_5 rfl) rfl (by show 2 * 0 + _ ≤ _; exact Nat.le_of_eq rfl) (hb hby at_31) (by decide) (by decide) (by decide) (by decide)
  obtain ⟨h99, e99⟩ : ∃ z, T99.heap = z := ⟨_, rfl⟩
  rw [e99] at hQ99
  obtain ⟨rfl, Nq99, K99, ex128, vx129⟩ := hQ99
  have N99 := Fr.app N73 Nq99
  refine own_via (fun t k => st99 t (XS.aload X99.here hx rfl (hb hby at_34) rfl rfl (X99.ldc2Long hx hown (mvT hZ (wd hw 41 rfl)) (g := (mkF m 36 #[.val (.long i0), .second, .val (.long i1), .second, .val (.long i2), .second, .val (.long i3), .second, .val (.long i4), .second, .val (.long (i0 &&& (255 : Int64))), .second, rv b3, .unset, .unset, .unset, .unset] [(.ref b3)])) rfl (hb hby at_36) t (XS.lload X99.here hx rfl (hb hby at_39) rfl k)))) ?_
  have F159 : Fld Z h99 b3 zs1 "firstBlock" "[J" (.ref b61) := (F125.keep K99 (ninS N69 nin0))
  have E160 : Exa Z h99 b3 zs1 := (E126.keep K99)
  have O161 : Old Z n0 h99 := (O127.keep K99 (allS g70 all0))
  obtain ⟨_, T130, _, X130, hQ130, st130⟩ := own_cv X99 hx hZ hown (wd hw 29 rfl) (wd hw 30 rfl) (wd hw 32 rfl) (wd hw 31 rfl) (wd hw 33 rfl) (wd hw 3 rfl) (by decide) (rm11 l Z a0 hw [] b3 i3 b61 k62 i1 i2 h99 n0 O161 F159 E160 vx129 g70 ex128) e99 E160 (g := (mkF m 41 #[.val (.long i0), .second, .val (.long i1), .second, .val (.long i2), .second, .val (.long i3), .second, .val (.long i4), .second, .val (.long (i0 &&& (255 : Int64))), .second, rv b3, .unset, .unset, .unset, .unset] [(.long i3), (.long (2 : Int64)), (.ref b3)])) rfl (by rw [hml]; rfl) (rest := []) (W := 0) (lenOf pd_5 rfl) rfl (by show 2 * 0 + _ ≤ _; exact Nat.le_of_eq rfl) (hb hby at_41) (by decide) (by decide) (by decide) (by decide)
  obtain ⟨h130, e130⟩ : ∃ z, T130.heap = z := ⟨_, rfl⟩
  rw [e130] at hQ130
  obtain ⟨rfl, Nq130, K130, ex162, vx163⟩ := hQ130
  have N130 := Fr.app N99 Nq130
  refine own_via (fun t k => st130 t (XS.aload X130.here hx rfl (hb hby at_44) rfl rfl (X130.ldc2Long hx hown (mvT hZ (wd hw 42 rfl)) (g := (mkF m 46 #[.val (.long i0), .second, .val (.long i1), .second, .val (.long i2), .second, .val (.long i3), .second, .val (.long i4), .second, .val (.long (i0 &&& (255 : Int64))), .second, rv b3, .unset, .unset, .unset, .unset] [(.ref b3)])) rfl (hb hby at_46) t (XS.lload X130.here hx rfl (hb hby at_49) rfl k)))) ?_
  have F196 : Fld Z h130 b3 zs1 "firstBlock" "[J" (.ref b61) := (F159.keep K130 (ninS N69 nin0))
  have E197 : Exa Z h130 b3 zs1 := (E160.keep K130)
  have O198 : Old Z n0 h130 := (O161.keep K130 (allS g70 all0))
  obtain ⟨_, T164, _, X164, hQ164, st164⟩ := own_cv X130 hx hZ hown (wd hw 29 rfl) (wd hw 30 rfl) (wd hw 32 rfl) (wd hw 31 rfl) (wd hw 33 rfl) (wd hw 3 rfl) (by decide) (rm14 l Z a0 hw [] b3 i4 b61 k62 i1 i2 i3 h130 n0 O198 F196 E197 vx163 g70 ex162) e130 E197 (g := (mkF m 51 #[.val (.long i0), .second, .val (.long i1), .second, .val (.long i2), .second, .val (.long i3), .second, .val (.long i4), .second, .val (.long (i0 &&& (255 : Int64))), .second, rv b3, .unset, .unset, .unset, .unset] [(.long i4), (.long (3 : Int64)), (.ref b3)])) rfl (by rw [hml]; rfl) (rest := []) (W := 0) (lenOf pd_5 rfl) rfl (by show 2 * 0 + _ ≤ _; exact Nat.le_of_eq rfl) (hb hby at_51) (by decide) (by decide) (by decide) (by decide)
  obtain ⟨h164, e164⟩ : ∃ z, T164.heap = z := ⟨_, rfl⟩
  rw [e164] at hQ164
  obtain ⟨rfl, Nq164, K164, ex199, vx200⟩ := hQ164
  have N164 := Fr.app N130 Nq164
  refine own_via (fun t k => st164 t (XS.aload X164.here hx rfl (hb hby at_54) rfl rfl (XS.lload X164.here hx rfl (hb hby at_56) rfl k))) ?_
  have F249 : Fld Z h164 b3 zs1 "firstBlock" "[J" (.ref b61) := (F196.keep K164 (ninS N69 nin0))
  have E250 : Exa Z h164 b3 zs1 := (E197.keep K164)
  have O251 : Old Z n0 h164 := (O198.keep K164 (allS g70 all0))
  obtain ⟨_, T201, _, X201, hQ201, st201⟩ := own_cv X164 hx hZ hown (wd hw 43 rfl) (wd hw 44 rfl) (wd hw 46 rfl) (wd hw 45 rfl) (wd hw 47 rfl) (wd hw 3 rfl) (by decide) (rm15 l Z a0 hw [] b3 (i0 &&& (255 : Int64)) b61 k62 i1 i2 i3 i4 h164 n0 O251 (own_bitlo i0) (own_bithi i0) F249 E250 vx200 g70 ex199) e164 E250 (g := (mkF m 58 #[.val (.long i0), .second, .val (.long i1), .second, .val (.long i2), .second, .val (.long i3), .second, .val (.long i4), .second, .val (.long (i0 &&& (255 : Int64))), .second, rv b3, .unset, .unset, .unset, .unset] [(.long (i0 &&& (255 : Int64))), (.ref b3)])) rfl (by rw [hml]; rfl) (rest := []) (W := 0) (lenOf pd_2 rfl) rfl (by show 2 * 0 + _ ≤ _; exact Nat.le_of_eq rfl) (hb hby at_58) (by decide) (by decide) (by decide) (by decide)
  obtain ⟨h201, e201⟩ : ∃ z, T201.heap = z := ⟨_, rfl⟩
  rw [e201] at hQ201
  rcases hQ201 with ⟨hq252, rfl, Nq201, K201, ex253, vx254⟩ | ⟨hq255, rfl, Nq201, K201, ex256, vx257⟩ | ⟨hq258, rfl, Nq201, K201, ex259, vx260⟩ | ⟨hq261, rfl, Nq201, K201, ex262, vx263⟩
  · have N201 := Fr.app N164 Nq201
    refine own_via (fun t k => st201 t (XS.lload X201.here hx rfl (hb hby at_61) rfl (XS.bipush X201.here hx rfl (hb hby at_63) (XS.lushr X201.here hx rfl (hb hby at_65) rfl k)))) ?_
    show own_Goes p e below (T201.setTop (mkF m 66 #[.val (.long i0), .second, .val (.long i1), .second, .val (.long i2), .second, .val (.long i3), .second, .val (.long i4), .second, .val (.long (i0 &&& (255 : Int64))), .second, rv b3, .unset, .unset, .unset, .unset] [(.long (((i0 &&& (255 : Int64)).toUInt64 >>> ((6 : Int32) &&& 0x3f).toInt64.toUInt64).toInt64))])) _
    have qs := own_idx (i0 &&& (255 : Int64)) 0 (own_bitlo i0) hq252
    have qs264 := qs
    rw [qs]
    show own_Goes p e below (T201.setTop (mkF m 66 #[.val (.long i0), .second, .val (.long i1), .second, .val (.long i2), .second, .val (.long i3), .second, .val (.long i4), .second, .val (.long (i0 &&& (255 : Int64))), .second, rv b3, .unset, .unset, .unset, .unset] [(.long (0 : Int64))])) _
    refine own_via (fun t k => XS.lstore X201.here hx rfl (hb hby at_66) rfl (l' := #[.val (.long i0), .second, .val (.long i1), .second, .val (.long i2), .second, .val (.long i3), .second, .val (.long i4), .second, .val (.long (i0 &&& (255 : Int64))), .second, rv b3, .val (.long (0 : Int64)), .second, .unset, .unset]) rfl (XS.lconst X201.here hx rfl (hb hby at_68) (XS.lload X201.here hx rfl (hb hby at_69) rfl (X201.ldc2Long hx hown (mvT hZ (wd hw 49 rfl)) (g := (mkF m 71 #[.val (.long i0), .second, .val (.long i1), .second, .val (.long i2), .second, .val (.long i3), .second, .val (.long i4), .second, .val (.long (i0 &&& (255 : Int64))), .second, rv b3, .val (.long (0 : Int64)), .second, .unset, .unset] [(.long (i0 &&& (255 : Int64))), (.long (1 : Int64))])) rfl (hb hby at_71) t (XS.land X201.here hx rfl (hb hby at_74) rfl (XS.l2i X201.here hx rfl (hb hby at_75) rfl (XS.lshl X201.here hx rfl (hb hby at_76) rfl k))))))) ?_
    show own_Goes p e below (T201.setTop (mkF m 77 #[.val (.long i0), .second, .val (.long i1), .second, .val (.long i2), .second, .val (.long i3), .second, .val (.long i4), .second, .val (.long (i0 &&& (255 : Int64))), .second, rv b3, .val (.long (0 : Int64)), .second, .unset, .unset] [(.long ((1 : Int64) <<< ((((i0 &&& (255 : Int64)) &&& (63 : Int64)).toInt32) &&& 0x3f).toInt64))])) _
    rw [own_m63 (i0 &&& (255 : Int64))]
    show own_Goes p e below (T201.setTop (mkF m 77 #[.val (.long i0), .second, .val (.long i1), .second, .val (.long i2), .second, .val (.long i3), .second, .val (.long i4), .second, .val (.long (i0 &&& (255 : Int64))), .second, rv b3, .val (.long (0 : Int64)), .second, .unset, .unset] [(.long ((1 : Int64) <<< (((i0 &&& (255 : Int64)).toInt32) &&& 0x3f).toInt64))])) _
    refine own_via (fun t k => XS.lstore X201.here hx rfl (hb hby at_77) rfl (l' := #[.val (.long i0), .second, .val (.long i1), .second, .val (.long i2), .second, .val (.long i3), .second, .val (.long i4), .second, .val (.long (i0 &&& (255 : Int64))), .second, rv b3, .val (.long (0 : Int64)), .second, .val (.long ((1 : Int64) <<< (((i0 &&& (255 : Int64)).toInt32) &&& 0x3f).toInt64)), .second]) rfl (XS.aload X201.here hx rfl (hb hby at_79) rfl rfl (XS.lconst X201.here hx rfl (hb hby at_81) k))) ?_
    have F284 : Fld Z h201 b3 zs1 "firstBlock" "[J" (.ref b61) := (F249.keep K201 (ninS N69 nin0))
    have E285 : Exa Z h201 b3 zs1 := (E250.keep K201)
    have O286 : Old Z n0 h201 := (O251.keep K201 (allS g70 all0))
    obtain ⟨_, T265, _, X265, hQ265, st265⟩ := own_cv X201 hx hZ hown (wd hw 50 rfl) (wd hw 51 rfl) (wd hw 53 rfl) (wd hw 52 rfl) (wd hw 54 rfl) (wd hw 3 rfl) (by decide) (rm16 l Z a0 hw [] b3 b61 k62 (i1 ||| ((1 : Int64) <<< (((i0 &&& (255 : Int64)).toInt32) &&& 0x3f).toInt64)) i2 i3 i4 h201 n0 O286 F284 E285 vx254) e201 E285 (g := (mkF m 82 #[.val (.long i0), .second, .val (.long i1), .second, .val (.long i2), .second, .val (.long i3), .second, .val (.long i4), .second, .val (.long (i0 &&& (255 : Int64))), .second, rv b3, .val (.long (0 : Int64)), .second, .val (.long ((1 : Int64) <<< (((i0 &&& (255 : Int64)).toInt32) &&& 0x3f).toInt64)), .second] [(.long (0 : Int64)), (.ref b3)])) rfl (by rw [hml]; rfl) (rest := []) (W := 0) (lenOf pd_6 rfl) rfl (by show 2 * 0 + _ ≤ _; exact Nat.le_of_eq rfl) (hb hby at_82) (by decide) (by decide) (by decide) (by decide)
    obtain ⟨rfl, Nq265, hh287⟩ := hQ265
    have N265 := Fr.app N201 Nq265
    refine own_via (fun t k => st265 t (XS.lconst X265.here hx rfl (hb hby at_85) (XS.lload X265.here hx rfl (hb hby at_86) rfl (XS.lload X265.here hx rfl (hb hby at_88) rfl (XS.lloadN X265.here hx rfl (hb hby at_90) rfl k))))) ?_
    obtain ⟨_, T288, _, X288, hQ288, st288⟩ := own_cs X265 hx hZ hown (wd hw 55 rfl) (wd hw 56 rfl) (wd hw 58 rfl) (wd hw 57 rfl) (by decide) (rm17 l Z a0 hw [] ((1 : Int64) <<< (((i0 &&& (255 : Int64)).toInt32) &&& 0x3f).toInt64) i1 h201 n0 O286 ) hh287 (g := (mkF m 91 #[.val (.long i0), .second, .val (.long i1), .second, .val (.long i2), .second, .val (.long i3), .second, .val (.long i4), .second, .val (.long (i0 &&& (255 : Int64))), .second, rv b3, .val (.long (0 : Int64)), .second, .val (.long ((1 : Int64) <<< (((i0 &&& (255 : Int64)).toInt32) &&& 0x3f).toInt64)), .second] [(.long i1), (.long ((1 : Int64) <<< (((i0 &&& (255 : Int64)).toInt32) &&& 0x3f).toInt64)), (.long (0 : Int64)), (.long (0 : Int64)), (.long (i1 ||| ((1 : Int64) <<< (((i0 &&& (255 : Int64)).toInt32) &&& 0x3f).toInt64)))])) rfl (by rw [hml]; rfl) (rest := [(.long (i1 ||| ((1 : Int64) <<< (((i0 &&& (255 : Int64)).toInt32) &&& 0x3f).toInt64)))]) (W := 2) (lenOf pd_7 rfl) rfl (by show 2 * 0 + _ ≤ _; exact Nat.le_of_eq rfl) (hb hby at_91) (by decide) (by decide) (by decide) (by decide)
    obtain ⟨rfl, Nq288, hh303⟩ := hQ288
    have N288 := Fr.app N265 Nq288
    refine own_via (fun t k => st288 t (XS.lcmp X288.here hx rfl (hb hby at_94) rfl (XS.ifNo X288.here hx rfl (hb hby at_95) rfl ((if0 _ _).trans (teq ((lw_eq (i1 ||| ((1 : Int64) <<< (((i0 &&& (255 : Int64)).toInt32) &&& 0x3f).toInt64)) (i1 ||| ((1 : Int64) <<< (((i0 &&& (255 : Int64)).toInt32) &&& 0x3f).toInt64))).mpr (rfl : (i1 ||| ((1 : Int64) <<< (((i0 &&& (255 : Int64)).toInt32) &&& 0x3f).toInt64)) = (i1 ||| ((1 : Int64) <<< (((i0 &&& (255 : Int64)).toInt32) &&& 0x3f).toInt64))))).2) (XS.aload X288.here hx rfl (hb hby at_98) rfl rfl (XS.lconst X288.here hx rfl (hb hby at_100) k))))) ?_
    obtain ⟨_, T304, _, X304, hQ304, st304⟩ := own_cv X288 hx hZ hown (wd hw 50 rfl) (wd hw 51 rfl) (wd hw 53 rfl) (wd hw 52 rfl) (wd hw 54 rfl) (wd hw 3 rfl) (by decide) (rm18 l Z a0 hw [] b3 b61 k62 (i1 ||| ((1 : Int64) <<< (((i0 &&& (255 : Int64)).toInt32) &&& 0x3f).toInt64)) i2 i3 i4 h201 n0 O286 F284 E285 vx254) hh303 E285 (g := (mkF m 101 #[.val (.long i0), .second, .val (.long i1), .second, .val (.long i2), .second, .val (.long i3), .second, .val (.long i4), .second, .val (.long (i0 &&& (255 : Int64))), .second, rv b3, .val (.long (0 : Int64)), .second, .val (.long ((1 : Int64) <<< (((i0 &&& (255 : Int64)).toInt32) &&& 0x3f).toInt64)), .second] [(.long (1 : Int64)), (.ref b3)])) rfl (by rw [hml]; rfl) (rest := []) (W := 0) (lenOf pd_6 rfl) rfl (by show 2 * 0 + _ ≤ _; exact Nat.le_of_eq rfl) (hb hby at_101) (by decide) (by decide) (by decide) (by decide)
    obtain ⟨rfl, Nq304, hh323⟩ := hQ304
    have N304 := Fr.app N288 Nq304
    refine own_via (fun t k => st304 t (XS.lconst X304.here hx rfl (hb hby at_104) (XS.lload X304.here hx rfl (hb hby at_105) rfl (XS.lload X304.here hx rfl (hb hby at_107) rfl (XS.lload X304.here hx rfl (hb hby at_109) rfl k))))) ?_
    obtain ⟨_, T324, _, X324, hQ324, st324⟩ := own_cs X304 hx hZ hown (wd hw 55 rfl) (wd hw 56 rfl) (wd hw 58 rfl) (wd hw 57 rfl) (by decide) (rm19 l Z a0 hw [] ((1 : Int64) <<< (((i0 &&& (255 : Int64)).toInt32) &&& 0x3f).toInt64) i2 h201 n0 O286 ) hh323 (g := (mkF m 111 #[.val (.long i0), .second, .val (.long i1), .second, .val (.long i2), .second, .val (.long i3), .second, .val (.long i4), .second, .val (.long (i0 &&& (255 : Int64))), .second, rv b3, .val (.long (0 : Int64)), .second, .val (.long ((1 : Int64) <<< (((i0 &&& (255 : Int64)).toInt32) &&& 0x3f).toInt64)), .second] [(.long i2), (.long ((1 : Int64) <<< (((i0 &&& (255 : Int64)).toInt32) &&& 0x3f).toInt64)), (.long (0 : Int64)), (.long (1 : Int64)), (.long i2)])) rfl (by rw [hml]; rfl) (rest := [(.long i2)]) (W := 2) (lenOf pd_7 rfl) rfl (by show 2 * 0 + _ ≤ _; exact Nat.le_of_eq rfl) (hb hby at_111) (by decide) (by decide) (by decide) (by decide)
    obtain ⟨rfl, Nq324, hh339⟩ := hQ324
    have N324 := Fr.app N304 Nq324
    refine own_via (fun t k => st324 t (XS.lcmp X324.here hx rfl (hb hby at_114) rfl (XS.ifNo X324.here hx rfl (hb hby at_115) rfl ((if0 _ _).trans (teq ((lw_eq i2 i2).mpr (rfl : i2 = i2))).2) (XS.aload X324.here hx rfl (hb hby at_118) rfl rfl (X324.ldc2Long hx hown (mvT hZ (wd hw 41 rfl)) (g := (mkF m 120 #[.val (.long i0), .second, .val (.long i1), .second, .val (.long i2), .second, .val (.long i3), .second, .val (.long i4), .second, .val (.long (i0 &&& (255 : Int64))), .second, rv b3, .val (.long (0 : Int64)), .second, .val (.long ((1 : Int64) <<< (((i0 &&& (255 : Int64)).toInt32) &&& 0x3f).toInt64)), .second] [(.ref b3)])) rfl (hb hby at_120) t k))))) ?_
    obtain ⟨_, T340, _, X340, hQ340, st340⟩ := own_cv X324 hx hZ hown (wd hw 50 rfl) (wd hw 51 rfl) (wd hw 53 rfl) (wd hw 52 rfl) (wd hw 54 rfl) (wd hw 3 rfl) (by decide) (rm20 l Z a0 hw [] b3 b61 k62 (i1 ||| ((1 : Int64) <<< (((i0 &&& (255 : Int64)).toInt32) &&& 0x3f).toInt64)) i2 i3 i4 h201 n0 O286 F284 E285 vx254) hh339 E285 (g := (mkF m 123 #[.val (.long i0), .second, .val (.long i1), .second, .val (.long i2), .second, .val (.long i3), .second, .val (.long i4), .second, .val (.long (i0 &&& (255 : Int64))), .second, rv b3, .val (.long (0 : Int64)), .second, .val (.long ((1 : Int64) <<< (((i0 &&& (255 : Int64)).toInt32) &&& 0x3f).toInt64)), .second] [(.long (2 : Int64)), (.ref b3)])) rfl (by rw [hml]; rfl) (rest := []) (W := 0) (lenOf pd_6 rfl) rfl (by show 2 * 0 + _ ≤ _; exact Nat.le_of_eq rfl) (hb hby at_123) (by decide) (by decide) (by decide) (by decide)
    obtain ⟨rfl, Nq340, hh359⟩ := hQ340
    have N340 := Fr.app N324 Nq340
    refine own_via (fun t k => st340 t (X340.ldc2Long hx hown (mvT hZ (wd hw 41 rfl)) (g := (mkF m 126 #[.val (.long i0), .second, .val (.long i1), .second, .val (.long i2), .second, .val (.long i3), .second, .val (.long i4), .second, .val (.long (i0 &&& (255 : Int64))), .second, rv b3, .val (.long (0 : Int64)), .second, .val (.long ((1 : Int64) <<< (((i0 &&& (255 : Int64)).toInt32) &&& 0x3f).toInt64)), .second] [(.long i3)])) rfl (hb hby at_126) t (XS.lload X340.here hx rfl (hb hby at_129) rfl (XS.lload X340.here hx rfl (hb hby at_131) rfl (XS.lload X340.here hx rfl (hb hby at_133) rfl k))))) ?_
    obtain ⟨_, T360, _, X360, hQ360, st360⟩ := own_cs X340 hx hZ hown (wd hw 55 rfl) (wd hw 56 rfl) (wd hw 58 rfl) (wd hw 57 rfl) (by decide) (rm21 l Z a0 hw [] ((1 : Int64) <<< (((i0 &&& (255 : Int64)).toInt32) &&& 0x3f).toInt64) i3 h201 n0 O286 ) hh359 (g := (mkF m 135 #[.val (.long i0), .second, .val (.long i1), .second, .val (.long i2), .second, .val (.long i3), .second, .val (.long i4), .second, .val (.long (i0 &&& (255 : Int64))), .second, rv b3, .val (.long (0 : Int64)), .second, .val (.long ((1 : Int64) <<< (((i0 &&& (255 : Int64)).toInt32) &&& 0x3f).toInt64)), .second] [(.long i3), (.long ((1 : Int64) <<< (((i0 &&& (255 : Int64)).toInt32) &&& 0x3f).toInt64)), (.long (0 : Int64)), (.long (2 : Int64)), (.long i3)])) rfl (by rw [hml]; rfl) (rest := [(.long i3)]) (W := 2) (lenOf pd_7 rfl) rfl (by show 2 * 0 + _ ≤ _; exact Nat.le_of_eq rfl) (hb hby at_135) (by decide) (by decide) (by decide) (by decide)
    obtain ⟨rfl, Nq360, hh375⟩ := hQ360
    have N360 := Fr.app N340 Nq360
    refine own_via (fun t k => st360 t (XS.lcmp X360.here hx rfl (hb hby at_138) rfl (XS.ifNo X360.here hx rfl (hb hby at_139) rfl ((if0 _ _).trans (teq ((lw_eq i3 i3).mpr (rfl : i3 = i3))).2) (XS.aload X360.here hx rfl (hb hby at_142) rfl rfl (X360.ldc2Long hx hown (mvT hZ (wd hw 42 rfl)) (g := (mkF m 144 #[.val (.long i0), .second, .val (.long i1), .second, .val (.long i2), .second, .val (.long i3), .second, .val (.long i4), .second, .val (.long (i0 &&& (255 : Int64))), .second, rv b3, .val (.long (0 : Int64)), .second, .val (.long ((1 : Int64) <<< (((i0 &&& (255 : Int64)).toInt32) &&& 0x3f).toInt64)), .second] [(.ref b3)])) rfl (hb hby at_144) t k))))) ?_
    obtain ⟨_, T376, _, X376, hQ376, st376⟩ := own_cv X360 hx hZ hown (wd hw 50 rfl) (wd hw 51 rfl) (wd hw 53 rfl) (wd hw 52 rfl) (wd hw 54 rfl) (wd hw 3 rfl) (by decide) (rm22 l Z a0 hw [] b3 b61 k62 (i1 ||| ((1 : Int64) <<< (((i0 &&& (255 : Int64)).toInt32) &&& 0x3f).toInt64)) i2 i3 i4 h201 n0 O286 F284 E285 vx254) hh375 E285 (g := (mkF m 147 #[.val (.long i0), .second, .val (.long i1), .second, .val (.long i2), .second, .val (.long i3), .second, .val (.long i4), .second, .val (.long (i0 &&& (255 : Int64))), .second, rv b3, .val (.long (0 : Int64)), .second, .val (.long ((1 : Int64) <<< (((i0 &&& (255 : Int64)).toInt32) &&& 0x3f).toInt64)), .second] [(.long (3 : Int64)), (.ref b3)])) rfl (by rw [hml]; rfl) (rest := []) (W := 0) (lenOf pd_6 rfl) rfl (by show 2 * 0 + _ ≤ _; exact Nat.le_of_eq rfl) (hb hby at_147) (by decide) (by decide) (by decide) (by decide)
    obtain ⟨rfl, Nq376, hh395⟩ := hQ376
    have N376 := Fr.app N360 Nq376
    refine own_via (fun t k => st376 t (X376.ldc2Long hx hown (mvT hZ (wd hw 42 rfl)) (g := (mkF m 150 #[.val (.long i0), .second, .val (.long i1), .second, .val (.long i2), .second, .val (.long i3), .second, .val (.long i4), .second, .val (.long (i0 &&& (255 : Int64))), .second, rv b3, .val (.long (0 : Int64)), .second, .val (.long ((1 : Int64) <<< (((i0 &&& (255 : Int64)).toInt32) &&& 0x3f).toInt64)), .second] [(.long i4)])) rfl (hb hby at_150) t (XS.lload X376.here hx rfl (hb hby at_153) rfl (XS.lload X376.here hx rfl (hb hby at_155) rfl (XS.lload X376.here hx rfl (hb hby at_157) rfl k))))) ?_
    obtain ⟨_, T396, _, X396, hQ396, st396⟩ := own_cs X376 hx hZ hown (wd hw 55 rfl) (wd hw 56 rfl) (wd hw 58 rfl) (wd hw 57 rfl) (by decide) (rm23 l Z a0 hw [] ((1 : Int64) <<< (((i0 &&& (255 : Int64)).toInt32) &&& 0x3f).toInt64) i4 h201 n0 O286 ) hh395 (g := (mkF m 159 #[.val (.long i0), .second, .val (.long i1), .second, .val (.long i2), .second, .val (.long i3), .second, .val (.long i4), .second, .val (.long (i0 &&& (255 : Int64))), .second, rv b3, .val (.long (0 : Int64)), .second, .val (.long ((1 : Int64) <<< (((i0 &&& (255 : Int64)).toInt32) &&& 0x3f).toInt64)), .second] [(.long i4), (.long ((1 : Int64) <<< (((i0 &&& (255 : Int64)).toInt32) &&& 0x3f).toInt64)), (.long (0 : Int64)), (.long (3 : Int64)), (.long i4)])) rfl (by rw [hml]; rfl) (rest := [(.long i4)]) (W := 2) (lenOf pd_7 rfl) rfl (by show 2 * 0 + _ ≤ _; exact Nat.le_of_eq rfl) (hb hby at_159) (by decide) (by decide) (by decide) (by decide)
    obtain ⟨rfl, Nq396, hh411⟩ := hQ396
    have N396 := Fr.app N376 Nq396
    refine own_via (fun t k => st396 t (XS.lcmp X396.here hx rfl (hb hby at_162) rfl (XS.ifNo X396.here hx rfl (hb hby at_163) rfl ((if0 _ _).trans (teq ((lw_eq i4 i4).mpr (rfl : i4 = i4))).2) (XS.iconst X396.here hx rfl (hb hby at_166) (XS.goto X396.here hx rfl (pc0 := 167) (pc' := 171) rfl (hb hby at_167) (by decide) (by decide) k))))) ?_
    obtain ⟨fs, hr, hrun, hended, hW, hsame⟩ := X396.leave (v := some (.int (1 : Int32))) (fun h => by rw [Bd.returns] at h; cases h)
    refine own_end (t := T396.setFrames fs) ?_ ⟨_, hrun, hended, _, _, rfl, ?_, ⟨_, rfl⟩, hW, hsame.mono (by decide) (by decide)⟩
    · exact retN X396 hx (t := .boolean) Bd.returns (by simp) (hb hby at_171) hr
    · exact ⟨rfl, N396⟩
  · have N201 := Fr.app N164 Nq201
    refine own_via (fun t k => st201 t (XS.lload X201.here hx rfl (hb hby at_61) rfl (XS.bipush X201.here hx rfl (hb hby at_63) (XS.lushr X201.here hx rfl (hb hby at_65) rfl k)))) ?_
    show own_Goes p e below (T201.setTop (mkF m 66 #[.val (.long i0), .second, .val (.long i1), .second, .val (.long i2), .second, .val (.long i3), .second, .val (.long i4), .second, .val (.long (i0 &&& (255 : Int64))), .second, rv b3, .unset, .unset, .unset, .unset] [(.long (((i0 &&& (255 : Int64)).toUInt64 >>> ((6 : Int32) &&& 0x3f).toInt64.toUInt64).toInt64))])) _
    have qs := own_idx (i0 &&& (255 : Int64)) 1 (own_bitlo i0) hq255
    have qs412 := qs
    rw [qs]
    show own_Goes p e below (T201.setTop (mkF m 66 #[.val (.long i0), .second, .val (.long i1), .second, .val (.long i2), .second, .val (.long i3), .second, .val (.long i4), .second, .val (.long (i0 &&& (255 : Int64))), .second, rv b3, .unset, .unset, .unset, .unset] [(.long (1 : Int64))])) _
    refine own_via (fun t k => XS.lstore X201.here hx rfl (hb hby at_66) rfl (l' := #[.val (.long i0), .second, .val (.long i1), .second, .val (.long i2), .second, .val (.long i3), .second, .val (.long i4), .second, .val (.long (i0 &&& (255 : Int64))), .second, rv b3, .val (.long (1 : Int64)), .second, .unset, .unset]) rfl (XS.lconst X201.here hx rfl (hb hby at_68) (XS.lload X201.here hx rfl (hb hby at_69) rfl (X201.ldc2Long hx hown (mvT hZ (wd hw 49 rfl)) (g := (mkF m 71 #[.val (.long i0), .second, .val (.long i1), .second, .val (.long i2), .second, .val (.long i3), .second, .val (.long i4), .second, .val (.long (i0 &&& (255 : Int64))), .second, rv b3, .val (.long (1 : Int64)), .second, .unset, .unset] [(.long (i0 &&& (255 : Int64))), (.long (1 : Int64))])) rfl (hb hby at_71) t (XS.land X201.here hx rfl (hb hby at_74) rfl (XS.l2i X201.here hx rfl (hb hby at_75) rfl (XS.lshl X201.here hx rfl (hb hby at_76) rfl k))))))) ?_
    show own_Goes p e below (T201.setTop (mkF m 77 #[.val (.long i0), .second, .val (.long i1), .second, .val (.long i2), .second, .val (.long i3), .second, .val (.long i4), .second, .val (.long (i0 &&& (255 : Int64))), .second, rv b3, .val (.long (1 : Int64)), .second, .unset, .unset] [(.long ((1 : Int64) <<< ((((i0 &&& (255 : Int64)) &&& (63 : Int64)).toInt32) &&& 0x3f).toInt64))])) _
    rw [own_m63 (i0 &&& (255 : Int64))]
    show own_Goes p e below (T201.setTop (mkF m 77 #[.val (.long i0), .second, .val (.long i1), .second, .val (.long i2), .second, .val (.long i3), .second, .val (.long i4), .second, .val (.long (i0 &&& (255 : Int64))), .second, rv b3, .val (.long (1 : Int64)), .second, .unset, .unset] [(.long ((1 : Int64) <<< (((i0 &&& (255 : Int64)).toInt32) &&& 0x3f).toInt64))])) _
    refine own_via (fun t k => XS.lstore X201.here hx rfl (hb hby at_77) rfl (l' := #[.val (.long i0), .second, .val (.long i1), .second, .val (.long i2), .second, .val (.long i3), .second, .val (.long i4), .second, .val (.long (i0 &&& (255 : Int64))), .second, rv b3, .val (.long (1 : Int64)), .second, .val (.long ((1 : Int64) <<< (((i0 &&& (255 : Int64)).toInt32) &&& 0x3f).toInt64)), .second]) rfl (XS.aload X201.here hx rfl (hb hby at_79) rfl rfl (XS.lconst X201.here hx rfl (hb hby at_81) k))) ?_
    have F414 : Fld Z h201 b3 zs1 "firstBlock" "[J" (.ref b61) := (F249.keep K201 (ninS N69 nin0))
    have E415 : Exa Z h201 b3 zs1 := (E250.keep K201)
    have O416 : Old Z n0 h201 := (O251.keep K201 (allS g70 all0))
    obtain ⟨_, T413, _, X413, hQ413, st413⟩ := own_cv X201 hx hZ hown (wd hw 50 rfl) (wd hw 51 rfl) (wd hw 53 rfl) (wd hw 52 rfl) (wd hw 54 rfl) (wd hw 3 rfl) (by decide) (rm16 l Z a0 hw [] b3 b61 k62 i1 (i2 ||| ((1 : Int64) <<< (((i0 &&& (255 : Int64)).toInt32) &&& 0x3f).toInt64)) i3 i4 h201 n0 O416 F414 E415 vx257) e201 E415 (g := (mkF m 82 #[.val (.long i0), .second, .val (.long i1), .second, .val (.long i2), .second, .val (.long i3), .second, .val (.long i4), .second, .val (.long (i0 &&& (255 : Int64))), .second, rv b3, .val (.long (1 : Int64)), .second, .val (.long ((1 : Int64) <<< (((i0 &&& (255 : Int64)).toInt32) &&& 0x3f).toInt64)), .second] [(.long (0 : Int64)), (.ref b3)])) rfl (by rw [hml]; rfl) (rest := []) (W := 0) (lenOf pd_6 rfl) rfl (by show 2 * 0 + _ ≤ _; exact Nat.le_of_eq rfl) (hb hby at_82) (by decide) (by decide) (by decide) (by decide)
    obtain ⟨rfl, Nq413, hh417⟩ := hQ413
    have N413 := Fr.app N201 Nq413
    refine own_via (fun t k => st413 t (XS.lconst X413.here hx rfl (hb hby at_85) (XS.lload X413.here hx rfl (hb hby at_86) rfl (XS.lload X413.here hx rfl (hb hby at_88) rfl (XS.lloadN X413.here hx rfl (hb hby at_90) rfl k))))) ?_
    obtain ⟨_, T418, _, X418, hQ418, st418⟩ := own_cs X413 hx hZ hown (wd hw 55 rfl) (wd hw 56 rfl) (wd hw 58 rfl) (wd hw 57 rfl) (by decide) (rm24 l Z a0 hw [] ((1 : Int64) <<< (((i0 &&& (255 : Int64)).toInt32) &&& 0x3f).toInt64) i1 h201 n0 O416 ) hh417 (g := (mkF m 91 #[.val (.long i0), .second, .val (.long i1), .second, .val (.long i2), .second, .val (.long i3), .second, .val (.long i4), .second, .val (.long (i0 &&& (255 : Int64))), .second, rv b3, .val (.long (1 : Int64)), .second, .val (.long ((1 : Int64) <<< (((i0 &&& (255 : Int64)).toInt32) &&& 0x3f).toInt64)), .second] [(.long i1), (.long ((1 : Int64) <<< (((i0 &&& (255 : Int64)).toInt32) &&& 0x3f).toInt64)), (.long (1 : Int64)), (.long (0 : Int64)), (.long i1)])) rfl (by rw [hml]; rfl) (rest := [(.long i1)]) (W := 2) (lenOf pd_7 rfl) rfl (by show 2 * 0 + _ ≤ _; exact Nat.le_of_eq rfl) (hb hby at_91) (by decide) (by decide) (by decide) (by decide)
    obtain ⟨rfl, Nq418, hh433⟩ := hQ418
    have N418 := Fr.app N413 Nq418
    refine own_via (fun t k => st418 t (XS.lcmp X418.here hx rfl (hb hby at_94) rfl (XS.ifNo X418.here hx rfl (hb hby at_95) rfl ((if0 _ _).trans (teq ((lw_eq i1 i1).mpr (rfl : i1 = i1))).2) (XS.aload X418.here hx rfl (hb hby at_98) rfl rfl (XS.lconst X418.here hx rfl (hb hby at_100) k))))) ?_
    obtain ⟨_, T434, _, X434, hQ434, st434⟩ := own_cv X418 hx hZ hown (wd hw 50 rfl) (wd hw 51 rfl) (wd hw 53 rfl) (wd hw 52 rfl) (wd hw 54 rfl) (wd hw 3 rfl) (by decide) (rm18 l Z a0 hw [] b3 b61 k62 i1 (i2 ||| ((1 : Int64) <<< (((i0 &&& (255 : Int64)).toInt32) &&& 0x3f).toInt64)) i3 i4 h201 n0 O416 F414 E415 vx257) hh433 E415 (g := (mkF m 101 #[.val (.long i0), .second, .val (.long i1), .second, .val (.long i2), .second, .val (.long i3), .second, .val (.long i4), .second, .val (.long (i0 &&& (255 : Int64))), .second, rv b3, .val (.long (1 : Int64)), .second, .val (.long ((1 : Int64) <<< (((i0 &&& (255 : Int64)).toInt32) &&& 0x3f).toInt64)), .second] [(.long (1 : Int64)), (.ref b3)])) rfl (by rw [hml]; rfl) (rest := []) (W := 0) (lenOf pd_6 rfl) rfl (by show 2 * 0 + _ ≤ _; exact Nat.le_of_eq rfl) (hb hby at_101) (by decide) (by decide) (by decide) (by decide)
    obtain ⟨rfl, Nq434, hh435⟩ := hQ434
    have N434 := Fr.app N418 Nq434
    refine own_via (fun t k => st434 t (XS.lconst X434.here hx rfl (hb hby at_104) (XS.lload X434.here hx rfl (hb hby at_105) rfl (XS.lload X434.here hx rfl (hb hby at_107) rfl (XS.lload X434.here hx rfl (hb hby at_109) rfl k))))) ?_
    obtain ⟨_, T436, _, X436, hQ436, st436⟩ := own_cs X434 hx hZ hown (wd hw 55 rfl) (wd hw 56 rfl) (wd hw 58 rfl) (wd hw 57 rfl) (by decide) (rm25 l Z a0 hw [] ((1 : Int64) <<< (((i0 &&& (255 : Int64)).toInt32) &&& 0x3f).toInt64) i2 h201 n0 O416 ) hh435 (g := (mkF m 111 #[.val (.long i0), .second, .val (.long i1), .second, .val (.long i2), .second, .val (.long i3), .second, .val (.long i4), .second, .val (.long (i0 &&& (255 : Int64))), .second, rv b3, .val (.long (1 : Int64)), .second, .val (.long ((1 : Int64) <<< (((i0 &&& (255 : Int64)).toInt32) &&& 0x3f).toInt64)), .second] [(.long i2), (.long ((1 : Int64) <<< (((i0 &&& (255 : Int64)).toInt32) &&& 0x3f).toInt64)), (.long (1 : Int64)), (.long (1 : Int64)), (.long (i2 ||| ((1 : Int64) <<< (((i0 &&& (255 : Int64)).toInt32) &&& 0x3f).toInt64)))])) rfl (by rw [hml]; rfl) (rest := [(.long (i2 ||| ((1 : Int64) <<< (((i0 &&& (255 : Int64)).toInt32) &&& 0x3f).toInt64)))]) (W := 2) (lenOf pd_7 rfl) rfl (by show 2 * 0 + _ ≤ _; exact Nat.le_of_eq rfl) (hb hby at_111) (by decide) (by decide) (by decide) (by decide)
    obtain ⟨rfl, Nq436, hh451⟩ := hQ436
    have N436 := Fr.app N434 Nq436
    refine own_via (fun t k => st436 t (XS.lcmp X436.here hx rfl (hb hby at_114) rfl (XS.ifNo X436.here hx rfl (hb hby at_115) rfl ((if0 _ _).trans (teq ((lw_eq (i2 ||| ((1 : Int64) <<< (((i0 &&& (255 : Int64)).toInt32) &&& 0x3f).toInt64)) (i2 ||| ((1 : Int64) <<< (((i0 &&& (255 : Int64)).toInt32) &&& 0x3f).toInt64))).mpr (rfl : (i2 ||| ((1 : Int64) <<< (((i0 &&& (255 : Int64)).toInt32) &&& 0x3f).toInt64)) = (i2 ||| ((1 : Int64) <<< (((i0 &&& (255 : Int64)).toInt32) &&& 0x3f).toInt64))))).2) (XS.aload X436.here hx rfl (hb hby at_118) rfl rfl (X436.ldc2Long hx hown (mvT hZ (wd hw 41 rfl)) (g := (mkF m 120 #[.val (.long i0), .second, .val (.long i1), .second, .val (.long i2), .second, .val (.long i3), .second, .val (.long i4), .second, .val (.long (i0 &&& (255 : Int64))), .second, rv b3, .val (.long (1 : Int64)), .second, .val (.long ((1 : Int64) <<< (((i0 &&& (255 : Int64)).toInt32) &&& 0x3f).toInt64)), .second] [(.ref b3)])) rfl (hb hby at_120) t k))))) ?_
    obtain ⟨_, T452, _, X452, hQ452, st452⟩ := own_cv X436 hx hZ hown (wd hw 50 rfl) (wd hw 51 rfl) (wd hw 53 rfl) (wd hw 52 rfl) (wd hw 54 rfl) (wd hw 3 rfl) (by decide) (rm20 l Z a0 hw [] b3 b61 k62 i1 (i2 ||| ((1 : Int64) <<< (((i0 &&& (255 : Int64)).toInt32) &&& 0x3f).toInt64)) i3 i4 h201 n0 O416 F414 E415 vx257) hh451 E415 (g := (mkF m 123 #[.val (.long i0), .second, .val (.long i1), .second, .val (.long i2), .second, .val (.long i3), .second, .val (.long i4), .second, .val (.long (i0 &&& (255 : Int64))), .second, rv b3, .val (.long (1 : Int64)), .second, .val (.long ((1 : Int64) <<< (((i0 &&& (255 : Int64)).toInt32) &&& 0x3f).toInt64)), .second] [(.long (2 : Int64)), (.ref b3)])) rfl (by rw [hml]; rfl) (rest := []) (W := 0) (lenOf pd_6 rfl) rfl (by show 2 * 0 + _ ≤ _; exact Nat.le_of_eq rfl) (hb hby at_123) (by decide) (by decide) (by decide) (by decide)
    obtain ⟨rfl, Nq452, hh453⟩ := hQ452
    have N452 := Fr.app N436 Nq452
    refine own_via (fun t k => st452 t (X452.ldc2Long hx hown (mvT hZ (wd hw 41 rfl)) (g := (mkF m 126 #[.val (.long i0), .second, .val (.long i1), .second, .val (.long i2), .second, .val (.long i3), .second, .val (.long i4), .second, .val (.long (i0 &&& (255 : Int64))), .second, rv b3, .val (.long (1 : Int64)), .second, .val (.long ((1 : Int64) <<< (((i0 &&& (255 : Int64)).toInt32) &&& 0x3f).toInt64)), .second] [(.long i3)])) rfl (hb hby at_126) t (XS.lload X452.here hx rfl (hb hby at_129) rfl (XS.lload X452.here hx rfl (hb hby at_131) rfl (XS.lload X452.here hx rfl (hb hby at_133) rfl k))))) ?_
    obtain ⟨_, T454, _, X454, hQ454, st454⟩ := own_cs X452 hx hZ hown (wd hw 55 rfl) (wd hw 56 rfl) (wd hw 58 rfl) (wd hw 57 rfl) (by decide) (rm26 l Z a0 hw [] ((1 : Int64) <<< (((i0 &&& (255 : Int64)).toInt32) &&& 0x3f).toInt64) i3 h201 n0 O416 ) hh453 (g := (mkF m 135 #[.val (.long i0), .second, .val (.long i1), .second, .val (.long i2), .second, .val (.long i3), .second, .val (.long i4), .second, .val (.long (i0 &&& (255 : Int64))), .second, rv b3, .val (.long (1 : Int64)), .second, .val (.long ((1 : Int64) <<< (((i0 &&& (255 : Int64)).toInt32) &&& 0x3f).toInt64)), .second] [(.long i3), (.long ((1 : Int64) <<< (((i0 &&& (255 : Int64)).toInt32) &&& 0x3f).toInt64)), (.long (1 : Int64)), (.long (2 : Int64)), (.long i3)])) rfl (by rw [hml]; rfl) (rest := [(.long i3)]) (W := 2) (lenOf pd_7 rfl) rfl (by show 2 * 0 + _ ≤ _; exact Nat.le_of_eq rfl) (hb hby at_135) (by decide) (by decide) (by decide) (by decide)
    obtain ⟨rfl, Nq454, hh469⟩ := hQ454
    have N454 := Fr.app N452 Nq454
    refine own_via (fun t k => st454 t (XS.lcmp X454.here hx rfl (hb hby at_138) rfl (XS.ifNo X454.here hx rfl (hb hby at_139) rfl ((if0 _ _).trans (teq ((lw_eq i3 i3).mpr (rfl : i3 = i3))).2) (XS.aload X454.here hx rfl (hb hby at_142) rfl rfl (X454.ldc2Long hx hown (mvT hZ (wd hw 42 rfl)) (g := (mkF m 144 #[.val (.long i0), .second, .val (.long i1), .second, .val (.long i2), .second, .val (.long i3), .second, .val (.long i4), .second, .val (.long (i0 &&& (255 : Int64))), .second, rv b3, .val (.long (1 : Int64)), .second, .val (.long ((1 : Int64) <<< (((i0 &&& (255 : Int64)).toInt32) &&& 0x3f).toInt64)), .second] [(.ref b3)])) rfl (hb hby at_144) t k))))) ?_
    obtain ⟨_, T470, _, X470, hQ470, st470⟩ := own_cv X454 hx hZ hown (wd hw 50 rfl) (wd hw 51 rfl) (wd hw 53 rfl) (wd hw 52 rfl) (wd hw 54 rfl) (wd hw 3 rfl) (by decide) (rm22 l Z a0 hw [] b3 b61 k62 i1 (i2 ||| ((1 : Int64) <<< (((i0 &&& (255 : Int64)).toInt32) &&& 0x3f).toInt64)) i3 i4 h201 n0 O416 F414 E415 vx257) hh469 E415 (g := (mkF m 147 #[.val (.long i0), .second, .val (.long i1), .second, .val (.long i2), .second, .val (.long i3), .second, .val (.long i4), .second, .val (.long (i0 &&& (255 : Int64))), .second, rv b3, .val (.long (1 : Int64)), .second, .val (.long ((1 : Int64) <<< (((i0 &&& (255 : Int64)).toInt32) &&& 0x3f).toInt64)), .second] [(.long (3 : Int64)), (.ref b3)])) rfl (by rw [hml]; rfl) (rest := []) (W := 0) (lenOf pd_6 rfl) rfl (by show 2 * 0 + _ ≤ _; exact Nat.le_of_eq rfl) (hb hby at_147) (by decide) (by decide) (by decide) (by decide)
    obtain ⟨rfl, Nq470, hh471⟩ := hQ470
    have N470 := Fr.app N454 Nq470
    refine own_via (fun t k => st470 t (X470.ldc2Long hx hown (mvT hZ (wd hw 42 rfl)) (g := (mkF m 150 #[.val (.long i0), .second, .val (.long i1), .second, .val (.long i2), .second, .val (.long i3), .second, .val (.long i4), .second, .val (.long (i0 &&& (255 : Int64))), .second, rv b3, .val (.long (1 : Int64)), .second, .val (.long ((1 : Int64) <<< (((i0 &&& (255 : Int64)).toInt32) &&& 0x3f).toInt64)), .second] [(.long i4)])) rfl (hb hby at_150) t (XS.lload X470.here hx rfl (hb hby at_153) rfl (XS.lload X470.here hx rfl (hb hby at_155) rfl (XS.lload X470.here hx rfl (hb hby at_157) rfl k))))) ?_
    obtain ⟨_, T472, _, X472, hQ472, st472⟩ := own_cs X470 hx hZ hown (wd hw 55 rfl) (wd hw 56 rfl) (wd hw 58 rfl) (wd hw 57 rfl) (by decide) (rm27 l Z a0 hw [] ((1 : Int64) <<< (((i0 &&& (255 : Int64)).toInt32) &&& 0x3f).toInt64) i4 h201 n0 O416 ) hh471 (g := (mkF m 159 #[.val (.long i0), .second, .val (.long i1), .second, .val (.long i2), .second, .val (.long i3), .second, .val (.long i4), .second, .val (.long (i0 &&& (255 : Int64))), .second, rv b3, .val (.long (1 : Int64)), .second, .val (.long ((1 : Int64) <<< (((i0 &&& (255 : Int64)).toInt32) &&& 0x3f).toInt64)), .second] [(.long i4), (.long ((1 : Int64) <<< (((i0 &&& (255 : Int64)).toInt32) &&& 0x3f).toInt64)), (.long (1 : Int64)), (.long (3 : Int64)), (.long i4)])) rfl (by rw [hml]; rfl) (rest := [(.long i4)]) (W := 2) (lenOf pd_7 rfl) rfl (by show 2 * 0 + _ ≤ _; exact Nat.le_of_eq rfl) (hb hby at_159) (by decide) (by decide) (by decide) (by decide)
    obtain ⟨rfl, Nq472, hh487⟩ := hQ472
    have N472 := Fr.app N470 Nq472
    refine own_via (fun t k => st472 t (XS.lcmp X472.here hx rfl (hb hby at_162) rfl (XS.ifNo X472.here hx rfl (hb hby at_163) rfl ((if0 _ _).trans (teq ((lw_eq i4 i4).mpr (rfl : i4 = i4))).2) (XS.iconst X472.here hx rfl (hb hby at_166) (XS.goto X472.here hx rfl (pc0 := 167) (pc' := 171) rfl (hb hby at_167) (by decide) (by decide) k))))) ?_
    obtain ⟨fs, hr, hrun, hended, hW, hsame⟩ := X472.leave (v := some (.int (1 : Int32))) (fun h => by rw [Bd.returns] at h; cases h)
    refine own_end (t := T472.setFrames fs) ?_ ⟨_, hrun, hended, _, _, rfl, ?_, ⟨_, rfl⟩, hW, hsame.mono (by decide) (by decide)⟩
    · exact retN X472 hx (t := .boolean) Bd.returns (by simp) (hb hby at_171) hr
    · exact ⟨rfl, N472⟩
  · have N201 := Fr.app N164 Nq201
    refine own_via (fun t k => st201 t (XS.lload X201.here hx rfl (hb hby at_61) rfl (XS.bipush X201.here hx rfl (hb hby at_63) (XS.lushr X201.here hx rfl (hb hby at_65) rfl k)))) ?_
    show own_Goes p e below (T201.setTop (mkF m 66 #[.val (.long i0), .second, .val (.long i1), .second, .val (.long i2), .second, .val (.long i3), .second, .val (.long i4), .second, .val (.long (i0 &&& (255 : Int64))), .second, rv b3, .unset, .unset, .unset, .unset] [(.long (((i0 &&& (255 : Int64)).toUInt64 >>> ((6 : Int32) &&& 0x3f).toInt64.toUInt64).toInt64))])) _
    have qs := own_idx (i0 &&& (255 : Int64)) 2 (own_bitlo i0) hq258
    have qs488 := qs
    rw [qs]
    show own_Goes p e below (T201.setTop (mkF m 66 #[.val (.long i0), .second, .val (.long i1), .second, .val (.long i2), .second, .val (.long i3), .second, .val (.long i4), .second, .val (.long (i0 &&& (255 : Int64))), .second, rv b3, .unset, .unset, .unset, .unset] [(.long (2 : Int64))])) _
    refine own_via (fun t k => XS.lstore X201.here hx rfl (hb hby at_66) rfl (l' := #[.val (.long i0), .second, .val (.long i1), .second, .val (.long i2), .second, .val (.long i3), .second, .val (.long i4), .second, .val (.long (i0 &&& (255 : Int64))), .second, rv b3, .val (.long (2 : Int64)), .second, .unset, .unset]) rfl (XS.lconst X201.here hx rfl (hb hby at_68) (XS.lload X201.here hx rfl (hb hby at_69) rfl (X201.ldc2Long hx hown (mvT hZ (wd hw 49 rfl)) (g := (mkF m 71 #[.val (.long i0), .second, .val (.long i1), .second, .val (.long i2), .second, .val (.long i3), .second, .val (.long i4), .second, .val (.long (i0 &&& (255 : Int64))), .second, rv b3, .val (.long (2 : Int64)), .second, .unset, .unset] [(.long (i0 &&& (255 : Int64))), (.long (1 : Int64))])) rfl (hb hby at_71) t (XS.land X201.here hx rfl (hb hby at_74) rfl (XS.l2i X201.here hx rfl (hb hby at_75) rfl (XS.lshl X201.here hx rfl (hb hby at_76) rfl k))))))) ?_
    show own_Goes p e below (T201.setTop (mkF m 77 #[.val (.long i0), .second, .val (.long i1), .second, .val (.long i2), .second, .val (.long i3), .second, .val (.long i4), .second, .val (.long (i0 &&& (255 : Int64))), .second, rv b3, .val (.long (2 : Int64)), .second, .unset, .unset] [(.long ((1 : Int64) <<< ((((i0 &&& (255 : Int64)) &&& (63 : Int64)).toInt32) &&& 0x3f).toInt64))])) _
    rw [own_m63 (i0 &&& (255 : Int64))]
    show own_Goes p e below (T201.setTop (mkF m 77 #[.val (.long i0), .second, .val (.long i1), .second, .val (.long i2), .second, .val (.long i3), .second, .val (.long i4), .second, .val (.long (i0 &&& (255 : Int64))), .second, rv b3, .val (.long (2 : Int64)), .second, .unset, .unset] [(.long ((1 : Int64) <<< (((i0 &&& (255 : Int64)).toInt32) &&& 0x3f).toInt64))])) _
    refine own_via (fun t k => XS.lstore X201.here hx rfl (hb hby at_77) rfl (l' := #[.val (.long i0), .second, .val (.long i1), .second, .val (.long i2), .second, .val (.long i3), .second, .val (.long i4), .second, .val (.long (i0 &&& (255 : Int64))), .second, rv b3, .val (.long (2 : Int64)), .second, .val (.long ((1 : Int64) <<< (((i0 &&& (255 : Int64)).toInt32) &&& 0x3f).toInt64)), .second]) rfl (XS.aload X201.here hx rfl (hb hby at_79) rfl rfl (XS.lconst X201.here hx rfl (hb hby at_81) k))) ?_
    have F490 : Fld Z h201 b3 zs1 "firstBlock" "[J" (.ref b61) := (F249.keep K201 (ninS N69 nin0))
    have E491 : Exa Z h201 b3 zs1 := (E250.keep K201)
    have O492 : Old Z n0 h201 := (O251.keep K201 (allS g70 all0))
    obtain ⟨_, T489, _, X489, hQ489, st489⟩ := own_cv X201 hx hZ hown (wd hw 50 rfl) (wd hw 51 rfl) (wd hw 53 rfl) (wd hw 52 rfl) (wd hw 54 rfl) (wd hw 3 rfl) (by decide) (rm16 l Z a0 hw [] b3 b61 k62 i1 i2 (i3 ||| ((1 : Int64) <<< (((i0 &&& (255 : Int64)).toInt32) &&& 0x3f).toInt64)) i4 h201 n0 O492 F490 E491 vx260) e201 E491 (g := (mkF m 82 #[.val (.long i0), .second, .val (.long i1), .second, .val (.long i2), .second, .val (.long i3), .second, .val (.long i4), .second, .val (.long (i0 &&& (255 : Int64))), .second, rv b3, .val (.long (2 : Int64)), .second, .val (.long ((1 : Int64) <<< (((i0 &&& (255 : Int64)).toInt32) &&& 0x3f).toInt64)), .second] [(.long (0 : Int64)), (.ref b3)])) rfl (by rw [hml]; rfl) (rest := []) (W := 0) (lenOf pd_6 rfl) rfl (by show 2 * 0 + _ ≤ _; exact Nat.le_of_eq rfl) (hb hby at_82) (by decide) (by decide) (by decide) (by decide)
    obtain ⟨rfl, Nq489, hh493⟩ := hQ489
    have N489 := Fr.app N201 Nq489
    refine own_via (fun t k => st489 t (XS.lconst X489.here hx rfl (hb hby at_85) (XS.lload X489.here hx rfl (hb hby at_86) rfl (XS.lload X489.here hx rfl (hb hby at_88) rfl (XS.lloadN X489.here hx rfl (hb hby at_90) rfl k))))) ?_
    obtain ⟨_, T494, _, X494, hQ494, st494⟩ := own_cs X489 hx hZ hown (wd hw 55 rfl) (wd hw 56 rfl) (wd hw 58 rfl) (wd hw 57 rfl) (by decide) (rm28 l Z a0 hw [] ((1 : Int64) <<< (((i0 &&& (255 : Int64)).toInt32) &&& 0x3f).toInt64) i1 h201 n0 O492 ) hh493 (g := (mkF m 91 #[.val (.long i0), .second, .val (.long i1), .second, .val (.long i2), .second, .val (.long i3), .second, .val (.long i4), .second, .val (.long (i0 &&& (255 : Int64))), .second, rv b3, .val (.long (2 : Int64)), .second, .val (.long ((1 : Int64) <<< (((i0 &&& (255 : Int64)).toInt32) &&& 0x3f).toInt64)), .second] [(.long i1), (.long ((1 : Int64) <<< (((i0 &&& (255 : Int64)).toInt32) &&& 0x3f).toInt64)), (.long (2 : Int64)), (.long (0 : Int64)), (.long i1)])) rfl (by rw [hml]; rfl) (rest := [(.long i1)]) (W := 2) (lenOf pd_7 rfl) rfl (by show 2 * 0 + _ ≤ _; exact Nat.le_of_eq rfl) (hb hby at_91) (by decide) (by decide) (by decide) (by decide)
    obtain ⟨rfl, Nq494, hh509⟩ := hQ494
    have N494 := Fr.app N489 Nq494
    refine own_via (fun t k => st494 t (XS.lcmp X494.here hx rfl (hb hby at_94) rfl (XS.ifNo X494.here hx rfl (hb hby at_95) rfl ((if0 _ _).trans (teq ((lw_eq i1 i1).mpr (rfl : i1 = i1))).2) (XS.aload X494.here hx rfl (hb hby at_98) rfl rfl (XS.lconst X494.here hx rfl (hb hby at_100) k))))) ?_
    obtain ⟨_, T510, _, X510, hQ510, st510⟩ := own_cv X494 hx hZ hown (wd hw 50 rfl) (wd hw 51 rfl) (wd hw 53 rfl) (wd hw 52 rfl) (wd hw 54 rfl) (wd hw 3 rfl) (by decide) (rm18 l Z a0 hw [] b3 b61 k62 i1 i2 (i3 ||| ((1 : Int64) <<< (((i0 &&& (255 : Int64)).toInt32) &&& 0x3f).toInt64)) i4 h201 n0 O492 F490 E491 vx260) hh509 E491 (g := (mkF m 101 #[.val (.long i0), .second, .val (.long i1), .second, .val (.long i2), .second, .val (.long i3), .second, .val (.long i4), .second, .val (.long (i0 &&& (255 : Int64))), .second, rv b3, .val (.long (2 : Int64)), .second, .val (.long ((1 : Int64) <<< (((i0 &&& (255 : Int64)).toInt32) &&& 0x3f).toInt64)), .second] [(.long (1 : Int64)), (.ref b3)])) rfl (by rw [hml]; rfl) (rest := []) (W := 0) (lenOf pd_6 rfl) rfl (by show 2 * 0 + _ ≤ _; exact Nat.le_of_eq rfl) (hb hby at_101) (by decide) (by decide) (by decide) (by decide)
    obtain ⟨rfl, Nq510, hh511⟩ := hQ510
    have N510 := Fr.app N494 Nq510
    refine own_via (fun t k => st510 t (XS.lconst X510.here hx rfl (hb hby at_104) (XS.lload X510.here hx rfl (hb hby at_105) rfl (XS.lload X510.here hx rfl (hb hby at_107) rfl (XS.lload X510.here hx rfl (hb hby at_109) rfl k))))) ?_
    obtain ⟨_, T512, _, X512, hQ512, st512⟩ := own_cs X510 hx hZ hown (wd hw 55 rfl) (wd hw 56 rfl) (wd hw 58 rfl) (wd hw 57 rfl) (by decide) (rm29 l Z a0 hw [] ((1 : Int64) <<< (((i0 &&& (255 : Int64)).toInt32) &&& 0x3f).toInt64) i2 h201 n0 O492 ) hh511 (g := (mkF m 111 #[.val (.long i0), .second, .val (.long i1), .second, .val (.long i2), .second, .val (.long i3), .second, .val (.long i4), .second, .val (.long (i0 &&& (255 : Int64))), .second, rv b3, .val (.long (2 : Int64)), .second, .val (.long ((1 : Int64) <<< (((i0 &&& (255 : Int64)).toInt32) &&& 0x3f).toInt64)), .second] [(.long i2), (.long ((1 : Int64) <<< (((i0 &&& (255 : Int64)).toInt32) &&& 0x3f).toInt64)), (.long (2 : Int64)), (.long (1 : Int64)), (.long i2)])) rfl (by rw [hml]; rfl) (rest := [(.long i2)]) (W := 2) (lenOf pd_7 rfl) rfl (by show 2 * 0 + _ ≤ _; exact Nat.le_of_eq rfl) (hb hby at_111) (by decide) (by decide) (by decide) (by decide)
    obtain ⟨rfl, Nq512, hh527⟩ := hQ512
    have N512 := Fr.app N510 Nq512
    refine own_via (fun t k => st512 t (XS.lcmp X512.here hx rfl (hb hby at_114) rfl (XS.ifNo X512.here hx rfl (hb hby at_115) rfl ((if0 _ _).trans (teq ((lw_eq i2 i2).mpr (rfl : i2 = i2))).2) (XS.aload X512.here hx rfl (hb hby at_118) rfl rfl (X512.ldc2Long hx hown (mvT hZ (wd hw 41 rfl)) (g := (mkF m 120 #[.val (.long i0), .second, .val (.long i1), .second, .val (.long i2), .second, .val (.long i3), .second, .val (.long i4), .second, .val (.long (i0 &&& (255 : Int64))), .second, rv b3, .val (.long (2 : Int64)), .second, .val (.long ((1 : Int64) <<< (((i0 &&& (255 : Int64)).toInt32) &&& 0x3f).toInt64)), .second] [(.ref b3)])) rfl (hb hby at_120) t k))))) ?_
    obtain ⟨_, T528, _, X528, hQ528, st528⟩ := own_cv X512 hx hZ hown (wd hw 50 rfl) (wd hw 51 rfl) (wd hw 53 rfl) (wd hw 52 rfl) (wd hw 54 rfl) (wd hw 3 rfl) (by decide) (rm20 l Z a0 hw [] b3 b61 k62 i1 i2 (i3 ||| ((1 : Int64) <<< (((i0 &&& (255 : Int64)).toInt32) &&& 0x3f).toInt64)) i4 h201 n0 O492 F490 E491 vx260) hh527 E491 (g := (mkF m 123 #[.val (.long i0), .second, .val (.long i1), .second, .val (.long i2), .second, .val (.long i3), .second, .val (.long i4), .second, .val (.long (i0 &&& (255 : Int64))), .second, rv b3, .val (.long (2 : Int64)), .second, .val (.long ((1 : Int64) <<< (((i0 &&& (255 : Int64)).toInt32) &&& 0x3f).toInt64)), .second] [(.long (2 : Int64)), (.ref b3)])) rfl (by rw [hml]; rfl) (rest := []) (W := 0) (lenOf pd_6 rfl) rfl (by show 2 * 0 + _ ≤ _; exact Nat.le_of_eq rfl) (hb hby at_123) (by decide) (by decide) (by decide) (by decide)
    obtain ⟨rfl, Nq528, hh529⟩ := hQ528
    have N528 := Fr.app N512 Nq528
    refine own_via (fun t k => st528 t (X528.ldc2Long hx hown (mvT hZ (wd hw 41 rfl)) (g := (mkF m 126 #[.val (.long i0), .second, .val (.long i1), .second, .val (.long i2), .second, .val (.long i3), .second, .val (.long i4), .second, .val (.long (i0 &&& (255 : Int64))), .second, rv b3, .val (.long (2 : Int64)), .second, .val (.long ((1 : Int64) <<< (((i0 &&& (255 : Int64)).toInt32) &&& 0x3f).toInt64)), .second] [(.long (i3 ||| ((1 : Int64) <<< (((i0 &&& (255 : Int64)).toInt32) &&& 0x3f).toInt64)))])) rfl (hb hby at_126) t (XS.lload X528.here hx rfl (hb hby at_129) rfl (XS.lload X528.here hx rfl (hb hby at_131) rfl (XS.lload X528.here hx rfl (hb hby at_133) rfl k))))) ?_
    obtain ⟨_, T530, _, X530, hQ530, st530⟩ := own_cs X528 hx hZ hown (wd hw 55 rfl) (wd hw 56 rfl) (wd hw 58 rfl) (wd hw 57 rfl) (by decide) (rm30 l Z a0 hw [] ((1 : Int64) <<< (((i0 &&& (255 : Int64)).toInt32) &&& 0x3f).toInt64) i3 h201 n0 O492 ) hh529 (g := (mkF m 135 #[.val (.long i0), .second, .val (.long i1), .second, .val (.long i2), .second, .val (.long i3), .second, .val (.long i4), .second, .val (.long (i0 &&& (255 : Int64))), .second, rv b3, .val (.long (2 : Int64)), .second, .val (.long ((1 : Int64) <<< (((i0 &&& (255 : Int64)).toInt32) &&& 0x3f).toInt64)), .second] [(.long i3), (.long ((1 : Int64) <<< (((i0 &&& (255 : Int64)).toInt32) &&& 0x3f).toInt64)), (.long (2 : Int64)), (.long (2 : Int64)), (.long (i3 ||| ((1 : Int64) <<< (((i0 &&& (255 : Int64)).toInt32) &&& 0x3f).toInt64)))])) rfl (by rw [hml]; rfl) (rest := [(.long (i3 ||| ((1 : Int64) <<< (((i0 &&& (255 : Int64)).toInt32) &&& 0x3f).toInt64)))]) (W := 2) (lenOf pd_7 rfl) rfl (by show 2 * 0 + _ ≤ _; exact Nat.le_of_eq rfl) (hb hby at_135) (by decide) (by decide) (by decide) (by decide)
    obtain ⟨rfl, Nq530, hh545⟩ := hQ530
    have N530 := Fr.app N528 Nq530
    refine own_via (fun t k => st530 t (XS.lcmp X530.here hx rfl (hb hby at_138) rfl (XS.ifNo X530.here hx rfl (hb hby at_139) rfl ((if0 _ _).trans (teq ((lw_eq (i3 ||| ((1 : Int64) <<< (((i0 &&& (255 : Int64)).toInt32) &&& 0x3f).toInt64)) (i3 ||| ((1 : Int64) <<< (((i0 &&& (255 : Int64)).toInt32) &&& 0x3f).toInt64))).mpr (rfl : (i3 ||| ((1 : Int64) <<< (((i0 &&& (255 : Int64)).toInt32) &&& 0x3f).toInt64)) = (i3 ||| ((1 : Int64) <<< (((i0 &&& (255 : Int64)).toInt32) &&& 0x3f).toInt64))))).2) (XS.aload X530.here hx rfl (hb hby at_142) rfl rfl (X530.ldc2Long hx hown (mvT hZ (wd hw 42 rfl)) (g := (mkF m 144 #[.val (.long i0), .second, .val (.long i1), .second, .val (.long i2), .second, .val (.long i3), .second, .val (.long i4), .second, .val (.long (i0 &&& (255 : Int64))), .second, rv b3, .val (.long (2 : Int64)), .second, .val (.long ((1 : Int64) <<< (((i0 &&& (255 : Int64)).toInt32) &&& 0x3f).toInt64)), .second] [(.ref b3)])) rfl (hb hby at_144) t k))))) ?_
    obtain ⟨_, T546, _, X546, hQ546, st546⟩ := own_cv X530 hx hZ hown (wd hw 50 rfl) (wd hw 51 rfl) (wd hw 53 rfl) (wd hw 52 rfl) (wd hw 54 rfl) (wd hw 3 rfl) (by decide) (rm22 l Z a0 hw [] b3 b61 k62 i1 i2 (i3 ||| ((1 : Int64) <<< (((i0 &&& (255 : Int64)).toInt32) &&& 0x3f).toInt64)) i4 h201 n0 O492 F490 E491 vx260) hh545 E491 (g := (mkF m 147 #[.val (.long i0), .second, .val (.long i1), .second, .val (.long i2), .second, .val (.long i3), .second, .val (.long i4), .second, .val (.long (i0 &&& (255 : Int64))), .second, rv b3, .val (.long (2 : Int64)), .second, .val (.long ((1 : Int64) <<< (((i0 &&& (255 : Int64)).toInt32) &&& 0x3f).toInt64)), .second] [(.long (3 : Int64)), (.ref b3)])) rfl (by rw [hml]; rfl) (rest := []) (W := 0) (lenOf pd_6 rfl) rfl (by show 2 * 0 + _ ≤ _; exact Nat.le_of_eq rfl) (hb hby at_147) (by decide) (by decide) (by decide) (by decide)
    obtain ⟨rfl, Nq546, hh547⟩ := hQ546
    have N546 := Fr.app N530 Nq546
    refine own_via (fun t k => st546 t (X546.ldc2Long hx hown (mvT hZ (wd hw 42 rfl)) (g := (mkF m 150 #[.val (.long i0), .second, .val (.long i1), .second, .val (.long i2), .second, .val (.long i3), .second, .val (.long i4), .second, .val (.long (i0 &&& (255 : Int64))), .second, rv b3, .val (.long (2 : Int64)), .second, .val (.long ((1 : Int64) <<< (((i0 &&& (255 : Int64)).toInt32) &&& 0x3f).toInt64)), .second] [(.long i4)])) rfl (hb hby at_150) t (XS.lload X546.here hx rfl (hb hby at_153) rfl (XS.lload X546.here hx rfl (hb hby at_155) rfl (XS.lload X546.here hx rfl (hb hby at_157) rfl k))))) ?_
    obtain ⟨_, T548, _, X548, hQ548, st548⟩ := own_cs X546 hx hZ hown (wd hw 55 rfl) (wd hw 56 rfl) (wd hw 58 rfl) (wd hw 57 rfl) (by decide) (rm31 l Z a0 hw [] ((1 : Int64) <<< (((i0 &&& (255 : Int64)).toInt32) &&& 0x3f).toInt64) i4 h201 n0 O492 ) hh547 (g := (mkF m 159 #[.val (.long i0), .second, .val (.long i1), .second, .val (.long i2), .second, .val (.long i3), .second, .val (.long i4), .second, .val (.long (i0 &&& (255 : Int64))), .second, rv b3, .val (.long (2 : Int64)), .second, .val (.long ((1 : Int64) <<< (((i0 &&& (255 : Int64)).toInt32) &&& 0x3f).toInt64)), .second] [(.long i4), (.long ((1 : Int64) <<< (((i0 &&& (255 : Int64)).toInt32) &&& 0x3f).toInt64)), (.long (2 : Int64)), (.long (3 : Int64)), (.long i4)])) rfl (by rw [hml]; rfl) (rest := [(.long i4)]) (W := 2) (lenOf pd_7 rfl) rfl (by show 2 * 0 + _ ≤ _; exact Nat.le_of_eq rfl) (hb hby at_159) (by decide) (by decide) (by decide) (by decide)
    obtain ⟨rfl, Nq548, hh563⟩ := hQ548
    have N548 := Fr.app N546 Nq548
    refine own_via (fun t k => st548 t (XS.lcmp X548.here hx rfl (hb hby at_162) rfl (XS.ifNo X548.here hx rfl (hb hby at_163) rfl ((if0 _ _).trans (teq ((lw_eq i4 i4).mpr (rfl : i4 = i4))).2) (XS.iconst X548.here hx rfl (hb hby at_166) (XS.goto X548.here hx rfl (pc0 := 167) (pc' := 171) rfl (hb hby at_167) (by decide) (by decide) k))))) ?_
    obtain ⟨fs, hr, hrun, hended, hW, hsame⟩ := X548.leave (v := some (.int (1 : Int32))) (fun h => by rw [Bd.returns] at h; cases h)
    refine own_end (t := T548.setFrames fs) ?_ ⟨_, hrun, hended, _, _, rfl, ?_, ⟨_, rfl⟩, hW, hsame.mono (by decide) (by decide)⟩
    · exact retN X548 hx (t := .boolean) Bd.returns (by simp) (hb hby at_171) hr
    · exact ⟨rfl, N548⟩
  · have N201 := Fr.app N164 Nq201
    refine own_via (fun t k => st201 t (XS.lload X201.here hx rfl (hb hby at_61) rfl (XS.bipush X201.here hx rfl (hb hby at_63) (XS.lushr X201.here hx rfl (hb hby at_65) rfl k)))) ?_
    show own_Goes p e below (T201.setTop (mkF m 66 #[.val (.long i0), .second, .val (.long i1), .second, .val (.long i2), .second, .val (.long i3), .second, .val (.long i4), .second, .val (.long (i0 &&& (255 : Int64))), .second, rv b3, .unset, .unset, .unset, .unset] [(.long (((i0 &&& (255 : Int64)).toUInt64 >>> ((6 : Int32) &&& 0x3f).toInt64.toUInt64).toInt64))])) _
    have qs := own_idx (i0 &&& (255 : Int64)) 3 (own_bitlo i0) hq261
    have qs564 := qs
    rw [qs]
    show own_Goes p e below (T201.setTop (mkF m 66 #[.val (.long i0), .second, .val (.long i1), .second, .val (.long i2), .second, .val (.long i3), .second, .val (.long i4), .second, .val (.long (i0 &&& (255 : Int64))), .second, rv b3, .unset, .unset, .unset, .unset] [(.long (3 : Int64))])) _
    refine own_via (fun t k => XS.lstore X201.here hx rfl (hb hby at_66) rfl (l' := #[.val (.long i0), .second, .val (.long i1), .second, .val (.long i2), .second, .val (.long i3), .second, .val (.long i4), .second, .val (.long (i0 &&& (255 : Int64))), .second, rv b3, .val (.long (3 : Int64)), .second, .unset, .unset]) rfl (XS.lconst X201.here hx rfl (hb hby at_68) (XS.lload X201.here hx rfl (hb hby at_69) rfl (X201.ldc2Long hx hown (mvT hZ (wd hw 49 rfl)) (g := (mkF m 71 #[.val (.long i0), .second, .val (.long i1), .second, .val (.long i2), .second, .val (.long i3), .second, .val (.long i4), .second, .val (.long (i0 &&& (255 : Int64))), .second, rv b3, .val (.long (3 : Int64)), .second, .unset, .unset] [(.long (i0 &&& (255 : Int64))), (.long (1 : Int64))])) rfl (hb hby at_71) t (XS.land X201.here hx rfl (hb hby at_74) rfl (XS.l2i X201.here hx rfl (hb hby at_75) rfl (XS.lshl X201.here hx rfl (hb hby at_76) rfl k))))))) ?_
    show own_Goes p e below (T201.setTop (mkF m 77 #[.val (.long i0), .second, .val (.long i1), .second, .val (.long i2), .second, .val (.long i3), .second, .val (.long i4), .second, .val (.long (i0 &&& (255 : Int64))), .second, rv b3, .val (.long (3 : Int64)), .second, .unset, .unset] [(.long ((1 : Int64) <<< ((((i0 &&& (255 : Int64)) &&& (63 : Int64)).toInt32) &&& 0x3f).toInt64))])) _
    rw [own_m63 (i0 &&& (255 : Int64))]
    show own_Goes p e below (T201.setTop (mkF m 77 #[.val (.long i0), .second, .val (.long i1), .second, .val (.long i2), .second, .val (.long i3), .second, .val (.long i4), .second, .val (.long (i0 &&& (255 : Int64))), .second, rv b3, .val (.long (3 : Int64)), .second, .unset, .unset] [(.long ((1 : Int64) <<< (((i0 &&& (255 : Int64)).toInt32) &&& 0x3f).toInt64))])) _
    refine own_via (fun t k => XS.lstore X201.here hx rfl (hb hby at_77) rfl (l' := #[.val (.long i0), .second, .val (.long i1), .second, .val (.long i2), .second, .val (.long i3), .second, .val (.long i4), .second, .val (.long (i0 &&& (255 : Int64))), .second, rv b3, .val (.long (3 : Int64)), .second, .val (.long ((1 : Int64) <<< (((i0 &&& (255 : Int64)).toInt32) &&& 0x3f).toInt64)), .second]) rfl (XS.aload X201.here hx rfl (hb hby at_79) rfl rfl (XS.lconst X201.here hx rfl (hb hby at_81) k))) ?_
    have F566 : Fld Z h201 b3 zs1 "firstBlock" "[J" (.ref b61) := (F249.keep K201 (ninS N69 nin0))
    have E567 : Exa Z h201 b3 zs1 := (E250.keep K201)
    have O568 : Old Z n0 h201 := (O251.keep K201 (allS g70 all0))
    obtain ⟨_, T565, _, X565, hQ565, st565⟩ := own_cv X201 hx hZ hown (wd hw 50 rfl) (wd hw 51 rfl) (wd hw 53 rfl) (wd hw 52 rfl) (wd hw 54 rfl) (wd hw 3 rfl) (by decide) (rm16 l Z a0 hw [] b3 b61 k62 i1 i2 i3 (i4 ||| ((1 : Int64) <<< (((i0 &&& (255 : Int64)).toInt32) &&& 0x3f).toInt64)) h201 n0 O568 F566 E567 vx263) e201 E567 (g := (mkF m 82 #[.val (.long i0), .second, .val (.long i1), .second, .val (.long i2), .second, .val (.long i3), .second, .val (.long i4), .second, .val (.long (i0 &&& (255 : Int64))), .second, rv b3, .val (.long (3 : Int64)), .second, .val (.long ((1 : Int64) <<< (((i0 &&& (255 : Int64)).toInt32) &&& 0x3f).toInt64)), .second] [(.long (0 : Int64)), (.ref b3)])) rfl (by rw [hml]; rfl) (rest := []) (W := 0) (lenOf pd_6 rfl) rfl (by show 2 * 0 + _ ≤ _; exact Nat.le_of_eq rfl) (hb hby at_82) (by decide) (by decide) (by decide) (by decide)
    obtain ⟨rfl, Nq565, hh569⟩ := hQ565
    have N565 := Fr.app N201 Nq565
    refine own_via (fun t k => st565 t (XS.lconst X565.here hx rfl (hb hby at_85) (XS.lload X565.here hx rfl (hb hby at_86) rfl (XS.lload X565.here hx rfl (hb hby at_88) rfl (XS.lloadN X565.here hx rfl (hb hby at_90) rfl k))))) ?_
    obtain ⟨_, T570, _, X570, hQ570, st570⟩ := own_cs X565 hx hZ hown (wd hw 55 rfl) (wd hw 56 rfl) (wd hw 58 rfl) (wd hw 57 rfl) (by decide) (rm32 l Z a0 hw [] ((1 : Int64) <<< (((i0 &&& (255 : Int64)).toInt32) &&& 0x3f).toInt64) i1 h201 n0 O568 ) hh569 (g := (mkF m 91 #[.val (.long i0), .second, .val (.long i1), .second, .val (.long i2), .second, .val (.long i3), .second, .val (.long i4), .second, .val (.long (i0 &&& (255 : Int64))), .second, rv b3, .val (.long (3 : Int64)), .second, .val (.long ((1 : Int64) <<< (((i0 &&& (255 : Int64)).toInt32) &&& 0x3f).toInt64)), .second] [(.long i1), (.long ((1 : Int64) <<< (((i0 &&& (255 : Int64)).toInt32) &&& 0x3f).toInt64)), (.long (3 : Int64)), (.long (0 : Int64)), (.long i1)])) rfl (by rw [hml]; rfl) (rest := [(.long i1)]) (W := 2) (lenOf pd_7 rfl) rfl (by show 2 * 0 + _ ≤ _; exact Nat.le_of_eq rfl) (hb hby at_91) (by decide) (by decide) (by decide) (by decide)
    obtain ⟨rfl, Nq570, hh585⟩ := hQ570
    have N570 := Fr.app N565 Nq570
    refine own_via (fun t k => st570 t (XS.lcmp X570.here hx rfl (hb hby at_94) rfl (XS.ifNo X570.here hx rfl (hb hby at_95) rfl ((if0 _ _).trans (teq ((lw_eq i1 i1).mpr (rfl : i1 = i1))).2) (XS.aload X570.here hx rfl (hb hby at_98) rfl rfl (XS.lconst X570.here hx rfl (hb hby at_100) k))))) ?_
    obtain ⟨_, T586, _, X586, hQ586, st586⟩ := own_cv X570 hx hZ hown (wd hw 50 rfl) (wd hw 51 rfl) (wd hw 53 rfl) (wd hw 52 rfl) (wd hw 54 rfl) (wd hw 3 rfl) (by decide) (rm18 l Z a0 hw [] b3 b61 k62 i1 i2 i3 (i4 ||| ((1 : Int64) <<< (((i0 &&& (255 : Int64)).toInt32) &&& 0x3f).toInt64)) h201 n0 O568 F566 E567 vx263) hh585 E567 (g := (mkF m 101 #[.val (.long i0), .second, .val (.long i1), .second, .val (.long i2), .second, .val (.long i3), .second, .val (.long i4), .second, .val (.long (i0 &&& (255 : Int64))), .second, rv b3, .val (.long (3 : Int64)), .second, .val (.long ((1 : Int64) <<< (((i0 &&& (255 : Int64)).toInt32) &&& 0x3f).toInt64)), .second] [(.long (1 : Int64)), (.ref b3)])) rfl (by rw [hml]; rfl) (rest := []) (W := 0) (lenOf pd_6 rfl) rfl (by show 2 * 0 + _ ≤ _; exact Nat.le_of_eq rfl) (hb hby at_101) (by decide) (by decide) (by decide) (by decide)
    obtain ⟨rfl, Nq586, hh587⟩ := hQ586
    have N586 := Fr.app N570 Nq586
    refine own_via (fun t k => st586 t (XS.lconst X586.here hx rfl (hb hby at_104) (XS.lload X586.here hx rfl (hb hby at_105) rfl (XS.lload X586.here hx rfl (hb hby at_107) rfl (XS.lload X586.here hx rfl (hb hby at_109) rfl k))))) ?_
    obtain ⟨_, T588, _, X588, hQ588, st588⟩ := own_cs X586 hx hZ hown (wd hw 55 rfl) (wd hw 56 rfl) (wd hw 58 rfl) (wd hw 57 rfl) (by decide) (rm33 l Z a0 hw [] ((1 : Int64) <<< (((i0 &&& (255 : Int64)).toInt32) &&& 0x3f).toInt64) i2 h201 n0 O568 ) hh587 (g := (mkF m 111 #[.val (.long i0), .second, .val (.long i1), .second, .val (.long i2), .second, .val (.long i3), .second, .val (.long i4), .second, .val (.long (i0 &&& (255 : Int64))), .second, rv b3, .val (.long (3 : Int64)), .second, .val (.long ((1 : Int64) <<< (((i0 &&& (255 : Int64)).toInt32) &&& 0x3f).toInt64)), .second] [(.long i2), (.long ((1 : Int64) <<< (((i0 &&& (255 : Int64)).toInt32) &&& 0x3f).toInt64)), (.long (3 : Int64)), (.long (1 : Int64)), (.long i2)])) rfl (by rw [hml]; rfl) (rest := [(.long i2)]) (W := 2) (lenOf pd_7 rfl) rfl (by show 2 * 0 + _ ≤ _; exact Nat.le_of_eq rfl) (hb hby at_111) (by decide) (by decide) (by decide) (by decide)
    obtain ⟨rfl, Nq588, hh603⟩ := hQ588
    have N588 := Fr.app N586 Nq588
    refine own_via (fun t k => st588 t (XS.lcmp X588.here hx rfl (hb hby at_114) rfl (XS.ifNo X588.here hx rfl (hb hby at_115) rfl ((if0 _ _).trans (teq ((lw_eq i2 i2).mpr (rfl : i2 = i2))).2) (XS.aload X588.here hx rfl (hb hby at_118) rfl rfl (X588.ldc2Long hx hown (mvT hZ (wd hw 41 rfl)) (g := (mkF m 120 #[.val (.long i0), .second, .val (.long i1), .second, .val (.long i2), .second, .val (.long i3), .second, .val (.long i4), .second, .val (.long (i0 &&& (255 : Int64))), .second, rv b3, .val (.long (3 : Int64)), .second, .val (.long ((1 : Int64) <<< (((i0 &&& (255 : Int64)).toInt32) &&& 0x3f).toInt64)), .second] [(.ref b3)])) rfl (hb hby at_120) t k))))) ?_
    obtain ⟨_, T604, _, X604, hQ604, st604⟩ := own_cv X588 hx hZ hown (wd hw 50 rfl) (wd hw 51 rfl) (wd hw 53 rfl) (wd hw 52 rfl) (wd hw 54 rfl) (wd hw 3 rfl) (by decide) (rm20 l Z a0 hw [] b3 b61 k62 i1 i2 i3 (i4 ||| ((1 : Int64) <<< (((i0 &&& (255 : Int64)).toInt32) &&& 0x3f).toInt64)) h201 n0 O568 F566 E567 vx263) hh603 E567 (g := (mkF m 123 #[.val (.long i0), .second, .val (.long i1), .second, .val (.long i2), .second, .val (.long i3), .second, .val (.long i4), .second, .val (.long (i0 &&& (255 : Int64))), .second, rv b3, .val (.long (3 : Int64)), .second, .val (.long ((1 : Int64) <<< (((i0 &&& (255 : Int64)).toInt32) &&& 0x3f).toInt64)), .second] [(.long (2 : Int64)), (.ref b3)])) rfl (by rw [hml]; rfl) (rest := []) (W := 0) (lenOf pd_6 rfl) rfl (by show 2 * 0 + _ ≤ _; exact Nat.le_of_eq rfl) (hb hby at_123) (by decide) (by decide) (by decide) (by decide)
    obtain ⟨rfl, Nq604, hh605⟩ := hQ604
    have N604 := Fr.app N588 Nq604
    refine own_via (fun t k => st604 t (X604.ldc2Long hx hown (mvT hZ (wd hw 41 rfl)) (g := (mkF m 126 #[.val (.long i0), .second, .val (.long i1), .second, .val (.long i2), .second, .val (.long i3), .second, .val (.long i4), .second, .val (.long (i0 &&& (255 : Int64))), .second, rv b3, .val (.long (3 : Int64)), .second, .val (.long ((1 : Int64) <<< (((i0 &&& (255 : Int64)).toInt32) &&& 0x3f).toInt64)), .second] [(.long i3)])) rfl (hb hby at_126) t (XS.lload X604.here hx rfl (hb hby at_129) rfl (XS.lload X604.here hx rfl (hb hby at_131) rfl (XS.lload X604.here hx rfl (hb hby at_133) rfl k))))) ?_
    obtain ⟨_, T606, _, X606, hQ606, st606⟩ := own_cs X604 hx hZ hown (wd hw 55 rfl) (wd hw 56 rfl) (wd hw 58 rfl) (wd hw 57 rfl) (by decide) (rm34 l Z a0 hw [] ((1 : Int64) <<< (((i0 &&& (255 : Int64)).toInt32) &&& 0x3f).toInt64) i3 h201 n0 O568 ) hh605 (g := (mkF m 135 #[.val (.long i0), .second, .val (.long i1), .second, .val (.long i2), .second, .val (.long i3), .second, .val (.long i4), .second, .val (.long (i0 &&& (255 : Int64))), .second, rv b3, .val (.long (3 : Int64)), .second, .val (.long ((1 : Int64) <<< (((i0 &&& (255 : Int64)).toInt32) &&& 0x3f).toInt64)), .second] [(.long i3), (.long ((1 : Int64) <<< (((i0 &&& (255 : Int64)).toInt32) &&& 0x3f).toInt64)), (.long (3 : Int64)), (.long (2 : Int64)), (.long i3)])) rfl (by rw [hml]; rfl) (rest := [(.long i3)]) (W := 2) (lenOf pd_7 rfl) rfl (by show 2 * 0 + _ ≤ _; exact Nat.le_of_eq rfl) (hb hby at_135) (by decide) (by decide) (by decide) (by decide)
    obtain ⟨rfl, Nq606, hh621⟩ := hQ606
    have N606 := Fr.app N604 Nq606
    refine own_via (fun t k => st606 t (XS.lcmp X606.here hx rfl (hb hby at_138) rfl (XS.ifNo X606.here hx rfl (hb hby at_139) rfl ((if0 _ _).trans (teq ((lw_eq i3 i3).mpr (rfl : i3 = i3))).2) (XS.aload X606.here hx rfl (hb hby at_142) rfl rfl (X606.ldc2Long hx hown (mvT hZ (wd hw 42 rfl)) (g := (mkF m 144 #[.val (.long i0), .second, .val (.long i1), .second, .val (.long i2), .second, .val (.long i3), .second, .val (.long i4), .second, .val (.long (i0 &&& (255 : Int64))), .second, rv b3, .val (.long (3 : Int64)), .second, .val (.long ((1 : Int64) <<< (((i0 &&& (255 : Int64)).toInt32) &&& 0x3f).toInt64)), .second] [(.ref b3)])) rfl (hb hby at_144) t k))))) ?_
    obtain ⟨_, T622, _, X622, hQ622, st622⟩ := own_cv X606 hx hZ hown (wd hw 50 rfl) (wd hw 51 rfl) (wd hw 53 rfl) (wd hw 52 rfl) (wd hw 54 rfl) (wd hw 3 rfl) (by decide) (rm22 l Z a0 hw [] b3 b61 k62 i1 i2 i3 (i4 ||| ((1 : Int64) <<< (((i0 &&& (255 : Int64)).toInt32) &&& 0x3f).toInt64)) h201 n0 O568 F566 E567 vx263) hh621 E567 (g := (mkF m 147 #[.val (.long i0), .second, .val (.long i1), .second, .val (.long i2), .second, .val (.long i3), .second, .val (.long i4), .second, .val (.long (i0 &&& (255 : Int64))), .second, rv b3, .val (.long (3 : Int64)), .second, .val (.long ((1 : Int64) <<< (((i0 &&& (255 : Int64)).toInt32) &&& 0x3f).toInt64)), .second] [(.long (3 : Int64)), (.ref b3)])) rfl (by rw [hml]; rfl) (rest := []) (W := 0) (lenOf pd_6 rfl) rfl (by show 2 * 0 + _ ≤ _; exact Nat.le_of_eq rfl) (hb hby at_147) (by decide) (by decide) (by decide) (by decide)
    obtain ⟨rfl, Nq622, hh623⟩ := hQ622
    have N622 := Fr.app N606 Nq622
    refine own_via (fun t k => st622 t (X622.ldc2Long hx hown (mvT hZ (wd hw 42 rfl)) (g := (mkF m 150 #[.val (.long i0), .second, .val (.long i1), .second, .val (.long i2), .second, .val (.long i3), .second, .val (.long i4), .second, .val (.long (i0 &&& (255 : Int64))), .second, rv b3, .val (.long (3 : Int64)), .second, .val (.long ((1 : Int64) <<< (((i0 &&& (255 : Int64)).toInt32) &&& 0x3f).toInt64)), .second] [(.long (i4 ||| ((1 : Int64) <<< (((i0 &&& (255 : Int64)).toInt32) &&& 0x3f).toInt64)))])) rfl (hb hby at_150) t (XS.lload X622.here hx rfl (hb hby at_153) rfl (XS.lload X622.here hx rfl (hb hby at_155) rfl (XS.lload X622.here hx rfl (hb hby at_157) rfl k))))) ?_
    obtain ⟨_, T624, _, X624, hQ624, st624⟩ := own_cs X622 hx hZ hown (wd hw 55 rfl) (wd hw 56 rfl) (wd hw 58 rfl) (wd hw 57 rfl) (by decide) (rm35 l Z a0 hw [] ((1 : Int64) <<< (((i0 &&& (255 : Int64)).toInt32) &&& 0x3f).toInt64) i4 h201 n0 O568 ) hh623 (g := (mkF m 159 #[.val (.long i0), .second, .val (.long i1), .second, .val (.long i2), .second, .val (.long i3), .second, .val (.long i4), .second, .val (.long (i0 &&& (255 : Int64))), .second, rv b3, .val (.long (3 : Int64)), .second, .val (.long ((1 : Int64) <<< (((i0 &&& (255 : Int64)).toInt32) &&& 0x3f).toInt64)), .second] [(.long i4), (.long ((1 : Int64) <<< (((i0 &&& (255 : Int64)).toInt32) &&& 0x3f).toInt64)), (.long (3 : Int64)), (.long (3 : Int64)), (.long (i4 ||| ((1 : Int64) <<< (((i0 &&& (255 : Int64)).toInt32) &&& 0x3f).toInt64)))])) rfl (by rw [hml]; rfl) (rest := [(.long (i4 ||| ((1 : Int64) <<< (((i0 &&& (255 : Int64)).toInt32) &&& 0x3f).toInt64)))]) (W := 2) (lenOf pd_7 rfl) rfl (by show 2 * 0 + _ ≤ _; exact Nat.le_of_eq rfl) (hb hby at_159) (by decide) (by decide) (by decide) (by decide)
    obtain ⟨rfl, Nq624, hh639⟩ := hQ624
    have N624 := Fr.app N622 Nq624
    refine own_via (fun t k => st624 t (XS.lcmp X624.here hx rfl (hb hby at_162) rfl (XS.ifNo X624.here hx rfl (hb hby at_163) rfl ((if0 _ _).trans (teq ((lw_eq (i4 ||| ((1 : Int64) <<< (((i0 &&& (255 : Int64)).toInt32) &&& 0x3f).toInt64)) (i4 ||| ((1 : Int64) <<< (((i0 &&& (255 : Int64)).toInt32) &&& 0x3f).toInt64))).mpr (rfl : (i4 ||| ((1 : Int64) <<< (((i0 &&& (255 : Int64)).toInt32) &&& 0x3f).toInt64)) = (i4 ||| ((1 : Int64) <<< (((i0 &&& (255 : Int64)).toInt32) &&& 0x3f).toInt64))))).2) (XS.iconst X624.here hx rfl (hb hby at_166) (XS.goto X624.here hx rfl (pc0 := 167) (pc' := 171) rfl (hb hby at_167) (by decide) (by decide) k))))) ?_
    obtain ⟨fs, hr, hrun, hended, hW, hsame⟩ := X624.leave (v := some (.int (1 : Int32))) (fun h => by rw [Bd.returns] at h; cases h)
    refine own_end (t := T624.setFrames fs) ?_ ⟨_, hrun, hended, _, _, rfl, ?_, ⟨_, rfl⟩, hW, hsame.mono (by decide) (by decide)⟩
    · exact retN X624 hx (t := .boolean) Bd.returns (by simp) (hb hby at_171) hr
    · exact ⟨rfl, N624⟩
set_option maxRecDepth 65536 in
set_option maxHeartbeats 40000000 in
theorem comes_1 {Post : Tables → Env → Array Value → State → Outcome → State → Prop} (hpost : ∀ tb e args s v u, (limb_1_1.after args s (.returned v) u = true ∧ limb_1_2.after args s (.returned v) u = true ∧ True) → FrameEnd s (.returned v) u (Jvm.fieldLocs frame_1_writes args s ++ Jvm.arrayLocs frame_1_arrays args s ++ Jvm.staticLocs frame_1_statics s) 16 128 → Post tb e args s (.returned v) u) :
    ArmFor flags0 classFile x code maxLocals ret World_1 tables_1 room_1 Calls_1 rest_1 Pre_1 Post := by
  intro l hfl _ _ p e ha hc hk s m args below hf hA hF happ hP
  obtain ⟨hcalls, hrest, hpre⟩ := hP
  obtain ⟨-, -, -, hnamed, -, -, -, hat⟩ := (Spec.applies_iff hf).mp happ
  obtain ⟨hg, hn⟩ := and_e (Cond.before_iff.mp (show (Jvm.Cond.and given_1 narrow_1).before args s = true from hpre))
  obtain ⟨g640, g641⟩ := and_e hg
  obtain ⟨g642, g643⟩ := and_e g641
  obtain ⟨g644, g645⟩ := and_e g643
  obtain ⟨g646, g647⟩ := and_e g645
  obtain ⟨g648, g649⟩ := and_e g647
  obtain ⟨w0, w1, w2, w3, w4, rfl⟩ : ∃ w0 w1 w2 w3 w4 : Value, args = #[w0, w1, w2, w3, w4] := by
    have hs : args.size = 5 := by simpa [Cond.value, given_1] using g640
    obtain ⟨L⟩ := args
    match L, hs with
    | [w0, w1, w2, w3, w4], _ => exact ⟨w0, w1, w2, w3, w4, rfl⟩
  have hw := fun d (hd : d ∈ tables_1) => atoms_spec (ws := Jvm.Cond.code x code maxLocals ret :: tables_1) hat d (List.mem_cons_of_mem _ hd)
  have hfit : Fit s := fun {y c} hc i hi => by
    obtain ⟨ha, rfl⟩ := Array.getElem?_eq_some_iff.mp hc
    have q := List.all_eq_true.mp ((Array.all_eq_true_iff_forall_mem.mp hF) _ (Array.getElem_mem ha)) i (List.mem_range.mpr hi)
    simpa [Array.getElem?_eq_getElem hi] using q
  have ev1 := Cond.eq_int (show (Jvm.Cond.eq _ _).holds _ _ _ _ _ = true from Cond.before_iff.mpr hn) rfl
  have S_WordArray_BLOCK_SHIFT : Sta s s.heap zs1 "BLOCK_SHIFT" "I" (.int (27 : Int32)) := Sta.start ev1 (Or.inr ⟨(wd hw 3 rfl), (wd hw 15 rfl)⟩)
  obtain ⟨i0, ei0⟩ := isL_v g642
  obtain rfl : w0 = (.long i0) := Option.some.inj ei0
  obtain ⟨i1, ei1⟩ := isL_v g644
  obtain rfl : w1 = (.long i1) := Option.some.inj ei1
  obtain ⟨i2, ei2⟩ := isL_v g646
  obtain rfl : w2 = (.long i2) := Option.some.inj ei2
  obtain ⟨i3, ei3⟩ := isL_v g648
  obtain rfl : w3 = (.long i3) := Option.some.inj ei3
  obtain ⟨i4, ei4⟩ := isL_v g649
  obtain rfl : w4 = (.long i4) := Option.some.inj ei4
  obtain ⟨n, o, h1, h2, h3, _, L, rfl, ⟨rfl, N⟩, hq⟩ := rm0 l s _ hw tables_1 i0 i1 i2 i3 i4 s.heap s.heap.size (Old.start s) S_WordArray_BLOCK_SHIFT p e ha hc hk s m _ below hf ((Spec.applies_iff_loose hf).mp happ).1 ⟨rfl, State.Warmed39.refl s, rfl⟩ trivial
  refine ⟨n, _, h1, h2, h3, hpost _ _ _ _ _ _ ⟨Cond.after_iff.mpr rfl, Cond.after_iff.mpr (eq_i res_at (Term.int_eval (1)) rfl), trivial⟩ ⟨hq.1, hq.2.1, (hq.2.2.sift fun y hy => Or.inr (N y hy)).mono (by decide) (by decide)⟩⟩
theorem main_1_1 : Claimed_1_1 := comes_1 fun _ _ _ _ _ _ h hF => ⟨h.1, hF⟩
theorem main_1_2 : Claimed_1_2 := comes_1 fun _ _ _ _ _ _ h hF => ⟨h.2.1, hF⟩
end Jvm.Pilot.@@N@@
namespace Jvm.Pilot.@@N@@
open Jvm Jvm.ClassFile Sem Op Lib Jvm.Free Jvm.Stand Jvm.Pilot.@@N@@.Jvm.D
/-! MADE BY PROGRAM (witnessworld.py) out of the Statement's table words and the real class files: 12 classes; the members and pool entries that the words name. The judged class is class 1, her method 1. -/
namespace start1
open Jvm.ClassFile
def u (s : String) : CpInfo := .utf8 (stringToUtf16 s)
/-- a pool by its gaps: so many unusable entries, then the entry; so many at the end -/
def gap : Nat → List CpInfo → List CpInfo
  | 0, r => r
  | n + 1, r => .unusable :: gap n r
def poolList (es : List (Nat × CpInfo)) (last : Nat) : List CpInfo := es.foldr (fun e r => gap e.1 (e.2 :: r)) (gap last [])
def pool (es : List (Nat × CpInfo)) (last : Nat) : Array CpInfo := ⟨poolList es last⟩
def fileOf (pool : Array CpInfo) (this : Nat) (attrs : Array Attribute := #[]) (ms : Array MethodInfo := #[]) (fl : Nat := 33) (sup : Nat := 0) (ifs : Array Nat := #[]) (fds : Array FieldInfo := #[]) : ClassFile where
  minorVersion := 0
  majorVersion := 65
  constantPool := pool
  accessFlags := fl
  thisClass := this
  superClass := sup
  interfaces := ifs
  fields := fds
  methods := ms
  attributes := attrs
def plain (name : String) (sup : Option ClassId) : Class where
  name := name
  kind := .ordinary
  loader := none
  accessFlags := 33
  super := sup
  interfaces := #[]
  cf := none
  fields := #[]
  methods := #[]
  instanceTypes := #[]
  staticTypes := #[]
  resolved := #[]
  callSites := []
  init := .initialized
  statics := none
  mirror := none

def pool0 : Array CpInfo := pool [(5, u "<init>"), (0, u "()V"), (1, .class_ 10), (1, u "java/lang/Object")] 113

def k0c0 : Code := { maxStack := 0, maxLocals := 1, code := object_method_1_code, exceptionTable := #[], attributes := #[] }
def k0m0 : Method := { name := "<init>", desc := "()V", sig := { parameters := [], returnType := none }, accessFlags := 1, code := some k0c0 }
/-- java/lang/Object -/
def k0 : Class := { plain "java/lang/Object" none with
  accessFlags := 33
  interfaces := #[]
  cf := some (fileOf pool0 8 #[] #[{ accessFlags := 1, nameIndex := 5, descriptorIndex := 6, attributes := #[] }] 33 0 #[] #[])
  fields := #[]
  methods := #[k0m0]
  instanceTypes := #[]
  staticTypes := #[]
  resolved := Array.replicate 124 none
  statics := none }

def pool1 : Array CpInfo := pool [(2, .class_ 4), (1, u "java/lang/Object"), (0, u "<init>"), (0, u "()V"), (0, .long 255), (1, .class_ 10), (0, u "com/example/tuccia/tuccia/WordArray"), (0, .long 4), (1, .methodref 9 14), (0, .nameAndType 5 15), (0, u "(J)V"), (0, .methodref 9 17), (0, .nameAndType 18 19), (0, u "set"), (0, u "(JJ)V"), (0, .long 2), (1, .long 3), (1, .methodref 9 25), (0, .nameAndType 26 15), (0, u "setBit"), (0, .long 63), (1, .methodref 9 30), (0, .nameAndType 31 32), (0, u "get"), (0, u "(J)J"), (0, .methodref 34 35), (0, .class_ 36), (0, .nameAndType 37 38), (0, u "com/example/tuccia/tuccia/WordArraySetBitPinLaw"), (0, u "expected"), (0, u "(JJJJ)J"), (2, u "law"), (0, u "(JJJJJ)Z")] 3

def k1m0 : Method := { name := "<init>", desc := "()V", sig := { parameters := [], returnType := none }, accessFlags := 1, code := none }
def k1c1 : Code := { maxStack := 10, maxLocals := 17, code := code, exceptionTable := #[], attributes := #[] }
def k1m1 : Method := { name := "law", desc := "(JJJJJ)Z", sig := { parameters := [.long, .long, .long, .long, .long], returnType := some .boolean }, accessFlags := 9, code := some k1c1 }
def k1c2 : Code := { maxStack := 4, maxLocals := 8, code := method_3_code, exceptionTable := #[], attributes := #[] }
def k1m2 : Method := { name := "expected", desc := "(JJJJ)J", sig := { parameters := [.long, .long, .long, .long], returnType := some .long }, accessFlags := 10, code := some k1c2 }
/-- com/example/tuccia/tuccia/WordArraySetBitPinLaw -/
def k1 : Class := { plain "com/example/tuccia/tuccia/WordArraySetBitPinLaw" (some 0) with
  accessFlags := 49
  interfaces := #[]
  cf := some (fileOf pool1 34 #[] #[{ accessFlags := 1, nameIndex := 5, descriptorIndex := 6, attributes := #[] }, { accessFlags := 9, nameIndex := 41, descriptorIndex := 42, attributes := #[] }, { accessFlags := 10, nameIndex := 37, descriptorIndex := 38, attributes := #[] }] 49 2 #[] #[])
  fields := #[]
  methods := #[k1m0, k1m1, k1m2]
  instanceTypes := #[]
  staticTypes := #[]
  resolved := Array.replicate 46 none
  statics := none }

def pool2 : Array CpInfo := pool [(1, .class_ 2), (0, u "com/example/tuccia/tuccia/WordArray"), (0, .methodref 4 5), (0, .class_ 6), (0, .nameAndType 7 8), (0, u "java/lang/Object"), (0, u "<init>"), (0, u "()V"), (0, .fieldref 1 10), (0, .nameAndType 11 12), (0, u "length"), (0, u "J"), (0, .long 134217727), (1, .fieldref 1 16), (0, .nameAndType 17 18), (0, u "BLOCK_SHIFT"), (0, u "I"), (0, .class_ 20), (0, u "[J"), (0, .fieldref 1 22), (0, .nameAndType 23 24), (0, u "blocks"), (0, u "[[J"), (0, .long 134217728), (1, .methodref 28 29), (0, .class_ 30), (0, .nameAndType 31 32), (0, u "java/lang/Math"), (0, u "min"), (0, u "(JJ)J"), (0, .fieldref 1 34), (0, .nameAndType 35 20), (0, u "firstBlock"), (0, .methodref 1 37), (0, .nameAndType 38 39), (0, u "blockOf"), (0, u "(J)[J"), (0, .methodref 1 41), (0, .nameAndType 42 43), (0, u "inBlock"), (0, u "(J)I"), (2, .long 64), (3, u "get"), (0, u "(J)J"), (7, u "set"), (0, u "(JJ)V"), (3, u "BLOCK_WORDS"), (1, u "IN_BLOCK"), (0, u "(J)V"), (6, u "setBit")] 9

def k2c0 : Code := { maxStack := 6, maxLocals := 6, code := prog_20_method_1_code, exceptionTable := #[], attributes := #[] }
def k2m0 : Method := { name := "<init>", desc := "(J)V", sig := { parameters := [.long], returnType := none }, accessFlags := 0, code := some k2c0 }
def k2c1 : Code := { maxStack := 3, maxLocals := 3, code := prog_20_method_3_code, exceptionTable := #[], attributes := #[] }
def k2m1 : Method := { name := "get", desc := "(J)J", sig := { parameters := [.long], returnType := some .long }, accessFlags := 0, code := some k2c1 }
def k2c2 : Code := { maxStack := 4, maxLocals := 5, code := prog_20_method_4_code, exceptionTable := #[], attributes := #[] }
def k2m2 : Method := { name := "set", desc := "(JJ)V", sig := { parameters := [.long, .long], returnType := none }, accessFlags := 0, code := some k2c2 }
def k2c3 : Code := { maxStack := 8, maxLocals := 5, code := prog_20_method_6_code, exceptionTable := #[], attributes := #[] }
def k2m3 : Method := { name := "setBit", desc := "(J)V", sig := { parameters := [.long], returnType := none }, accessFlags := 0, code := some k2c3 }
def k2c4 : Code := { maxStack := 4, maxLocals := 4, code := prog_20_method_11_code, exceptionTable := #[], attributes := #[] }
def k2m4 : Method := { name := "blockOf", desc := "(J)[J", sig := { parameters := [.long], returnType := some (.array .long) }, accessFlags := 2, code := some k2c4 }
def k2c5 : Code := { maxStack := 4, maxLocals := 2, code := prog_20_method_12_code, exceptionTable := #[], attributes := #[] }
def k2m5 : Method := { name := "inBlock", desc := "(J)I", sig := { parameters := [.long], returnType := some .int }, accessFlags := 10, code := some k2c5 }
/-- com/example/tuccia/tuccia/WordArray -/
def k2 : Class := { plain "com/example/tuccia/tuccia/WordArray" (some 0) with
  accessFlags := 48
  interfaces := #[]
  cf := some (fileOf pool2 1 #[] #[{ accessFlags := 0, nameIndex := 7, descriptorIndex := 67, attributes := #[] }, { accessFlags := 0, nameIndex := 50, descriptorIndex := 51, attributes := #[] }, { accessFlags := 0, nameIndex := 59, descriptorIndex := 60, attributes := #[] }, { accessFlags := 0, nameIndex := 74, descriptorIndex := 67, attributes := #[] }, { accessFlags := 2, nameIndex := 38, descriptorIndex := 39, attributes := #[] }, { accessFlags := 10, nameIndex := 42, descriptorIndex := 43, attributes := #[] }] 48 4 #[] #[{ accessFlags := 24, nameIndex := 64, descriptorIndex := 12, attributes := #[] }, { accessFlags := 26, nameIndex := 17, descriptorIndex := 18, attributes := #[] }, { accessFlags := 26, nameIndex := 66, descriptorIndex := 12, attributes := #[] }, { accessFlags := 18, nameIndex := 11, descriptorIndex := 12, attributes := #[] }, { accessFlags := 18, nameIndex := 23, descriptorIndex := 24, attributes := #[] }, { accessFlags := 18, nameIndex := 35, descriptorIndex := 20, attributes := #[] }])
  fields := #[{ name := "BLOCK_WORDS", type := .long, accessFlags := 24, slot := 0, constantValue := 0 }, { name := "BLOCK_SHIFT", type := .int, accessFlags := 26, slot := 1, constantValue := 0 }, { name := "IN_BLOCK", type := .long, accessFlags := 26, slot := 2, constantValue := 0 }, { name := "length", type := .long, accessFlags := 18, slot := 0, constantValue := 0 }, { name := "blocks", type := (.array (.array .long)), accessFlags := 18, slot := 1, constantValue := 0 }, { name := "firstBlock", type := (.array .long), accessFlags := 18, slot := 2, constantValue := 0 }]
  methods := #[k2m0, k2m1, k2m2, k2m3, k2m4, k2m5]
  instanceTypes := #[.long, (.array (.array .long)), (.array .long)]
  staticTypes := #[.long, .int, .long]
  resolved := Array.replicate 84 none
  statics := some 0 }

def pool3 : Array CpInfo := pool [(1, .class_ 2), (0, u "java/lang/Math"), (1, .class_ 6), (1, u "java/lang/Object"), (0, u "<init>"), (0, u "()V"), (89, .class_ 100), (1, u "java/lang/Math$RandomNumberGeneratorHolder"), (20, u "(JJ)J"), (50, u "negativeZeroFloatBits"), (0, u "J"), (2, u "negativeZeroDoubleBits"), (24, u "min"), (43, u "$assertionsDisabled"), (0, u "Z"), (91, u "twoToTheDoubleScaleDown"), (0, u "D"), (4, u "twoToTheDoubleScaleUp"), (9, u "E"), (3, u "PI"), (2, u "TAU"), (2, u "DEGREES_TO_RADIANS"), (0, u "RADIANS_TO_DEGREES")] 94

def k3m0 : Method := { name := "<init>", desc := "()V", sig := { parameters := [], returnType := none }, accessFlags := 2, code := none }
def k3c1 : Code := { maxStack := 4, maxLocals := 4, code := jdk_29_method_70_code, exceptionTable := #[], attributes := #[] }
def k3m1 : Method := { name := "min", desc := "(JJ)J", sig := { parameters := [.long, .long], returnType := some .long }, accessFlags := 9, code := some k3c1 }
/-- java/lang/Math -/
def k3 : Class := { plain "java/lang/Math" (some 0) with
  accessFlags := 49
  interfaces := #[]
  cf := some (fileOf pool3 1 #[.nestMembers #[98]] #[{ accessFlags := 2, nameIndex := 7, descriptorIndex := 8, attributes := #[] }, { accessFlags := 9, nameIndex := 201, descriptorIndex := 121, attributes := #[] }] 49 4 #[] #[{ accessFlags := 25, nameIndex := 354, descriptorIndex := 339, attributes := #[] }, { accessFlags := 25, nameIndex := 358, descriptorIndex := 339, attributes := #[] }, { accessFlags := 25, nameIndex := 361, descriptorIndex := 339, attributes := #[] }, { accessFlags := 26, nameIndex := 364, descriptorIndex := 339, attributes := #[] }, { accessFlags := 26, nameIndex := 365, descriptorIndex := 339, attributes := #[] }, { accessFlags := 26, nameIndex := 172, descriptorIndex := 173, attributes := #[] }, { accessFlags := 26, nameIndex := 176, descriptorIndex := 173, attributes := #[] }, { accessFlags := 8, nameIndex := 344, descriptorIndex := 339, attributes := #[] }, { accessFlags := 8, nameIndex := 338, descriptorIndex := 339, attributes := #[] }, { accessFlags := 4120, nameIndex := 245, descriptorIndex := 246, attributes := #[] }])
  fields := #[{ name := "E", type := .double, accessFlags := 25, slot := 0, constantValue := 0 }, { name := "PI", type := .double, accessFlags := 25, slot := 1, constantValue := 0 }, { name := "TAU", type := .double, accessFlags := 25, slot := 2, constantValue := 0 }, { name := "DEGREES_TO_RADIANS", type := .double, accessFlags := 26, slot := 3, constantValue := 0 }, { name := "RADIANS_TO_DEGREES", type := .double, accessFlags := 26, slot := 4, constantValue := 0 }, { name := "negativeZeroFloatBits", type := .long, accessFlags := 26, slot := 5, constantValue := 0 }, { name := "negativeZeroDoubleBits", type := .long, accessFlags := 26, slot := 6, constantValue := 0 }, { name := "twoToTheDoubleScaleUp", type := .double, accessFlags := 8, slot := 7, constantValue := 0 }, { name := "twoToTheDoubleScaleDown", type := .double, accessFlags := 8, slot := 8, constantValue := 0 }, { name := "$assertionsDisabled", type := .boolean, accessFlags := 4120, slot := 9, constantValue := 0 }]
  methods := #[k3m0, k3m1]
  instanceTypes := #[]
  staticTypes := #[.double, .double, .double, .double, .double, .long, .long, .double, .double, .boolean]
  resolved := Array.replicate 460 none
  statics := none }

def pool4 : Array CpInfo := pool [(1, u "java/lang/Cloneable"), (0, .class_ 1), (0, u "java/lang/Object"), (0, .class_ 3)] 3

/-- java/lang/Cloneable -/
def k4 : Class := { plain "java/lang/Cloneable" (some 0) with
  accessFlags := 1537
  interfaces := #[]
  cf := some (fileOf pool4 2 #[] #[] 1537 4 #[] #[])
  fields := #[]
  methods := #[]
  instanceTypes := #[]
  staticTypes := #[]
  resolved := Array.replicate 8 none
  statics := none }

def pool5 : Array CpInfo := pool [(1, u "java/io/Serializable"), (0, .class_ 1), (0, u "java/lang/Object"), (0, .class_ 3)] 3

/-- java/io/Serializable -/
def k5 : Class := { plain "java/io/Serializable" (some 0) with
  accessFlags := 1537
  interfaces := #[]
  cf := some (fileOf pool5 2 #[] #[] 1537 4 #[] #[])
  fields := #[]
  methods := #[]
  instanceTypes := #[]
  staticTypes := #[]
  resolved := Array.replicate 8 none
  statics := none }

/-- the primitive byte -/
def k6 : Class := { plain "byte" none with kind := .primitive 'B', accessFlags := 0x411 }
/-- [B -/
def k7 : Class := { plain "[B" (some 0) with kind := .array 6 .byte, interfaces := #[4, 5], accessFlags := 1041 }

/-- the primitive int -/
def k8 : Class := { plain "int" none with kind := .primitive 'I', accessFlags := 0x411 }
/-- [I -/
def k9 : Class := { plain "[I" (some 0) with kind := .array 8 .int, interfaces := #[4, 5], accessFlags := 1041 }

/-- the primitive long -/
def k10 : Class := { plain "long" none with kind := .primitive 'J', accessFlags := 0x411 }
/-- [J -/
def k11 : Class := { plain "[J" (some 0) with kind := .array 10 .long, interfaces := #[4, 5], accessFlags := 1041 }

/-- [[J -/
def k12 : Class := { plain "[[J" (some 0) with kind := .array 11 (.array .long), interfaces := #[4, 5], accessFlags := 1041 }
def heap : Heap := #[{ cls := 2, slots := #[.long 0, .int 27, .long 0], vm := .statics 2 }]
def classes : Array Class := #[k0, k1, k2, k3, k4, k5, k6, k7, k8, k9, k10, k11, k12]
def interned : List (Array UInt16 × Addr) := []
def slotsUsed : Nat := 3
def theMethod : MethodId := ⟨1, 1⟩
def args0 : Array Value := #[.long 5, .long 5, .long 5, .long 5, .long 5]
def aboutOver (below : List Frame) : State where
  vm := { classes := classes, interned := interned.toArray }
  heap := heap
  slotsUsed := slotsUsed
  threads := #[{ frames := .invoking theMethod args0 :: below }]
def below0 : List Frame := [.native { method := ⟨0, 0⟩, args := #[] }]
def about1 : State := aboutOver below0
def p0 : Program := .bare "" "" ""
def e0 : Env := launch0.env 0 0 0
theorem w_frames : about1.frames = Frame.invoking theMethod args0 :: below0 := rfl
set_option maxRecDepth 65536 in
theorem w_args : argsFit about1.vm theMethod args0 = true := by decide +kernel
set_option maxRecDepth 65536 in
theorem w_heap : heapFits about1 = true := by decide +kernel
set_option maxRecDepth 65536 in
theorem w_runnable : about1.curStatus? = some .runnable := by decide +kernel
set_option maxRecDepth 65536 in
theorem w_alone : about1.alone = true := by decide +kernel
set_option maxRecDepth 65536 in
theorem w_named : about1.methodNamed? x = some theMethod := by decide +kernel
set_option maxRecDepth 65536 in
theorem w_hears : about1.hears theMethod below0 = true := by decide +kernel
set_option maxRecDepth 65536 in
theorem w_ripe : about1.ripe theMethod args0 below0 = true := by decide +kernel
theorem w_running : about1.status = .running := rfl
set_option maxRecDepth 65536 in
theorem w_room : about1.hasRoom e0.platform room_1 = true :=
  launch0.hasRoom_least _ room_1 (by decide +kernel) (by decide +kernel) (by decide +kernel) (by decide +kernel) (by decide +kernel) (by decide +kernel)
theorem allAtoms_all (ts : List Jvm.Cond) (a : Array Jvm.Value) (st : Jvm.State) : (allAtoms ts).before a st = ts.all (fun c => c.before a st) := by
  induction ts with
  | nil => rfl
  | cons c t ih =>
    show (Jvm.Cond.and c (allAtoms t)).before a st = _
    rw [Jvm.Cond.before_and, ih, List.all_cons]
def words1 : List Jvm.Cond := Jvm.Cond.code x code maxLocals ret :: tables_1
/-- a 'code' word, met by the world's own term for the bytes: nothing is compared byte by byte -/
theorem code_word {y : MethodName} {bytes : ByteArray} {mx : Nat} {rt : Option FieldType} {a : Array Value} {s : State} {m : MethodId} {meth : Method} {c : Code} (h1 : s.methodNamed? y = some m) (h2 : s.vm.method? m = some meth) (h3 : meth.code = some c) (h4 : c.code = bytes)
    (h5 : (c.maxLocals == mx && c.exceptionTable.isEmpty && decide (c.maxStack ≤ mostOperands) && decide (meth.sig.returnType = rt) && !meth.locks && decide (parseMethodDescriptor y.desc = some meth.sig)) = true) : (Jvm.Cond.code y bytes mx rt).before a s = true := by
  simp only [Bool.and_eq_true, beq_iff_eq, Bool.not_eq_true', decide_eq_true_eq] at h5
  obtain ⟨⟨⟨⟨⟨g1, g2⟩, g3⟩, g4⟩, g5⟩, g6⟩ := h5
  simp [Cond.before, Cond.holds, Cond.value, h1, h2, h3, h4, g1, g2, g3, g4, g5, g6]
def isCode : Jvm.Cond → Bool
  | .code _ _ _ _ => true
  | _ => false
theorem all_split {L : List Jvm.Cond} {P : Jvm.Cond → Bool} (h1 : L.all (fun c => isCode c || P c) = true) (h2 : ∀ c ∈ L.filter isCode, P c = true) : L.all P = true := by
  refine List.all_eq_true.mpr fun c hc => ?_
  have h := List.all_eq_true.mp h1 c hc
  rcases Bool.eq_false_or_eq_true (isCode c) with hi | hi
  · exact h2 c (List.mem_filter.mpr ⟨hc, hi⟩)
  · simpa [hi] using h
set_option maxRecDepth 65536 in
theorem w_c0 : (Jvm.Cond.code x code maxLocals ret).before args0 about1 = true := code_word (m := ⟨1, 1⟩) (meth := k1m1) (c := k1c1) (by decide +kernel) rfl rfl rfl (by decide +kernel)
set_option maxRecDepth 65536 in
theorem w_c1 : (Jvm.Cond.code ({ cls := "com/example/tuccia/tuccia/WordArray", name := "<init>", desc := "(J)V" } : Jvm.MethodName) prog_20_method_1_code (6 : Nat) (Option.none : Option Jvm.ClassFile.FieldType)).before args0 about1 = true := code_word (m := ⟨2, 0⟩) (meth := k2m0) (c := k2c0) (by decide +kernel) rfl rfl rfl (by decide +kernel)
set_option maxRecDepth 65536 in
theorem w_c2 : (Jvm.Cond.code ({ cls := "java/lang/Object", name := "<init>", desc := "()V" } : Jvm.MethodName) object_method_1_code (1 : Nat) (Option.none : Option Jvm.ClassFile.FieldType)).before args0 about1 = true := code_word (m := ⟨0, 0⟩) (meth := k0m0) (c := k0c0) (by decide +kernel) rfl rfl rfl (by decide +kernel)
set_option maxRecDepth 65536 in
theorem w_c3 : (Jvm.Cond.code ({ cls := "java/lang/Math", name := "min", desc := "(JJ)J" } : Jvm.MethodName) jdk_29_method_70_code (4 : Nat) (Option.some Jvm.ClassFile.FieldType.long)).before args0 about1 = true := code_word (m := ⟨3, 1⟩) (meth := k3m1) (c := k3c1) (by decide +kernel) rfl rfl rfl (by decide +kernel)
set_option maxRecDepth 65536 in
theorem w_c4 : (Jvm.Cond.code ({ cls := "com/example/tuccia/tuccia/WordArray", name := "set", desc := "(JJ)V" } : Jvm.MethodName) prog_20_method_4_code (5 : Nat) (Option.none : Option Jvm.ClassFile.FieldType)).before args0 about1 = true := code_word (m := ⟨2, 2⟩) (meth := k2m2) (c := k2c2) (by decide +kernel) rfl rfl rfl (by decide +kernel)
set_option maxRecDepth 65536 in
theorem w_c5 : (Jvm.Cond.code ({ cls := "com/example/tuccia/tuccia/WordArray", name := "blockOf", desc := "(J)[J" } : Jvm.MethodName) prog_20_method_11_code (4 : Nat) (Option.some (Jvm.ClassFile.FieldType.array Jvm.ClassFile.FieldType.long))).before args0 about1 = true := code_word (m := ⟨2, 4⟩) (meth := k2m4) (c := k2c4) (by decide +kernel) rfl rfl rfl (by decide +kernel)
set_option maxRecDepth 65536 in
theorem w_c6 : (Jvm.Cond.code ({ cls := "com/example/tuccia/tuccia/WordArray", name := "inBlock", desc := "(J)I" } : Jvm.MethodName) prog_20_method_12_code (2 : Nat) (Option.some Jvm.ClassFile.FieldType.int)).before args0 about1 = true := code_word (m := ⟨2, 5⟩) (meth := k2m5) (c := k2c5) (by decide +kernel) rfl rfl rfl (by decide +kernel)
set_option maxRecDepth 65536 in
theorem w_c7 : (Jvm.Cond.code ({ cls := "com/example/tuccia/tuccia/WordArray", name := "setBit", desc := "(J)V" } : Jvm.MethodName) prog_20_method_6_code (5 : Nat) (Option.none : Option Jvm.ClassFile.FieldType)).before args0 about1 = true := code_word (m := ⟨2, 3⟩) (meth := k2m3) (c := k2c3) (by decide +kernel) rfl rfl rfl (by decide +kernel)
set_option maxRecDepth 65536 in
theorem w_c8 : (Jvm.Cond.code ({ cls := "com/example/tuccia/tuccia/WordArray", name := "get", desc := "(J)J" } : Jvm.MethodName) prog_20_method_3_code (3 : Nat) (Option.some Jvm.ClassFile.FieldType.long)).before args0 about1 = true := code_word (m := ⟨2, 1⟩) (meth := k2m1) (c := k2c1) (by decide +kernel) rfl rfl rfl (by decide +kernel)
set_option maxRecDepth 65536 in
theorem w_c9 : (Jvm.Cond.code ({ cls := "com/example/tuccia/tuccia/WordArraySetBitPinLaw", name := "expected", desc := "(JJJJ)J" } : Jvm.MethodName) method_3_code (8 : Nat) (Option.some Jvm.ClassFile.FieldType.long)).before args0 about1 = true := code_word (m := ⟨1, 2⟩) (meth := k1m2) (c := k1c2) (by decide +kernel) rfl rfl rfl (by decide +kernel)
def codes1 : List Jvm.Cond := [Jvm.Cond.code x code maxLocals ret, Jvm.Cond.code ({ cls := "com/example/tuccia/tuccia/WordArray", name := "<init>", desc := "(J)V" } : Jvm.MethodName) prog_20_method_1_code (6 : Nat) (Option.none : Option Jvm.ClassFile.FieldType), Jvm.Cond.code ({ cls := "java/lang/Object", name := "<init>", desc := "()V" } : Jvm.MethodName) object_method_1_code (1 : Nat) (Option.none : Option Jvm.ClassFile.FieldType), Jvm.Cond.code ({ cls := "java/lang/Math", name := "min", desc := "(JJ)J" } : Jvm.MethodName) jdk_29_method_70_code (4 : Nat) (Option.some Jvm.ClassFile.FieldType.long), Jvm.Cond.code ({ cls := "com/example/tuccia/tuccia/WordArray", name := "set", desc := "(JJ)V" } : Jvm.MethodName) prog_20_method_4_code (5 : Nat) (Option.none : Option Jvm.ClassFile.FieldType), Jvm.Cond.code ({ cls := "com/example/tuccia/tuccia/WordArray", name := "blockOf", desc := "(J)[J" } : Jvm.MethodName) prog_20_method_11_code (4 : Nat) (Option.some (Jvm.ClassFile.FieldType.array Jvm.ClassFile.FieldType.long)), Jvm.Cond.code ({ cls := "com/example/tuccia/tuccia/WordArray", name := "inBlock", desc := "(J)I" } : Jvm.MethodName) prog_20_method_12_code (2 : Nat) (Option.some Jvm.ClassFile.FieldType.int), Jvm.Cond.code ({ cls := "com/example/tuccia/tuccia/WordArray", name := "setBit", desc := "(J)V" } : Jvm.MethodName) prog_20_method_6_code (5 : Nat) (Option.none : Option Jvm.ClassFile.FieldType), Jvm.Cond.code ({ cls := "com/example/tuccia/tuccia/WordArray", name := "get", desc := "(J)J" } : Jvm.MethodName) prog_20_method_3_code (3 : Nat) (Option.some Jvm.ClassFile.FieldType.long), Jvm.Cond.code ({ cls := "com/example/tuccia/tuccia/WordArraySetBitPinLaw", name := "expected", desc := "(JJJJ)J" } : Jvm.MethodName) method_3_code (8 : Nat) (Option.some Jvm.ClassFile.FieldType.long)]
set_option maxRecDepth 65536 in
theorem codes_eq : words1.filter isCode = codes1 := rfl
theorem w_codes : ∀ c ∈ words1.filter isCode, c.before args0 about1 = true := by
  rw [codes_eq]
  intro c hc
  simp only [codes1, List.mem_cons, List.not_mem_nil, or_false] at hc
  rcases hc with rfl | rfl | rfl | rfl | rfl | rfl | rfl | rfl | rfl | rfl
  · exact w_c0
  · exact w_c1
  · exact w_c2
  · exact w_c3
  · exact w_c4
  · exact w_c5
  · exact w_c6
  · exact w_c7
  · exact w_c8
  · exact w_c9
set_option maxRecDepth 65536 in
theorem w_t1 : (words1.take 24).all (fun c => isCode c || c.before args0 about1) = true := by decide +kernel
set_option maxRecDepth 65536 in
theorem w_t2 : ((words1.drop 24).take 24).all (fun c => isCode c || c.before args0 about1) = true := by decide +kernel
set_option maxRecDepth 65536 in
theorem w_t3 : ((words1.drop 24).drop 24).all (fun c => isCode c || c.before args0 about1) = true := by decide +kernel
theorem w_tables : (allAtoms (Jvm.Cond.code x code maxLocals ret :: tables_1)).before args0 about1 = true := by
  rw [allAtoms_all]
  show words1.all (fun c => c.before args0 about1) = true
  refine all_split ?_ w_codes
  rw [← List.take_append_drop 24 words1, List.all_append, w_t1, ← List.take_append_drop 24 (words1.drop 24), List.all_append, w_t2, w_t3]
  rfl
set_option maxRecDepth 65536 in
theorem w_case : (Jvm.Cond.and given_1 narrow_1).before args0 about1 = true := by decide +kernel
theorem w_applies : (headSpec (Jvm.Cond.code x code maxLocals ret :: tables_1) room_1).applies x e0.platform about1 = true :=
  (Spec.applies_iff w_frames).mpr ⟨w_running, w_runnable, w_alone, w_named, w_hears, w_ripe, w_room, w_tables⟩
theorem atStart : AtStart classFile x code maxLocals ret World_1 tables_1 room_1 Calls_1 rest_1 Pre_1 launch0 p0 e0 about1 theMethod args0 below0 :=
  ⟨lists_1, trivial, launch0.admits_env _ _ _, launch0.least_env, fairChoices_fair.cas, fairChoices_fair.clock, w_frames, w_args, w_heap, w_applies, trivial, trivial, w_case⟩
end start1
theorem witness_1 : WitnessClaimed_1 := ⟨start1.p0, start1.e0, start1.about1, start1.theMethod, start1.args0, start1.below0, start1.atStart⟩
end Jvm.Pilot.@@N@@
