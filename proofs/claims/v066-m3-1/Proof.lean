import JvmDerived
import JvmDerived.Pilot.@@N@@Statement
import JvmDerived.Pilot.@@N@@Code
set_option linter.unusedVariables false
set_option linter.unusedSimpArgs false
@@BLOCK:NumsL.lean.txt@@
namespace Jvm.RoadKit
open Sem ClassFile Op Lib Jvm.Stand Jvm.Free Jvm.LawKit
section New
variable {p : Program} {l : Launch} {e : Env} {R : Room} {s : State} {m : MethodId} {args : Array Value} {below : List Frame} {meth : Method} {c : Code} {T : State} {locs : List Loc} {cells slots : Nat}
theorem retI (X : Stand p l e R s m args below meth c T locs cells slots) (hx : p.tables.exec = Jvm.exec) {pc : Nat} {Ls : Array Slot} {z : Int32} {rest : List Value} (hret : meth.sig.returnType = some .int) (hd : decode c.code pc = .ok (.ireturn, 1)) {fs : List Frame}
    (hl : ∀ (f : JFrame) (acts : List Action), f.method = m → f.locked = none → f.entered = [] → (doReturn e (T.setTop f) acts (some (.int z))).1 = T.setFrames fs) : Steps p.tables e below (T.setTop (mkF m pc Ls (.int z :: rest))) (T.setFrames fs) := by
  have hm' : T.vm.method? m = some meth := X.method'
  have hn : narrow .int (.int z) = .int z := rfl
  show Steps p.tables e below (T.setTop { method := m, pc := pc, locals := Ls, stack := _ :: rest, locked := none }) _
  jvm_step X.here [X.here.top, hx, hd, hm', hret, hn]
  first | (intro acts; rw [hl _ acts rfl rfl rfl]) | rw [hl _ _ rfl rfl rfl]
  exact Steps.refl _
end New
end Jvm.RoadKit
namespace Jvm.Pilot.@@N@@
open Jvm Jvm.ClassFile Sem Op Lib Jvm.Free Jvm.Stand Jvm.LawKit Jvm.RoadKit Bundle Jvm.Pilot.@@N@@.Jvm.D
/-! own_Goes: from S the run comes to some state of which G holds: such a goal may be split in the middle of a walk -/
def own_Goes (p : Program) (e : Env) (below : List Frame) (S : State) (G : State → Prop) : Prop := ∃ t, Steps p.tables e below S t ∧ G t
theorem own_via {p : Program} {e : Env} {below : List Frame} {S S' : State} {G : State → Prop} (f : ∀ t, Steps p.tables e below S' t → Steps p.tables e below S t) (h : own_Goes p e below S' G) : own_Goes p e below S G := by
  obtain ⟨t, h1, h2⟩ := h
  exact ⟨t, f t h1, h2⟩
theorem own_end {p : Program} {e : Env} {below : List Frame} {S t : State} {G : State → Prop} (h : Steps p.tables e below S t) (g : G t) : own_Goes p e below S G := ⟨t, h, g⟩
theorem own_out {p : Program} {e : Env} {below : List Frame} {S : State} {P : State → Outcome → Prop} (h : own_Goes p e below S (fun t => ∃ o, t.status = .running ∧ Ended t below o ∧ P t o)) : ∃ t o, Steps p.tables e below S t ∧ t.status = .running ∧ Ended t below o ∧ P t o := by
  obtain ⟨t, h1, o, h2, h3, h4⟩ := h
  exact ⟨t, o, h1, h2, h3, h4⟩
theorem wd {a0 : Array Value} {Z : State} (hw : ∀ d ∈ tables_1, d.before a0 Z = true) (i : Nat) {d : Jvm.Cond} (h : tables_1[i]? = some d) : d.before a0 Z = true := hw _ (List.mem_of_getElem? h)
theorem own_old {Z : State} {n0 : Nat} {h : Heap} (O : Old Z n0 h) : n0 ≤ h.size := by rw [← O.1]; exact O.2.1
def own_Q0 (n0 : Nat) (v : Option Value) (L : List Loc) : Prop := v = some (.int (1 : Int32)) ∧ Fr n0 L
def own_G (s : State) (below : List Frame) (n0 : Nat) (t : State) : Prop := ∃ o, t.status = .running ∧ Ended t below o ∧ ∃ v L, o = .returned v ∧ own_Q0 n0 v L ∧ FrameEnd s o t L room_1.cells room_1.slots
def own_Len (Z : State) (h : Heap) (a : Addr) (ty : FieldType) (n : Int32) : Prop := ∃ k vs d, Arv Z h a k ty n vs d
theorem own_len_ext {Z : State} {h h' : Heap} {a : Addr} {ty : FieldType} {n : Int32} (F : own_Len Z h a ty n) (E : Ext h h') : own_Len Z h' a ty n := by
  obtain ⟨k, vs, d, V⟩ := F
  exact ⟨k, vs, d, V.ext E⟩
theorem own_len_other {Z : State} {h h' : Heap} {a b : Addr} {sl : Nat} {v : Value} {ty : FieldType} {n : Int32} (F : own_Len Z h b ty n) (W : Wr h h' a sl v) (q : b ≠ a) : own_Len Z h' b ty n := by
  obtain ⟨k, vs, d, V⟩ := F
  exact ⟨k, vs, d, V.other W q⟩
theorem own_len_keep {Z : State} {h h' : Heap} {a : Addr} {ws : List Addr} {ty : FieldType} {n : Int32} (F : own_Len Z h a ty n) (K : Keep h h' ws) (q : a ∉ ws) : own_Len Z h' a ty n := by
  obtain ⟨k, vs, d, V⟩ := F
  exact ⟨k, vs, d, V.keep K q⟩
theorem own_len_lt {Z : State} {h : Heap} {a : Addr} {ty : FieldType} {n : Int32} (F : own_Len Z h a ty n) : a < h.size := by
  obtain ⟨k, vs, d, V⟩ := F
  exact V.lt
theorem own_c2 (x : Int32) : x.toUInt32.toUInt16.toUInt32.toInt32.toUInt32.toUInt16.toUInt32.toInt32 = x.toUInt32.toUInt16.toUInt32.toInt32 := by rw [UInt32.toUInt32_toInt32, UInt16.toUInt16_toUInt32]
theorem own_b2 (x : Int32) : x.toInt8.toInt32.toInt8.toInt32 = x.toInt8.toInt32 := by rw [Int8.toInt8_toInt32]
section Calls
variable {p : Program} {l : Launch} {e : Env} {R : Room} {s : State} {m : MethodId} {args : Array Value} {below : List Frame} {meth : Method} {c : Code} {T : State} {locs : List Loc} {cells slots : Nat} {Z : State} {a0 : Array Value} {h : Heap} {own C : String} {index : Nat} {y : MethodName} {bytes : ByteArray} {maxL : Nat} {rm : Room} {Q : Option Value → Heap → List Loc → Prop} {a : Addr} {argsL : List Value} {g : JFrame}
/-! a call by its contract, in one step: virtual (the class's own method), a constructor, static -/
theorem own_cv {ret : Option FieldType} (X : Stand p l e R s m args below meth c T locs cells slots) (hx : p.tables.exec = Jvm.exec) (hZ : Z.Warmed39 s.vm) (hown : s.vm.findClass own = some m.cls) (w1 : (Jvm.Cond.methodLink own index y).before a0 Z = true) (w2 : (Jvm.Cond.declares y).before a0 Z = true) (w3 : (Jvm.Cond.selects C y y).before a0 Z = true) (w4 : (Jvm.Cond.instanceMethod y).before a0 Z = true) (wc : (Jvm.Cond.code y bytes maxL ret).before a0 Z = true) (wz : (Jvm.Cond.initialized y.cls).before a0 Z = true) (hy : y.cls ≠ "java/lang/invoke/MethodHandle" ∧ y.cls ≠ "java/lang/invoke/VarHandle")
    (hM : MetFree l y (head1 [Jvm.Cond.code y bytes maxL ret] rm) (fun A U => A = (.ref a :: argsL).toArray ∧ Z.Warmed39 U.vm ∧ U.heap = h) (fun _ _ _ _ _ => True) (fun _ U o U' => ∃ v L, o = .returned v ∧ Q v U'.heap L ∧ FrameEnd U o U' L rm.cells rm.slots)) (eT : T.heap = h) (E : Exa Z h a C) (hg : g.method = m) (hsize : g.locals.size = c.maxLocals) {rest : List Value} {W : Nat}
    (hlen : ∀ sig, parseMethodDescriptor y.desc = some sig → argsL.length = sig.parameters.length) (hstack : g.stack = argsL.reverse ++ .ref a :: rest) (hW : 2 * g.monitorRoom + (rest.map fun v => v.category).sum ≤ W) (hdg : decode c.code g.pc = .ok (.invokevirtual index, 3)) (r1 : rm.frames + 1 ≤ R.frames) (r2 : W + (maxL + 11) + rm.locals ≤ R.locals) (r3 : cells + rm.cells ≤ R.cells) (r4 : slots + rm.slots ≤ R.slots) :
    ∃ (v : Option Value) (T' : State) (L : List Loc), Stand p l e R s m args below meth c T' (locs ++ L) (cells + rm.cells) (slots + rm.slots) ∧ Q v T'.heap L ∧ ∀ t, Steps p.tables e below (T'.setTop { g with pc := g.pc + 3, stack := v.toList ++ rest }) t → Steps p.tables e below (T.setTop g) t := by
  obtain ⟨cq, kq, qa, -, qc⟩ := isOf hZ eT E
  obtain ⟨v, _, ⟨T', L', c', n'⟩, -, X', ⟨Lc, hQ, l1, y1, z1⟩, st⟩ := X.virtualBack hx (y := y) (z := y) hown (mvT hZ w1) (mvT hZ w2) (notFace_of_selects (args := #[]) (mvT hZ w3)) (mvT hZ w3) (mvT hZ w4) hy (backOf (W := W) hM hZ wc wz r1 r2) qa qc (g := g) hg hsize (Steps.refl _) (argsL := argsL) (rest := rest) hlen hstack hW hdg (fun _ _ => ⟨rfl, eT, r3, r4⟩)
  dsimp only [Pt.U, Pt.locs, Pt.cells, Pt.slots] at X' l1 y1 z1 st hQ
  subst l1 y1 z1
  exact ⟨v, T', Lc, X', hQ, fun t k => st.trans k⟩
theorem own_ci (X : Stand p l e R s m args below meth c T locs cells slots) (hx : p.tables.exec = Jvm.exec) (hZ : Z.Warmed39 s.vm) (hown : s.vm.findClass own = some m.cls) (w1 : (Jvm.Cond.methodLink own index y).before a0 Z = true) (w4 : (Jvm.Cond.instanceMethod y).before a0 Z = true) (wc : (Jvm.Cond.code y bytes maxL none).before a0 Z = true) (wz : (Jvm.Cond.initialized y.cls).before a0 Z = true) (hi : y.name = "<init>") (hy : y.cls ≠ "java/lang/invoke/MethodHandle" ∧ y.cls ≠ "java/lang/invoke/VarHandle")
    (hM : MetFree l y (head1 [Jvm.Cond.code y bytes maxL none] rm) (fun A U => A = (.ref a :: argsL).toArray ∧ Z.Warmed39 U.vm ∧ U.heap = h) (fun _ _ _ _ _ => True) (fun _ U o U' => ∃ v L, o = .returned v ∧ Q v U'.heap L ∧ FrameEnd U o U' L rm.cells rm.slots)) (eT : T.heap = h) (hg : g.method = m) (hsize : g.locals.size = c.maxLocals) {rest : List Value} {W : Nat}
    (hlen : ∀ sig, parseMethodDescriptor y.desc = some sig → argsL.length = sig.parameters.length) (hstack : g.stack = argsL.reverse ++ .ref a :: rest) (hW : 2 * g.monitorRoom + (rest.map fun v => v.category).sum ≤ W) (hdg : decode c.code g.pc = .ok (.invokespecial index, 3)) (r1 : rm.frames + 1 ≤ R.frames) (r2 : W + (maxL + 11) + rm.locals ≤ R.locals) (r3 : cells + rm.cells ≤ R.cells) (r4 : slots + rm.slots ≤ R.slots) :
    ∃ (v : Option Value) (T' : State) (L : List Loc), Stand p l e R s m args below meth c T' (locs ++ L) (cells + rm.cells) (slots + rm.slots) ∧ Q v T'.heap L ∧ ∀ t, Steps p.tables e below (T'.setTop { g with pc := g.pc + 3, stack := v.toList ++ rest }) t → Steps p.tables e below (T.setTop g) t := by
  obtain ⟨v, _, ⟨T', L', c', n'⟩, -, X', ⟨Lc, hQ, l1, y1, z1⟩, st⟩ := X.specialBack hx (y := y) hi hown (mvT hZ w1) (mvT hZ w4) (mvT hZ wc) hy (backOf (W := W) hM hZ wc wz r1 r2) (g := g) hg hsize (Steps.refl _) (a := a) (argsL := argsL) (rest := rest) hlen hstack hW hdg (fun _ _ => ⟨rfl, eT, r3, r4⟩)
  dsimp only [Pt.U, Pt.locs, Pt.cells, Pt.slots] at X' l1 y1 z1 st hQ
  subst l1 y1 z1
  exact ⟨v, T', Lc, X', hQ, fun t k => st.trans k⟩
theorem own_cs {ret : Option FieldType} (X : Stand p l e R s m args below meth c T locs cells slots) (hx : p.tables.exec = Jvm.exec) (hZ : Z.Warmed39 s.vm) (hown : s.vm.findClass own = some m.cls) (w1 : (Jvm.Cond.methodLink own index y).before a0 Z = true) (w4 : (Jvm.Cond.static y).before a0 Z = true) (wc : (Jvm.Cond.code y bytes maxL ret).before a0 Z = true) (wz : (Jvm.Cond.initialized y.cls).before a0 Z = true) (hy : y.cls ≠ "java/lang/invoke/MethodHandle" ∧ y.cls ≠ "java/lang/invoke/VarHandle")
    (hM : MetFree l y (head1 [Jvm.Cond.code y bytes maxL ret] rm) (fun A U => A = argsL.toArray ∧ Z.Warmed39 U.vm ∧ U.heap = h) (fun _ _ _ _ _ => True) (fun _ U o U' => ∃ v L, o = .returned v ∧ Q v U'.heap L ∧ FrameEnd U o U' L rm.cells rm.slots)) (eT : T.heap = h) (hg : g.method = m) (hsize : g.locals.size = c.maxLocals) {rest : List Value} {W : Nat}
    (hlen : ∀ sig, parseMethodDescriptor y.desc = some sig → argsL.length = sig.parameters.length) (hstack : g.stack = argsL.reverse ++ rest) (hW : 2 * g.monitorRoom + (rest.map fun v => v.category).sum ≤ W) (hdg : decode c.code g.pc = .ok (.invokestatic index, 3)) (r1 : rm.frames + 1 ≤ R.frames) (r2 : W + (maxL + 11) + rm.locals ≤ R.locals) (r3 : cells + rm.cells ≤ R.cells) (r4 : slots + rm.slots ≤ R.slots) :
    ∃ (v : Option Value) (T' : State) (L : List Loc), Stand p l e R s m args below meth c T' (locs ++ L) (cells + rm.cells) (slots + rm.slots) ∧ Q v T'.heap L ∧ ∀ t, Steps p.tables e below (T'.setTop { g with pc := g.pc + 3, stack := v.toList ++ rest }) t → Steps p.tables e below (T.setTop g) t := by
  obtain ⟨v, _, ⟨T', L', c', n'⟩, -, X', ⟨Lc, hQ, l1, y1, z1⟩, st⟩ := Jvm.LawKit.callS X hx (y := y) hown (mvT hZ w1) (mvT hZ w4) (mvT hZ wz) (mvT hZ wc) hy (backOf (W := W) hM hZ wc wz r1 r2) (g := g) hg hsize (argsL := argsL) (rest := rest) hlen hstack hW hdg (fun _ _ => ⟨rfl, eT, r3, r4⟩)
  dsimp only [Pt.U, Pt.locs, Pt.cells, Pt.slots] at X' l1 y1 z1 st hQ
  subst l1 y1 z1
  exact ⟨v, T', Lc, X', hQ, st⟩
end Calls
theorem own_eq_ref {args : Array Value} {s : State} {a b : Term} {w : Addr} (h : (Jvm.Cond.eq a b).value args s none s [] = some true) (hb : b.eval args s none [] s = some (.ref w)) : a.eval args s none [] s = some (.ref w) := by
  obtain ⟨x, y, e1, e2, k1, k2⟩ := cmp_v (Or.inl h)
  rw [hb] at e2
  cases e2
  have hx : x.isRef = true := by cases x <;> simp_all [Kin, Value.isRef]
  have q := gotT (eq_R e1 hb hx rfl) h
  rw [e1, q]
theorem own_ne_ref {args : Array Value} {s : State} {a b : Term} {u w : Addr} (h : (Jvm.Cond.not (Jvm.Cond.eq a b)).value args s none s [] = some true) (ha : a.eval args s none [] s = some (.ref u)) (hb : b.eval args s none [] s = some (.ref w)) : u ≠ w := fun q => gotF (eq_R ha hb rfl rfl) (not_v h) (by rw [q])
theorem own_nn_mask (x m : Int32) (k : Nat) (hk : k < 32) (hm : m.toBitVec.toNat = 2 ^ k - 1) : ¬ ((x &&& m) < (0 : Int32)) := by
  rw [Int32.lt_iff_toInt_lt, Jvm.Kit.i32_mask x m hk hm]
  have h := Int.emod_nonneg x.toInt (show ((2 : Int) ^ k) ≠ 0 from Int.ne_of_gt (Int.pow_pos (by decide)))
  rw [Int32.toInt_zero]
  omega
theorem own_lt_mask (x m : Int32) (k : Nat) (hk : k < 32) (hm : m.toBitVec.toNat = 2 ^ k - 1) {n : Int32} (hn : n.toInt = 2 ^ k) : (x &&& m) < n := by
  rw [Int32.lt_iff_toInt_lt, Jvm.Kit.i32_mask x m hk hm, hn]
  exact Int.emod_lt_of_pos _ (Int.pow_pos (by decide))
theorem own_nn_rem {x : Int32} (n : Int32) (h : ¬ (x < (0 : Int32))) : ¬ (x % n < (0 : Int32)) := by
  rw [Int32.lt_iff_toInt_lt, Int32.toInt_zero] at h ⊢
  rw [Int32.toInt_mod]
  have := Int.tmod_nonneg n.toInt (show 0 ≤ x.toInt by omega)
  omega
theorem own_pos {n : Int32} (h : (0 : Int32) < n) : 0 < n.toInt := by
  rw [Int32.lt_iff_toInt_lt, Int32.toInt_zero] at h
  exact h
theorem own_ne0 {n : Int32} (h : (0 : Int32) < n) : n ≠ 0 := fun q => by
  rw [q] at h
  exact absurd h (by decide)
theorem own_lt_rem {x : Int32} (n : Int32) (h : ¬ (x < (0 : Int32))) (hn : 0 < n.toInt) : x % n < n := by
  rw [Int32.lt_iff_toInt_lt] at h ⊢
  rw [Int32.toInt_zero] at h
  rw [Jvm.Kit.i32_rem_nonneg (by omega)]
  exact Int.emod_lt_of_pos _ hn
theorem own_modlo (x n : Int32) (hn : 0 < n.toInt) : 0 ≤ ((x &&& (2147483647 : Int32)) % n).toInt := by
  have a := Jvm.Kit.i32_mask x 2147483647 (k := 31) (by decide) (by decide)
  rw [Jvm.Kit.i32_rem_nonneg (by omega)]
  exact Int.emod_nonneg _ (by omega)
theorem own_modhi (x n : Int32) (hn : 0 < n.toInt) : ((x &&& (2147483647 : Int32)) % n).toInt < n.toInt := by
  have a := Jvm.Kit.i32_mask x 2147483647 (k := 31) (by decide) (by decide)
  rw [Jvm.Kit.i32_rem_nonneg (by omega)]
  exact Int.emod_lt_of_pos _ hn
abbrev zs1 : String := "com/example/starcourse/starcourse/catalog/VotableDatatype"
abbrev zs2 : String := "Lcom/example/starcourse/starcourse/catalog/VotableDatatype;"
abbrev zs3 : String := "java/lang/Enum"
abbrev zs4 : String := "com/example/starcourse/starcourse/catalog/VotableDatatypeIsReadLooselyPinLaw"
abbrev zs5 : String := "isReadLoosely"
abbrev zs6 : String := "UNSIGNED_BYTE"
theorem d1_0 : decode method_3_code 0 = .ok (.iload_n 0, 1) := by decide +kernel
theorem d1_1 : decode method_3_code 1 = .ok (.ifCond .ne 7, 3) := by decide +kernel
theorem d1_4 : decode method_3_code 4 = .ok (.getstatic 20, 3) := by decide +kernel
theorem d1_7 : decode method_3_code 7 = .ok (.areturn, 1) := by decide +kernel
theorem d1_8 : decode method_3_code 8 = .ok (.iload_n 0, 1) := by decide +kernel
theorem d1_9 : decode method_3_code 9 = .ok (.iconst 1, 1) := by decide +kernel
theorem d1_10 : decode method_3_code 10 = .ok (.if_icmp .ne 7, 3) := by decide +kernel
theorem d1_13 : decode method_3_code 13 = .ok (.getstatic 24, 3) := by decide +kernel
theorem d1_16 : decode method_3_code 16 = .ok (.areturn, 1) := by decide +kernel
theorem d1_17 : decode method_3_code 17 = .ok (.iload_n 0, 1) := by decide +kernel
theorem d1_18 : decode method_3_code 18 = .ok (.iconst 2, 1) := by decide +kernel
theorem d1_19 : decode method_3_code 19 = .ok (.if_icmp .ne 7, 3) := by decide +kernel
theorem d1_22 : decode method_3_code 22 = .ok (.getstatic 27, 3) := by decide +kernel
theorem d1_25 : decode method_3_code 25 = .ok (.areturn, 1) := by decide +kernel
theorem d1_26 : decode method_3_code 26 = .ok (.iload_n 0, 1) := by decide +kernel
theorem d1_27 : decode method_3_code 27 = .ok (.iconst 3, 1) := by decide +kernel
theorem d1_28 : decode method_3_code 28 = .ok (.if_icmp .ne 7, 3) := by decide +kernel
theorem d1_31 : decode method_3_code 31 = .ok (.getstatic 30, 3) := by decide +kernel
theorem d1_34 : decode method_3_code 34 = .ok (.areturn, 1) := by decide +kernel
theorem d1_35 : decode method_3_code 35 = .ok (.iload_n 0, 1) := by decide +kernel
theorem d1_36 : decode method_3_code 36 = .ok (.iconst 4, 1) := by decide +kernel
theorem d1_37 : decode method_3_code 37 = .ok (.if_icmp .ne 7, 3) := by decide +kernel
theorem d1_40 : decode method_3_code 40 = .ok (.getstatic 33, 3) := by decide +kernel
theorem d1_43 : decode method_3_code 43 = .ok (.areturn, 1) := by decide +kernel
theorem d1_44 : decode method_3_code 44 = .ok (.iload_n 0, 1) := by decide +kernel
theorem d1_45 : decode method_3_code 45 = .ok (.iconst 5, 1) := by decide +kernel
theorem d1_46 : decode method_3_code 46 = .ok (.if_icmp .ne 7, 3) := by decide +kernel
theorem d1_49 : decode method_3_code 49 = .ok (.getstatic 36, 3) := by decide +kernel
theorem d1_52 : decode method_3_code 52 = .ok (.areturn, 1) := by decide +kernel
theorem d1_53 : decode method_3_code 53 = .ok (.iload_n 0, 1) := by decide +kernel
theorem d1_54 : decode method_3_code 54 = .ok (.bipush 6, 2) := by decide +kernel
theorem d1_56 : decode method_3_code 56 = .ok (.if_icmp .ne 7, 3) := by decide +kernel
theorem d1_59 : decode method_3_code 59 = .ok (.getstatic 39, 3) := by decide +kernel
theorem d1_62 : decode method_3_code 62 = .ok (.areturn, 1) := by decide +kernel
theorem d1_63 : decode method_3_code 63 = .ok (.iload_n 0, 1) := by decide +kernel
theorem d1_64 : decode method_3_code 64 = .ok (.bipush 7, 2) := by decide +kernel
theorem d1_66 : decode method_3_code 66 = .ok (.if_icmp .ne 7, 3) := by decide +kernel
theorem d1_69 : decode method_3_code 69 = .ok (.getstatic 42, 3) := by decide +kernel
theorem d1_72 : decode method_3_code 72 = .ok (.areturn, 1) := by decide +kernel
theorem d1_73 : decode method_3_code 73 = .ok (.iload_n 0, 1) := by decide +kernel
theorem d1_74 : decode method_3_code 74 = .ok (.bipush 8, 2) := by decide +kernel
theorem d1_76 : decode method_3_code 76 = .ok (.if_icmp .ne 7, 3) := by decide +kernel
theorem d1_79 : decode method_3_code 79 = .ok (.getstatic 45, 3) := by decide +kernel
theorem d1_82 : decode method_3_code 82 = .ok (.areturn, 1) := by decide +kernel
theorem d1_83 : decode method_3_code 83 = .ok (.iload_n 0, 1) := by decide +kernel
theorem d1_84 : decode method_3_code 84 = .ok (.bipush 9, 2) := by decide +kernel
theorem d1_86 : decode method_3_code 86 = .ok (.if_icmp .ne 7, 3) := by decide +kernel
theorem d1_89 : decode method_3_code 89 = .ok (.getstatic 48, 3) := by decide +kernel
theorem d1_92 : decode method_3_code 92 = .ok (.areturn, 1) := by decide +kernel
theorem d1_93 : decode method_3_code 93 = .ok (.iload_n 0, 1) := by decide +kernel
theorem d1_94 : decode method_3_code 94 = .ok (.bipush 10, 2) := by decide +kernel
theorem d1_96 : decode method_3_code 96 = .ok (.if_icmp .ne 7, 3) := by decide +kernel
theorem d1_99 : decode method_3_code 99 = .ok (.getstatic 51, 3) := by decide +kernel
theorem d1_102 : decode method_3_code 102 = .ok (.areturn, 1) := by decide +kernel
theorem d1_103 : decode method_3_code 103 = .ok (.getstatic 54, 3) := by decide +kernel
theorem d1_106 : decode method_3_code 106 = .ok (.areturn, 1) := by decide +kernel
theorem ef_1 (m : MethodId) (x0 : Int32) : entryFrame m #[(.int x0)] 1 = mkF m 0 #[iv x0] [] := by first | (simp [entryFrame, mkF, argsToLocals, Value.category]; done) | rfl
theorem pn_1 : plainName "com/example/starcourse/starcourse/catalog/VotableDatatypeIsReadLooselyPinLaw" = true := by first | (simp [plainName, overriddenIn]; done) | decide +kernel
def Q1 (Z : State) (p84 : Int32) (w47 : Addr) (w53 : Addr) (w49 : Addr) (w56 : Addr) (w65 : Addr) (w80 : Addr) (w77 : Addr) (w59 : Addr) (w68 : Addr) (w74 : Addr) (w71 : Addr) (w62 : Addr) (h0 : Heap) (n0 : Nat) (v : Option Value) (h : Heap) (L : List Loc) : Prop := (p84 = (0 : Int32) ∧ v = some (.ref w47) ∧ Fr n0 L ∧ h = h0) ∨ (¬ (p84 = (0 : Int32)) ∧ p84 = (1 : Int32) ∧ v = some (.ref w53) ∧ Fr n0 L ∧ h = h0) ∨ (¬ (p84 = (0 : Int32)) ∧ ¬ (p84 = (1 : Int32)) ∧ p84 = (2 : Int32) ∧ v = some (.ref w49) ∧ Fr n0 L ∧ h = h0) ∨ (¬ (p84 = (0 : Int32)) ∧ ¬ (p84 = (1 : Int32)) ∧ ¬ (p84 = (2 : Int32)) ∧ p84 = (3 : Int32) ∧ v = some (.ref w56) ∧ Fr n0 L ∧ h = h0) ∨ (¬ (p84 = (0 : Int32)) ∧ ¬ (p84 = (1 : Int32)) ∧ ¬ (p84 = (2 : Int32)) ∧ ¬ (p84 = (3 : Int32)) ∧ p84 = (4 : Int32) ∧ v = some (.ref w65) ∧ Fr n0 L ∧ h = h0) ∨ (¬ (p84 = (0 : Int32)) ∧ ¬ (p84 = (1 : Int32)) ∧ ¬ (p84 = (2 : Int32)) ∧ ¬ (p84 = (3 : Int32)) ∧ ¬ (p84 = (4 : Int32)) ∧ p84 = (5 : Int32) ∧ v = some (.ref w80) ∧ Fr n0 L ∧ h = h0) ∨ (¬ (p84 = (0 : Int32)) ∧ ¬ (p84 = (1 : Int32)) ∧ ¬ (p84 = (2 : Int32)) ∧ ¬ (p84 = (3 : Int32)) ∧ ¬ (p84 = (4 : Int32)) ∧ ¬ (p84 = (5 : Int32)) ∧ p84 = (6 : Int32) ∧ v = some (.ref w77) ∧ Fr n0 L ∧ h = h0) ∨ (¬ (p84 = (0 : Int32)) ∧ ¬ (p84 = (1 : Int32)) ∧ ¬ (p84 = (2 : Int32)) ∧ ¬ (p84 = (3 : Int32)) ∧ ¬ (p84 = (4 : Int32)) ∧ ¬ (p84 = (5 : Int32)) ∧ ¬ (p84 = (6 : Int32)) ∧ p84 = (7 : Int32) ∧ v = some (.ref w59) ∧ Fr n0 L ∧ h = h0) ∨ (¬ (p84 = (0 : Int32)) ∧ ¬ (p84 = (1 : Int32)) ∧ ¬ (p84 = (2 : Int32)) ∧ ¬ (p84 = (3 : Int32)) ∧ ¬ (p84 = (4 : Int32)) ∧ ¬ (p84 = (5 : Int32)) ∧ ¬ (p84 = (6 : Int32)) ∧ ¬ (p84 = (7 : Int32)) ∧ p84 = (8 : Int32) ∧ v = some (.ref w68) ∧ Fr n0 L ∧ h = h0) ∨ (¬ (p84 = (0 : Int32)) ∧ ¬ (p84 = (1 : Int32)) ∧ ¬ (p84 = (2 : Int32)) ∧ ¬ (p84 = (3 : Int32)) ∧ ¬ (p84 = (4 : Int32)) ∧ ¬ (p84 = (5 : Int32)) ∧ ¬ (p84 = (6 : Int32)) ∧ ¬ (p84 = (7 : Int32)) ∧ ¬ (p84 = (8 : Int32)) ∧ p84 = (9 : Int32) ∧ v = some (.ref w74) ∧ Fr n0 L ∧ h = h0) ∨ (¬ (p84 = (0 : Int32)) ∧ ¬ (p84 = (1 : Int32)) ∧ ¬ (p84 = (2 : Int32)) ∧ ¬ (p84 = (3 : Int32)) ∧ ¬ (p84 = (4 : Int32)) ∧ ¬ (p84 = (5 : Int32)) ∧ ¬ (p84 = (6 : Int32)) ∧ ¬ (p84 = (7 : Int32)) ∧ ¬ (p84 = (8 : Int32)) ∧ ¬ (p84 = (9 : Int32)) ∧ p84 = (10 : Int32) ∧ v = some (.ref w71) ∧ Fr n0 L ∧ h = h0) ∨ (¬ (p84 = (0 : Int32)) ∧ ¬ (p84 = (1 : Int32)) ∧ ¬ (p84 = (2 : Int32)) ∧ ¬ (p84 = (3 : Int32)) ∧ ¬ (p84 = (4 : Int32)) ∧ ¬ (p84 = (5 : Int32)) ∧ ¬ (p84 = (6 : Int32)) ∧ ¬ (p84 = (7 : Int32)) ∧ ¬ (p84 = (8 : Int32)) ∧ ¬ (p84 = (9 : Int32)) ∧ ¬ (p84 = (10 : Int32)) ∧ v = some (.ref w62) ∧ Fr n0 L ∧ h = h0)
set_option maxRecDepth 65536 in
set_option maxHeartbeats 40000000 in
theorem rm1 (l : Launch) (Z : State) (a0 : Array Value) (hw : ∀ d ∈ tables_1, d.before a0 Z = true) (ws : List Jvm.Cond) (p84 : Int32) (w47 : Addr) (w53 : Addr) (w49 : Addr) (w56 : Addr) (w65 : Addr) (w80 : Addr) (w77 : Addr) (w59 : Addr) (w68 : Addr) (w74 : Addr) (w71 : Addr) (w62 : Addr) (h0 : Heap) (n0 : Nat) (O0 : Old Z n0 h0) (S_VotableDatatype_BOOLEAN : Sta Z Z.heap zs1 "BOOLEAN" zs2 (.ref w47)) (S_VotableDatatype_BIT : Sta Z Z.heap zs1 "BIT" zs2 (.ref w53)) (S_VotableDatatype_UNSIGNED_BYTE : Sta Z Z.heap zs1 zs6 zs2 (.ref w49)) (S_VotableDatatype_SHORT : Sta Z Z.heap zs1 "SHORT" zs2 (.ref w56)) (S_VotableDatatype_INT : Sta Z Z.heap zs1 "INT" zs2 (.ref w65)) (S_VotableDatatype_LONG : Sta Z Z.heap zs1 "LONG" zs2 (.ref w80)) (S_VotableDatatype_CHAR : Sta Z Z.heap zs1 "CHAR" zs2 (.ref w77)) (S_VotableDatatype_UNICODE_CHAR : Sta Z Z.heap zs1 "UNICODE_CHAR" zs2 (.ref w59)) (S_VotableDatatype_FLOAT : Sta Z Z.heap zs1 "FLOAT" zs2 (.ref w68)) (S_VotableDatatype_DOUBLE : Sta Z Z.heap zs1 "DOUBLE" zs2 (.ref w74)) (S_VotableDatatype_FLOAT_COMPLEX : Sta Z Z.heap zs1 "FLOAT_COMPLEX" zs2 (.ref w71)) (S_VotableDatatype_DOUBLE_COMPLEX : Sta Z Z.heap zs1 "DOUBLE_COMPLEX" zs2 (.ref w62)) :
    MetFree l (⟨zs4, "pick", "(I)Lcom/example/starcourse/starcourse/catalog/VotableDatatype;"⟩ : MethodName) (head1 (Jvm.Cond.code (⟨zs4, "pick", "(I)Lcom/example/starcourse/starcourse/catalog/VotableDatatype;"⟩ : MethodName) method_3_code 1 (some (.object zs1)) :: ws) ({ frames := 0, cells := 0, slots := 0, locals := 0 } : Room)) (fun a U => a = #[(.int p84)] ∧ Z.Warmed39 U.vm ∧ U.heap = h0) (fun _ _ _ _ _ => True) (fun _ U o U' => ∃ v L, o = .returned v ∧ Q1 Z p84 w47 w53 w49 w56 w65 w80 w77 w59 w68 w74 w71 w62 h0 n0 v U'.heap L ∧ FrameEnd U o U' L ({ frames := 0, cells := 0, slots := 0, locals := 0 } : Room).cells ({ frames := 0, cells := 0, slots := 0, locals := 0 } : Room).slots) := by
  refine MetFree.of_bodySF (plainFor_of_name pn_1) hisR ?_
  intro p e s m args below meth c s₁ Bd hml0 hP hK
  obtain ⟨rfl, hZ, hh⟩ := hP
  have hx := Bd.exec
  have hby := Bd.bytes
  have hml : c.maxLocals = 1 := hml0
  have hown : s.vm.findClass zs4 = some m.cls := findClass_of_methodNamed Bd.named
  have hnm := (name_of_methodNamed Bd.named Bd.method).1
  have X0 : Stand p l e ({ frames := 0, cells := 0, slots := 0, locals := 0 } : Room) s m #[(.int p84)] below meth c s₁ [] 0 0 := Stand.of_body Bd
  have e0 : s₁.heap = h0 := by rw [← hh, Bd.state]; rfl
  have N0 := Fr.nil n0
  refine own_out ?_
  refine own_via (fun t k => castTop (ef_1 m p84) (XS.iloadN X0.here hx rfl (hb hby d1_0) rfl k)) ?_
  show own_Goes p e below (s₁.setTop (mkF m 1 #[iv p84] [(.int p84)])) _
  by_cases hc89 : p84 = (0 : Int32)
  · refine own_via (fun t k => XS.ifNo X0.here hx rfl (hb hby d1_1) rfl ((if0 _ _).trans (teq hc89).2) k) ?_
    obtain ⟨T90, X90, e90, st90⟩ := getS2 X0 hx hZ hown (host := "") (Or.inl (wd hw 5 rfl)) Via.refl e0 (S_VotableDatatype_BOOLEAN.ext O0.2) (g := (mkF m 4 #[iv p84] [])) rfl (hb hby d1_4)
    refine own_via (fun t k => st90 t k) ?_
    obtain ⟨fs, hr, hrun, hended, hW, hsame⟩ := X90.leave (v := some (.ref w47)) (fun h => by rw [Bd.returns] at h; cases h)
    refine own_end (t := T90.setFrames fs) ?_ ⟨_, hrun, hended, _, _, rfl, ?_, ⟨_, rfl⟩, hW, hsame.mono (by decide) (by decide)⟩
    · jvm_step X90.here [X90.here.top, hx, (hb hby d1_7), X90.method', Bd.returns, Value.isRef, FieldType.isReference]
      first | (intro acts; rw [hr _ acts rfl rfl rfl]) | rw [hr _ _ rfl rfl rfl]
      exact Steps.refl _
    · show Q1 Z p84 w47 w53 w49 w56 w65 w80 w77 w59 w68 w74 w71 w62 h0 n0 _ T90.heap _
      rw [e90]
      exact Or.inl <| ⟨hc89, rfl, N0, rfl⟩
  · refine own_via (fun t k => XS.ifYes X0.here hx rfl (pc0 := 1) (pc' := 8) rfl (hb hby d1_1) rfl ((if0 _ _).trans (feq hc89).2) (by decide) (by decide) (XS.iloadN X0.here hx rfl (hb hby d1_8) rfl (XS.iconst X0.here hx rfl (hb hby d1_9) k))) ?_
    show own_Goes p e below (s₁.setTop (mkF m 10 #[iv p84] [(.int (1 : Int32)), (.int p84)])) _
    by_cases hc91 : p84 = (1 : Int32)
    · refine own_via (fun t k => XS.icmpNo X0.here hx rfl (hb hby d1_10) rfl (teq hc91).2 k) ?_
      obtain ⟨T92, X92, e92, st92⟩ := getS2 X0 hx hZ hown (host := "") (Or.inl (wd hw 28 rfl)) Via.refl e0 (S_VotableDatatype_BIT.ext O0.2) (g := (mkF m 13 #[iv p84] [])) rfl (hb hby d1_13)
      refine own_via (fun t k => st92 t k) ?_
      obtain ⟨fs, hr, hrun, hended, hW, hsame⟩ := X92.leave (v := some (.ref w53)) (fun h => by rw [Bd.returns] at h; cases h)
      refine own_end (t := T92.setFrames fs) ?_ ⟨_, hrun, hended, _, _, rfl, ?_, ⟨_, rfl⟩, hW, hsame.mono (by decide) (by decide)⟩
      · jvm_step X92.here [X92.here.top, hx, (hb hby d1_16), X92.method', Bd.returns, Value.isRef, FieldType.isReference]
        first | (intro acts; rw [hr _ acts rfl rfl rfl]) | rw [hr _ _ rfl rfl rfl]
        exact Steps.refl _
      · show Q1 Z p84 w47 w53 w49 w56 w65 w80 w77 w59 w68 w74 w71 w62 h0 n0 _ T92.heap _
        rw [e92]
        exact Or.inr <| Or.inl <| ⟨hc89, hc91, rfl, N0, rfl⟩
    · refine own_via (fun t k => XS.icmpYes X0.here hx rfl (pc0 := 10) (pc' := 17) rfl (hb hby d1_10) rfl (feq hc91).2 (by decide) (by decide) (XS.iloadN X0.here hx rfl (hb hby d1_17) rfl (XS.iconst X0.here hx rfl (hb hby d1_18) k))) ?_
      show own_Goes p e below (s₁.setTop (mkF m 19 #[iv p84] [(.int (2 : Int32)), (.int p84)])) _
      by_cases hc93 : p84 = (2 : Int32)
      · refine own_via (fun t k => XS.icmpNo X0.here hx rfl (hb hby d1_19) rfl (teq hc93).2 k) ?_
        obtain ⟨T94, X94, e94, st94⟩ := getS2 X0 hx hZ hown (host := "") (Or.inl (wd hw 19 rfl)) Via.refl e0 (S_VotableDatatype_UNSIGNED_BYTE.ext O0.2) (g := (mkF m 22 #[iv p84] [])) rfl (hb hby d1_22)
        refine own_via (fun t k => st94 t k) ?_
        obtain ⟨fs, hr, hrun, hended, hW, hsame⟩ := X94.leave (v := some (.ref w49)) (fun h => by rw [Bd.returns] at h; cases h)
        refine own_end (t := T94.setFrames fs) ?_ ⟨_, hrun, hended, _, _, rfl, ?_, ⟨_, rfl⟩, hW, hsame.mono (by decide) (by decide)⟩
        · jvm_step X94.here [X94.here.top, hx, (hb hby d1_25), X94.method', Bd.returns, Value.isRef, FieldType.isReference]
          first | (intro acts; rw [hr _ acts rfl rfl rfl]) | rw [hr _ _ rfl rfl rfl]
          exact Steps.refl _
        · show Q1 Z p84 w47 w53 w49 w56 w65 w80 w77 w59 w68 w74 w71 w62 h0 n0 _ T94.heap _
          rw [e94]
          exact Or.inr <| Or.inr <| Or.inl <| ⟨hc89, hc91, hc93, rfl, N0, rfl⟩
      · refine own_via (fun t k => XS.icmpYes X0.here hx rfl (pc0 := 19) (pc' := 26) rfl (hb hby d1_19) rfl (feq hc93).2 (by decide) (by decide) (XS.iloadN X0.here hx rfl (hb hby d1_26) rfl (XS.iconst X0.here hx rfl (hb hby d1_27) k))) ?_
        show own_Goes p e below (s₁.setTop (mkF m 28 #[iv p84] [(.int (3 : Int32)), (.int p84)])) _
        by_cases hc95 : p84 = (3 : Int32)
        · refine own_via (fun t k => XS.icmpNo X0.here hx rfl (hb hby d1_28) rfl (teq hc95).2 k) ?_
          obtain ⟨T96, X96, e96, st96⟩ := getS2 X0 hx hZ hown (host := "") (Or.inl (wd hw 17 rfl)) Via.refl e0 (S_VotableDatatype_SHORT.ext O0.2) (g := (mkF m 31 #[iv p84] [])) rfl (hb hby d1_31)
          refine own_via (fun t k => st96 t k) ?_
          obtain ⟨fs, hr, hrun, hended, hW, hsame⟩ := X96.leave (v := some (.ref w56)) (fun h => by rw [Bd.returns] at h; cases h)
          refine own_end (t := T96.setFrames fs) ?_ ⟨_, hrun, hended, _, _, rfl, ?_, ⟨_, rfl⟩, hW, hsame.mono (by decide) (by decide)⟩
          · jvm_step X96.here [X96.here.top, hx, (hb hby d1_34), X96.method', Bd.returns, Value.isRef, FieldType.isReference]
            first | (intro acts; rw [hr _ acts rfl rfl rfl]) | rw [hr _ _ rfl rfl rfl]
            exact Steps.refl _
          · show Q1 Z p84 w47 w53 w49 w56 w65 w80 w77 w59 w68 w74 w71 w62 h0 n0 _ T96.heap _
            rw [e96]
            exact Or.inr <| Or.inr <| Or.inr <| Or.inl <| ⟨hc89, hc91, hc93, hc95, rfl, N0, rfl⟩
        · refine own_via (fun t k => XS.icmpYes X0.here hx rfl (pc0 := 28) (pc' := 35) rfl (hb hby d1_28) rfl (feq hc95).2 (by decide) (by decide) (XS.iloadN X0.here hx rfl (hb hby d1_35) rfl (XS.iconst X0.here hx rfl (hb hby d1_36) k))) ?_
          show own_Goes p e below (s₁.setTop (mkF m 37 #[iv p84] [(.int (4 : Int32)), (.int p84)])) _
          by_cases hc97 : p84 = (4 : Int32)
          · refine own_via (fun t k => XS.icmpNo X0.here hx rfl (hb hby d1_37) rfl (teq hc97).2 k) ?_
            obtain ⟨T98, X98, e98, st98⟩ := getS2 X0 hx hZ hown (host := "") (Or.inl (wd hw 24 rfl)) Via.refl e0 (S_VotableDatatype_INT.ext O0.2) (g := (mkF m 40 #[iv p84] [])) rfl (hb hby d1_40)
            refine own_via (fun t k => st98 t k) ?_
            obtain ⟨fs, hr, hrun, hended, hW, hsame⟩ := X98.leave (v := some (.ref w65)) (fun h => by rw [Bd.returns] at h; cases h)
            refine own_end (t := T98.setFrames fs) ?_ ⟨_, hrun, hended, _, _, rfl, ?_, ⟨_, rfl⟩, hW, hsame.mono (by decide) (by decide)⟩
            · jvm_step X98.here [X98.here.top, hx, (hb hby d1_43), X98.method', Bd.returns, Value.isRef, FieldType.isReference]
              first | (intro acts; rw [hr _ acts rfl rfl rfl]) | rw [hr _ _ rfl rfl rfl]
              exact Steps.refl _
            · show Q1 Z p84 w47 w53 w49 w56 w65 w80 w77 w59 w68 w74 w71 w62 h0 n0 _ T98.heap _
              rw [e98]
              exact Or.inr <| Or.inr <| Or.inr <| Or.inr <| Or.inl <| ⟨hc89, hc91, hc93, hc95, hc97, rfl, N0, rfl⟩
          · refine own_via (fun t k => XS.icmpYes X0.here hx rfl (pc0 := 37) (pc' := 44) rfl (hb hby d1_37) rfl (feq hc97).2 (by decide) (by decide) (XS.iloadN X0.here hx rfl (hb hby d1_44) rfl (XS.iconst X0.here hx rfl (hb hby d1_45) k))) ?_
            show own_Goes p e below (s₁.setTop (mkF m 46 #[iv p84] [(.int (5 : Int32)), (.int p84)])) _
            by_cases hc99 : p84 = (5 : Int32)
            · refine own_via (fun t k => XS.icmpNo X0.here hx rfl (hb hby d1_46) rfl (teq hc99).2 k) ?_
              obtain ⟨T100, X100, e100, st100⟩ := getS2 X0 hx hZ hown (host := "") (Or.inl (wd hw 35 rfl)) Via.refl e0 (S_VotableDatatype_LONG.ext O0.2) (g := (mkF m 49 #[iv p84] [])) rfl (hb hby d1_49)
              refine own_via (fun t k => st100 t k) ?_
              obtain ⟨fs, hr, hrun, hended, hW, hsame⟩ := X100.leave (v := some (.ref w80)) (fun h => by rw [Bd.returns] at h; cases h)
              refine own_end (t := T100.setFrames fs) ?_ ⟨_, hrun, hended, _, _, rfl, ?_, ⟨_, rfl⟩, hW, hsame.mono (by decide) (by decide)⟩
              · jvm_step X100.here [X100.here.top, hx, (hb hby d1_52), X100.method', Bd.returns, Value.isRef, FieldType.isReference]
                first | (intro acts; rw [hr _ acts rfl rfl rfl]) | rw [hr _ _ rfl rfl rfl]
                exact Steps.refl _
              · show Q1 Z p84 w47 w53 w49 w56 w65 w80 w77 w59 w68 w74 w71 w62 h0 n0 _ T100.heap _
                rw [e100]
                exact Or.inr <| Or.inr <| Or.inr <| Or.inr <| Or.inr <| Or.inl <| ⟨hc89, hc91, hc93, hc95, hc97, hc99, rfl, N0, rfl⟩
            · refine own_via (fun t k => XS.icmpYes X0.here hx rfl (pc0 := 46) (pc' := 53) rfl (hb hby d1_46) rfl (feq hc99).2 (by decide) (by decide) (XS.iloadN X0.here hx rfl (hb hby d1_53) rfl (XS.bipush X0.here hx rfl (hb hby d1_54) k))) ?_
              show own_Goes p e below (s₁.setTop (mkF m 56 #[iv p84] [(.int (6 : Int32)), (.int p84)])) _
              by_cases hc101 : p84 = (6 : Int32)
              · refine own_via (fun t k => XS.icmpNo X0.here hx rfl (hb hby d1_56) rfl (teq hc101).2 k) ?_
                obtain ⟨T102, X102, e102, st102⟩ := getS2 X0 hx hZ hown (host := "") (Or.inl (wd hw 33 rfl)) Via.refl e0 (S_VotableDatatype_CHAR.ext O0.2) (g := (mkF m 59 #[iv p84] [])) rfl (hb hby d1_59)
                refine own_via (fun t k => st102 t k) ?_
                obtain ⟨fs, hr, hrun, hended, hW, hsame⟩ := X102.leave (v := some (.ref w77)) (fun h => by rw [Bd.returns] at h; cases h)
                refine own_end (t := T102.setFrames fs) ?_ ⟨_, hrun, hended, _, _, rfl, ?_, ⟨_, rfl⟩, hW, hsame.mono (by decide) (by decide)⟩
                · jvm_step X102.here [X102.here.top, hx, (hb hby d1_62), X102.method', Bd.returns, Value.isRef, FieldType.isReference]
                  first | (intro acts; rw [hr _ acts rfl rfl rfl]) | rw [hr _ _ rfl rfl rfl]
                  exact Steps.refl _
                · show Q1 Z p84 w47 w53 w49 w56 w65 w80 w77 w59 w68 w74 w71 w62 h0 n0 _ T102.heap _
                  rw [e102]
                  exact Or.inr <| Or.inr <| Or.inr <| Or.inr <| Or.inr <| Or.inr <| Or.inl <| ⟨hc89, hc91, hc93, hc95, hc97, hc99, hc101, rfl, N0, rfl⟩
              · refine own_via (fun t k => XS.icmpYes X0.here hx rfl (pc0 := 56) (pc' := 63) rfl (hb hby d1_56) rfl (feq hc101).2 (by decide) (by decide) (XS.iloadN X0.here hx rfl (hb hby d1_63) rfl (XS.bipush X0.here hx rfl (hb hby d1_64) k))) ?_
                show own_Goes p e below (s₁.setTop (mkF m 66 #[iv p84] [(.int (7 : Int32)), (.int p84)])) _
                by_cases hc103 : p84 = (7 : Int32)
                · refine own_via (fun t k => XS.icmpNo X0.here hx rfl (hb hby d1_66) rfl (teq hc103).2 k) ?_
                  obtain ⟨T104, X104, e104, st104⟩ := getS2 X0 hx hZ hown (host := "") (Or.inl (wd hw 20 rfl)) Via.refl e0 (S_VotableDatatype_UNICODE_CHAR.ext O0.2) (g := (mkF m 69 #[iv p84] [])) rfl (hb hby d1_69)
                  refine own_via (fun t k => st104 t k) ?_
                  obtain ⟨fs, hr, hrun, hended, hW, hsame⟩ := X104.leave (v := some (.ref w59)) (fun h => by rw [Bd.returns] at h; cases h)
                  refine own_end (t := T104.setFrames fs) ?_ ⟨_, hrun, hended, _, _, rfl, ?_, ⟨_, rfl⟩, hW, hsame.mono (by decide) (by decide)⟩
                  · jvm_step X104.here [X104.here.top, hx, (hb hby d1_72), X104.method', Bd.returns, Value.isRef, FieldType.isReference]
                    first | (intro acts; rw [hr _ acts rfl rfl rfl]) | rw [hr _ _ rfl rfl rfl]
                    exact Steps.refl _
                  · show Q1 Z p84 w47 w53 w49 w56 w65 w80 w77 w59 w68 w74 w71 w62 h0 n0 _ T104.heap _
                    rw [e104]
                    exact Or.inr <| Or.inr <| Or.inr <| Or.inr <| Or.inr <| Or.inr <| Or.inr <| Or.inl <| ⟨hc89, hc91, hc93, hc95, hc97, hc99, hc101, hc103, rfl, N0, rfl⟩
                · refine own_via (fun t k => XS.icmpYes X0.here hx rfl (pc0 := 66) (pc' := 73) rfl (hb hby d1_66) rfl (feq hc103).2 (by decide) (by decide) (XS.iloadN X0.here hx rfl (hb hby d1_73) rfl (XS.bipush X0.here hx rfl (hb hby d1_74) k))) ?_
                  show own_Goes p e below (s₁.setTop (mkF m 76 #[iv p84] [(.int (8 : Int32)), (.int p84)])) _
                  by_cases hc105 : p84 = (8 : Int32)
                  · refine own_via (fun t k => XS.icmpNo X0.here hx rfl (hb hby d1_76) rfl (teq hc105).2 k) ?_
                    obtain ⟨T106, X106, e106, st106⟩ := getS2 X0 hx hZ hown (host := "") (Or.inl (wd hw 26 rfl)) Via.refl e0 (S_VotableDatatype_FLOAT.ext O0.2) (g := (mkF m 79 #[iv p84] [])) rfl (hb hby d1_79)
                    refine own_via (fun t k => st106 t k) ?_
                    obtain ⟨fs, hr, hrun, hended, hW, hsame⟩ := X106.leave (v := some (.ref w68)) (fun h => by rw [Bd.returns] at h; cases h)
                    refine own_end (t := T106.setFrames fs) ?_ ⟨_, hrun, hended, _, _, rfl, ?_, ⟨_, rfl⟩, hW, hsame.mono (by decide) (by decide)⟩
                    · jvm_step X106.here [X106.here.top, hx, (hb hby d1_82), X106.method', Bd.returns, Value.isRef, FieldType.isReference]
                      first | (intro acts; rw [hr _ acts rfl rfl rfl]) | rw [hr _ _ rfl rfl rfl]
                      exact Steps.refl _
                    · show Q1 Z p84 w47 w53 w49 w56 w65 w80 w77 w59 w68 w74 w71 w62 h0 n0 _ T106.heap _
                      rw [e106]
                      exact Or.inr <| Or.inr <| Or.inr <| Or.inr <| Or.inr <| Or.inr <| Or.inr <| Or.inr <| Or.inl <| ⟨hc89, hc91, hc93, hc95, hc97, hc99, hc101, hc103, hc105, rfl, N0, rfl⟩
                  · refine own_via (fun t k => XS.icmpYes X0.here hx rfl (pc0 := 76) (pc' := 83) rfl (hb hby d1_76) rfl (feq hc105).2 (by decide) (by decide) (XS.iloadN X0.here hx rfl (hb hby d1_83) rfl (XS.bipush X0.here hx rfl (hb hby d1_84) k))) ?_
                    show own_Goes p e below (s₁.setTop (mkF m 86 #[iv p84] [(.int (9 : Int32)), (.int p84)])) _
                    by_cases hc107 : p84 = (9 : Int32)
                    · refine own_via (fun t k => XS.icmpNo X0.here hx rfl (hb hby d1_86) rfl (teq hc107).2 k) ?_
                      obtain ⟨T108, X108, e108, st108⟩ := getS2 X0 hx hZ hown (host := "") (Or.inl (wd hw 31 rfl)) Via.refl e0 (S_VotableDatatype_DOUBLE.ext O0.2) (g := (mkF m 89 #[iv p84] [])) rfl (hb hby d1_89)
                      refine own_via (fun t k => st108 t k) ?_
                      obtain ⟨fs, hr, hrun, hended, hW, hsame⟩ := X108.leave (v := some (.ref w74)) (fun h => by rw [Bd.returns] at h; cases h)
                      refine own_end (t := T108.setFrames fs) ?_ ⟨_, hrun, hended, _, _, rfl, ?_, ⟨_, rfl⟩, hW, hsame.mono (by decide) (by decide)⟩
                      · jvm_step X108.here [X108.here.top, hx, (hb hby d1_92), X108.method', Bd.returns, Value.isRef, FieldType.isReference]
                        first | (intro acts; rw [hr _ acts rfl rfl rfl]) | rw [hr _ _ rfl rfl rfl]
                        exact Steps.refl _
                      · show Q1 Z p84 w47 w53 w49 w56 w65 w80 w77 w59 w68 w74 w71 w62 h0 n0 _ T108.heap _
                        rw [e108]
                        exact Or.inr <| Or.inr <| Or.inr <| Or.inr <| Or.inr <| Or.inr <| Or.inr <| Or.inr <| Or.inr <| Or.inl <| ⟨hc89, hc91, hc93, hc95, hc97, hc99, hc101, hc103, hc105, hc107, rfl, N0, rfl⟩
                    · refine own_via (fun t k => XS.icmpYes X0.here hx rfl (pc0 := 86) (pc' := 93) rfl (hb hby d1_86) rfl (feq hc107).2 (by decide) (by decide) (XS.iloadN X0.here hx rfl (hb hby d1_93) rfl (XS.bipush X0.here hx rfl (hb hby d1_94) k))) ?_
                      show own_Goes p e below (s₁.setTop (mkF m 96 #[iv p84] [(.int (10 : Int32)), (.int p84)])) _
                      by_cases hc109 : p84 = (10 : Int32)
                      · refine own_via (fun t k => XS.icmpNo X0.here hx rfl (hb hby d1_96) rfl (teq hc109).2 k) ?_
                        obtain ⟨T110, X110, e110, st110⟩ := getS2 X0 hx hZ hown (host := "") (Or.inl (wd hw 29 rfl)) Via.refl e0 (S_VotableDatatype_FLOAT_COMPLEX.ext O0.2) (g := (mkF m 99 #[iv p84] [])) rfl (hb hby d1_99)
                        refine own_via (fun t k => st110 t k) ?_
                        obtain ⟨fs, hr, hrun, hended, hW, hsame⟩ := X110.leave (v := some (.ref w71)) (fun h => by rw [Bd.returns] at h; cases h)
                        refine own_end (t := T110.setFrames fs) ?_ ⟨_, hrun, hended, _, _, rfl, ?_, ⟨_, rfl⟩, hW, hsame.mono (by decide) (by decide)⟩
                        · jvm_step X110.here [X110.here.top, hx, (hb hby d1_102), X110.method', Bd.returns, Value.isRef, FieldType.isReference]
                          first | (intro acts; rw [hr _ acts rfl rfl rfl]) | rw [hr _ _ rfl rfl rfl]
                          exact Steps.refl _
                        · show Q1 Z p84 w47 w53 w49 w56 w65 w80 w77 w59 w68 w74 w71 w62 h0 n0 _ T110.heap _
                          rw [e110]
                          exact Or.inr <| Or.inr <| Or.inr <| Or.inr <| Or.inr <| Or.inr <| Or.inr <| Or.inr <| Or.inr <| Or.inr <| Or.inl <| ⟨hc89, hc91, hc93, hc95, hc97, hc99, hc101, hc103, hc105, hc107, hc109, rfl, N0, rfl⟩
                      · refine own_via (fun t k => XS.icmpYes X0.here hx rfl (pc0 := 96) (pc' := 103) rfl (hb hby d1_96) rfl (feq hc109).2 (by decide) (by decide) k) ?_
                        obtain ⟨T111, X111, e111, st111⟩ := getS2 X0 hx hZ hown (host := "") (Or.inl (wd hw 22 rfl)) Via.refl e0 (S_VotableDatatype_DOUBLE_COMPLEX.ext O0.2) (g := (mkF m 103 #[iv p84] [])) rfl (hb hby d1_103)
                        refine own_via (fun t k => st111 t k) ?_
                        obtain ⟨fs, hr, hrun, hended, hW, hsame⟩ := X111.leave (v := some (.ref w62)) (fun h => by rw [Bd.returns] at h; cases h)
                        refine own_end (t := T111.setFrames fs) ?_ ⟨_, hrun, hended, _, _, rfl, ?_, ⟨_, rfl⟩, hW, hsame.mono (by decide) (by decide)⟩
                        · jvm_step X111.here [X111.here.top, hx, (hb hby d1_106), X111.method', Bd.returns, Value.isRef, FieldType.isReference]
                          first | (intro acts; rw [hr _ acts rfl rfl rfl]) | rw [hr _ _ rfl rfl rfl]
                          exact Steps.refl _
                        · show Q1 Z p84 w47 w53 w49 w56 w65 w80 w77 w59 w68 w74 w71 w62 h0 n0 _ T111.heap _
                          rw [e111]
                          exact Or.inr <| Or.inr <| Or.inr <| Or.inr <| Or.inr <| Or.inr <| Or.inr <| Or.inr <| Or.inr <| Or.inr <| Or.inr <| ⟨hc89, hc91, hc93, hc95, hc97, hc99, hc101, hc103, hc105, hc107, hc109, rfl, N0, rfl⟩
theorem pd_1 : parseMethodDescriptor "(I)Lcom/example/starcourse/starcourse/catalog/VotableDatatype;" = some ⟨[.int], some (.object "com/example/starcourse/starcourse/catalog/VotableDatatype")⟩ := by decide +kernel
theorem d2_0 : decode prog_43_method_16_code 0 = .ok (.aload_n 0, 1) := by decide +kernel
theorem d2_1 : decode prog_43_method_16_code 1 = .ok (.getstatic 10, 3) := by decide +kernel
theorem d2_4 : decode prog_43_method_16_code 4 = .ok (.if_acmp .eq 10, 3) := by decide +kernel
theorem d2_7 : decode prog_43_method_16_code 7 = .ok (.aload_n 0, 1) := by decide +kernel
theorem d2_8 : decode prog_43_method_16_code 8 = .ok (.getstatic 7, 3) := by decide +kernel
theorem d2_11 : decode prog_43_method_16_code 11 = .ok (.if_acmp .ne 7, 3) := by decide +kernel
theorem d2_18 : decode prog_43_method_16_code 18 = .ok (.iconst 0, 1) := by decide +kernel
theorem d2_19 : decode prog_43_method_16_code 19 = .ok (.ireturn, 1) := by decide +kernel
theorem ef_2 (m : MethodId) (x0 : Addr) : entryFrame m #[(.ref x0)] 1 = mkF m 0 #[rv x0] [] := by first | (simp [entryFrame, mkF, argsToLocals, Value.category]; done) | rfl
theorem pn_2 : plainName "com/example/starcourse/starcourse/catalog/VotableDatatype" = true := by first | (simp [plainName, overriddenIn]; done) | decide +kernel
def Q2 (Z : State) (w47 : Addr) (w49 : Addr) (w53 : Addr) (h0 : Heap) (n0 : Nat) (v : Option Value) (h : Heap) (L : List Loc) : Prop := v = some (.int (0 : Int32)) ∧ Fr n0 L ∧ h = h0
set_option maxRecDepth 65536 in
set_option maxHeartbeats 40000000 in
theorem rm2 (l : Launch) (Z : State) (a0 : Array Value) (hw : ∀ d ∈ tables_1, d.before a0 Z = true) (ws : List Jvm.Cond) (w47 : Addr) (w49 : Addr) (w53 : Addr) (h0 : Heap) (n0 : Nat) (O0 : Old Z n0 h0) (S_VotableDatatype_UNSIGNED_BYTE : Sta Z Z.heap zs1 zs6 zs2 (.ref w49)) (SF_w47_ordinal : Fld Z Z.heap w47 zs3 "ordinal" "I" (.int (0 : Int32))) (SF_w49_ordinal : Fld Z Z.heap w49 zs3 "ordinal" "I" (.int (2 : Int32))) (S_VotableDatatype_BIT : Sta Z Z.heap zs1 "BIT" zs2 (.ref w53)) (SF_w53_ordinal : Fld Z Z.heap w53 zs3 "ordinal" "I" (.int (1 : Int32))) :
    MetFree l (⟨zs1, zs5, "()Z"⟩ : MethodName) (head1 (Jvm.Cond.code (⟨zs1, zs5, "()Z"⟩ : MethodName) prog_43_method_16_code 1 (some .boolean) :: ws) ({ frames := 0, cells := 0, slots := 0, locals := 0 } : Room)) (fun a U => a = #[(.ref w47)] ∧ Z.Warmed39 U.vm ∧ U.heap = h0) (fun _ _ _ _ _ => True) (fun _ U o U' => ∃ v L, o = .returned v ∧ Q2 Z w47 w49 w53 h0 n0 v U'.heap L ∧ FrameEnd U o U' L ({ frames := 0, cells := 0, slots := 0, locals := 0 } : Room).cells ({ frames := 0, cells := 0, slots := 0, locals := 0 } : Room).slots) := by
  refine MetFree.of_bodySF (plainFor_of_name pn_2) hisR ?_
  intro p e s m args below meth c s₁ Bd hml0 hP hK
  obtain ⟨rfl, hZ, hh⟩ := hP
  have hx := Bd.exec
  have hby := Bd.bytes
  have hml : c.maxLocals = 1 := hml0
  have hown : s.vm.findClass zs1 = some m.cls := findClass_of_methodNamed Bd.named
  have hnm := (name_of_methodNamed Bd.named Bd.method).1
  have X0 : Stand p l e ({ frames := 0, cells := 0, slots := 0, locals := 0 } : Room) s m #[(.ref w47)] below meth c s₁ [] 0 0 := Stand.of_body Bd
  have e0 : s₁.heap = h0 := by rw [← hh, Bd.state]; rfl
  have N0 := Fr.nil n0
  refine own_out ?_
  refine own_via (fun t k => castTop (ef_2 m w47) (XS.aloadN X0.here hx rfl (hb hby d2_0) rfl rfl k)) ?_
  obtain ⟨T207, X207, e207, st207⟩ := getS2 X0 hx hZ hown (host := "") (Or.inl (wd hw 13 rfl)) Via.refl e0 (S_VotableDatatype_UNSIGNED_BYTE.ext O0.2) (g := (mkF m 1 #[rv w47] [(.ref w47)])) rfl (hb hby d2_1)
  refine own_via (fun t k => st207 t (Jvm.RoadKit.acmp (g := (mkF m 4 #[rv w47] [(.ref w49), (.ref w47)])) X207 hx rfl rfl rfl (pc0 := 4) (pc' := 7) (same := false) rfl (hb hby d2_4) rfl (decide_eq_false fun q => (Fld.ne SF_w47_ordinal SF_w49_ordinal (by decide)) (Value.ref.inj q)) (by decide) (by decide) (XS.aloadN X207.here hx rfl (hb hby d2_7) rfl rfl k))) ?_
  show own_Goes p e below (T207.setTop (mkF m 8 #[rv w47] [(.ref w47)])) _
  obtain ⟨T208, X208, e208, st208⟩ := getS2 X207 hx hZ hown (host := "") (Or.inl (wd hw 15 rfl)) Via.refl e207 (S_VotableDatatype_BIT.ext O0.2) (g := (mkF m 8 #[rv w47] [(.ref w47)])) rfl (hb hby d2_8)
  refine own_via (fun t k => st208 t (Jvm.RoadKit.acmp (g := (mkF m 11 #[rv w47] [(.ref w53), (.ref w47)])) X208 hx rfl rfl rfl (pc0 := 11) (pc' := 18) (same := false) rfl (hb hby d2_11) rfl (decide_eq_false fun q => (Fld.ne SF_w47_ordinal SF_w53_ordinal (by decide)) (Value.ref.inj q)) (by decide) (by decide) (XS.iconst X208.here hx rfl (hb hby d2_18) k))) ?_
  show own_Goes p e below (T208.setTop (mkF m 19 #[rv w47] [(.int (0 : Int32))])) _
  obtain ⟨fs, hr, hrun, hended, hW, hsame⟩ := X208.leave (v := some (.int (0 : Int32))) (fun h => by rw [Bd.returns] at h; cases h)
  refine own_end (t := T208.setFrames fs) ?_ ⟨_, hrun, hended, _, _, rfl, ?_, ⟨_, rfl⟩, hW, hsame.mono (by decide) (by decide)⟩
  · exact retN X208 hx (t := .boolean) Bd.returns (by simp) (hb hby d2_19) hr
  · show Q2 Z w47 w49 w53 h0 n0 _ T208.heap _
    rw [e208]
    exact ⟨rfl, N0, rfl⟩
theorem pd_2 : parseMethodDescriptor "()Z" = some ⟨[], some .boolean⟩ := by decide +kernel
theorem d2_14 : decode prog_43_method_16_code 14 = .ok (.iconst 1, 1) := by decide +kernel
theorem d2_15 : decode prog_43_method_16_code 15 = .ok (.goto 4, 3) := by decide +kernel
def Q3 (Z : State) (w53 : Addr) (w49 : Addr) (h0 : Heap) (n0 : Nat) (v : Option Value) (h : Heap) (L : List Loc) : Prop := v = some (.int (1 : Int32)) ∧ Fr n0 L ∧ h = h0
set_option maxRecDepth 65536 in
set_option maxHeartbeats 40000000 in
theorem rm3 (l : Launch) (Z : State) (a0 : Array Value) (hw : ∀ d ∈ tables_1, d.before a0 Z = true) (ws : List Jvm.Cond) (w53 : Addr) (w49 : Addr) (h0 : Heap) (n0 : Nat) (O0 : Old Z n0 h0) (S_VotableDatatype_UNSIGNED_BYTE : Sta Z Z.heap zs1 zs6 zs2 (.ref w49)) (SF_w53_ordinal : Fld Z Z.heap w53 zs3 "ordinal" "I" (.int (1 : Int32))) (SF_w49_ordinal : Fld Z Z.heap w49 zs3 "ordinal" "I" (.int (2 : Int32))) (S_VotableDatatype_BIT : Sta Z Z.heap zs1 "BIT" zs2 (.ref w53)) :
    MetFree l (⟨zs1, zs5, "()Z"⟩ : MethodName) (head1 (Jvm.Cond.code (⟨zs1, zs5, "()Z"⟩ : MethodName) prog_43_method_16_code 1 (some .boolean) :: ws) ({ frames := 0, cells := 0, slots := 0, locals := 0 } : Room)) (fun a U => a = #[(.ref w53)] ∧ Z.Warmed39 U.vm ∧ U.heap = h0) (fun _ _ _ _ _ => True) (fun _ U o U' => ∃ v L, o = .returned v ∧ Q3 Z w53 w49 h0 n0 v U'.heap L ∧ FrameEnd U o U' L ({ frames := 0, cells := 0, slots := 0, locals := 0 } : Room).cells ({ frames := 0, cells := 0, slots := 0, locals := 0 } : Room).slots) := by
  refine MetFree.of_bodySF (plainFor_of_name pn_2) hisR ?_
  intro p e s m args below meth c s₁ Bd hml0 hP hK
  obtain ⟨rfl, hZ, hh⟩ := hP
  have hx := Bd.exec
  have hby := Bd.bytes
  have hml : c.maxLocals = 1 := hml0
  have hown : s.vm.findClass zs1 = some m.cls := findClass_of_methodNamed Bd.named
  have hnm := (name_of_methodNamed Bd.named Bd.method).1
  have X0 : Stand p l e ({ frames := 0, cells := 0, slots := 0, locals := 0 } : Room) s m #[(.ref w53)] below meth c s₁ [] 0 0 := Stand.of_body Bd
  have e0 : s₁.heap = h0 := by rw [← hh, Bd.state]; rfl
  have N0 := Fr.nil n0
  refine own_out ?_
  refine own_via (fun t k => castTop (ef_2 m w53) (XS.aloadN X0.here hx rfl (hb hby d2_0) rfl rfl k)) ?_
  obtain ⟨T217, X217, e217, st217⟩ := getS2 X0 hx hZ hown (host := "") (Or.inl (wd hw 13 rfl)) Via.refl e0 (S_VotableDatatype_UNSIGNED_BYTE.ext O0.2) (g := (mkF m 1 #[rv w53] [(.ref w53)])) rfl (hb hby d2_1)
  refine own_via (fun t k => st217 t (Jvm.RoadKit.acmp (g := (mkF m 4 #[rv w53] [(.ref w49), (.ref w53)])) X217 hx rfl rfl rfl (pc0 := 4) (pc' := 7) (same := false) rfl (hb hby d2_4) rfl (decide_eq_false fun q => (Fld.ne SF_w53_ordinal SF_w49_ordinal (by decide)) (Value.ref.inj q)) (by decide) (by decide) (XS.aloadN X217.here hx rfl (hb hby d2_7) rfl rfl k))) ?_
  show own_Goes p e below (T217.setTop (mkF m 8 #[rv w53] [(.ref w53)])) _
  obtain ⟨T218, X218, e218, st218⟩ := getS2 X217 hx hZ hown (host := "") (Or.inl (wd hw 15 rfl)) Via.refl e217 (S_VotableDatatype_BIT.ext O0.2) (g := (mkF m 8 #[rv w53] [(.ref w53)])) rfl (hb hby d2_8)
  refine own_via (fun t k => st218 t (Jvm.RoadKit.acmp (g := (mkF m 11 #[rv w53] [(.ref w53), (.ref w53)])) X218 hx rfl rfl rfl (pc0 := 11) (pc' := 14) (same := true) rfl (hb hby d2_11) rfl (decide_eq_true rfl) (by decide) (by decide) (XS.iconst X218.here hx rfl (hb hby d2_14) (XS.goto X218.here hx rfl (pc0 := 15) (pc' := 19) rfl (hb hby d2_15) (by decide) (by decide) k)))) ?_
  show own_Goes p e below (T218.setTop (mkF m 19 #[rv w53] [(.int (1 : Int32))])) _
  obtain ⟨fs, hr, hrun, hended, hW, hsame⟩ := X218.leave (v := some (.int (1 : Int32))) (fun h => by rw [Bd.returns] at h; cases h)
  refine own_end (t := T218.setFrames fs) ?_ ⟨_, hrun, hended, _, _, rfl, ?_, ⟨_, rfl⟩, hW, hsame.mono (by decide) (by decide)⟩
  · exact retN X218 hx (t := .boolean) Bd.returns (by simp) (hb hby d2_19) hr
  · show Q3 Z w53 w49 h0 n0 _ T218.heap _
    rw [e218]
    exact ⟨rfl, N0, rfl⟩
def Q4 (Z : State) (w49 : Addr) (h0 : Heap) (n0 : Nat) (v : Option Value) (h : Heap) (L : List Loc) : Prop := v = some (.int (1 : Int32)) ∧ Fr n0 L ∧ h = h0
set_option maxRecDepth 65536 in
set_option maxHeartbeats 40000000 in
theorem rm4 (l : Launch) (Z : State) (a0 : Array Value) (hw : ∀ d ∈ tables_1, d.before a0 Z = true) (ws : List Jvm.Cond) (w49 : Addr) (h0 : Heap) (n0 : Nat) (O0 : Old Z n0 h0) (S_VotableDatatype_UNSIGNED_BYTE : Sta Z Z.heap zs1 zs6 zs2 (.ref w49)) :
    MetFree l (⟨zs1, zs5, "()Z"⟩ : MethodName) (head1 (Jvm.Cond.code (⟨zs1, zs5, "()Z"⟩ : MethodName) prog_43_method_16_code 1 (some .boolean) :: ws) ({ frames := 0, cells := 0, slots := 0, locals := 0 } : Room)) (fun a U => a = #[(.ref w49)] ∧ Z.Warmed39 U.vm ∧ U.heap = h0) (fun _ _ _ _ _ => True) (fun _ U o U' => ∃ v L, o = .returned v ∧ Q4 Z w49 h0 n0 v U'.heap L ∧ FrameEnd U o U' L ({ frames := 0, cells := 0, slots := 0, locals := 0 } : Room).cells ({ frames := 0, cells := 0, slots := 0, locals := 0 } : Room).slots) := by
  refine MetFree.of_bodySF (plainFor_of_name pn_2) hisR ?_
  intro p e s m args below meth c s₁ Bd hml0 hP hK
  obtain ⟨rfl, hZ, hh⟩ := hP
  have hx := Bd.exec
  have hby := Bd.bytes
  have hml : c.maxLocals = 1 := hml0
  have hown : s.vm.findClass zs1 = some m.cls := findClass_of_methodNamed Bd.named
  have hnm := (name_of_methodNamed Bd.named Bd.method).1
  have X0 : Stand p l e ({ frames := 0, cells := 0, slots := 0, locals := 0 } : Room) s m #[(.ref w49)] below meth c s₁ [] 0 0 := Stand.of_body Bd
  have e0 : s₁.heap = h0 := by rw [← hh, Bd.state]; rfl
  have N0 := Fr.nil n0
  refine own_out ?_
  refine own_via (fun t k => castTop (ef_2 m w49) (XS.aloadN X0.here hx rfl (hb hby d2_0) rfl rfl k)) ?_
  obtain ⟨T228, X228, e228, st228⟩ := getS2 X0 hx hZ hown (host := "") (Or.inl (wd hw 13 rfl)) Via.refl e0 (S_VotableDatatype_UNSIGNED_BYTE.ext O0.2) (g := (mkF m 1 #[rv w49] [(.ref w49)])) rfl (hb hby d2_1)
  refine own_via (fun t k => st228 t (Jvm.RoadKit.acmp (g := (mkF m 4 #[rv w49] [(.ref w49), (.ref w49)])) X228 hx rfl rfl rfl (pc0 := 4) (pc' := 14) (same := true) rfl (hb hby d2_4) rfl (decide_eq_true rfl) (by decide) (by decide) (XS.iconst X228.here hx rfl (hb hby d2_14) (XS.goto X228.here hx rfl (pc0 := 15) (pc' := 19) rfl (hb hby d2_15) (by decide) (by decide) k)))) ?_
  show own_Goes p e below (T228.setTop (mkF m 19 #[rv w49] [(.int (1 : Int32))])) _
  obtain ⟨fs, hr, hrun, hended, hW, hsame⟩ := X228.leave (v := some (.int (1 : Int32))) (fun h => by rw [Bd.returns] at h; cases h)
  refine own_end (t := T228.setFrames fs) ?_ ⟨_, hrun, hended, _, _, rfl, ?_, ⟨_, rfl⟩, hW, hsame.mono (by decide) (by decide)⟩
  · exact retN X228 hx (t := .boolean) Bd.returns (by simp) (hb hby d2_19) hr
  · show Q4 Z w49 h0 n0 _ T228.heap _
    rw [e228]
    exact ⟨rfl, N0, rfl⟩
def Q5 (Z : State) (w56 : Addr) (w49 : Addr) (w53 : Addr) (h0 : Heap) (n0 : Nat) (v : Option Value) (h : Heap) (L : List Loc) : Prop := v = some (.int (0 : Int32)) ∧ Fr n0 L ∧ h = h0
set_option maxRecDepth 65536 in
set_option maxHeartbeats 40000000 in
theorem rm5 (l : Launch) (Z : State) (a0 : Array Value) (hw : ∀ d ∈ tables_1, d.before a0 Z = true) (ws : List Jvm.Cond) (w56 : Addr) (w49 : Addr) (w53 : Addr) (h0 : Heap) (n0 : Nat) (O0 : Old Z n0 h0) (S_VotableDatatype_UNSIGNED_BYTE : Sta Z Z.heap zs1 zs6 zs2 (.ref w49)) (SF_w56_ordinal : Fld Z Z.heap w56 zs3 "ordinal" "I" (.int (3 : Int32))) (SF_w49_ordinal : Fld Z Z.heap w49 zs3 "ordinal" "I" (.int (2 : Int32))) (S_VotableDatatype_BIT : Sta Z Z.heap zs1 "BIT" zs2 (.ref w53)) (SF_w53_ordinal : Fld Z Z.heap w53 zs3 "ordinal" "I" (.int (1 : Int32))) :
    MetFree l (⟨zs1, zs5, "()Z"⟩ : MethodName) (head1 (Jvm.Cond.code (⟨zs1, zs5, "()Z"⟩ : MethodName) prog_43_method_16_code 1 (some .boolean) :: ws) ({ frames := 0, cells := 0, slots := 0, locals := 0 } : Room)) (fun a U => a = #[(.ref w56)] ∧ Z.Warmed39 U.vm ∧ U.heap = h0) (fun _ _ _ _ _ => True) (fun _ U o U' => ∃ v L, o = .returned v ∧ Q5 Z w56 w49 w53 h0 n0 v U'.heap L ∧ FrameEnd U o U' L ({ frames := 0, cells := 0, slots := 0, locals := 0 } : Room).cells ({ frames := 0, cells := 0, slots := 0, locals := 0 } : Room).slots) := by
  refine MetFree.of_bodySF (plainFor_of_name pn_2) hisR ?_
  intro p e s m args below meth c s₁ Bd hml0 hP hK
  obtain ⟨rfl, hZ, hh⟩ := hP
  have hx := Bd.exec
  have hby := Bd.bytes
  have hml : c.maxLocals = 1 := hml0
  have hown : s.vm.findClass zs1 = some m.cls := findClass_of_methodNamed Bd.named
  have hnm := (name_of_methodNamed Bd.named Bd.method).1
  have X0 : Stand p l e ({ frames := 0, cells := 0, slots := 0, locals := 0 } : Room) s m #[(.ref w56)] below meth c s₁ [] 0 0 := Stand.of_body Bd
  have e0 : s₁.heap = h0 := by rw [← hh, Bd.state]; rfl
  have N0 := Fr.nil n0
  refine own_out ?_
  refine own_via (fun t k => castTop (ef_2 m w56) (XS.aloadN X0.here hx rfl (hb hby d2_0) rfl rfl k)) ?_
  obtain ⟨T239, X239, e239, st239⟩ := getS2 X0 hx hZ hown (host := "") (Or.inl (wd hw 13 rfl)) Via.refl e0 (S_VotableDatatype_UNSIGNED_BYTE.ext O0.2) (g := (mkF m 1 #[rv w56] [(.ref w56)])) rfl (hb hby d2_1)
  refine own_via (fun t k => st239 t (Jvm.RoadKit.acmp (g := (mkF m 4 #[rv w56] [(.ref w49), (.ref w56)])) X239 hx rfl rfl rfl (pc0 := 4) (pc' := 7) (same := false) rfl (hb hby d2_4) rfl (decide_eq_false fun q => (Fld.ne SF_w56_ordinal SF_w49_ordinal (by decide)) (Value.ref.inj q)) (by decide) (by decide) (XS.aloadN X239.here hx rfl (hb hby d2_7) rfl rfl k))) ?_
  show own_Goes p e below (T239.setTop (mkF m 8 #[rv w56] [(.ref w56)])) _
  obtain ⟨T240, X240, e240, st240⟩ := getS2 X239 hx hZ hown (host := "") (Or.inl (wd hw 15 rfl)) Via.refl e239 (S_VotableDatatype_BIT.ext O0.2) (g := (mkF m 8 #[rv w56] [(.ref w56)])) rfl (hb hby d2_8)
  refine own_via (fun t k => st240 t (Jvm.RoadKit.acmp (g := (mkF m 11 #[rv w56] [(.ref w53), (.ref w56)])) X240 hx rfl rfl rfl (pc0 := 11) (pc' := 18) (same := false) rfl (hb hby d2_11) rfl (decide_eq_false fun q => (Fld.ne SF_w56_ordinal SF_w53_ordinal (by decide)) (Value.ref.inj q)) (by decide) (by decide) (XS.iconst X240.here hx rfl (hb hby d2_18) k))) ?_
  show own_Goes p e below (T240.setTop (mkF m 19 #[rv w56] [(.int (0 : Int32))])) _
  obtain ⟨fs, hr, hrun, hended, hW, hsame⟩ := X240.leave (v := some (.int (0 : Int32))) (fun h => by rw [Bd.returns] at h; cases h)
  refine own_end (t := T240.setFrames fs) ?_ ⟨_, hrun, hended, _, _, rfl, ?_, ⟨_, rfl⟩, hW, hsame.mono (by decide) (by decide)⟩
  · exact retN X240 hx (t := .boolean) Bd.returns (by simp) (hb hby d2_19) hr
  · show Q5 Z w56 w49 w53 h0 n0 _ T240.heap _
    rw [e240]
    exact ⟨rfl, N0, rfl⟩
def Q6 (Z : State) (w65 : Addr) (w49 : Addr) (w53 : Addr) (h0 : Heap) (n0 : Nat) (v : Option Value) (h : Heap) (L : List Loc) : Prop := v = some (.int (0 : Int32)) ∧ Fr n0 L ∧ h = h0
set_option maxRecDepth 65536 in
set_option maxHeartbeats 40000000 in
theorem rm6 (l : Launch) (Z : State) (a0 : Array Value) (hw : ∀ d ∈ tables_1, d.before a0 Z = true) (ws : List Jvm.Cond) (w65 : Addr) (w49 : Addr) (w53 : Addr) (h0 : Heap) (n0 : Nat) (O0 : Old Z n0 h0) (S_VotableDatatype_UNSIGNED_BYTE : Sta Z Z.heap zs1 zs6 zs2 (.ref w49)) (SF_w65_ordinal : Fld Z Z.heap w65 zs3 "ordinal" "I" (.int (4 : Int32))) (SF_w49_ordinal : Fld Z Z.heap w49 zs3 "ordinal" "I" (.int (2 : Int32))) (S_VotableDatatype_BIT : Sta Z Z.heap zs1 "BIT" zs2 (.ref w53)) (SF_w53_ordinal : Fld Z Z.heap w53 zs3 "ordinal" "I" (.int (1 : Int32))) :
    MetFree l (⟨zs1, zs5, "()Z"⟩ : MethodName) (head1 (Jvm.Cond.code (⟨zs1, zs5, "()Z"⟩ : MethodName) prog_43_method_16_code 1 (some .boolean) :: ws) ({ frames := 0, cells := 0, slots := 0, locals := 0 } : Room)) (fun a U => a = #[(.ref w65)] ∧ Z.Warmed39 U.vm ∧ U.heap = h0) (fun _ _ _ _ _ => True) (fun _ U o U' => ∃ v L, o = .returned v ∧ Q6 Z w65 w49 w53 h0 n0 v U'.heap L ∧ FrameEnd U o U' L ({ frames := 0, cells := 0, slots := 0, locals := 0 } : Room).cells ({ frames := 0, cells := 0, slots := 0, locals := 0 } : Room).slots) := by
  refine MetFree.of_bodySF (plainFor_of_name pn_2) hisR ?_
  intro p e s m args below meth c s₁ Bd hml0 hP hK
  obtain ⟨rfl, hZ, hh⟩ := hP
  have hx := Bd.exec
  have hby := Bd.bytes
  have hml : c.maxLocals = 1 := hml0
  have hown : s.vm.findClass zs1 = some m.cls := findClass_of_methodNamed Bd.named
  have hnm := (name_of_methodNamed Bd.named Bd.method).1
  have X0 : Stand p l e ({ frames := 0, cells := 0, slots := 0, locals := 0 } : Room) s m #[(.ref w65)] below meth c s₁ [] 0 0 := Stand.of_body Bd
  have e0 : s₁.heap = h0 := by rw [← hh, Bd.state]; rfl
  have N0 := Fr.nil n0
  refine own_out ?_
  refine own_via (fun t k => castTop (ef_2 m w65) (XS.aloadN X0.here hx rfl (hb hby d2_0) rfl rfl k)) ?_
  obtain ⟨T252, X252, e252, st252⟩ := getS2 X0 hx hZ hown (host := "") (Or.inl (wd hw 13 rfl)) Via.refl e0 (S_VotableDatatype_UNSIGNED_BYTE.ext O0.2) (g := (mkF m 1 #[rv w65] [(.ref w65)])) rfl (hb hby d2_1)
  refine own_via (fun t k => st252 t (Jvm.RoadKit.acmp (g := (mkF m 4 #[rv w65] [(.ref w49), (.ref w65)])) X252 hx rfl rfl rfl (pc0 := 4) (pc' := 7) (same := false) rfl (hb hby d2_4) rfl (decide_eq_false fun q => (Fld.ne SF_w65_ordinal SF_w49_ordinal (by decide)) (Value.ref.inj q)) (by decide) (by decide) (XS.aloadN X252.here hx rfl (hb hby d2_7) rfl rfl k))) ?_
  show own_Goes p e below (T252.setTop (mkF m 8 #[rv w65] [(.ref w65)])) _
  obtain ⟨T253, X253, e253, st253⟩ := getS2 X252 hx hZ hown (host := "") (Or.inl (wd hw 15 rfl)) Via.refl e252 (S_VotableDatatype_BIT.ext O0.2) (g := (mkF m 8 #[rv w65] [(.ref w65)])) rfl (hb hby d2_8)
  refine own_via (fun t k => st253 t (Jvm.RoadKit.acmp (g := (mkF m 11 #[rv w65] [(.ref w53), (.ref w65)])) X253 hx rfl rfl rfl (pc0 := 11) (pc' := 18) (same := false) rfl (hb hby d2_11) rfl (decide_eq_false fun q => (Fld.ne SF_w65_ordinal SF_w53_ordinal (by decide)) (Value.ref.inj q)) (by decide) (by decide) (XS.iconst X253.here hx rfl (hb hby d2_18) k))) ?_
  show own_Goes p e below (T253.setTop (mkF m 19 #[rv w65] [(.int (0 : Int32))])) _
  obtain ⟨fs, hr, hrun, hended, hW, hsame⟩ := X253.leave (v := some (.int (0 : Int32))) (fun h => by rw [Bd.returns] at h; cases h)
  refine own_end (t := T253.setFrames fs) ?_ ⟨_, hrun, hended, _, _, rfl, ?_, ⟨_, rfl⟩, hW, hsame.mono (by decide) (by decide)⟩
  · exact retN X253 hx (t := .boolean) Bd.returns (by simp) (hb hby d2_19) hr
  · show Q6 Z w65 w49 w53 h0 n0 _ T253.heap _
    rw [e253]
    exact ⟨rfl, N0, rfl⟩
def Q7 (Z : State) (w80 : Addr) (w49 : Addr) (w53 : Addr) (h0 : Heap) (n0 : Nat) (v : Option Value) (h : Heap) (L : List Loc) : Prop := v = some (.int (0 : Int32)) ∧ Fr n0 L ∧ h = h0
set_option maxRecDepth 65536 in
set_option maxHeartbeats 40000000 in
theorem rm7 (l : Launch) (Z : State) (a0 : Array Value) (hw : ∀ d ∈ tables_1, d.before a0 Z = true) (ws : List Jvm.Cond) (w80 : Addr) (w49 : Addr) (w53 : Addr) (h0 : Heap) (n0 : Nat) (O0 : Old Z n0 h0) (S_VotableDatatype_UNSIGNED_BYTE : Sta Z Z.heap zs1 zs6 zs2 (.ref w49)) (SF_w80_ordinal : Fld Z Z.heap w80 zs3 "ordinal" "I" (.int (5 : Int32))) (SF_w49_ordinal : Fld Z Z.heap w49 zs3 "ordinal" "I" (.int (2 : Int32))) (S_VotableDatatype_BIT : Sta Z Z.heap zs1 "BIT" zs2 (.ref w53)) (SF_w53_ordinal : Fld Z Z.heap w53 zs3 "ordinal" "I" (.int (1 : Int32))) :
    MetFree l (⟨zs1, zs5, "()Z"⟩ : MethodName) (head1 (Jvm.Cond.code (⟨zs1, zs5, "()Z"⟩ : MethodName) prog_43_method_16_code 1 (some .boolean) :: ws) ({ frames := 0, cells := 0, slots := 0, locals := 0 } : Room)) (fun a U => a = #[(.ref w80)] ∧ Z.Warmed39 U.vm ∧ U.heap = h0) (fun _ _ _ _ _ => True) (fun _ U o U' => ∃ v L, o = .returned v ∧ Q7 Z w80 w49 w53 h0 n0 v U'.heap L ∧ FrameEnd U o U' L ({ frames := 0, cells := 0, slots := 0, locals := 0 } : Room).cells ({ frames := 0, cells := 0, slots := 0, locals := 0 } : Room).slots) := by
  refine MetFree.of_bodySF (plainFor_of_name pn_2) hisR ?_
  intro p e s m args below meth c s₁ Bd hml0 hP hK
  obtain ⟨rfl, hZ, hh⟩ := hP
  have hx := Bd.exec
  have hby := Bd.bytes
  have hml : c.maxLocals = 1 := hml0
  have hown : s.vm.findClass zs1 = some m.cls := findClass_of_methodNamed Bd.named
  have hnm := (name_of_methodNamed Bd.named Bd.method).1
  have X0 : Stand p l e ({ frames := 0, cells := 0, slots := 0, locals := 0 } : Room) s m #[(.ref w80)] below meth c s₁ [] 0 0 := Stand.of_body Bd
  have e0 : s₁.heap = h0 := by rw [← hh, Bd.state]; rfl
  have N0 := Fr.nil n0
  refine own_out ?_
  refine own_via (fun t k => castTop (ef_2 m w80) (XS.aloadN X0.here hx rfl (hb hby d2_0) rfl rfl k)) ?_
  obtain ⟨T266, X266, e266, st266⟩ := getS2 X0 hx hZ hown (host := "") (Or.inl (wd hw 13 rfl)) Via.refl e0 (S_VotableDatatype_UNSIGNED_BYTE.ext O0.2) (g := (mkF m 1 #[rv w80] [(.ref w80)])) rfl (hb hby d2_1)
  refine own_via (fun t k => st266 t (Jvm.RoadKit.acmp (g := (mkF m 4 #[rv w80] [(.ref w49), (.ref w80)])) X266 hx rfl rfl rfl (pc0 := 4) (pc' := 7) (same := false) rfl (hb hby d2_4) rfl (decide_eq_false fun q => (Fld.ne SF_w80_ordinal SF_w49_ordinal (by decide)) (Value.ref.inj q)) (by decide) (by decide) (XS.aloadN X266.here hx rfl (hb hby d2_7) rfl rfl k))) ?_
  show own_Goes p e below (T266.setTop (mkF m 8 #[rv w80] [(.ref w80)])) _
  obtain ⟨T267, X267, e267, st267⟩ := getS2 X266 hx hZ hown (host := "") (Or.inl (wd hw 15 rfl)) Via.refl e266 (S_VotableDatatype_BIT.ext O0.2) (g := (mkF m 8 #[rv w80] [(.ref w80)])) rfl (hb hby d2_8)
  refine own_via (fun t k => st267 t (Jvm.RoadKit.acmp (g := (mkF m 11 #[rv w80] [(.ref w53), (.ref w80)])) X267 hx rfl rfl rfl (pc0 := 11) (pc' := 18) (same := false) rfl (hb hby d2_11) rfl (decide_eq_false fun q => (Fld.ne SF_w80_ordinal SF_w53_ordinal (by decide)) (Value.ref.inj q)) (by decide) (by decide) (XS.iconst X267.here hx rfl (hb hby d2_18) k))) ?_
  show own_Goes p e below (T267.setTop (mkF m 19 #[rv w80] [(.int (0 : Int32))])) _
  obtain ⟨fs, hr, hrun, hended, hW, hsame⟩ := X267.leave (v := some (.int (0 : Int32))) (fun h => by rw [Bd.returns] at h; cases h)
  refine own_end (t := T267.setFrames fs) ?_ ⟨_, hrun, hended, _, _, rfl, ?_, ⟨_, rfl⟩, hW, hsame.mono (by decide) (by decide)⟩
  · exact retN X267 hx (t := .boolean) Bd.returns (by simp) (hb hby d2_19) hr
  · show Q7 Z w80 w49 w53 h0 n0 _ T267.heap _
    rw [e267]
    exact ⟨rfl, N0, rfl⟩
def Q8 (Z : State) (w77 : Addr) (w49 : Addr) (w53 : Addr) (h0 : Heap) (n0 : Nat) (v : Option Value) (h : Heap) (L : List Loc) : Prop := v = some (.int (0 : Int32)) ∧ Fr n0 L ∧ h = h0
set_option maxRecDepth 65536 in
set_option maxHeartbeats 40000000 in
theorem rm8 (l : Launch) (Z : State) (a0 : Array Value) (hw : ∀ d ∈ tables_1, d.before a0 Z = true) (ws : List Jvm.Cond) (w77 : Addr) (w49 : Addr) (w53 : Addr) (h0 : Heap) (n0 : Nat) (O0 : Old Z n0 h0) (S_VotableDatatype_UNSIGNED_BYTE : Sta Z Z.heap zs1 zs6 zs2 (.ref w49)) (SF_w77_ordinal : Fld Z Z.heap w77 zs3 "ordinal" "I" (.int (6 : Int32))) (SF_w49_ordinal : Fld Z Z.heap w49 zs3 "ordinal" "I" (.int (2 : Int32))) (S_VotableDatatype_BIT : Sta Z Z.heap zs1 "BIT" zs2 (.ref w53)) (SF_w53_ordinal : Fld Z Z.heap w53 zs3 "ordinal" "I" (.int (1 : Int32))) :
    MetFree l (⟨zs1, zs5, "()Z"⟩ : MethodName) (head1 (Jvm.Cond.code (⟨zs1, zs5, "()Z"⟩ : MethodName) prog_43_method_16_code 1 (some .boolean) :: ws) ({ frames := 0, cells := 0, slots := 0, locals := 0 } : Room)) (fun a U => a = #[(.ref w77)] ∧ Z.Warmed39 U.vm ∧ U.heap = h0) (fun _ _ _ _ _ => True) (fun _ U o U' => ∃ v L, o = .returned v ∧ Q8 Z w77 w49 w53 h0 n0 v U'.heap L ∧ FrameEnd U o U' L ({ frames := 0, cells := 0, slots := 0, locals := 0 } : Room).cells ({ frames := 0, cells := 0, slots := 0, locals := 0 } : Room).slots) := by
  refine MetFree.of_bodySF (plainFor_of_name pn_2) hisR ?_
  intro p e s m args below meth c s₁ Bd hml0 hP hK
  obtain ⟨rfl, hZ, hh⟩ := hP
  have hx := Bd.exec
  have hby := Bd.bytes
  have hml : c.maxLocals = 1 := hml0
  have hown : s.vm.findClass zs1 = some m.cls := findClass_of_methodNamed Bd.named
  have hnm := (name_of_methodNamed Bd.named Bd.method).1
  have X0 : Stand p l e ({ frames := 0, cells := 0, slots := 0, locals := 0 } : Room) s m #[(.ref w77)] below meth c s₁ [] 0 0 := Stand.of_body Bd
  have e0 : s₁.heap = h0 := by rw [← hh, Bd.state]; rfl
  have N0 := Fr.nil n0
  refine own_out ?_
  refine own_via (fun t k => castTop (ef_2 m w77) (XS.aloadN X0.here hx rfl (hb hby d2_0) rfl rfl k)) ?_
  obtain ⟨T281, X281, e281, st281⟩ := getS2 X0 hx hZ hown (host := "") (Or.inl (wd hw 13 rfl)) Via.refl e0 (S_VotableDatatype_UNSIGNED_BYTE.ext O0.2) (g := (mkF m 1 #[rv w77] [(.ref w77)])) rfl (hb hby d2_1)
  refine own_via (fun t k => st281 t (Jvm.RoadKit.acmp (g := (mkF m 4 #[rv w77] [(.ref w49), (.ref w77)])) X281 hx rfl rfl rfl (pc0 := 4) (pc' := 7) (same := false) rfl (hb hby d2_4) rfl (decide_eq_false fun q => (Fld.ne SF_w77_ordinal SF_w49_ordinal (by decide)) (Value.ref.inj q)) (by decide) (by decide) (XS.aloadN X281.here hx rfl (hb hby d2_7) rfl rfl k))) ?_
  show own_Goes p e below (T281.setTop (mkF m 8 #[rv w77] [(.ref w77)])) _
  obtain ⟨T282, X282, e282, st282⟩ := getS2 X281 hx hZ hown (host := "") (Or.inl (wd hw 15 rfl)) Via.refl e281 (S_VotableDatatype_BIT.ext O0.2) (g := (mkF m 8 #[rv w77] [(.ref w77)])) rfl (hb hby d2_8)
  refine own_via (fun t k => st282 t (Jvm.RoadKit.acmp (g := (mkF m 11 #[rv w77] [(.ref w53), (.ref w77)])) X282 hx rfl rfl rfl (pc0 := 11) (pc' := 18) (same := false) rfl (hb hby d2_11) rfl (decide_eq_false fun q => (Fld.ne SF_w77_ordinal SF_w53_ordinal (by decide)) (Value.ref.inj q)) (by decide) (by decide) (XS.iconst X282.here hx rfl (hb hby d2_18) k))) ?_
  show own_Goes p e below (T282.setTop (mkF m 19 #[rv w77] [(.int (0 : Int32))])) _
  obtain ⟨fs, hr, hrun, hended, hW, hsame⟩ := X282.leave (v := some (.int (0 : Int32))) (fun h => by rw [Bd.returns] at h; cases h)
  refine own_end (t := T282.setFrames fs) ?_ ⟨_, hrun, hended, _, _, rfl, ?_, ⟨_, rfl⟩, hW, hsame.mono (by decide) (by decide)⟩
  · exact retN X282 hx (t := .boolean) Bd.returns (by simp) (hb hby d2_19) hr
  · show Q8 Z w77 w49 w53 h0 n0 _ T282.heap _
    rw [e282]
    exact ⟨rfl, N0, rfl⟩
def Q9 (Z : State) (w59 : Addr) (w49 : Addr) (w53 : Addr) (h0 : Heap) (n0 : Nat) (v : Option Value) (h : Heap) (L : List Loc) : Prop := v = some (.int (0 : Int32)) ∧ Fr n0 L ∧ h = h0
set_option maxRecDepth 65536 in
set_option maxHeartbeats 40000000 in
theorem rm9 (l : Launch) (Z : State) (a0 : Array Value) (hw : ∀ d ∈ tables_1, d.before a0 Z = true) (ws : List Jvm.Cond) (w59 : Addr) (w49 : Addr) (w53 : Addr) (h0 : Heap) (n0 : Nat) (O0 : Old Z n0 h0) (S_VotableDatatype_UNSIGNED_BYTE : Sta Z Z.heap zs1 zs6 zs2 (.ref w49)) (SF_w59_ordinal : Fld Z Z.heap w59 zs3 "ordinal" "I" (.int (7 : Int32))) (SF_w49_ordinal : Fld Z Z.heap w49 zs3 "ordinal" "I" (.int (2 : Int32))) (S_VotableDatatype_BIT : Sta Z Z.heap zs1 "BIT" zs2 (.ref w53)) (SF_w53_ordinal : Fld Z Z.heap w53 zs3 "ordinal" "I" (.int (1 : Int32))) :
    MetFree l (⟨zs1, zs5, "()Z"⟩ : MethodName) (head1 (Jvm.Cond.code (⟨zs1, zs5, "()Z"⟩ : MethodName) prog_43_method_16_code 1 (some .boolean) :: ws) ({ frames := 0, cells := 0, slots := 0, locals := 0 } : Room)) (fun a U => a = #[(.ref w59)] ∧ Z.Warmed39 U.vm ∧ U.heap = h0) (fun _ _ _ _ _ => True) (fun _ U o U' => ∃ v L, o = .returned v ∧ Q9 Z w59 w49 w53 h0 n0 v U'.heap L ∧ FrameEnd U o U' L ({ frames := 0, cells := 0, slots := 0, locals := 0 } : Room).cells ({ frames := 0, cells := 0, slots := 0, locals := 0 } : Room).slots) := by
  refine MetFree.of_bodySF (plainFor_of_name pn_2) hisR ?_
  intro p e s m args below meth c s₁ Bd hml0 hP hK
  obtain ⟨rfl, hZ, hh⟩ := hP
  have hx := Bd.exec
  have hby := Bd.bytes
  have hml : c.maxLocals = 1 := hml0
  have hown : s.vm.findClass zs1 = some m.cls := findClass_of_methodNamed Bd.named
  have hnm := (name_of_methodNamed Bd.named Bd.method).1
  have X0 : Stand p l e ({ frames := 0, cells := 0, slots := 0, locals := 0 } : Room) s m #[(.ref w59)] below meth c s₁ [] 0 0 := Stand.of_body Bd
  have e0 : s₁.heap = h0 := by rw [← hh, Bd.state]; rfl
  have N0 := Fr.nil n0
  refine own_out ?_
  refine own_via (fun t k => castTop (ef_2 m w59) (XS.aloadN X0.here hx rfl (hb hby d2_0) rfl rfl k)) ?_
  obtain ⟨T297, X297, e297, st297⟩ := getS2 X0 hx hZ hown (host := "") (Or.inl (wd hw 13 rfl)) Via.refl e0 (S_VotableDatatype_UNSIGNED_BYTE.ext O0.2) (g := (mkF m 1 #[rv w59] [(.ref w59)])) rfl (hb hby d2_1)
  refine own_via (fun t k => st297 t (Jvm.RoadKit.acmp (g := (mkF m 4 #[rv w59] [(.ref w49), (.ref w59)])) X297 hx rfl rfl rfl (pc0 := 4) (pc' := 7) (same := false) rfl (hb hby d2_4) rfl (decide_eq_false fun q => (Fld.ne SF_w59_ordinal SF_w49_ordinal (by decide)) (Value.ref.inj q)) (by decide) (by decide) (XS.aloadN X297.here hx rfl (hb hby d2_7) rfl rfl k))) ?_
  show own_Goes p e below (T297.setTop (mkF m 8 #[rv w59] [(.ref w59)])) _
  obtain ⟨T298, X298, e298, st298⟩ := getS2 X297 hx hZ hown (host := "") (Or.inl (wd hw 15 rfl)) Via.refl e297 (S_VotableDatatype_BIT.ext O0.2) (g := (mkF m 8 #[rv w59] [(.ref w59)])) rfl (hb hby d2_8)
  refine own_via (fun t k => st298 t (Jvm.RoadKit.acmp (g := (mkF m 11 #[rv w59] [(.ref w53), (.ref w59)])) X298 hx rfl rfl rfl (pc0 := 11) (pc' := 18) (same := false) rfl (hb hby d2_11) rfl (decide_eq_false fun q => (Fld.ne SF_w59_ordinal SF_w53_ordinal (by decide)) (Value.ref.inj q)) (by decide) (by decide) (XS.iconst X298.here hx rfl (hb hby d2_18) k))) ?_
  show own_Goes p e below (T298.setTop (mkF m 19 #[rv w59] [(.int (0 : Int32))])) _
  obtain ⟨fs, hr, hrun, hended, hW, hsame⟩ := X298.leave (v := some (.int (0 : Int32))) (fun h => by rw [Bd.returns] at h; cases h)
  refine own_end (t := T298.setFrames fs) ?_ ⟨_, hrun, hended, _, _, rfl, ?_, ⟨_, rfl⟩, hW, hsame.mono (by decide) (by decide)⟩
  · exact retN X298 hx (t := .boolean) Bd.returns (by simp) (hb hby d2_19) hr
  · show Q9 Z w59 w49 w53 h0 n0 _ T298.heap _
    rw [e298]
    exact ⟨rfl, N0, rfl⟩
def Q10 (Z : State) (w68 : Addr) (w49 : Addr) (w53 : Addr) (h0 : Heap) (n0 : Nat) (v : Option Value) (h : Heap) (L : List Loc) : Prop := v = some (.int (0 : Int32)) ∧ Fr n0 L ∧ h = h0
set_option maxRecDepth 65536 in
set_option maxHeartbeats 40000000 in
theorem rm10 (l : Launch) (Z : State) (a0 : Array Value) (hw : ∀ d ∈ tables_1, d.before a0 Z = true) (ws : List Jvm.Cond) (w68 : Addr) (w49 : Addr) (w53 : Addr) (h0 : Heap) (n0 : Nat) (O0 : Old Z n0 h0) (S_VotableDatatype_UNSIGNED_BYTE : Sta Z Z.heap zs1 zs6 zs2 (.ref w49)) (SF_w68_ordinal : Fld Z Z.heap w68 zs3 "ordinal" "I" (.int (8 : Int32))) (SF_w49_ordinal : Fld Z Z.heap w49 zs3 "ordinal" "I" (.int (2 : Int32))) (S_VotableDatatype_BIT : Sta Z Z.heap zs1 "BIT" zs2 (.ref w53)) (SF_w53_ordinal : Fld Z Z.heap w53 zs3 "ordinal" "I" (.int (1 : Int32))) :
    MetFree l (⟨zs1, zs5, "()Z"⟩ : MethodName) (head1 (Jvm.Cond.code (⟨zs1, zs5, "()Z"⟩ : MethodName) prog_43_method_16_code 1 (some .boolean) :: ws) ({ frames := 0, cells := 0, slots := 0, locals := 0 } : Room)) (fun a U => a = #[(.ref w68)] ∧ Z.Warmed39 U.vm ∧ U.heap = h0) (fun _ _ _ _ _ => True) (fun _ U o U' => ∃ v L, o = .returned v ∧ Q10 Z w68 w49 w53 h0 n0 v U'.heap L ∧ FrameEnd U o U' L ({ frames := 0, cells := 0, slots := 0, locals := 0 } : Room).cells ({ frames := 0, cells := 0, slots := 0, locals := 0 } : Room).slots) := by
  refine MetFree.of_bodySF (plainFor_of_name pn_2) hisR ?_
  intro p e s m args below meth c s₁ Bd hml0 hP hK
  obtain ⟨rfl, hZ, hh⟩ := hP
  have hx := Bd.exec
  have hby := Bd.bytes
  have hml : c.maxLocals = 1 := hml0
  have hown : s.vm.findClass zs1 = some m.cls := findClass_of_methodNamed Bd.named
  have hnm := (name_of_methodNamed Bd.named Bd.method).1
  have X0 : Stand p l e ({ frames := 0, cells := 0, slots := 0, locals := 0 } : Room) s m #[(.ref w68)] below meth c s₁ [] 0 0 := Stand.of_body Bd
  have e0 : s₁.heap = h0 := by rw [← hh, Bd.state]; rfl
  have N0 := Fr.nil n0
  refine own_out ?_
  refine own_via (fun t k => castTop (ef_2 m w68) (XS.aloadN X0.here hx rfl (hb hby d2_0) rfl rfl k)) ?_
  obtain ⟨T314, X314, e314, st314⟩ := getS2 X0 hx hZ hown (host := "") (Or.inl (wd hw 13 rfl)) Via.refl e0 (S_VotableDatatype_UNSIGNED_BYTE.ext O0.2) (g := (mkF m 1 #[rv w68] [(.ref w68)])) rfl (hb hby d2_1)
  refine own_via (fun t k => st314 t (Jvm.RoadKit.acmp (g := (mkF m 4 #[rv w68] [(.ref w49), (.ref w68)])) X314 hx rfl rfl rfl (pc0 := 4) (pc' := 7) (same := false) rfl (hb hby d2_4) rfl (decide_eq_false fun q => (Fld.ne SF_w68_ordinal SF_w49_ordinal (by decide)) (Value.ref.inj q)) (by decide) (by decide) (XS.aloadN X314.here hx rfl (hb hby d2_7) rfl rfl k))) ?_
  show own_Goes p e below (T314.setTop (mkF m 8 #[rv w68] [(.ref w68)])) _
  obtain ⟨T315, X315, e315, st315⟩ := getS2 X314 hx hZ hown (host := "") (Or.inl (wd hw 15 rfl)) Via.refl e314 (S_VotableDatatype_BIT.ext O0.2) (g := (mkF m 8 #[rv w68] [(.ref w68)])) rfl (hb hby d2_8)
  refine own_via (fun t k => st315 t (Jvm.RoadKit.acmp (g := (mkF m 11 #[rv w68] [(.ref w53), (.ref w68)])) X315 hx rfl rfl rfl (pc0 := 11) (pc' := 18) (same := false) rfl (hb hby d2_11) rfl (decide_eq_false fun q => (Fld.ne SF_w68_ordinal SF_w53_ordinal (by decide)) (Value.ref.inj q)) (by decide) (by decide) (XS.iconst X315.here hx rfl (hb hby d2_18) k))) ?_
  show own_Goes p e below (T315.setTop (mkF m 19 #[rv w68] [(.int (0 : Int32))])) _
  obtain ⟨fs, hr, hrun, hended, hW, hsame⟩ := X315.leave (v := some (.int (0 : Int32))) (fun h => by rw [Bd.returns] at h; cases h)
  refine own_end (t := T315.setFrames fs) ?_ ⟨_, hrun, hended, _, _, rfl, ?_, ⟨_, rfl⟩, hW, hsame.mono (by decide) (by decide)⟩
  · exact retN X315 hx (t := .boolean) Bd.returns (by simp) (hb hby d2_19) hr
  · show Q10 Z w68 w49 w53 h0 n0 _ T315.heap _
    rw [e315]
    exact ⟨rfl, N0, rfl⟩
def Q11 (Z : State) (w74 : Addr) (w49 : Addr) (w53 : Addr) (h0 : Heap) (n0 : Nat) (v : Option Value) (h : Heap) (L : List Loc) : Prop := v = some (.int (0 : Int32)) ∧ Fr n0 L ∧ h = h0
set_option maxRecDepth 65536 in
set_option maxHeartbeats 40000000 in
theorem rm11 (l : Launch) (Z : State) (a0 : Array Value) (hw : ∀ d ∈ tables_1, d.before a0 Z = true) (ws : List Jvm.Cond) (w74 : Addr) (w49 : Addr) (w53 : Addr) (h0 : Heap) (n0 : Nat) (O0 : Old Z n0 h0) (S_VotableDatatype_UNSIGNED_BYTE : Sta Z Z.heap zs1 zs6 zs2 (.ref w49)) (SF_w74_ordinal : Fld Z Z.heap w74 zs3 "ordinal" "I" (.int (9 : Int32))) (SF_w49_ordinal : Fld Z Z.heap w49 zs3 "ordinal" "I" (.int (2 : Int32))) (S_VotableDatatype_BIT : Sta Z Z.heap zs1 "BIT" zs2 (.ref w53)) (SF_w53_ordinal : Fld Z Z.heap w53 zs3 "ordinal" "I" (.int (1 : Int32))) :
    MetFree l (⟨zs1, zs5, "()Z"⟩ : MethodName) (head1 (Jvm.Cond.code (⟨zs1, zs5, "()Z"⟩ : MethodName) prog_43_method_16_code 1 (some .boolean) :: ws) ({ frames := 0, cells := 0, slots := 0, locals := 0 } : Room)) (fun a U => a = #[(.ref w74)] ∧ Z.Warmed39 U.vm ∧ U.heap = h0) (fun _ _ _ _ _ => True) (fun _ U o U' => ∃ v L, o = .returned v ∧ Q11 Z w74 w49 w53 h0 n0 v U'.heap L ∧ FrameEnd U o U' L ({ frames := 0, cells := 0, slots := 0, locals := 0 } : Room).cells ({ frames := 0, cells := 0, slots := 0, locals := 0 } : Room).slots) := by
  refine MetFree.of_bodySF (plainFor_of_name pn_2) hisR ?_
  intro p e s m args below meth c s₁ Bd hml0 hP hK
  obtain ⟨rfl, hZ, hh⟩ := hP
  have hx := Bd.exec
  have hby := Bd.bytes
  have hml : c.maxLocals = 1 := hml0
  have hown : s.vm.findClass zs1 = some m.cls := findClass_of_methodNamed Bd.named
  have hnm := (name_of_methodNamed Bd.named Bd.method).1
  have X0 : Stand p l e ({ frames := 0, cells := 0, slots := 0, locals := 0 } : Room) s m #[(.ref w74)] below meth c s₁ [] 0 0 := Stand.of_body Bd
  have e0 : s₁.heap = h0 := by rw [← hh, Bd.state]; rfl
  have N0 := Fr.nil n0
  refine own_out ?_
  refine own_via (fun t k => castTop (ef_2 m w74) (XS.aloadN X0.here hx rfl (hb hby d2_0) rfl rfl k)) ?_
  obtain ⟨T332, X332, e332, st332⟩ := getS2 X0 hx hZ hown (host := "") (Or.inl (wd hw 13 rfl)) Via.refl e0 (S_VotableDatatype_UNSIGNED_BYTE.ext O0.2) (g := (mkF m 1 #[rv w74] [(.ref w74)])) rfl (hb hby d2_1)
  refine own_via (fun t k => st332 t (Jvm.RoadKit.acmp (g := (mkF m 4 #[rv w74] [(.ref w49), (.ref w74)])) X332 hx rfl rfl rfl (pc0 := 4) (pc' := 7) (same := false) rfl (hb hby d2_4) rfl (decide_eq_false fun q => (Fld.ne SF_w74_ordinal SF_w49_ordinal (by decide)) (Value.ref.inj q)) (by decide) (by decide) (XS.aloadN X332.here hx rfl (hb hby d2_7) rfl rfl k))) ?_
  show own_Goes p e below (T332.setTop (mkF m 8 #[rv w74] [(.ref w74)])) _
  obtain ⟨T333, X333, e333, st333⟩ := getS2 X332 hx hZ hown (host := "") (Or.inl (wd hw 15 rfl)) Via.refl e332 (S_VotableDatatype_BIT.ext O0.2) (g := (mkF m 8 #[rv w74] [(.ref w74)])) rfl (hb hby d2_8)
  refine own_via (fun t k => st333 t (Jvm.RoadKit.acmp (g := (mkF m 11 #[rv w74] [(.ref w53), (.ref w74)])) X333 hx rfl rfl rfl (pc0 := 11) (pc' := 18) (same := false) rfl (hb hby d2_11) rfl (decide_eq_false fun q => (Fld.ne SF_w74_ordinal SF_w53_ordinal (by decide)) (Value.ref.inj q)) (by decide) (by decide) (XS.iconst X333.here hx rfl (hb hby d2_18) k))) ?_
  show own_Goes p e below (T333.setTop (mkF m 19 #[rv w74] [(.int (0 : Int32))])) _
  obtain ⟨fs, hr, hrun, hended, hW, hsame⟩ := X333.leave (v := some (.int (0 : Int32))) (fun h => by rw [Bd.returns] at h; cases h)
  refine own_end (t := T333.setFrames fs) ?_ ⟨_, hrun, hended, _, _, rfl, ?_, ⟨_, rfl⟩, hW, hsame.mono (by decide) (by decide)⟩
  · exact retN X333 hx (t := .boolean) Bd.returns (by simp) (hb hby d2_19) hr
  · show Q11 Z w74 w49 w53 h0 n0 _ T333.heap _
    rw [e333]
    exact ⟨rfl, N0, rfl⟩
def Q12 (Z : State) (w71 : Addr) (w49 : Addr) (w53 : Addr) (h0 : Heap) (n0 : Nat) (v : Option Value) (h : Heap) (L : List Loc) : Prop := v = some (.int (0 : Int32)) ∧ Fr n0 L ∧ h = h0
set_option maxRecDepth 65536 in
set_option maxHeartbeats 40000000 in
theorem rm12 (l : Launch) (Z : State) (a0 : Array Value) (hw : ∀ d ∈ tables_1, d.before a0 Z = true) (ws : List Jvm.Cond) (w71 : Addr) (w49 : Addr) (w53 : Addr) (h0 : Heap) (n0 : Nat) (O0 : Old Z n0 h0) (S_VotableDatatype_UNSIGNED_BYTE : Sta Z Z.heap zs1 zs6 zs2 (.ref w49)) (SF_w71_ordinal : Fld Z Z.heap w71 zs3 "ordinal" "I" (.int (10 : Int32))) (SF_w49_ordinal : Fld Z Z.heap w49 zs3 "ordinal" "I" (.int (2 : Int32))) (S_VotableDatatype_BIT : Sta Z Z.heap zs1 "BIT" zs2 (.ref w53)) (SF_w53_ordinal : Fld Z Z.heap w53 zs3 "ordinal" "I" (.int (1 : Int32))) :
    MetFree l (⟨zs1, zs5, "()Z"⟩ : MethodName) (head1 (Jvm.Cond.code (⟨zs1, zs5, "()Z"⟩ : MethodName) prog_43_method_16_code 1 (some .boolean) :: ws) ({ frames := 0, cells := 0, slots := 0, locals := 0 } : Room)) (fun a U => a = #[(.ref w71)] ∧ Z.Warmed39 U.vm ∧ U.heap = h0) (fun _ _ _ _ _ => True) (fun _ U o U' => ∃ v L, o = .returned v ∧ Q12 Z w71 w49 w53 h0 n0 v U'.heap L ∧ FrameEnd U o U' L ({ frames := 0, cells := 0, slots := 0, locals := 0 } : Room).cells ({ frames := 0, cells := 0, slots := 0, locals := 0 } : Room).slots) := by
  refine MetFree.of_bodySF (plainFor_of_name pn_2) hisR ?_
  intro p e s m args below meth c s₁ Bd hml0 hP hK
  obtain ⟨rfl, hZ, hh⟩ := hP
  have hx := Bd.exec
  have hby := Bd.bytes
  have hml : c.maxLocals = 1 := hml0
  have hown : s.vm.findClass zs1 = some m.cls := findClass_of_methodNamed Bd.named
  have hnm := (name_of_methodNamed Bd.named Bd.method).1
  have X0 : Stand p l e ({ frames := 0, cells := 0, slots := 0, locals := 0 } : Room) s m #[(.ref w71)] below meth c s₁ [] 0 0 := Stand.of_body Bd
  have e0 : s₁.heap = h0 := by rw [← hh, Bd.state]; rfl
  have N0 := Fr.nil n0
  refine own_out ?_
  refine own_via (fun t k => castTop (ef_2 m w71) (XS.aloadN X0.here hx rfl (hb hby d2_0) rfl rfl k)) ?_
  obtain ⟨T351, X351, e351, st351⟩ := getS2 X0 hx hZ hown (host := "") (Or.inl (wd hw 13 rfl)) Via.refl e0 (S_VotableDatatype_UNSIGNED_BYTE.ext O0.2) (g := (mkF m 1 #[rv w71] [(.ref w71)])) rfl (hb hby d2_1)
  refine own_via (fun t k => st351 t (Jvm.RoadKit.acmp (g := (mkF m 4 #[rv w71] [(.ref w49), (.ref w71)])) X351 hx rfl rfl rfl (pc0 := 4) (pc' := 7) (same := false) rfl (hb hby d2_4) rfl (decide_eq_false fun q => (Fld.ne SF_w71_ordinal SF_w49_ordinal (by decide)) (Value.ref.inj q)) (by decide) (by decide) (XS.aloadN X351.here hx rfl (hb hby d2_7) rfl rfl k))) ?_
  show own_Goes p e below (T351.setTop (mkF m 8 #[rv w71] [(.ref w71)])) _
  obtain ⟨T352, X352, e352, st352⟩ := getS2 X351 hx hZ hown (host := "") (Or.inl (wd hw 15 rfl)) Via.refl e351 (S_VotableDatatype_BIT.ext O0.2) (g := (mkF m 8 #[rv w71] [(.ref w71)])) rfl (hb hby d2_8)
  refine own_via (fun t k => st352 t (Jvm.RoadKit.acmp (g := (mkF m 11 #[rv w71] [(.ref w53), (.ref w71)])) X352 hx rfl rfl rfl (pc0 := 11) (pc' := 18) (same := false) rfl (hb hby d2_11) rfl (decide_eq_false fun q => (Fld.ne SF_w71_ordinal SF_w53_ordinal (by decide)) (Value.ref.inj q)) (by decide) (by decide) (XS.iconst X352.here hx rfl (hb hby d2_18) k))) ?_
  show own_Goes p e below (T352.setTop (mkF m 19 #[rv w71] [(.int (0 : Int32))])) _
  obtain ⟨fs, hr, hrun, hended, hW, hsame⟩ := X352.leave (v := some (.int (0 : Int32))) (fun h => by rw [Bd.returns] at h; cases h)
  refine own_end (t := T352.setFrames fs) ?_ ⟨_, hrun, hended, _, _, rfl, ?_, ⟨_, rfl⟩, hW, hsame.mono (by decide) (by decide)⟩
  · exact retN X352 hx (t := .boolean) Bd.returns (by simp) (hb hby d2_19) hr
  · show Q12 Z w71 w49 w53 h0 n0 _ T352.heap _
    rw [e352]
    exact ⟨rfl, N0, rfl⟩
def Q13 (Z : State) (w62 : Addr) (w49 : Addr) (w53 : Addr) (h0 : Heap) (n0 : Nat) (v : Option Value) (h : Heap) (L : List Loc) : Prop := v = some (.int (0 : Int32)) ∧ Fr n0 L ∧ h = h0
set_option maxRecDepth 65536 in
set_option maxHeartbeats 40000000 in
theorem rm13 (l : Launch) (Z : State) (a0 : Array Value) (hw : ∀ d ∈ tables_1, d.before a0 Z = true) (ws : List Jvm.Cond) (w62 : Addr) (w49 : Addr) (w53 : Addr) (h0 : Heap) (n0 : Nat) (O0 : Old Z n0 h0) (S_VotableDatatype_UNSIGNED_BYTE : Sta Z Z.heap zs1 zs6 zs2 (.ref w49)) (SF_w62_ordinal : Fld Z Z.heap w62 zs3 "ordinal" "I" (.int (11 : Int32))) (SF_w49_ordinal : Fld Z Z.heap w49 zs3 "ordinal" "I" (.int (2 : Int32))) (S_VotableDatatype_BIT : Sta Z Z.heap zs1 "BIT" zs2 (.ref w53)) (SF_w53_ordinal : Fld Z Z.heap w53 zs3 "ordinal" "I" (.int (1 : Int32))) :
    MetFree l (⟨zs1, zs5, "()Z"⟩ : MethodName) (head1 (Jvm.Cond.code (⟨zs1, zs5, "()Z"⟩ : MethodName) prog_43_method_16_code 1 (some .boolean) :: ws) ({ frames := 0, cells := 0, slots := 0, locals := 0 } : Room)) (fun a U => a = #[(.ref w62)] ∧ Z.Warmed39 U.vm ∧ U.heap = h0) (fun _ _ _ _ _ => True) (fun _ U o U' => ∃ v L, o = .returned v ∧ Q13 Z w62 w49 w53 h0 n0 v U'.heap L ∧ FrameEnd U o U' L ({ frames := 0, cells := 0, slots := 0, locals := 0 } : Room).cells ({ frames := 0, cells := 0, slots := 0, locals := 0 } : Room).slots) := by
  refine MetFree.of_bodySF (plainFor_of_name pn_2) hisR ?_
  intro p e s m args below meth c s₁ Bd hml0 hP hK
  obtain ⟨rfl, hZ, hh⟩ := hP
  have hx := Bd.exec
  have hby := Bd.bytes
  have hml : c.maxLocals = 1 := hml0
  have hown : s.vm.findClass zs1 = some m.cls := findClass_of_methodNamed Bd.named
  have hnm := (name_of_methodNamed Bd.named Bd.method).1
  have X0 : Stand p l e ({ frames := 0, cells := 0, slots := 0, locals := 0 } : Room) s m #[(.ref w62)] below meth c s₁ [] 0 0 := Stand.of_body Bd
  have e0 : s₁.heap = h0 := by rw [← hh, Bd.state]; rfl
  have N0 := Fr.nil n0
  refine own_out ?_
  refine own_via (fun t k => castTop (ef_2 m w62) (XS.aloadN X0.here hx rfl (hb hby d2_0) rfl rfl k)) ?_
  obtain ⟨T370, X370, e370, st370⟩ := getS2 X0 hx hZ hown (host := "") (Or.inl (wd hw 13 rfl)) Via.refl e0 (S_VotableDatatype_UNSIGNED_BYTE.ext O0.2) (g := (mkF m 1 #[rv w62] [(.ref w62)])) rfl (hb hby d2_1)
  refine own_via (fun t k => st370 t (Jvm.RoadKit.acmp (g := (mkF m 4 #[rv w62] [(.ref w49), (.ref w62)])) X370 hx rfl rfl rfl (pc0 := 4) (pc' := 7) (same := false) rfl (hb hby d2_4) rfl (decide_eq_false fun q => (Fld.ne SF_w62_ordinal SF_w49_ordinal (by decide)) (Value.ref.inj q)) (by decide) (by decide) (XS.aloadN X370.here hx rfl (hb hby d2_7) rfl rfl k))) ?_
  show own_Goes p e below (T370.setTop (mkF m 8 #[rv w62] [(.ref w62)])) _
  obtain ⟨T371, X371, e371, st371⟩ := getS2 X370 hx hZ hown (host := "") (Or.inl (wd hw 15 rfl)) Via.refl e370 (S_VotableDatatype_BIT.ext O0.2) (g := (mkF m 8 #[rv w62] [(.ref w62)])) rfl (hb hby d2_8)
  refine own_via (fun t k => st371 t (Jvm.RoadKit.acmp (g := (mkF m 11 #[rv w62] [(.ref w53), (.ref w62)])) X371 hx rfl rfl rfl (pc0 := 11) (pc' := 18) (same := false) rfl (hb hby d2_11) rfl (decide_eq_false fun q => (Fld.ne SF_w62_ordinal SF_w53_ordinal (by decide)) (Value.ref.inj q)) (by decide) (by decide) (XS.iconst X371.here hx rfl (hb hby d2_18) k))) ?_
  show own_Goes p e below (T371.setTop (mkF m 19 #[rv w62] [(.int (0 : Int32))])) _
  obtain ⟨fs, hr, hrun, hended, hW, hsame⟩ := X371.leave (v := some (.int (0 : Int32))) (fun h => by rw [Bd.returns] at h; cases h)
  refine own_end (t := T371.setFrames fs) ?_ ⟨_, hrun, hended, _, _, rfl, ?_, ⟨_, rfl⟩, hW, hsame.mono (by decide) (by decide)⟩
  · exact retN X371 hx (t := .boolean) Bd.returns (by simp) (hb hby d2_19) hr
  · show Q13 Z w62 w49 w53 h0 n0 _ T371.heap _
    rw [e371]
    exact ⟨rfl, N0, rfl⟩
theorem ef_3 (m : MethodId) (x0 : Int32) : entryFrame m #[(.int x0)] maxLocals = mkF m 0 #[iv x0, .unset, .unset, .unset] [] := by first | (simp [entryFrame, mkF, argsToLocals, Value.category, maxLocals]; done) | rfl
set_option maxRecDepth 65536 in
set_option maxHeartbeats 40000000 in
theorem rm0 (l : Launch) (Z : State) (a0 : Array Value) (hw : ∀ d ∈ tables_1, d.before a0 Z = true) (ws : List Jvm.Cond) (i0 : Int32) (w47 : Addr) (w53 : Addr) (w49 : Addr) (w56 : Addr) (w65 : Addr) (w80 : Addr) (w77 : Addr) (w59 : Addr) (w68 : Addr) (w74 : Addr) (w71 : Addr) (w62 : Addr) (h0 : Heap) (n0 : Nat) (O0 : Old Z n0 h0) (S_VotableDatatype_BOOLEAN : Sta Z Z.heap zs1 "BOOLEAN" zs2 (.ref w47)) (S_VotableDatatype_BIT : Sta Z Z.heap zs1 "BIT" zs2 (.ref w53)) (S_VotableDatatype_UNSIGNED_BYTE : Sta Z Z.heap zs1 zs6 zs2 (.ref w49)) (S_VotableDatatype_SHORT : Sta Z Z.heap zs1 "SHORT" zs2 (.ref w56)) (S_VotableDatatype_INT : Sta Z Z.heap zs1 "INT" zs2 (.ref w65)) (S_VotableDatatype_LONG : Sta Z Z.heap zs1 "LONG" zs2 (.ref w80)) (S_VotableDatatype_CHAR : Sta Z Z.heap zs1 "CHAR" zs2 (.ref w77)) (S_VotableDatatype_UNICODE_CHAR : Sta Z Z.heap zs1 "UNICODE_CHAR" zs2 (.ref w59)) (S_VotableDatatype_FLOAT : Sta Z Z.heap zs1 "FLOAT" zs2 (.ref w68)) (S_VotableDatatype_DOUBLE : Sta Z Z.heap zs1 "DOUBLE" zs2 (.ref w74)) (S_VotableDatatype_FLOAT_COMPLEX : Sta Z Z.heap zs1 "FLOAT_COMPLEX" zs2 (.ref w71)) (S_VotableDatatype_DOUBLE_COMPLEX : Sta Z Z.heap zs1 "DOUBLE_COMPLEX" zs2 (.ref w62)) (SF_w47_ordinal : Fld Z Z.heap w47 zs3 "ordinal" "I" (.int (0 : Int32))) (SF_w49_ordinal : Fld Z Z.heap w49 zs3 "ordinal" "I" (.int (2 : Int32))) (SF_w53_ordinal : Fld Z Z.heap w53 zs3 "ordinal" "I" (.int (1 : Int32))) (SE_w47 : Exa Z Z.heap w47 zs1) (SE_w53 : Exa Z Z.heap w53 zs1) (SE_w49 : Exa Z Z.heap w49 zs1) (SF_w56_ordinal : Fld Z Z.heap w56 zs3 "ordinal" "I" (.int (3 : Int32))) (SE_w56 : Exa Z Z.heap w56 zs1) (SF_w65_ordinal : Fld Z Z.heap w65 zs3 "ordinal" "I" (.int (4 : Int32))) (SE_w65 : Exa Z Z.heap w65 zs1) (SF_w80_ordinal : Fld Z Z.heap w80 zs3 "ordinal" "I" (.int (5 : Int32))) (SE_w80 : Exa Z Z.heap w80 zs1) (SF_w77_ordinal : Fld Z Z.heap w77 zs3 "ordinal" "I" (.int (6 : Int32))) (SE_w77 : Exa Z Z.heap w77 zs1) (SF_w59_ordinal : Fld Z Z.heap w59 zs3 "ordinal" "I" (.int (7 : Int32))) (SE_w59 : Exa Z Z.heap w59 zs1) (SF_w68_ordinal : Fld Z Z.heap w68 zs3 "ordinal" "I" (.int (8 : Int32))) (SE_w68 : Exa Z Z.heap w68 zs1) (SF_w74_ordinal : Fld Z Z.heap w74 zs3 "ordinal" "I" (.int (9 : Int32))) (SE_w74 : Exa Z Z.heap w74 zs1) (SF_w71_ordinal : Fld Z Z.heap w71 zs3 "ordinal" "I" (.int (10 : Int32))) (SE_w71 : Exa Z Z.heap w71 zs1) (SF_w62_ordinal : Fld Z Z.heap w62 zs3 "ordinal" "I" (.int (11 : Int32))) (SE_w62 : Exa Z Z.heap w62 zs1) :
    MetFree l x (head1 (Jvm.Cond.code x code maxLocals ret :: ws) room_1) (fun a U => a = #[(.int i0)] ∧ Z.Warmed39 U.vm ∧ U.heap = h0) (fun _ _ _ _ _ => True) (fun _ U o U' => ∃ v L, o = .returned v ∧ own_Q0 n0 v L ∧ FrameEnd U o U' L room_1.cells room_1.slots) := by
  refine MetFree.of_bodySF (plainFor_of_name pn_1) hisR ?_
  intro p e s m args below meth c s₁ Bd hml0 hP hK
  obtain ⟨rfl, hZ, hh⟩ := hP
  have hx := Bd.exec
  have hby := Bd.bytes
  have hml : c.maxLocals = 4 := hml0
  have hown : s.vm.findClass zs4 = some m.cls := findClass_of_methodNamed Bd.named
  have hnm := (name_of_methodNamed Bd.named Bd.method).1
  have X0 : Stand p l e room_1 s m #[(.int i0)] below meth c s₁ [] 0 0 := Stand.of_body Bd
  have e0 : s₁.heap = h0 := by rw [← hh, Bd.state]; rfl
  have N0 := Fr.nil n0
  refine own_out ?_
  show own_Goes p e below _ (own_G s below n0)
  refine own_via (fun t k => castTop (ef_3 m i0) (XS.iloadN X0.here hx rfl (hb hby at_0) rfl (X0.ldcInt hx hown (mvT hZ (wd hw 0 rfl)) (g := (mkF m 1 #[iv i0, .unset, .unset, .unset] [(.int i0)])) rfl (hb hby at_1) t (XS.iand X0.here hx rfl (hb hby at_3) rfl (XS.bipush X0.here hx rfl (hb hby at_4) (iremM (g := (mkF m 6 #[iv i0, .unset, .unset, .unset] [(.int (12 : Int32)), (.int (i0 &&& (2147483647 : Int32)))])) X0 hx rfl (hb hby at_6) rfl (by decide) (XS.istoreN X0.here hx rfl (hb hby at_7) rfl (l' := #[iv i0, iv ((i0 &&& (2147483647 : Int32)) % (12 : Int32)), .unset, .unset]) rfl (XS.iloadN X0.here hx rfl (hb hby at_8) rfl k)))))))) ?_
  show own_Goes p e below (s₁.setTop (mkF m 9 #[iv i0, iv ((i0 &&& (2147483647 : Int32)) % (12 : Int32)), .unset, .unset] [(.int ((i0 &&& (2147483647 : Int32)) % (12 : Int32)))])) _
  obtain ⟨_, T83, _, X83, hQ83, st83⟩ := own_cs X0 hx hZ hown (wd hw 1 rfl) (wd hw 2 rfl) (wd hw 4 rfl) (wd hw 3 rfl) (by decide) (rm1 l Z a0 hw [] ((i0 &&& (2147483647 : Int32)) % (12 : Int32)) w47 w53 w49 w56 w65 w80 w77 w59 w68 w74 w71 w62 h0 n0 O0 S_VotableDatatype_BOOLEAN S_VotableDatatype_BIT S_VotableDatatype_UNSIGNED_BYTE S_VotableDatatype_SHORT S_VotableDatatype_INT S_VotableDatatype_LONG S_VotableDatatype_CHAR S_VotableDatatype_UNICODE_CHAR S_VotableDatatype_FLOAT S_VotableDatatype_DOUBLE S_VotableDatatype_FLOAT_COMPLEX S_VotableDatatype_DOUBLE_COMPLEX) e0 (g := (mkF m 9 #[iv i0, iv ((i0 &&& (2147483647 : Int32)) % (12 : Int32)), .unset, .unset] [(.int ((i0 &&& (2147483647 : Int32)) % (12 : Int32)))])) rfl (by rw [hml]; rfl) (rest := []) (W := 0) (lenOf pd_1 rfl) rfl (by show 2 * 0 + _ ≤ _; exact Nat.le_of_eq rfl) (hb hby at_9) (by decide) (by decide) (by decide) (by decide)
  rcases hQ83 with ⟨hq112, rfl, Nq83, hh113⟩ | ⟨hq114, hq115, rfl, Nq83, hh116⟩ | ⟨hq117, hq118, hq119, rfl, Nq83, hh120⟩ | ⟨hq121, hq122, hq123, hq124, rfl, Nq83, hh125⟩ | ⟨hq126, hq127, hq128, hq129, hq130, rfl, Nq83, hh131⟩ | ⟨hq132, hq133, hq134, hq135, hq136, hq137, rfl, Nq83, hh138⟩ | ⟨hq139, hq140, hq141, hq142, hq143, hq144, hq145, rfl, Nq83, hh146⟩ | ⟨hq147, hq148, hq149, hq150, hq151, hq152, hq153, hq154, rfl, Nq83, hh155⟩ | ⟨hq156, hq157, hq158, hq159, hq160, hq161, hq162, hq163, hq164, rfl, Nq83, hh165⟩ | ⟨hq166, hq167, hq168, hq169, hq170, hq171, hq172, hq173, hq174, hq175, rfl, Nq83, hh176⟩ | ⟨hq177, hq178, hq179, hq180, hq181, hq182, hq183, hq184, hq185, hq186, hq187, rfl, Nq83, hh188⟩ | ⟨hq189, hq190, hq191, hq192, hq193, hq194, hq195, hq196, hq197, hq198, hq199, rfl, Nq83, hh200⟩
  · have N83 := Fr.app N0 Nq83
    refine own_via (fun t k => st83 t (XS.astoreN X83.here hx rfl (hb hby at_12) rfl rfl (l' := #[iv i0, iv ((i0 &&& (2147483647 : Int32)) % (12 : Int32)), rv w47, .unset]) rfl (XS.iloadN X83.here hx rfl (hb hby at_13) rfl (XS.iconst X83.here hx rfl (hb hby at_14) (XS.icmpNo X83.here hx rfl (hb hby at_15) rfl (feq (by rw [hq112]; decide : ¬ (((i0 &&& (2147483647 : Int32)) % (12 : Int32)) = (1 : Int32)))).1 (XS.iloadN X83.here hx rfl (hb hby at_18) rfl (XS.iconst X83.here hx rfl (hb hby at_19) (XS.icmpYes X83.here hx rfl (pc0 := 20) (pc' := 27) rfl (hb hby at_20) rfl (feq (by rw [hq112]; decide : ¬ (((i0 &&& (2147483647 : Int32)) % (12 : Int32)) = (2 : Int32)))).2 (by decide) (by decide) (XS.iconst X83.here hx rfl (hb hby at_27) (XS.istoreN X83.here hx rfl (hb hby at_28) rfl (l' := #[iv i0, iv ((i0 &&& (2147483647 : Int32)) % (12 : Int32)), rv w47, iv (0 : Int32)]) rfl (XS.aloadN X83.here hx rfl (hb hby at_29) rfl rfl k))))))))))) ?_
    show own_Goes p e below (T83.setTop (mkF m 30 #[iv i0, iv ((i0 &&& (2147483647 : Int32)) % (12 : Int32)), rv w47, iv (0 : Int32)] [(.ref w47)])) _
    obtain ⟨_, T201, _, X201, hQ201, st201⟩ := own_cv X83 hx hZ hown (wd hw 8 rfl) (wd hw 9 rfl) (wd hw 11 rfl) (wd hw 10 rfl) (wd hw 12 rfl) (wd hw 6 rfl) (by decide) (rm2 l Z a0 hw [] w47 w49 w53 h0 n0 O0 S_VotableDatatype_UNSIGNED_BYTE SF_w47_ordinal SF_w49_ordinal S_VotableDatatype_BIT SF_w53_ordinal) hh113 (SE_w47.ext O0.2) (g := (mkF m 30 #[iv i0, iv ((i0 &&& (2147483647 : Int32)) % (12 : Int32)), rv w47, iv (0 : Int32)] [(.ref w47)])) rfl (by rw [hml]; rfl) (rest := []) (W := 0) (lenOf pd_2 rfl) rfl (by show 2 * 0 + _ ≤ _; exact Nat.le_of_eq rfl) (hb hby at_30) (by decide) (by decide) (by decide) (by decide)
    obtain ⟨rfl, Nq201, hh209⟩ := hQ201
    have N201 := Fr.app N83 Nq201
    refine own_via (fun t k => st201 t (XS.iloadN X201.here hx rfl (hb hby at_33) rfl (XS.icmpNo X201.here hx rfl (hb hby at_34) rfl (teq (by decide : (0 : Int32) = (0 : Int32))).2 (XS.iconst X201.here hx rfl (hb hby at_37) (XS.goto X201.here hx rfl (pc0 := 38) (pc' := 42) rfl (hb hby at_38) (by decide) (by decide) k))))) ?_
    show own_Goes p e below (T201.setTop (mkF m 42 #[iv i0, iv ((i0 &&& (2147483647 : Int32)) % (12 : Int32)), rv w47, iv (0 : Int32)] [(.int (1 : Int32))])) _
    obtain ⟨fs, hr, hrun, hended, hW, hsame⟩ := X201.leave (v := some (.int (1 : Int32))) (fun h => by rw [Bd.returns] at h; cases h)
    refine own_end (t := T201.setFrames fs) ?_ ⟨_, hrun, hended, _, _, rfl, ?_, ⟨_, rfl⟩, hW, hsame.mono (by decide) (by decide)⟩
    · exact retN X201 hx (t := .boolean) Bd.returns (by simp) (hb hby at_42) hr
    · exact ⟨rfl, N201⟩
  · have N83 := Fr.app N0 Nq83
    refine own_via (fun t k => st83 t (XS.astoreN X83.here hx rfl (hb hby at_12) rfl rfl (l' := #[iv i0, iv ((i0 &&& (2147483647 : Int32)) % (12 : Int32)), rv w53, .unset]) rfl (XS.iloadN X83.here hx rfl (hb hby at_13) rfl (XS.iconst X83.here hx rfl (hb hby at_14) (XS.icmpYes X83.here hx rfl (pc0 := 15) (pc' := 23) rfl (hb hby at_15) rfl (teq hq115).1 (by decide) (by decide) (XS.iconst X83.here hx rfl (hb hby at_23) (XS.goto X83.here hx rfl (pc0 := 24) (pc' := 28) rfl (hb hby at_24) (by decide) (by decide) (XS.istoreN X83.here hx rfl (hb hby at_28) rfl (l' := #[iv i0, iv ((i0 &&& (2147483647 : Int32)) % (12 : Int32)), rv w53, iv (1 : Int32)]) rfl (XS.aloadN X83.here hx rfl (hb hby at_29) rfl rfl k))))))))) ?_
    show own_Goes p e below (T83.setTop (mkF m 30 #[iv i0, iv ((i0 &&& (2147483647 : Int32)) % (12 : Int32)), rv w53, iv (1 : Int32)] [(.ref w53)])) _
    obtain ⟨_, T210, _, X210, hQ210, st210⟩ := own_cv X83 hx hZ hown (wd hw 8 rfl) (wd hw 9 rfl) (wd hw 11 rfl) (wd hw 10 rfl) (wd hw 12 rfl) (wd hw 6 rfl) (by decide) (rm3 l Z a0 hw [] w53 w49 h0 n0 O0 S_VotableDatatype_UNSIGNED_BYTE SF_w53_ordinal SF_w49_ordinal S_VotableDatatype_BIT) hh116 (SE_w53.ext O0.2) (g := (mkF m 30 #[iv i0, iv ((i0 &&& (2147483647 : Int32)) % (12 : Int32)), rv w53, iv (1 : Int32)] [(.ref w53)])) rfl (by rw [hml]; rfl) (rest := []) (W := 0) (lenOf pd_2 rfl) rfl (by show 2 * 0 + _ ≤ _; exact Nat.le_of_eq rfl) (hb hby at_30) (by decide) (by decide) (by decide) (by decide)
    obtain ⟨rfl, Nq210, hh219⟩ := hQ210
    have N210 := Fr.app N83 Nq210
    refine own_via (fun t k => st210 t (XS.iloadN X210.here hx rfl (hb hby at_33) rfl (XS.icmpNo X210.here hx rfl (hb hby at_34) rfl (teq (by decide : (1 : Int32) = (1 : Int32))).2 (XS.iconst X210.here hx rfl (hb hby at_37) (XS.goto X210.here hx rfl (pc0 := 38) (pc' := 42) rfl (hb hby at_38) (by decide) (by decide) k))))) ?_
    show own_Goes p e below (T210.setTop (mkF m 42 #[iv i0, iv ((i0 &&& (2147483647 : Int32)) % (12 : Int32)), rv w53, iv (1 : Int32)] [(.int (1 : Int32))])) _
    obtain ⟨fs, hr, hrun, hended, hW, hsame⟩ := X210.leave (v := some (.int (1 : Int32))) (fun h => by rw [Bd.returns] at h; cases h)
    refine own_end (t := T210.setFrames fs) ?_ ⟨_, hrun, hended, _, _, rfl, ?_, ⟨_, rfl⟩, hW, hsame.mono (by decide) (by decide)⟩
    · exact retN X210 hx (t := .boolean) Bd.returns (by simp) (hb hby at_42) hr
    · exact ⟨rfl, N210⟩
  · have N83 := Fr.app N0 Nq83
    refine own_via (fun t k => st83 t (XS.astoreN X83.here hx rfl (hb hby at_12) rfl rfl (l' := #[iv i0, iv ((i0 &&& (2147483647 : Int32)) % (12 : Int32)), rv w49, .unset]) rfl (XS.iloadN X83.here hx rfl (hb hby at_13) rfl (XS.iconst X83.here hx rfl (hb hby at_14) (XS.icmpNo X83.here hx rfl (hb hby at_15) rfl (feq hq118).1 (XS.iloadN X83.here hx rfl (hb hby at_18) rfl (XS.iconst X83.here hx rfl (hb hby at_19) (XS.icmpNo X83.here hx rfl (hb hby at_20) rfl (teq hq119).2 (XS.iconst X83.here hx rfl (hb hby at_23) (XS.goto X83.here hx rfl (pc0 := 24) (pc' := 28) rfl (hb hby at_24) (by decide) (by decide) (XS.istoreN X83.here hx rfl (hb hby at_28) rfl (l' := #[iv i0, iv ((i0 &&& (2147483647 : Int32)) % (12 : Int32)), rv w49, iv (1 : Int32)]) rfl (XS.aloadN X83.here hx rfl (hb hby at_29) rfl rfl k)))))))))))) ?_
    show own_Goes p e below (T83.setTop (mkF m 30 #[iv i0, iv ((i0 &&& (2147483647 : Int32)) % (12 : Int32)), rv w49, iv (1 : Int32)] [(.ref w49)])) _
    obtain ⟨_, T220, _, X220, hQ220, st220⟩ := own_cv X83 hx hZ hown (wd hw 8 rfl) (wd hw 9 rfl) (wd hw 11 rfl) (wd hw 10 rfl) (wd hw 12 rfl) (wd hw 6 rfl) (by decide) (rm4 l Z a0 hw [] w49 h0 n0 O0 S_VotableDatatype_UNSIGNED_BYTE) hh120 (SE_w49.ext O0.2) (g := (mkF m 30 #[iv i0, iv ((i0 &&& (2147483647 : Int32)) % (12 : Int32)), rv w49, iv (1 : Int32)] [(.ref w49)])) rfl (by rw [hml]; rfl) (rest := []) (W := 0) (lenOf pd_2 rfl) rfl (by show 2 * 0 + _ ≤ _; exact Nat.le_of_eq rfl) (hb hby at_30) (by decide) (by decide) (by decide) (by decide)
    obtain ⟨rfl, Nq220, hh229⟩ := hQ220
    have N220 := Fr.app N83 Nq220
    refine own_via (fun t k => st220 t (XS.iloadN X220.here hx rfl (hb hby at_33) rfl (XS.icmpNo X220.here hx rfl (hb hby at_34) rfl (teq (by decide : (1 : Int32) = (1 : Int32))).2 (XS.iconst X220.here hx rfl (hb hby at_37) (XS.goto X220.here hx rfl (pc0 := 38) (pc' := 42) rfl (hb hby at_38) (by decide) (by decide) k))))) ?_
    show own_Goes p e below (T220.setTop (mkF m 42 #[iv i0, iv ((i0 &&& (2147483647 : Int32)) % (12 : Int32)), rv w49, iv (1 : Int32)] [(.int (1 : Int32))])) _
    obtain ⟨fs, hr, hrun, hended, hW, hsame⟩ := X220.leave (v := some (.int (1 : Int32))) (fun h => by rw [Bd.returns] at h; cases h)
    refine own_end (t := T220.setFrames fs) ?_ ⟨_, hrun, hended, _, _, rfl, ?_, ⟨_, rfl⟩, hW, hsame.mono (by decide) (by decide)⟩
    · exact retN X220 hx (t := .boolean) Bd.returns (by simp) (hb hby at_42) hr
    · exact ⟨rfl, N220⟩
  · have N83 := Fr.app N0 Nq83
    refine own_via (fun t k => st83 t (XS.astoreN X83.here hx rfl (hb hby at_12) rfl rfl (l' := #[iv i0, iv ((i0 &&& (2147483647 : Int32)) % (12 : Int32)), rv w56, .unset]) rfl (XS.iloadN X83.here hx rfl (hb hby at_13) rfl (XS.iconst X83.here hx rfl (hb hby at_14) (XS.icmpNo X83.here hx rfl (hb hby at_15) rfl (feq hq122).1 (XS.iloadN X83.here hx rfl (hb hby at_18) rfl (XS.iconst X83.here hx rfl (hb hby at_19) (XS.icmpYes X83.here hx rfl (pc0 := 20) (pc' := 27) rfl (hb hby at_20) rfl (feq hq123).2 (by decide) (by decide) (XS.iconst X83.here hx rfl (hb hby at_27) (XS.istoreN X83.here hx rfl (hb hby at_28) rfl (l' := #[iv i0, iv ((i0 &&& (2147483647 : Int32)) % (12 : Int32)), rv w56, iv (0 : Int32)]) rfl (XS.aloadN X83.here hx rfl (hb hby at_29) rfl rfl k))))))))))) ?_
    show own_Goes p e below (T83.setTop (mkF m 30 #[iv i0, iv ((i0 &&& (2147483647 : Int32)) % (12 : Int32)), rv w56, iv (0 : Int32)] [(.ref w56)])) _
    obtain ⟨_, T230, _, X230, hQ230, st230⟩ := own_cv X83 hx hZ hown (wd hw 8 rfl) (wd hw 9 rfl) (wd hw 11 rfl) (wd hw 10 rfl) (wd hw 12 rfl) (wd hw 6 rfl) (by decide) (rm5 l Z a0 hw [] w56 w49 w53 h0 n0 O0 S_VotableDatatype_UNSIGNED_BYTE SF_w56_ordinal SF_w49_ordinal S_VotableDatatype_BIT SF_w53_ordinal) hh125 (SE_w56.ext O0.2) (g := (mkF m 30 #[iv i0, iv ((i0 &&& (2147483647 : Int32)) % (12 : Int32)), rv w56, iv (0 : Int32)] [(.ref w56)])) rfl (by rw [hml]; rfl) (rest := []) (W := 0) (lenOf pd_2 rfl) rfl (by show 2 * 0 + _ ≤ _; exact Nat.le_of_eq rfl) (hb hby at_30) (by decide) (by decide) (by decide) (by decide)
    obtain ⟨rfl, Nq230, hh241⟩ := hQ230
    have N230 := Fr.app N83 Nq230
    refine own_via (fun t k => st230 t (XS.iloadN X230.here hx rfl (hb hby at_33) rfl (XS.icmpNo X230.here hx rfl (hb hby at_34) rfl (teq (by decide : (0 : Int32) = (0 : Int32))).2 (XS.iconst X230.here hx rfl (hb hby at_37) (XS.goto X230.here hx rfl (pc0 := 38) (pc' := 42) rfl (hb hby at_38) (by decide) (by decide) k))))) ?_
    show own_Goes p e below (T230.setTop (mkF m 42 #[iv i0, iv ((i0 &&& (2147483647 : Int32)) % (12 : Int32)), rv w56, iv (0 : Int32)] [(.int (1 : Int32))])) _
    obtain ⟨fs, hr, hrun, hended, hW, hsame⟩ := X230.leave (v := some (.int (1 : Int32))) (fun h => by rw [Bd.returns] at h; cases h)
    refine own_end (t := T230.setFrames fs) ?_ ⟨_, hrun, hended, _, _, rfl, ?_, ⟨_, rfl⟩, hW, hsame.mono (by decide) (by decide)⟩
    · exact retN X230 hx (t := .boolean) Bd.returns (by simp) (hb hby at_42) hr
    · exact ⟨rfl, N230⟩
  · have N83 := Fr.app N0 Nq83
    refine own_via (fun t k => st83 t (XS.astoreN X83.here hx rfl (hb hby at_12) rfl rfl (l' := #[iv i0, iv ((i0 &&& (2147483647 : Int32)) % (12 : Int32)), rv w65, .unset]) rfl (XS.iloadN X83.here hx rfl (hb hby at_13) rfl (XS.iconst X83.here hx rfl (hb hby at_14) (XS.icmpNo X83.here hx rfl (hb hby at_15) rfl (feq hq127).1 (XS.iloadN X83.here hx rfl (hb hby at_18) rfl (XS.iconst X83.here hx rfl (hb hby at_19) (XS.icmpYes X83.here hx rfl (pc0 := 20) (pc' := 27) rfl (hb hby at_20) rfl (feq hq128).2 (by decide) (by decide) (XS.iconst X83.here hx rfl (hb hby at_27) (XS.istoreN X83.here hx rfl (hb hby at_28) rfl (l' := #[iv i0, iv ((i0 &&& (2147483647 : Int32)) % (12 : Int32)), rv w65, iv (0 : Int32)]) rfl (XS.aloadN X83.here hx rfl (hb hby at_29) rfl rfl k))))))))))) ?_
    show own_Goes p e below (T83.setTop (mkF m 30 #[iv i0, iv ((i0 &&& (2147483647 : Int32)) % (12 : Int32)), rv w65, iv (0 : Int32)] [(.ref w65)])) _
    obtain ⟨_, T242, _, X242, hQ242, st242⟩ := own_cv X83 hx hZ hown (wd hw 8 rfl) (wd hw 9 rfl) (wd hw 11 rfl) (wd hw 10 rfl) (wd hw 12 rfl) (wd hw 6 rfl) (by decide) (rm6 l Z a0 hw [] w65 w49 w53 h0 n0 O0 S_VotableDatatype_UNSIGNED_BYTE SF_w65_ordinal SF_w49_ordinal S_VotableDatatype_BIT SF_w53_ordinal) hh131 (SE_w65.ext O0.2) (g := (mkF m 30 #[iv i0, iv ((i0 &&& (2147483647 : Int32)) % (12 : Int32)), rv w65, iv (0 : Int32)] [(.ref w65)])) rfl (by rw [hml]; rfl) (rest := []) (W := 0) (lenOf pd_2 rfl) rfl (by show 2 * 0 + _ ≤ _; exact Nat.le_of_eq rfl) (hb hby at_30) (by decide) (by decide) (by decide) (by decide)
    obtain ⟨rfl, Nq242, hh254⟩ := hQ242
    have N242 := Fr.app N83 Nq242
    refine own_via (fun t k => st242 t (XS.iloadN X242.here hx rfl (hb hby at_33) rfl (XS.icmpNo X242.here hx rfl (hb hby at_34) rfl (teq (by decide : (0 : Int32) = (0 : Int32))).2 (XS.iconst X242.here hx rfl (hb hby at_37) (XS.goto X242.here hx rfl (pc0 := 38) (pc' := 42) rfl (hb hby at_38) (by decide) (by decide) k))))) ?_
    show own_Goes p e below (T242.setTop (mkF m 42 #[iv i0, iv ((i0 &&& (2147483647 : Int32)) % (12 : Int32)), rv w65, iv (0 : Int32)] [(.int (1 : Int32))])) _
    obtain ⟨fs, hr, hrun, hended, hW, hsame⟩ := X242.leave (v := some (.int (1 : Int32))) (fun h => by rw [Bd.returns] at h; cases h)
    refine own_end (t := T242.setFrames fs) ?_ ⟨_, hrun, hended, _, _, rfl, ?_, ⟨_, rfl⟩, hW, hsame.mono (by decide) (by decide)⟩
    · exact retN X242 hx (t := .boolean) Bd.returns (by simp) (hb hby at_42) hr
    · exact ⟨rfl, N242⟩
  · have N83 := Fr.app N0 Nq83
    refine own_via (fun t k => st83 t (XS.astoreN X83.here hx rfl (hb hby at_12) rfl rfl (l' := #[iv i0, iv ((i0 &&& (2147483647 : Int32)) % (12 : Int32)), rv w80, .unset]) rfl (XS.iloadN X83.here hx rfl (hb hby at_13) rfl (XS.iconst X83.here hx rfl (hb hby at_14) (XS.icmpNo X83.here hx rfl (hb hby at_15) rfl (feq hq133).1 (XS.iloadN X83.here hx rfl (hb hby at_18) rfl (XS.iconst X83.here hx rfl (hb hby at_19) (XS.icmpYes X83.here hx rfl (pc0 := 20) (pc' := 27) rfl (hb hby at_20) rfl (feq hq134).2 (by decide) (by decide) (XS.iconst X83.here hx rfl (hb hby at_27) (XS.istoreN X83.here hx rfl (hb hby at_28) rfl (l' := #[iv i0, iv ((i0 &&& (2147483647 : Int32)) % (12 : Int32)), rv w80, iv (0 : Int32)]) rfl (XS.aloadN X83.here hx rfl (hb hby at_29) rfl rfl k))))))))))) ?_
    show own_Goes p e below (T83.setTop (mkF m 30 #[iv i0, iv ((i0 &&& (2147483647 : Int32)) % (12 : Int32)), rv w80, iv (0 : Int32)] [(.ref w80)])) _
    obtain ⟨_, T255, _, X255, hQ255, st255⟩ := own_cv X83 hx hZ hown (wd hw 8 rfl) (wd hw 9 rfl) (wd hw 11 rfl) (wd hw 10 rfl) (wd hw 12 rfl) (wd hw 6 rfl) (by decide) (rm7 l Z a0 hw [] w80 w49 w53 h0 n0 O0 S_VotableDatatype_UNSIGNED_BYTE SF_w80_ordinal SF_w49_ordinal S_VotableDatatype_BIT SF_w53_ordinal) hh138 (SE_w80.ext O0.2) (g := (mkF m 30 #[iv i0, iv ((i0 &&& (2147483647 : Int32)) % (12 : Int32)), rv w80, iv (0 : Int32)] [(.ref w80)])) rfl (by rw [hml]; rfl) (rest := []) (W := 0) (lenOf pd_2 rfl) rfl (by show 2 * 0 + _ ≤ _; exact Nat.le_of_eq rfl) (hb hby at_30) (by decide) (by decide) (by decide) (by decide)
    obtain ⟨rfl, Nq255, hh268⟩ := hQ255
    have N255 := Fr.app N83 Nq255
    refine own_via (fun t k => st255 t (XS.iloadN X255.here hx rfl (hb hby at_33) rfl (XS.icmpNo X255.here hx rfl (hb hby at_34) rfl (teq (by decide : (0 : Int32) = (0 : Int32))).2 (XS.iconst X255.here hx rfl (hb hby at_37) (XS.goto X255.here hx rfl (pc0 := 38) (pc' := 42) rfl (hb hby at_38) (by decide) (by decide) k))))) ?_
    show own_Goes p e below (T255.setTop (mkF m 42 #[iv i0, iv ((i0 &&& (2147483647 : Int32)) % (12 : Int32)), rv w80, iv (0 : Int32)] [(.int (1 : Int32))])) _
    obtain ⟨fs, hr, hrun, hended, hW, hsame⟩ := X255.leave (v := some (.int (1 : Int32))) (fun h => by rw [Bd.returns] at h; cases h)
    refine own_end (t := T255.setFrames fs) ?_ ⟨_, hrun, hended, _, _, rfl, ?_, ⟨_, rfl⟩, hW, hsame.mono (by decide) (by decide)⟩
    · exact retN X255 hx (t := .boolean) Bd.returns (by simp) (hb hby at_42) hr
    · exact ⟨rfl, N255⟩
  · have N83 := Fr.app N0 Nq83
    refine own_via (fun t k => st83 t (XS.astoreN X83.here hx rfl (hb hby at_12) rfl rfl (l' := #[iv i0, iv ((i0 &&& (2147483647 : Int32)) % (12 : Int32)), rv w77, .unset]) rfl (XS.iloadN X83.here hx rfl (hb hby at_13) rfl (XS.iconst X83.here hx rfl (hb hby at_14) (XS.icmpNo X83.here hx rfl (hb hby at_15) rfl (feq hq140).1 (XS.iloadN X83.here hx rfl (hb hby at_18) rfl (XS.iconst X83.here hx rfl (hb hby at_19) (XS.icmpYes X83.here hx rfl (pc0 := 20) (pc' := 27) rfl (hb hby at_20) rfl (feq hq141).2 (by decide) (by decide) (XS.iconst X83.here hx rfl (hb hby at_27) (XS.istoreN X83.here hx rfl (hb hby at_28) rfl (l' := #[iv i0, iv ((i0 &&& (2147483647 : Int32)) % (12 : Int32)), rv w77, iv (0 : Int32)]) rfl (XS.aloadN X83.here hx rfl (hb hby at_29) rfl rfl k))))))))))) ?_
    show own_Goes p e below (T83.setTop (mkF m 30 #[iv i0, iv ((i0 &&& (2147483647 : Int32)) % (12 : Int32)), rv w77, iv (0 : Int32)] [(.ref w77)])) _
    obtain ⟨_, T269, _, X269, hQ269, st269⟩ := own_cv X83 hx hZ hown (wd hw 8 rfl) (wd hw 9 rfl) (wd hw 11 rfl) (wd hw 10 rfl) (wd hw 12 rfl) (wd hw 6 rfl) (by decide) (rm8 l Z a0 hw [] w77 w49 w53 h0 n0 O0 S_VotableDatatype_UNSIGNED_BYTE SF_w77_ordinal SF_w49_ordinal S_VotableDatatype_BIT SF_w53_ordinal) hh146 (SE_w77.ext O0.2) (g := (mkF m 30 #[iv i0, iv ((i0 &&& (2147483647 : Int32)) % (12 : Int32)), rv w77, iv (0 : Int32)] [(.ref w77)])) rfl (by rw [hml]; rfl) (rest := []) (W := 0) (lenOf pd_2 rfl) rfl (by show 2 * 0 + _ ≤ _; exact Nat.le_of_eq rfl) (hb hby at_30) (by decide) (by decide) (by decide) (by decide)
    obtain ⟨rfl, Nq269, hh283⟩ := hQ269
    have N269 := Fr.app N83 Nq269
    refine own_via (fun t k => st269 t (XS.iloadN X269.here hx rfl (hb hby at_33) rfl (XS.icmpNo X269.here hx rfl (hb hby at_34) rfl (teq (by decide : (0 : Int32) = (0 : Int32))).2 (XS.iconst X269.here hx rfl (hb hby at_37) (XS.goto X269.here hx rfl (pc0 := 38) (pc' := 42) rfl (hb hby at_38) (by decide) (by decide) k))))) ?_
    show own_Goes p e below (T269.setTop (mkF m 42 #[iv i0, iv ((i0 &&& (2147483647 : Int32)) % (12 : Int32)), rv w77, iv (0 : Int32)] [(.int (1 : Int32))])) _
    obtain ⟨fs, hr, hrun, hended, hW, hsame⟩ := X269.leave (v := some (.int (1 : Int32))) (fun h => by rw [Bd.returns] at h; cases h)
    refine own_end (t := T269.setFrames fs) ?_ ⟨_, hrun, hended, _, _, rfl, ?_, ⟨_, rfl⟩, hW, hsame.mono (by decide) (by decide)⟩
    · exact retN X269 hx (t := .boolean) Bd.returns (by simp) (hb hby at_42) hr
    · exact ⟨rfl, N269⟩
  · have N83 := Fr.app N0 Nq83
    refine own_via (fun t k => st83 t (XS.astoreN X83.here hx rfl (hb hby at_12) rfl rfl (l' := #[iv i0, iv ((i0 &&& (2147483647 : Int32)) % (12 : Int32)), rv w59, .unset]) rfl (XS.iloadN X83.here hx rfl (hb hby at_13) rfl (XS.iconst X83.here hx rfl (hb hby at_14) (XS.icmpNo X83.here hx rfl (hb hby at_15) rfl (feq hq148).1 (XS.iloadN X83.here hx rfl (hb hby at_18) rfl (XS.iconst X83.here hx rfl (hb hby at_19) (XS.icmpYes X83.here hx rfl (pc0 := 20) (pc' := 27) rfl (hb hby at_20) rfl (feq hq149).2 (by decide) (by decide) (XS.iconst X83.here hx rfl (hb hby at_27) (XS.istoreN X83.here hx rfl (hb hby at_28) rfl (l' := #[iv i0, iv ((i0 &&& (2147483647 : Int32)) % (12 : Int32)), rv w59, iv (0 : Int32)]) rfl (XS.aloadN X83.here hx rfl (hb hby at_29) rfl rfl k))))))))))) ?_
    show own_Goes p e below (T83.setTop (mkF m 30 #[iv i0, iv ((i0 &&& (2147483647 : Int32)) % (12 : Int32)), rv w59, iv (0 : Int32)] [(.ref w59)])) _
    obtain ⟨_, T284, _, X284, hQ284, st284⟩ := own_cv X83 hx hZ hown (wd hw 8 rfl) (wd hw 9 rfl) (wd hw 11 rfl) (wd hw 10 rfl) (wd hw 12 rfl) (wd hw 6 rfl) (by decide) (rm9 l Z a0 hw [] w59 w49 w53 h0 n0 O0 S_VotableDatatype_UNSIGNED_BYTE SF_w59_ordinal SF_w49_ordinal S_VotableDatatype_BIT SF_w53_ordinal) hh155 (SE_w59.ext O0.2) (g := (mkF m 30 #[iv i0, iv ((i0 &&& (2147483647 : Int32)) % (12 : Int32)), rv w59, iv (0 : Int32)] [(.ref w59)])) rfl (by rw [hml]; rfl) (rest := []) (W := 0) (lenOf pd_2 rfl) rfl (by show 2 * 0 + _ ≤ _; exact Nat.le_of_eq rfl) (hb hby at_30) (by decide) (by decide) (by decide) (by decide)
    obtain ⟨rfl, Nq284, hh299⟩ := hQ284
    have N284 := Fr.app N83 Nq284
    refine own_via (fun t k => st284 t (XS.iloadN X284.here hx rfl (hb hby at_33) rfl (XS.icmpNo X284.here hx rfl (hb hby at_34) rfl (teq (by decide : (0 : Int32) = (0 : Int32))).2 (XS.iconst X284.here hx rfl (hb hby at_37) (XS.goto X284.here hx rfl (pc0 := 38) (pc' := 42) rfl (hb hby at_38) (by decide) (by decide) k))))) ?_
    show own_Goes p e below (T284.setTop (mkF m 42 #[iv i0, iv ((i0 &&& (2147483647 : Int32)) % (12 : Int32)), rv w59, iv (0 : Int32)] [(.int (1 : Int32))])) _
    obtain ⟨fs, hr, hrun, hended, hW, hsame⟩ := X284.leave (v := some (.int (1 : Int32))) (fun h => by rw [Bd.returns] at h; cases h)
    refine own_end (t := T284.setFrames fs) ?_ ⟨_, hrun, hended, _, _, rfl, ?_, ⟨_, rfl⟩, hW, hsame.mono (by decide) (by decide)⟩
    · exact retN X284 hx (t := .boolean) Bd.returns (by simp) (hb hby at_42) hr
    · exact ⟨rfl, N284⟩
  · have N83 := Fr.app N0 Nq83
    refine own_via (fun t k => st83 t (XS.astoreN X83.here hx rfl (hb hby at_12) rfl rfl (l' := #[iv i0, iv ((i0 &&& (2147483647 : Int32)) % (12 : Int32)), rv w68, .unset]) rfl (XS.iloadN X83.here hx rfl (hb hby at_13) rfl (XS.iconst X83.here hx rfl (hb hby at_14) (XS.icmpNo X83.here hx rfl (hb hby at_15) rfl (feq hq157).1 (XS.iloadN X83.here hx rfl (hb hby at_18) rfl (XS.iconst X83.here hx rfl (hb hby at_19) (XS.icmpYes X83.here hx rfl (pc0 := 20) (pc' := 27) rfl (hb hby at_20) rfl (feq hq158).2 (by decide) (by decide) (XS.iconst X83.here hx rfl (hb hby at_27) (XS.istoreN X83.here hx rfl (hb hby at_28) rfl (l' := #[iv i0, iv ((i0 &&& (2147483647 : Int32)) % (12 : Int32)), rv w68, iv (0 : Int32)]) rfl (XS.aloadN X83.here hx rfl (hb hby at_29) rfl rfl k))))))))))) ?_
    show own_Goes p e below (T83.setTop (mkF m 30 #[iv i0, iv ((i0 &&& (2147483647 : Int32)) % (12 : Int32)), rv w68, iv (0 : Int32)] [(.ref w68)])) _
    obtain ⟨_, T300, _, X300, hQ300, st300⟩ := own_cv X83 hx hZ hown (wd hw 8 rfl) (wd hw 9 rfl) (wd hw 11 rfl) (wd hw 10 rfl) (wd hw 12 rfl) (wd hw 6 rfl) (by decide) (rm10 l Z a0 hw [] w68 w49 w53 h0 n0 O0 S_VotableDatatype_UNSIGNED_BYTE SF_w68_ordinal SF_w49_ordinal S_VotableDatatype_BIT SF_w53_ordinal) hh165 (SE_w68.ext O0.2) (g := (mkF m 30 #[iv i0, iv ((i0 &&& (2147483647 : Int32)) % (12 : Int32)), rv w68, iv (0 : Int32)] [(.ref w68)])) rfl (by rw [hml]; rfl) (rest := []) (W := 0) (lenOf pd_2 rfl) rfl (by show 2 * 0 + _ ≤ _; exact Nat.le_of_eq rfl) (hb hby at_30) (by decide) (by decide) (by decide) (by decide)
    obtain ⟨rfl, Nq300, hh316⟩ := hQ300
    have N300 := Fr.app N83 Nq300
    refine own_via (fun t k => st300 t (XS.iloadN X300.here hx rfl (hb hby at_33) rfl (XS.icmpNo X300.here hx rfl (hb hby at_34) rfl (teq (by decide : (0 : Int32) = (0 : Int32))).2 (XS.iconst X300.here hx rfl (hb hby at_37) (XS.goto X300.here hx rfl (pc0 := 38) (pc' := 42) rfl (hb hby at_38) (by decide) (by decide) k))))) ?_
    show own_Goes p e below (T300.setTop (mkF m 42 #[iv i0, iv ((i0 &&& (2147483647 : Int32)) % (12 : Int32)), rv w68, iv (0 : Int32)] [(.int (1 : Int32))])) _
    obtain ⟨fs, hr, hrun, hended, hW, hsame⟩ := X300.leave (v := some (.int (1 : Int32))) (fun h => by rw [Bd.returns] at h; cases h)
    refine own_end (t := T300.setFrames fs) ?_ ⟨_, hrun, hended, _, _, rfl, ?_, ⟨_, rfl⟩, hW, hsame.mono (by decide) (by decide)⟩
    · exact retN X300 hx (t := .boolean) Bd.returns (by simp) (hb hby at_42) hr
    · exact ⟨rfl, N300⟩
  · have N83 := Fr.app N0 Nq83
    refine own_via (fun t k => st83 t (XS.astoreN X83.here hx rfl (hb hby at_12) rfl rfl (l' := #[iv i0, iv ((i0 &&& (2147483647 : Int32)) % (12 : Int32)), rv w74, .unset]) rfl (XS.iloadN X83.here hx rfl (hb hby at_13) rfl (XS.iconst X83.here hx rfl (hb hby at_14) (XS.icmpNo X83.here hx rfl (hb hby at_15) rfl (feq hq167).1 (XS.iloadN X83.here hx rfl (hb hby at_18) rfl (XS.iconst X83.here hx rfl (hb hby at_19) (XS.icmpYes X83.here hx rfl (pc0 := 20) (pc' := 27) rfl (hb hby at_20) rfl (feq hq168).2 (by decide) (by decide) (XS.iconst X83.here hx rfl (hb hby at_27) (XS.istoreN X83.here hx rfl (hb hby at_28) rfl (l' := #[iv i0, iv ((i0 &&& (2147483647 : Int32)) % (12 : Int32)), rv w74, iv (0 : Int32)]) rfl (XS.aloadN X83.here hx rfl (hb hby at_29) rfl rfl k))))))))))) ?_
    show own_Goes p e below (T83.setTop (mkF m 30 #[iv i0, iv ((i0 &&& (2147483647 : Int32)) % (12 : Int32)), rv w74, iv (0 : Int32)] [(.ref w74)])) _
    obtain ⟨_, T317, _, X317, hQ317, st317⟩ := own_cv X83 hx hZ hown (wd hw 8 rfl) (wd hw 9 rfl) (wd hw 11 rfl) (wd hw 10 rfl) (wd hw 12 rfl) (wd hw 6 rfl) (by decide) (rm11 l Z a0 hw [] w74 w49 w53 h0 n0 O0 S_VotableDatatype_UNSIGNED_BYTE SF_w74_ordinal SF_w49_ordinal S_VotableDatatype_BIT SF_w53_ordinal) hh176 (SE_w74.ext O0.2) (g := (mkF m 30 #[iv i0, iv ((i0 &&& (2147483647 : Int32)) % (12 : Int32)), rv w74, iv (0 : Int32)] [(.ref w74)])) rfl (by rw [hml]; rfl) (rest := []) (W := 0) (lenOf pd_2 rfl) rfl (by show 2 * 0 + _ ≤ _; exact Nat.le_of_eq rfl) (hb hby at_30) (by decide) (by decide) (by decide) (by decide)
    obtain ⟨rfl, Nq317, hh334⟩ := hQ317
    have N317 := Fr.app N83 Nq317
    refine own_via (fun t k => st317 t (XS.iloadN X317.here hx rfl (hb hby at_33) rfl (XS.icmpNo X317.here hx rfl (hb hby at_34) rfl (teq (by decide : (0 : Int32) = (0 : Int32))).2 (XS.iconst X317.here hx rfl (hb hby at_37) (XS.goto X317.here hx rfl (pc0 := 38) (pc' := 42) rfl (hb hby at_38) (by decide) (by decide) k))))) ?_
    show own_Goes p e below (T317.setTop (mkF m 42 #[iv i0, iv ((i0 &&& (2147483647 : Int32)) % (12 : Int32)), rv w74, iv (0 : Int32)] [(.int (1 : Int32))])) _
    obtain ⟨fs, hr, hrun, hended, hW, hsame⟩ := X317.leave (v := some (.int (1 : Int32))) (fun h => by rw [Bd.returns] at h; cases h)
    refine own_end (t := T317.setFrames fs) ?_ ⟨_, hrun, hended, _, _, rfl, ?_, ⟨_, rfl⟩, hW, hsame.mono (by decide) (by decide)⟩
    · exact retN X317 hx (t := .boolean) Bd.returns (by simp) (hb hby at_42) hr
    · exact ⟨rfl, N317⟩
  · have N83 := Fr.app N0 Nq83
    refine own_via (fun t k => st83 t (XS.astoreN X83.here hx rfl (hb hby at_12) rfl rfl (l' := #[iv i0, iv ((i0 &&& (2147483647 : Int32)) % (12 : Int32)), rv w71, .unset]) rfl (XS.iloadN X83.here hx rfl (hb hby at_13) rfl (XS.iconst X83.here hx rfl (hb hby at_14) (XS.icmpNo X83.here hx rfl (hb hby at_15) rfl (feq hq178).1 (XS.iloadN X83.here hx rfl (hb hby at_18) rfl (XS.iconst X83.here hx rfl (hb hby at_19) (XS.icmpYes X83.here hx rfl (pc0 := 20) (pc' := 27) rfl (hb hby at_20) rfl (feq hq179).2 (by decide) (by decide) (XS.iconst X83.here hx rfl (hb hby at_27) (XS.istoreN X83.here hx rfl (hb hby at_28) rfl (l' := #[iv i0, iv ((i0 &&& (2147483647 : Int32)) % (12 : Int32)), rv w71, iv (0 : Int32)]) rfl (XS.aloadN X83.here hx rfl (hb hby at_29) rfl rfl k))))))))))) ?_
    show own_Goes p e below (T83.setTop (mkF m 30 #[iv i0, iv ((i0 &&& (2147483647 : Int32)) % (12 : Int32)), rv w71, iv (0 : Int32)] [(.ref w71)])) _
    obtain ⟨_, T335, _, X335, hQ335, st335⟩ := own_cv X83 hx hZ hown (wd hw 8 rfl) (wd hw 9 rfl) (wd hw 11 rfl) (wd hw 10 rfl) (wd hw 12 rfl) (wd hw 6 rfl) (by decide) (rm12 l Z a0 hw [] w71 w49 w53 h0 n0 O0 S_VotableDatatype_UNSIGNED_BYTE SF_w71_ordinal SF_w49_ordinal S_VotableDatatype_BIT SF_w53_ordinal) hh188 (SE_w71.ext O0.2) (g := (mkF m 30 #[iv i0, iv ((i0 &&& (2147483647 : Int32)) % (12 : Int32)), rv w71, iv (0 : Int32)] [(.ref w71)])) rfl (by rw [hml]; rfl) (rest := []) (W := 0) (lenOf pd_2 rfl) rfl (by show 2 * 0 + _ ≤ _; exact Nat.le_of_eq rfl) (hb hby at_30) (by decide) (by decide) (by decide) (by decide)
    obtain ⟨rfl, Nq335, hh353⟩ := hQ335
    have N335 := Fr.app N83 Nq335
    refine own_via (fun t k => st335 t (XS.iloadN X335.here hx rfl (hb hby at_33) rfl (XS.icmpNo X335.here hx rfl (hb hby at_34) rfl (teq (by decide : (0 : Int32) = (0 : Int32))).2 (XS.iconst X335.here hx rfl (hb hby at_37) (XS.goto X335.here hx rfl (pc0 := 38) (pc' := 42) rfl (hb hby at_38) (by decide) (by decide) k))))) ?_
    show own_Goes p e below (T335.setTop (mkF m 42 #[iv i0, iv ((i0 &&& (2147483647 : Int32)) % (12 : Int32)), rv w71, iv (0 : Int32)] [(.int (1 : Int32))])) _
    obtain ⟨fs, hr, hrun, hended, hW, hsame⟩ := X335.leave (v := some (.int (1 : Int32))) (fun h => by rw [Bd.returns] at h; cases h)
    refine own_end (t := T335.setFrames fs) ?_ ⟨_, hrun, hended, _, _, rfl, ?_, ⟨_, rfl⟩, hW, hsame.mono (by decide) (by decide)⟩
    · exact retN X335 hx (t := .boolean) Bd.returns (by simp) (hb hby at_42) hr
    · exact ⟨rfl, N335⟩
  · have N83 := Fr.app N0 Nq83
    refine own_via (fun t k => st83 t (XS.astoreN X83.here hx rfl (hb hby at_12) rfl rfl (l' := #[iv i0, iv ((i0 &&& (2147483647 : Int32)) % (12 : Int32)), rv w62, .unset]) rfl (XS.iloadN X83.here hx rfl (hb hby at_13) rfl (XS.iconst X83.here hx rfl (hb hby at_14) (XS.icmpNo X83.here hx rfl (hb hby at_15) rfl (feq hq190).1 (XS.iloadN X83.here hx rfl (hb hby at_18) rfl (XS.iconst X83.here hx rfl (hb hby at_19) (XS.icmpYes X83.here hx rfl (pc0 := 20) (pc' := 27) rfl (hb hby at_20) rfl (feq hq191).2 (by decide) (by decide) (XS.iconst X83.here hx rfl (hb hby at_27) (XS.istoreN X83.here hx rfl (hb hby at_28) rfl (l' := #[iv i0, iv ((i0 &&& (2147483647 : Int32)) % (12 : Int32)), rv w62, iv (0 : Int32)]) rfl (XS.aloadN X83.here hx rfl (hb hby at_29) rfl rfl k))))))))))) ?_
    show own_Goes p e below (T83.setTop (mkF m 30 #[iv i0, iv ((i0 &&& (2147483647 : Int32)) % (12 : Int32)), rv w62, iv (0 : Int32)] [(.ref w62)])) _
    obtain ⟨_, T354, _, X354, hQ354, st354⟩ := own_cv X83 hx hZ hown (wd hw 8 rfl) (wd hw 9 rfl) (wd hw 11 rfl) (wd hw 10 rfl) (wd hw 12 rfl) (wd hw 6 rfl) (by decide) (rm13 l Z a0 hw [] w62 w49 w53 h0 n0 O0 S_VotableDatatype_UNSIGNED_BYTE SF_w62_ordinal SF_w49_ordinal S_VotableDatatype_BIT SF_w53_ordinal) hh200 (SE_w62.ext O0.2) (g := (mkF m 30 #[iv i0, iv ((i0 &&& (2147483647 : Int32)) % (12 : Int32)), rv w62, iv (0 : Int32)] [(.ref w62)])) rfl (by rw [hml]; rfl) (rest := []) (W := 0) (lenOf pd_2 rfl) rfl (by show 2 * 0 + _ ≤ _; exact Nat.le_of_eq rfl) (hb hby at_30) (by decide) (by decide) (by decide) (by decide)
    obtain ⟨rfl, Nq354, hh372⟩ := hQ354
    have N354 := Fr.app N83 Nq354
    refine own_via (fun t k => st354 t (XS.iloadN X354.here hx rfl (hb hby at_33) rfl (XS.icmpNo X354.here hx rfl (hb hby at_34) rfl (teq (by decide : (0 : Int32) = (0 : Int32))).2 (XS.iconst X354.here hx rfl (hb hby at_37) (XS.goto X354.here hx rfl (pc0 := 38) (pc' := 42) rfl (hb hby at_38) (by decide) (by decide) k))))) ?_
    show own_Goes p e below (T354.setTop (mkF m 42 #[iv i0, iv ((i0 &&& (2147483647 : Int32)) % (12 : Int32)), rv w62, iv (0 : Int32)] [(.int (1 : Int32))])) _
    obtain ⟨fs, hr, hrun, hended, hW, hsame⟩ := X354.leave (v := some (.int (1 : Int32))) (fun h => by rw [Bd.returns] at h; cases h)
    refine own_end (t := T354.setFrames fs) ?_ ⟨_, hrun, hended, _, _, rfl, ?_, ⟨_, rfl⟩, hW, hsame.mono (by decide) (by decide)⟩
    · exact retN X354 hx (t := .boolean) Bd.returns (by simp) (hb hby at_42) hr
    · exact ⟨rfl, N354⟩
set_option maxRecDepth 65536 in
set_option maxHeartbeats 40000000 in
theorem comes_1 {Post : Tables → Env → Array Value → State → Outcome → State → Prop} (hpost : ∀ tb e args s v u, (limb_1_1.after args s (.returned v) u = true ∧ limb_1_2.after args s (.returned v) u = true ∧ True) → FrameEnd s (.returned v) u (Jvm.fieldLocs frame_1_writes args s ++ Jvm.arrayLocs frame_1_arrays args s ++ Jvm.staticLocs frame_1_statics s) 0 0 → Post tb e args s (.returned v) u) :
    ArmFor flags0 classFile x code maxLocals ret World_1 tables_1 room_1 Calls_1 rest_1 Pre_1 Post := by
  intro l hfl _ _ p e ha hc hk s m args below hf hA hF happ hP
  obtain ⟨hcalls, hrest, hpre⟩ := hP
  obtain ⟨-, -, -, hnamed, -, -, -, hat⟩ := (Spec.applies_iff hf).mp happ
  obtain ⟨hg, hn⟩ := and_e (Cond.before_iff.mp (show (Jvm.Cond.and given_1 narrow_1).before args s = true from hpre))
  obtain ⟨g373, g374⟩ := and_e hg
  obtain ⟨w0, rfl⟩ : ∃ w0 : Value, args = #[w0] := by
    have hs : args.size = 1 := by simpa [Cond.value, given_1] using g373
    obtain ⟨L⟩ := args
    match L, hs with
    | [w0], _ => exact ⟨w0, rfl⟩
  have hw := fun d (hd : d ∈ tables_1) => atoms_spec (ws := Jvm.Cond.code x code maxLocals ret :: tables_1) hat d (List.mem_cons_of_mem _ hd)
  have hfit : Fit s := fun {y c} hc i hi => by
    obtain ⟨ha, rfl⟩ := Array.getElem?_eq_some_iff.mp hc
    have q := List.all_eq_true.mp ((Array.all_eq_true_iff_forall_mem.mp hF) _ (Array.getElem_mem ha)) i (List.mem_range.mpr hi)
    simpa [Array.getElem?_eq_getElem hi] using q
  obtain ⟨n1, n2⟩ := and_e hn
  obtain ⟨n3, n4⟩ := and_e n2
  obtain ⟨n5, n6⟩ := and_e n4
  obtain ⟨n7, n8⟩ := and_e n6
  obtain ⟨n9, n10⟩ := and_e n8
  obtain ⟨n11, n12⟩ := and_e n10
  obtain ⟨n13, n14⟩ := and_e n12
  obtain ⟨n15, n16⟩ := and_e n14
  obtain ⟨n17, n18⟩ := and_e n16
  obtain ⟨n19, n20⟩ := and_e n18
  obtain ⟨n21, n22⟩ := and_e n20
  obtain ⟨n23, n24⟩ := and_e n22
  obtain ⟨n25, n26⟩ := and_e n24
  obtain ⟨n27, n28⟩ := and_e n26
  obtain ⟨n29, n30⟩ := and_e n28
  obtain ⟨n31, n32⟩ := and_e n30
  obtain ⟨n33, n34⟩ := and_e n32
  obtain ⟨n35, n36⟩ := and_e n34
  obtain ⟨n37, n38⟩ := and_e n36
  obtain ⟨n39, n40⟩ := and_e n38
  obtain ⟨n41, n42⟩ := and_e n40
  obtain ⟨n43, n44⟩ := and_e n42
  obtain ⟨n45, n46⟩ := and_e n44
  obtain ⟨w47, ev48⟩ := exa_v n1
  have S_VotableDatatype_BOOLEAN : Sta s s.heap zs1 "BOOLEAN" zs2 (.ref w47) := Sta.start ev48 (Or.inr ⟨(wd hw 6 rfl), (wd hw 7 rfl)⟩)
  have SE_w47 : Exa s s.heap w47 zs1 := Exa.start ev48 n1
  obtain ⟨w49, ev50⟩ := exa_v n3
  have S_VotableDatatype_UNSIGNED_BYTE : Sta s s.heap zs1 zs6 zs2 (.ref w49) := Sta.start ev50 (Or.inr ⟨(wd hw 6 rfl), (wd hw 14 rfl)⟩)
  have SE_w49 : Exa s s.heap w49 zs1 := Exa.start ev50 n3
  have ev51 := Cond.eq_int (show (Jvm.Cond.eq _ _).holds _ _ _ _ _ = true from Cond.before_iff.mpr n5) rfl
  have SF_w47_ordinal : Fld s s.heap w47 zs3 "ordinal" "I" (.int (0 : Int32)) := Fld.start ((fld_at ev48).symm.trans ev51)
  have ev52 := Cond.eq_int (show (Jvm.Cond.eq _ _).holds _ _ _ _ _ = true from Cond.before_iff.mpr n7) rfl
  have SF_w49_ordinal : Fld s s.heap w49 zs3 "ordinal" "I" (.int (2 : Int32)) := Fld.start ((fld_at ev50).symm.trans ev52)
  obtain ⟨w53, ev54⟩ := exa_v n9
  have S_VotableDatatype_BIT : Sta s s.heap zs1 "BIT" zs2 (.ref w53) := Sta.start ev54 (Or.inr ⟨(wd hw 6 rfl), (wd hw 16 rfl)⟩)
  have SE_w53 : Exa s s.heap w53 zs1 := Exa.start ev54 n9
  have ev55 := Cond.eq_int (show (Jvm.Cond.eq _ _).holds _ _ _ _ _ = true from Cond.before_iff.mpr n11) rfl
  have SF_w53_ordinal : Fld s s.heap w53 zs3 "ordinal" "I" (.int (1 : Int32)) := Fld.start ((fld_at ev54).symm.trans ev55)
  obtain ⟨w56, ev57⟩ := exa_v n13
  have S_VotableDatatype_SHORT : Sta s s.heap zs1 "SHORT" zs2 (.ref w56) := Sta.start ev57 (Or.inr ⟨(wd hw 6 rfl), (wd hw 18 rfl)⟩)
  have SE_w56 : Exa s s.heap w56 zs1 := Exa.start ev57 n13
  have ev58 := Cond.eq_int (show (Jvm.Cond.eq _ _).holds _ _ _ _ _ = true from Cond.before_iff.mpr n15) rfl
  have SF_w56_ordinal : Fld s s.heap w56 zs3 "ordinal" "I" (.int (3 : Int32)) := Fld.start ((fld_at ev57).symm.trans ev58)
  obtain ⟨w59, ev60⟩ := exa_v n17
  have S_VotableDatatype_UNICODE_CHAR : Sta s s.heap zs1 "UNICODE_CHAR" zs2 (.ref w59) := Sta.start ev60 (Or.inr ⟨(wd hw 6 rfl), (wd hw 21 rfl)⟩)
  have SE_w59 : Exa s s.heap w59 zs1 := Exa.start ev60 n17
  have ev61 := Cond.eq_int (show (Jvm.Cond.eq _ _).holds _ _ _ _ _ = true from Cond.before_iff.mpr n19) rfl
  have SF_w59_ordinal : Fld s s.heap w59 zs3 "ordinal" "I" (.int (7 : Int32)) := Fld.start ((fld_at ev60).symm.trans ev61)
  obtain ⟨w62, ev63⟩ := exa_v n21
  have S_VotableDatatype_DOUBLE_COMPLEX : Sta s s.heap zs1 "DOUBLE_COMPLEX" zs2 (.ref w62) := Sta.start ev63 (Or.inr ⟨(wd hw 6 rfl), (wd hw 23 rfl)⟩)
  have SE_w62 : Exa s s.heap w62 zs1 := Exa.start ev63 n21
  have ev64 := Cond.eq_int (show (Jvm.Cond.eq _ _).holds _ _ _ _ _ = true from Cond.before_iff.mpr n23) rfl
  have SF_w62_ordinal : Fld s s.heap w62 zs3 "ordinal" "I" (.int (11 : Int32)) := Fld.start ((fld_at ev63).symm.trans ev64)
  obtain ⟨w65, ev66⟩ := exa_v n25
  have S_VotableDatatype_INT : Sta s s.heap zs1 "INT" zs2 (.ref w65) := Sta.start ev66 (Or.inr ⟨(wd hw 6 rfl), (wd hw 25 rfl)⟩)
  have SE_w65 : Exa s s.heap w65 zs1 := Exa.start ev66 n25
  have ev67 := Cond.eq_int (show (Jvm.Cond.eq _ _).holds _ _ _ _ _ = true from Cond.before_iff.mpr n27) rfl
  have SF_w65_ordinal : Fld s s.heap w65 zs3 "ordinal" "I" (.int (4 : Int32)) := Fld.start ((fld_at ev66).symm.trans ev67)
  obtain ⟨w68, ev69⟩ := exa_v n29
  have S_VotableDatatype_FLOAT : Sta s s.heap zs1 "FLOAT" zs2 (.ref w68) := Sta.start ev69 (Or.inr ⟨(wd hw 6 rfl), (wd hw 27 rfl)⟩)
  have SE_w68 : Exa s s.heap w68 zs1 := Exa.start ev69 n29
  have ev70 := Cond.eq_int (show (Jvm.Cond.eq _ _).holds _ _ _ _ _ = true from Cond.before_iff.mpr n31) rfl
  have SF_w68_ordinal : Fld s s.heap w68 zs3 "ordinal" "I" (.int (8 : Int32)) := Fld.start ((fld_at ev69).symm.trans ev70)
  obtain ⟨w71, ev72⟩ := exa_v n33
  have S_VotableDatatype_FLOAT_COMPLEX : Sta s s.heap zs1 "FLOAT_COMPLEX" zs2 (.ref w71) := Sta.start ev72 (Or.inr ⟨(wd hw 6 rfl), (wd hw 30 rfl)⟩)
  have SE_w71 : Exa s s.heap w71 zs1 := Exa.start ev72 n33
  have ev73 := Cond.eq_int (show (Jvm.Cond.eq _ _).holds _ _ _ _ _ = true from Cond.before_iff.mpr n35) rfl
  have SF_w71_ordinal : Fld s s.heap w71 zs3 "ordinal" "I" (.int (10 : Int32)) := Fld.start ((fld_at ev72).symm.trans ev73)
  obtain ⟨w74, ev75⟩ := exa_v n37
  have S_VotableDatatype_DOUBLE : Sta s s.heap zs1 "DOUBLE" zs2 (.ref w74) := Sta.start ev75 (Or.inr ⟨(wd hw 6 rfl), (wd hw 32 rfl)⟩)
  have SE_w74 : Exa s s.heap w74 zs1 := Exa.start ev75 n37
  have ev76 := Cond.eq_int (show (Jvm.Cond.eq _ _).holds _ _ _ _ _ = true from Cond.before_iff.mpr n39) rfl
  have SF_w74_ordinal : Fld s s.heap w74 zs3 "ordinal" "I" (.int (9 : Int32)) := Fld.start ((fld_at ev75).symm.trans ev76)
  obtain ⟨w77, ev78⟩ := exa_v n41
  have S_VotableDatatype_CHAR : Sta s s.heap zs1 "CHAR" zs2 (.ref w77) := Sta.start ev78 (Or.inr ⟨(wd hw 6 rfl), (wd hw 34 rfl)⟩)
  have SE_w77 : Exa s s.heap w77 zs1 := Exa.start ev78 n41
  have ev79 := Cond.eq_int (show (Jvm.Cond.eq _ _).holds _ _ _ _ _ = true from Cond.before_iff.mpr n43) rfl
  have SF_w77_ordinal : Fld s s.heap w77 zs3 "ordinal" "I" (.int (6 : Int32)) := Fld.start ((fld_at ev78).symm.trans ev79)
  obtain ⟨w80, ev81⟩ := exa_v n45
  have S_VotableDatatype_LONG : Sta s s.heap zs1 "LONG" zs2 (.ref w80) := Sta.start ev81 (Or.inr ⟨(wd hw 6 rfl), (wd hw 36 rfl)⟩)
  have SE_w80 : Exa s s.heap w80 zs1 := Exa.start ev81 n45
  have ev82 := Cond.eq_int (show (Jvm.Cond.eq _ _).holds _ _ _ _ _ = true from Cond.before_iff.mpr n46) rfl
  have SF_w80_ordinal : Fld s s.heap w80 zs3 "ordinal" "I" (.int (5 : Int32)) := Fld.start ((fld_at ev81).symm.trans ev82)
  obtain ⟨i0, ei0⟩ := is_v g374
  obtain rfl : w0 = (.int i0) := Option.some.inj ei0
  obtain ⟨n, o, h1, h2, h3, _, L, rfl, ⟨rfl, N⟩, hq⟩ := rm0 l s _ hw tables_1 i0 w47 w53 w49 w56 w65 w80 w77 w59 w68 w74 w71 w62 s.heap s.heap.size (Old.start s) S_VotableDatatype_BOOLEAN S_VotableDatatype_BIT S_VotableDatatype_UNSIGNED_BYTE S_VotableDatatype_SHORT S_VotableDatatype_INT S_VotableDatatype_LONG S_VotableDatatype_CHAR S_VotableDatatype_UNICODE_CHAR S_VotableDatatype_FLOAT S_VotableDatatype_DOUBLE S_VotableDatatype_FLOAT_COMPLEX S_VotableDatatype_DOUBLE_COMPLEX SF_w47_ordinal SF_w49_ordinal SF_w53_ordinal SE_w47 SE_w53 SE_w49 SF_w56_ordinal SE_w56 SF_w65_ordinal SE_w65 SF_w80_ordinal SE_w80 SF_w77_ordinal SE_w77 SF_w59_ordinal SE_w59 SF_w68_ordinal SE_w68 SF_w74_ordinal SE_w74 SF_w71_ordinal SE_w71 SF_w62_ordinal SE_w62 p e ha hc hk s m _ below hf ((Spec.applies_iff_loose hf).mp happ).1 ⟨rfl, State.Warmed39.refl s, rfl⟩ trivial
  refine ⟨n, _, h1, h2, h3, hpost _ _ _ _ _ _ ⟨Cond.after_iff.mpr rfl, Cond.after_iff.mpr (eq_i res_at (Term.int_eval (1)) rfl), trivial⟩ ⟨hq.1, hq.2.1, (hq.2.2.sift fun y hy => Or.inr (N y hy)).mono (by decide) (by decide)⟩⟩
theorem main_1_1 : Claimed_1_1 := comes_1 fun _ _ _ _ _ _ h hF => ⟨h.1, hF⟩
theorem main_1_2 : Claimed_1_2 := comes_1 fun _ _ _ _ _ _ h hF => ⟨h.2.1, hF⟩
end Jvm.Pilot.@@N@@
namespace Jvm.Pilot.@@N@@
open Jvm Jvm.ClassFile Sem Op Lib Jvm.Free Jvm.Stand Jvm.Pilot.@@N@@.Jvm.D
/-! MADE BY PROGRAM (witnessworld.py) out of the Statement's table words and the real class files: 12 classes; the members and pool entries that the words name. The judged class is class 1, her method 1. -/
namespace start1
open Jvm.ClassFile
def u (s : String) : CpInfo := .utf8 (stringToUtf16 s)
/-- a pool by its gaps: so many unusable entries, then the entry; so many at the end -/
def gap : Nat → List CpInfo → List CpInfo
  | 0, r => r
  | n + 1, r => .unusable :: gap n r
def poolList (es : List (Nat × CpInfo)) (last : Nat) : List CpInfo := es.foldr (fun e r => gap e.1 (e.2 :: r)) (gap last [])
def pool (es : List (Nat × CpInfo)) (last : Nat) : Array CpInfo := ⟨poolList es last⟩
def fileOf (pool : Array CpInfo) (this : Nat) (attrs : Array Attribute := #[]) (ms : Array MethodInfo := #[]) (fl : Nat := 33) (sup : Nat := 0) (ifs : Array Nat := #[]) (fds : Array FieldInfo := #[]) : ClassFile where
  minorVersion := 0
  majorVersion := 65
  constantPool := pool
  accessFlags := fl
  thisClass := this
  superClass := sup
  interfaces := ifs
  fields := fds
  methods := ms
  attributes := attrs
def plain (name : String) (sup : Option ClassId) : Class where
  name := name
  kind := .ordinary
  loader := none
  accessFlags := 33
  super := sup
  interfaces := #[]
  cf := none
  fields := #[]
  methods := #[]
  instanceTypes := #[]
  staticTypes := #[]
  resolved := #[]
  callSites := []
  init := .initialized
  statics := none
  mirror := none

def pool0 : Array CpInfo := pool [(5, u "<init>"), (0, u "()V"), (1, .class_ 10), (1, u "java/lang/Object")] 113

def k0m0 : Method := { name := "<init>", desc := "()V", sig := { parameters := [], returnType := none }, accessFlags := 1, code := none }
/-- java/lang/Object -/
def k0 : Class := { plain "java/lang/Object" none with
  accessFlags := 33
  interfaces := #[]
  cf := some (fileOf pool0 8 #[] #[{ accessFlags := 1, nameIndex := 5, descriptorIndex := 6, attributes := #[] }] 33 0 #[] #[])
  fields := #[]
  methods := #[k0m0]
  instanceTypes := #[]
  staticTypes := #[]
  resolved := Array.replicate 124 none
  statics := none }

def pool1 : Array CpInfo := pool [(2, .class_ 4), (1, u "java/lang/Object"), (0, u "<init>"), (0, u "()V"), (0, .integer 2147483647), (0, .methodref 9 10), (0, .class_ 11), (0, .nameAndType 12 13), (0, u "com/example/starcourse/starcourse/catalog/VotableDatatypeIsReadLooselyPinLaw"), (0, u "pick"), (0, u "(I)Lcom/example/starcourse/starcourse/catalog/VotableDatatype;"), (0, .methodref 15 16), (0, .class_ 17), (0, .nameAndType 18 19), (0, u "com/example/starcourse/starcourse/catalog/VotableDatatype"), (0, u "isReadLoosely"), (0, u "()Z"), (0, .fieldref 15 21), (0, .nameAndType 22 23), (0, u "BOOLEAN"), (0, u "Lcom/example/starcourse/starcourse/catalog/VotableDatatype;"), (0, .fieldref 15 25), (0, .nameAndType 26 23), (0, u "BIT"), (0, .fieldref 15 28), (0, .nameAndType 29 23), (0, u "UNSIGNED_BYTE"), (0, .fieldref 15 31), (0, .nameAndType 32 23), (0, u "SHORT"), (0, .fieldref 15 34), (0, .nameAndType 35 23), (0, u "INT"), (0, .fieldref 15 37), (0, .nameAndType 38 23), (0, u "LONG"), (0, .fieldref 15 40), (0, .nameAndType 41 23), (0, u "CHAR"), (0, .fieldref 15 43), (0, .nameAndType 44 23), (0, u "UNICODE_CHAR"), (0, .fieldref 15 46), (0, .nameAndType 47 23), (0, u "FLOAT"), (0, .fieldref 15 49), (0, .nameAndType 50 23), (0, u "DOUBLE"), (0, .fieldref 15 52), (0, .nameAndType 53 23), (0, u "FLOAT_COMPLEX"), (0, .fieldref 15 55), (0, .nameAndType 56 23), (0, u "DOUBLE_COMPLEX"), (2, u "law"), (0, u "(I)Z")] 3

def k1m0 : Method := { name := "<init>", desc := "()V", sig := { parameters := [], returnType := none }, accessFlags := 1, code := none }
def k1c1 : Code := { maxStack := 2, maxLocals := 4, code := code, exceptionTable := #[], attributes := #[] }
def k1m1 : Method := { name := "law", desc := "(I)Z", sig := { parameters := [.int], returnType := some .boolean }, accessFlags := 9, code := some k1c1 }
def k1c2 : Code := { maxStack := 2, maxLocals := 1, code := method_3_code, exceptionTable := #[], attributes := #[] }
def k1m2 : Method := { name := "pick", desc := "(I)Lcom/example/starcourse/starcourse/catalog/VotableDatatype;", sig := { parameters := [.int], returnType := some (.object "com/example/starcourse/starcourse/catalog/VotableDatatype") }, accessFlags := 10, code := some k1c2 }
/-- com/example/starcourse/starcourse/catalog/VotableDatatypeIsReadLooselyPinLaw -/
def k1 : Class := { plain "com/example/starcourse/starcourse/catalog/VotableDatatypeIsReadLooselyPinLaw" (some 0) with
  accessFlags := 49
  interfaces := #[]
  cf := some (fileOf pool1 9 #[] #[{ accessFlags := 1, nameIndex := 5, descriptorIndex := 6, attributes := #[] }, { accessFlags := 9, nameIndex := 59, descriptorIndex := 60, attributes := #[] }, { accessFlags := 10, nameIndex := 12, descriptorIndex := 13, attributes := #[] }] 49 2 #[] #[])
  fields := #[]
  methods := #[k1m0, k1m1, k1m2]
  instanceTypes := #[]
  staticTypes := #[]
  resolved := Array.replicate 64 none
  statics := none }

def pool2 : Array CpInfo := pool [(1, .class_ 2), (0, u "java/lang/constant/Constable"), (0, .class_ 4), (0, u "java/lang/Object")] 6

/-- java/lang/constant/Constable -/
def k2 : Class := { plain "java/lang/constant/Constable" (some 0) with
  accessFlags := 1537
  interfaces := #[]
  cf := some (fileOf pool2 1 #[] #[] 1537 3 #[] #[])
  fields := #[]
  methods := #[]
  instanceTypes := #[]
  staticTypes := #[]
  resolved := Array.replicate 11 none
  statics := none }

def pool3 : Array CpInfo := pool [(1, .class_ 2), (0, u "java/lang/Comparable"), (0, .class_ 4), (0, u "java/lang/Object")] 7

/-- java/lang/Comparable -/
def k3 : Class := { plain "java/lang/Comparable" (some 0) with
  accessFlags := 1537
  interfaces := #[]
  cf := some (fileOf pool3 1 #[] #[] 1537 3 #[] #[])
  fields := #[]
  methods := #[]
  instanceTypes := #[]
  staticTypes := #[]
  resolved := Array.replicate 12 none
  statics := none }

def pool4 : Array CpInfo := pool [(1, .class_ 2), (0, u "java/io/Serializable"), (0, .class_ 4), (0, u "java/lang/Object")] 2

/-- java/io/Serializable -/
def k4 : Class := { plain "java/io/Serializable" (some 0) with
  accessFlags := 1537
  interfaces := #[]
  cf := some (fileOf pool4 1 #[] #[] 1537 3 #[] #[])
  fields := #[]
  methods := #[]
  instanceTypes := #[]
  staticTypes := #[]
  resolved := Array.replicate 7 none
  statics := none }

def pool5 : Array CpInfo := pool [(2, .class_ 4), (1, u "java/lang/Enum"), (0, u "name"), (0, u "Ljava/lang/String;"), (2, u "ordinal"), (0, u "I"), (1, .class_ 14), (1, u "java/lang/Object"), (4, u "hash"), (86, .class_ 108), (1, u "java/lang/Enum$EnumDesc"), (2, .class_ 112), (0, u "java/lang/constant/Constable"), (0, .class_ 114), (0, u "java/lang/Comparable"), (0, .class_ 116), (0, u "java/io/Serializable")] 87

/-- java/lang/Enum -/
def k5 : Class := { plain "java/lang/Enum" (some 0) with
  accessFlags := 1057
  interfaces := #[2, 3, 4]
  cf := some (fileOf pool5 2 #[.nestMembers #[106]] #[] 1057 12 #[111, 113, 115] #[{ accessFlags := 18, nameIndex := 5, descriptorIndex := 6, attributes := #[] }, { accessFlags := 18, nameIndex := 9, descriptorIndex := 10, attributes := #[] }, { accessFlags := 2, nameIndex := 19, descriptorIndex := 10, attributes := #[] }])
  fields := #[{ name := "name", type := (.object "java/lang/String"), accessFlags := 18, slot := 0, constantValue := 0 }, { name := "ordinal", type := .int, accessFlags := 18, slot := 1, constantValue := 0 }, { name := "hash", type := .int, accessFlags := 2, slot := 2, constantValue := 0 }]
  methods := #[]
  instanceTypes := #[(.object "java/lang/String"), .int, .int]
  staticTypes := #[]
  resolved := Array.replicate 204 none
  statics := none }

def pool6 : Array CpInfo := pool [(1, .class_ 2), (0, u "com/example/starcourse/starcourse/catalog/VotableDatatype"), (2, u "BOOLEAN"), (0, u "Lcom/example/starcourse/starcourse/catalog/VotableDatatype;"), (0, .fieldref 1 8), (0, .nameAndType 9 6), (0, u "BIT"), (0, .fieldref 1 11), (0, .nameAndType 12 6), (0, u "UNSIGNED_BYTE"), (2, u "SHORT"), (2, u "INT"), (2, u "LONG"), (2, u "CHAR"), (2, u "UNICODE_CHAR"), (2, u "FLOAT"), (2, u "DOUBLE"), (2, u "FLOAT_COMPLEX"), (2, u "DOUBLE_COMPLEX"), (2, u "$VALUES"), (0, u "[Lcom/example/starcourse/starcourse/catalog/VotableDatatype;"), (6, .class_ 52), (1, u "java/lang/Enum"), (8, u "mName"), (0, u "Ljava/lang/String;"), (2, u "mItemBits"), (0, u "I"), (2, u "mItemsPerValue"), (2, u "mItem"), (0, u "Ljava/util/function/Predicate;"), (49, u "()Z"), (172, .class_ 298), (1, u "com/example/starcourse/starcourse/catalog/VotableDatatype$WholeNumber"), (61, u "HEXADECIMAL"), (1, u "HEXADECIMAL_RADIX"), (1, u "DECIMAL_RADIX"), (1, u "INFINITY"), (0, u "LARGEST_UNSIGNED_BYTE"), (1, u "NO_BOOLEAN"), (0, u "BOOLEAN_CHARACTERS"), (0, u "SET_BIT"), (0, u "CLEAR_BIT"), (0, u "WHITE_SPACE"), (30, u "isReadLoosely")] 109

def k6c0 : Code := { maxStack := 2, maxLocals := 1, code := prog_43_method_16_code, exceptionTable := #[], attributes := #[] }
def k6m0 : Method := { name := "isReadLoosely", desc := "()Z", sig := { parameters := [], returnType := some .boolean }, accessFlags := 0, code := some k6c0 }
/-- com/example/starcourse/starcourse/catalog/VotableDatatype -/
def k6 : Class := { plain "com/example/starcourse/starcourse/catalog/VotableDatatype" (some 5) with
  accessFlags := 16432
  interfaces := #[]
  cf := some (fileOf pool6 1 #[.nestMembers #[296]] #[{ accessFlags := 0, nameIndex := 404, descriptorIndex := 123, attributes := #[] }] 16432 50 #[] #[{ accessFlags := 16409, nameIndex := 5, descriptorIndex := 6, attributes := #[] }, { accessFlags := 16409, nameIndex := 9, descriptorIndex := 6, attributes := #[] }, { accessFlags := 16409, nameIndex := 12, descriptorIndex := 6, attributes := #[] }, { accessFlags := 16409, nameIndex := 15, descriptorIndex := 6, attributes := #[] }, { accessFlags := 16409, nameIndex := 18, descriptorIndex := 6, attributes := #[] }, { accessFlags := 16409, nameIndex := 21, descriptorIndex := 6, attributes := #[] }, { accessFlags := 16409, nameIndex := 24, descriptorIndex := 6, attributes := #[] }, { accessFlags := 16409, nameIndex := 27, descriptorIndex := 6, attributes := #[] }, { accessFlags := 16409, nameIndex := 30, descriptorIndex := 6, attributes := #[] }, { accessFlags := 16409, nameIndex := 33, descriptorIndex := 6, attributes := #[] }, { accessFlags := 16409, nameIndex := 36, descriptorIndex := 6, attributes := #[] }, { accessFlags := 16409, nameIndex := 39, descriptorIndex := 6, attributes := #[] }, { accessFlags := 26, nameIndex := 360, descriptorIndex := 62, attributes := #[] }, { accessFlags := 26, nameIndex := 362, descriptorIndex := 66, attributes := #[] }, { accessFlags := 26, nameIndex := 364, descriptorIndex := 66, attributes := #[] }, { accessFlags := 26, nameIndex := 366, descriptorIndex := 62, attributes := #[] }, { accessFlags := 26, nameIndex := 367, descriptorIndex := 66, attributes := #[] }, { accessFlags := 26, nameIndex := 369, descriptorIndex := 62, attributes := #[] }, { accessFlags := 26, nameIndex := 370, descriptorIndex := 62, attributes := #[] }, { accessFlags := 26, nameIndex := 371, descriptorIndex := 62, attributes := #[] }, { accessFlags := 26, nameIndex := 372, descriptorIndex := 62, attributes := #[] }, { accessFlags := 26, nameIndex := 373, descriptorIndex := 62, attributes := #[] }, { accessFlags := 18, nameIndex := 61, descriptorIndex := 62, attributes := #[] }, { accessFlags := 18, nameIndex := 65, descriptorIndex := 66, attributes := #[] }, { accessFlags := 18, nameIndex := 69, descriptorIndex := 66, attributes := #[] }, { accessFlags := 18, nameIndex := 72, descriptorIndex := 73, attributes := #[] }, { accessFlags := 4122, nameIndex := 42, descriptorIndex := 43, attributes := #[] }])
  fields := #[{ name := "BOOLEAN", type := (.object "com/example/starcourse/starcourse/catalog/VotableDatatype"), accessFlags := 16409, slot := 0, constantValue := 0 }, { name := "BIT", type := (.object "com/example/starcourse/starcourse/catalog/VotableDatatype"), accessFlags := 16409, slot := 1, constantValue := 0 }, { name := "UNSIGNED_BYTE", type := (.object "com/example/starcourse/starcourse/catalog/VotableDatatype"), accessFlags := 16409, slot := 2, constantValue := 0 }, { name := "SHORT", type := (.object "com/example/starcourse/starcourse/catalog/VotableDatatype"), accessFlags := 16409, slot := 3, constantValue := 0 }, { name := "INT", type := (.object "com/example/starcourse/starcourse/catalog/VotableDatatype"), accessFlags := 16409, slot := 4, constantValue := 0 }, { name := "LONG", type := (.object "com/example/starcourse/starcourse/catalog/VotableDatatype"), accessFlags := 16409, slot := 5, constantValue := 0 }, { name := "CHAR", type := (.object "com/example/starcourse/starcourse/catalog/VotableDatatype"), accessFlags := 16409, slot := 6, constantValue := 0 }, { name := "UNICODE_CHAR", type := (.object "com/example/starcourse/starcourse/catalog/VotableDatatype"), accessFlags := 16409, slot := 7, constantValue := 0 }, { name := "FLOAT", type := (.object "com/example/starcourse/starcourse/catalog/VotableDatatype"), accessFlags := 16409, slot := 8, constantValue := 0 }, { name := "DOUBLE", type := (.object "com/example/starcourse/starcourse/catalog/VotableDatatype"), accessFlags := 16409, slot := 9, constantValue := 0 }, { name := "FLOAT_COMPLEX", type := (.object "com/example/starcourse/starcourse/catalog/VotableDatatype"), accessFlags := 16409, slot := 10, constantValue := 0 }, { name := "DOUBLE_COMPLEX", type := (.object "com/example/starcourse/starcourse/catalog/VotableDatatype"), accessFlags := 16409, slot := 11, constantValue := 0 }, { name := "HEXADECIMAL", type := (.object "java/lang/String"), accessFlags := 26, slot := 12, constantValue := 0 }, { name := "HEXADECIMAL_RADIX", type := .int, accessFlags := 26, slot := 13, constantValue := 0 }, { name := "DECIMAL_RADIX", type := .int, accessFlags := 26, slot := 14, constantValue := 0 }, { name := "INFINITY", type := (.object "java/lang/String"), accessFlags := 26, slot := 15, constantValue := 0 }, { name := "LARGEST_UNSIGNED_BYTE", type := .int, accessFlags := 26, slot := 16, constantValue := 0 }, { name := "NO_BOOLEAN", type := (.object "java/lang/String"), accessFlags := 26, slot := 17, constantValue := 0 }, { name := "BOOLEAN_CHARACTERS", type := (.object "java/lang/String"), accessFlags := 26, slot := 18, constantValue := 0 }, { name := "SET_BIT", type := (.object "java/lang/String"), accessFlags := 26, slot := 19, constantValue := 0 }, { name := "CLEAR_BIT", type := (.object "java/lang/String"), accessFlags := 26, slot := 20, constantValue := 0 }, { name := "WHITE_SPACE", type := (.object "java/lang/String"), accessFlags := 26, slot := 21, constantValue := 0 }, { name := "mName", type := (.object "java/lang/String"), accessFlags := 18, slot := 3, constantValue := 0 }, { name := "mItemBits", type := .int, accessFlags := 18, slot := 4, constantValue := 0 }, { name := "mItemsPerValue", type := .int, accessFlags := 18, slot := 5, constantValue := 0 }, { name := "mItem", type := (.object "java/util/function/Predicate"), accessFlags := 18, slot := 6, constantValue := 0 }, { name := "$VALUES", type := (.array (.object "com/example/starcourse/starcourse/catalog/VotableDatatype")), accessFlags := 4122, slot := 22, constantValue := 0 }]
  methods := #[k6m0]
  instanceTypes := #[(.object "java/lang/String"), .int, .int, (.object "java/lang/String"), .int, .int, (.object "java/util/function/Predicate")]
  staticTypes := #[(.object "com/example/starcourse/starcourse/catalog/VotableDatatype"), (.object "com/example/starcourse/starcourse/catalog/VotableDatatype"), (.object "com/example/starcourse/starcourse/catalog/VotableDatatype"), (.object "com/example/starcourse/starcourse/catalog/VotableDatatype"), (.object "com/example/starcourse/starcourse/catalog/VotableDatatype"), (.object "com/example/starcourse/starcourse/catalog/VotableDatatype"), (.object "com/example/starcourse/starcourse/catalog/VotableDatatype"), (.object "com/example/starcourse/starcourse/catalog/VotableDatatype"), (.object "com/example/starcourse/starcourse/catalog/VotableDatatype"), (.object "com/example/starcourse/starcourse/catalog/VotableDatatype"), (.object "com/example/starcourse/starcourse/catalog/VotableDatatype"), (.object "com/example/starcourse/starcourse/catalog/VotableDatatype"), (.object "java/lang/String"), .int, .int, (.object "java/lang/String"), .int, (.object "java/lang/String"), (.object "java/lang/String"), (.object "java/lang/String"), (.object "java/lang/String"), (.object "java/lang/String"), (.array (.object "com/example/starcourse/starcourse/catalog/VotableDatatype"))]
  resolved := Array.replicate 514 none
  statics := some 0 }

def pool7 : Array CpInfo := pool [(1, u "java/lang/Cloneable"), (0, .class_ 1), (0, u "java/lang/Object"), (0, .class_ 3)] 3

/-- java/lang/Cloneable -/
def k7 : Class := { plain "java/lang/Cloneable" (some 0) with
  accessFlags := 1537
  interfaces := #[]
  cf := some (fileOf pool7 2 #[] #[] 1537 4 #[] #[])
  fields := #[]
  methods := #[]
  instanceTypes := #[]
  staticTypes := #[]
  resolved := Array.replicate 8 none
  statics := none }

/-- the primitive byte -/
def k8 : Class := { plain "byte" none with kind := .primitive 'B', accessFlags := 0x411 }
/-- [B -/
def k9 : Class := { plain "[B" (some 0) with kind := .array 8 .byte, interfaces := #[7, 4], accessFlags := 1041 }

/-- the primitive int -/
def k10 : Class := { plain "int" none with kind := .primitive 'I', accessFlags := 0x411 }
/-- [I -/
def k11 : Class := { plain "[I" (some 0) with kind := .array 10 .int, interfaces := #[7, 4], accessFlags := 1041 }

def heap : Heap := #[{ cls := 6, slots := #[.ref 1, .ref 3, .ref 2, .ref 4, .ref 7, .ref 12, .ref 11, .ref 5, .ref 8, .ref 10, .ref 9, .ref 6, .null, .int 0, .int 0, .null, .int 0, .null, .null, .null, .null, .null, .null], vm := .statics 6 },
  { cls := 6, slots := #[.null, .int 0, .int 0, .null, .int 0, .int 0, .null], vm := .none },
  { cls := 6, slots := #[.null, .int 2, .int 0, .null, .int 0, .int 0, .null], vm := .none },
  { cls := 6, slots := #[.null, .int 1, .int 0, .null, .int 0, .int 0, .null], vm := .none },
  { cls := 6, slots := #[.null, .int 3, .int 0, .null, .int 0, .int 0, .null], vm := .none },
  { cls := 6, slots := #[.null, .int 7, .int 0, .null, .int 0, .int 0, .null], vm := .none },
  { cls := 6, slots := #[.null, .int 11, .int 0, .null, .int 0, .int 0, .null], vm := .none },
  { cls := 6, slots := #[.null, .int 4, .int 0, .null, .int 0, .int 0, .null], vm := .none },
  { cls := 6, slots := #[.null, .int 8, .int 0, .null, .int 0, .int 0, .null], vm := .none },
  { cls := 6, slots := #[.null, .int 10, .int 0, .null, .int 0, .int 0, .null], vm := .none },
  { cls := 6, slots := #[.null, .int 9, .int 0, .null, .int 0, .int 0, .null], vm := .none },
  { cls := 6, slots := #[.null, .int 6, .int 0, .null, .int 0, .int 0, .null], vm := .none },
  { cls := 6, slots := #[.null, .int 5, .int 0, .null, .int 0, .int 0, .null], vm := .none }]
def classes : Array Class := #[k0, k1, k2, k3, k4, k5, k6, k7, k8, k9, k10, k11]
def interned : List (Array UInt16 × Addr) := []
def slotsUsed : Nat := 107
def theMethod : MethodId := ⟨1, 1⟩
def args0 : Array Value := #[.int 5]
def aboutOver (below : List Frame) : State where
  vm := { classes := classes, interned := interned.toArray }
  heap := heap
  slotsUsed := slotsUsed
  threads := #[{ frames := .invoking theMethod args0 :: below }]
def below0 : List Frame := [.native { method := ⟨0, 0⟩, args := #[] }]
def about1 : State := aboutOver below0
def p0 : Program := .bare "" "" ""
def e0 : Env := launch0.env 0 0 0
theorem w_frames : about1.frames = Frame.invoking theMethod args0 :: below0 := rfl
set_option maxRecDepth 65536 in
theorem w_args : argsFit about1.vm theMethod args0 = true := by decide +kernel
set_option maxRecDepth 65536 in
theorem w_heap : heapFits about1 = true := by decide +kernel
set_option maxRecDepth 65536 in
theorem w_runnable : about1.curStatus? = some .runnable := by decide +kernel
set_option maxRecDepth 65536 in
theorem w_alone : about1.alone = true := by decide +kernel
set_option maxRecDepth 65536 in
theorem w_named : about1.methodNamed? x = some theMethod := by decide +kernel
set_option maxRecDepth 65536 in
theorem w_hears : about1.hears theMethod below0 = true := by decide +kernel
set_option maxRecDepth 65536 in
theorem w_ripe : about1.ripe theMethod args0 below0 = true := by decide +kernel
theorem w_running : about1.status = .running := rfl
set_option maxRecDepth 65536 in
theorem w_room : about1.hasRoom e0.platform room_1 = true :=
  launch0.hasRoom_least _ room_1 (by decide +kernel) (by decide +kernel) (by decide +kernel) (by decide +kernel) (by decide +kernel) (by decide +kernel)
theorem allAtoms_all (ts : List Jvm.Cond) (a : Array Jvm.Value) (st : Jvm.State) : (allAtoms ts).before a st = ts.all (fun c => c.before a st) := by
  induction ts with
  | nil => rfl
  | cons c t ih =>
    show (Jvm.Cond.and c (allAtoms t)).before a st = _
    rw [Jvm.Cond.before_and, ih, List.all_cons]
def words1 : List Jvm.Cond := Jvm.Cond.code x code maxLocals ret :: tables_1
/-- a 'code' word, met by the world's own term for the bytes: nothing is compared byte by byte -/
theorem code_word {y : MethodName} {bytes : ByteArray} {mx : Nat} {rt : Option FieldType} {a : Array Value} {s : State} {m : MethodId} {meth : Method} {c : Code} (h1 : s.methodNamed? y = some m) (h2 : s.vm.method? m = some meth) (h3 : meth.code = some c) (h4 : c.code = bytes)
    (h5 : (c.maxLocals == mx && c.exceptionTable.isEmpty && decide (c.maxStack ≤ mostOperands) && decide (meth.sig.returnType = rt) && !meth.locks && decide (parseMethodDescriptor y.desc = some meth.sig)) = true) : (Jvm.Cond.code y bytes mx rt).before a s = true := by
  simp only [Bool.and_eq_true, beq_iff_eq, Bool.not_eq_true', decide_eq_true_eq] at h5
  obtain ⟨⟨⟨⟨⟨g1, g2⟩, g3⟩, g4⟩, g5⟩, g6⟩ := h5
  simp [Cond.before, Cond.holds, Cond.value, h1, h2, h3, h4, g1, g2, g3, g4, g5, g6]
def isCode : Jvm.Cond → Bool
  | .code _ _ _ _ => true
  | _ => false
theorem all_split {L : List Jvm.Cond} {P : Jvm.Cond → Bool} (h1 : L.all (fun c => isCode c || P c) = true) (h2 : ∀ c ∈ L.filter isCode, P c = true) : L.all P = true := by
  refine List.all_eq_true.mpr fun c hc => ?_
  have h := List.all_eq_true.mp h1 c hc
  rcases Bool.eq_false_or_eq_true (isCode c) with hi | hi
  · exact h2 c (List.mem_filter.mpr ⟨hc, hi⟩)
  · simpa [hi] using h
set_option maxRecDepth 65536 in
theorem w_c0 : (Jvm.Cond.code x code maxLocals ret).before args0 about1 = true := code_word (m := ⟨1, 1⟩) (meth := k1m1) (c := k1c1) (by decide +kernel) rfl rfl rfl (by decide +kernel)
set_option maxRecDepth 65536 in
theorem w_c1 : (Jvm.Cond.code ({ cls := "com/example/starcourse/starcourse/catalog/VotableDatatypeIsReadLooselyPinLaw", name := "pick", desc := "(I)Lcom/example/starcourse/starcourse/catalog/VotableDatatype;" } : Jvm.MethodName) method_3_code (1 : Nat) (Option.some (Jvm.ClassFile.FieldType.object "com/example/starcourse/starcourse/catalog/VotableDatatype"))).before args0 about1 = true := code_word (m := ⟨1, 2⟩) (meth := k1m2) (c := k1c2) (by decide +kernel) rfl rfl rfl (by decide +kernel)
set_option maxRecDepth 65536 in
theorem w_c2 : (Jvm.Cond.code ({ cls := "com/example/starcourse/starcourse/catalog/VotableDatatype", name := "isReadLoosely", desc := "()Z" } : Jvm.MethodName) prog_43_method_16_code (1 : Nat) (Option.some Jvm.ClassFile.FieldType.boolean)).before args0 about1 = true := code_word (m := ⟨6, 0⟩) (meth := k6m0) (c := k6c0) (by decide +kernel) rfl rfl rfl (by decide +kernel)
def codes1 : List Jvm.Cond := [Jvm.Cond.code x code maxLocals ret, Jvm.Cond.code ({ cls := "com/example/starcourse/starcourse/catalog/VotableDatatypeIsReadLooselyPinLaw", name := "pick", desc := "(I)Lcom/example/starcourse/starcourse/catalog/VotableDatatype;" } : Jvm.MethodName) method_3_code (1 : Nat) (Option.some (Jvm.ClassFile.FieldType.object "com/example/starcourse/starcourse/catalog/VotableDatatype")), Jvm.Cond.code ({ cls := "com/example/starcourse/starcourse/catalog/VotableDatatype", name := "isReadLoosely", desc := "()Z" } : Jvm.MethodName) prog_43_method_16_code (1 : Nat) (Option.some Jvm.ClassFile.FieldType.boolean)]
set_option maxRecDepth 65536 in
theorem codes_eq : words1.filter isCode = codes1 := rfl
theorem w_codes : ∀ c ∈ words1.filter isCode, c.before args0 about1 = true := by
  rw [codes_eq]
  intro c hc
  simp only [codes1, List.mem_cons, List.not_mem_nil, or_false] at hc
  rcases hc with rfl | rfl | rfl
  · exact w_c0
  · exact w_c1
  · exact w_c2
set_option maxRecDepth 65536 in
theorem w_t1 : (words1.take 24).all (fun c => isCode c || c.before args0 about1) = true := by decide +kernel
set_option maxRecDepth 65536 in
theorem w_t2 : (words1.drop 24).all (fun c => isCode c || c.before args0 about1) = true := by decide +kernel
theorem w_tables : (allAtoms (Jvm.Cond.code x code maxLocals ret :: tables_1)).before args0 about1 = true := by
  rw [allAtoms_all]
  show words1.all (fun c => c.before args0 about1) = true
  refine all_split ?_ w_codes
  rw [← List.take_append_drop 24 words1, List.all_append, w_t1, w_t2]
  rfl
set_option maxRecDepth 65536 in
theorem w_case : (Jvm.Cond.and given_1 narrow_1).before args0 about1 = true := by decide +kernel
theorem w_applies : (headSpec (Jvm.Cond.code x code maxLocals ret :: tables_1) room_1).applies x e0.platform about1 = true :=
  (Spec.applies_iff w_frames).mpr ⟨w_running, w_runnable, w_alone, w_named, w_hears, w_ripe, w_room, w_tables⟩
theorem atStart : AtStart classFile x code maxLocals ret World_1 tables_1 room_1 Calls_1 rest_1 Pre_1 launch0 p0 e0 about1 theMethod args0 below0 :=
  ⟨lists_1, trivial, launch0.admits_env _ _ _, launch0.least_env, fairChoices_fair.cas, fairChoices_fair.clock, w_frames, w_args, w_heap, w_applies, trivial, trivial, w_case⟩
end start1
theorem witness_1 : WitnessClaimed_1 := ⟨start1.p0, start1.e0, start1.about1, start1.theMethod, start1.args0, start1.below0, start1.atStart⟩
end Jvm.Pilot.@@N@@
