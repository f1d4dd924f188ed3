import JvmDerived
import JvmDerived.Pilot.@@N@@Statement
import JvmDerived.Pilot.@@N@@Code
set_option linter.unusedVariables false
set_option linter.unusedSimpArgs false
@@BLOCK:NumsL.lean.txt@@
namespace Jvm.RoadKit
open Sem ClassFile Op Lib Jvm.Stand Jvm.Free Jvm.LawKit
section New
variable {p : Program} {l : Launch} {e : Env} {R : Room} {s : State} {m : MethodId} {args : Array Value} {below : List Frame} {meth : Method} {c : Code} {T : State} {locs : List Loc} {cells slots : Nat}
theorem retI (X : Stand p l e R s m args below meth c T locs cells slots) (hx : p.tables.exec = Jvm.exec) {pc : Nat} {Ls : Array Slot} {z : Int32} {rest : List Value} (hret : meth.sig.returnType = some .int) (hd : decode c.code pc = .ok (.ireturn, 1)) {fs : List Frame}
    (hl : ∀ (f : JFrame) (acts : List Action), f.method = m → f.locked = none → f.entered = [] → (doReturn e (T.setTop f) acts (some (.int z))).1 = T.setFrames fs) : Steps p.tables e below (T.setTop (mkF m pc Ls (.int z :: rest))) (T.setFrames fs) := by
  have hm' : T.vm.method? m = some meth := X.method'
  have hn : narrow .int (.int z) = .int z := rfl
  show Steps p.tables e below (T.setTop { method := m, pc := pc, locals := Ls, stack := _ :: rest, locked := none }) _
  jvm_step X.here [X.here.top, hx, hd, hm', hret, hn]
  first | (intro acts; rw [hl _ acts rfl rfl rfl]) | rw [hl _ _ rfl rfl rfl]
  exact Steps.refl _
end New
end Jvm.RoadKit
namespace Jvm.Pilot.@@N@@
open Jvm Jvm.ClassFile Sem Op Lib Jvm.Free Jvm.Stand Jvm.LawKit Jvm.RoadKit Bundle Jvm.Pilot.@@N@@.Jvm.D
/-! own_Goes: from S the run comes to some state of which G holds: such a goal may be split in the middle of a walk -/
def own_Goes (p : Program) (e : Env) (below : List Frame) (S : State) (G : State → Prop) : Prop := ∃ t, Steps p.tables e below S t ∧ G t
theorem own_via {p : Program} {e : Env} {below : List Frame} {S S' : State} {G : State → Prop} (f : ∀ t, Steps p.tables e below S' t → Steps p.tables e below S t) (h : own_Goes p e below S' G) : own_Goes p e below S G := by
  obtain ⟨t, h1, h2⟩ := h
  exact ⟨t, f t h1, h2⟩
theorem own_end {p : Program} {e : Env} {below : List Frame} {S t : State} {G : State → Prop} (h : Steps p.tables e below S t) (g : G t) : own_Goes p e below S G := ⟨t, h, g⟩
theorem own_out {p : Program} {e : Env} {below : List Frame} {S : State} {P : State → Outcome → Prop} (h : own_Goes p e below S (fun t => ∃ o, t.status = .running ∧ Ended t below o ∧ P t o)) : ∃ t o, Steps p.tables e below S t ∧ t.status = .running ∧ Ended t below o ∧ P t o := by
  obtain ⟨t, h1, o, h2, h3, h4⟩ := h
  exact ⟨t, o, h1, h2, h3, h4⟩
theorem wd {a0 : Array Value} {Z : State} (hw : ∀ d ∈ tables_1, d.before a0 Z = true) (i : Nat) {d : Jvm.Cond} (h : tables_1[i]? = some d) : d.before a0 Z = true := hw _ (List.mem_of_getElem? h)
theorem own_old {Z : State} {n0 : Nat} {h : Heap} (O : Old Z n0 h) : n0 ≤ h.size := by rw [← O.1]; exact O.2.1
def own_Q0 (n0 : Nat) (v : Option Value) (L : List Loc) : Prop := v = some (.int (1 : Int32)) ∧ Fr n0 L
def own_G (s : State) (below : List Frame) (n0 : Nat) (t : State) : Prop := ∃ o, t.status = .running ∧ Ended t below o ∧ ∃ v L, o = .returned v ∧ own_Q0 n0 v L ∧ FrameEnd s o t L room_1.cells room_1.slots
def own_Len (Z : State) (h : Heap) (a : Addr) (ty : FieldType) (n : Int32) : Prop := ∃ k vs d, Arv Z h a k ty n vs d
theorem own_len_ext {Z : State} {h h' : Heap} {a : Addr} {ty : FieldType} {n : Int32} (F : own_Len Z h a ty n) (E : Ext h h') : own_Len Z h' a ty n := by
  obtain ⟨k, vs, d, V⟩ := F
  exact ⟨k, vs, d, V.ext E⟩
theorem own_len_other {Z : State} {h h' : Heap} {a b : Addr} {sl : Nat} {v : Value} {ty : FieldType} {n : Int32} (F : own_Len Z h b ty n) (W : Wr h h' a sl v) (q : b ≠ a) : own_Len Z h' b ty n := by
  obtain ⟨k, vs, d, V⟩ := F
  exact ⟨k, vs, d, V.other W q⟩
theorem own_len_keep {Z : State} {h h' : Heap} {a : Addr} {ws : List Addr} {ty : FieldType} {n : Int32} (F : own_Len Z h a ty n) (K : Keep h h' ws) (q : a ∉ ws) : own_Len Z h' a ty n := by
  obtain ⟨k, vs, d, V⟩ := F
  exact ⟨k, vs, d, V.keep K q⟩
theorem own_len_lt {Z : State} {h : Heap} {a : Addr} {ty : FieldType} {n : Int32} (F : own_Len Z h a ty n) : a < h.size := by
  obtain ⟨k, vs, d, V⟩ := F
  exact V.lt
theorem own_c2 (x : Int32) : x.toUInt32.toUInt16.toUInt32.toInt32.toUInt32.toUInt16.toUInt32.toInt32 = x.toUInt32.toUInt16.toUInt32.toInt32 := by rw [UInt32.toUInt32_toInt32, UInt16.toUInt16_toUInt32]
theorem own_b2 (x : Int32) : x.toInt8.toInt32.toInt8.toInt32 = x.toInt8.toInt32 := by rw [Int8.toInt8_toInt32]
section Calls
variable {p : Program} {l : Launch} {e : Env} {R : Room} {s : State} {m : MethodId} {args : Array Value} {below : List Frame} {meth : Method} {c : Code} {T : State} {locs : List Loc} {cells slots : Nat} {Z : State} {a0 : Array Value} {h : Heap} {own C : String} {index : Nat} {y : MethodName} {bytes : ByteArray} {maxL : Nat} {rm : Room} {Q : Option Value → Heap → List Loc → Prop} {a : Addr} {argsL : List Value} {g : JFrame}
/-! a call by its contract, in one step: virtual (the class's own method), a constructor, static -/
theorem own_cv {ret : Option FieldType} (X : Stand p l e R s m args below meth c T locs cells slots) (hx : p.tables.exec = Jvm.exec) (hZ : Z.Warmed39 s.vm) (hown : s.vm.findClass own = some m.cls) (w1 : (Jvm.Cond.methodLink own index y).before a0 Z = true) (w2 : (Jvm.Cond.declares y).before a0 Z = true) (w3 : (Jvm.Cond.selects C y y).before a0 Z = true) (w4 : (Jvm.Cond.instanceMethod y).before a0 Z = true) (wc : (Jvm.Cond.code y bytes maxL ret).before a0 Z = true) (wz : (Jvm.Cond.initialized y.cls).before a0 Z = true) (hy : y.cls ≠ "java/lang/invoke/MethodHandle" ∧ y.cls ≠ "java/lang/invoke/VarHandle")
    (hM : MetFree l y (head1 [Jvm.Cond.code y bytes maxL ret] rm) (fun A U => A = (.ref a :: argsL).toArray ∧ Z.Warmed39 U.vm ∧ U.heap = h) (fun _ _ _ _ _ => True) (fun _ U o U' => ∃ v L, o = .returned v ∧ Q v U'.heap L ∧ FrameEnd U o U' L rm.cells rm.slots)) (eT : T.heap = h) (E : Exa Z h a C) (hg : g.method = m) (hsize : g.locals.size = c.maxLocals) {rest : List Value} {W : Nat}
    (hlen : ∀ sig, parseMethodDescriptor y.desc = some sig → argsL.length = sig.parameters.length) (hstack : g.stack = argsL.reverse ++ .ref a :: rest) (hW : 2 * g.monitorRoom + (rest.map fun v => v.category).sum ≤ W) (hdg : decode c.code g.pc = .ok (.invokevirtual index, 3)) (r1 : rm.frames + 1 ≤ R.frames) (r2 : W + (maxL + 11) + rm.locals ≤ R.locals) (r3 : cells + rm.cells ≤ R.cells) (r4 : slots + rm.slots ≤ R.slots) :
    ∃ (v : Option Value) (T' : State) (L : List Loc), Stand p l e R s m args below meth c T' (locs ++ L) (cells + rm.cells) (slots + rm.slots) ∧ Q v T'.heap L ∧ ∀ t, Steps p.tables e below (T'.setTop { g with pc := g.pc + 3, stack := v.toList ++ rest }) t → Steps p.tables e below (T.setTop g) t := by
  obtain ⟨cq, kq, qa, -, qc⟩ := isOf hZ eT E
  obtain ⟨v, _, ⟨T', L', c', n'⟩, -, X', ⟨Lc, hQ, l1, y1, z1⟩, st⟩ := X.virtualBack hx (y := y) (z := y) hown (mvT hZ w1) (mvT hZ w2) (notFace_of_selects (args := #[]) (mvT hZ w3)) (mvT hZ w3) (mvT hZ w4) hy (backOf (W := W) hM hZ wc wz r1 r2) qa qc (g := g) hg hsize (Steps.refl _) (argsL := argsL) (rest := rest) hlen hstack hW hdg (fun _ _ => ⟨rfl, eT, r3, r4⟩)
  dsimp only [Pt.U, Pt.locs, Pt.cells, Pt.slots] at X' l1 y1 z1 st hQ
  subst l1 y1 z1
  exact ⟨v, T', Lc, X', hQ, fun t k => st.trans k⟩
theorem own_ci (X : Stand p l e R s m args below meth c T locs cells slots) (hx : p.tables.exec = Jvm.exec) (hZ : Z.Warmed39 s.vm) (hown : s.vm.findClass own = some m.cls) (w1 : (Jvm.Cond.methodLink own index y).before a0 Z = true) (w4 : (Jvm.Cond.instanceMethod y).before a0 Z = true) (wc : (Jvm.Cond.code y bytes maxL none).before a0 Z = true) (wz : (Jvm.Cond.initialized y.cls).before a0 Z = true) (hi : y.name = "<init>") (hy : y.cls ≠ "java/lang/invoke/MethodHandle" ∧ y.cls ≠ "java/lang/invoke/VarHandle")
    (hM : MetFree l y (head1 [Jvm.Cond.code y bytes maxL none] rm) (fun A U => A = (.ref a :: argsL).toArray ∧ Z.Warmed39 U.vm ∧ U.heap = h) (fun _ _ _ _ _ => True) (fun _ U o U' => ∃ v L, o = .returned v ∧ Q v U'.heap L ∧ FrameEnd U o U' L rm.cells rm.slots)) (eT : T.heap = h) (hg : g.method = m) (hsize : g.locals.size = c.maxLocals) {rest : List Value} {W : Nat}
    (hlen : ∀ sig, parseMethodDescriptor y.desc = some sig → argsL.length = sig.parameters.length) (hstack : g.stack = argsL.reverse ++ .ref a :: rest) (hW : 2 * g.monitorRoom + (rest.map fun v => v.category).sum ≤ W) (hdg : decode c.code g.pc = .ok (.invokespecial index, 3)) (r1 : rm.frames + 1 ≤ R.frames) (r2 : W + (maxL + 11) + rm.locals ≤ R.locals) (r3 : cells + rm.cells ≤ R.cells) (r4 : slots + rm.slots ≤ R.slots) :
    ∃ (v : Option Value) (T' : State) (L : List Loc), Stand p l e R s m args below meth c T' (locs ++ L) (cells + rm.cells) (slots + rm.slots) ∧ Q v T'.heap L ∧ ∀ t, Steps p.tables e below (T'.setTop { g with pc := g.pc + 3, stack := v.toList ++ rest }) t → Steps p.tables e below (T.setTop g) t := by
  obtain ⟨v, _, ⟨T', L', c', n'⟩, -, X', ⟨Lc, hQ, l1, y1, z1⟩, st⟩ := X.specialBack hx (y := y) hi hown (mvT hZ w1) (mvT hZ w4) (mvT hZ wc) hy (backOf (W := W) hM hZ wc wz r1 r2) (g := g) hg hsize (Steps.refl _) (a := a) (argsL := argsL) (rest := rest) hlen hstack hW hdg (fun _ _ => ⟨rfl, eT, r3, r4⟩)
  dsimp only [Pt.U, Pt.locs, Pt.cells, Pt.slots] at X' l1 y1 z1 st hQ
  subst l1 y1 z1
  exact ⟨v, T', Lc, X', hQ, fun t k => st.trans k⟩
theorem own_cs {ret : Option FieldType} (X : Stand p l e R s m args below meth c T locs cells slots) (hx : p.tables.exec = Jvm.exec) (hZ : Z.Warmed39 s.vm) (hown : s.vm.findClass own = some m.cls) (w1 : (Jvm.Cond.methodLink own index y).before a0 Z = true) (w4 : (Jvm.Cond.static y).before a0 Z = true) (wc : (Jvm.Cond.code y bytes maxL ret).before a0 Z = true) (wz : (Jvm.Cond.initialized y.cls).before a0 Z = true) (hy : y.cls ≠ "java/lang/invoke/MethodHandle" ∧ y.cls ≠ "java/lang/invoke/VarHandle")
    (hM : MetFree l y (head1 [Jvm.Cond.code y bytes maxL ret] rm) (fun A U => A = argsL.toArray ∧ Z.Warmed39 U.vm ∧ U.heap = h) (fun _ _ _ _ _ => True) (fun _ U o U' => ∃ v L, o = .returned v ∧ Q v U'.heap L ∧ FrameEnd U o U' L rm.cells rm.slots)) (eT : T.heap = h) (hg : g.method = m) (hsize : g.locals.size = c.maxLocals) {rest : List Value} {W : Nat}
    (hlen : ∀ sig, parseMethodDescriptor y.desc = some sig → argsL.length = sig.parameters.length) (hstack : g.stack = argsL.reverse ++ rest) (hW : 2 * g.monitorRoom + (rest.map fun v => v.category).sum ≤ W) (hdg : decode c.code g.pc = .ok (.invokestatic index, 3)) (r1 : rm.frames + 1 ≤ R.frames) (r2 : W + (maxL + 11) + rm.locals ≤ R.locals) (r3 : cells + rm.cells ≤ R.cells) (r4 : slots + rm.slots ≤ R.slots) :
    ∃ (v : Option Value) (T' : State) (L : List Loc), Stand p l e R s m args below meth c T' (locs ++ L) (cells + rm.cells) (slots + rm.slots) ∧ Q v T'.heap L ∧ ∀ t, Steps p.tables e below (T'.setTop { g with pc := g.pc + 3, stack := v.toList ++ rest }) t → Steps p.tables e below (T.setTop g) t := by
  obtain ⟨v, _, ⟨T', L', c', n'⟩, -, X', ⟨Lc, hQ, l1, y1, z1⟩, st⟩ := Jvm.LawKit.callS X hx (y := y) hown (mvT hZ w1) (mvT hZ w4) (mvT hZ wz) (mvT hZ wc) hy (backOf (W := W) hM hZ wc wz r1 r2) (g := g) hg hsize (argsL := argsL) (rest := rest) hlen hstack hW hdg (fun _ _ => ⟨rfl, eT, r3, r4⟩)
  dsimp only [Pt.U, Pt.locs, Pt.cells, Pt.slots] at X' l1 y1 z1 st hQ
  subst l1 y1 z1
  exact ⟨v, T', Lc, X', hQ, st⟩
end Calls
theorem own_eq_ref {args : Array Value} {s : State} {a b : Term} {w : Addr} (h : (Jvm.Cond.eq a b).value args s none s [] = some true) (hb : b.eval args s none [] s = some (.ref w)) : a.eval args s none [] s = some (.ref w) := by
  obtain ⟨x, y, e1, e2, k1, k2⟩ := cmp_v (Or.inl h)
  rw [hb] at e2
  cases e2
  have hx : x.isRef = true := by cases x <;> simp_all [Kin, Value.isRef]
  have q := gotT (eq_R e1 hb hx rfl) h
  rw [e1, q]
theorem own_ne_ref {args : Array Value} {s : State} {a b : Term} {u w : Addr} (h : (Jvm.Cond.not (Jvm.Cond.eq a b)).value args s none s [] = some true) (ha : a.eval args s none [] s = some (.ref u)) (hb : b.eval args s none [] s = some (.ref w)) : u ≠ w := fun q => gotF (eq_R ha hb rfl rfl) (not_v h) (by rw [q])
theorem own_nn_mask (x m : Int32) (k : Nat) (hk : k < 32) (hm : m.toBitVec.toNat = 2 ^ k - 1) : ¬ ((x &&& m) < (0 : Int32)) := by
  rw [Int32.lt_iff_toInt_lt, Jvm.Kit.i32_mask x m hk hm]
  have h := Int.emod_nonneg x.toInt (show ((2 : Int) ^ k) ≠ 0 from Int.ne_of_gt (Int.pow_pos (by decide)))
  rw [Int32.toInt_zero]
  omega
theorem own_lt_mask (x m : Int32) (k : Nat) (hk : k < 32) (hm : m.toBitVec.toNat = 2 ^ k - 1) {n : Int32} (hn : n.toInt = 2 ^ k) : (x &&& m) < n := by
  rw [Int32.lt_iff_toInt_lt, Jvm.Kit.i32_mask x m hk hm, hn]
  exact Int.emod_lt_of_pos _ (Int.pow_pos (by decide))
theorem own_nn_rem {x : Int32} (n : Int32) (h : ¬ (x < (0 : Int32))) : ¬ (x % n < (0 : Int32)) := by
  rw [Int32.lt_iff_toInt_lt, Int32.toInt_zero] at h ⊢
  rw [Int32.toInt_mod]
  have := Int.tmod_nonneg n.toInt (show 0 ≤ x.toInt by omega)
  omega
theorem own_pos {n : Int32} (h : (0 : Int32) < n) : 0 < n.toInt := by
  rw [Int32.lt_iff_toInt_lt, Int32.toInt_zero] at h
  exact h
theorem own_ne0 {n : Int32} (h : (0 : Int32) < n) : n ≠ 0 := fun q => by
  rw [q] at h
  exact absurd h (by decide)
theorem own_lt_rem {x : Int32} (n : Int32) (h : ¬ (x < (0 : Int32))) (hn : 0 < n.toInt) : x % n < n := by
  rw [Int32.lt_iff_toInt_lt] at h ⊢
  rw [Int32.toInt_zero] at h
  rw [Jvm.Kit.i32_rem_nonneg (by omega)]
  exact Int.emod_lt_of_pos _ hn
theorem own_modlo (x n : Int32) (hn : 0 < n.toInt) : 0 ≤ ((x &&& (2147483647 : Int32)) % n).toInt := by
  have a := Jvm.Kit.i32_mask x 2147483647 (k := 31) (by decide) (by decide)
  rw [Jvm.Kit.i32_rem_nonneg (by omega)]
  exact Int.emod_nonneg _ (by omega)
theorem own_modhi (x n : Int32) (hn : 0 < n.toInt) : ((x &&& (2147483647 : Int32)) % n).toInt < n.toInt := by
  have a := Jvm.Kit.i32_mask x 2147483647 (k := 31) (by decide) (by decide)
  rw [Jvm.Kit.i32_rem_nonneg (by omega)]
  exact Int.emod_lt_of_pos _ hn
theorem own_cases_8 (y : Int32) (h0 : 0 ≤ y.toInt) (h1 : y.toInt < 8) : y = (0 : Int32) ∨ y = (1 : Int32) ∨ y = (2 : Int32) ∨ y = (3 : Int32) ∨ y = (4 : Int32) ∨ y = (5 : Int32) ∨ y = (6 : Int32) ∨ y = (7 : Int32) := by
  have e : ∀ k : Int32, y.toInt = k.toInt → y = k := fun k q => Int32.toInt_inj.mp q
  rcases (by omega : y.toInt = 0 ∨ y.toInt = 1 ∨ y.toInt = 2 ∨ y.toInt = 3 ∨ y.toInt = 4 ∨ y.toInt = 5 ∨ y.toInt = 6 ∨ y.toInt = 7) with q | q | q | q | q | q | q | q
  · exact Or.inl (e 0 (q.trans rfl))
  · exact Or.inr <| Or.inl (e 1 (q.trans rfl))
  · exact Or.inr <| Or.inr <| Or.inl (e 2 (q.trans rfl))
  · exact Or.inr <| Or.inr <| Or.inr <| Or.inl (e 3 (q.trans rfl))
  · exact Or.inr <| Or.inr <| Or.inr <| Or.inr <| Or.inl (e 4 (q.trans rfl))
  · exact Or.inr <| Or.inr <| Or.inr <| Or.inr <| Or.inr <| Or.inl (e 5 (q.trans rfl))
  · exact Or.inr <| Or.inr <| Or.inr <| Or.inr <| Or.inr <| Or.inr <| Or.inl (e 6 (q.trans rfl))
  · exact Or.inr <| Or.inr <| Or.inr <| Or.inr <| Or.inr <| Or.inr <| Or.inr <| (e 7 (q.trans rfl))
abbrev zs1 : String := "com/example/kempt_envelope/kemptenvelope/JsonTape"
abbrev zs2 : String := "com/example/kempt_envelope/kemptenvelope/JsonTape$Decoded"
abbrev zs3 : String := "[Lcom/example/kempt_envelope/kemptenvelope/JsonTape$Decoded;"
theorem own_and_7 (x : Int32) : x &&& (7 : Int32) = (0 : Int32) ∨ x &&& (7 : Int32) = (1 : Int32) ∨ x &&& (7 : Int32) = (2 : Int32) ∨ x &&& (7 : Int32) = (3 : Int32) ∨ x &&& (7 : Int32) = (4 : Int32) ∨ x &&& (7 : Int32) = (5 : Int32) ∨ x &&& (7 : Int32) = (6 : Int32) ∨ x &&& (7 : Int32) = (7 : Int32) := own_cases_8 _ (by rw [Jvm.Kit.i32_mask x 7 (k := 3) (by decide) (by decide)]; omega) (by rw [Jvm.Kit.i32_mask x 7 (k := 3) (by decide) (by decide)]; omega)
theorem d1_0 : decode prog_17_method_1_code 0 = .ok (.aload_n 0, 1) := by decide +kernel
theorem d1_1 : decode prog_17_method_1_code 1 = .ok (.invokespecial 3, 3) := by decide +kernel
theorem d1_4 : decode prog_17_method_1_code 4 = .ok (.aload_n 0, 1) := by decide +kernel
theorem d1_5 : decode prog_17_method_1_code 5 = .ok (.bipush 64, 2) := by decide +kernel
theorem d1_7 : decode prog_17_method_1_code 7 = .ok (.anewarray 9, 3) := by decide +kernel
theorem d1_10 : decode prog_17_method_1_code 10 = .ok (.putfield 11, 3) := by decide +kernel
theorem d1_13 : decode prog_17_method_1_code 13 = .ok (.aload_n 0, 1) := by decide +kernel
theorem d1_14 : decode prog_17_method_1_code 14 = .ok (.iconst 1, 1) := by decide +kernel
theorem d1_15 : decode prog_17_method_1_code 15 = .ok (.anewarray 15, 3) := by decide +kernel
theorem d1_18 : decode prog_17_method_1_code 18 = .ok (.putfield 17, 3) := by decide +kernel
theorem d1_21 : decode prog_17_method_1_code 21 = .ok (.aload_n 0, 1) := by decide +kernel
theorem d1_22 : decode prog_17_method_1_code 22 = .ok (.aload_n 1, 1) := by decide +kernel
theorem d1_23 : decode prog_17_method_1_code 23 = .ok (.putfield 21, 3) := by decide +kernel
theorem d1_26 : decode prog_17_method_1_code 26 = .ok (.aload_n 0, 1) := by decide +kernel
theorem d1_27 : decode prog_17_method_1_code 27 = .ok (.sipush 16384, 3) := by decide +kernel
theorem d1_30 : decode prog_17_method_1_code 30 = .ok (.aload_n 1, 1) := by decide +kernel
theorem d1_31 : decode prog_17_method_1_code 31 = .ok (.arraylength, 1) := by decide +kernel
theorem d1_32 : decode prog_17_method_1_code 32 = .ok (.bipush 8, 2) := by decide +kernel
theorem d1_34 : decode prog_17_method_1_code 34 = .ok (.idiv, 1) := by decide +kernel
theorem d1_35 : decode prog_17_method_1_code 35 = .ok (.bipush 16, 2) := by decide +kernel
theorem d1_37 : decode prog_17_method_1_code 37 = .ok (.iadd, 1) := by decide +kernel
theorem d1_38 : decode prog_17_method_1_code 38 = .ok (.invokestatic 25, 3) := by decide +kernel
theorem d3_0 : decode jdk_29_method_69_code 0 = .ok (.iload_n 0, 1) := by decide +kernel
theorem d3_1 : decode jdk_29_method_69_code 1 = .ok (.iload_n 1, 1) := by decide +kernel
theorem d3_2 : decode jdk_29_method_69_code 2 = .ok (.if_icmp .gt 7, 3) := by decide +kernel
theorem d3_9 : decode jdk_29_method_69_code 9 = .ok (.iload_n 1, 1) := by decide +kernel
theorem d3_10 : decode jdk_29_method_69_code 10 = .ok (.ireturn, 1) := by decide +kernel
theorem ef_1 (m : MethodId) (x0 : Int32) (x1 : Int32) : entryFrame m #[(.int x0), (.int x1)] 2 = mkF m 0 #[iv x0, iv x1] [] := by first | (simp [entryFrame, mkF, argsToLocals, Value.category]; done) | rfl
def Q1 (Z : State)  (h0 : Heap) (n0 : Nat) (v : Option Value) (h : Heap) (L : List Loc) : Prop := v = some (.int (17 : Int32)) ∧ Fr n0 L ∧ h = h0
set_option maxRecDepth 65536 in
set_option maxHeartbeats 40000000 in
theorem rm1 (l : Launch) (Z : State) (a0 : Array Value) (hw : ∀ d ∈ tables_1, d.before a0 Z = true) (ws : List Jvm.Cond)  (h0 : Heap) (n0 : Nat) (O0 : Old Z n0 h0) :
    MetFree l (⟨"java/lang/Math", "min", "(II)I"⟩ : MethodName) (head1 (Jvm.Cond.code (⟨"java/lang/Math", "min", "(II)I"⟩ : MethodName) jdk_29_method_69_code 2 (some .int) :: ws) ({ frames := 0, cells := 0, slots := 0, locals := 0 } : Room)) (fun a U => a = #[(.int (16384 : Int32)), (.int (17 : Int32))] ∧ Z.Warmed39 U.vm ∧ U.heap = h0) (fun _ _ _ _ _ => True) (fun _ U o U' => ∃ v L, o = .returned v ∧ Q1 Z  h0 n0 v U'.heap L ∧ FrameEnd U o U' L ({ frames := 0, cells := 0, slots := 0, locals := 0 } : Room).cells ({ frames := 0, cells := 0, slots := 0, locals := 0 } : Room).slots) := by
  refine MetFree.of_bodySF (Jvm.Free.JP.mathPlain rfl (by decide +kernel)) hisR ?_
  intro p e s m args below meth c s₁ Bd hml0 hP hK
  obtain ⟨rfl, hZ, hh⟩ := hP
  have hx := Bd.exec
  have hby := Bd.bytes
  have hml : c.maxLocals = 2 := hml0
  have hown : s.vm.findClass "java/lang/Math" = some m.cls := findClass_of_methodNamed Bd.named
  have hnm := (name_of_methodNamed Bd.named Bd.method).1
  have X0 : Stand p l e ({ frames := 0, cells := 0, slots := 0, locals := 0 } : Room) s m #[(.int (16384 : Int32)), (.int (17 : Int32))] below meth c s₁ [] 0 0 := Stand.of_body Bd
  have e0 : s₁.heap = h0 := by rw [← hh, Bd.state]; rfl
  have N0 := Fr.nil n0
  refine own_out ?_
  refine own_via (fun t k => castTop (ef_1 m (16384 : Int32) (17 : Int32)) (XS.iloadN X0.here hx rfl (hb hby d3_0) rfl (XS.iloadN X0.here hx rfl (hb hby d3_1) rfl (XS.icmpYes X0.here hx rfl (pc0 := 2) (pc' := 9) rfl (hb hby d3_2) rfl (tlt (by decide : (17 : Int32) < (16384 : Int32))).2.2.1 (by decide) (by decide) (XS.iloadN X0.here hx rfl (hb hby d3_9) rfl k))))) ?_
  show own_Goes p e below (s₁.setTop (mkF m 10 #[iv (16384 : Int32), iv (17 : Int32)] [(.int (17 : Int32))])) _
  obtain ⟨fs, hr, hrun, hended, hW, hsame⟩ := X0.leave (v := some (.int (17 : Int32))) (fun h => by rw [Bd.returns] at h; cases h)
  refine own_end (t := s₁.setFrames fs) ?_ ⟨_, hrun, hended, _, _, rfl, ?_, ⟨_, rfl⟩, hW, hsame.mono (by decide) (by decide)⟩
  · exact retI X0 hx Bd.returns (hb hby d3_10) hr
  · show Q1 Z  h0 n0 _ s₁.heap _
    rw [e0]
    exact ⟨rfl, N0, rfl⟩
theorem pd_1 : parseMethodDescriptor "(II)I" = some ⟨[.int, .int], some .int⟩ := by decide +kernel
theorem d1_41 : decode prog_17_method_1_code 41 = .ok (.newarray .int, 2) := by decide +kernel
theorem d1_43 : decode prog_17_method_1_code 43 = .ok (.putfield 31, 3) := by decide +kernel
theorem d1_46 : decode prog_17_method_1_code 46 = .ok (.aload_n 0, 1) := by decide +kernel
theorem d1_47 : decode prog_17_method_1_code 47 = .ok (.getfield 17, 3) := by decide +kernel
theorem d1_50 : decode prog_17_method_1_code 50 = .ok (.iconst 0, 1) := by decide +kernel
theorem d1_51 : decode prog_17_method_1_code 51 = .ok (.aload_n 0, 1) := by decide +kernel
theorem d1_52 : decode prog_17_method_1_code 52 = .ok (.getfield 31, 3) := by decide +kernel
theorem d1_55 : decode prog_17_method_1_code 55 = .ok (.aastore, 1) := by decide +kernel
theorem d1_56 : decode prog_17_method_1_code 56 = .ok (.return_, 1) := by decide +kernel
theorem ef_2 (m : MethodId) (x0 : Addr) (x1 : Addr) : entryFrame m #[(.ref x0), (.ref x1)] 2 = mkF m 0 #[rv x0, rv x1] [] := by first | (simp [entryFrame, mkF, argsToLocals, Value.category]; done) | rfl
theorem pn_1 : plainName "com/example/kempt_envelope/kemptenvelope/JsonTape" = true := by first | (simp [plainName, overriddenIn]; done) | decide +kernel
def Q2 (Z : State) (a79 : Addr) (a80 : Addr) (h0 : Heap) (n0 : Nat) (v : Option Value) (h : Heap) (L : List Loc) : Prop := v = none ∧ Fr n0 L ∧ Keep h0 h [a79] ∧ Exa Z h a79 zs1 ∧ Fld Z h a79 zs1 "text" "[B" (.ref a80)
set_option maxRecDepth 65536 in
set_option maxHeartbeats 40000000 in
theorem rm2 (l : Launch) (Z : State) (a0 : Array Value) (hw : ∀ d ∈ tables_1, d.before a0 Z = true) (ws : List Jvm.Cond) (a79 : Addr) (a80 : Addr) (h0 : Heap) (n0 : Nat) (O0 : Old Z n0 h0) (pF_a79_kept : Fld Z h0 a79 zs1 "kept" zs3 .null) (pE_a79 : Exa Z h0 a79 zs1) (pG_a79 : n0 ≤ a79) (pF_a79_chunks : Fld Z h0 a79 zs1 "chunks" "[[I" .null) (pF_a79_text : Fld Z h0 a79 zs1 "text" "[B" .null) (pL_a80 : own_Len Z h0 a80 .byte (12 : Int32)) (pN_a80_a79 : a80 ≠ a79) (pF_a79_first : Fld Z h0 a79 zs1 "first" "[I" .null) :
    MetFree l (⟨zs1, "<init>", "([B)V"⟩ : MethodName) (head1 (Jvm.Cond.code (⟨zs1, "<init>", "([B)V"⟩ : MethodName) prog_17_method_1_code 2 none :: ws) ({ frames := 1, cells := 3, slots := 82, locals := 14 } : Room)) (fun a U => a = #[(.ref a79), (.ref a80)] ∧ Z.Warmed39 U.vm ∧ U.heap = h0) (fun _ _ _ _ _ => True) (fun _ U o U' => ∃ v L, o = .returned v ∧ Q2 Z a79 a80 h0 n0 v U'.heap L ∧ FrameEnd U o U' L ({ frames := 1, cells := 3, slots := 82, locals := 14 } : Room).cells ({ frames := 1, cells := 3, slots := 82, locals := 14 } : Room).slots) := by
  refine MetFree.of_bodySF (plainFor_of_name pn_1) hisR ?_
  intro p e s m args below meth c s₁ Bd hml0 hP hK
  obtain ⟨rfl, hZ, hh⟩ := hP
  have hx := Bd.exec
  have hby := Bd.bytes
  have hml : c.maxLocals = 2 := hml0
  have hown : s.vm.findClass zs1 = some m.cls := findClass_of_methodNamed Bd.named
  have hnm := (name_of_methodNamed Bd.named Bd.method).1
  have X0 : Stand p l e ({ frames := 1, cells := 3, slots := 82, locals := 14 } : Room) s m #[(.ref a79), (.ref a80)] below meth c s₁ [] 0 0 := Stand.of_body Bd
  have e0 : s₁.heap = h0 := by rw [← hh, Bd.state]; rfl
  have N0 := Fr.nil n0
  refine own_out ?_
  refine own_via (fun t k => castTop (ef_2 m a79 a80) (XS.aloadN X0.here hx rfl (hb hby d1_0) rfl rfl k)) ?_
  obtain ⟨T128, X128, e128, st128⟩ := initO X0 hx hZ hown (wd hw 7 rfl) (wd hw 8 rfl) (wd hw 9 rfl) e0 (g := (mkF m 1 #[rv a79, rv a80] [(.ref a79)])) rfl (by rw [hml]; rfl) rfl (hb hby d1_1) (by decide) (W := 0) (by show 2 * 0 + _ ≤ _; exact Nat.le_of_eq rfl) (by decide)
  refine own_via (fun t k => st128 t (XS.aloadN X128.here hx rfl (hb hby d1_4) rfl rfl (XS.bipush X128.here hx rfl (hb hby d1_5) k))) ?_
  show own_Goes p e below (T128.setTop (mkF m 7 #[rv a79, rv a80] [(.int (64 : Int32)), (.ref a79)])) _
  obtain ⟨T129, h129, k129, X129, e129, E129, A129, O129, st129⟩ := newR X128 hx hZ hown (wd hw 10 rfl) (wd hw 11 rfl) e128 (g := (mkF m 7 #[rv a79, rv a80] [(.int (64 : Int32)), (.ref a79)])) rfl (hb hby d1_7) rfl (by decide) (cap := 64) (by decide) (by decide) (by decide) (by decide)
  obtain ⟨b130, q129⟩ : ∃ z, z = h0.size := ⟨_, rfl⟩
  rw [← q129] at A129 st129
  refine own_via (fun t k => st129 t k) ?_
  have g131 : n0 ≤ b130 := Nat.le_trans (own_old O0) (Nat.le_of_eq q129.symm)
  have B132 : h0.size ≤ b130 := Nat.le_trans (Nat.le_refl _) (Nat.le_of_eq q129.symm)
  have V133 : Arv Z h129 b130 k129 (.object zs2) (64 : Int32) [] .null := Arv.new A129 (by decide)
  show own_Goes p e below (T129.setTop (mkF m 10 #[rv a79, rv a80] [(.ref b130), (.ref a79)])) _
  have F134 : Fld Z h129 a79 zs1 "kept" zs3 .null := (pF_a79_kept.ext E129)
  have E135 : Exa Z h129 a79 zs1 := (pE_a79.ext E129)
  obtain ⟨T136, h136, X136, e136, W136, st136⟩ := putF X129 hx hZ hown (host := "") (Or.inl (wd hw 12 rfl)) Via.refl e129 F134 E135 (Or.inr ⟨(wd hw 13 rfl), rfl, hnm⟩) (wd hw 2 rfl) (ty := (.array (.object zs2))) (by decide) rfl rfl (g := (mkF m 10 #[rv a79, rv a80] [(.ref b130), (.ref a79)])) rfl rfl (hb hby d1_10)
  refine own_via (fun t k => st136 t k) ?_
  have Fw136 : Fld Z h136 a79 zs1 "kept" zs3 (.ref b130) := F134.same W136
  have N136 := Fr.snoc X136 N0 pG_a79
  show own_Goes p e below (T136.setTop (mkF m 13 #[rv a79, rv a80] [])) _
  refine own_via (fun t k => XS.aloadN X136.here hx rfl (hb hby d1_13) rfl rfl (XS.iconst X136.here hx rfl (hb hby d1_14) k)) ?_
  obtain ⟨T137, h137, k137, X137, e137, E137, A137, -, O137, st137⟩ := newRA X136 hx hZ hown (C := "[I") (ty := .int) (by decide) (wd hw 14 rfl) (wd hw 15 rfl) e136 (g := (mkF m 15 #[rv a79, rv a80] [(.int (1 : Int32)), (.ref a79)])) rfl (hb hby d1_15) rfl (by decide) (cap := 1) (by decide) (by decide) (by decide) (by decide) (ad := "[[I") (by decide)
  obtain ⟨b138, q137⟩ : ∃ z, z = h136.size := ⟨_, rfl⟩
  rw [← q137] at A137 st137
  refine own_via (fun t k => st137 t k) ?_
  have V140 : Arv Z h136 b130 k129 (.object zs2) (64 : Int32) [] .null := (V133.other W136 (Ne.symm (Nat.ne_of_lt (Nat.lt_of_lt_of_le pE_a79.lt B132))))
  have N139 : b130 ≠ b138 := Nat.ne_of_lt (Nat.lt_of_lt_of_le V140.lt (Nat.le_of_eq q137.symm))
  have O142 : Old Z n0 h136 := ((O0.ext E129).wr W136 pG_a79)
  have g141 : n0 ≤ b138 := Nat.le_trans (own_old O142) (Nat.le_of_eq q137.symm)
  have Z144 : h0.size ≤ h136.size := (Nat.le_trans (Nat.le_trans (Nat.le_refl _) E129.1) (Nat.le_of_eq W136.size.symm))
  have B143 : h0.size ≤ b138 := Nat.le_trans Z144 (Nat.le_of_eq q137.symm)
  have V145 : Arv Z h137 b138 k137 (.array .int) (1 : Int32) [] .null := Arv.new A137 (by decide)
  show own_Goes p e below (T137.setTop (mkF m 18 #[rv a79, rv a80] [(.ref b138), (.ref a79)])) _
  have F146 : Fld Z h137 a79 zs1 "chunks" "[[I" .null := (((pF_a79_chunks.ext E129).other W136 (Or.inr (slot_ne (Or.inl (wd hw 17 rfl)) (Or.inr (wd hw 13 rfl)) (by decide) (t := (.array (.array .int))) (t' := (.array (.object zs2))) (by decide) (by decide)))).ext E137)
  have E147 : Exa Z h137 a79 zs1 := ((E135.wr W136).ext E137)
  obtain ⟨T148, h148, X148, e148, W148, st148⟩ := putF X137 hx hZ hown (host := "") (Or.inl (wd hw 16 rfl)) Via.refl e137 F146 E147 (Or.inl (wd hw 17 rfl)) (wd hw 2 rfl) (ty := (.array (.array .int))) (by decide) rfl rfl (g := (mkF m 18 #[rv a79, rv a80] [(.ref b138), (.ref a79)])) rfl rfl (hb hby d1_18)
  refine own_via (fun t k => st148 t k) ?_
  have Fw148 : Fld Z h148 a79 zs1 "chunks" "[[I" (.ref b138) := F146.same W148
  have N148 := Fr.snoc X148 N136 pG_a79
  show own_Goes p e below (T148.setTop (mkF m 21 #[rv a79, rv a80] [])) _
  refine own_via (fun t k => XS.aloadN X148.here hx rfl (hb hby d1_21) rfl rfl (XS.aloadN X148.here hx rfl (hb hby d1_22) rfl rfl k)) ?_
  have F149 : Fld Z h148 a79 zs1 "text" "[B" .null := ((((pF_a79_text.ext E129).other W136 (Or.inr (slot_ne (Or.inr (wd hw 19 rfl)) (Or.inr (wd hw 13 rfl)) (by decide) (t := (.array .byte)) (t' := (.array (.object zs2))) (by decide) (by decide)))).ext E137).other W148 (Or.inr (slot_ne (Or.inr (wd hw 19 rfl)) (Or.inl (wd hw 17 rfl)) (by decide) (t := (.array .byte)) (t' := (.array (.array .int))) (by decide) (by decide))))
  have E150 : Exa Z h148 a79 zs1 := (E147.wr W148)
  obtain ⟨T151, h151, X151, e151, W151, st151⟩ := putF X148 hx hZ hown (host := "") (Or.inl (wd hw 18 rfl)) Via.refl e148 F149 E150 (Or.inr ⟨(wd hw 19 rfl), rfl, hnm⟩) (wd hw 2 rfl) (ty := (.array .byte)) (by decide) rfl rfl (g := (mkF m 23 #[rv a79, rv a80] [(.ref a80), (.ref a79)])) rfl rfl (hb hby d1_23)
  refine own_via (fun t k => st151 t k) ?_
  have Fw151 : Fld Z h151 a79 zs1 "text" "[B" (.ref a80) := F149.same W151
  have N151 := Fr.snoc X151 N148 pG_a79
  show own_Goes p e below (T151.setTop (mkF m 26 #[rv a79, rv a80] [])) _
  refine own_via (fun t k => XS.aloadN X151.here hx rfl (hb hby d1_26) rfl rfl (XS.sipush X151.here hx rfl (hb hby d1_27) (XS.aloadN X151.here hx rfl (hb hby d1_30) rfl rfl k))) ?_
  show own_Goes p e below (T151.setTop (mkF m 31 #[rv a79, rv a80] [(.ref a80), (.int (16384 : Int32)), (.ref a79)])) _
  have L152 : own_Len Z h151 a80 .byte (12 : Int32) := (own_len_other (own_len_other (own_len_ext (own_len_other (own_len_ext pL_a80 E129) W136 pN_a80_a79) E137) W148 pN_a80_a79) W151 pN_a80_a79)
  obtain ⟨_, _, _, V153⟩ := id (L152)
  obtain ⟨cl153, Ar153, -, S153, M153, -, -⟩ := id (V153)
  refine own_via (fun t k => X151.arraylength hx (by rw [e151]; exact Ar153.1) (State.isArrayOf_alike hZ.alike Ar153.2.1) (g := (mkF m 31 #[rv a79, rv a80] [(.ref a80), (.int (16384 : Int32)), (.ref a79)])) rfl rfl (hb hby d1_31) t k) ?_
  rw [len_of S153 M153]
  show own_Goes p e below (T151.setTop (mkF m 32 #[rv a79, rv a80] [(.int (12 : Int32)), (.int (16384 : Int32)), (.ref a79)])) _
  refine own_via (fun t k => XS.bipush X151.here hx rfl (hb hby d1_32) (XS.idiv X151.here hx rfl (hb hby d1_34) rfl (by decide) (XS.bipush X151.here hx rfl (hb hby d1_35) (XS.iadd X151.here hx rfl (hb hby d1_37) rfl k)))) ?_
  show own_Goes p e below (T151.setTop (mkF m 38 #[rv a79, rv a80] [(.int (17 : Int32)), (.int (16384 : Int32)), (.ref a79)])) _
  have O208 : Old Z n0 h151 := (((O142.ext E137).wr W148 pG_a79).wr W151 pG_a79)
  obtain ⟨_, T154, _, X154, hQ154, st154⟩ := own_cs X151 hx hZ hown (wd hw 20 rfl) (wd hw 21 rfl) (wd hw 23 rfl) (wd hw 22 rfl) (by decide) (rm1 l Z a0 hw []  h151 n0 O208 ) e151 (g := (mkF m 38 #[rv a79, rv a80] [(.int (17 : Int32)), (.int (16384 : Int32)), (.ref a79)])) rfl (by rw [hml]; rfl) (rest := [(.ref a79)]) (W := 1) (lenOf pd_1 rfl) rfl (by show 2 * 0 + _ ≤ _; exact Nat.le_of_eq rfl) (hb hby d1_38) (by decide) (by decide) (by decide) (by decide)
  obtain ⟨rfl, Nq154, hh209⟩ := hQ154
  have N154 := Fr.app N151 Nq154
  refine own_via (fun t k => st154 t k) ?_
  obtain ⟨T210, h210, k210, X210, e210, E210, A210, a210x, st210⟩ := newPE X154 hx hZ (wd hw 24 rfl) hh209 (g := (mkF m 41 #[rv a79, rv a80] [(.int (17 : Int32)), (.ref a79)])) rfl (hb hby d1_41) rfl (by decide) (cap := 17) (by decide) (by decide) (by decide) (by decide) (ad := "[I") (by decide)
  obtain ⟨b211, q210⟩ : ∃ z, z = h151.size := ⟨_, rfl⟩
  rw [← q210] at A210 st210 a210x
  refine own_via (fun t k => st210 t k) ?_
  have V213 : Arv Z h151 b130 k129 (.object zs2) (64 : Int32) [] .null := (((V140.ext E137).other W148 (Ne.symm (Nat.ne_of_lt (Nat.lt_of_lt_of_le pE_a79.lt B132)))).other W151 (Ne.symm (Nat.ne_of_lt (Nat.lt_of_lt_of_le pE_a79.lt B132))))
  have N212 : b130 ≠ b211 := Nat.ne_of_lt (Nat.lt_of_lt_of_le V213.lt (Nat.le_of_eq q210.symm))
  have V215 : Arv Z h151 b138 k137 (.array .int) (1 : Int32) [] .null := ((V145.other W148 (Ne.symm (Nat.ne_of_lt (Nat.lt_of_lt_of_le pE_a79.lt B143)))).other W151 (Ne.symm (Nat.ne_of_lt (Nat.lt_of_lt_of_le pE_a79.lt B143))))
  have N214 : b138 ≠ b211 := Nat.ne_of_lt (Nat.lt_of_lt_of_le V215.lt (Nat.le_of_eq q210.symm))
  have g216 : n0 ≤ b211 := Nat.le_trans (own_old O208) (Nat.le_of_eq q210.symm)
  have Z218 : h0.size ≤ h151.size := (Nat.le_trans (Nat.le_trans (Nat.le_trans Z144 E137.1) (Nat.le_of_eq W148.size.symm)) (Nat.le_of_eq W151.size.symm))
  have B217 : h0.size ≤ b211 := Nat.le_trans Z218 (Nat.le_of_eq q210.symm)
  have V219 : Arv Z h210 b211 k210 .int (17 : Int32) [] (.int (0 : Int32)) := Arv.new A210 (by decide)
  show own_Goes p e below (T210.setTop (mkF m 43 #[rv a79, rv a80] [(.ref b211), (.ref a79)])) _
  have F220 : Fld Z h210 a79 zs1 "first" "[I" .null := ((((((pF_a79_first.ext E129).other W136 (Or.inr (slot_ne (Or.inl (wd hw 26 rfl)) (Or.inr (wd hw 13 rfl)) (by decide) (t := (.array .int)) (t' := (.array (.object zs2))) (by decide) (by decide)))).ext E137).other W148 (Or.inr (slot_ne (Or.inl (wd hw 26 rfl)) (Or.inl (wd hw 17 rfl)) (by decide) (t := (.array .int)) (t' := (.array (.array .int))) (by decide) (by decide)))).other W151 (Or.inr (slot_ne (Or.inl (wd hw 26 rfl)) (Or.inr (wd hw 19 rfl)) (by decide) (t := (.array .int)) (t' := (.array .byte)) (by decide) (by decide)))).ext E210)
  have E221 : Exa Z h210 a79 zs1 := ((E150.wr W151).ext E210)
  obtain ⟨T222, h222, X222, e222, W222, st222⟩ := putF X210 hx hZ hown (host := "") (Or.inl (wd hw 25 rfl)) Via.refl e210 F220 E221 (Or.inl (wd hw 26 rfl)) (wd hw 2 rfl) (ty := (.array .int)) (by decide) rfl rfl (g := (mkF m 43 #[rv a79, rv a80] [(.ref b211), (.ref a79)])) rfl rfl (hb hby d1_43)
  refine own_via (fun t k => st222 t k) ?_
  have Fw222 : Fld Z h222 a79 zs1 "first" "[I" (.ref b211) := F220.same W222
  have N222 := Fr.snoc X222 N154 pG_a79
  show own_Goes p e below (T222.setTop (mkF m 46 #[rv a79, rv a80] [])) _
  refine own_via (fun t k => XS.aloadN X222.here hx rfl (hb hby d1_46) rfl rfl k) ?_
  have F223 : Fld Z h222 a79 zs1 "chunks" "[[I" (.ref b138) := (((Fw148.other W151 (Or.inr (slot_ne (Or.inl (wd hw 17 rfl)) (Or.inr (wd hw 19 rfl)) (by decide) (t := (.array (.array .int))) (t' := (.array .byte)) (by decide) (by decide)))).ext E210).other W222 (Or.inr (slot_ne (Or.inl (wd hw 17 rfl)) (Or.inl (wd hw 26 rfl)) (by decide) (t := (.array (.array .int))) (t' := (.array .int)) (by decide) (by decide))))
  obtain ⟨T224, X224, e224, st224⟩ := getF X222 hx hZ hown (host := "") (Or.inl (wd hw 16 rfl)) Via.refl e222 F223 (g := (mkF m 47 #[rv a79, rv a80] [(.ref a79)])) rfl rfl (hb hby d1_47)
  refine own_via (fun t k => st224 t (XS.iconst X224.here hx rfl (hb hby d1_50) (XS.aloadN X224.here hx rfl (hb hby d1_51) rfl rfl k))) ?_
  show own_Goes p e below (T224.setTop (mkF m 52 #[rv a79, rv a80] [(.ref a79), (.int (0 : Int32)), (.ref b138)])) _
  obtain ⟨T225, X225, e225, st225⟩ := getF X224 hx hZ hown (host := "") (Or.inl (wd hw 25 rfl)) Via.refl e224 Fw222 (g := (mkF m 52 #[rv a79, rv a80] [(.ref a79), (.int (0 : Int32)), (.ref b138)])) rfl rfl (hb hby d1_52)
  refine own_via (fun t k => st225 t k) ?_
  have V226 : Arv Z h222 b138 k137 (.array .int) (1 : Int32) [] .null := ((V215.ext E210).other W222 (Ne.symm (Nat.ne_of_lt (Nat.lt_of_lt_of_le pE_a79.lt B143))))
  have V227 : Arv Z h222 b138 k137 (.array .int) (1 : Int32) [.null] .null := V226.pad (pad_rep [] .null 1)
  obtain ⟨cl228, Ar228, qq228, S228, M228, H228, G228⟩ := id (V227)
  have hin228 : ¬ ((0 : Int32) < 0 ∨ cl228.slots.size ≤ ((0 : Int32)).toNatClampNeg) := inb_of S228 ⟨by decide, by decide⟩
  have E229 : Exa Z h222 b211 "[I" := (a210x.wr W222)
  obtain ⟨T228, h228, X228, e228, W228, st228⟩ := stR X225 hx hZ e225 Ar228 (j := (0 : Int32)) hin228 rfl (Sto.ofVA Ar228 qq228 O137 (Ins.self E229)) (g := (mkF m 55 #[rv a79, rv a80] [(.ref b211), (.int (0 : Int32)), (.ref b138)])) rfl rfl (hb hby d1_55)
  refine own_via (fun t k => st228 t k) ?_
  have V230 : Arv Z h228 b138 k137 (.array .int) (1 : Int32) [(.ref b211)] .null := Arv.set Ar228 qq228 S228 M228 H228 G228 rfl W228 0 rfl (Nat.le_of_ble_eq_true rfl)
  have N228 := Fr.snoc X228 N222 g141
  show own_Goes p e below (T228.setTop (mkF m 56 #[rv a79, rv a80] [])) _
  obtain ⟨fs, hr, hrun, hended, hW, hsame⟩ := X228.leave (v := none) (fun _ => rfl)
  refine own_end (t := T228.setFrames fs) ?_ ⟨_, hrun, hended, _, _, rfl, ?_, ⟨_, rfl⟩, hW, hsame.mono (by decide) (by decide)⟩
  · exact X228.returnOut hx Bd.returns (hb hby d1_56) hr
  have E231 : Exa Z h228 a79 zs1 := ((E221.wr W222).wr W228)
  have F232 : Fld Z h228 a79 zs1 "text" "[B" (.ref a80) := (((Fw151.ext E210).other W222 (Or.inr (slot_ne (Or.inr (wd hw 19 rfl)) (Or.inl (wd hw 26 rfl)) (by decide) (t := (.array .byte)) (t' := (.array .int)) (by decide) (by decide)))).other W228 (Or.inl (Nat.ne_of_lt (Nat.lt_of_lt_of_le pE_a79.lt B143))))
  · show Q2 Z a79 a80 h0 n0 _ T228.heap _
    rw [e228]
    exact ⟨rfl, N228, (((((((((Keep.refl h0 [a79]).ext E129).wr W136 (Or.inl (List.mem_of_getElem? (i := 0) rfl))).ext E137).wr W148 (Or.inl (List.mem_of_getElem? (i := 0) rfl))).wr W151 (Or.inl (List.mem_of_getElem? (i := 0) rfl))).ext E210).wr W222 (Or.inl (List.mem_of_getElem? (i := 0) rfl))).wr W228 (Or.inr B143)), E231, F232⟩
theorem pd_2 : parseMethodDescriptor "([B)V" = some ⟨[(.array .byte)], none⟩ := by decide +kernel
theorem d4_0 : decode prog_17_method_22_code 0 = .ok (.aload_n 0, 1) := by decide +kernel
theorem d4_1 : decode prog_17_method_22_code 1 = .ok (.getfield 21, 3) := by decide +kernel
theorem d4_4 : decode prog_17_method_22_code 4 = .ok (.iload_n 1, 1) := by decide +kernel
theorem d4_5 : decode prog_17_method_22_code 5 = .ok (.baload, 1) := by decide +kernel
theorem d4_6 : decode prog_17_method_22_code 6 = .ok (.bipush 116, 2) := by decide +kernel
theorem d4_8 : decode prog_17_method_22_code 8 = .ok (.if_icmp .ne 7, 3) := by decide +kernel
theorem d4_15 : decode prog_17_method_22_code 15 = .ok (.iconst 0, 1) := by decide +kernel
theorem d4_16 : decode prog_17_method_22_code 16 = .ok (.ireturn, 1) := by decide +kernel
theorem ef_3 (m : MethodId) (x0 : Addr) (x1 : Int32) : entryFrame m #[(.ref x0), (.int x1)] 2 = mkF m 0 #[rv x0, iv x1] [] := by first | (simp [entryFrame, mkF, argsToLocals, Value.category]; done) | rfl
def Q3 (Z : State) (a239 : Addr) (a240 : Addr) (k252 : ClassId) (p241 : Int32) (p242 : Int32) (p243 : Int32) (p244 : Int32) (p245 : Int32) (p246 : Int32) (p247 : Int32) (p248 : Int32) (p249 : Int32) (p250 : Int32) (p251 : Int32) (h0 : Heap) (n0 : Nat) (v : Option Value) (h : Heap) (L : List Loc) : Prop := v = some (.int (0 : Int32)) ∧ Fr n0 L ∧ h = h0
set_option maxRecDepth 65536 in
set_option maxHeartbeats 40000000 in
theorem rm3 (l : Launch) (Z : State) (a0 : Array Value) (hw : ∀ d ∈ tables_1, d.before a0 Z = true) (ws : List Jvm.Cond) (a239 : Addr) (a240 : Addr) (k252 : ClassId) (p241 : Int32) (p242 : Int32) (p243 : Int32) (p244 : Int32) (p245 : Int32) (p246 : Int32) (p247 : Int32) (p248 : Int32) (p249 : Int32) (p250 : Int32) (p251 : Int32) (h0 : Heap) (n0 : Nat) (O0 : Old Z n0 h0) (pF_a239_text : Fld Z h0 a239 zs1 "text" "[B" (.ref a240)) (pV_a240 : Arv Z h0 a240 k252 .byte (12 : Int32) [(.int (102 : Int32)), (.int p241), (.int p242), (.int p243), (.int p244), (.int p245), (.int p246), (.int p247), (.int p248), (.int p249), (.int p250), (.int p251)] (.int (0 : Int32))) :
    MetFree l (⟨zs1, "bool", "(I)Z"⟩ : MethodName) (head1 (Jvm.Cond.code (⟨zs1, "bool", "(I)Z"⟩ : MethodName) prog_17_method_22_code 2 (some .boolean) :: ws) ({ frames := 0, cells := 0, slots := 0, locals := 0 } : Room)) (fun a U => a = #[(.ref a239), (.int (0 : Int32))] ∧ Z.Warmed39 U.vm ∧ U.heap = h0) (fun _ _ _ _ _ => True) (fun _ U o U' => ∃ v L, o = .returned v ∧ Q3 Z a239 a240 k252 p241 p242 p243 p244 p245 p246 p247 p248 p249 p250 p251 h0 n0 v U'.heap L ∧ FrameEnd U o U' L ({ frames := 0, cells := 0, slots := 0, locals := 0 } : Room).cells ({ frames := 0, cells := 0, slots := 0, locals := 0 } : Room).slots) := by
  refine MetFree.of_bodySF (plainFor_of_name pn_1) hisR ?_
  intro p e s m args below meth c s₁ Bd hml0 hP hK
  obtain ⟨rfl, hZ, hh⟩ := hP
  have hx := Bd.exec
  have hby := Bd.bytes
  have hml : c.maxLocals = 2 := hml0
  have hown : s.vm.findClass zs1 = some m.cls := findClass_of_methodNamed Bd.named
  have hnm := (name_of_methodNamed Bd.named Bd.method).1
  have X0 : Stand p l e ({ frames := 0, cells := 0, slots := 0, locals := 0 } : Room) s m #[(.ref a239), (.int (0 : Int32))] below meth c s₁ [] 0 0 := Stand.of_body Bd
  have e0 : s₁.heap = h0 := by rw [← hh, Bd.state]; rfl
  have N0 := Fr.nil n0
  refine own_out ?_
  refine own_via (fun t k => castTop (ef_3 m a239 (0 : Int32)) (XS.aloadN X0.here hx rfl (hb hby d4_0) rfl rfl k)) ?_
  obtain ⟨T287, X287, e287, st287⟩ := getF X0 hx hZ hown (host := "") (Or.inl (wd hw 18 rfl)) Via.refl e0 pF_a239_text (g := (mkF m 1 #[rv a239, iv (0 : Int32)] [(.ref a239)])) rfl rfl (hb hby d4_1)
  refine own_via (fun t k => st287 t (XS.iloadN X287.here hx rfl (hb hby d4_4) rfl k)) ?_
  obtain ⟨cl288, Ar288, qq288, S288, M288, H288, G288⟩ := id (pV_a240)
  have hin288 : ¬ ((0 : Int32) < 0 ∨ cl288.slots.size ≤ ((0 : Int32)).toNatClampNeg) := inb_of S288 ⟨by decide, by decide⟩
  refine own_via (fun t k => X287.baloadBytes hx (j := (0 : Int32)) (v := (.int (102 : Int32))) (by rw [e287]; exact Ar288.1) (State.isArrayOf_alike hZ.alike Ar288.2.1) Ar288.2.2 hin288 (Has.at H288 hin288 rfl) (g := (mkF m 5 #[rv a239, iv (0 : Int32)] [(.int (0 : Int32)), (.ref a240)])) rfl rfl (hb hby d4_5) t (XS.bipush X287.here hx rfl (hb hby d4_6) (XS.icmpYes X287.here hx rfl (pc0 := 8) (pc' := 15) rfl (hb hby d4_8) rfl (feq (by decide : ¬ ((102 : Int32) = (116 : Int32)))).2 (by decide) (by decide) (XS.iconst X287.here hx rfl (hb hby d4_15) k)))) ?_
  show own_Goes p e below (T287.setTop (mkF m 16 #[rv a239, iv (0 : Int32)] [(.int (0 : Int32))])) _
  obtain ⟨fs, hr, hrun, hended, hW, hsame⟩ := X287.leave (v := some (.int (0 : Int32))) (fun h => by rw [Bd.returns] at h; cases h)
  refine own_end (t := T287.setFrames fs) ?_ ⟨_, hrun, hended, _, _, rfl, ?_, ⟨_, rfl⟩, hW, hsame.mono (by decide) (by decide)⟩
  · exact retN X287 hx (t := .boolean) Bd.returns (by simp) (hb hby d4_16) hr
  · show Q3 Z a239 a240 k252 p241 p242 p243 p244 p245 p246 p247 p248 p249 p250 p251 h0 n0 _ T287.heap _
    rw [e287]
    exact ⟨rfl, N0, rfl⟩
theorem pd_3 : parseMethodDescriptor "(I)Z" = some ⟨[.int], some .boolean⟩ := by decide +kernel
def Q4 (Z : State) (a322 : Addr) (a323 : Addr) (k335 : ClassId) (p324 : Int32) (p325 : Int32) (p326 : Int32) (p327 : Int32) (p328 : Int32) (p329 : Int32) (p330 : Int32) (p331 : Int32) (p332 : Int32) (p333 : Int32) (p334 : Int32) (h0 : Heap) (n0 : Nat) (v : Option Value) (h : Heap) (L : List Loc) : Prop := v = some (.int (0 : Int32)) ∧ Fr n0 L ∧ h = h0
set_option maxRecDepth 65536 in
set_option maxHeartbeats 40000000 in
theorem rm4 (l : Launch) (Z : State) (a0 : Array Value) (hw : ∀ d ∈ tables_1, d.before a0 Z = true) (ws : List Jvm.Cond) (a322 : Addr) (a323 : Addr) (k335 : ClassId) (p324 : Int32) (p325 : Int32) (p326 : Int32) (p327 : Int32) (p328 : Int32) (p329 : Int32) (p330 : Int32) (p331 : Int32) (p332 : Int32) (p333 : Int32) (p334 : Int32) (h0 : Heap) (n0 : Nat) (O0 : Old Z n0 h0) (pF_a322_text : Fld Z h0 a322 zs1 "text" "[B" (.ref a323)) (pV_a323 : Arv Z h0 a323 k335 .byte (12 : Int32) [(.int p324), (.int (102 : Int32)), (.int p325), (.int p326), (.int p327), (.int p328), (.int p329), (.int p330), (.int p331), (.int p332), (.int p333), (.int p334)] (.int (0 : Int32))) :
    MetFree l (⟨zs1, "bool", "(I)Z"⟩ : MethodName) (head1 (Jvm.Cond.code (⟨zs1, "bool", "(I)Z"⟩ : MethodName) prog_17_method_22_code 2 (some .boolean) :: ws) ({ frames := 0, cells := 0, slots := 0, locals := 0 } : Room)) (fun a U => a = #[(.ref a322), (.int (1 : Int32))] ∧ Z.Warmed39 U.vm ∧ U.heap = h0) (fun _ _ _ _ _ => True) (fun _ U o U' => ∃ v L, o = .returned v ∧ Q4 Z a322 a323 k335 p324 p325 p326 p327 p328 p329 p330 p331 p332 p333 p334 h0 n0 v U'.heap L ∧ FrameEnd U o U' L ({ frames := 0, cells := 0, slots := 0, locals := 0 } : Room).cells ({ frames := 0, cells := 0, slots := 0, locals := 0 } : Room).slots) := by
  refine MetFree.of_bodySF (plainFor_of_name pn_1) hisR ?_
  intro p e s m args below meth c s₁ Bd hml0 hP hK
  obtain ⟨rfl, hZ, hh⟩ := hP
  have hx := Bd.exec
  have hby := Bd.bytes
  have hml : c.maxLocals = 2 := hml0
  have hown : s.vm.findClass zs1 = some m.cls := findClass_of_methodNamed Bd.named
  have hnm := (name_of_methodNamed Bd.named Bd.method).1
  have X0 : Stand p l e ({ frames := 0, cells := 0, slots := 0, locals := 0 } : Room) s m #[(.ref a322), (.int (1 : Int32))] below meth c s₁ [] 0 0 := Stand.of_body Bd
  have e0 : s₁.heap = h0 := by rw [← hh, Bd.state]; rfl
  have N0 := Fr.nil n0
  refine own_out ?_
  refine own_via (fun t k => castTop (ef_3 m a322 (1 : Int32)) (XS.aloadN X0.here hx rfl (hb hby d4_0) rfl rfl k)) ?_
  obtain ⟨T370, X370, e370, st370⟩ := getF X0 hx hZ hown (host := "") (Or.inl (wd hw 18 rfl)) Via.refl e0 pF_a322_text (g := (mkF m 1 #[rv a322, iv (1 : Int32)] [(.ref a322)])) rfl rfl (hb hby d4_1)
  refine own_via (fun t k => st370 t (XS.iloadN X370.here hx rfl (hb hby d4_4) rfl k)) ?_
  obtain ⟨cl371, Ar371, qq371, S371, M371, H371, G371⟩ := id (pV_a323)
  have hin371 : ¬ ((1 : Int32) < 0 ∨ cl371.slots.size ≤ ((1 : Int32)).toNatClampNeg) := inb_of S371 ⟨by decide, by decide⟩
  refine own_via (fun t k => X370.baloadBytes hx (j := (1 : Int32)) (v := (.int (102 : Int32))) (by rw [e370]; exact Ar371.1) (State.isArrayOf_alike hZ.alike Ar371.2.1) Ar371.2.2 hin371 (Has.at H371 hin371 rfl) (g := (mkF m 5 #[rv a322, iv (1 : Int32)] [(.int (1 : Int32)), (.ref a323)])) rfl rfl (hb hby d4_5) t (XS.bipush X370.here hx rfl (hb hby d4_6) (XS.icmpYes X370.here hx rfl (pc0 := 8) (pc' := 15) rfl (hb hby d4_8) rfl (feq (by decide : ¬ ((102 : Int32) = (116 : Int32)))).2 (by decide) (by decide) (XS.iconst X370.here hx rfl (hb hby d4_15) k)))) ?_
  show own_Goes p e below (T370.setTop (mkF m 16 #[rv a322, iv (1 : Int32)] [(.int (0 : Int32))])) _
  obtain ⟨fs, hr, hrun, hended, hW, hsame⟩ := X370.leave (v := some (.int (0 : Int32))) (fun h => by rw [Bd.returns] at h; cases h)
  refine own_end (t := T370.setFrames fs) ?_ ⟨_, hrun, hended, _, _, rfl, ?_, ⟨_, rfl⟩, hW, hsame.mono (by decide) (by decide)⟩
  · exact retN X370 hx (t := .boolean) Bd.returns (by simp) (hb hby d4_16) hr
  · show Q4 Z a322 a323 k335 p324 p325 p326 p327 p328 p329 p330 p331 p332 p333 p334 h0 n0 _ T370.heap _
    rw [e370]
    exact ⟨rfl, N0, rfl⟩
def Q5 (Z : State) (a405 : Addr) (a406 : Addr) (k418 : ClassId) (p407 : Int32) (p408 : Int32) (p409 : Int32) (p410 : Int32) (p411 : Int32) (p412 : Int32) (p413 : Int32) (p414 : Int32) (p415 : Int32) (p416 : Int32) (p417 : Int32) (h0 : Heap) (n0 : Nat) (v : Option Value) (h : Heap) (L : List Loc) : Prop := v = some (.int (0 : Int32)) ∧ Fr n0 L ∧ h = h0
set_option maxRecDepth 65536 in
set_option maxHeartbeats 40000000 in
theorem rm5 (l : Launch) (Z : State) (a0 : Array Value) (hw : ∀ d ∈ tables_1, d.before a0 Z = true) (ws : List Jvm.Cond) (a405 : Addr) (a406 : Addr) (k418 : ClassId) (p407 : Int32) (p408 : Int32) (p409 : Int32) (p410 : Int32) (p411 : Int32) (p412 : Int32) (p413 : Int32) (p414 : Int32) (p415 : Int32) (p416 : Int32) (p417 : Int32) (h0 : Heap) (n0 : Nat) (O0 : Old Z n0 h0) (pF_a405_text : Fld Z h0 a405 zs1 "text" "[B" (.ref a406)) (pV_a406 : Arv Z h0 a406 k418 .byte (12 : Int32) [(.int p407), (.int p408), (.int (102 : Int32)), (.int p409), (.int p410), (.int p411), (.int p412), (.int p413), (.int p414), (.int p415), (.int p416), (.int p417)] (.int (0 : Int32))) :
    MetFree l (⟨zs1, "bool", "(I)Z"⟩ : MethodName) (head1 (Jvm.Cond.code (⟨zs1, "bool", "(I)Z"⟩ : MethodName) prog_17_method_22_code 2 (some .boolean) :: ws) ({ frames := 0, cells := 0, slots := 0, locals := 0 } : Room)) (fun a U => a = #[(.ref a405), (.int (2 : Int32))] ∧ Z.Warmed39 U.vm ∧ U.heap = h0) (fun _ _ _ _ _ => True) (fun _ U o U' => ∃ v L, o = .returned v ∧ Q5 Z a405 a406 k418 p407 p408 p409 p410 p411 p412 p413 p414 p415 p416 p417 h0 n0 v U'.heap L ∧ FrameEnd U o U' L ({ frames := 0, cells := 0, slots := 0, locals := 0 } : Room).cells ({ frames := 0, cells := 0, slots := 0, locals := 0 } : Room).slots) := by
  refine MetFree.of_bodySF (plainFor_of_name pn_1) hisR ?_
  intro p e s m args below meth c s₁ Bd hml0 hP hK
  obtain ⟨rfl, hZ, hh⟩ := hP
  have hx := Bd.exec
  have hby := Bd.bytes
  have hml : c.maxLocals = 2 := hml0
  have hown : s.vm.findClass zs1 = some m.cls := findClass_of_methodNamed Bd.named
  have hnm := (name_of_methodNamed Bd.named Bd.method).1
  have X0 : Stand p l e ({ frames := 0, cells := 0, slots := 0, locals := 0 } : Room) s m #[(.ref a405), (.int (2 : Int32))] below meth c s₁ [] 0 0 := Stand.of_body Bd
  have e0 : s₁.heap = h0 := by rw [← hh, Bd.state]; rfl
  have N0 := Fr.nil n0
  refine own_out ?_
  refine own_via (fun t k => castTop (ef_3 m a405 (2 : Int32)) (XS.aloadN X0.here hx rfl (hb hby d4_0) rfl rfl k)) ?_
  obtain ⟨T453, X453, e453, st453⟩ := getF X0 hx hZ hown (host := "") (Or.inl (wd hw 18 rfl)) Via.refl e0 pF_a405_text (g := (mkF m 1 #[rv a405, iv (2 : Int32)] [(.ref a405)])) rfl rfl (hb hby d4_1)
  refine own_via (fun t k => st453 t (XS.iloadN X453.here hx rfl (hb hby d4_4) rfl k)) ?_
  obtain ⟨cl454, Ar454, qq454, S454, M454, H454, G454⟩ := id (pV_a406)
  have hin454 : ¬ ((2 : Int32) < 0 ∨ cl454.slots.size ≤ ((2 : Int32)).toNatClampNeg) := inb_of S454 ⟨by decide, by decide⟩
  refine own_via (fun t k => X453.baloadBytes hx (j := (2 : Int32)) (v := (.int (102 : Int32))) (by rw [e453]; exact Ar454.1) (State.isArrayOf_alike hZ.alike Ar454.2.1) Ar454.2.2 hin454 (Has.at H454 hin454 rfl) (g := (mkF m 5 #[rv a405, iv (2 : Int32)] [(.int (2 : Int32)), (.ref a406)])) rfl rfl (hb hby d4_5) t (XS.bipush X453.here hx rfl (hb hby d4_6) (XS.icmpYes X453.here hx rfl (pc0 := 8) (pc' := 15) rfl (hb hby d4_8) rfl (feq (by decide : ¬ ((102 : Int32) = (116 : Int32)))).2 (by decide) (by decide) (XS.iconst X453.here hx rfl (hb hby d4_15) k)))) ?_
  show own_Goes p e below (T453.setTop (mkF m 16 #[rv a405, iv (2 : Int32)] [(.int (0 : Int32))])) _
  obtain ⟨fs, hr, hrun, hended, hW, hsame⟩ := X453.leave (v := some (.int (0 : Int32))) (fun h => by rw [Bd.returns] at h; cases h)
  refine own_end (t := T453.setFrames fs) ?_ ⟨_, hrun, hended, _, _, rfl, ?_, ⟨_, rfl⟩, hW, hsame.mono (by decide) (by decide)⟩
  · exact retN X453 hx (t := .boolean) Bd.returns (by simp) (hb hby d4_16) hr
  · show Q5 Z a405 a406 k418 p407 p408 p409 p410 p411 p412 p413 p414 p415 p416 p417 h0 n0 _ T453.heap _
    rw [e453]
    exact ⟨rfl, N0, rfl⟩
def Q6 (Z : State) (a488 : Addr) (a489 : Addr) (k501 : ClassId) (p490 : Int32) (p491 : Int32) (p492 : Int32) (p493 : Int32) (p494 : Int32) (p495 : Int32) (p496 : Int32) (p497 : Int32) (p498 : Int32) (p499 : Int32) (p500 : Int32) (h0 : Heap) (n0 : Nat) (v : Option Value) (h : Heap) (L : List Loc) : Prop := v = some (.int (0 : Int32)) ∧ Fr n0 L ∧ h = h0
set_option maxRecDepth 65536 in
set_option maxHeartbeats 40000000 in
theorem rm6 (l : Launch) (Z : State) (a0 : Array Value) (hw : ∀ d ∈ tables_1, d.before a0 Z = true) (ws : List Jvm.Cond) (a488 : Addr) (a489 : Addr) (k501 : ClassId) (p490 : Int32) (p491 : Int32) (p492 : Int32) (p493 : Int32) (p494 : Int32) (p495 : Int32) (p496 : Int32) (p497 : Int32) (p498 : Int32) (p499 : Int32) (p500 : Int32) (h0 : Heap) (n0 : Nat) (O0 : Old Z n0 h0) (pF_a488_text : Fld Z h0 a488 zs1 "text" "[B" (.ref a489)) (pV_a489 : Arv Z h0 a489 k501 .byte (12 : Int32) [(.int p490), (.int p491), (.int p492), (.int (102 : Int32)), (.int p493), (.int p494), (.int p495), (.int p496), (.int p497), (.int p498), (.int p499), (.int p500)] (.int (0 : Int32))) :
    MetFree l (⟨zs1, "bool", "(I)Z"⟩ : MethodName) (head1 (Jvm.Cond.code (⟨zs1, "bool", "(I)Z"⟩ : MethodName) prog_17_method_22_code 2 (some .boolean) :: ws) ({ frames := 0, cells := 0, slots := 0, locals := 0 } : Room)) (fun a U => a = #[(.ref a488), (.int (3 : Int32))] ∧ Z.Warmed39 U.vm ∧ U.heap = h0) (fun _ _ _ _ _ => True) (fun _ U o U' => ∃ v L, o = .returned v ∧ Q6 Z a488 a489 k501 p490 p491 p492 p493 p494 p495 p496 p497 p498 p499 p500 h0 n0 v U'.heap L ∧ FrameEnd U o U' L ({ frames := 0, cells := 0, slots := 0, locals := 0 } : Room).cells ({ frames := 0, cells := 0, slots := 0, locals := 0 } : Room).slots) := by
  refine MetFree.of_bodySF (plainFor_of_name pn_1) hisR ?_
  intro p e s m args below meth c s₁ Bd hml0 hP hK
  obtain ⟨rfl, hZ, hh⟩ := hP
  have hx := Bd.exec
  have hby := Bd.bytes
  have hml : c.maxLocals = 2 := hml0
  have hown : s.vm.findClass zs1 = some m.cls := findClass_of_methodNamed Bd.named
  have hnm := (name_of_methodNamed Bd.named Bd.method).1
  have X0 : Stand p l e ({ frames := 0, cells := 0, slots := 0, locals := 0 } : Room) s m #[(.ref a488), (.int (3 : Int32))] below meth c s₁ [] 0 0 := Stand.of_body Bd
  have e0 : s₁.heap = h0 := by rw [← hh, Bd.state]; rfl
  have N0 := Fr.nil n0
  refine own_out ?_
  refine own_via (fun t k => castTop (ef_3 m a488 (3 : Int32)) (XS.aloadN X0.here hx rfl (hb hby d4_0) rfl rfl k)) ?_
  obtain ⟨T536, X536, e536, st536⟩ := getF X0 hx hZ hown (host := "") (Or.inl (wd hw 18 rfl)) Via.refl e0 pF_a488_text (g := (mkF m 1 #[rv a488, iv (3 : Int32)] [(.ref a488)])) rfl rfl (hb hby d4_1)
  refine own_via (fun t k => st536 t (XS.iloadN X536.here hx rfl (hb hby d4_4) rfl k)) ?_
  obtain ⟨cl537, Ar537, qq537, S537, M537, H537, G537⟩ := id (pV_a489)
  have hin537 : ¬ ((3 : Int32) < 0 ∨ cl537.slots.size ≤ ((3 : Int32)).toNatClampNeg) := inb_of S537 ⟨by decide, by decide⟩
  refine own_via (fun t k => X536.baloadBytes hx (j := (3 : Int32)) (v := (.int (102 : Int32))) (by rw [e536]; exact Ar537.1) (State.isArrayOf_alike hZ.alike Ar537.2.1) Ar537.2.2 hin537 (Has.at H537 hin537 rfl) (g := (mkF m 5 #[rv a488, iv (3 : Int32)] [(.int (3 : Int32)), (.ref a489)])) rfl rfl (hb hby d4_5) t (XS.bipush X536.here hx rfl (hb hby d4_6) (XS.icmpYes X536.here hx rfl (pc0 := 8) (pc' := 15) rfl (hb hby d4_8) rfl (feq (by decide : ¬ ((102 : Int32) = (116 : Int32)))).2 (by decide) (by decide) (XS.iconst X536.here hx rfl (hb hby d4_15) k)))) ?_
  show own_Goes p e below (T536.setTop (mkF m 16 #[rv a488, iv (3 : Int32)] [(.int (0 : Int32))])) _
  obtain ⟨fs, hr, hrun, hended, hW, hsame⟩ := X536.leave (v := some (.int (0 : Int32))) (fun h => by rw [Bd.returns] at h; cases h)
  refine own_end (t := T536.setFrames fs) ?_ ⟨_, hrun, hended, _, _, rfl, ?_, ⟨_, rfl⟩, hW, hsame.mono (by decide) (by decide)⟩
  · exact retN X536 hx (t := .boolean) Bd.returns (by simp) (hb hby d4_16) hr
  · show Q6 Z a488 a489 k501 p490 p491 p492 p493 p494 p495 p496 p497 p498 p499 p500 h0 n0 _ T536.heap _
    rw [e536]
    exact ⟨rfl, N0, rfl⟩
def Q7 (Z : State) (a571 : Addr) (a572 : Addr) (k584 : ClassId) (p573 : Int32) (p574 : Int32) (p575 : Int32) (p576 : Int32) (p577 : Int32) (p578 : Int32) (p579 : Int32) (p580 : Int32) (p581 : Int32) (p582 : Int32) (p583 : Int32) (h0 : Heap) (n0 : Nat) (v : Option Value) (h : Heap) (L : List Loc) : Prop := v = some (.int (0 : Int32)) ∧ Fr n0 L ∧ h = h0
set_option maxRecDepth 65536 in
set_option maxHeartbeats 40000000 in
theorem rm7 (l : Launch) (Z : State) (a0 : Array Value) (hw : ∀ d ∈ tables_1, d.before a0 Z = true) (ws : List Jvm.Cond) (a571 : Addr) (a572 : Addr) (k584 : ClassId) (p573 : Int32) (p574 : Int32) (p575 : Int32) (p576 : Int32) (p577 : Int32) (p578 : Int32) (p579 : Int32) (p580 : Int32) (p581 : Int32) (p582 : Int32) (p583 : Int32) (h0 : Heap) (n0 : Nat) (O0 : Old Z n0 h0) (pF_a571_text : Fld Z h0 a571 zs1 "text" "[B" (.ref a572)) (pV_a572 : Arv Z h0 a572 k584 .byte (12 : Int32) [(.int p573), (.int p574), (.int p575), (.int p576), (.int (102 : Int32)), (.int p577), (.int p578), (.int p579), (.int p580), (.int p581), (.int p582), (.int p583)] (.int (0 : Int32))) :
    MetFree l (⟨zs1, "bool", "(I)Z"⟩ : MethodName) (head1 (Jvm.Cond.code (⟨zs1, "bool", "(I)Z"⟩ : MethodName) prog_17_method_22_code 2 (some .boolean) :: ws) ({ frames := 0, cells := 0, slots := 0, locals := 0 } : Room)) (fun a U => a = #[(.ref a571), (.int (4 : Int32))] ∧ Z.Warmed39 U.vm ∧ U.heap = h0) (fun _ _ _ _ _ => True) (fun _ U o U' => ∃ v L, o = .returned v ∧ Q7 Z a571 a572 k584 p573 p574 p575 p576 p577 p578 p579 p580 p581 p582 p583 h0 n0 v U'.heap L ∧ FrameEnd U o U' L ({ frames := 0, cells := 0, slots := 0, locals := 0 } : Room).cells ({ frames := 0, cells := 0, slots := 0, locals := 0 } : Room).slots) := by
  refine MetFree.of_bodySF (plainFor_of_name pn_1) hisR ?_
  intro p e s m args below meth c s₁ Bd hml0 hP hK
  obtain ⟨rfl, hZ, hh⟩ := hP
  have hx := Bd.exec
  have hby := Bd.bytes
  have hml : c.maxLocals = 2 := hml0
  have hown : s.vm.findClass zs1 = some m.cls := findClass_of_methodNamed Bd.named
  have hnm := (name_of_methodNamed Bd.named Bd.method).1
  have X0 : Stand p l e ({ frames := 0, cells := 0, slots := 0, locals := 0 } : Room) s m #[(.ref a571), (.int (4 : Int32))] below meth c s₁ [] 0 0 := Stand.of_body Bd
  have e0 : s₁.heap = h0 := by rw [← hh, Bd.state]; rfl
  have N0 := Fr.nil n0
  refine own_out ?_
  refine own_via (fun t k => castTop (ef_3 m a571 (4 : Int32)) (XS.aloadN X0.here hx rfl (hb hby d4_0) rfl rfl k)) ?_
  obtain ⟨T619, X619, e619, st619⟩ := getF X0 hx hZ hown (host := "") (Or.inl (wd hw 18 rfl)) Via.refl e0 pF_a571_text (g := (mkF m 1 #[rv a571, iv (4 : Int32)] [(.ref a571)])) rfl rfl (hb hby d4_1)
  refine own_via (fun t k => st619 t (XS.iloadN X619.here hx rfl (hb hby d4_4) rfl k)) ?_
  obtain ⟨cl620, Ar620, qq620, S620, M620, H620, G620⟩ := id (pV_a572)
  have hin620 : ¬ ((4 : Int32) < 0 ∨ cl620.slots.size ≤ ((4 : Int32)).toNatClampNeg) := inb_of S620 ⟨by decide, by decide⟩
  refine own_via (fun t k => X619.baloadBytes hx (j := (4 : Int32)) (v := (.int (102 : Int32))) (by rw [e619]; exact Ar620.1) (State.isArrayOf_alike hZ.alike Ar620.2.1) Ar620.2.2 hin620 (Has.at H620 hin620 rfl) (g := (mkF m 5 #[rv a571, iv (4 : Int32)] [(.int (4 : Int32)), (.ref a572)])) rfl rfl (hb hby d4_5) t (XS.bipush X619.here hx rfl (hb hby d4_6) (XS.icmpYes X619.here hx rfl (pc0 := 8) (pc' := 15) rfl (hb hby d4_8) rfl (feq (by decide : ¬ ((102 : Int32) = (116 : Int32)))).2 (by decide) (by decide) (XS.iconst X619.here hx rfl (hb hby d4_15) k)))) ?_
  show own_Goes p e below (T619.setTop (mkF m 16 #[rv a571, iv (4 : Int32)] [(.int (0 : Int32))])) _
  obtain ⟨fs, hr, hrun, hended, hW, hsame⟩ := X619.leave (v := some (.int (0 : Int32))) (fun h => by rw [Bd.returns] at h; cases h)
  refine own_end (t := T619.setFrames fs) ?_ ⟨_, hrun, hended, _, _, rfl, ?_, ⟨_, rfl⟩, hW, hsame.mono (by decide) (by decide)⟩
  · exact retN X619 hx (t := .boolean) Bd.returns (by simp) (hb hby d4_16) hr
  · show Q7 Z a571 a572 k584 p573 p574 p575 p576 p577 p578 p579 p580 p581 p582 p583 h0 n0 _ T619.heap _
    rw [e619]
    exact ⟨rfl, N0, rfl⟩
def Q8 (Z : State) (a654 : Addr) (a655 : Addr) (k667 : ClassId) (p656 : Int32) (p657 : Int32) (p658 : Int32) (p659 : Int32) (p660 : Int32) (p661 : Int32) (p662 : Int32) (p663 : Int32) (p664 : Int32) (p665 : Int32) (p666 : Int32) (h0 : Heap) (n0 : Nat) (v : Option Value) (h : Heap) (L : List Loc) : Prop := v = some (.int (0 : Int32)) ∧ Fr n0 L ∧ h = h0
set_option maxRecDepth 65536 in
set_option maxHeartbeats 40000000 in
theorem rm8 (l : Launch) (Z : State) (a0 : Array Value) (hw : ∀ d ∈ tables_1, d.before a0 Z = true) (ws : List Jvm.Cond) (a654 : Addr) (a655 : Addr) (k667 : ClassId) (p656 : Int32) (p657 : Int32) (p658 : Int32) (p659 : Int32) (p660 : Int32) (p661 : Int32) (p662 : Int32) (p663 : Int32) (p664 : Int32) (p665 : Int32) (p666 : Int32) (h0 : Heap) (n0 : Nat) (O0 : Old Z n0 h0) (pF_a654_text : Fld Z h0 a654 zs1 "text" "[B" (.ref a655)) (pV_a655 : Arv Z h0 a655 k667 .byte (12 : Int32) [(.int p656), (.int p657), (.int p658), (.int p659), (.int p660), (.int (102 : Int32)), (.int p661), (.int p662), (.int p663), (.int p664), (.int p665), (.int p666)] (.int (0 : Int32))) :
    MetFree l (⟨zs1, "bool", "(I)Z"⟩ : MethodName) (head1 (Jvm.Cond.code (⟨zs1, "bool", "(I)Z"⟩ : MethodName) prog_17_method_22_code 2 (some .boolean) :: ws) ({ frames := 0, cells := 0, slots := 0, locals := 0 } : Room)) (fun a U => a = #[(.ref a654), (.int (5 : Int32))] ∧ Z.Warmed39 U.vm ∧ U.heap = h0) (fun _ _ _ _ _ => True) (fun _ U o U' => ∃ v L, o = .returned v ∧ Q8 Z a654 a655 k667 p656 p657 p658 p659 p660 p661 p662 p663 p664 p665 p666 h0 n0 v U'.heap L ∧ FrameEnd U o U' L ({ frames := 0, cells := 0, slots := 0, locals := 0 } : Room).cells ({ frames := 0, cells := 0, slots := 0, locals := 0 } : Room).slots) := by
  refine MetFree.of_bodySF (plainFor_of_name pn_1) hisR ?_
  intro p e s m args below meth c s₁ Bd hml0 hP hK
  obtain ⟨rfl, hZ, hh⟩ := hP
  have hx := Bd.exec
  have hby := Bd.bytes
  have hml : c.maxLocals = 2 := hml0
  have hown : s.vm.findClass zs1 = some m.cls := findClass_of_methodNamed Bd.named
  have hnm := (name_of_methodNamed Bd.named Bd.method).1
  have X0 : Stand p l e ({ frames := 0, cells := 0, slots := 0, locals := 0 } : Room) s m #[(.ref a654), (.int (5 : Int32))] below meth c s₁ [] 0 0 := Stand.of_body Bd
  have e0 : s₁.heap = h0 := by rw [← hh, Bd.state]; rfl
  have N0 := Fr.nil n0
  refine own_out ?_
  refine own_via (fun t k => castTop (ef_3 m a654 (5 : Int32)) (XS.aloadN X0.here hx rfl (hb hby d4_0) rfl rfl k)) ?_
  obtain ⟨T702, X702, e702, st702⟩ := getF X0 hx hZ hown (host := "") (Or.inl (wd hw 18 rfl)) Via.refl e0 pF_a654_text (g := (mkF m 1 #[rv a654, iv (5 : Int32)] [(.ref a654)])) rfl rfl (hb hby d4_1)
  refine own_via (fun t k => st702 t (XS.iloadN X702.here hx rfl (hb hby d4_4) rfl k)) ?_
  obtain ⟨cl703, Ar703, qq703, S703, M703, H703, G703⟩ := id (pV_a655)
  have hin703 : ¬ ((5 : Int32) < 0 ∨ cl703.slots.size ≤ ((5 : Int32)).toNatClampNeg) := inb_of S703 ⟨by decide, by decide⟩
  refine own_via (fun t k => X702.baloadBytes hx (j := (5 : Int32)) (v := (.int (102 : Int32))) (by rw [e702]; exact Ar703.1) (State.isArrayOf_alike hZ.alike Ar703.2.1) Ar703.2.2 hin703 (Has.at H703 hin703 rfl) (g := (mkF m 5 #[rv a654, iv (5 : Int32)] [(.int (5 : Int32)), (.ref a655)])) rfl rfl (hb hby d4_5) t (XS.bipush X702.here hx rfl (hb hby d4_6) (XS.icmpYes X702.here hx rfl (pc0 := 8) (pc' := 15) rfl (hb hby d4_8) rfl (feq (by decide : ¬ ((102 : Int32) = (116 : Int32)))).2 (by decide) (by decide) (XS.iconst X702.here hx rfl (hb hby d4_15) k)))) ?_
  show own_Goes p e below (T702.setTop (mkF m 16 #[rv a654, iv (5 : Int32)] [(.int (0 : Int32))])) _
  obtain ⟨fs, hr, hrun, hended, hW, hsame⟩ := X702.leave (v := some (.int (0 : Int32))) (fun h => by rw [Bd.returns] at h; cases h)
  refine own_end (t := T702.setFrames fs) ?_ ⟨_, hrun, hended, _, _, rfl, ?_, ⟨_, rfl⟩, hW, hsame.mono (by decide) (by decide)⟩
  · exact retN X702 hx (t := .boolean) Bd.returns (by simp) (hb hby d4_16) hr
  · show Q8 Z a654 a655 k667 p656 p657 p658 p659 p660 p661 p662 p663 p664 p665 p666 h0 n0 _ T702.heap _
    rw [e702]
    exact ⟨rfl, N0, rfl⟩
def Q9 (Z : State) (a737 : Addr) (a738 : Addr) (k750 : ClassId) (p739 : Int32) (p740 : Int32) (p741 : Int32) (p742 : Int32) (p743 : Int32) (p744 : Int32) (p745 : Int32) (p746 : Int32) (p747 : Int32) (p748 : Int32) (p749 : Int32) (h0 : Heap) (n0 : Nat) (v : Option Value) (h : Heap) (L : List Loc) : Prop := v = some (.int (0 : Int32)) ∧ Fr n0 L ∧ h = h0
set_option maxRecDepth 65536 in
set_option maxHeartbeats 40000000 in
theorem rm9 (l : Launch) (Z : State) (a0 : Array Value) (hw : ∀ d ∈ tables_1, d.before a0 Z = true) (ws : List Jvm.Cond) (a737 : Addr) (a738 : Addr) (k750 : ClassId) (p739 : Int32) (p740 : Int32) (p741 : Int32) (p742 : Int32) (p743 : Int32) (p744 : Int32) (p745 : Int32) (p746 : Int32) (p747 : Int32) (p748 : Int32) (p749 : Int32) (h0 : Heap) (n0 : Nat) (O0 : Old Z n0 h0) (pF_a737_text : Fld Z h0 a737 zs1 "text" "[B" (.ref a738)) (pV_a738 : Arv Z h0 a738 k750 .byte (12 : Int32) [(.int p739), (.int p740), (.int p741), (.int p742), (.int p743), (.int p744), (.int (102 : Int32)), (.int p745), (.int p746), (.int p747), (.int p748), (.int p749)] (.int (0 : Int32))) :
    MetFree l (⟨zs1, "bool", "(I)Z"⟩ : MethodName) (head1 (Jvm.Cond.code (⟨zs1, "bool", "(I)Z"⟩ : MethodName) prog_17_method_22_code 2 (some .boolean) :: ws) ({ frames := 0, cells := 0, slots := 0, locals := 0 } : Room)) (fun a U => a = #[(.ref a737), (.int (6 : Int32))] ∧ Z.Warmed39 U.vm ∧ U.heap = h0) (fun _ _ _ _ _ => True) (fun _ U o U' => ∃ v L, o = .returned v ∧ Q9 Z a737 a738 k750 p739 p740 p741 p742 p743 p744 p745 p746 p747 p748 p749 h0 n0 v U'.heap L ∧ FrameEnd U o U' L ({ frames := 0, cells := 0, slots := 0, locals := 0 } : Room).cells ({ frames := 0, cells := 0, slots := 0, locals := 0 } : Room).slots) := by
  refine MetFree.of_bodySF (plainFor_of_name pn_1) hisR ?_
  intro p e s m args below meth c s₁ Bd hml0 hP hK
  obtain ⟨rfl, hZ, hh⟩ := hP
  have hx := Bd.exec
  have hby := Bd.bytes
  have hml : c.maxLocals = 2 := hml0
  have hown : s.vm.findClass zs1 = some m.cls := findClass_of_methodNamed Bd.named
  have hnm := (name_of_methodNamed Bd.named Bd.method).1
  have X0 : Stand p l e ({ frames := 0, cells := 0, slots := 0, locals := 0 } : Room) s m #[(.ref a737), (.int (6 : Int32))] below meth c s₁ [] 0 0 := Stand.of_body Bd
  have e0 : s₁.heap = h0 := by rw [← hh, Bd.state]; rfl
  have N0 := Fr.nil n0
  refine own_out ?_
  refine own_via (fun t k => castTop (ef_3 m a737 (6 : Int32)) (XS.aloadN X0.here hx rfl (hb hby d4_0) rfl rfl k)) ?_
  obtain ⟨T785, X785, e785, st785⟩ := getF X0 hx hZ hown (host := "") (Or.inl (wd hw 18 rfl)) Via.refl e0 pF_a737_text (g := (mkF m 1 #[rv a737, iv (6 : Int32)] [(.ref a737)])) rfl rfl (hb hby d4_1)
  refine own_via (fun t k => st785 t (XS.iloadN X785.here hx rfl (hb hby d4_4) rfl k)) ?_
  obtain ⟨cl786, Ar786, qq786, S786, M786, H786, G786⟩ := id (pV_a738)
  have hin786 : ¬ ((6 : Int32) < 0 ∨ cl786.slots.size ≤ ((6 : Int32)).toNatClampNeg) := inb_of S786 ⟨by decide, by decide⟩
  refine own_via (fun t k => X785.baloadBytes hx (j := (6 : Int32)) (v := (.int (102 : Int32))) (by rw [e785]; exact Ar786.1) (State.isArrayOf_alike hZ.alike Ar786.2.1) Ar786.2.2 hin786 (Has.at H786 hin786 rfl) (g := (mkF m 5 #[rv a737, iv (6 : Int32)] [(.int (6 : Int32)), (.ref a738)])) rfl rfl (hb hby d4_5) t (XS.bipush X785.here hx rfl (hb hby d4_6) (XS.icmpYes X785.here hx rfl (pc0 := 8) (pc' := 15) rfl (hb hby d4_8) rfl (feq (by decide : ¬ ((102 : Int32) = (116 : Int32)))).2 (by decide) (by decide) (XS.iconst X785.here hx rfl (hb hby d4_15) k)))) ?_
  show own_Goes p e below (T785.setTop (mkF m 16 #[rv a737, iv (6 : Int32)] [(.int (0 : Int32))])) _
  obtain ⟨fs, hr, hrun, hended, hW, hsame⟩ := X785.leave (v := some (.int (0 : Int32))) (fun h => by rw [Bd.returns] at h; cases h)
  refine own_end (t := T785.setFrames fs) ?_ ⟨_, hrun, hended, _, _, rfl, ?_, ⟨_, rfl⟩, hW, hsame.mono (by decide) (by decide)⟩
  · exact retN X785 hx (t := .boolean) Bd.returns (by simp) (hb hby d4_16) hr
  · show Q9 Z a737 a738 k750 p739 p740 p741 p742 p743 p744 p745 p746 p747 p748 p749 h0 n0 _ T785.heap _
    rw [e785]
    exact ⟨rfl, N0, rfl⟩
def Q10 (Z : State) (a820 : Addr) (a821 : Addr) (k833 : ClassId) (p822 : Int32) (p823 : Int32) (p824 : Int32) (p825 : Int32) (p826 : Int32) (p827 : Int32) (p828 : Int32) (p829 : Int32) (p830 : Int32) (p831 : Int32) (p832 : Int32) (h0 : Heap) (n0 : Nat) (v : Option Value) (h : Heap) (L : List Loc) : Prop := v = some (.int (0 : Int32)) ∧ Fr n0 L ∧ h = h0
set_option maxRecDepth 65536 in
set_option maxHeartbeats 40000000 in
theorem rm10 (l : Launch) (Z : State) (a0 : Array Value) (hw : ∀ d ∈ tables_1, d.before a0 Z = true) (ws : List Jvm.Cond) (a820 : Addr) (a821 : Addr) (k833 : ClassId) (p822 : Int32) (p823 : Int32) (p824 : Int32) (p825 : Int32) (p826 : Int32) (p827 : Int32) (p828 : Int32) (p829 : Int32) (p830 : Int32) (p831 : Int32) (p832 : Int32) (h0 : Heap) (n0 : Nat) (O0 : Old Z n0 h0) (pF_a820_text : Fld Z h0 a820 zs1 "text" "[B" (.ref a821)) (pV_a821 : Arv Z h0 a821 k833 .byte (12 : Int32) [(.int p822), (.int p823), (.int p824), (.int p825), (.int p826), (.int p827), (.int p828), (.int (102 : Int32)), (.int p829), (.int p830), (.int p831), (.int p832)] (.int (0 : Int32))) :
    MetFree l (⟨zs1, "bool", "(I)Z"⟩ : MethodName) (head1 (Jvm.Cond.code (⟨zs1, "bool", "(I)Z"⟩ : MethodName) prog_17_method_22_code 2 (some .boolean) :: ws) ({ frames := 0, cells := 0, slots := 0, locals := 0 } : Room)) (fun a U => a = #[(.ref a820), (.int (7 : Int32))] ∧ Z.Warmed39 U.vm ∧ U.heap = h0) (fun _ _ _ _ _ => True) (fun _ U o U' => ∃ v L, o = .returned v ∧ Q10 Z a820 a821 k833 p822 p823 p824 p825 p826 p827 p828 p829 p830 p831 p832 h0 n0 v U'.heap L ∧ FrameEnd U o U' L ({ frames := 0, cells := 0, slots := 0, locals := 0 } : Room).cells ({ frames := 0, cells := 0, slots := 0, locals := 0 } : Room).slots) := by
  refine MetFree.of_bodySF (plainFor_of_name pn_1) hisR ?_
  intro p e s m args below meth c s₁ Bd hml0 hP hK
  obtain ⟨rfl, hZ, hh⟩ := hP
  have hx := Bd.exec
  have hby := Bd.bytes
  have hml : c.maxLocals = 2 := hml0
  have hown : s.vm.findClass zs1 = some m.cls := findClass_of_methodNamed Bd.named
  have hnm := (name_of_methodNamed Bd.named Bd.method).1
  have X0 : Stand p l e ({ frames := 0, cells := 0, slots := 0, locals := 0 } : Room) s m #[(.ref a820), (.int (7 : Int32))] below meth c s₁ [] 0 0 := Stand.of_body Bd
  have e0 : s₁.heap = h0 := by rw [← hh, Bd.state]; rfl
  have N0 := Fr.nil n0
  refine own_out ?_
  refine own_via (fun t k => castTop (ef_3 m a820 (7 : Int32)) (XS.aloadN X0.here hx rfl (hb hby d4_0) rfl rfl k)) ?_
  obtain ⟨T868, X868, e868, st868⟩ := getF X0 hx hZ hown (host := "") (Or.inl (wd hw 18 rfl)) Via.refl e0 pF_a820_text (g := (mkF m 1 #[rv a820, iv (7 : Int32)] [(.ref a820)])) rfl rfl (hb hby d4_1)
  refine own_via (fun t k => st868 t (XS.iloadN X868.here hx rfl (hb hby d4_4) rfl k)) ?_
  obtain ⟨cl869, Ar869, qq869, S869, M869, H869, G869⟩ := id (pV_a821)
  have hin869 : ¬ ((7 : Int32) < 0 ∨ cl869.slots.size ≤ ((7 : Int32)).toNatClampNeg) := inb_of S869 ⟨by decide, by decide⟩
  refine own_via (fun t k => X868.baloadBytes hx (j := (7 : Int32)) (v := (.int (102 : Int32))) (by rw [e868]; exact Ar869.1) (State.isArrayOf_alike hZ.alike Ar869.2.1) Ar869.2.2 hin869 (Has.at H869 hin869 rfl) (g := (mkF m 5 #[rv a820, iv (7 : Int32)] [(.int (7 : Int32)), (.ref a821)])) rfl rfl (hb hby d4_5) t (XS.bipush X868.here hx rfl (hb hby d4_6) (XS.icmpYes X868.here hx rfl (pc0 := 8) (pc' := 15) rfl (hb hby d4_8) rfl (feq (by decide : ¬ ((102 : Int32) = (116 : Int32)))).2 (by decide) (by decide) (XS.iconst X868.here hx rfl (hb hby d4_15) k)))) ?_
  show own_Goes p e below (T868.setTop (mkF m 16 #[rv a820, iv (7 : Int32)] [(.int (0 : Int32))])) _
  obtain ⟨fs, hr, hrun, hended, hW, hsame⟩ := X868.leave (v := some (.int (0 : Int32))) (fun h => by rw [Bd.returns] at h; cases h)
  refine own_end (t := T868.setFrames fs) ?_ ⟨_, hrun, hended, _, _, rfl, ?_, ⟨_, rfl⟩, hW, hsame.mono (by decide) (by decide)⟩
  · exact retN X868 hx (t := .boolean) Bd.returns (by simp) (hb hby d4_16) hr
  · show Q10 Z a820 a821 k833 p822 p823 p824 p825 p826 p827 p828 p829 p830 p831 p832 h0 n0 _ T868.heap _
    rw [e868]
    exact ⟨rfl, N0, rfl⟩
theorem d4_11 : decode prog_17_method_22_code 11 = .ok (.iconst 1, 1) := by decide +kernel
theorem d4_12 : decode prog_17_method_22_code 12 = .ok (.goto 4, 3) := by decide +kernel
def Q11 (Z : State) (a954 : Addr) (a955 : Addr) (k967 : ClassId) (p956 : Int32) (p957 : Int32) (p958 : Int32) (p959 : Int32) (p960 : Int32) (p961 : Int32) (p962 : Int32) (p963 : Int32) (p964 : Int32) (p965 : Int32) (p966 : Int32) (h0 : Heap) (n0 : Nat) (v : Option Value) (h : Heap) (L : List Loc) : Prop := v = some (.int (1 : Int32)) ∧ Fr n0 L ∧ h = h0
set_option maxRecDepth 65536 in
set_option maxHeartbeats 40000000 in
theorem rm11 (l : Launch) (Z : State) (a0 : Array Value) (hw : ∀ d ∈ tables_1, d.before a0 Z = true) (ws : List Jvm.Cond) (a954 : Addr) (a955 : Addr) (k967 : ClassId) (p956 : Int32) (p957 : Int32) (p958 : Int32) (p959 : Int32) (p960 : Int32) (p961 : Int32) (p962 : Int32) (p963 : Int32) (p964 : Int32) (p965 : Int32) (p966 : Int32) (h0 : Heap) (n0 : Nat) (O0 : Old Z n0 h0) (pF_a954_text : Fld Z h0 a954 zs1 "text" "[B" (.ref a955)) (pV_a955 : Arv Z h0 a955 k967 .byte (12 : Int32) [(.int (116 : Int32)), (.int p956), (.int p957), (.int p958), (.int p959), (.int p960), (.int p961), (.int p962), (.int p963), (.int p964), (.int p965), (.int p966)] (.int (0 : Int32))) :
    MetFree l (⟨zs1, "bool", "(I)Z"⟩ : MethodName) (head1 (Jvm.Cond.code (⟨zs1, "bool", "(I)Z"⟩ : MethodName) prog_17_method_22_code 2 (some .boolean) :: ws) ({ frames := 0, cells := 0, slots := 0, locals := 0 } : Room)) (fun a U => a = #[(.ref a954), (.int (0 : Int32))] ∧ Z.Warmed39 U.vm ∧ U.heap = h0) (fun _ _ _ _ _ => True) (fun _ U o U' => ∃ v L, o = .returned v ∧ Q11 Z a954 a955 k967 p956 p957 p958 p959 p960 p961 p962 p963 p964 p965 p966 h0 n0 v U'.heap L ∧ FrameEnd U o U' L ({ frames := 0, cells := 0, slots := 0, locals := 0 } : Room).cells ({ frames := 0, cells := 0, slots := 0, locals := 0 } : Room).slots) := by
  refine MetFree.of_bodySF (plainFor_of_name pn_1) hisR ?_
  intro p e s m args below meth c s₁ Bd hml0 hP hK
  obtain ⟨rfl, hZ, hh⟩ := hP
  have hx := Bd.exec
  have hby := Bd.bytes
  have hml : c.maxLocals = 2 := hml0
  have hown : s.vm.findClass zs1 = some m.cls := findClass_of_methodNamed Bd.named
  have hnm := (name_of_methodNamed Bd.named Bd.method).1
  have X0 : Stand p l e ({ frames := 0, cells := 0, slots := 0, locals := 0 } : Room) s m #[(.ref a954), (.int (0 : Int32))] below meth c s₁ [] 0 0 := Stand.of_body Bd
  have e0 : s₁.heap = h0 := by rw [← hh, Bd.state]; rfl
  have N0 := Fr.nil n0
  refine own_out ?_
  refine own_via (fun t k => castTop (ef_3 m a954 (0 : Int32)) (XS.aloadN X0.here hx rfl (hb hby d4_0) rfl rfl k)) ?_
  obtain ⟨T1002, X1002, e1002, st1002⟩ := getF X0 hx hZ hown (host := "") (Or.inl (wd hw 18 rfl)) Via.refl e0 pF_a954_text (g := (mkF m 1 #[rv a954, iv (0 : Int32)] [(.ref a954)])) rfl rfl (hb hby d4_1)
  refine own_via (fun t k => st1002 t (XS.iloadN X1002.here hx rfl (hb hby d4_4) rfl k)) ?_
  obtain ⟨cl1003, Ar1003, qq1003, S1003, M1003, H1003, G1003⟩ := id (pV_a955)
  have hin1003 : ¬ ((0 : Int32) < 0 ∨ cl1003.slots.size ≤ ((0 : Int32)).toNatClampNeg) := inb_of S1003 ⟨by decide, by decide⟩
  refine own_via (fun t k => X1002.baloadBytes hx (j := (0 : Int32)) (v := (.int (116 : Int32))) (by rw [e1002]; exact Ar1003.1) (State.isArrayOf_alike hZ.alike Ar1003.2.1) Ar1003.2.2 hin1003 (Has.at H1003 hin1003 rfl) (g := (mkF m 5 #[rv a954, iv (0 : Int32)] [(.int (0 : Int32)), (.ref a955)])) rfl rfl (hb hby d4_5) t (XS.bipush X1002.here hx rfl (hb hby d4_6) (XS.icmpNo X1002.here hx rfl (hb hby d4_8) rfl (teq (by decide : (116 : Int32) = (116 : Int32))).2 (XS.iconst X1002.here hx rfl (hb hby d4_11) (XS.goto X1002.here hx rfl (pc0 := 12) (pc' := 16) rfl (hb hby d4_12) (by decide) (by decide) k))))) ?_
  show own_Goes p e below (T1002.setTop (mkF m 16 #[rv a954, iv (0 : Int32)] [(.int (1 : Int32))])) _
  obtain ⟨fs, hr, hrun, hended, hW, hsame⟩ := X1002.leave (v := some (.int (1 : Int32))) (fun h => by rw [Bd.returns] at h; cases h)
  refine own_end (t := T1002.setFrames fs) ?_ ⟨_, hrun, hended, _, _, rfl, ?_, ⟨_, rfl⟩, hW, hsame.mono (by decide) (by decide)⟩
  · exact retN X1002 hx (t := .boolean) Bd.returns (by simp) (hb hby d4_16) hr
  · show Q11 Z a954 a955 k967 p956 p957 p958 p959 p960 p961 p962 p963 p964 p965 p966 h0 n0 _ T1002.heap _
    rw [e1002]
    exact ⟨rfl, N0, rfl⟩
def Q12 (Z : State) (a1035 : Addr) (a1036 : Addr) (k1048 : ClassId) (p1037 : Int32) (p1038 : Int32) (p1039 : Int32) (p1040 : Int32) (p1041 : Int32) (p1042 : Int32) (p1043 : Int32) (p1044 : Int32) (p1045 : Int32) (p1046 : Int32) (p1047 : Int32) (h0 : Heap) (n0 : Nat) (v : Option Value) (h : Heap) (L : List Loc) : Prop := v = some (.int (1 : Int32)) ∧ Fr n0 L ∧ h = h0
set_option maxRecDepth 65536 in
set_option maxHeartbeats 40000000 in
theorem rm12 (l : Launch) (Z : State) (a0 : Array Value) (hw : ∀ d ∈ tables_1, d.before a0 Z = true) (ws : List Jvm.Cond) (a1035 : Addr) (a1036 : Addr) (k1048 : ClassId) (p1037 : Int32) (p1038 : Int32) (p1039 : Int32) (p1040 : Int32) (p1041 : Int32) (p1042 : Int32) (p1043 : Int32) (p1044 : Int32) (p1045 : Int32) (p1046 : Int32) (p1047 : Int32) (h0 : Heap) (n0 : Nat) (O0 : Old Z n0 h0) (pF_a1035_text : Fld Z h0 a1035 zs1 "text" "[B" (.ref a1036)) (pV_a1036 : Arv Z h0 a1036 k1048 .byte (12 : Int32) [(.int p1037), (.int (116 : Int32)), (.int p1038), (.int p1039), (.int p1040), (.int p1041), (.int p1042), (.int p1043), (.int p1044), (.int p1045), (.int p1046), (.int p1047)] (.int (0 : Int32))) :
    MetFree l (⟨zs1, "bool", "(I)Z"⟩ : MethodName) (head1 (Jvm.Cond.code (⟨zs1, "bool", "(I)Z"⟩ : MethodName) prog_17_method_22_code 2 (some .boolean) :: ws) ({ frames := 0, cells := 0, slots := 0, locals := 0 } : Room)) (fun a U => a = #[(.ref a1035), (.int (1 : Int32))] ∧ Z.Warmed39 U.vm ∧ U.heap = h0) (fun _ _ _ _ _ => True) (fun _ U o U' => ∃ v L, o = .returned v ∧ Q12 Z a1035 a1036 k1048 p1037 p1038 p1039 p1040 p1041 p1042 p1043 p1044 p1045 p1046 p1047 h0 n0 v U'.heap L ∧ FrameEnd U o U' L ({ frames := 0, cells := 0, slots := 0, locals := 0 } : Room).cells ({ frames := 0, cells := 0, slots := 0, locals := 0 } : Room).slots) := by
  refine MetFree.of_bodySF (plainFor_of_name pn_1) hisR ?_
  intro p e s m args below meth c s₁ Bd hml0 hP hK
  obtain ⟨rfl, hZ, hh⟩ := hP
  have hx := Bd.exec
  have hby := Bd.bytes
  have hml : c.maxLocals = 2 := hml0
  have hown : s.vm.findClass zs1 = some m.cls := findClass_of_methodNamed Bd.named
  have hnm := (name_of_methodNamed Bd.named Bd.method).1
  have X0 : Stand p l e ({ frames := 0, cells := 0, slots := 0, locals := 0 } : Room) s m #[(.ref a1035), (.int (1 : Int32))] below meth c s₁ [] 0 0 := Stand.of_body Bd
  have e0 : s₁.heap = h0 := by rw [← hh, Bd.state]; rfl
  have N0 := Fr.nil n0
  refine own_out ?_
  refine own_via (fun t k => castTop (ef_3 m a1035 (1 : Int32)) (XS.aloadN X0.here hx rfl (hb hby d4_0) rfl rfl k)) ?_
  obtain ⟨T1083, X1083, e1083, st1083⟩ := getF X0 hx hZ hown (host := "") (Or.inl (wd hw 18 rfl)) Via.refl e0 pF_a1035_text (g := (mkF m 1 #[rv a1035, iv (1 : Int32)] [(.ref a1035)])) rfl rfl (hb hby d4_1)
  refine own_via (fun t k => st1083 t (XS.iloadN X1083.here hx rfl (hb hby d4_4) rfl k)) ?_
  obtain ⟨cl1084, Ar1084, qq1084, S1084, M1084, H1084, G1084⟩ := id (pV_a1036)
  have hin1084 : ¬ ((1 : Int32) < 0 ∨ cl1084.slots.size ≤ ((1 : Int32)).toNatClampNeg) := inb_of S1084 ⟨by decide, by decide⟩
  refine own_via (fun t k => X1083.baloadBytes hx (j := (1 : Int32)) (v := (.int (116 : Int32))) (by rw [e1083]; exact Ar1084.1) (State.isArrayOf_alike hZ.alike Ar1084.2.1) Ar1084.2.2 hin1084 (Has.at H1084 hin1084 rfl) (g := (mkF m 5 #[rv a1035, iv (1 : Int32)] [(.int (1 : Int32)), (.ref a1036)])) rfl rfl (hb hby d4_5) t (XS.bipush X1083.here hx rfl (hb hby d4_6) (XS.icmpNo X1083.here hx rfl (hb hby d4_8) rfl (teq (by decide : (116 : Int32) = (116 : Int32))).2 (XS.iconst X1083.here hx rfl (hb hby d4_11) (XS.goto X1083.here hx rfl (pc0 := 12) (pc' := 16) rfl (hb hby d4_12) (by decide) (by decide) k))))) ?_
  show own_Goes p e below (T1083.setTop (mkF m 16 #[rv a1035, iv (1 : Int32)] [(.int (1 : Int32))])) _
  obtain ⟨fs, hr, hrun, hended, hW, hsame⟩ := X1083.leave (v := some (.int (1 : Int32))) (fun h => by rw [Bd.returns] at h; cases h)
  refine own_end (t := T1083.setFrames fs) ?_ ⟨_, hrun, hended, _, _, rfl, ?_, ⟨_, rfl⟩, hW, hsame.mono (by decide) (by decide)⟩
  · exact retN X1083 hx (t := .boolean) Bd.returns (by simp) (hb hby d4_16) hr
  · show Q12 Z a1035 a1036 k1048 p1037 p1038 p1039 p1040 p1041 p1042 p1043 p1044 p1045 p1046 p1047 h0 n0 _ T1083.heap _
    rw [e1083]
    exact ⟨rfl, N0, rfl⟩
def Q13 (Z : State) (a1116 : Addr) (a1117 : Addr) (k1129 : ClassId) (p1118 : Int32) (p1119 : Int32) (p1120 : Int32) (p1121 : Int32) (p1122 : Int32) (p1123 : Int32) (p1124 : Int32) (p1125 : Int32) (p1126 : Int32) (p1127 : Int32) (p1128 : Int32) (h0 : Heap) (n0 : Nat) (v : Option Value) (h : Heap) (L : List Loc) : Prop := v = some (.int (1 : Int32)) ∧ Fr n0 L ∧ h = h0
set_option maxRecDepth 65536 in
set_option maxHeartbeats 40000000 in
theorem rm13 (l : Launch) (Z : State) (a0 : Array Value) (hw : ∀ d ∈ tables_1, d.before a0 Z = true) (ws : List Jvm.Cond) (a1116 : Addr) (a1117 : Addr) (k1129 : ClassId) (p1118 : Int32) (p1119 : Int32) (p1120 : Int32) (p1121 : Int32) (p1122 : Int32) (p1123 : Int32) (p1124 : Int32) (p1125 : Int32) (p1126 : Int32) (p1127 : Int32) (p1128 : Int32) (h0 : Heap) (n0 : Nat) (O0 : Old Z n0 h0) (pF_a1116_text : Fld Z h0 a1116 zs1 "text" "[B" (.ref a1117)) (pV_a1117 : Arv Z h0 a1117 k1129 .byte (12 : Int32) [(.int p1118), (.int p1119), (.int (116 : Int32)), (.int p1120), (.int p1121), (.int p1122), (.int p1123), (.int p1124), (.int p1125), (.int p1126), (.int p1127), (.int p1128)] (.int (0 : Int32))) :
    MetFree l (⟨zs1, "bool", "(I)Z"⟩ : MethodName) (head1 (Jvm.Cond.code (⟨zs1, "bool", "(I)Z"⟩ : MethodName) prog_17_method_22_code 2 (some .boolean) :: ws) ({ frames := 0, cells := 0, slots := 0, locals := 0 } : Room)) (fun a U => a = #[(.ref a1116), (.int (2 : Int32))] ∧ Z.Warmed39 U.vm ∧ U.heap = h0) (fun _ _ _ _ _ => True) (fun _ U o U' => ∃ v L, o = .returned v ∧ Q13 Z a1116 a1117 k1129 p1118 p1119 p1120 p1121 p1122 p1123 p1124 p1125 p1126 p1127 p1128 h0 n0 v U'.heap L ∧ FrameEnd U o U' L ({ frames := 0, cells := 0, slots := 0, locals := 0 } : Room).cells ({ frames := 0, cells := 0, slots := 0, locals := 0 } : Room).slots) := by
  refine MetFree.of_bodySF (plainFor_of_name pn_1) hisR ?_
  intro p e s m args below meth c s₁ Bd hml0 hP hK
  obtain ⟨rfl, hZ, hh⟩ := hP
  have hx := Bd.exec
  have hby := Bd.bytes
  have hml : c.maxLocals = 2 := hml0
  have hown : s.vm.findClass zs1 = some m.cls := findClass_of_methodNamed Bd.named
  have hnm := (name_of_methodNamed Bd.named Bd.method).1
  have X0 : Stand p l e ({ frames := 0, cells := 0, slots := 0, locals := 0 } : Room) s m #[(.ref a1116), (.int (2 : Int32))] below meth c s₁ [] 0 0 := Stand.of_body Bd
  have e0 : s₁.heap = h0 := by rw [← hh, Bd.state]; rfl
  have N0 := Fr.nil n0
  refine own_out ?_
  refine own_via (fun t k => castTop (ef_3 m a1116 (2 : Int32)) (XS.aloadN X0.here hx rfl (hb hby d4_0) rfl rfl k)) ?_
  obtain ⟨T1164, X1164, e1164, st1164⟩ := getF X0 hx hZ hown (host := "") (Or.inl (wd hw 18 rfl)) Via.refl e0 pF_a1116_text (g := (mkF m 1 #[rv a1116, iv (2 : Int32)] [(.ref a1116)])) rfl rfl (hb hby d4_1)
  refine own_via (fun t k => st1164 t (XS.iloadN X1164.here hx rfl (hb hby d4_4) rfl k)) ?_
  obtain ⟨cl1165, Ar1165, qq1165, S1165, M1165, H1165, G1165⟩ := id (pV_a1117)
  have hin1165 : ¬ ((2 : Int32) < 0 ∨ cl1165.slots.size ≤ ((2 : Int32)).toNatClampNeg) := inb_of S1165 ⟨by decide, by decide⟩
  refine own_via (fun t k => X1164.baloadBytes hx (j := (2 : Int32)) (v := (.int (116 : Int32))) (by rw [e1164]; exact Ar1165.1) (State.isArrayOf_alike hZ.alike Ar1165.2.1) Ar1165.2.2 hin1165 (Has.at H1165 hin1165 rfl) (g := (mkF m 5 #[rv a1116, iv (2 : Int32)] [(.int (2 : Int32)), (.ref a1117)])) rfl rfl (hb hby d4_5) t (XS.bipush X1164.here hx rfl (hb hby d4_6) (XS.icmpNo X1164.here hx rfl (hb hby d4_8) rfl (teq (by decide : (116 : Int32) = (116 : Int32))).2 (XS.iconst X1164.here hx rfl (hb hby d4_11) (XS.goto X1164.here hx rfl (pc0 := 12) (pc' := 16) rfl (hb hby d4_12) (by decide) (by decide) k))))) ?_
  show own_Goes p e below (T1164.setTop (mkF m 16 #[rv a1116, iv (2 : Int32)] [(.int (1 : Int32))])) _
  obtain ⟨fs, hr, hrun, hended, hW, hsame⟩ := X1164.leave (v := some (.int (1 : Int32))) (fun h => by rw [Bd.returns] at h; cases h)
  refine own_end (t := T1164.setFrames fs) ?_ ⟨_, hrun, hended, _, _, rfl, ?_, ⟨_, rfl⟩, hW, hsame.mono (by decide) (by decide)⟩
  · exact retN X1164 hx (t := .boolean) Bd.returns (by simp) (hb hby d4_16) hr
  · show Q13 Z a1116 a1117 k1129 p1118 p1119 p1120 p1121 p1122 p1123 p1124 p1125 p1126 p1127 p1128 h0 n0 _ T1164.heap _
    rw [e1164]
    exact ⟨rfl, N0, rfl⟩
def Q14 (Z : State) (a1197 : Addr) (a1198 : Addr) (k1210 : ClassId) (p1199 : Int32) (p1200 : Int32) (p1201 : Int32) (p1202 : Int32) (p1203 : Int32) (p1204 : Int32) (p1205 : Int32) (p1206 : Int32) (p1207 : Int32) (p1208 : Int32) (p1209 : Int32) (h0 : Heap) (n0 : Nat) (v : Option Value) (h : Heap) (L : List Loc) : Prop := v = some (.int (1 : Int32)) ∧ Fr n0 L ∧ h = h0
set_option maxRecDepth 65536 in
set_option maxHeartbeats 40000000 in
theorem rm14 (l : Launch) (Z : State) (a0 : Array Value) (hw : ∀ d ∈ tables_1, d.before a0 Z = true) (ws : List Jvm.Cond) (a1197 : Addr) (a1198 : Addr) (k1210 : ClassId) (p1199 : Int32) (p1200 : Int32) (p1201 : Int32) (p1202 : Int32) (p1203 : Int32) (p1204 : Int32) (p1205 : Int32) (p1206 : Int32) (p1207 : Int32) (p1208 : Int32) (p1209 : Int32) (h0 : Heap) (n0 : Nat) (O0 : Old Z n0 h0) (pF_a1197_text : Fld Z h0 a1197 zs1 "text" "[B" (.ref a1198)) (pV_a1198 : Arv Z h0 a1198 k1210 .byte (12 : Int32) [(.int p1199), (.int p1200), (.int p1201), (.int (116 : Int32)), (.int p1202), (.int p1203), (.int p1204), (.int p1205), (.int p1206), (.int p1207), (.int p1208), (.int p1209)] (.int (0 : Int32))) :
    MetFree l (⟨zs1, "bool", "(I)Z"⟩ : MethodName) (head1 (Jvm.Cond.code (⟨zs1, "bool", "(I)Z"⟩ : MethodName) prog_17_method_22_code 2 (some .boolean) :: ws) ({ frames := 0, cells := 0, slots := 0, locals := 0 } : Room)) (fun a U => a = #[(.ref a1197), (.int (3 : Int32))] ∧ Z.Warmed39 U.vm ∧ U.heap = h0) (fun _ _ _ _ _ => True) (fun _ U o U' => ∃ v L, o = .returned v ∧ Q14 Z a1197 a1198 k1210 p1199 p1200 p1201 p1202 p1203 p1204 p1205 p1206 p1207 p1208 p1209 h0 n0 v U'.heap L ∧ FrameEnd U o U' L ({ frames := 0, cells := 0, slots := 0, locals := 0 } : Room).cells ({ frames := 0, cells := 0, slots := 0, locals := 0 } : Room).slots) := by
  refine MetFree.of_bodySF (plainFor_of_name pn_1) hisR ?_
  intro p e s m args below meth c s₁ Bd hml0 hP hK
  obtain ⟨rfl, hZ, hh⟩ := hP
  have hx := Bd.exec
  have hby := Bd.bytes
  have hml : c.maxLocals = 2 := hml0
  have hown : s.vm.findClass zs1 = some m.cls := findClass_of_methodNamed Bd.named
  have hnm := (name_of_methodNamed Bd.named Bd.method).1
  have X0 : Stand p l e ({ frames := 0, cells := 0, slots := 0, locals := 0 } : Room) s m #[(.ref a1197), (.int (3 : Int32))] below meth c s₁ [] 0 0 := Stand.of_body Bd
  have e0 : s₁.heap = h0 := by rw [← hh, Bd.state]; rfl
  have N0 := Fr.nil n0
  refine own_out ?_
  refine own_via (fun t k => castTop (ef_3 m a1197 (3 : Int32)) (XS.aloadN X0.here hx rfl (hb hby d4_0) rfl rfl k)) ?_
  obtain ⟨T1245, X1245, e1245, st1245⟩ := getF X0 hx hZ hown (host := "") (Or.inl (wd hw 18 rfl)) Via.refl e0 pF_a1197_text (g := (mkF m 1 #[rv a1197, iv (3 : Int32)] [(.ref a1197)])) rfl rfl (hb hby d4_1)
  refine own_via (fun t k => st1245 t (XS.iloadN X1245.here hx rfl (hb hby d4_4) rfl k)) ?_
  obtain ⟨cl1246, Ar1246, qq1246, S1246, M1246, H1246, G1246⟩ := id (pV_a1198)
  have hin1246 : ¬ ((3 : Int32) < 0 ∨ cl1246.slots.size ≤ ((3 : Int32)).toNatClampNeg) := inb_of S1246 ⟨by decide, by decide⟩
  refine own_via (fun t k => X1245.baloadBytes hx (j := (3 : Int32)) (v := (.int (116 : Int32))) (by rw [e1245]; exact Ar1246.1) (State.isArrayOf_alike hZ.alike Ar1246.2.1) Ar1246.2.2 hin1246 (Has.at H1246 hin1246 rfl) (g := (mkF m 5 #[rv a1197, iv (3 : Int32)] [(.int (3 : Int32)), (.ref a1198)])) rfl rfl (hb hby d4_5) t (XS.bipush X1245.here hx rfl (hb hby d4_6) (XS.icmpNo X1245.here hx rfl (hb hby d4_8) rfl (teq (by decide : (116 : Int32) = (116 : Int32))).2 (XS.iconst X1245.here hx rfl (hb hby d4_11) (XS.goto X1245.here hx rfl (pc0 := 12) (pc' := 16) rfl (hb hby d4_12) (by decide) (by decide) k))))) ?_
  show own_Goes p e below (T1245.setTop (mkF m 16 #[rv a1197, iv (3 : Int32)] [(.int (1 : Int32))])) _
  obtain ⟨fs, hr, hrun, hended, hW, hsame⟩ := X1245.leave (v := some (.int (1 : Int32))) (fun h => by rw [Bd.returns] at h; cases h)
  refine own_end (t := T1245.setFrames fs) ?_ ⟨_, hrun, hended, _, _, rfl, ?_, ⟨_, rfl⟩, hW, hsame.mono (by decide) (by decide)⟩
  · exact retN X1245 hx (t := .boolean) Bd.returns (by simp) (hb hby d4_16) hr
  · show Q14 Z a1197 a1198 k1210 p1199 p1200 p1201 p1202 p1203 p1204 p1205 p1206 p1207 p1208 p1209 h0 n0 _ T1245.heap _
    rw [e1245]
    exact ⟨rfl, N0, rfl⟩
def Q15 (Z : State) (a1278 : Addr) (a1279 : Addr) (k1291 : ClassId) (p1280 : Int32) (p1281 : Int32) (p1282 : Int32) (p1283 : Int32) (p1284 : Int32) (p1285 : Int32) (p1286 : Int32) (p1287 : Int32) (p1288 : Int32) (p1289 : Int32) (p1290 : Int32) (h0 : Heap) (n0 : Nat) (v : Option Value) (h : Heap) (L : List Loc) : Prop := v = some (.int (1 : Int32)) ∧ Fr n0 L ∧ h = h0
set_option maxRecDepth 65536 in
set_option maxHeartbeats 40000000 in
theorem rm15 (l : Launch) (Z : State) (a0 : Array Value) (hw : ∀ d ∈ tables_1, d.before a0 Z = true) (ws : List Jvm.Cond) (a1278 : Addr) (a1279 : Addr) (k1291 : ClassId) (p1280 : Int32) (p1281 : Int32) (p1282 : Int32) (p1283 : Int32) (p1284 : Int32) (p1285 : Int32) (p1286 : Int32) (p1287 : Int32) (p1288 : Int32) (p1289 : Int32) (p1290 : Int32) (h0 : Heap) (n0 : Nat) (O0 : Old Z n0 h0) (pF_a1278_text : Fld Z h0 a1278 zs1 "text" "[B" (.ref a1279)) (pV_a1279 : Arv Z h0 a1279 k1291 .byte (12 : Int32) [(.int p1280), (.int p1281), (.int p1282), (.int p1283), (.int (116 : Int32)), (.int p1284), (.int p1285), (.int p1286), (.int p1287), (.int p1288), (.int p1289), (.int p1290)] (.int (0 : Int32))) :
    MetFree l (⟨zs1, "bool", "(I)Z"⟩ : MethodName) (head1 (Jvm.Cond.code (⟨zs1, "bool", "(I)Z"⟩ : MethodName) prog_17_method_22_code 2 (some .boolean) :: ws) ({ frames := 0, cells := 0, slots := 0, locals := 0 } : Room)) (fun a U => a = #[(.ref a1278), (.int (4 : Int32))] ∧ Z.Warmed39 U.vm ∧ U.heap = h0) (fun _ _ _ _ _ => True) (fun _ U o U' => ∃ v L, o = .returned v ∧ Q15 Z a1278 a1279 k1291 p1280 p1281 p1282 p1283 p1284 p1285 p1286 p1287 p1288 p1289 p1290 h0 n0 v U'.heap L ∧ FrameEnd U o U' L ({ frames := 0, cells := 0, slots := 0, locals := 0 } : Room).cells ({ frames := 0, cells := 0, slots := 0, locals := 0 } : Room).slots) := by
  refine MetFree.of_bodySF (plainFor_of_name pn_1) hisR ?_
  intro p e s m args below meth c s₁ Bd hml0 hP hK
  obtain ⟨rfl, hZ, hh⟩ := hP
  have hx := Bd.exec
  have hby := Bd.bytes
  have hml : c.maxLocals = 2 := hml0
  have hown : s.vm.findClass zs1 = some m.cls := findClass_of_methodNamed Bd.named
  have hnm := (name_of_methodNamed Bd.named Bd.method).1
  have X0 : Stand p l e ({ frames := 0, cells := 0, slots := 0, locals := 0 } : Room) s m #[(.ref a1278), (.int (4 : Int32))] below meth c s₁ [] 0 0 := Stand.of_body Bd
  have e0 : s₁.heap = h0 := by rw [← hh, Bd.state]; rfl
  have N0 := Fr.nil n0
  refine own_out ?_
  refine own_via (fun t k => castTop (ef_3 m a1278 (4 : Int32)) (XS.aloadN X0.here hx rfl (hb hby d4_0) rfl rfl k)) ?_
  obtain ⟨T1326, X1326, e1326, st1326⟩ := getF X0 hx hZ hown (host := "") (Or.inl (wd hw 18 rfl)) Via.refl e0 pF_a1278_text (g := (mkF m 1 #[rv a1278, iv (4 : Int32)] [(.ref a1278)])) rfl rfl (hb hby d4_1)
  refine own_via (fun t k => st1326 t (XS.iloadN X1326.here hx rfl (hb hby d4_4) rfl k)) ?_
  obtain ⟨cl1327, Ar1327, qq1327, S1327, M1327, H1327, G1327⟩ := id (pV_a1279)
  have hin1327 : ¬ ((4 : Int32) < 0 ∨ cl1327.slots.size ≤ ((4 : Int32)).toNatClampNeg) := inb_of S1327 ⟨by decide, by decide⟩
  refine own_via (fun t k => X1326.baloadBytes hx (j := (4 : Int32)) (v := (.int (116 : Int32))) (by rw [e1326]; exact Ar1327.1) (State.isArrayOf_alike hZ.alike Ar1327.2.1) Ar1327.2.2 hin1327 (Has.at H1327 hin1327 rfl) (g := (mkF m 5 #[rv a1278, iv (4 : Int32)] [(.int (4 : Int32)), (.ref a1279)])) rfl rfl (hb hby d4_5) t (XS.bipush X1326.here hx rfl (hb hby d4_6) (XS.icmpNo X1326.here hx rfl (hb hby d4_8) rfl (teq (by decide : (116 : Int32) = (116 : Int32))).2 (XS.iconst X1326.here hx rfl (hb hby d4_11) (XS.goto X1326.here hx rfl (pc0 := 12) (pc' := 16) rfl (hb hby d4_12) (by decide) (by decide) k))))) ?_
  show own_Goes p e below (T1326.setTop (mkF m 16 #[rv a1278, iv (4 : Int32)] [(.int (1 : Int32))])) _
  obtain ⟨fs, hr, hrun, hended, hW, hsame⟩ := X1326.leave (v := some (.int (1 : Int32))) (fun h => by rw [Bd.returns] at h; cases h)
  refine own_end (t := T1326.setFrames fs) ?_ ⟨_, hrun, hended, _, _, rfl, ?_, ⟨_, rfl⟩, hW, hsame.mono (by decide) (by decide)⟩
  · exact retN X1326 hx (t := .boolean) Bd.returns (by simp) (hb hby d4_16) hr
  · show Q15 Z a1278 a1279 k1291 p1280 p1281 p1282 p1283 p1284 p1285 p1286 p1287 p1288 p1289 p1290 h0 n0 _ T1326.heap _
    rw [e1326]
    exact ⟨rfl, N0, rfl⟩
def Q16 (Z : State) (a1359 : Addr) (a1360 : Addr) (k1372 : ClassId) (p1361 : Int32) (p1362 : Int32) (p1363 : Int32) (p1364 : Int32) (p1365 : Int32) (p1366 : Int32) (p1367 : Int32) (p1368 : Int32) (p1369 : Int32) (p1370 : Int32) (p1371 : Int32) (h0 : Heap) (n0 : Nat) (v : Option Value) (h : Heap) (L : List Loc) : Prop := v = some (.int (1 : Int32)) ∧ Fr n0 L ∧ h = h0
set_option maxRecDepth 65536 in
set_option maxHeartbeats 40000000 in
theorem rm16 (l : Launch) (Z : State) (a0 : Array Value) (hw : ∀ d ∈ tables_1, d.before a0 Z = true) (ws : List Jvm.Cond) (a1359 : Addr) (a1360 : Addr) (k1372 : ClassId) (p1361 : Int32) (p1362 : Int32) (p1363 : Int32) (p1364 : Int32) (p1365 : Int32) (p1366 : Int32) (p1367 : Int32) (p1368 : Int32) (p1369 : Int32) (p1370 : Int32) (p1371 : Int32) (h0 : Heap) (n0 : Nat) (O0 : Old Z n0 h0) (pF_a1359_text : Fld Z h0 a1359 zs1 "text" "[B" (.ref a1360)) (pV_a1360 : Arv Z h0 a1360 k1372 .byte (12 : Int32) [(.int p1361), (.int p1362), (.int p1363), (.int p1364), (.int p1365), (.int (116 : Int32)), (.int p1366), (.int p1367), (.int p1368), (.int p1369), (.int p1370), (.int p1371)] (.int (0 : Int32))) :
    MetFree l (⟨zs1, "bool", "(I)Z"⟩ : MethodName) (head1 (Jvm.Cond.code (⟨zs1, "bool", "(I)Z"⟩ : MethodName) prog_17_method_22_code 2 (some .boolean) :: ws) ({ frames := 0, cells := 0, slots := 0, locals := 0 } : Room)) (fun a U => a = #[(.ref a1359), (.int (5 : Int32))] ∧ Z.Warmed39 U.vm ∧ U.heap = h0) (fun _ _ _ _ _ => True) (fun _ U o U' => ∃ v L, o = .returned v ∧ Q16 Z a1359 a1360 k1372 p1361 p1362 p1363 p1364 p1365 p1366 p1367 p1368 p1369 p1370 p1371 h0 n0 v U'.heap L ∧ FrameEnd U o U' L ({ frames := 0, cells := 0, slots := 0, locals := 0 } : Room).cells ({ frames := 0, cells := 0, slots := 0, locals := 0 } : Room).slots) := by
  refine MetFree.of_bodySF (plainFor_of_name pn_1) hisR ?_
  intro p e s m args below meth c s₁ Bd hml0 hP hK
  obtain ⟨rfl, hZ, hh⟩ := hP
  have hx := Bd.exec
  have hby := Bd.bytes
  have hml : c.maxLocals = 2 := hml0
  have hown : s.vm.findClass zs1 = some m.cls := findClass_of_methodNamed Bd.named
  have hnm := (name_of_methodNamed Bd.named Bd.method).1
  have X0 : Stand p l e ({ frames := 0, cells := 0, slots := 0, locals := 0 } : Room) s m #[(.ref a1359), (.int (5 : Int32))] below meth c s₁ [] 0 0 := Stand.of_body Bd
  have e0 : s₁.heap = h0 := by rw [← hh, Bd.state]; rfl
  have N0 := Fr.nil n0
  refine own_out ?_
  refine own_via (fun t k => castTop (ef_3 m a1359 (5 : Int32)) (XS.aloadN X0.here hx rfl (hb hby d4_0) rfl rfl k)) ?_
  obtain ⟨T1407, X1407, e1407, st1407⟩ := getF X0 hx hZ hown (host := "") (Or.inl (wd hw 18 rfl)) Via.refl e0 pF_a1359_text (g := (mkF m 1 #[rv a1359, iv (5 : Int32)] [(.ref a1359)])) rfl rfl (hb hby d4_1)
  refine own_via (fun t k => st1407 t (XS.iloadN X1407.here hx rfl (hb hby d4_4) rfl k)) ?_
  obtain ⟨cl1408, Ar1408, qq1408, S1408, M1408, H1408, G1408⟩ := id (pV_a1360)
  have hin1408 : ¬ ((5 : Int32) < 0 ∨ cl1408.slots.size ≤ ((5 : Int32)).toNatClampNeg) := inb_of S1408 ⟨by decide, by decide⟩
  refine own_via (fun t k => X1407.baloadBytes hx (j := (5 : Int32)) (v := (.int (116 : Int32))) (by rw [e1407]; exact Ar1408.1) (State.isArrayOf_alike hZ.alike Ar1408.2.1) Ar1408.2.2 hin1408 (Has.at H1408 hin1408 rfl) (g := (mkF m 5 #[rv a1359, iv (5 : Int32)] [(.int (5 : Int32)), (.ref a1360)])) rfl rfl (hb hby d4_5) t (XS.bipush X1407.here hx rfl (hb hby d4_6) (XS.icmpNo X1407.here hx rfl (hb hby d4_8) rfl (teq (by decide : (116 : Int32) = (116 : Int32))).2 (XS.iconst X1407.here hx rfl (hb hby d4_11) (XS.goto X1407.here hx rfl (pc0 := 12) (pc' := 16) rfl (hb hby d4_12) (by decide) (by decide) k))))) ?_
  show own_Goes p e below (T1407.setTop (mkF m 16 #[rv a1359, iv (5 : Int32)] [(.int (1 : Int32))])) _
  obtain ⟨fs, hr, hrun, hended, hW, hsame⟩ := X1407.leave (v := some (.int (1 : Int32))) (fun h => by rw [Bd.returns] at h; cases h)
  refine own_end (t := T1407.setFrames fs) ?_ ⟨_, hrun, hended, _, _, rfl, ?_, ⟨_, rfl⟩, hW, hsame.mono (by decide) (by decide)⟩
  · exact retN X1407 hx (t := .boolean) Bd.returns (by simp) (hb hby d4_16) hr
  · show Q16 Z a1359 a1360 k1372 p1361 p1362 p1363 p1364 p1365 p1366 p1367 p1368 p1369 p1370 p1371 h0 n0 _ T1407.heap _
    rw [e1407]
    exact ⟨rfl, N0, rfl⟩
def Q17 (Z : State) (a1440 : Addr) (a1441 : Addr) (k1453 : ClassId) (p1442 : Int32) (p1443 : Int32) (p1444 : Int32) (p1445 : Int32) (p1446 : Int32) (p1447 : Int32) (p1448 : Int32) (p1449 : Int32) (p1450 : Int32) (p1451 : Int32) (p1452 : Int32) (h0 : Heap) (n0 : Nat) (v : Option Value) (h : Heap) (L : List Loc) : Prop := v = some (.int (1 : Int32)) ∧ Fr n0 L ∧ h = h0
set_option maxRecDepth 65536 in
set_option maxHeartbeats 40000000 in
theorem rm17 (l : Launch) (Z : State) (a0 : Array Value) (hw : ∀ d ∈ tables_1, d.before a0 Z = true) (ws : List Jvm.Cond) (a1440 : Addr) (a1441 : Addr) (k1453 : ClassId) (p1442 : Int32) (p1443 : Int32) (p1444 : Int32) (p1445 : Int32) (p1446 : Int32) (p1447 : Int32) (p1448 : Int32) (p1449 : Int32) (p1450 : Int32) (p1451 : Int32) (p1452 : Int32) (h0 : Heap) (n0 : Nat) (O0 : Old Z n0 h0) (pF_a1440_text : Fld Z h0 a1440 zs1 "text" "[B" (.ref a1441)) (pV_a1441 : Arv Z h0 a1441 k1453 .byte (12 : Int32) [(.int p1442), (.int p1443), (.int p1444), (.int p1445), (.int p1446), (.int p1447), (.int (116 : Int32)), (.int p1448), (.int p1449), (.int p1450), (.int p1451), (.int p1452)] (.int (0 : Int32))) :
    MetFree l (⟨zs1, "bool", "(I)Z"⟩ : MethodName) (head1 (Jvm.Cond.code (⟨zs1, "bool", "(I)Z"⟩ : MethodName) prog_17_method_22_code 2 (some .boolean) :: ws) ({ frames := 0, cells := 0, slots := 0, locals := 0 } : Room)) (fun a U => a = #[(.ref a1440), (.int (6 : Int32))] ∧ Z.Warmed39 U.vm ∧ U.heap = h0) (fun _ _ _ _ _ => True) (fun _ U o U' => ∃ v L, o = .returned v ∧ Q17 Z a1440 a1441 k1453 p1442 p1443 p1444 p1445 p1446 p1447 p1448 p1449 p1450 p1451 p1452 h0 n0 v U'.heap L ∧ FrameEnd U o U' L ({ frames := 0, cells := 0, slots := 0, locals := 0 } : Room).cells ({ frames := 0, cells := 0, slots := 0, locals := 0 } : Room).slots) := by
  refine MetFree.of_bodySF (plainFor_of_name pn_1) hisR ?_
  intro p e s m args below meth c s₁ Bd hml0 hP hK
  obtain ⟨rfl, hZ, hh⟩ := hP
  have hx := Bd.exec
  have hby := Bd.bytes
  have hml : c.maxLocals = 2 := hml0
  have hown : s.vm.findClass zs1 = some m.cls := findClass_of_methodNamed Bd.named
  have hnm := (name_of_methodNamed Bd.named Bd.method).1
  have X0 : Stand p l e ({ frames := 0, cells := 0, slots := 0, locals := 0 } : Room) s m #[(.ref a1440), (.int (6 : Int32))] below meth c s₁ [] 0 0 := Stand.of_body Bd
  have e0 : s₁.heap = h0 := by rw [← hh, Bd.state]; rfl
  have N0 := Fr.nil n0
  refine own_out ?_
  refine own_via (fun t k => castTop (ef_3 m a1440 (6 : Int32)) (XS.aloadN X0.here hx rfl (hb hby d4_0) rfl rfl k)) ?_
  obtain ⟨T1488, X1488, e1488, st1488⟩ := getF X0 hx hZ hown (host := "") (Or.inl (wd hw 18 rfl)) Via.refl e0 pF_a1440_text (g := (mkF m 1 #[rv a1440, iv (6 : Int32)] [(.ref a1440)])) rfl rfl (hb hby d4_1)
  refine own_via (fun t k => st1488 t (XS.iloadN X1488.here hx rfl (hb hby d4_4) rfl k)) ?_
  obtain ⟨cl1489, Ar1489, qq1489, S1489, M1489, H1489, G1489⟩ := id (pV_a1441)
  have hin1489 : ¬ ((6 : Int32) < 0 ∨ cl1489.slots.size ≤ ((6 : Int32)).toNatClampNeg) := inb_of S1489 ⟨by decide, by decide⟩
  refine own_via (fun t k => X1488.baloadBytes hx (j := (6 : Int32)) (v := (.int (116 : Int32))) (by rw [e1488]; exact Ar1489.1) (State.isArrayOf_alike hZ.alike Ar1489.2.1) Ar1489.2.2 hin1489 (Has.at H1489 hin1489 rfl) (g := (mkF m 5 #[rv a1440, iv (6 : Int32)] [(.int (6 : Int32)), (.ref a1441)])) rfl rfl (hb hby d4_5) t (XS.bipush X1488.here hx rfl (hb hby d4_6) (XS.icmpNo X1488.here hx rfl (hb hby d4_8) rfl (teq (by decide : (116 : Int32) = (116 : Int32))).2 (XS.iconst X1488.here hx rfl (hb hby d4_11) (XS.goto X1488.here hx rfl (pc0 := 12) (pc' := 16) rfl (hb hby d4_12) (by decide) (by decide) k))))) ?_
  show own_Goes p e below (T1488.setTop (mkF m 16 #[rv a1440, iv (6 : Int32)] [(.int (1 : Int32))])) _
  obtain ⟨fs, hr, hrun, hended, hW, hsame⟩ := X1488.leave (v := some (.int (1 : Int32))) (fun h => by rw [Bd.returns] at h; cases h)
  refine own_end (t := T1488.setFrames fs) ?_ ⟨_, hrun, hended, _, _, rfl, ?_, ⟨_, rfl⟩, hW, hsame.mono (by decide) (by decide)⟩
  · exact retN X1488 hx (t := .boolean) Bd.returns (by simp) (hb hby d4_16) hr
  · show Q17 Z a1440 a1441 k1453 p1442 p1443 p1444 p1445 p1446 p1447 p1448 p1449 p1450 p1451 p1452 h0 n0 _ T1488.heap _
    rw [e1488]
    exact ⟨rfl, N0, rfl⟩
def Q18 (Z : State) (a1521 : Addr) (a1522 : Addr) (k1534 : ClassId) (p1523 : Int32) (p1524 : Int32) (p1525 : Int32) (p1526 : Int32) (p1527 : Int32) (p1528 : Int32) (p1529 : Int32) (p1530 : Int32) (p1531 : Int32) (p1532 : Int32) (p1533 : Int32) (h0 : Heap) (n0 : Nat) (v : Option Value) (h : Heap) (L : List Loc) : Prop := v = some (.int (1 : Int32)) ∧ Fr n0 L ∧ h = h0
set_option maxRecDepth 65536 in
set_option maxHeartbeats 40000000 in
theorem rm18 (l : Launch) (Z : State) (a0 : Array Value) (hw : ∀ d ∈ tables_1, d.before a0 Z = true) (ws : List Jvm.Cond) (a1521 : Addr) (a1522 : Addr) (k1534 : ClassId) (p1523 : Int32) (p1524 : Int32) (p1525 : Int32) (p1526 : Int32) (p1527 : Int32) (p1528 : Int32) (p1529 : Int32) (p1530 : Int32) (p1531 : Int32) (p1532 : Int32) (p1533 : Int32) (h0 : Heap) (n0 : Nat) (O0 : Old Z n0 h0) (pF_a1521_text : Fld Z h0 a1521 zs1 "text" "[B" (.ref a1522)) (pV_a1522 : Arv Z h0 a1522 k1534 .byte (12 : Int32) [(.int p1523), (.int p1524), (.int p1525), (.int p1526), (.int p1527), (.int p1528), (.int p1529), (.int (116 : Int32)), (.int p1530), (.int p1531), (.int p1532), (.int p1533)] (.int (0 : Int32))) :
    MetFree l (⟨zs1, "bool", "(I)Z"⟩ : MethodName) (head1 (Jvm.Cond.code (⟨zs1, "bool", "(I)Z"⟩ : MethodName) prog_17_method_22_code 2 (some .boolean) :: ws) ({ frames := 0, cells := 0, slots := 0, locals := 0 } : Room)) (fun a U => a = #[(.ref a1521), (.int (7 : Int32))] ∧ Z.Warmed39 U.vm ∧ U.heap = h0) (fun _ _ _ _ _ => True) (fun _ U o U' => ∃ v L, o = .returned v ∧ Q18 Z a1521 a1522 k1534 p1523 p1524 p1525 p1526 p1527 p1528 p1529 p1530 p1531 p1532 p1533 h0 n0 v U'.heap L ∧ FrameEnd U o U' L ({ frames := 0, cells := 0, slots := 0, locals := 0 } : Room).cells ({ frames := 0, cells := 0, slots := 0, locals := 0 } : Room).slots) := by
  refine MetFree.of_bodySF (plainFor_of_name pn_1) hisR ?_
  intro p e s m args below meth c s₁ Bd hml0 hP hK
  obtain ⟨rfl, hZ, hh⟩ := hP
  have hx := Bd.exec
  have hby := Bd.bytes
  have hml : c.maxLocals = 2 := hml0
  have hown : s.vm.findClass zs1 = some m.cls := findClass_of_methodNamed Bd.named
  have hnm := (name_of_methodNamed Bd.named Bd.method).1
  have X0 : Stand p l e ({ frames := 0, cells := 0, slots := 0, locals := 0 } : Room) s m #[(.ref a1521), (.int (7 : Int32))] below meth c s₁ [] 0 0 := Stand.of_body Bd
  have e0 : s₁.heap = h0 := by rw [← hh, Bd.state]; rfl
  have N0 := Fr.nil n0
  refine own_out ?_
  refine own_via (fun t k => castTop (ef_3 m a1521 (7 : Int32)) (XS.aloadN X0.here hx rfl (hb hby d4_0) rfl rfl k)) ?_
  obtain ⟨T1569, X1569, e1569, st1569⟩ := getF X0 hx hZ hown (host := "") (Or.inl (wd hw 18 rfl)) Via.refl e0 pF_a1521_text (g := (mkF m 1 #[rv a1521, iv (7 : Int32)] [(.ref a1521)])) rfl rfl (hb hby d4_1)
  refine own_via (fun t k => st1569 t (XS.iloadN X1569.here hx rfl (hb hby d4_4) rfl k)) ?_
  obtain ⟨cl1570, Ar1570, qq1570, S1570, M1570, H1570, G1570⟩ := id (pV_a1522)
  have hin1570 : ¬ ((7 : Int32) < 0 ∨ cl1570.slots.size ≤ ((7 : Int32)).toNatClampNeg) := inb_of S1570 ⟨by decide, by decide⟩
  refine own_via (fun t k => X1569.baloadBytes hx (j := (7 : Int32)) (v := (.int (116 : Int32))) (by rw [e1569]; exact Ar1570.1) (State.isArrayOf_alike hZ.alike Ar1570.2.1) Ar1570.2.2 hin1570 (Has.at H1570 hin1570 rfl) (g := (mkF m 5 #[rv a1521, iv (7 : Int32)] [(.int (7 : Int32)), (.ref a1522)])) rfl rfl (hb hby d4_5) t (XS.bipush X1569.here hx rfl (hb hby d4_6) (XS.icmpNo X1569.here hx rfl (hb hby d4_8) rfl (teq (by decide : (116 : Int32) = (116 : Int32))).2 (XS.iconst X1569.here hx rfl (hb hby d4_11) (XS.goto X1569.here hx rfl (pc0 := 12) (pc' := 16) rfl (hb hby d4_12) (by decide) (by decide) k))))) ?_
  show own_Goes p e below (T1569.setTop (mkF m 16 #[rv a1521, iv (7 : Int32)] [(.int (1 : Int32))])) _
  obtain ⟨fs, hr, hrun, hended, hW, hsame⟩ := X1569.leave (v := some (.int (1 : Int32))) (fun h => by rw [Bd.returns] at h; cases h)
  refine own_end (t := T1569.setFrames fs) ?_ ⟨_, hrun, hended, _, _, rfl, ?_, ⟨_, rfl⟩, hW, hsame.mono (by decide) (by decide)⟩
  · exact retN X1569 hx (t := .boolean) Bd.returns (by simp) (hb hby d4_16) hr
  · show Q18 Z a1521 a1522 k1534 p1523 p1524 p1525 p1526 p1527 p1528 p1529 p1530 p1531 p1532 p1533 h0 n0 _ T1569.heap _
    rw [e1569]
    exact ⟨rfl, N0, rfl⟩
theorem ef_4 (m : MethodId) (x0 : Int32) (x1 : Int32) (x2 : Int64) (x3 : Int64) : entryFrame m #[(.int x0), (.int x1), (.long x2), (.long x3)] maxLocals = mkF m 0 #[iv x0, iv x1, .val (.long x2), .second, .val (.long x3), .second, .unset, .unset, .unset, .unset] [] := by first | (simp [entryFrame, mkF, argsToLocals, Value.category, maxLocals]; done) | rfl
theorem pn_2 : plainName "com/example/kempt_envelope/kemptenvelope/JsonTapeBoolPinLaw" = true := by first | (simp [plainName, overriddenIn]; done) | decide +kernel
set_option maxRecDepth 65536 in
set_option maxHeartbeats 40000000 in
theorem rm0 (l : Launch) (Z : State) (a0 : Array Value) (hw : ∀ d ∈ tables_1, d.before a0 Z = true) (ws : List Jvm.Cond) (i0 : Int32) (i1 : Int32) (i2 : Int64) (i3 : Int64) (h0 : Heap) (n0 : Nat) (O0 : Old Z n0 h0) :
    MetFree l x (head1 (Jvm.Cond.code x code maxLocals ret :: ws) room_1) (fun a U => a = #[(.int i0), (.int i1), (.long i2), (.long i3)] ∧ Z.Warmed39 U.vm ∧ U.heap = h0) (fun _ _ _ _ _ => True) (fun _ U o U' => ∃ v L, o = .returned v ∧ own_Q0 n0 v L ∧ FrameEnd U o U' L room_1.cells room_1.slots) := by
  refine MetFree.of_bodySF (plainFor_of_name pn_2) hisR ?_
  intro p e s m args below meth c s₁ Bd hml0 hP hK
  obtain ⟨rfl, hZ, hh⟩ := hP
  have hx := Bd.exec
  have hby := Bd.bytes
  have hml : c.maxLocals = 10 := hml0
  have hown : s.vm.findClass "com/example/kempt_envelope/kemptenvelope/JsonTapeBoolPinLaw" = some m.cls := findClass_of_methodNamed Bd.named
  have hnm := (name_of_methodNamed Bd.named Bd.method).1
  have X0 : Stand p l e room_1 s m #[(.int i0), (.int i1), (.long i2), (.long i3)] below meth c s₁ [] 0 0 := Stand.of_body Bd
  have e0 : s₁.heap = h0 := by rw [← hh, Bd.state]; rfl
  have N0 := Fr.nil n0
  refine own_out ?_
  show own_Goes p e below _ (own_G s below n0)
  refine own_via (fun t k => castTop (ef_4 m i0 i1 i2 i3) (XS.iloadN X0.here hx rfl (hb hby at_0) rfl (XS.iconst X0.here hx rfl (hb hby at_1) (XS.iand X0.here hx rfl (hb hby at_2) rfl k)))) ?_
  show own_Goes p e below (s₁.setTop (mkF m 3 #[iv i0, iv i1, .val (.long i2), .second, .val (.long i3), .second, .unset, .unset, .unset, .unset] [(.int (i0 &&& (1 : Int32)))])) _
  by_cases hc1 : (i0 &&& (1 : Int32)) = (0 : Int32)
  · refine own_via (fun t k => XS.ifYes X0.here hx rfl (pc0 := 3) (pc' := 10) rfl (hb hby at_3) rfl ((if0 _ _).trans (teq hc1).1) (by decide) (by decide) (XS.iconst X0.here hx rfl (hb hby at_10) (XS.istore X0.here hx rfl (hb hby at_11) rfl (l' := #[iv i0, iv i1, .val (.long i2), .second, .val (.long i3), .second, iv (0 : Int32), .unset, .unset, .unset]) rfl (XS.iloadN X0.here hx rfl (hb hby at_13) rfl (XS.bipush X0.here hx rfl (hb hby at_14) (XS.iand X0.here hx rfl (hb hby at_16) rfl (XS.istore X0.here hx rfl (hb hby at_17) rfl (l' := #[iv i0, iv i1, .val (.long i2), .second, .val (.long i3), .second, iv (0 : Int32), iv (i1 &&& (7 : Int32)), .unset, .unset]) rfl (XS.bipush X0.here hx rfl (hb hby at_19) k)))))))) ?_
    show own_Goes p e below (s₁.setTop (mkF m 21 #[iv i0, iv i1, .val (.long i2), .second, .val (.long i3), .second, iv (0 : Int32), iv (i1 &&& (7 : Int32)), .unset, .unset] [(.int (12 : Int32))])) _
    obtain ⟨T2, h2, k2, X2, e2, E2, A2, a2x, st2⟩ := newPE X0 hx hZ (wd hw 0 rfl) e0 (g := (mkF m 21 #[iv i0, iv i1, .val (.long i2), .second, .val (.long i3), .second, iv (0 : Int32), iv (i1 &&& (7 : Int32)), .unset, .unset] [(.int (12 : Int32))])) rfl (hb hby at_21) rfl (by decide) (cap := 12) (by decide) (by decide) (by decide) (by decide) (ad := "[B") (by decide)
    obtain ⟨b3, q2⟩ : ∃ z, z = h0.size := ⟨_, rfl⟩
    rw [← q2] at A2 st2 a2x
    refine own_via (fun t k => st2 t k) ?_
    have g4 : n0 ≤ b3 := Nat.le_trans (own_old O0) (Nat.le_of_eq q2.symm)
    have B5 : h0.size ≤ b3 := Nat.le_trans (Nat.le_refl _) (Nat.le_of_eq q2.symm)
    have V6 : Arv Z h2 b3 k2 .byte (12 : Int32) [] (.int (0 : Int32)) := Arv.new A2 (by decide)
    show own_Goes p e below (T2.setTop (mkF m 23 #[iv i0, iv i1, .val (.long i2), .second, .val (.long i3), .second, iv (0 : Int32), iv (i1 &&& (7 : Int32)), .unset, .unset] [(.ref b3)])) _
    refine own_via (fun t k => XS.astore X2.here hx rfl (hb hby at_23) rfl rfl (l' := #[iv i0, iv i1, .val (.long i2), .second, .val (.long i3), .second, iv (0 : Int32), iv (i1 &&& (7 : Int32)), rv b3, .unset]) rfl (XS.aload X2.here hx rfl (hb hby at_25) rfl rfl (XS.iconst X2.here hx rfl (hb hby at_27) (XS.lloadN X2.here hx rfl (hb hby at_28) rfl (XS.l2i X2.here hx rfl (hb hby at_29) rfl (XS.i2b X2.here hx rfl (hb hby at_30) rfl k)))))) ?_
    show own_Goes p e below (T2.setTop (mkF m 31 #[iv i0, iv i1, .val (.long i2), .second, .val (.long i3), .second, iv (0 : Int32), iv (i1 &&& (7 : Int32)), rv b3, .unset] [(.int ((i2.toInt32).toInt8.toInt32)), (.int (0 : Int32)), (.ref b3)])) _
    obtain ⟨y7, hy7⟩ : ∃ z, z = ((i2.toInt32).toInt8.toInt32) := ⟨_, rfl⟩
    rw [← hy7]
    show own_Goes p e below (T2.setTop (mkF m 31 #[iv i0, iv i1, .val (.long i2), .second, .val (.long i3), .second, iv (0 : Int32), iv (i1 &&& (7 : Int32)), rv b3, .unset] [(.int y7), (.int (0 : Int32)), (.ref b3)])) _
    have V8 : Arv Z h2 b3 k2 .byte (12 : Int32) [(.int (0 : Int32))] (.int (0 : Int32)) := V6.pad (pad_rep [] (.int (0 : Int32)) 1)
    obtain ⟨cl9, Ar9, qq9, S9, M9, H9, G9⟩ := id (V8)
    have hin9 : ¬ ((0 : Int32) < 0 ∨ cl9.slots.size ≤ ((0 : Int32)).toNatClampNeg) := inb_of S9 ⟨by decide, by decide⟩
    obtain ⟨T9, h9, X9, e9, W9, st9⟩ := stB X2 hx hZ e2 Ar9 (j := (0 : Int32)) hin9 (g := (mkF m 31 #[iv i0, iv i1, .val (.long i2), .second, .val (.long i3), .second, iv (0 : Int32), iv (i1 &&& (7 : Int32)), rv b3, .unset] [(.int y7), (.int (0 : Int32)), (.ref b3)])) rfl rfl (hb hby at_31)
    refine own_via (fun t k => st9 t k) ?_
    have V10 : Arv Z h9 b3 k2 .byte (12 : Int32) [(.int (y7.toInt8.toInt32))] (.int (0 : Int32)) := Arv.set Ar9 qq9 S9 M9 H9 G9 (fits_nar_byte _) W9 0 rfl (Nat.le_of_ble_eq_true rfl)
    have N9 := Fr.snoc X9 N0 g4
    show own_Goes p e below (T9.setTop (mkF m 32 #[iv i0, iv i1, .val (.long i2), .second, .val (.long i3), .second, iv (0 : Int32), iv (i1 &&& (7 : Int32)), rv b3, .unset] [])) _
    refine own_via (fun t k => XS.aload X9.here hx rfl (hb hby at_32) rfl rfl (XS.iconst X9.here hx rfl (hb hby at_34) (XS.lloadN X9.here hx rfl (hb hby at_35) rfl (XS.bipush X9.here hx rfl (hb hby at_36) (XS.lushr X9.here hx rfl (hb hby at_38) rfl (XS.l2i X9.here hx rfl (hb hby at_39) rfl (XS.i2b X9.here hx rfl (hb hby at_40) rfl k))))))) ?_
    show own_Goes p e below (T9.setTop (mkF m 41 #[iv i0, iv i1, .val (.long i2), .second, .val (.long i3), .second, iv (0 : Int32), iv (i1 &&& (7 : Int32)), rv b3, .unset] [(.int ((((i2.toUInt64 >>> ((8 : Int32) &&& 0x3f).toInt64.toUInt64).toInt64).toInt32).toInt8.toInt32)), (.int (1 : Int32)), (.ref b3)])) _
    obtain ⟨y11, hy11⟩ : ∃ z, z = ((((i2.toUInt64 >>> ((8 : Int32) &&& 0x3f).toInt64.toUInt64).toInt64).toInt32).toInt8.toInt32) := ⟨_, rfl⟩
    rw [← hy11]
    show own_Goes p e below (T9.setTop (mkF m 41 #[iv i0, iv i1, .val (.long i2), .second, .val (.long i3), .second, iv (0 : Int32), iv (i1 &&& (7 : Int32)), rv b3, .unset] [(.int y11), (.int (1 : Int32)), (.ref b3)])) _
    have V12 : Arv Z h9 b3 k2 .byte (12 : Int32) [(.int (y7.toInt8.toInt32)), (.int (0 : Int32))] (.int (0 : Int32)) := V10.pad (pad_rep [(.int (y7.toInt8.toInt32))] (.int (0 : Int32)) 1)
    obtain ⟨cl13, Ar13, qq13, S13, M13, H13, G13⟩ := id (V12)
    have hin13 : ¬ ((1 : Int32) < 0 ∨ cl13.slots.size ≤ ((1 : Int32)).toNatClampNeg) := inb_of S13 ⟨by decide, by decide⟩
    obtain ⟨T13, h13, X13, e13, W13, st13⟩ := stB X9 hx hZ e9 Ar13 (j := (1 : Int32)) hin13 (g := (mkF m 41 #[iv i0, iv i1, .val (.long i2), .second, .val (.long i3), .second, iv (0 : Int32), iv (i1 &&& (7 : Int32)), rv b3, .unset] [(.int y11), (.int (1 : Int32)), (.ref b3)])) rfl rfl (hb hby at_41)
    refine own_via (fun t k => st13 t k) ?_
    have V14 : Arv Z h13 b3 k2 .byte (12 : Int32) [(.int (y7.toInt8.toInt32)), (.int (y11.toInt8.toInt32))] (.int (0 : Int32)) := Arv.set Ar13 qq13 S13 M13 H13 G13 (fits_nar_byte _) W13 1 rfl (Nat.le_of_ble_eq_true rfl)
    have N13 := Fr.snoc X13 N9 g4
    show own_Goes p e below (T13.setTop (mkF m 42 #[iv i0, iv i1, .val (.long i2), .second, .val (.long i3), .second, iv (0 : Int32), iv (i1 &&& (7 : Int32)), rv b3, .unset] [])) _
    refine own_via (fun t k => XS.aload X13.here hx rfl (hb hby at_42) rfl rfl (XS.iconst X13.here hx rfl (hb hby at_44) (XS.lloadN X13.here hx rfl (hb hby at_45) rfl (XS.bipush X13.here hx rfl (hb hby at_46) (XS.lushr X13.here hx rfl (hb hby at_48) rfl (XS.l2i X13.here hx rfl (hb hby at_49) rfl (XS.i2b X13.here hx rfl (hb hby at_50) rfl k))))))) ?_
    show own_Goes p e below (T13.setTop (mkF m 51 #[iv i0, iv i1, .val (.long i2), .second, .val (.long i3), .second, iv (0 : Int32), iv (i1 &&& (7 : Int32)), rv b3, .unset] [(.int ((((i2.toUInt64 >>> ((16 : Int32) &&& 0x3f).toInt64.toUInt64).toInt64).toInt32).toInt8.toInt32)), (.int (2 : Int32)), (.ref b3)])) _
    obtain ⟨y15, hy15⟩ : ∃ z, z = ((((i2.toUInt64 >>> ((16 : Int32) &&& 0x3f).toInt64.toUInt64).toInt64).toInt32).toInt8.toInt32) := ⟨_, rfl⟩
    rw [← hy15]
    show own_Goes p e below (T13.setTop (mkF m 51 #[iv i0, iv i1, .val (.long i2), .second, .val (.long i3), .second, iv (0 : Int32), iv (i1 &&& (7 : Int32)), rv b3, .unset] [(.int y15), (.int (2 : Int32)), (.ref b3)])) _
    have V16 : Arv Z h13 b3 k2 .byte (12 : Int32) [(.int (y7.toInt8.toInt32)), (.int (y11.toInt8.toInt32)), (.int (0 : Int32))] (.int (0 : Int32)) := V14.pad (pad_rep [(.int (y7.toInt8.toInt32)), (.int (y11.toInt8.toInt32))] (.int (0 : Int32)) 1)
    obtain ⟨cl17, Ar17, qq17, S17, M17, H17, G17⟩ := id (V16)
    have hin17 : ¬ ((2 : Int32) < 0 ∨ cl17.slots.size ≤ ((2 : Int32)).toNatClampNeg) := inb_of S17 ⟨by decide, by decide⟩
    obtain ⟨T17, h17, X17, e17, W17, st17⟩ := stB X13 hx hZ e13 Ar17 (j := (2 : Int32)) hin17 (g := (mkF m 51 #[iv i0, iv i1, .val (.long i2), .second, .val (.long i3), .second, iv (0 : Int32), iv (i1 &&& (7 : Int32)), rv b3, .unset] [(.int y15), (.int (2 : Int32)), (.ref b3)])) rfl rfl (hb hby at_51)
    refine own_via (fun t k => st17 t k) ?_
    have V18 : Arv Z h17 b3 k2 .byte (12 : Int32) [(.int (y7.toInt8.toInt32)), (.int (y11.toInt8.toInt32)), (.int (y15.toInt8.toInt32))] (.int (0 : Int32)) := Arv.set Ar17 qq17 S17 M17 H17 G17 (fits_nar_byte _) W17 2 rfl (Nat.le_of_ble_eq_true rfl)
    have N17 := Fr.snoc X17 N13 g4
    show own_Goes p e below (T17.setTop (mkF m 52 #[iv i0, iv i1, .val (.long i2), .second, .val (.long i3), .second, iv (0 : Int32), iv (i1 &&& (7 : Int32)), rv b3, .unset] [])) _
    refine own_via (fun t k => XS.aload X17.here hx rfl (hb hby at_52) rfl rfl (XS.iconst X17.here hx rfl (hb hby at_54) (XS.lloadN X17.here hx rfl (hb hby at_55) rfl (XS.bipush X17.here hx rfl (hb hby at_56) (XS.lushr X17.here hx rfl (hb hby at_58) rfl (XS.l2i X17.here hx rfl (hb hby at_59) rfl (XS.i2b X17.here hx rfl (hb hby at_60) rfl k))))))) ?_
    show own_Goes p e below (T17.setTop (mkF m 61 #[iv i0, iv i1, .val (.long i2), .second, .val (.long i3), .second, iv (0 : Int32), iv (i1 &&& (7 : Int32)), rv b3, .unset] [(.int ((((i2.toUInt64 >>> ((24 : Int32) &&& 0x3f).toInt64.toUInt64).toInt64).toInt32).toInt8.toInt32)), (.int (3 : Int32)), (.ref b3)])) _
    obtain ⟨y19, hy19⟩ : ∃ z, z = ((((i2.toUInt64 >>> ((24 : Int32) &&& 0x3f).toInt64.toUInt64).toInt64).toInt32).toInt8.toInt32) := ⟨_, rfl⟩
    rw [← hy19]
    show own_Goes p e below (T17.setTop (mkF m 61 #[iv i0, iv i1, .val (.long i2), .second, .val (.long i3), .second, iv (0 : Int32), iv (i1 &&& (7 : Int32)), rv b3, .unset] [(.int y19), (.int (3 : Int32)), (.ref b3)])) _
    have V20 : Arv Z h17 b3 k2 .byte (12 : Int32) [(.int (y7.toInt8.toInt32)), (.int (y11.toInt8.toInt32)), (.int (y15.toInt8.toInt32)), (.int (0 : Int32))] (.int (0 : Int32)) := V18.pad (pad_rep [(.int (y7.toInt8.toInt32)), (.int (y11.toInt8.toInt32)), (.int (y15.toInt8.toInt32))] (.int (0 : Int32)) 1)
    obtain ⟨cl21, Ar21, qq21, S21, M21, H21, G21⟩ := id (V20)
    have hin21 : ¬ ((3 : Int32) < 0 ∨ cl21.slots.size ≤ ((3 : Int32)).toNatClampNeg) := inb_of S21 ⟨by decide, by decide⟩
    obtain ⟨T21, h21, X21, e21, W21, st21⟩ := stB X17 hx hZ e17 Ar21 (j := (3 : Int32)) hin21 (g := (mkF m 61 #[iv i0, iv i1, .val (.long i2), .second, .val (.long i3), .second, iv (0 : Int32), iv (i1 &&& (7 : Int32)), rv b3, .unset] [(.int y19), (.int (3 : Int32)), (.ref b3)])) rfl rfl (hb hby at_61)
    refine own_via (fun t k => st21 t k) ?_
    have V22 : Arv Z h21 b3 k2 .byte (12 : Int32) [(.int (y7.toInt8.toInt32)), (.int (y11.toInt8.toInt32)), (.int (y15.toInt8.toInt32)), (.int (y19.toInt8.toInt32))] (.int (0 : Int32)) := Arv.set Ar21 qq21 S21 M21 H21 G21 (fits_nar_byte _) W21 3 rfl (Nat.le_of_ble_eq_true rfl)
    have N21 := Fr.snoc X21 N17 g4
    show own_Goes p e below (T21.setTop (mkF m 62 #[iv i0, iv i1, .val (.long i2), .second, .val (.long i3), .second, iv (0 : Int32), iv (i1 &&& (7 : Int32)), rv b3, .unset] [])) _
    refine own_via (fun t k => XS.aload X21.here hx rfl (hb hby at_62) rfl rfl (XS.iconst X21.here hx rfl (hb hby at_64) (XS.lloadN X21.here hx rfl (hb hby at_65) rfl (XS.bipush X21.here hx rfl (hb hby at_66) (XS.lushr X21.here hx rfl (hb hby at_68) rfl (XS.l2i X21.here hx rfl (hb hby at_69) rfl (XS.i2b X21.here hx rfl (hb hby at_70) rfl k))))))) ?_
    show own_Goes p e below (T21.setTop (mkF m 71 #[iv i0, iv i1, .val (.long i2), .second, .val (.long i3), .second, iv (0 : Int32), iv (i1 &&& (7 : Int32)), rv b3, .unset] [(.int ((((i2.toUInt64 >>> ((32 : Int32) &&& 0x3f).toInt64.toUInt64).toInt64).toInt32).toInt8.toInt32)), (.int (4 : Int32)), (.ref b3)])) _
    obtain ⟨y23, hy23⟩ : ∃ z, z = ((((i2.toUInt64 >>> ((32 : Int32) &&& 0x3f).toInt64.toUInt64).toInt64).toInt32).toInt8.toInt32) := ⟨_, rfl⟩
    rw [← hy23]
    show own_Goes p e below (T21.setTop (mkF m 71 #[iv i0, iv i1, .val (.long i2), .second, .val (.long i3), .second, iv (0 : Int32), iv (i1 &&& (7 : Int32)), rv b3, .unset] [(.int y23), (.int (4 : Int32)), (.ref b3)])) _
    have V24 : Arv Z h21 b3 k2 .byte (12 : Int32) [(.int (y7.toInt8.toInt32)), (.int (y11.toInt8.toInt32)), (.int (y15.toInt8.toInt32)), (.int (y19.toInt8.toInt32)), (.int (0 : Int32))] (.int (0 : Int32)) := V22.pad (pad_rep [(.int (y7.toInt8.toInt32)), (.int (y11.toInt8.toInt32)), (.int (y15.toInt8.toInt32)), (.int (y19.toInt8.toInt32))] (.int (0 : Int32)) 1)
    obtain ⟨cl25, Ar25, qq25, S25, M25, H25, G25⟩ := id (V24)
    have hin25 : ¬ ((4 : Int32) < 0 ∨ cl25.slots.size ≤ ((4 : Int32)).toNatClampNeg) := inb_of S25 ⟨by decide, by decide⟩
    obtain ⟨T25, h25, X25, e25, W25, st25⟩ := stB X21 hx hZ e21 Ar25 (j := (4 : Int32)) hin25 (g := (mkF m 71 #[iv i0, iv i1, .val (.long i2), .second, .val (.long i3), .second, iv (0 : Int32), iv (i1 &&& (7 : Int32)), rv b3, .unset] [(.int y23), (.int (4 : Int32)), (.ref b3)])) rfl rfl (hb hby at_71)
    refine own_via (fun t k => st25 t k) ?_
    have V26 : Arv Z h25 b3 k2 .byte (12 : Int32) [(.int (y7.toInt8.toInt32)), (.int (y11.toInt8.toInt32)), (.int (y15.toInt8.toInt32)), (.int (y19.toInt8.toInt32)), (.int (y23.toInt8.toInt32))] (.int (0 : Int32)) := Arv.set Ar25 qq25 S25 M25 H25 G25 (fits_nar_byte _) W25 4 rfl (Nat.le_of_ble_eq_true rfl)
    have N25 := Fr.snoc X25 N21 g4
    show own_Goes p e below (T25.setTop (mkF m 72 #[iv i0, iv i1, .val (.long i2), .second, .val (.long i3), .second, iv (0 : Int32), iv (i1 &&& (7 : Int32)), rv b3, .unset] [])) _
    refine own_via (fun t k => XS.aload X25.here hx rfl (hb hby at_72) rfl rfl (XS.iconst X25.here hx rfl (hb hby at_74) (XS.lloadN X25.here hx rfl (hb hby at_75) rfl (XS.bipush X25.here hx rfl (hb hby at_76) (XS.lushr X25.here hx rfl (hb hby at_78) rfl (XS.l2i X25.here hx rfl (hb hby at_79) rfl (XS.i2b X25.here hx rfl (hb hby at_80) rfl k))))))) ?_
    show own_Goes p e below (T25.setTop (mkF m 81 #[iv i0, iv i1, .val (.long i2), .second, .val (.long i3), .second, iv (0 : Int32), iv (i1 &&& (7 : Int32)), rv b3, .unset] [(.int ((((i2.toUInt64 >>> ((40 : Int32) &&& 0x3f).toInt64.toUInt64).toInt64).toInt32).toInt8.toInt32)), (.int (5 : Int32)), (.ref b3)])) _
    obtain ⟨y27, hy27⟩ : ∃ z, z = ((((i2.toUInt64 >>> ((40 : Int32) &&& 0x3f).toInt64.toUInt64).toInt64).toInt32).toInt8.toInt32) := ⟨_, rfl⟩
    rw [← hy27]
    show own_Goes p e below (T25.setTop (mkF m 81 #[iv i0, iv i1, .val (.long i2), .second, .val (.long i3), .second, iv (0 : Int32), iv (i1 &&& (7 : Int32)), rv b3, .unset] [(.int y27), (.int (5 : Int32)), (.ref b3)])) _
    have V28 : Arv Z h25 b3 k2 .byte (12 : Int32) [(.int (y7.toInt8.toInt32)), (.int (y11.toInt8.toInt32)), (.int (y15.toInt8.toInt32)), (.int (y19.toInt8.toInt32)), (.int (y23.toInt8.toInt32)), (.int (0 : Int32))] (.int (0 : Int32)) := V26.pad (pad_rep [(.int (y7.toInt8.toInt32)), (.int (y11.toInt8.toInt32)), (.int (y15.toInt8.toInt32)), (.int (y19.toInt8.toInt32)), (.int (y23.toInt8.toInt32))] (.int (0 : Int32)) 1)
    obtain ⟨cl29, Ar29, qq29, S29, M29, H29, G29⟩ := id (V28)
    have hin29 : ¬ ((5 : Int32) < 0 ∨ cl29.slots.size ≤ ((5 : Int32)).toNatClampNeg) := inb_of S29 ⟨by decide, by decide⟩
    obtain ⟨T29, h29, X29, e29, W29, st29⟩ := stB X25 hx hZ e25 Ar29 (j := (5 : Int32)) hin29 (g := (mkF m 81 #[iv i0, iv i1, .val (.long i2), .second, .val (.long i3), .second, iv (0 : Int32), iv (i1 &&& (7 : Int32)), rv b3, .unset] [(.int y27), (.int (5 : Int32)), (.ref b3)])) rfl rfl (hb hby at_81)
    refine own_via (fun t k => st29 t k) ?_
    have V30 : Arv Z h29 b3 k2 .byte (12 : Int32) [(.int (y7.toInt8.toInt32)), (.int (y11.toInt8.toInt32)), (.int (y15.toInt8.toInt32)), (.int (y19.toInt8.toInt32)), (.int (y23.toInt8.toInt32)), (.int (y27.toInt8.toInt32))] (.int (0 : Int32)) := Arv.set Ar29 qq29 S29 M29 H29 G29 (fits_nar_byte _) W29 5 rfl (Nat.le_of_ble_eq_true rfl)
    have N29 := Fr.snoc X29 N25 g4
    show own_Goes p e below (T29.setTop (mkF m 82 #[iv i0, iv i1, .val (.long i2), .second, .val (.long i3), .second, iv (0 : Int32), iv (i1 &&& (7 : Int32)), rv b3, .unset] [])) _
    refine own_via (fun t k => XS.aload X29.here hx rfl (hb hby at_82) rfl rfl (XS.bipush X29.here hx rfl (hb hby at_84) (XS.lloadN X29.here hx rfl (hb hby at_86) rfl (XS.bipush X29.here hx rfl (hb hby at_87) (XS.lushr X29.here hx rfl (hb hby at_89) rfl (XS.l2i X29.here hx rfl (hb hby at_90) rfl (XS.i2b X29.here hx rfl (hb hby at_91) rfl k))))))) ?_
    show own_Goes p e below (T29.setTop (mkF m 92 #[iv i0, iv i1, .val (.long i2), .second, .val (.long i3), .second, iv (0 : Int32), iv (i1 &&& (7 : Int32)), rv b3, .unset] [(.int ((((i2.toUInt64 >>> ((48 : Int32) &&& 0x3f).toInt64.toUInt64).toInt64).toInt32).toInt8.toInt32)), (.int (6 : Int32)), (.ref b3)])) _
    obtain ⟨y31, hy31⟩ : ∃ z, z = ((((i2.toUInt64 >>> ((48 : Int32) &&& 0x3f).toInt64.toUInt64).toInt64).toInt32).toInt8.toInt32) := ⟨_, rfl⟩
    rw [← hy31]
    show own_Goes p e below (T29.setTop (mkF m 92 #[iv i0, iv i1, .val (.long i2), .second, .val (.long i3), .second, iv (0 : Int32), iv (i1 &&& (7 : Int32)), rv b3, .unset] [(.int y31), (.int (6 : Int32)), (.ref b3)])) _
    have V32 : Arv Z h29 b3 k2 .byte (12 : Int32) [(.int (y7.toInt8.toInt32)), (.int (y11.toInt8.toInt32)), (.int (y15.toInt8.toInt32)), (.int (y19.toInt8.toInt32)), (.int (y23.toInt8.toInt32)), (.int (y27.toInt8.toInt32)), (.int (0 : Int32))] (.int (0 : Int32)) := V30.pad (pad_rep [(.int (y7.toInt8.toInt32)), (.int (y11.toInt8.toInt32)), (.int (y15.toInt8.toInt32)), (.int (y19.toInt8.toInt32)), (.int (y23.toInt8.toInt32)), (.int (y27.toInt8.toInt32))] (.int (0 : Int32)) 1)
    obtain ⟨cl33, Ar33, qq33, S33, M33, H33, G33⟩ := id (V32)
    have hin33 : ¬ ((6 : Int32) < 0 ∨ cl33.slots.size ≤ ((6 : Int32)).toNatClampNeg) := inb_of S33 ⟨by decide, by decide⟩
    obtain ⟨T33, h33, X33, e33, W33, st33⟩ := stB X29 hx hZ e29 Ar33 (j := (6 : Int32)) hin33 (g := (mkF m 92 #[iv i0, iv i1, .val (.long i2), .second, .val (.long i3), .second, iv (0 : Int32), iv (i1 &&& (7 : Int32)), rv b3, .unset] [(.int y31), (.int (6 : Int32)), (.ref b3)])) rfl rfl (hb hby at_92)
    refine own_via (fun t k => st33 t k) ?_
    have V34 : Arv Z h33 b3 k2 .byte (12 : Int32) [(.int (y7.toInt8.toInt32)), (.int (y11.toInt8.toInt32)), (.int (y15.toInt8.toInt32)), (.int (y19.toInt8.toInt32)), (.int (y23.toInt8.toInt32)), (.int (y27.toInt8.toInt32)), (.int (y31.toInt8.toInt32))] (.int (0 : Int32)) := Arv.set Ar33 qq33 S33 M33 H33 G33 (fits_nar_byte _) W33 6 rfl (Nat.le_of_ble_eq_true rfl)
    have N33 := Fr.snoc X33 N29 g4
    show own_Goes p e below (T33.setTop (mkF m 93 #[iv i0, iv i1, .val (.long i2), .second, .val (.long i3), .second, iv (0 : Int32), iv (i1 &&& (7 : Int32)), rv b3, .unset] [])) _
    refine own_via (fun t k => XS.aload X33.here hx rfl (hb hby at_93) rfl rfl (XS.bipush X33.here hx rfl (hb hby at_95) (XS.lloadN X33.here hx rfl (hb hby at_97) rfl (XS.bipush X33.here hx rfl (hb hby at_98) (XS.lushr X33.here hx rfl (hb hby at_100) rfl (XS.l2i X33.here hx rfl (hb hby at_101) rfl (XS.i2b X33.here hx rfl (hb hby at_102) rfl k))))))) ?_
    show own_Goes p e below (T33.setTop (mkF m 103 #[iv i0, iv i1, .val (.long i2), .second, .val (.long i3), .second, iv (0 : Int32), iv (i1 &&& (7 : Int32)), rv b3, .unset] [(.int ((((i2.toUInt64 >>> ((56 : Int32) &&& 0x3f).toInt64.toUInt64).toInt64).toInt32).toInt8.toInt32)), (.int (7 : Int32)), (.ref b3)])) _
    obtain ⟨y35, hy35⟩ : ∃ z, z = ((((i2.toUInt64 >>> ((56 : Int32) &&& 0x3f).toInt64.toUInt64).toInt64).toInt32).toInt8.toInt32) := ⟨_, rfl⟩
    rw [← hy35]
    show own_Goes p e below (T33.setTop (mkF m 103 #[iv i0, iv i1, .val (.long i2), .second, .val (.long i3), .second, iv (0 : Int32), iv (i1 &&& (7 : Int32)), rv b3, .unset] [(.int y35), (.int (7 : Int32)), (.ref b3)])) _
    have V36 : Arv Z h33 b3 k2 .byte (12 : Int32) [(.int (y7.toInt8.toInt32)), (.int (y11.toInt8.toInt32)), (.int (y15.toInt8.toInt32)), (.int (y19.toInt8.toInt32)), (.int (y23.toInt8.toInt32)), (.int (y27.toInt8.toInt32)), (.int (y31.toInt8.toInt32)), (.int (0 : Int32))] (.int (0 : Int32)) := V34.pad (pad_rep [(.int (y7.toInt8.toInt32)), (.int (y11.toInt8.toInt32)), (.int (y15.toInt8.toInt32)), (.int (y19.toInt8.toInt32)), (.int (y23.toInt8.toInt32)), (.int (y27.toInt8.toInt32)), (.int (y31.toInt8.toInt32))] (.int (0 : Int32)) 1)
    obtain ⟨cl37, Ar37, qq37, S37, M37, H37, G37⟩ := id (V36)
    have hin37 : ¬ ((7 : Int32) < 0 ∨ cl37.slots.size ≤ ((7 : Int32)).toNatClampNeg) := inb_of S37 ⟨by decide, by decide⟩
    obtain ⟨T37, h37, X37, e37, W37, st37⟩ := stB X33 hx hZ e33 Ar37 (j := (7 : Int32)) hin37 (g := (mkF m 103 #[iv i0, iv i1, .val (.long i2), .second, .val (.long i3), .second, iv (0 : Int32), iv (i1 &&& (7 : Int32)), rv b3, .unset] [(.int y35), (.int (7 : Int32)), (.ref b3)])) rfl rfl (hb hby at_103)
    refine own_via (fun t k => st37 t k) ?_
    have V38 : Arv Z h37 b3 k2 .byte (12 : Int32) [(.int (y7.toInt8.toInt32)), (.int (y11.toInt8.toInt32)), (.int (y15.toInt8.toInt32)), (.int (y19.toInt8.toInt32)), (.int (y23.toInt8.toInt32)), (.int (y27.toInt8.toInt32)), (.int (y31.toInt8.toInt32)), (.int (y35.toInt8.toInt32))] (.int (0 : Int32)) := Arv.set Ar37 qq37 S37 M37 H37 G37 (fits_nar_byte _) W37 7 rfl (Nat.le_of_ble_eq_true rfl)
    have N37 := Fr.snoc X37 N33 g4
    show own_Goes p e below (T37.setTop (mkF m 104 #[iv i0, iv i1, .val (.long i2), .second, .val (.long i3), .second, iv (0 : Int32), iv (i1 &&& (7 : Int32)), rv b3, .unset] [])) _
    refine own_via (fun t k => XS.aload X37.here hx rfl (hb hby at_104) rfl rfl (XS.bipush X37.here hx rfl (hb hby at_106) (XS.lload X37.here hx rfl (hb hby at_108) rfl (XS.l2i X37.here hx rfl (hb hby at_110) rfl (XS.i2b X37.here hx rfl (hb hby at_111) rfl k))))) ?_
    show own_Goes p e below (T37.setTop (mkF m 112 #[iv i0, iv i1, .val (.long i2), .second, .val (.long i3), .second, iv (0 : Int32), iv (i1 &&& (7 : Int32)), rv b3, .unset] [(.int ((i3.toInt32).toInt8.toInt32)), (.int (8 : Int32)), (.ref b3)])) _
    obtain ⟨y39, hy39⟩ : ∃ z, z = ((i3.toInt32).toInt8.toInt32) := ⟨_, rfl⟩
    rw [← hy39]
    show own_Goes p e below (T37.setTop (mkF m 112 #[iv i0, iv i1, .val (.long i2), .second, .val (.long i3), .second, iv (0 : Int32), iv (i1 &&& (7 : Int32)), rv b3, .unset] [(.int y39), (.int (8 : Int32)), (.ref b3)])) _
    have V40 : Arv Z h37 b3 k2 .byte (12 : Int32) [(.int (y7.toInt8.toInt32)), (.int (y11.toInt8.toInt32)), (.int (y15.toInt8.toInt32)), (.int (y19.toInt8.toInt32)), (.int (y23.toInt8.toInt32)), (.int (y27.toInt8.toInt32)), (.int (y31.toInt8.toInt32)), (.int (y35.toInt8.toInt32)), (.int (0 : Int32))] (.int (0 : Int32)) := V38.pad (pad_rep [(.int (y7.toInt8.toInt32)), (.int (y11.toInt8.toInt32)), (.int (y15.toInt8.toInt32)), (.int (y19.toInt8.toInt32)), (.int (y23.toInt8.toInt32)), (.int (y27.toInt8.toInt32)), (.int (y31.toInt8.toInt32)), (.int (y35.toInt8.toInt32))] (.int (0 : Int32)) 1)
    obtain ⟨cl41, Ar41, qq41, S41, M41, H41, G41⟩ := id (V40)
    have hin41 : ¬ ((8 : Int32) < 0 ∨ cl41.slots.size ≤ ((8 : Int32)).toNatClampNeg) := inb_of S41 ⟨by decide, by decide⟩
    obtain ⟨T41, h41, X41, e41, W41, st41⟩ := stB X37 hx hZ e37 Ar41 (j := (8 : Int32)) hin41 (g := (mkF m 112 #[iv i0, iv i1, .val (.long i2), .second, .val (.long i3), .second, iv (0 : Int32), iv (i1 &&& (7 : Int32)), rv b3, .unset] [(.int y39), (.int (8 : Int32)), (.ref b3)])) rfl rfl (hb hby at_112)
    refine own_via (fun t k => st41 t k) ?_
    have V42 : Arv Z h41 b3 k2 .byte (12 : Int32) [(.int (y7.toInt8.toInt32)), (.int (y11.toInt8.toInt32)), (.int (y15.toInt8.toInt32)), (.int (y19.toInt8.toInt32)), (.int (y23.toInt8.toInt32)), (.int (y27.toInt8.toInt32)), (.int (y31.toInt8.toInt32)), (.int (y35.toInt8.toInt32)), (.int (y39.toInt8.toInt32))] (.int (0 : Int32)) := Arv.set Ar41 qq41 S41 M41 H41 G41 (fits_nar_byte _) W41 8 rfl (Nat.le_of_ble_eq_true rfl)
    have N41 := Fr.snoc X41 N37 g4
    show own_Goes p e below (T41.setTop (mkF m 113 #[iv i0, iv i1, .val (.long i2), .second, .val (.long i3), .second, iv (0 : Int32), iv (i1 &&& (7 : Int32)), rv b3, .unset] [])) _
    refine own_via (fun t k => XS.aload X41.here hx rfl (hb hby at_113) rfl rfl (XS.bipush X41.here hx rfl (hb hby at_115) (XS.lload X41.here hx rfl (hb hby at_117) rfl (XS.bipush X41.here hx rfl (hb hby at_119) (XS.lushr X41.here hx rfl (hb hby at_121) rfl (XS.l2i X41.here hx rfl (hb hby at_122) rfl (XS.i2b X41.here hx rfl (hb hby at_123) rfl k))))))) ?_
    show own_Goes p e below (T41.setTop (mkF m 124 #[iv i0, iv i1, .val (.long i2), .second, .val (.long i3), .second, iv (0 : Int32), iv (i1 &&& (7 : Int32)), rv b3, .unset] [(.int ((((i3.toUInt64 >>> ((8 : Int32) &&& 0x3f).toInt64.toUInt64).toInt64).toInt32).toInt8.toInt32)), (.int (9 : Int32)), (.ref b3)])) _
    obtain ⟨y43, hy43⟩ : ∃ z, z = ((((i3.toUInt64 >>> ((8 : Int32) &&& 0x3f).toInt64.toUInt64).toInt64).toInt32).toInt8.toInt32) := ⟨_, rfl⟩
    rw [← hy43]
    show own_Goes p e below (T41.setTop (mkF m 124 #[iv i0, iv i1, .val (.long i2), .second, .val (.long i3), .second, iv (0 : Int32), iv (i1 &&& (7 : Int32)), rv b3, .unset] [(.int y43), (.int (9 : Int32)), (.ref b3)])) _
    have V44 : Arv Z h41 b3 k2 .byte (12 : Int32) [(.int (y7.toInt8.toInt32)), (.int (y11.toInt8.toInt32)), (.int (y15.toInt8.toInt32)), (.int (y19.toInt8.toInt32)), (.int (y23.toInt8.toInt32)), (.int (y27.toInt8.toInt32)), (.int (y31.toInt8.toInt32)), (.int (y35.toInt8.toInt32)), (.int (y39.toInt8.toInt32)), (.int (0 : Int32))] (.int (0 : Int32)) := V42.pad (pad_rep [(.int (y7.toInt8.toInt32)), (.int (y11.toInt8.toInt32)), (.int (y15.toInt8.toInt32)), (.int (y19.toInt8.toInt32)), (.int (y23.toInt8.toInt32)), (.int (y27.toInt8.toInt32)), (.int (y31.toInt8.toInt32)), (.int (y35.toInt8.toInt32)), (.int (y39.toInt8.toInt32))] (.int (0 : Int32)) 1)
    obtain ⟨cl45, Ar45, qq45, S45, M45, H45, G45⟩ := id (V44)
    have hin45 : ¬ ((9 : Int32) < 0 ∨ cl45.slots.size ≤ ((9 : Int32)).toNatClampNeg) := inb_of S45 ⟨by decide, by decide⟩
    obtain ⟨T45, h45, X45, e45, W45, st45⟩ := stB X41 hx hZ e41 Ar45 (j := (9 : Int32)) hin45 (g := (mkF m 124 #[iv i0, iv i1, .val (.long i2), .second, .val (.long i3), .second, iv (0 : Int32), iv (i1 &&& (7 : Int32)), rv b3, .unset] [(.int y43), (.int (9 : Int32)), (.ref b3)])) rfl rfl (hb hby at_124)
    refine own_via (fun t k => st45 t k) ?_
    have V46 : Arv Z h45 b3 k2 .byte (12 : Int32) [(.int (y7.toInt8.toInt32)), (.int (y11.toInt8.toInt32)), (.int (y15.toInt8.toInt32)), (.int (y19.toInt8.toInt32)), (.int (y23.toInt8.toInt32)), (.int (y27.toInt8.toInt32)), (.int (y31.toInt8.toInt32)), (.int (y35.toInt8.toInt32)), (.int (y39.toInt8.toInt32)), (.int (y43.toInt8.toInt32))] (.int (0 : Int32)) := Arv.set Ar45 qq45 S45 M45 H45 G45 (fits_nar_byte _) W45 9 rfl (Nat.le_of_ble_eq_true rfl)
    have N45 := Fr.snoc X45 N41 g4
    show own_Goes p e below (T45.setTop (mkF m 125 #[iv i0, iv i1, .val (.long i2), .second, .val (.long i3), .second, iv (0 : Int32), iv (i1 &&& (7 : Int32)), rv b3, .unset] [])) _
    refine own_via (fun t k => XS.aload X45.here hx rfl (hb hby at_125) rfl rfl (XS.bipush X45.here hx rfl (hb hby at_127) (XS.lload X45.here hx rfl (hb hby at_129) rfl (XS.bipush X45.here hx rfl (hb hby at_131) (XS.lushr X45.here hx rfl (hb hby at_133) rfl (XS.l2i X45.here hx rfl (hb hby at_134) rfl (XS.i2b X45.here hx rfl (hb hby at_135) rfl k))))))) ?_
    show own_Goes p e below (T45.setTop (mkF m 136 #[iv i0, iv i1, .val (.long i2), .second, .val (.long i3), .second, iv (0 : Int32), iv (i1 &&& (7 : Int32)), rv b3, .unset] [(.int ((((i3.toUInt64 >>> ((16 : Int32) &&& 0x3f).toInt64.toUInt64).toInt64).toInt32).toInt8.toInt32)), (.int (10 : Int32)), (.ref b3)])) _
    obtain ⟨y47, hy47⟩ : ∃ z, z = ((((i3.toUInt64 >>> ((16 : Int32) &&& 0x3f).toInt64.toUInt64).toInt64).toInt32).toInt8.toInt32) := ⟨_, rfl⟩
    rw [← hy47]
    show own_Goes p e below (T45.setTop (mkF m 136 #[iv i0, iv i1, .val (.long i2), .second, .val (.long i3), .second, iv (0 : Int32), iv (i1 &&& (7 : Int32)), rv b3, .unset] [(.int y47), (.int (10 : Int32)), (.ref b3)])) _
    have V48 : Arv Z h45 b3 k2 .byte (12 : Int32) [(.int (y7.toInt8.toInt32)), (.int (y11.toInt8.toInt32)), (.int (y15.toInt8.toInt32)), (.int (y19.toInt8.toInt32)), (.int (y23.toInt8.toInt32)), (.int (y27.toInt8.toInt32)), (.int (y31.toInt8.toInt32)), (.int (y35.toInt8.toInt32)), (.int (y39.toInt8.toInt32)), (.int (y43.toInt8.toInt32)), (.int (0 : Int32))] (.int (0 : Int32)) := V46.pad (pad_rep [(.int (y7.toInt8.toInt32)), (.int (y11.toInt8.toInt32)), (.int (y15.toInt8.toInt32)), (.int (y19.toInt8.toInt32)), (.int (y23.toInt8.toInt32)), (.int (y27.toInt8.toInt32)), (.int (y31.toInt8.toInt32)), (.int (y35.toInt8.toInt32)), (.int (y39.toInt8.toInt32)), (.int (y43.toInt8.toInt32))] (.int (0 : Int32)) 1)
    obtain ⟨cl49, Ar49, qq49, S49, M49, H49, G49⟩ := id (V48)
    have hin49 : ¬ ((10 : Int32) < 0 ∨ cl49.slots.size ≤ ((10 : Int32)).toNatClampNeg) := inb_of S49 ⟨by decide, by decide⟩
    obtain ⟨T49, h49, X49, e49, W49, st49⟩ := stB X45 hx hZ e45 Ar49 (j := (10 : Int32)) hin49 (g := (mkF m 136 #[iv i0, iv i1, .val (.long i2), .second, .val (.long i3), .second, iv (0 : Int32), iv (i1 &&& (7 : Int32)), rv b3, .unset] [(.int y47), (.int (10 : Int32)), (.ref b3)])) rfl rfl (hb hby at_136)
    refine own_via (fun t k => st49 t k) ?_
    have V50 : Arv Z h49 b3 k2 .byte (12 : Int32) [(.int (y7.toInt8.toInt32)), (.int (y11.toInt8.toInt32)), (.int (y15.toInt8.toInt32)), (.int (y19.toInt8.toInt32)), (.int (y23.toInt8.toInt32)), (.int (y27.toInt8.toInt32)), (.int (y31.toInt8.toInt32)), (.int (y35.toInt8.toInt32)), (.int (y39.toInt8.toInt32)), (.int (y43.toInt8.toInt32)), (.int (y47.toInt8.toInt32))] (.int (0 : Int32)) := Arv.set Ar49 qq49 S49 M49 H49 G49 (fits_nar_byte _) W49 10 rfl (Nat.le_of_ble_eq_true rfl)
    have N49 := Fr.snoc X49 N45 g4
    show own_Goes p e below (T49.setTop (mkF m 137 #[iv i0, iv i1, .val (.long i2), .second, .val (.long i3), .second, iv (0 : Int32), iv (i1 &&& (7 : Int32)), rv b3, .unset] [])) _
    refine own_via (fun t k => XS.aload X49.here hx rfl (hb hby at_137) rfl rfl (XS.bipush X49.here hx rfl (hb hby at_139) (XS.lload X49.here hx rfl (hb hby at_141) rfl (XS.bipush X49.here hx rfl (hb hby at_143) (XS.lushr X49.here hx rfl (hb hby at_145) rfl (XS.l2i X49.here hx rfl (hb hby at_146) rfl (XS.i2b X49.here hx rfl (hb hby at_147) rfl k))))))) ?_
    show own_Goes p e below (T49.setTop (mkF m 148 #[iv i0, iv i1, .val (.long i2), .second, .val (.long i3), .second, iv (0 : Int32), iv (i1 &&& (7 : Int32)), rv b3, .unset] [(.int ((((i3.toUInt64 >>> ((24 : Int32) &&& 0x3f).toInt64.toUInt64).toInt64).toInt32).toInt8.toInt32)), (.int (11 : Int32)), (.ref b3)])) _
    obtain ⟨y51, hy51⟩ : ∃ z, z = ((((i3.toUInt64 >>> ((24 : Int32) &&& 0x3f).toInt64.toUInt64).toInt64).toInt32).toInt8.toInt32) := ⟨_, rfl⟩
    rw [← hy51]
    show own_Goes p e below (T49.setTop (mkF m 148 #[iv i0, iv i1, .val (.long i2), .second, .val (.long i3), .second, iv (0 : Int32), iv (i1 &&& (7 : Int32)), rv b3, .unset] [(.int y51), (.int (11 : Int32)), (.ref b3)])) _
    have V52 : Arv Z h49 b3 k2 .byte (12 : Int32) [(.int (y7.toInt8.toInt32)), (.int (y11.toInt8.toInt32)), (.int (y15.toInt8.toInt32)), (.int (y19.toInt8.toInt32)), (.int (y23.toInt8.toInt32)), (.int (y27.toInt8.toInt32)), (.int (y31.toInt8.toInt32)), (.int (y35.toInt8.toInt32)), (.int (y39.toInt8.toInt32)), (.int (y43.toInt8.toInt32)), (.int (y47.toInt8.toInt32)), (.int (0 : Int32))] (.int (0 : Int32)) := V50.pad (pad_rep [(.int (y7.toInt8.toInt32)), (.int (y11.toInt8.toInt32)), (.int (y15.toInt8.toInt32)), (.int (y19.toInt8.toInt32)), (.int (y23.toInt8.toInt32)), (.int (y27.toInt8.toInt32)), (.int (y31.toInt8.toInt32)), (.int (y35.toInt8.toInt32)), (.int (y39.toInt8.toInt32)), (.int (y43.toInt8.toInt32)), (.int (y47.toInt8.toInt32))] (.int (0 : Int32)) 1)
    obtain ⟨cl53, Ar53, qq53, S53, M53, H53, G53⟩ := id (V52)
    have hin53 : ¬ ((11 : Int32) < 0 ∨ cl53.slots.size ≤ ((11 : Int32)).toNatClampNeg) := inb_of S53 ⟨by decide, by decide⟩
    obtain ⟨T53, h53, X53, e53, W53, st53⟩ := stB X49 hx hZ e49 Ar53 (j := (11 : Int32)) hin53 (g := (mkF m 148 #[iv i0, iv i1, .val (.long i2), .second, .val (.long i3), .second, iv (0 : Int32), iv (i1 &&& (7 : Int32)), rv b3, .unset] [(.int y51), (.int (11 : Int32)), (.ref b3)])) rfl rfl (hb hby at_148)
    refine own_via (fun t k => st53 t k) ?_
    have V54 : Arv Z h53 b3 k2 .byte (12 : Int32) [(.int (y7.toInt8.toInt32)), (.int (y11.toInt8.toInt32)), (.int (y15.toInt8.toInt32)), (.int (y19.toInt8.toInt32)), (.int (y23.toInt8.toInt32)), (.int (y27.toInt8.toInt32)), (.int (y31.toInt8.toInt32)), (.int (y35.toInt8.toInt32)), (.int (y39.toInt8.toInt32)), (.int (y43.toInt8.toInt32)), (.int (y47.toInt8.toInt32)), (.int (y51.toInt8.toInt32))] (.int (0 : Int32)) := Arv.set Ar53 qq53 S53 M53 H53 G53 (fits_nar_byte _) W53 11 rfl (Nat.le_of_ble_eq_true rfl)
    have N53 := Fr.snoc X53 N49 g4
    show own_Goes p e below (T53.setTop (mkF m 149 #[iv i0, iv i1, .val (.long i2), .second, .val (.long i3), .second, iv (0 : Int32), iv (i1 &&& (7 : Int32)), rv b3, .unset] [])) _
    rcases own_and_7 i1 with qs | qs | qs | qs | qs | qs | qs | qs
    · have qs55 := qs
      rw [qs]
      show own_Goes p e below (T53.setTop (mkF m 149 #[iv i0, iv i1, .val (.long i2), .second, .val (.long i3), .second, iv (0 : Int32), iv (0 : Int32), rv b3, .unset] [])) _
      refine own_via (fun t k => XS.iload X53.here hx rfl (hb hby at_149) rfl (XS.ifYes X53.here hx rfl (pc0 := 151) (pc' := 191) rfl (hb hby at_151) rfl ((if0 _ _).trans (teq (by decide : (0 : Int32) = (0 : Int32))).1) (by decide) (by decide) (XS.aload X53.here hx rfl (hb hby at_191) rfl rfl (XS.iload X53.here hx rfl (hb hby at_193) rfl (XS.bipush X53.here hx rfl (hb hby at_195) k))))) ?_
      show own_Goes p e below (T53.setTop (mkF m 197 #[iv i0, iv i1, .val (.long i2), .second, .val (.long i3), .second, iv (0 : Int32), iv (0 : Int32), rv b3, .unset] [(.int (102 : Int32)), (.int (0 : Int32)), (.ref b3)])) _
      obtain ⟨cl56, Ar56, qq56, S56, M56, H56, G56⟩ := id (V54)
      have hin56 : ¬ ((0 : Int32) < 0 ∨ cl56.slots.size ≤ ((0 : Int32)).toNatClampNeg) := inb_of S56 ⟨by decide, by decide⟩
      obtain ⟨T56, h56, X56, e56, W56, st56⟩ := stB X53 hx hZ e53 Ar56 (j := (0 : Int32)) hin56 (g := (mkF m 197 #[iv i0, iv i1, .val (.long i2), .second, .val (.long i3), .second, iv (0 : Int32), iv (0 : Int32), rv b3, .unset] [(.int (102 : Int32)), (.int (0 : Int32)), (.ref b3)])) rfl rfl (hb hby at_197)
      refine own_via (fun t k => st56 t k) ?_
      have V57 : Arv Z h56 b3 k2 .byte (12 : Int32) [(.int (102 : Int32)), (.int (y11.toInt8.toInt32)), (.int (y15.toInt8.toInt32)), (.int (y19.toInt8.toInt32)), (.int (y23.toInt8.toInt32)), (.int (y27.toInt8.toInt32)), (.int (y31.toInt8.toInt32)), (.int (y35.toInt8.toInt32)), (.int (y39.toInt8.toInt32)), (.int (y43.toInt8.toInt32)), (.int (y47.toInt8.toInt32)), (.int (y51.toInt8.toInt32))] (.int (0 : Int32)) := Arv.set Ar56 qq56 S56 M56 H56 G56 (by decide) W56 0 rfl (Nat.le_of_ble_eq_true rfl)
      have N56 := Fr.snoc X56 N53 g4
      show own_Goes p e below (T56.setTop (mkF m 198 #[iv i0, iv i1, .val (.long i2), .second, .val (.long i3), .second, iv (0 : Int32), iv (0 : Int32), rv b3, .unset] [])) _
      refine own_via (fun t k => XS.aload X56.here hx rfl (hb hby at_198) rfl rfl (XS.iload X56.here hx rfl (hb hby at_200) rfl (XS.iconst X56.here hx rfl (hb hby at_202) (XS.iadd X56.here hx rfl (hb hby at_203) rfl (XS.bipush X56.here hx rfl (hb hby at_204) k))))) ?_
      show own_Goes p e below (T56.setTop (mkF m 206 #[iv i0, iv i1, .val (.long i2), .second, .val (.long i3), .second, iv (0 : Int32), iv (0 : Int32), rv b3, .unset] [(.int (97 : Int32)), (.int (1 : Int32)), (.ref b3)])) _
      obtain ⟨cl58, Ar58, qq58, S58, M58, H58, G58⟩ := id (V57)
      have hin58 : ¬ ((1 : Int32) < 0 ∨ cl58.slots.size ≤ ((1 : Int32)).toNatClampNeg) := inb_of S58 ⟨by decide, by decide⟩
      obtain ⟨T58, h58, X58, e58, W58, st58⟩ := stB X56 hx hZ e56 Ar58 (j := (1 : Int32)) hin58 (g := (mkF m 206 #[iv i0, iv i1, .val (.long i2), .second, .val (.long i3), .second, iv (0 : Int32), iv (0 : Int32), rv b3, .unset] [(.int (97 : Int32)), (.int (1 : Int32)), (.ref b3)])) rfl rfl (hb hby at_206)
      refine own_via (fun t k => st58 t k) ?_
      have V59 : Arv Z h58 b3 k2 .byte (12 : Int32) [(.int (102 : Int32)), (.int (97 : Int32)), (.int (y15.toInt8.toInt32)), (.int (y19.toInt8.toInt32)), (.int (y23.toInt8.toInt32)), (.int (y27.toInt8.toInt32)), (.int (y31.toInt8.toInt32)), (.int (y35.toInt8.toInt32)), (.int (y39.toInt8.toInt32)), (.int (y43.toInt8.toInt32)), (.int (y47.toInt8.toInt32)), (.int (y51.toInt8.toInt32))] (.int (0 : Int32)) := Arv.set Ar58 qq58 S58 M58 H58 G58 (by decide) W58 1 rfl (Nat.le_of_ble_eq_true rfl)
      have N58 := Fr.snoc X58 N56 g4
      show own_Goes p e below (T58.setTop (mkF m 207 #[iv i0, iv i1, .val (.long i2), .second, .val (.long i3), .second, iv (0 : Int32), iv (0 : Int32), rv b3, .unset] [])) _
      refine own_via (fun t k => XS.aload X58.here hx rfl (hb hby at_207) rfl rfl (XS.iload X58.here hx rfl (hb hby at_209) rfl (XS.iconst X58.here hx rfl (hb hby at_211) (XS.iadd X58.here hx rfl (hb hby at_212) rfl (XS.bipush X58.here hx rfl (hb hby at_213) k))))) ?_
      show own_Goes p e below (T58.setTop (mkF m 215 #[iv i0, iv i1, .val (.long i2), .second, .val (.long i3), .second, iv (0 : Int32), iv (0 : Int32), rv b3, .unset] [(.int (108 : Int32)), (.int (2 : Int32)), (.ref b3)])) _
      obtain ⟨cl60, Ar60, qq60, S60, M60, H60, G60⟩ := id (V59)
      have hin60 : ¬ ((2 : Int32) < 0 ∨ cl60.slots.size ≤ ((2 : Int32)).toNatClampNeg) := inb_of S60 ⟨by decide, by decide⟩
      obtain ⟨T60, h60, X60, e60, W60, st60⟩ := stB X58 hx hZ e58 Ar60 (j := (2 : Int32)) hin60 (g := (mkF m 215 #[iv i0, iv i1, .val (.long i2), .second, .val (.long i3), .second, iv (0 : Int32), iv (0 : Int32), rv b3, .unset] [(.int (108 : Int32)), (.int (2 : Int32)), (.ref b3)])) rfl rfl (hb hby at_215)
      refine own_via (fun t k => st60 t k) ?_
      have V61 : Arv Z h60 b3 k2 .byte (12 : Int32) [(.int (102 : Int32)), (.int (97 : Int32)), (.int (108 : Int32)), (.int (y19.toInt8.toInt32)), (.int (y23.toInt8.toInt32)), (.int (y27.toInt8.toInt32)), (.int (y31.toInt8.toInt32)), (.int (y35.toInt8.toInt32)), (.int (y39.toInt8.toInt32)), (.int (y43.toInt8.toInt32)), (.int (y47.toInt8.toInt32)), (.int (y51.toInt8.toInt32))] (.int (0 : Int32)) := Arv.set Ar60 qq60 S60 M60 H60 G60 (by decide) W60 2 rfl (Nat.le_of_ble_eq_true rfl)
      have N60 := Fr.snoc X60 N58 g4
      show own_Goes p e below (T60.setTop (mkF m 216 #[iv i0, iv i1, .val (.long i2), .second, .val (.long i3), .second, iv (0 : Int32), iv (0 : Int32), rv b3, .unset] [])) _
      refine own_via (fun t k => XS.aload X60.here hx rfl (hb hby at_216) rfl rfl (XS.iload X60.here hx rfl (hb hby at_218) rfl (XS.iconst X60.here hx rfl (hb hby at_220) (XS.iadd X60.here hx rfl (hb hby at_221) rfl (XS.bipush X60.here hx rfl (hb hby at_222) k))))) ?_
      show own_Goes p e below (T60.setTop (mkF m 224 #[iv i0, iv i1, .val (.long i2), .second, .val (.long i3), .second, iv (0 : Int32), iv (0 : Int32), rv b3, .unset] [(.int (115 : Int32)), (.int (3 : Int32)), (.ref b3)])) _
      obtain ⟨cl62, Ar62, qq62, S62, M62, H62, G62⟩ := id (V61)
      have hin62 : ¬ ((3 : Int32) < 0 ∨ cl62.slots.size ≤ ((3 : Int32)).toNatClampNeg) := inb_of S62 ⟨by decide, by decide⟩
      obtain ⟨T62, h62, X62, e62, W62, st62⟩ := stB X60 hx hZ e60 Ar62 (j := (3 : Int32)) hin62 (g := (mkF m 224 #[iv i0, iv i1, .val (.long i2), .second, .val (.long i3), .second, iv (0 : Int32), iv (0 : Int32), rv b3, .unset] [(.int (115 : Int32)), (.int (3 : Int32)), (.ref b3)])) rfl rfl (hb hby at_224)
      refine own_via (fun t k => st62 t k) ?_
      have V63 : Arv Z h62 b3 k2 .byte (12 : Int32) [(.int (102 : Int32)), (.int (97 : Int32)), (.int (108 : Int32)), (.int (115 : Int32)), (.int (y23.toInt8.toInt32)), (.int (y27.toInt8.toInt32)), (.int (y31.toInt8.toInt32)), (.int (y35.toInt8.toInt32)), (.int (y39.toInt8.toInt32)), (.int (y43.toInt8.toInt32)), (.int (y47.toInt8.toInt32)), (.int (y51.toInt8.toInt32))] (.int (0 : Int32)) := Arv.set Ar62 qq62 S62 M62 H62 G62 (by decide) W62 3 rfl (Nat.le_of_ble_eq_true rfl)
      have N62 := Fr.snoc X62 N60 g4
      show own_Goes p e below (T62.setTop (mkF m 225 #[iv i0, iv i1, .val (.long i2), .second, .val (.long i3), .second, iv (0 : Int32), iv (0 : Int32), rv b3, .unset] [])) _
      refine own_via (fun t k => XS.aload X62.here hx rfl (hb hby at_225) rfl rfl (XS.iload X62.here hx rfl (hb hby at_227) rfl (XS.iconst X62.here hx rfl (hb hby at_229) (XS.iadd X62.here hx rfl (hb hby at_230) rfl (XS.bipush X62.here hx rfl (hb hby at_231) k))))) ?_
      show own_Goes p e below (T62.setTop (mkF m 233 #[iv i0, iv i1, .val (.long i2), .second, .val (.long i3), .second, iv (0 : Int32), iv (0 : Int32), rv b3, .unset] [(.int (101 : Int32)), (.int (4 : Int32)), (.ref b3)])) _
      obtain ⟨cl64, Ar64, qq64, S64, M64, H64, G64⟩ := id (V63)
      have hin64 : ¬ ((4 : Int32) < 0 ∨ cl64.slots.size ≤ ((4 : Int32)).toNatClampNeg) := inb_of S64 ⟨by decide, by decide⟩
      obtain ⟨T64, h64, X64, e64, W64, st64⟩ := stB X62 hx hZ e62 Ar64 (j := (4 : Int32)) hin64 (g := (mkF m 233 #[iv i0, iv i1, .val (.long i2), .second, .val (.long i3), .second, iv (0 : Int32), iv (0 : Int32), rv b3, .unset] [(.int (101 : Int32)), (.int (4 : Int32)), (.ref b3)])) rfl rfl (hb hby at_233)
      refine own_via (fun t k => st64 t k) ?_
      have V65 : Arv Z h64 b3 k2 .byte (12 : Int32) [(.int (102 : Int32)), (.int (97 : Int32)), (.int (108 : Int32)), (.int (115 : Int32)), (.int (101 : Int32)), (.int (y27.toInt8.toInt32)), (.int (y31.toInt8.toInt32)), (.int (y35.toInt8.toInt32)), (.int (y39.toInt8.toInt32)), (.int (y43.toInt8.toInt32)), (.int (y47.toInt8.toInt32)), (.int (y51.toInt8.toInt32))] (.int (0 : Int32)) := Arv.set Ar64 qq64 S64 M64 H64 G64 (by decide) W64 4 rfl (Nat.le_of_ble_eq_true rfl)
      have N64 := Fr.snoc X64 N62 g4
      show own_Goes p e below (T64.setTop (mkF m 234 #[iv i0, iv i1, .val (.long i2), .second, .val (.long i3), .second, iv (0 : Int32), iv (0 : Int32), rv b3, .unset] [])) _
      obtain ⟨T66, h66, X66, e66, E66, A66, D66, -, st66⟩ := newO X64 hx hZ hown (wd hw 1 rfl) (wd hw 2 rfl) (wd hw 3 rfl) e64 (g := (mkF m 234 #[iv i0, iv i1, .val (.long i2), .second, .val (.long i3), .second, iv (0 : Int32), iv (0 : Int32), rv b3, .unset] [])) rfl (hb hby at_234) (by decide) (by decide)
      obtain ⟨b67, q66⟩ : ∃ z, z = h64.size := ⟨_, rfl⟩
      rw [← q66] at A66 D66 st66
      refine own_via (fun t k => st66 t k) ?_
      have E69 : Exa Z h64 b3 "[B" := (((((((((((((((((a2x.wr W9).wr W13).wr W17).wr W21).wr W25).wr W29).wr W33).wr W37).wr W41).wr W45).wr W49).wr W53).wr W56).wr W58).wr W60).wr W62).wr W64)
      have N68 : b3 ≠ b67 := Nat.ne_of_lt (Nat.lt_of_lt_of_le E69.lt (Nat.le_of_eq q66.symm))
      have O71 : Old Z n0 h64 := ((((((((((((((((((O0.ext E2).wr W9 g4).wr W13 g4).wr W17 g4).wr W21 g4).wr W25 g4).wr W29 g4).wr W33 g4).wr W37 g4).wr W41 g4).wr W45 g4).wr W49 g4).wr W53 g4).wr W56 g4).wr W58 g4).wr W60 g4).wr W62 g4).wr W64 g4)
      have g70 : n0 ≤ b67 := Nat.le_trans (own_old O71) (Nat.le_of_eq q66.symm)
      have Z73 : h0.size ≤ h64.size := (Nat.le_trans (Nat.le_trans (Nat.le_trans (Nat.le_trans (Nat.le_trans (Nat.le_trans (Nat.le_trans (Nat.le_trans (Nat.le_trans (Nat.le_trans (Nat.le_trans (Nat.le_trans (Nat.le_trans (Nat.le_trans (Nat.le_trans (Nat.le_trans (Nat.le_trans (Nat.le_trans (Nat.le_refl _) E2.1) (Nat.le_of_eq W9.size.symm)) (Nat.le_of_eq W13.size.symm)) (Nat.le_of_eq W17.size.symm)) (Nat.le_of_eq W21.size.symm)) (Nat.le_of_eq W25.size.symm)) (Nat.le_of_eq W29.size.symm)) (Nat.le_of_eq W33.size.symm)) (Nat.le_of_eq W37.size.symm)) (Nat.le_of_eq W41.size.symm)) (Nat.le_of_eq W45.size.symm)) (Nat.le_of_eq W49.size.symm)) (Nat.le_of_eq W53.size.symm)) (Nat.le_of_eq W56.size.symm)) (Nat.le_of_eq W58.size.symm)) (Nat.le_of_eq W60.size.symm)) (Nat.le_of_eq W62.size.symm)) (Nat.le_of_eq W64.size.symm))
      have B72 : h0.size ≤ b67 := Nat.le_trans Z73 (Nat.le_of_eq q66.symm)
      have F74 : Fld Z h66 b67 zs1 "kept" zs3 .null := D66 (Or.inr (wd hw 13 rfl)) (ty := (.array (.object zs2))) (by decide)
      have F75 : Fld Z h66 b67 zs1 "chunks" "[[I" .null := D66 (Or.inl (wd hw 17 rfl)) (ty := (.array (.array .int))) (by decide)
      have F76 : Fld Z h66 b67 zs1 "text" "[B" .null := D66 (Or.inr (wd hw 19 rfl)) (ty := (.array .byte)) (by decide)
      have F77 : Fld Z h66 b67 zs1 "first" "[I" .null := D66 (Or.inl (wd hw 26 rfl)) (ty := (.array .int)) (by decide)
      show own_Goes p e below (T66.setTop (mkF m 237 #[iv i0, iv i1, .val (.long i2), .second, .val (.long i3), .second, iv (0 : Int32), iv (0 : Int32), rv b3, .unset] [(.ref b67)])) _
      refine own_via (fun t k => XS.dup X66.here hx rfl (hb hby at_237) rfl rfl (XS.aload X66.here hx rfl (hb hby at_238) rfl rfl k)) ?_
      have V233 : Arv Z h66 b3 k2 .byte (12 : Int32) [(.int (102 : Int32)), (.int (97 : Int32)), (.int (108 : Int32)), (.int (115 : Int32)), (.int (101 : Int32)), (.int (y27.toInt8.toInt32)), (.int (y31.toInt8.toInt32)), (.int (y35.toInt8.toInt32)), (.int (y39.toInt8.toInt32)), (.int (y43.toInt8.toInt32)), (.int (y47.toInt8.toInt32)), (.int (y51.toInt8.toInt32))] (.int (0 : Int32)) := (V65.ext E66)
      have l234 : own_Len Z h66 b3 .byte (12 : Int32) := ⟨_, _, _, V233⟩
      have O235 : Old Z n0 h66 := (O71.ext E66)
      obtain ⟨_, T78, _, X78, hQ78, st78⟩ := own_ci X66 hx hZ hown (wd hw 4 rfl) (wd hw 5 rfl) (wd hw 6 rfl) (wd hw 3 rfl) rfl (by decide) (rm2 l Z a0 hw [] b67 b3 h66 n0 O235 F74 A66 g70 F75 F76 l234 N68 F77) e66 (g := (mkF m 240 #[iv i0, iv i1, .val (.long i2), .second, .val (.long i3), .second, iv (0 : Int32), iv (0 : Int32), rv b3, .unset] [(.ref b3), (.ref b67), (.ref b67)])) rfl (by rw [hml]; rfl) (rest := [(.ref b67)]) (W := 1) (lenOf pd_2 rfl) rfl (by show 2 * 0 + _ ≤ _; exact Nat.le_of_eq rfl) (hb hby at_240) (by decide) (by decide) (by decide) (by decide)
      obtain ⟨h78, e78⟩ : ∃ z, T78.heap = z := ⟨_, rfl⟩
      rw [e78] at hQ78
      obtain ⟨rfl, Nq78, K78, ex236, fx237⟩ := hQ78
      have N78 := Fr.app N64 Nq78
      refine own_via (fun t k => st78 t (XS.astore X78.here hx rfl (hb hby at_243) rfl rfl (l' := #[iv i0, iv i1, .val (.long i2), .second, .val (.long i3), .second, iv (0 : Int32), iv (0 : Int32), rv b3, rv b67]) rfl (XS.aload X78.here hx rfl (hb hby at_245) rfl rfl (XS.iload X78.here hx rfl (hb hby at_247) rfl k)))) ?_
      show own_Goes p e below (T78.setTop (mkF m 249 #[iv i0, iv i1, .val (.long i2), .second, .val (.long i3), .second, iv (0 : Int32), iv (0 : Int32), rv b3, rv b67] [(.int (0 : Int32)), (.ref b67)])) _
      have V289 : Arv Z h78 b3 k2 .byte (12 : Int32) [(.int (102 : Int32)), (.int (97 : Int32)), (.int (108 : Int32)), (.int (115 : Int32)), (.int (101 : Int32)), (.int (y27.toInt8.toInt32)), (.int (y31.toInt8.toInt32)), (.int (y35.toInt8.toInt32)), (.int (y39.toInt8.toInt32)), (.int (y43.toInt8.toInt32)), (.int (y47.toInt8.toInt32)), (.int (y51.toInt8.toInt32))] (.int (0 : Int32)) := (V233.keep K78 (ninS N68 nin0))
      have O290 : Old Z n0 h78 := (O235.keep K78 (allS g70 all0))
      obtain ⟨_, T238, _, X238, hQ238, st238⟩ := own_cv X78 hx hZ hown (wd hw 28 rfl) (wd hw 29 rfl) (wd hw 31 rfl) (wd hw 30 rfl) (wd hw 32 rfl) (wd hw 3 rfl) (by decide) (rm3 l Z a0 hw [] b67 b3 k2 (97 : Int32) (108 : Int32) (115 : Int32) (101 : Int32) (y27.toInt8.toInt32) (y31.toInt8.toInt32) (y35.toInt8.toInt32) (y39.toInt8.toInt32) (y43.toInt8.toInt32) (y47.toInt8.toInt32) (y51.toInt8.toInt32) h78 n0 O290 fx237 V289) e78 ex236 (g := (mkF m 249 #[iv i0, iv i1, .val (.long i2), .second, .val (.long i3), .second, iv (0 : Int32), iv (0 : Int32), rv b3, rv b67] [(.int (0 : Int32)), (.ref b67)])) rfl (by rw [hml]; rfl) (rest := []) (W := 0) (lenOf pd_3 rfl) rfl (by show 2 * 0 + _ ≤ _; exact Nat.le_of_eq rfl) (hb hby at_249) (by decide) (by decide) (by decide) (by decide)
      obtain ⟨rfl, Nq238, hh291⟩ := hQ238
      have N238 := Fr.app N78 Nq238
      refine own_via (fun t k => st238 t (XS.iload X238.here hx rfl (hb hby at_252) rfl (XS.icmpNo X238.here hx rfl (hb hby at_254) rfl (teq (by decide : (0 : Int32) = (0 : Int32))).2 (XS.iconst X238.here hx rfl (hb hby at_257) (XS.goto X238.here hx rfl (pc0 := 258) (pc' := 262) rfl (hb hby at_258) (by decide) (by decide) k))))) ?_
      show own_Goes p e below (T238.setTop (mkF m 262 #[iv i0, iv i1, .val (.long i2), .second, .val (.long i3), .second, iv (0 : Int32), iv (0 : Int32), rv b3, rv b67] [(.int (1 : Int32))])) _
      obtain ⟨fs, hr, hrun, hended, hW, hsame⟩ := X238.leave (v := some (.int (1 : Int32))) (fun h => by rw [Bd.returns] at h; cases h)
      refine own_end (t := T238.setFrames fs) ?_ ⟨_, hrun, hended, _, _, rfl, ?_, ⟨_, rfl⟩, hW, hsame.mono (by decide) (by decide)⟩
      · exact retN X238 hx (t := .boolean) Bd.returns (by simp) (hb hby at_262) hr
      · exact ⟨rfl, N238⟩
    · have qs292 := qs
      rw [qs]
      show own_Goes p e below (T53.setTop (mkF m 149 #[iv i0, iv i1, .val (.long i2), .second, .val (.long i3), .second, iv (0 : Int32), iv (1 : Int32), rv b3, .unset] [])) _
      refine own_via (fun t k => XS.iload X53.here hx rfl (hb hby at_149) rfl (XS.ifYes X53.here hx rfl (pc0 := 151) (pc' := 191) rfl (hb hby at_151) rfl ((if0 _ _).trans (teq (by decide : (0 : Int32) = (0 : Int32))).1) (by decide) (by decide) (XS.aload X53.here hx rfl (hb hby at_191) rfl rfl (XS.iload X53.here hx rfl (hb hby at_193) rfl (XS.bipush X53.here hx rfl (hb hby at_195) k))))) ?_
      show own_Goes p e below (T53.setTop (mkF m 197 #[iv i0, iv i1, .val (.long i2), .second, .val (.long i3), .second, iv (0 : Int32), iv (1 : Int32), rv b3, .unset] [(.int (102 : Int32)), (.int (1 : Int32)), (.ref b3)])) _
      obtain ⟨cl293, Ar293, qq293, S293, M293, H293, G293⟩ := id (V54)
      have hin293 : ¬ ((1 : Int32) < 0 ∨ cl293.slots.size ≤ ((1 : Int32)).toNatClampNeg) := inb_of S293 ⟨by decide, by decide⟩
      obtain ⟨T293, h293, X293, e293, W293, st293⟩ := stB X53 hx hZ e53 Ar293 (j := (1 : Int32)) hin293 (g := (mkF m 197 #[iv i0, iv i1, .val (.long i2), .second, .val (.long i3), .second, iv (0 : Int32), iv (1 : Int32), rv b3, .unset] [(.int (102 : Int32)), (.int (1 : Int32)), (.ref b3)])) rfl rfl (hb hby at_197)
      refine own_via (fun t k => st293 t k) ?_
      have V294 : Arv Z h293 b3 k2 .byte (12 : Int32) [(.int (y7.toInt8.toInt32)), (.int (102 : Int32)), (.int (y15.toInt8.toInt32)), (.int (y19.toInt8.toInt32)), (.int (y23.toInt8.toInt32)), (.int (y27.toInt8.toInt32)), (.int (y31.toInt8.toInt32)), (.int (y35.toInt8.toInt32)), (.int (y39.toInt8.toInt32)), (.int (y43.toInt8.toInt32)), (.int (y47.toInt8.toInt32)), (.int (y51.toInt8.toInt32))] (.int (0 : Int32)) := Arv.set Ar293 qq293 S293 M293 H293 G293 (by decide) W293 1 rfl (Nat.le_of_ble_eq_true rfl)
      have N293 := Fr.snoc X293 N53 g4
      show own_Goes p e below (T293.setTop (mkF m 198 #[iv i0, iv i1, .val (.long i2), .second, .val (.long i3), .second, iv (0 : Int32), iv (1 : Int32), rv b3, .unset] [])) _
      refine own_via (fun t k => XS.aload X293.here hx rfl (hb hby at_198) rfl rfl (XS.iload X293.here hx rfl (hb hby at_200) rfl (XS.iconst X293.here hx rfl (hb hby at_202) (XS.iadd X293.here hx rfl (hb hby at_203) rfl (XS.bipush X293.here hx rfl (hb hby at_204) k))))) ?_
      show own_Goes p e below (T293.setTop (mkF m 206 #[iv i0, iv i1, .val (.long i2), .second, .val (.long i3), .second, iv (0 : Int32), iv (1 : Int32), rv b3, .unset] [(.int (97 : Int32)), (.int (2 : Int32)), (.ref b3)])) _
      obtain ⟨cl295, Ar295, qq295, S295, M295, H295, G295⟩ := id (V294)
      have hin295 : ¬ ((2 : Int32) < 0 ∨ cl295.slots.size ≤ ((2 : Int32)).toNatClampNeg) := inb_of S295 ⟨by decide, by decide⟩
      obtain ⟨T295, h295, X295, e295, W295, st295⟩ := stB X293 hx hZ e293 Ar295 (j := (2 : Int32)) hin295 (g := (mkF m 206 #[iv i0, iv i1, .val (.long i2), .second, .val (.long i3), .second, iv (0 : Int32), iv (1 : Int32), rv b3, .unset] [(.int (97 : Int32)), (.int (2 : Int32)), (.ref b3)])) rfl rfl (hb hby at_206)
      refine own_via (fun t k => st295 t k) ?_
      have V296 : Arv Z h295 b3 k2 .byte (12 : Int32) [(.int (y7.toInt8.toInt32)), (.int (102 : Int32)), (.int (97 : Int32)), (.int (y19.toInt8.toInt32)), (.int (y23.toInt8.toInt32)), (.int (y27.toInt8.toInt32)), (.int (y31.toInt8.toInt32)), (.int (y35.toInt8.toInt32)), (.int (y39.toInt8.toInt32)), (.int (y43.toInt8.toInt32)), (.int (y47.toInt8.toInt32)), (.int (y51.toInt8.toInt32))] (.int (0 : Int32)) := Arv.set Ar295 qq295 S295 M295 H295 G295 (by decide) W295 2 rfl (Nat.le_of_ble_eq_true rfl)
      have N295 := Fr.snoc X295 N293 g4
      show own_Goes p e below (T295.setTop (mkF m 207 #[iv i0, iv i1, .val (.long i2), .second, .val (.long i3), .second, iv (0 : Int32), iv (1 : Int32), rv b3, .unset] [])) _
      refine own_via (fun t k => XS.aload X295.here hx rfl (hb hby at_207) rfl rfl (XS.iload X295.here hx rfl (hb hby at_209) rfl (XS.iconst X295.here hx rfl (hb hby at_211) (XS.iadd X295.here hx rfl (hb hby at_212) rfl (XS.bipush X295.here hx rfl (hb hby at_213) k))))) ?_
      show own_Goes p e below (T295.setTop (mkF m 215 #[iv i0, iv i1, .val (.long i2), .second, .val (.long i3), .second, iv (0 : Int32), iv (1 : Int32), rv b3, .unset] [(.int (108 : Int32)), (.int (3 : Int32)), (.ref b3)])) _
      obtain ⟨cl297, Ar297, qq297, S297, M297, H297, G297⟩ := id (V296)
      have hin297 : ¬ ((3 : Int32) < 0 ∨ cl297.slots.size ≤ ((3 : Int32)).toNatClampNeg) := inb_of S297 ⟨by decide, by decide⟩
      obtain ⟨T297, h297, X297, e297, W297, st297⟩ := stB X295 hx hZ e295 Ar297 (j := (3 : Int32)) hin297 (g := (mkF m 215 #[iv i0, iv i1, .val (.long i2), .second, .val (.long i3), .second, iv (0 : Int32), iv (1 : Int32), rv b3, .unset] [(.int (108 : Int32)), (.int (3 : Int32)), (.ref b3)])) rfl rfl (hb hby at_215)
      refine own_via (fun t k => st297 t k) ?_
      have V298 : Arv Z h297 b3 k2 .byte (12 : Int32) [(.int (y7.toInt8.toInt32)), (.int (102 : Int32)), (.int (97 : Int32)), (.int (108 : Int32)), (.int (y23.toInt8.toInt32)), (.int (y27.toInt8.toInt32)), (.int (y31.toInt8.toInt32)), (.int (y35.toInt8.toInt32)), (.int (y39.toInt8.toInt32)), (.int (y43.toInt8.toInt32)), (.int (y47.toInt8.toInt32)), (.int (y51.toInt8.toInt32))] (.int (0 : Int32)) := Arv.set Ar297 qq297 S297 M297 H297 G297 (by decide) W297 3 rfl (Nat.le_of_ble_eq_true rfl)
      have N297 := Fr.snoc X297 N295 g4
      show own_Goes p e below (T297.setTop (mkF m 216 #[iv i0, iv i1, .val (.long i2), .second, .val (.long i3), .second, iv (0 : Int32), iv (1 : Int32), rv b3, .unset] [])) _
      refine own_via (fun t k => XS.aload X297.here hx rfl (hb hby at_216) rfl rfl (XS.iload X297.here hx rfl (hb hby at_218) rfl (XS.iconst X297.here hx rfl (hb hby at_220) (XS.iadd X297.here hx rfl (hb hby at_221) rfl (XS.bipush X297.here hx rfl (hb hby at_222) k))))) ?_
      show own_Goes p e below (T297.setTop (mkF m 224 #[iv i0, iv i1, .val (.long i2), .second, .val (.long i3), .second, iv (0 : Int32), iv (1 : Int32), rv b3, .unset] [(.int (115 : Int32)), (.int (4 : Int32)), (.ref b3)])) _
      obtain ⟨cl299, Ar299, qq299, S299, M299, H299, G299⟩ := id (V298)
      have hin299 : ¬ ((4 : Int32) < 0 ∨ cl299.slots.size ≤ ((4 : Int32)).toNatClampNeg) := inb_of S299 ⟨by decide, by decide⟩
      obtain ⟨T299, h299, X299, e299, W299, st299⟩ := stB X297 hx hZ e297 Ar299 (j := (4 : Int32)) hin299 (g := (mkF m 224 #[iv i0, iv i1, .val (.long i2), .second, .val (.long i3), .second, iv (0 : Int32), iv (1 : Int32), rv b3, .unset] [(.int (115 : Int32)), (.int (4 : Int32)), (.ref b3)])) rfl rfl (hb hby at_224)
      refine own_via (fun t k => st299 t k) ?_
      have V300 : Arv Z h299 b3 k2 .byte (12 : Int32) [(.int (y7.toInt8.toInt32)), (.int (102 : Int32)), (.int (97 : Int32)), (.int (108 : Int32)), (.int (115 : Int32)), (.int (y27.toInt8.toInt32)), (.int (y31.toInt8.toInt32)), (.int (y35.toInt8.toInt32)), (.int (y39.toInt8.toInt32)), (.int (y43.toInt8.toInt32)), (.int (y47.toInt8.toInt32)), (.int (y51.toInt8.toInt32))] (.int (0 : Int32)) := Arv.set Ar299 qq299 S299 M299 H299 G299 (by decide) W299 4 rfl (Nat.le_of_ble_eq_true rfl)
      have N299 := Fr.snoc X299 N297 g4
      show own_Goes p e below (T299.setTop (mkF m 225 #[iv i0, iv i1, .val (.long i2), .second, .val (.long i3), .second, iv (0 : Int32), iv (1 : Int32), rv b3, .unset] [])) _
      refine own_via (fun t k => XS.aload X299.here hx rfl (hb hby at_225) rfl rfl (XS.iload X299.here hx rfl (hb hby at_227) rfl (XS.iconst X299.here hx rfl (hb hby at_229) (XS.iadd X299.here hx rfl (hb hby at_230) rfl (XS.bipush X299.here hx rfl (hb hby at_231) k))))) ?_
      show own_Goes p e below (T299.setTop (mkF m 233 #[iv i0, iv i1, .val (.long i2), .second, .val (.long i3), .second, iv (0 : Int32), iv (1 : Int32), rv b3, .unset] [(.int (101 : Int32)), (.int (5 : Int32)), (.ref b3)])) _
      obtain ⟨cl301, Ar301, qq301, S301, M301, H301, G301⟩ := id (V300)
      have hin301 : ¬ ((5 : Int32) < 0 ∨ cl301.slots.size ≤ ((5 : Int32)).toNatClampNeg) := inb_of S301 ⟨by decide, by decide⟩
      obtain ⟨T301, h301, X301, e301, W301, st301⟩ := stB X299 hx hZ e299 Ar301 (j := (5 : Int32)) hin301 (g := (mkF m 233 #[iv i0, iv i1, .val (.long i2), .second, .val (.long i3), .second, iv (0 : Int32), iv (1 : Int32), rv b3, .unset] [(.int (101 : Int32)), (.int (5 : Int32)), (.ref b3)])) rfl rfl (hb hby at_233)
      refine own_via (fun t k => st301 t k) ?_
      have V302 : Arv Z h301 b3 k2 .byte (12 : Int32) [(.int (y7.toInt8.toInt32)), (.int (102 : Int32)), (.int (97 : Int32)), (.int (108 : Int32)), (.int (115 : Int32)), (.int (101 : Int32)), (.int (y31.toInt8.toInt32)), (.int (y35.toInt8.toInt32)), (.int (y39.toInt8.toInt32)), (.int (y43.toInt8.toInt32)), (.int (y47.toInt8.toInt32)), (.int (y51.toInt8.toInt32))] (.int (0 : Int32)) := Arv.set Ar301 qq301 S301 M301 H301 G301 (by decide) W301 5 rfl (Nat.le_of_ble_eq_true rfl)
      have N301 := Fr.snoc X301 N299 g4
      show own_Goes p e below (T301.setTop (mkF m 234 #[iv i0, iv i1, .val (.long i2), .second, .val (.long i3), .second, iv (0 : Int32), iv (1 : Int32), rv b3, .unset] [])) _
      obtain ⟨T303, h303, X303, e303, E303, A303, D303, -, st303⟩ := newO X301 hx hZ hown (wd hw 1 rfl) (wd hw 2 rfl) (wd hw 3 rfl) e301 (g := (mkF m 234 #[iv i0, iv i1, .val (.long i2), .second, .val (.long i3), .second, iv (0 : Int32), iv (1 : Int32), rv b3, .unset] [])) rfl (hb hby at_234) (by decide) (by decide)
      obtain ⟨b304, q303⟩ : ∃ z, z = h301.size := ⟨_, rfl⟩
      rw [← q303] at A303 D303 st303
      refine own_via (fun t k => st303 t k) ?_
      have E306 : Exa Z h301 b3 "[B" := (((((((((((((((((a2x.wr W9).wr W13).wr W17).wr W21).wr W25).wr W29).wr W33).wr W37).wr W41).wr W45).wr W49).wr W53).wr W293).wr W295).wr W297).wr W299).wr W301)
      have N305 : b3 ≠ b304 := Nat.ne_of_lt (Nat.lt_of_lt_of_le E306.lt (Nat.le_of_eq q303.symm))
      have O308 : Old Z n0 h301 := ((((((((((((((((((O0.ext E2).wr W9 g4).wr W13 g4).wr W17 g4).wr W21 g4).wr W25 g4).wr W29 g4).wr W33 g4).wr W37 g4).wr W41 g4).wr W45 g4).wr W49 g4).wr W53 g4).wr W293 g4).wr W295 g4).wr W297 g4).wr W299 g4).wr W301 g4)
      have g307 : n0 ≤ b304 := Nat.le_trans (own_old O308) (Nat.le_of_eq q303.symm)
      have Z310 : h0.size ≤ h301.size := (Nat.le_trans (Nat.le_trans (Nat.le_trans (Nat.le_trans (Nat.le_trans (Nat.le_trans (Nat.le_trans (Nat.le_trans (Nat.le_trans (Nat.le_trans (Nat.le_trans (Nat.le_trans (Nat.le_trans (Nat.le_trans (Nat.le_trans (Nat.le_trans (Nat.le_trans (Nat.le_trans (Nat.le_refl _) E2.1) (Nat.le_of_eq W9.size.symm)) (Nat.le_of_eq W13.size.symm)) (Nat.le_of_eq W17.size.symm)) (Nat.le_of_eq W21.size.symm)) (Nat.le_of_eq W25.size.symm)) (Nat.le_of_eq W29.size.symm)) (Nat.le_of_eq W33.size.symm)) (Nat.le_of_eq W37.size.symm)) (Nat.le_of_eq W41.size.symm)) (Nat.le_of_eq W45.size.symm)) (Nat.le_of_eq W49.size.symm)) (Nat.le_of_eq W53.size.symm)) (Nat.le_of_eq W293.size.symm)) (Nat.le_of_eq W295.size.symm)) (Nat.le_of_eq W297.size.symm)) (Nat.le_of_eq W299.size.symm)) (Nat.le_of_eq W301.size.symm))
      have B309 : h0.size ≤ b304 := Nat.le_trans Z310 (Nat.le_of_eq q303.symm)
      have F311 : Fld Z h303 b304 zs1 "kept" zs3 .null := D303 (Or.inr (wd hw 13 rfl)) (ty := (.array (.object zs2))) (by decide)
      have F312 : Fld Z h303 b304 zs1 "chunks" "[[I" .null := D303 (Or.inl (wd hw 17 rfl)) (ty := (.array (.array .int))) (by decide)
      have F313 : Fld Z h303 b304 zs1 "text" "[B" .null := D303 (Or.inr (wd hw 19 rfl)) (ty := (.array .byte)) (by decide)
      have F314 : Fld Z h303 b304 zs1 "first" "[I" .null := D303 (Or.inl (wd hw 26 rfl)) (ty := (.array .int)) (by decide)
      show own_Goes p e below (T303.setTop (mkF m 237 #[iv i0, iv i1, .val (.long i2), .second, .val (.long i3), .second, iv (0 : Int32), iv (1 : Int32), rv b3, .unset] [(.ref b304)])) _
      refine own_via (fun t k => XS.dup X303.here hx rfl (hb hby at_237) rfl rfl (XS.aload X303.here hx rfl (hb hby at_238) rfl rfl k)) ?_
      have V316 : Arv Z h303 b3 k2 .byte (12 : Int32) [(.int (y7.toInt8.toInt32)), (.int (102 : Int32)), (.int (97 : Int32)), (.int (108 : Int32)), (.int (115 : Int32)), (.int (101 : Int32)), (.int (y31.toInt8.toInt32)), (.int (y35.toInt8.toInt32)), (.int (y39.toInt8.toInt32)), (.int (y43.toInt8.toInt32)), (.int (y47.toInt8.toInt32)), (.int (y51.toInt8.toInt32))] (.int (0 : Int32)) := (V302.ext E303)
      have l317 : own_Len Z h303 b3 .byte (12 : Int32) := ⟨_, _, _, V316⟩
      have O318 : Old Z n0 h303 := (O308.ext E303)
      obtain ⟨_, T315, _, X315, hQ315, st315⟩ := own_ci X303 hx hZ hown (wd hw 4 rfl) (wd hw 5 rfl) (wd hw 6 rfl) (wd hw 3 rfl) rfl (by decide) (rm2 l Z a0 hw [] b304 b3 h303 n0 O318 F311 A303 g307 F312 F313 l317 N305 F314) e303 (g := (mkF m 240 #[iv i0, iv i1, .val (.long i2), .second, .val (.long i3), .second, iv (0 : Int32), iv (1 : Int32), rv b3, .unset] [(.ref b3), (.ref b304), (.ref b304)])) rfl (by rw [hml]; rfl) (rest := [(.ref b304)]) (W := 1) (lenOf pd_2 rfl) rfl (by show 2 * 0 + _ ≤ _; exact Nat.le_of_eq rfl) (hb hby at_240) (by decide) (by decide) (by decide) (by decide)
      obtain ⟨h315, e315⟩ : ∃ z, T315.heap = z := ⟨_, rfl⟩
      rw [e315] at hQ315
      obtain ⟨rfl, Nq315, K315, ex319, fx320⟩ := hQ315
      have N315 := Fr.app N301 Nq315
      refine own_via (fun t k => st315 t (XS.astore X315.here hx rfl (hb hby at_243) rfl rfl (l' := #[iv i0, iv i1, .val (.long i2), .second, .val (.long i3), .second, iv (0 : Int32), iv (1 : Int32), rv b3, rv b304]) rfl (XS.aload X315.here hx rfl (hb hby at_245) rfl rfl (XS.iload X315.here hx rfl (hb hby at_247) rfl k)))) ?_
      show own_Goes p e below (T315.setTop (mkF m 249 #[iv i0, iv i1, .val (.long i2), .second, .val (.long i3), .second, iv (0 : Int32), iv (1 : Int32), rv b3, rv b304] [(.int (1 : Int32)), (.ref b304)])) _
      have V372 : Arv Z h315 b3 k2 .byte (12 : Int32) [(.int (y7.toInt8.toInt32)), (.int (102 : Int32)), (.int (97 : Int32)), (.int (108 : Int32)), (.int (115 : Int32)), (.int (101 : Int32)), (.int (y31.toInt8.toInt32)), (.int (y35.toInt8.toInt32)), (.int (y39.toInt8.toInt32)), (.int (y43.toInt8.toInt32)), (.int (y47.toInt8.toInt32)), (.int (y51.toInt8.toInt32))] (.int (0 : Int32)) := (V316.keep K315 (ninS N305 nin0))
      have O373 : Old Z n0 h315 := (O318.keep K315 (allS g307 all0))
      obtain ⟨_, T321, _, X321, hQ321, st321⟩ := own_cv X315 hx hZ hown (wd hw 28 rfl) (wd hw 29 rfl) (wd hw 31 rfl) (wd hw 30 rfl) (wd hw 32 rfl) (wd hw 3 rfl) (by decide) (rm4 l Z a0 hw [] b304 b3 k2 (y7.toInt8.toInt32) (97 : Int32) (108 : Int32) (115 : Int32) (101 : Int32) (y31.toInt8.toInt32) (y35.toInt8.toInt32) (y39.toInt8.toInt32) (y43.toInt8.toInt32) (y47.toInt8.toInt32) (y51.toInt8.toInt32) h315 n0 O373 fx320 V372) e315 ex319 (g := (mkF m 249 #[iv i0, iv i1, .val (.long i2), .second, .val (.long i3), .second, iv (0 : Int32), iv (1 : Int32), rv b3, rv b304] [(.int (1 : Int32)), (.ref b304)])) rfl (by rw [hml]; rfl) (rest := []) (W := 0) (lenOf pd_3 rfl) rfl (by show 2 * 0 + _ ≤ _; exact Nat.le_of_eq rfl) (hb hby at_249) (by decide) (by decide) (by decide) (by decide)
      obtain ⟨rfl, Nq321, hh374⟩ := hQ321
      have N321 := Fr.app N315 Nq321
      refine own_via (fun t k => st321 t (XS.iload X321.here hx rfl (hb hby at_252) rfl (XS.icmpNo X321.here hx rfl (hb hby at_254) rfl (teq (by decide : (0 : Int32) = (0 : Int32))).2 (XS.iconst X321.here hx rfl (hb hby at_257) (XS.goto X321.here hx rfl (pc0 := 258) (pc' := 262) rfl (hb hby at_258) (by decide) (by decide) k))))) ?_
      show own_Goes p e below (T321.setTop (mkF m 262 #[iv i0, iv i1, .val (.long i2), .second, .val (.long i3), .second, iv (0 : Int32), iv (1 : Int32), rv b3, rv b304] [(.int (1 : Int32))])) _
      obtain ⟨fs, hr, hrun, hended, hW, hsame⟩ := X321.leave (v := some (.int (1 : Int32))) (fun h => by rw [Bd.returns] at h; cases h)
      refine own_end (t := T321.setFrames fs) ?_ ⟨_, hrun, hended, _, _, rfl, ?_, ⟨_, rfl⟩, hW, hsame.mono (by decide) (by decide)⟩
      · exact retN X321 hx (t := .boolean) Bd.returns (by simp) (hb hby at_262) hr
      · exact ⟨rfl, N321⟩
    · have qs375 := qs
      rw [qs]
      show own_Goes p e below (T53.setTop (mkF m 149 #[iv i0, iv i1, .val (.long i2), .second, .val (.long i3), .second, iv (0 : Int32), iv (2 : Int32), rv b3, .unset] [])) _
      refine own_via (fun t k => XS.iload X53.here hx rfl (hb hby at_149) rfl (XS.ifYes X53.here hx rfl (pc0 := 151) (pc' := 191) rfl (hb hby at_151) rfl ((if0 _ _).trans (teq (by decide : (0 : Int32) = (0 : Int32))).1) (by decide) (by decide) (XS.aload X53.here hx rfl (hb hby at_191) rfl rfl (XS.iload X53.here hx rfl (hb hby at_193) rfl (XS.bipush X53.here hx rfl (hb hby at_195) k))))) ?_
      show own_Goes p e below (T53.setTop (mkF m 197 #[iv i0, iv i1, .val (.long i2), .second, .val (.long i3), .second, iv (0 : Int32), iv (2 : Int32), rv b3, .unset] [(.int (102 : Int32)), (.int (2 : Int32)), (.ref b3)])) _
      obtain ⟨cl376, Ar376, qq376, S376, M376, H376, G376⟩ := id (V54)
      have hin376 : ¬ ((2 : Int32) < 0 ∨ cl376.slots.size ≤ ((2 : Int32)).toNatClampNeg) := inb_of S376 ⟨by decide, by decide⟩
      obtain ⟨T376, h376, X376, e376, W376, st376⟩ := stB X53 hx hZ e53 Ar376 (j := (2 : Int32)) hin376 (g := (mkF m 197 #[iv i0, iv i1, .val (.long i2), .second, .val (.long i3), .second, iv (0 : Int32), iv (2 : Int32), rv b3, .unset] [(.int (102 : Int32)), (.int (2 : Int32)), (.ref b3)])) rfl rfl (hb hby at_197)
      refine own_via (fun t k => st376 t k) ?_
      have V377 : Arv Z h376 b3 k2 .byte (12 : Int32) [(.int (y7.toInt8.toInt32)), (.int (y11.toInt8.toInt32)), (.int (102 : Int32)), (.int (y19.toInt8.toInt32)), (.int (y23.toInt8.toInt32)), (.int (y27.toInt8.toInt32)), (.int (y31.toInt8.toInt32)), (.int (y35.toInt8.toInt32)), (.int (y39.toInt8.toInt32)), (.int (y43.toInt8.toInt32)), (.int (y47.toInt8.toInt32)), (.int (y51.toInt8.toInt32))] (.int (0 : Int32)) := Arv.set Ar376 qq376 S376 M376 H376 G376 (by decide) W376 2 rfl (Nat.le_of_ble_eq_true rfl)
      have N376 := Fr.snoc X376 N53 g4
      show own_Goes p e below (T376.setTop (mkF m 198 #[iv i0, iv i1, .val (.long i2), .second, .val (.long i3), .second, iv (0 : Int32), iv (2 : Int32), rv b3, .unset] [])) _
      refine own_via (fun t k => XS.aload X376.here hx rfl (hb hby at_198) rfl rfl (XS.iload X376.here hx rfl (hb hby at_200) rfl (XS.iconst X376.here hx rfl (hb hby at_202) (XS.iadd X376.here hx rfl (hb hby at_203) rfl (XS.bipush X376.here hx rfl (hb hby at_204) k))))) ?_
      show own_Goes p e below (T376.setTop (mkF m 206 #[iv i0, iv i1, .val (.long i2), .second, .val (.long i3), .second, iv (0 : Int32), iv (2 : Int32), rv b3, .unset] [(.int (97 : Int32)), (.int (3 : Int32)), (.ref b3)])) _
      obtain ⟨cl378, Ar378, qq378, S378, M378, H378, G378⟩ := id (V377)
      have hin378 : ¬ ((3 : Int32) < 0 ∨ cl378.slots.size ≤ ((3 : Int32)).toNatClampNeg) := inb_of S378 ⟨by decide, by decide⟩
      obtain ⟨T378, h378, X378, e378, W378, st378⟩ := stB X376 hx hZ e376 Ar378 (j := (3 : Int32)) hin378 (g := (mkF m 206 #[iv i0, iv i1, .val (.long i2), .second, .val (.long i3), .second, iv (0 : Int32), iv (2 : Int32), rv b3, .unset] [(.int (97 : Int32)), (.int (3 : Int32)), (.ref b3)])) rfl rfl (hb hby at_206)
      refine own_via (fun t k => st378 t k) ?_
      have V379 : Arv Z h378 b3 k2 .byte (12 : Int32) [(.int (y7.toInt8.toInt32)), (.int (y11.toInt8.toInt32)), (.int (102 : Int32)), (.int (97 : Int32)), (.int (y23.toInt8.toInt32)), (.int (y27.toInt8.toInt32)), (.int (y31.toInt8.toInt32)), (.int (y35.toInt8.toInt32)), (.int (y39.toInt8.toInt32)), (.int (y43.toInt8.toInt32)), (.int (y47.toInt8.toInt32)), (.int (y51.toInt8.toInt32))] (.int (0 : Int32)) := Arv.set Ar378 qq378 S378 M378 H378 G378 (by decide) W378 3 rfl (Nat.le_of_ble_eq_true rfl)
      have N378 := Fr.snoc X378 N376 g4
      show own_Goes p e below (T378.setTop (mkF m 207 #[iv i0, iv i1, .val (.long i2), .second, .val (.long i3), .second, iv (0 : Int32), iv (2 : Int32), rv b3, .unset] [])) _
      refine own_via (fun t k => XS.aload X378.here hx rfl (hb hby at_207) rfl rfl (XS.iload X378.here hx rfl (hb hby at_209) rfl (XS.iconst X378.here hx rfl (hb hby at_211) (XS.iadd X378.here hx rfl (hb hby at_212) rfl (XS.bipush X378.here hx rfl (hb hby at_213) k))))) ?_
      show own_Goes p e below (T378.setTop (mkF m 215 #[iv i0, iv i1, .val (.long i2), .second, .val (.long i3), .second, iv (0 : Int32), iv (2 : Int32), rv b3, .unset] [(.int (108 : Int32)), (.int (4 : Int32)), (.ref b3)])) _
      obtain ⟨cl380, Ar380, qq380, S380, M380, H380, G380⟩ := id (V379)
      have hin380 : ¬ ((4 : Int32) < 0 ∨ cl380.slots.size ≤ ((4 : Int32)).toNatClampNeg) := inb_of S380 ⟨by decide, by decide⟩
      obtain ⟨T380, h380, X380, e380, W380, st380⟩ := stB X378 hx hZ e378 Ar380 (j := (4 : Int32)) hin380 (g := (mkF m 215 #[iv i0, iv i1, .val (.long i2), .second, .val (.long i3), .second, iv (0 : Int32), iv (2 : Int32), rv b3, .unset] [(.int (108 : Int32)), (.int (4 : Int32)), (.ref b3)])) rfl rfl (hb hby at_215)
      refine own_via (fun t k => st380 t k) ?_
      have V381 : Arv Z h380 b3 k2 .byte (12 : Int32) [(.int (y7.toInt8.toInt32)), (.int (y11.toInt8.toInt32)), (.int (102 : Int32)), (.int (97 : Int32)), (.int (108 : Int32)), (.int (y27.toInt8.toInt32)), (.int (y31.toInt8.toInt32)), (.int (y35.toInt8.toInt32)), (.int (y39.toInt8.toInt32)), (.int (y43.toInt8.toInt32)), (.int (y47.toInt8.toInt32)), (.int (y51.toInt8.toInt32))] (.int (0 : Int32)) := Arv.set Ar380 qq380 S380 M380 H380 G380 (by decide) W380 4 rfl (Nat.le_of_ble_eq_true rfl)
      have N380 := Fr.snoc X380 N378 g4
      show own_Goes p e below (T380.setTop (mkF m 216 #[iv i0, iv i1, .val (.long i2), .second, .val (.long i3), .second, iv (0 : Int32), iv (2 : Int32), rv b3, .unset] [])) _
      refine own_via (fun t k => XS.aload X380.here hx rfl (hb hby at_216) rfl rfl (XS.iload X380.here hx rfl (hb hby at_218) rfl (XS.iconst X380.here hx rfl (hb hby at_220) (XS.iadd X380.here hx rfl (hb hby at_221) rfl (XS.bipush X380.here hx rfl (hb hby at_222) k))))) ?_
      show own_Goes p e below (T380.setTop (mkF m 224 #[iv i0, iv i1, .val (.long i2), .second, .val (.long i3), .second, iv (0 : Int32), iv (2 : Int32), rv b3, .unset] [(.int (115 : Int32)), (.int (5 : Int32)), (.ref b3)])) _
      obtain ⟨cl382, Ar382, qq382, S382, M382, H382, G382⟩ := id (V381)
      have hin382 : ¬ ((5 : Int32) < 0 ∨ cl382.slots.size ≤ ((5 : Int32)).toNatClampNeg) := inb_of S382 ⟨by decide, by decide⟩
      obtain ⟨T382, h382, X382, e382, W382, st382⟩ := stB X380 hx hZ e380 Ar382 (j := (5 : Int32)) hin382 (g := (mkF m 224 #[iv i0, iv i1, .val (.long i2), .second, .val (.long i3), .second, iv (0 : Int32), iv (2 : Int32), rv b3, .unset] [(.int (115 : Int32)), (.int (5 : Int32)), (.ref b3)])) rfl rfl (hb hby at_224)
      refine own_via (fun t k => st382 t k) ?_
      have V383 : Arv Z h382 b3 k2 .byte (12 : Int32) [(.int (y7.toInt8.toInt32)), (.int (y11.toInt8.toInt32)), (.int (102 : Int32)), (.int (97 : Int32)), (.int (108 : Int32)), (.int (115 : Int32)), (.int (y31.toInt8.toInt32)), (.int (y35.toInt8.toInt32)), (.int (y39.toInt8.toInt32)), (.int (y43.toInt8.toInt32)), (.int (y47.toInt8.toInt32)), (.int (y51.toInt8.toInt32))] (.int (0 : Int32)) := Arv.set Ar382 qq382 S382 M382 H382 G382 (by decide) W382 5 rfl (Nat.le_of_ble_eq_true rfl)
      have N382 := Fr.snoc X382 N380 g4
      show own_Goes p e below (T382.setTop (mkF m 225 #[iv i0, iv i1, .val (.long i2), .second, .val (.long i3), .second, iv (0 : Int32), iv (2 : Int32), rv b3, .unset] [])) _
      refine own_via (fun t k => XS.aload X382.here hx rfl (hb hby at_225) rfl rfl (XS.iload X382.here hx rfl (hb hby at_227) rfl (XS.iconst X382.here hx rfl (hb hby at_229) (XS.iadd X382.here hx rfl (hb hby at_230) rfl (XS.bipush X382.here hx rfl (hb hby at_231) k))))) ?_
      show own_Goes p e below (T382.setTop (mkF m 233 #[iv i0, iv i1, .val (.long i2), .second, .val (.long i3), .second, iv (0 : Int32), iv (2 : Int32), rv b3, .unset] [(.int (101 : Int32)), (.int (6 : Int32)), (.ref b3)])) _
      obtain ⟨cl384, Ar384, qq384, S384, M384, H384, G384⟩ := id (V383)
      have hin384 : ¬ ((6 : Int32) < 0 ∨ cl384.slots.size ≤ ((6 : Int32)).toNatClampNeg) := inb_of S384 ⟨by decide, by decide⟩
      obtain ⟨T384, h384, X384, e384, W384, st384⟩ := stB X382 hx hZ e382 Ar384 (j := (6 : Int32)) hin384 (g := (mkF m 233 #[iv i0, iv i1, .val (.long i2), .second, .val (.long i3), .second, iv (0 : Int32), iv (2 : Int32), rv b3, .unset] [(.int (101 : Int32)), (.int (6 : Int32)), (.ref b3)])) rfl rfl (hb hby at_233)
      refine own_via (fun t k => st384 t k) ?_
      have V385 : Arv Z h384 b3 k2 .byte (12 : Int32) [(.int (y7.toInt8.toInt32)), (.int (y11.toInt8.toInt32)), (.int (102 : Int32)), (.int (97 : Int32)), (.int (108 : Int32)), (.int (115 : Int32)), (.int (101 : Int32)), (.int (y35.toInt8.toInt32)), (.int (y39.toInt8.toInt32)), (.int (y43.toInt8.toInt32)), (.int (y47.toInt8.toInt32)), (.int (y51.toInt8.toInt32))] (.int (0 : Int32)) := Arv.set Ar384 qq384 S384 M384 H384 G384 (by decide) W384 6 rfl (Nat.le_of_ble_eq_true rfl)
      have N384 := Fr.snoc X384 N382 g4
      show own_Goes p e below (T384.setTop (mkF m 234 #[iv i0, iv i1, .val (.long i2), .second, .val (.long i3), .second, iv (0 : Int32), iv (2 : Int32), rv b3, .unset] [])) _
      obtain ⟨T386, h386, X386, e386, E386, A386, D386, -, st386⟩ := newO X384 hx hZ hown (wd hw 1 rfl) (wd hw 2 rfl) (wd hw 3 rfl) e384 (g := (mkF m 234 #[iv i0, iv i1, .val (.long i2), .second, .val (.long i3), .second, iv (0 : Int32), iv (2 : Int32), rv b3, .unset] [])) rfl (hb hby at_234) (by decide) (by decide)
      obtain ⟨b387, q386⟩ : ∃ z, z = h384.size := ⟨_, rfl⟩
      rw [← q386] at A386 D386 st386
      refine own_via (fun t k => st386 t k) ?_
      have E389 : Exa Z h384 b3 "[B" := (((((((((((((((((a2x.wr W9).wr W13).wr W17).wr W21).wr W25).wr W29).wr W33).wr W37).wr W41).wr W45).wr W49).wr W53).wr W376).wr W378).wr W380).wr W382).wr W384)
      have N388 : b3 ≠ b387 := Nat.ne_of_lt (Nat.lt_of_lt_of_le E389.lt (Nat.le_of_eq q386.symm))
      have O391 : Old Z n0 h384 := ((((((((((((((((((O0.ext E2).wr W9 g4).wr W13 g4).wr W17 g4).wr W21 g4).wr W25 g4).wr W29 g4).wr W33 g4).wr W37 g4).wr W41 g4).wr W45 g4).wr W49 g4).wr W53 g4).wr W376 g4).wr W378 g4).wr W380 g4).wr W382 g4).wr W384 g4)
      have g390 : n0 ≤ b387 := Nat.le_trans (own_old O391) (Nat.le_of_eq q386.symm)
      have Z393 : h0.size ≤ h384.size := (Nat.le_trans (Nat.le_trans (Nat.le_trans (Nat.le_trans (Nat.le_trans (Nat.le_trans (Nat.le_trans (Nat.le_trans (Nat.le_trans (Nat.le_trans (Nat.le_trans (Nat.le_trans (Nat.le_trans (Nat.le_trans (Nat.le_trans (Nat.le_trans (Nat.le_trans (Nat.le_trans (Nat.le_refl _) E2.1) (Nat.le_of_eq W9.size.symm)) (Nat.le_of_eq W13.size.symm)) (Nat.le_of_eq W17.size.symm)) (Nat.le_of_eq W21.size.symm)) (Nat.le_of_eq W25.size.symm)) (Nat.le_of_eq W29.size.symm)) (Nat.le_of_eq W33.size.symm)) (Nat.le_of_eq W37.size.symm)) (Nat.le_of_eq W41.size.symm)) (Nat.le_of_eq W45.size.symm)) (Nat.le_of_eq W49.size.symm)) (Nat.le_of_eq W53.size.symm)) (Nat.le_of_eq W376.size.symm)) (Nat.le_of_eq W378.size.symm)) (Nat.le_of_eq W380.size.symm)) (Nat.le_of_eq W382.size.symm)) (Nat.le_of_eq W384.size.symm))
      have B392 : h0.size ≤ b387 := Nat.le_trans Z393 (Nat.le_of_eq q386.symm)
      have F394 : Fld Z h386 b387 zs1 "kept" zs3 .null := D386 (Or.inr (wd hw 13 rfl)) (ty := (.array (.object zs2))) (by decide)
      have F395 : Fld Z h386 b387 zs1 "chunks" "[[I" .null := D386 (Or.inl (wd hw 17 rfl)) (ty := (.array (.array .int))) (by decide)
      have F396 : Fld Z h386 b387 zs1 "text" "[B" .null := D386 (Or.inr (wd hw 19 rfl)) (ty := (.array .byte)) (by decide)
      have F397 : Fld Z h386 b387 zs1 "first" "[I" .null := D386 (Or.inl (wd hw 26 rfl)) (ty := (.array .int)) (by decide)
      show own_Goes p e below (T386.setTop (mkF m 237 #[iv i0, iv i1, .val (.long i2), .second, .val (.long i3), .second, iv (0 : Int32), iv (2 : Int32), rv b3, .unset] [(.ref b387)])) _
      refine own_via (fun t k => XS.dup X386.here hx rfl (hb hby at_237) rfl rfl (XS.aload X386.here hx rfl (hb hby at_238) rfl rfl k)) ?_
      have V399 : Arv Z h386 b3 k2 .byte (12 : Int32) [(.int (y7.toInt8.toInt32)), (.int (y11.toInt8.toInt32)), (.int (102 : Int32)), (.int (97 : Int32)), (.int (108 : Int32)), (.int (115 : Int32)), (.int (101 : Int32)), (.int (y35.toInt8.toInt32)), (.int (y39.toInt8.toInt32)), (.int (y43.toInt8.toInt32)), (.int (y47.toInt8.toInt32)), (.int (y51.toInt8.toInt32))] (.int (0 : Int32)) := (V385.ext E386)
      have l400 : own_Len Z h386 b3 .byte (12 : Int32) := ⟨_, _, _, V399⟩
      have O401 : Old Z n0 h386 := (O391.ext E386)
      obtain ⟨_, T398, _, X398, hQ398, st398⟩ := own_ci X386 hx hZ hown (wd hw 4 rfl) (wd hw 5 rfl) (wd hw 6 rfl) (wd hw 3 rfl) rfl (by decide) (rm2 l Z a0 hw [] b387 b3 h386 n0 O401 F394 A386 g390 F395 F396 l400 N388 F397) e386 (g := (mkF m 240 #[iv i0, iv i1, .val (.long i2), .second, .val (.long i3), .second, iv (0 : Int32), iv (2 : Int32), rv b3, .unset] [(.ref b3), (.ref b387), (.ref b387)])) rfl (by rw [hml]; rfl) (rest := [(.ref b387)]) (W := 1) (lenOf pd_2 rfl) rfl (by show 2 * 0 + _ ≤ _; exact Nat.le_of_eq rfl) (hb hby at_240) (by decide) (by decide) (by decide) (by decide)
      obtain ⟨h398, e398⟩ : ∃ z, T398.heap = z := ⟨_, rfl⟩
      rw [e398] at hQ398
      obtain ⟨rfl, Nq398, K398, ex402, fx403⟩ := hQ398
      have N398 := Fr.app N384 Nq398
      refine own_via (fun t k => st398 t (XS.astore X398.here hx rfl (hb hby at_243) rfl rfl (l' := #[iv i0, iv i1, .val (.long i2), .second, .val (.long i3), .second, iv (0 : Int32), iv (2 : Int32), rv b3, rv b387]) rfl (XS.aload X398.here hx rfl (hb hby at_245) rfl rfl (XS.iload X398.here hx rfl (hb hby at_247) rfl k)))) ?_
      show own_Goes p e below (T398.setTop (mkF m 249 #[iv i0, iv i1, .val (.long i2), .second, .val (.long i3), .second, iv (0 : Int32), iv (2 : Int32), rv b3, rv b387] [(.int (2 : Int32)), (.ref b387)])) _
      have V455 : Arv Z h398 b3 k2 .byte (12 : Int32) [(.int (y7.toInt8.toInt32)), (.int (y11.toInt8.toInt32)), (.int (102 : Int32)), (.int (97 : Int32)), (.int (108 : Int32)), (.int (115 : Int32)), (.int (101 : Int32)), (.int (y35.toInt8.toInt32)), (.int (y39.toInt8.toInt32)), (.int (y43.toInt8.toInt32)), (.int (y47.toInt8.toInt32)), (.int (y51.toInt8.toInt32))] (.int (0 : Int32)) := (V399.keep K398 (ninS N388 nin0))
      have O456 : Old Z n0 h398 := (O401.keep K398 (allS g390 all0))
      obtain ⟨_, T404, _, X404, hQ404, st404⟩ := own_cv X398 hx hZ hown (wd hw 28 rfl) (wd hw 29 rfl) (wd hw 31 rfl) (wd hw 30 rfl) (wd hw 32 rfl) (wd hw 3 rfl) (by decide) (rm5 l Z a0 hw [] b387 b3 k2 (y7.toInt8.toInt32) (y11.toInt8.toInt32) (97 : Int32) (108 : Int32) (115 : Int32) (101 : Int32) (y35.toInt8.toInt32) (y39.toInt8.toInt32) (y43.toInt8.toInt32) (y47.toInt8.toInt32) (y51.toInt8.toInt32) h398 n0 O456 fx403 V455) e398 ex402 (g := (mkF m 249 #[iv i0, iv i1, .val (.long i2), .second, .val (.long i3), .second, iv (0 : Int32), iv (2 : Int32), rv b3, rv b387] [(.int (2 : Int32)), (.ref b387)])) rfl (by rw [hml]; rfl) (rest := []) (W := 0) (lenOf pd_3 rfl) rfl (by show 2 * 0 + _ ≤ _; exact Nat.le_of_eq rfl) (hb hby at_249) (by decide) (by decide) (by decide) (by decide)
      obtain ⟨rfl, Nq404, hh457⟩ := hQ404
      have N404 := Fr.app N398 Nq404
      refine own_via (fun t k => st404 t (XS.iload X404.here hx rfl (hb hby at_252) rfl (XS.icmpNo X404.here hx rfl (hb hby at_254) rfl (teq (by decide : (0 : Int32) = (0 : Int32))).2 (XS.iconst X404.here hx rfl (hb hby at_257) (XS.goto X404.here hx rfl (pc0 := 258) (pc' := 262) rfl (hb hby at_258) (by decide) (by decide) k))))) ?_
      show own_Goes p e below (T404.setTop (mkF m 262 #[iv i0, iv i1, .val (.long i2), .second, .val (.long i3), .second, iv (0 : Int32), iv (2 : Int32), rv b3, rv b387] [(.int (1 : Int32))])) _
      obtain ⟨fs, hr, hrun, hended, hW, hsame⟩ := X404.leave (v := some (.int (1 : Int32))) (fun h => by rw [Bd.returns] at h; cases h)
      refine own_end (t := T404.setFrames fs) ?_ ⟨_, hrun, hended, _, _, rfl, ?_, ⟨_, rfl⟩, hW, hsame.mono (by decide) (by decide)⟩
      · exact retN X404 hx (t := .boolean) Bd.returns (by simp) (hb hby at_262) hr
      · exact ⟨rfl, N404⟩
    · have qs458 := qs
      rw [qs]
      show own_Goes p e below (T53.setTop (mkF m 149 #[iv i0, iv i1, .val (.long i2), .second, .val (.long i3), .second, iv (0 : Int32), iv (3 : Int32), rv b3, .unset] [])) _
      refine own_via (fun t k => XS.iload X53.here hx rfl (hb hby at_149) rfl (XS.ifYes X53.here hx rfl (pc0 := 151) (pc' := 191) rfl (hb hby at_151) rfl ((if0 _ _).trans (teq (by decide : (0 : Int32) = (0 : Int32))).1) (by decide) (by decide) (XS.aload X53.here hx rfl (hb hby at_191) rfl rfl (XS.iload X53.here hx rfl (hb hby at_193) rfl (XS.bipush X53.here hx rfl (hb hby at_195) k))))) ?_
      show own_Goes p e below (T53.setTop (mkF m 197 #[iv i0, iv i1, .val (.long i2), .second, .val (.long i3), .second, iv (0 : Int32), iv (3 : Int32), rv b3, .unset] [(.int (102 : Int32)), (.int (3 : Int32)), (.ref b3)])) _
      obtain ⟨cl459, Ar459, qq459, S459, M459, H459, G459⟩ := id (V54)
      have hin459 : ¬ ((3 : Int32) < 0 ∨ cl459.slots.size ≤ ((3 : Int32)).toNatClampNeg) := inb_of S459 ⟨by decide, by decide⟩
      obtain ⟨T459, h459, X459, e459, W459, st459⟩ := stB X53 hx hZ e53 Ar459 (j := (3 : Int32)) hin459 (g := (mkF m 197 #[iv i0, iv i1, .val (.long i2), .second, .val (.long i3), .second, iv (0 : Int32), iv (3 : Int32), rv b3, .unset] [(.int (102 : Int32)), (.int (3 : Int32)), (.ref b3)])) rfl rfl (hb hby at_197)
      refine own_via (fun t k => st459 t k) ?_
      have V460 : Arv Z h459 b3 k2 .byte (12 : Int32) [(.int (y7.toInt8.toInt32)), (.int (y11.toInt8.toInt32)), (.int (y15.toInt8.toInt32)), (.int (102 : Int32)), (.int (y23.toInt8.toInt32)), (.int (y27.toInt8.toInt32)), (.int (y31.toInt8.toInt32)), (.int (y35.toInt8.toInt32)), (.int (y39.toInt8.toInt32)), (.int (y43.toInt8.toInt32)), (.int (y47.toInt8.toInt32)), (.int (y51.toInt8.toInt32))] (.int (0 : Int32)) := Arv.set Ar459 qq459 S459 M459 H459 G459 (by decide) W459 3 rfl (Nat.le_of_ble_eq_true rfl)
      have N459 := Fr.snoc X459 N53 g4
      show own_Goes p e below (T459.setTop (mkF m 198 #[iv i0, iv i1, .val (.long i2), .second, .val (.long i3), .second, iv (0 : Int32), iv (3 : Int32), rv b3, .unset] [])) _
      refine own_via (fun t k => XS.aload X459.here hx rfl (hb hby at_198) rfl rfl (XS.iload X459.here hx rfl (hb hby at_200) rfl (XS.iconst X459.here hx rfl (hb hby at_202) (XS.iadd X459.here hx rfl (hb hby at_203) rfl (XS.bipush X459.here hx rfl (hb hby at_204) k))))) ?_
      show own_Goes p e below (T459.setTop (mkF m 206 #[iv i0, iv i1, .val (.long i2), .second, .val (.long i3), .second, iv (0 : Int32), iv (3 : Int32), rv b3, .unset] [(.int (97 : Int32)), (.int (4 : Int32)), (.ref b3)])) _
      obtain ⟨cl461, Ar461, qq461, S461, M461, H461, G461⟩ := id (V460)
      have hin461 : ¬ ((4 : Int32) < 0 ∨ cl461.slots.size ≤ ((4 : Int32)).toNatClampNeg) := inb_of S461 ⟨by decide, by decide⟩
      obtain ⟨T461, h461, X461, e461, W461, st461⟩ := stB X459 hx hZ e459 Ar461 (j := (4 : Int32)) hin461 (g := (mkF m 206 #[iv i0, iv i1, .val (.long i2), .second, .val (.long i3), .second, iv (0 : Int32), iv (3 : Int32), rv b3, .unset] [(.int (97 : Int32)), (.int (4 : Int32)), (.ref b3)])) rfl rfl (hb hby at_206)
      refine own_via (fun t k => st461 t k) ?_
      have V462 : Arv Z h461 b3 k2 .byte (12 : Int32) [(.int (y7.toInt8.toInt32)), (.int (y11.toInt8.toInt32)), (.int (y15.toInt8.toInt32)), (.int (102 : Int32)), (.int (97 : Int32)), (.int (y27.toInt8.toInt32)), (.int (y31.toInt8.toInt32)), (.int (y35.toInt8.toInt32)), (.int (y39.toInt8.toInt32)), (.int (y43.toInt8.toInt32)), (.int (y47.toInt8.toInt32)), (.int (y51.toInt8.toInt32))] (.int (0 : Int32)) := Arv.set Ar461 qq461 S461 M461 H461 G461 (by decide) W461 4 rfl (Nat.le_of_ble_eq_true rfl)
      have N461 := Fr.snoc X461 N459 g4
      show own_Goes p e below (T461.setTop (mkF m 207 #[iv i0, iv i1, .val (.long i2), .second, .val (.long i3), .second, iv (0 : Int32), iv (3 : Int32), rv b3, .unset] [])) _
      refine own_via (fun t k => XS.aload X461.here hx rfl (hb hby at_207) rfl rfl (XS.iload X461.here hx rfl (hb hby at_209) rfl (XS.iconst X461.here hx rfl (hb hby at_211) (XS.iadd X461.here hx rfl (hb hby at_212) rfl (XS.bipush X461.here hx rfl (hb hby at_213) k))))) ?_
      show own_Goes p e below (T461.setTop (mkF m 215 #[iv i0, iv i1, .val (.long i2), .second, .val (.long i3), .second, iv (0 : Int32), iv (3 : Int32), rv b3, .unset] [(.int (108 : Int32)), (.int (5 : Int32)), (.ref b3)])) _
      obtain ⟨cl463, Ar463, qq463, S463, M463, H463, G463⟩ := id (V462)
      have hin463 : ¬ ((5 : Int32) < 0 ∨ cl463.slots.size ≤ ((5 : Int32)).toNatClampNeg) := inb_of S463 ⟨by decide, by decide⟩
      obtain ⟨T463, h463, X463, e463, W463, st463⟩ := stB X461 hx hZ e461 Ar463 (j := (5 : Int32)) hin463 (g := (mkF m 215 #[iv i0, iv i1, .val (.long i2), .second, .val (.long i3), .second, iv (0 : Int32), iv (3 : Int32), rv b3, .unset] [(.int (108 : Int32)), (.int (5 : Int32)), (.ref b3)])) rfl rfl (hb hby at_215)
      refine own_via (fun t k => st463 t k) ?_
      have V464 : Arv Z h463 b3 k2 .byte (12 : Int32) [(.int (y7.toInt8.toInt32)), (.int (y11.toInt8.toInt32)), (.int (y15.toInt8.toInt32)), (.int (102 : Int32)), (.int (97 : Int32)), (.int (108 : Int32)), (.int (y31.toInt8.toInt32)), (.int (y35.toInt8.toInt32)), (.int (y39.toInt8.toInt32)), (.int (y43.toInt8.toInt32)), (.int (y47.toInt8.toInt32)), (.int (y51.toInt8.toInt32))] (.int (0 : Int32)) := Arv.set Ar463 qq463 S463 M463 H463 G463 (by decide) W463 5 rfl (Nat.le_of_ble_eq_true rfl)
      have N463 := Fr.snoc X463 N461 g4
      show own_Goes p e below (T463.setTop (mkF m 216 #[iv i0, iv i1, .val (.long i2), .second, .val (.long i3), .second, iv (0 : Int32), iv (3 : Int32), rv b3, .unset] [])) _
      refine own_via (fun t k => XS.aload X463.here hx rfl (hb hby at_216) rfl rfl (XS.iload X463.here hx rfl (hb hby at_218) rfl (XS.iconst X463.here hx rfl (hb hby at_220) (XS.iadd X463.here hx rfl (hb hby at_221) rfl (XS.bipush X463.here hx rfl (hb hby at_222) k))))) ?_
      show own_Goes p e below (T463.setTop (mkF m 224 #[iv i0, iv i1, .val (.long i2), .second, .val (.long i3), .second, iv (0 : Int32), iv (3 : Int32), rv b3, .unset] [(.int (115 : Int32)), (.int (6 : Int32)), (.ref b3)])) _
      obtain ⟨cl465, Ar465, qq465, S465, M465, H465, G465⟩ := id (V464)
      have hin465 : ¬ ((6 : Int32) < 0 ∨ cl465.slots.size ≤ ((6 : Int32)).toNatClampNeg) := inb_of S465 ⟨by decide, by decide⟩
      obtain ⟨T465, h465, X465, e465, W465, st465⟩ := stB X463 hx hZ e463 Ar465 (j := (6 : Int32)) hin465 (g := (mkF m 224 #[iv i0, iv i1, .val (.long i2), .second, .val (.long i3), .second, iv (0 : Int32), iv (3 : Int32), rv b3, .unset] [(.int (115 : Int32)), (.int (6 : Int32)), (.ref b3)])) rfl rfl (hb hby at_224)
      refine own_via (fun t k => st465 t k) ?_
      have V466 : Arv Z h465 b3 k2 .byte (12 : Int32) [(.int (y7.toInt8.toInt32)), (.int (y11.toInt8.toInt32)), (.int (y15.toInt8.toInt32)), (.int (102 : Int32)), (.int (97 : Int32)), (.int (108 : Int32)), (.int (115 : Int32)), (.int (y35.toInt8.toInt32)), (.int (y39.toInt8.toInt32)), (.int (y43.toInt8.toInt32)), (.int (y47.toInt8.toInt32)), (.int (y51.toInt8.toInt32))] (.int (0 : Int32)) := Arv.set Ar465 qq465 S465 M465 H465 G465 (by decide) W465 6 rfl (Nat.le_of_ble_eq_true rfl)
      have N465 := Fr.snoc X465 N463 g4
      show own_Goes p e below (T465.setTop (mkF m 225 #[iv i0, iv i1, .val (.long i2), .second, .val (.long i3), .second, iv (0 : Int32), iv (3 : Int32), rv b3, .unset] [])) _
      refine own_via (fun t k => XS.aload X465.here hx rfl (hb hby at_225) rfl rfl (XS.iload X465.here hx rfl (hb hby at_227) rfl (XS.iconst X465.here hx rfl (hb hby at_229) (XS.iadd X465.here hx rfl (hb hby at_230) rfl (XS.bipush X465.here hx rfl (hb hby at_231) k))))) ?_
      show own_Goes p e below (T465.setTop (mkF m 233 #[iv i0, iv i1, .val (.long i2), .second, .val (.long i3), .second, iv (0 : Int32), iv (3 : Int32), rv b3, .unset] [(.int (101 : Int32)), (.int (7 : Int32)), (.ref b3)])) _
      obtain ⟨cl467, Ar467, qq467, S467, M467, H467, G467⟩ := id (V466)
      have hin467 : ¬ ((7 : Int32) < 0 ∨ cl467.slots.size ≤ ((7 : Int32)).toNatClampNeg) := inb_of S467 ⟨by decide, by decide⟩
      obtain ⟨T467, h467, X467, e467, W467, st467⟩ := stB X465 hx hZ e465 Ar467 (j := (7 : Int32)) hin467 (g := (mkF m 233 #[iv i0, iv i1, .val (.long i2), .second, .val (.long i3), .second, iv (0 : Int32), iv (3 : Int32), rv b3, .unset] [(.int (101 : Int32)), (.int (7 : Int32)), (.ref b3)])) rfl rfl (hb hby at_233)
      refine own_via (fun t k => st467 t k) ?_
      have V468 : Arv Z h467 b3 k2 .byte (12 : Int32) [(.int (y7.toInt8.toInt32)), (.int (y11.toInt8.toInt32)), (.int (y15.toInt8.toInt32)), (.int (102 : Int32)), (.int (97 : Int32)), (.int (108 : Int32)), (.int (115 : Int32)), (.int (101 : Int32)), (.int (y39.toInt8.toInt32)), (.int (y43.toInt8.toInt32)), (.int (y47.toInt8.toInt32)), (.int (y51.toInt8.toInt32))] (.int (0 : Int32)) := Arv.set Ar467 qq467 S467 M467 H467 G467 (by decide) W467 7 rfl (Nat.le_of_ble_eq_true rfl)
      have N467 := Fr.snoc X467 N465 g4
      show own_Goes p e below (T467.setTop (mkF m 234 #[iv i0, iv i1, .val (.long i2), .second, .val (.long i3), .second, iv (0 : Int32), iv (3 : Int32), rv b3, .unset] [])) _
      obtain ⟨T469, h469, X469, e469, E469, A469, D469, -, st469⟩ := newO X467 hx hZ hown (wd hw 1 rfl) (wd hw 2 rfl) (wd hw 3 rfl) e467 (g := (mkF m 234 #[iv i0, iv i1, .val (.long i2), .second, .val (.long i3), .second, iv (0 : Int32), iv (3 : Int32), rv b3, .unset] [])) rfl (hb hby at_234) (by decide) (by decide)
      obtain ⟨b470, q469⟩ : ∃ z, z = h467.size := ⟨_, rfl⟩
      rw [← q469] at A469 D469 st469
      refine own_via (fun t k => st469 t k) ?_
      have E472 : Exa Z h467 b3 "[B" := (((((((((((((((((a2x.wr W9).wr W13).wr W17).wr W21).wr W25).wr W29).wr W33).wr W37).wr W41).wr W45).wr W49).wr W53).wr W459).wr W461).wr W463).wr W465).wr W467)
      have N471 : b3 ≠ b470 := Nat.ne_of_lt (Nat.lt_of_lt_of_le E472.lt (Nat.le_of_eq q469.symm))
      have O474 : Old Z n0 h467 := ((((((((((((((((((O0.ext E2).wr W9 g4).wr W13 g4).wr W17 g4).wr W21 g4).wr W25 g4).wr W29 g4).wr W33 g4).wr W37 g4).wr W41 g4).wr W45 g4).wr W49 g4).wr W53 g4).wr W459 g4).wr W461 g4).wr W463 g4).wr W465 g4).wr W467 g4)
      have g473 : n0 ≤ b470 := Nat.le_trans (own_old O474) (Nat.le_of_eq q469.symm)
      have Z476 : h0.size ≤ h467.size := (Nat.le_trans (Nat.le_trans (Nat.le_trans (Nat.le_trans (Nat.le_trans (Nat.le_trans (Nat.le_trans (Nat.le_trans (Nat.le_trans (Nat.le_trans (Nat.le_trans (Nat.le_trans (Nat.le_trans (Nat.le_trans (Nat.le_trans (Nat.le_trans (Nat.le_trans (Nat.le_trans (Nat.le_refl _) E2.1) (Nat.le_of_eq W9.size.symm)) (Nat.le_of_eq W13.size.symm)) (Nat.le_of_eq W17.size.symm)) (Nat.le_of_eq W21.size.symm)) (Nat.le_of_eq W25.size.symm)) (Nat.le_of_eq W29.size.symm)) (Nat.le_of_eq W33.size.symm)) (Nat.le_of_eq W37.size.symm)) (Nat.le_of_eq W41.size.symm)) (Nat.le_of_eq W45.size.symm)) (Nat.le_of_eq W49.size.symm)) (Nat.le_of_eq W53.size.symm)) (Nat.le_of_eq W459.size.symm)) (Nat.le_of_eq W461.size.symm)) (Nat.le_of_eq W463.size.symm)) (Nat.le_of_eq W465.size.symm)) (Nat.le_of_eq W467.size.symm))
      have B475 : h0.size ≤ b470 := Nat.le_trans Z476 (Nat.le_of_eq q469.symm)
      have F477 : Fld Z h469 b470 zs1 "kept" zs3 .null := D469 (Or.inr (wd hw 13 rfl)) (ty := (.array (.object zs2))) (by decide)
      have F478 : Fld Z h469 b470 zs1 "chunks" "[[I" .null := D469 (Or.inl (wd hw 17 rfl)) (ty := (.array (.array .int))) (by decide)
      have F479 : Fld Z h469 b470 zs1 "text" "[B" .null := D469 (Or.inr (wd hw 19 rfl)) (ty := (.array .byte)) (by decide)
      have F480 : Fld Z h469 b470 zs1 "first" "[I" .null := D469 (Or.inl (wd hw 26 rfl)) (ty := (.array .int)) (by decide)
      show own_Goes p e below (T469.setTop (mkF m 237 #[iv i0, iv i1, .val (.long i2), .second, .val (.long i3), .second, iv (0 : Int32), iv (3 : Int32), rv b3, .unset] [(.ref b470)])) _
      refine own_via (fun t k => XS.dup X469.here hx rfl (hb hby at_237) rfl rfl (XS.aload X469.here hx rfl (hb hby at_238) rfl rfl k)) ?_
      have V482 : Arv Z h469 b3 k2 .byte (12 : Int32) [(.int (y7.toInt8.toInt32)), (.int (y11.toInt8.toInt32)), (.int (y15.toInt8.toInt32)), (.int (102 : Int32)), (.int (97 : Int32)), (.int (108 : Int32)), (.int (115 : Int32)), (.int (101 : Int32)), (.int (y39.toInt8.toInt32)), (.int (y43.toInt8.toInt32)), (.int (y47.toInt8.toInt32)), (.int (y51.toInt8.toInt32))] (.int (0 : Int32)) := (V468.ext E469)
      have l483 : own_Len Z h469 b3 .byte (12 : Int32) := ⟨_, _, _, V482⟩
      have O484 : Old Z n0 h469 := (O474.ext E469)
      obtain ⟨_, T481, _, X481, hQ481, st481⟩ := own_ci X469 hx hZ hown (wd hw 4 rfl) (wd hw 5 rfl) (wd hw 6 rfl) (wd hw 3 rfl) rfl (by decide) (rm2 l Z a0 hw [] b470 b3 h469 n0 O484 F477 A469 g473 F478 F479 l483 N471 F480) e469 (g := (mkF m 240 #[iv i0, iv i1, .val (.long i2), .second, .val (.long i3), .second, iv (0 : Int32), iv (3 : Int32), rv b3, .unset] [(.ref b3), (.ref b470), (.ref b470)])) rfl (by rw [hml]; rfl) (rest := [(.ref b470)]) (W := 1) (lenOf pd_2 rfl) rfl (by show 2 * 0 + _ ≤ _; exact Nat.le_of_eq rfl) (hb hby at_240) (by decide) (by decide) (by decide) (by decide)
      obtain ⟨h481, e481⟩ : ∃ z, T481.heap = z := ⟨_, rfl⟩
      rw [e481] at hQ481
      obtain ⟨rfl, Nq481, K481, ex485, fx486⟩ := hQ481
      have N481 := Fr.app N467 Nq481
      refine own_via (fun t k => st481 t (XS.astore X481.here hx rfl (hb hby at_243) rfl rfl (l' := #[iv i0, iv i1, .val (.long i2), .second, .val (.long i3), .second, iv (0 : Int32), iv (3 : Int32), rv b3, rv b470]) rfl (XS.aload X481.here hx rfl (hb hby at_245) rfl rfl (XS.iload X481.here hx rfl (hb hby at_247) rfl k)))) ?_
      show own_Goes p e below (T481.setTop (mkF m 249 #[iv i0, iv i1, .val (.long i2), .second, .val (.long i3), .second, iv (0 : Int32), iv (3 : Int32), rv b3, rv b470] [(.int (3 : Int32)), (.ref b470)])) _
      have V538 : Arv Z h481 b3 k2 .byte (12 : Int32) [(.int (y7.toInt8.toInt32)), (.int (y11.toInt8.toInt32)), (.int (y15.toInt8.toInt32)), (.int (102 : Int32)), (.int (97 : Int32)), (.int (108 : Int32)), (.int (115 : Int32)), (.int (101 : Int32)), (.int (y39.toInt8.toInt32)), (.int (y43.toInt8.toInt32)), (.int (y47.toInt8.toInt32)), (.int (y51.toInt8.toInt32))] (.int (0 : Int32)) := (V482.keep K481 (ninS N471 nin0))
      have O539 : Old Z n0 h481 := (O484.keep K481 (allS g473 all0))
      obtain ⟨_, T487, _, X487, hQ487, st487⟩ := own_cv X481 hx hZ hown (wd hw 28 rfl) (wd hw 29 rfl) (wd hw 31 rfl) (wd hw 30 rfl) (wd hw 32 rfl) (wd hw 3 rfl) (by decide) (rm6 l Z a0 hw [] b470 b3 k2 (y7.toInt8.toInt32) (y11.toInt8.toInt32) (y15.toInt8.toInt32) (97 : Int32) (108 : Int32) (115 : Int32) (101 : Int32) (y39.toInt8.toInt32) (y43.toInt8.toInt32) (y47.toInt8.toInt32) (y51.toInt8.toInt32) h481 n0 O539 fx486 V538) e481 ex485 (g := (mkF m 249 #[iv i0, iv i1, .val (.long i2), .second, .val (.long i3), .second, iv (0 : Int32), iv (3 : Int32), rv b3, rv b470] [(.int (3 : Int32)), (.ref b470)])) rfl (by rw [hml]; rfl) (rest := []) (W := 0) (lenOf pd_3 rfl) rfl (by show 2 * 0 + _ ≤ _; exact Nat.le_of_eq rfl) (hb hby at_249) (by decide) (by decide) (by decide) (by decide)
      obtain ⟨rfl, Nq487, hh540⟩ := hQ487
      have N487 := Fr.app N481 Nq487
      refine own_via (fun t k => st487 t (XS.iload X487.here hx rfl (hb hby at_252) rfl (XS.icmpNo X487.here hx rfl (hb hby at_254) rfl (teq (by decide : (0 : Int32) = (0 : Int32))).2 (XS.iconst X487.here hx rfl (hb hby at_257) (XS.goto X487.here hx rfl (pc0 := 258) (pc' := 262) rfl (hb hby at_258) (by decide) (by decide) k))))) ?_
      show own_Goes p e below (T487.setTop (mkF m 262 #[iv i0, iv i1, .val (.long i2), .second, .val (.long i3), .second, iv (0 : Int32), iv (3 : Int32), rv b3, rv b470] [(.int (1 : Int32))])) _
      obtain ⟨fs, hr, hrun, hended, hW, hsame⟩ := X487.leave (v := some (.int (1 : Int32))) (fun h => by rw [Bd.returns] at h; cases h)
      refine own_end (t := T487.setFrames fs) ?_ ⟨_, hrun, hended, _, _, rfl, ?_, ⟨_, rfl⟩, hW, hsame.mono (by decide) (by decide)⟩
      · exact retN X487 hx (t := .boolean) Bd.returns (by simp) (hb hby at_262) hr
      · exact ⟨rfl, N487⟩
    · have qs541 := qs
      rw [qs]
      show own_Goes p e below (T53.setTop (mkF m 149 #[iv i0, iv i1, .val (.long i2), .second, .val (.long i3), .second, iv (0 : Int32), iv (4 : Int32), rv b3, .unset] [])) _
      refine own_via (fun t k => XS.iload X53.here hx rfl (hb hby at_149) rfl (XS.ifYes X53.here hx rfl (pc0 := 151) (pc' := 191) rfl (hb hby at_151) rfl ((if0 _ _).trans (teq (by decide : (0 : Int32) = (0 : Int32))).1) (by decide) (by decide) (XS.aload X53.here hx rfl (hb hby at_191) rfl rfl (XS.iload X53.here hx rfl (hb hby at_193) rfl (XS.bipush X53.here hx rfl (hb hby at_195) k))))) ?_
      show own_Goes p e below (T53.setTop (mkF m 197 #[iv i0, iv i1, .val (.long i2), .second, .val (.long i3), .second, iv (0 : Int32), iv (4 : Int32), rv b3, .unset] [(.int (102 : Int32)), (.int (4 : Int32)), (.ref b3)])) _
      obtain ⟨cl542, Ar542, qq542, S542, M542, H542, G542⟩ := id (V54)
      have hin542 : ¬ ((4 : Int32) < 0 ∨ cl542.slots.size ≤ ((4 : Int32)).toNatClampNeg) := inb_of S542 ⟨by decide, by decide⟩
      obtain ⟨T542, h542, X542, e542, W542, st542⟩ := stB X53 hx hZ e53 Ar542 (j := (4 : Int32)) hin542 (g := (mkF m 197 #[iv i0, iv i1, .val (.long i2), .second, .val (.long i3), .second, iv (0 : Int32), iv (4 : Int32), rv b3, .unset] [(.int (102 : Int32)), (.int (4 : Int32)), (.ref b3)])) rfl rfl (hb hby at_197)
      refine own_via (fun t k => st542 t k) ?_
      have V543 : Arv Z h542 b3 k2 .byte (12 : Int32) [(.int (y7.toInt8.toInt32)), (.int (y11.toInt8.toInt32)), (.int (y15.toInt8.toInt32)), (.int (y19.toInt8.toInt32)), (.int (102 : Int32)), (.int (y27.toInt8.toInt32)), (.int (y31.toInt8.toInt32)), (.int (y35.toInt8.toInt32)), (.int (y39.toInt8.toInt32)), (.int (y43.toInt8.toInt32)), (.int (y47.toInt8.toInt32)), (.int (y51.toInt8.toInt32))] (.int (0 : Int32)) := Arv.set Ar542 qq542 S542 M542 H542 G542 (by decide) W542 4 rfl (Nat.le_of_ble_eq_true rfl)
      have N542 := Fr.snoc X542 N53 g4
      show own_Goes p e below (T542.setTop (mkF m 198 #[iv i0, iv i1, .val (.long i2), .second, .val (.long i3), .second, iv (0 : Int32), iv (4 : Int32), rv b3, .unset] [])) _
      refine own_via (fun t k => XS.aload X542.here hx rfl (hb hby at_198) rfl rfl (XS.iload X542.here hx rfl (hb hby at_200) rfl (XS.iconst X542.here hx rfl (hb hby at_202) (XS.iadd X542.here hx rfl (hb hby at_203) rfl (XS.bipush X542.here hx rfl (hb hby at_204) k))))) ?_
      show own_Goes p e below (T542.setTop (mkF m 206 #[iv i0, iv i1, .val (.long i2), .second, .val (.long i3), .second, iv (0 : Int32), iv (4 : Int32), rv b3, .unset] [(.int (97 : Int32)), (.int (5 : Int32)), (.ref b3)])) _
      obtain ⟨cl544, Ar544, qq544, S544, M544, H544, G544⟩ := id (V543)
      have hin544 : ¬ ((5 : Int32) < 0 ∨ cl544.slots.size ≤ ((5 : Int32)).toNatClampNeg) := inb_of S544 ⟨by decide, by decide⟩
      obtain ⟨T544, h544, X544, e544, W544, st544⟩ := stB X542 hx hZ e542 Ar544 (j := (5 : Int32)) hin544 (g := (mkF m 206 #[iv i0, iv i1, .val (.long i2), .second, .val (.long i3), .second, iv (0 : Int32), iv (4 : Int32), rv b3, .unset] [(.int (97 : Int32)), (.int (5 : Int32)), (.ref b3)])) rfl rfl (hb hby at_206)
      refine own_via (fun t k => st544 t k) ?_
      have V545 : Arv Z h544 b3 k2 .byte (12 : Int32) [(.int (y7.toInt8.toInt32)), (.int (y11.toInt8.toInt32)), (.int (y15.toInt8.toInt32)), (.int (y19.toInt8.toInt32)), (.int (102 : Int32)), (.int (97 : Int32)), (.int (y31.toInt8.toInt32)), (.int (y35.toInt8.toInt32)), (.int (y39.toInt8.toInt32)), (.int (y43.toInt8.toInt32)), (.int (y47.toInt8.toInt32)), (.int (y51.toInt8.toInt32))] (.int (0 : Int32)) := Arv.set Ar544 qq544 S544 M544 H544 G544 (by decide) W544 5 rfl (Nat.le_of_ble_eq_true rfl)
      have N544 := Fr.snoc X544 N542 g4
      show own_Goes p e below (T544.setTop (mkF m 207 #[iv i0, iv i1, .val (.long i2), .second, .val (.long i3), .second, iv (0 : Int32), iv (4 : Int32), rv b3, .unset] [])) _
      refine own_via (fun t k => XS.aload X544.here hx rfl (hb hby at_207) rfl rfl (XS.iload X544.here hx rfl (hb hby at_209) rfl (XS.iconst X544.here hx rfl (hb hby at_211) (XS.iadd X544.here hx rfl (hb hby at_212) rfl (XS.bipush X544.here hx rfl (hb hby at_213) k))))) ?_
      show own_Goes p e below (T544.setTop (mkF m 215 #[iv i0, iv i1, .val (.long i2), .second, .val (.long i3), .second, iv (0 : Int32), iv (4 : Int32), rv b3, .unset] [(.int (108 : Int32)), (.int (6 : Int32)), (.ref b3)])) _
      obtain ⟨cl546, Ar546, qq546, S546, M546, H546, G546⟩ := id (V545)
      have hin546 : ¬ ((6 : Int32) < 0 ∨ cl546.slots.size ≤ ((6 : Int32)).toNatClampNeg) := inb_of S546 ⟨by decide, by decide⟩
      obtain ⟨T546, h546, X546, e546, W546, st546⟩ := stB X544 hx hZ e544 Ar546 (j := (6 : Int32)) hin546 (g := (mkF m 215 #[iv i0, iv i1, .val (.long i2), .second, .val (.long i3), .second, iv (0 : Int32), iv (4 : Int32), rv b3, .unset] [(.int (108 : Int32)), (.int (6 : Int32)), (.ref b3)])) rfl rfl (hb hby at_215)
      refine own_via (fun t k => st546 t k) ?_
      have V547 : Arv Z h546 b3 k2 .byte (12 : Int32) [(.int (y7.toInt8.toInt32)), (.int (y11.toInt8.toInt32)), (.int (y15.toInt8.toInt32)), (.int (y19.toInt8.toInt32)), (.int (102 : Int32)), (.int (97 : Int32)), (.int (108 : Int32)), (.int (y35.toInt8.toInt32)), (.int (y39.toInt8.toInt32)), (.int (y43.toInt8.toInt32)), (.int (y47.toInt8.toInt32)), (.int (y51.toInt8.toInt32))] (.int (0 : Int32)) := Arv.set Ar546 qq546 S546 M546 H546 G546 (by decide) W546 6 rfl (Nat.le_of_ble_eq_true rfl)
      have N546 := Fr.snoc X546 N544 g4
      show own_Goes p e below (T546.setTop (mkF m 216 #[iv i0, iv i1, .val (.long i2), .second, .val (.long i3), .second, iv (0 : Int32), iv (4 : Int32), rv b3, .unset] [])) _
      refine own_via (fun t k => XS.aload X546.here hx rfl (hb hby at_216) rfl rfl (XS.iload X546.here hx rfl (hb hby at_218) rfl (XS.iconst X546.here hx rfl (hb hby at_220) (XS.iadd X546.here hx rfl (hb hby at_221) rfl (XS.bipush X546.here hx rfl (hb hby at_222) k))))) ?_
      show own_Goes p e below (T546.setTop (mkF m 224 #[iv i0, iv i1, .val (.long i2), .second, .val (.long i3), .second, iv (0 : Int32), iv (4 : Int32), rv b3, .unset] [(.int (115 : Int32)), (.int (7 : Int32)), (.ref b3)])) _
      obtain ⟨cl548, Ar548, qq548, S548, M548, H548, G548⟩ := id (V547)
      have hin548 : ¬ ((7 : Int32) < 0 ∨ cl548.slots.size ≤ ((7 : Int32)).toNatClampNeg) := inb_of S548 ⟨by decide, by decide⟩
      obtain ⟨T548, h548, X548, e548, W548, st548⟩ := stB X546 hx hZ e546 Ar548 (j := (7 : Int32)) hin548 (g := (mkF m 224 #[iv i0, iv i1, .val (.long i2), .second, .val (.long i3), .second, iv (0 : Int32), iv (4 : Int32), rv b3, .unset] [(.int (115 : Int32)), (.int (7 : Int32)), (.ref b3)])) rfl rfl (hb hby at_224)
      refine own_via (fun t k => st548 t k) ?_
      have V549 : Arv Z h548 b3 k2 .byte (12 : Int32) [(.int (y7.toInt8.toInt32)), (.int (y11.toInt8.toInt32)), (.int (y15.toInt8.toInt32)), (.int (y19.toInt8.toInt32)), (.int (102 : Int32)), (.int (97 : Int32)), (.int (108 : Int32)), (.int (115 : Int32)), (.int (y39.toInt8.toInt32)), (.int (y43.toInt8.toInt32)), (.int (y47.toInt8.toInt32)), (.int (y51.toInt8.toInt32))] (.int (0 : Int32)) := Arv.set Ar548 qq548 S548 M548 H548 G548 (by decide) W548 7 rfl (Nat.le_of_ble_eq_true rfl)
      have N548 := Fr.snoc X548 N546 g4
      show own_Goes p e below (T548.setTop (mkF m 225 #[iv i0, iv i1, .val (.long i2), .second, .val (.long i3), .second, iv (0 : Int32), iv (4 : Int32), rv b3, .unset] [])) _
      refine own_via (fun t k => XS.aload X548.here hx rfl (hb hby at_225) rfl rfl (XS.iload X548.here hx rfl (hb hby at_227) rfl (XS.iconst X548.here hx rfl (hb hby at_229) (XS.iadd X548.here hx rfl (hb hby at_230) rfl (XS.bipush X548.here hx rfl (hb hby at_231) k))))) ?_
      show own_Goes p e below (T548.setTop (mkF m 233 #[iv i0, iv i1, .val (.long i2), .second, .val (.long i3), .second, iv (0 : Int32), iv (4 : Int32), rv b3, .unset] [(.int (101 : Int32)), (.int (8 : Int32)), (.ref b3)])) _
      obtain ⟨cl550, Ar550, qq550, S550, M550, H550, G550⟩ := id (V549)
      have hin550 : ¬ ((8 : Int32) < 0 ∨ cl550.slots.size ≤ ((8 : Int32)).toNatClampNeg) := inb_of S550 ⟨by decide, by decide⟩
      obtain ⟨T550, h550, X550, e550, W550, st550⟩ := stB X548 hx hZ e548 Ar550 (j := (8 : Int32)) hin550 (g := (mkF m 233 #[iv i0, iv i1, .val (.long i2), .second, .val (.long i3), .second, iv (0 : Int32), iv (4 : Int32), rv b3, .unset] [(.int (101 : Int32)), (.int (8 : Int32)), (.ref b3)])) rfl rfl (hb hby at_233)
      refine own_via (fun t k => st550 t k) ?_
      have V551 : Arv Z h550 b3 k2 .byte (12 : Int32) [(.int (y7.toInt8.toInt32)), (.int (y11.toInt8.toInt32)), (.int (y15.toInt8.toInt32)), (.int (y19.toInt8.toInt32)), (.int (102 : Int32)), (.int (97 : Int32)), (.int (108 : Int32)), (.int (115 : Int32)), (.int (101 : Int32)), (.int (y43.toInt8.toInt32)), (.int (y47.toInt8.toInt32)), (.int (y51.toInt8.toInt32))] (.int (0 : Int32)) := Arv.set Ar550 qq550 S550 M550 H550 G550 (by decide) W550 8 rfl (Nat.le_of_ble_eq_true rfl)
      have N550 := Fr.snoc X550 N548 g4
      show own_Goes p e below (T550.setTop (mkF m 234 #[iv i0, iv i1, .val (.long i2), .second, .val (.long i3), .second, iv (0 : Int32), iv (4 : Int32), rv b3, .unset] [])) _
      obtain ⟨T552, h552, X552, e552, E552, A552, D552, -, st552⟩ := newO X550 hx hZ hown (wd hw 1 rfl) (wd hw 2 rfl) (wd hw 3 rfl) e550 (g := (mkF m 234 #[iv i0, iv i1, .val (.long i2), .second, .val (.long i3), .second, iv (0 : Int32), iv (4 : Int32), rv b3, .unset] [])) rfl (hb hby at_234) (by decide) (by decide)
      obtain ⟨b553, q552⟩ : ∃ z, z = h550.size := ⟨_, rfl⟩
      rw [← q552] at A552 D552 st552
      refine own_via (fun t k => st552 t k) ?_
      have E555 : Exa Z h550 b3 "[B" := (((((((((((((((((a2x.wr W9).wr W13).wr W17).wr W21).wr W25).wr W29).wr W33).wr W37).wr W41).wr W45).wr W49).wr W53).wr W542).wr W544).wr W546).wr W548).wr W550)
      have N554 : b3 ≠ b553 := Nat.ne_of_lt (Nat.lt_of_lt_of_le E555.lt (Nat.le_of_eq q552.symm))
      have O557 : Old Z n0 h550 := ((((((((((((((((((O0.ext E2).wr W9 g4).wr W13 g4).wr W17 g4).wr W21 g4).wr W25 g4).wr W29 g4).wr W33 g4).wr W37 g4).wr W41 g4).wr W45 g4).wr W49 g4).wr W53 g4).wr W542 g4).wr W544 g4).wr W546 g4).wr W548 g4).wr W550 g4)
      have g556 : n0 ≤ b553 := Nat.le_trans (own_old O557) (Nat.le_of_eq q552.symm)
      have Z559 : h0.size ≤ h550.size := (Nat.le_trans (Nat.le_trans (Nat.le_trans (Nat.le_trans (Nat.le_trans (Nat.le_trans (Nat.le_trans (Nat.le_trans (Nat.le_trans (Nat.le_trans (Nat.le_trans (Nat.le_trans (Nat.le_trans (Nat.le_trans (Nat.le_trans (Nat.le_trans (Nat.le_trans (Nat.le_trans (Nat.le_refl _) E2.1) (Nat.le_of_eq W9.size.symm)) (Nat.le_of_eq W13.size.symm)) (Nat.le_of_eq W17.size.symm)) (Nat.le_of_eq W21.size.symm)) (Nat.le_of_eq W25.size.symm)) (Nat.le_of_eq W29.size.symm)) (Nat.le_of_eq W33.size.symm)) (Nat.le_of_eq W37.size.symm)) (Nat.le_of_eq W41.size.symm)) (Nat.le_of_eq W45.size.symm)) (Nat.le_of_eq W49.size.symm)) (Nat.le_of_eq W53.size.symm)) (Nat.le_of_eq W542.size.symm)) (Nat.le_of_eq W544.size.symm)) (Nat.le_of_eq W546.size.symm)) (Nat.le_of_eq W548.size.symm)) (Nat.le_of_eq W550.size.symm))
      have B558 : h0.size ≤ b553 := Nat.le_trans Z559 (Nat.le_of_eq q552.symm)
      have F560 : Fld Z h552 b553 zs1 "kept" zs3 .null := D552 (Or.inr (wd hw 13 rfl)) (ty := (.array (.object zs2))) (by decide)
      have F561 : Fld Z h552 b553 zs1 "chunks" "[[I" .null := D552 (Or.inl (wd hw 17 rfl)) (ty := (.array (.array .int))) (by decide)
      have F562 : Fld Z h552 b553 zs1 "text" "[B" .null := D552 (Or.inr (wd hw 19 rfl)) (ty := (.array .byte)) (by decide)
      have F563 : Fld Z h552 b553 zs1 "first" "[I" .null := D552 (Or.inl (wd hw 26 rfl)) (ty := (.array .int)) (by decide)
      show own_Goes p e below (T552.setTop (mkF m 237 #[iv i0, iv i1, .val (.long i2), .second, .val (.long i3), .second, iv (0 : Int32), iv (4 : Int32), rv b3, .unset] [(.ref b553)])) _
      refine own_via (fun t k => XS.dup X552.here hx rfl (hb hby at_237) rfl rfl (XS.aload X552.here hx rfl (hb hby at_238) rfl rfl k)) ?_
      have V565 : Arv Z h552 b3 k2 .byte (12 : Int32) [(.int (y7.toInt8.toInt32)), (.int (y11.toInt8.toInt32)), (.int (y15.toInt8.toInt32)), (.int (y19.toInt8.toInt32)), (.int (102 : Int32)), (.int (97 : Int32)), (.int (108 : Int32)), (.int (115 : Int32)), (.int (101 : Int32)), (.int (y43.toInt8.toInt32)), (.int (y47.toInt8.toInt32)), (.int (y51.toInt8.toInt32))] (.int (0 : Int32)) := (V551.ext E552)
      have l566 : own_Len Z h552 b3 .byte (12 : Int32) := ⟨_, _, _, V565⟩
      have O567 : Old Z n0 h552 := (O557.ext E552)
      obtain ⟨_, T564, _, X564, hQ564, st564⟩ := own_ci X552 hx hZ hown (wd hw 4 rfl) (wd hw 5 rfl) (wd hw 6 rfl) (wd hw 3 rfl) rfl (by decide) (rm2 l Z a0 hw [] b553 b3 h552 n0 O567 F560 A552 g556 F561 F562 l566 N554 F563) e552 (g := (mkF m 240 #[iv i0, iv i1, .val (.long i2), .second, .val (.long i3), .second, iv (0 : Int32), iv (4 : Int32), rv b3, .unset] [(.ref b3), (.ref b553), (.ref b553)])) rfl (by rw [hml]; rfl) (rest := [(.ref b553)]) (W := 1) (lenOf pd_2 rfl) rfl (by show 2 * 0 + _ ≤ _; exact Nat.le_of_eq rfl) (hb hby at_240) (by decide) (by decide) (by decide) (by decide)
      obtain ⟨h564, e564⟩ : ∃ z, T564.heap = z := ⟨_, rfl⟩
      rw [e564] at hQ564
      obtain ⟨rfl, Nq564, K564, ex568, fx569⟩ := hQ564
      have N564 := Fr.app N550 Nq564
      refine own_via (fun t k => st564 t (XS.astore X564.here hx rfl (hb hby at_243) rfl rfl (l' := #[iv i0, iv i1, .val (.long i2), .second, .val (.long i3), .second, iv (0 : Int32), iv (4 : Int32), rv b3, rv b553]) rfl (XS.aload X564.here hx rfl (hb hby at_245) rfl rfl (XS.iload X564.here hx rfl (hb hby at_247) rfl k)))) ?_
      show own_Goes p e below (T564.setTop (mkF m 249 #[iv i0, iv i1, .val (.long i2), .second, .val (.long i3), .second, iv (0 : Int32), iv (4 : Int32), rv b3, rv b553] [(.int (4 : Int32)), (.ref b553)])) _
      have V621 : Arv Z h564 b3 k2 .byte (12 : Int32) [(.int (y7.toInt8.toInt32)), (.int (y11.toInt8.toInt32)), (.int (y15.toInt8.toInt32)), (.int (y19.toInt8.toInt32)), (.int (102 : Int32)), (.int (97 : Int32)), (.int (108 : Int32)), (.int (115 : Int32)), (.int (101 : Int32)), (.int (y43.toInt8.toInt32)), (.int (y47.toInt8.toInt32)), (.int (y51.toInt8.toInt32))] (.int (0 : Int32)) := (V565.keep K564 (ninS N554 nin0))
      have O622 : Old Z n0 h564 := (O567.keep K564 (allS g556 all0))
      obtain ⟨_, T570, _, X570, hQ570, st570⟩ := own_cv X564 hx hZ hown (wd hw 28 rfl) (wd hw 29 rfl) (wd hw 31 rfl) (wd hw 30 rfl) (wd hw 32 rfl) (wd hw 3 rfl) (by decide) (rm7 l Z a0 hw [] b553 b3 k2 (y7.toInt8.toInt32) (y11.toInt8.toInt32) (y15.toInt8.toInt32) (y19.toInt8.toInt32) (97 : Int32) (108 : Int32) (115 : Int32) (101 : Int32) (y43.toInt8.toInt32) (y47.toInt8.toInt32) (y51.toInt8.toInt32) h564 n0 O622 fx569 V621) e564 ex568 (g := (mkF m 249 #[iv i0, iv i1, .val (.long i2), .second, .val (.long i3), .second, iv (0 : Int32), iv (4 : Int32), rv b3, rv b553] [(.int (4 : Int32)), (.ref b553)])) rfl (by rw [hml]; rfl) (rest := []) (W := 0) (lenOf pd_3 rfl) rfl (by show 2 * 0 + _ ≤ _; exact Nat.le_of_eq rfl) (hb hby at_249) (by decide) (by decide) (by decide) (by decide)
      obtain ⟨rfl, Nq570, hh623⟩ := hQ570
      have N570 := Fr.app N564 Nq570
      refine own_via (fun t k => st570 t (XS.iload X570.here hx rfl (hb hby at_252) rfl (XS.icmpNo X570.here hx rfl (hb hby at_254) rfl (teq (by decide : (0 : Int32) = (0 : Int32))).2 (XS.iconst X570.here hx rfl (hb hby at_257) (XS.goto X570.here hx rfl (pc0 := 258) (pc' := 262) rfl (hb hby at_258) (by decide) (by decide) k))))) ?_
      show own_Goes p e below (T570.setTop (mkF m 262 #[iv i0, iv i1, .val (.long i2), .second, .val (.long i3), .second, iv (0 : Int32), iv (4 : Int32), rv b3, rv b553] [(.int (1 : Int32))])) _
      obtain ⟨fs, hr, hrun, hended, hW, hsame⟩ := X570.leave (v := some (.int (1 : Int32))) (fun h => by rw [Bd.returns] at h; cases h)
      refine own_end (t := T570.setFrames fs) ?_ ⟨_, hrun, hended, _, _, rfl, ?_, ⟨_, rfl⟩, hW, hsame.mono (by decide) (by decide)⟩
      · exact retN X570 hx (t := .boolean) Bd.returns (by simp) (hb hby at_262) hr
      · exact ⟨rfl, N570⟩
    · have qs624 := qs
      rw [qs]
      show own_Goes p e below (T53.setTop (mkF m 149 #[iv i0, iv i1, .val (.long i2), .second, .val (.long i3), .second, iv (0 : Int32), iv (5 : Int32), rv b3, .unset] [])) _
      refine own_via (fun t k => XS.iload X53.here hx rfl (hb hby at_149) rfl (XS.ifYes X53.here hx rfl (pc0 := 151) (pc' := 191) rfl (hb hby at_151) rfl ((if0 _ _).trans (teq (by decide : (0 : Int32) = (0 : Int32))).1) (by decide) (by decide) (XS.aload X53.here hx rfl (hb hby at_191) rfl rfl (XS.iload X53.here hx rfl (hb hby at_193) rfl (XS.bipush X53.here hx rfl (hb hby at_195) k))))) ?_
      show own_Goes p e below (T53.setTop (mkF m 197 #[iv i0, iv i1, .val (.long i2), .second, .val (.long i3), .second, iv (0 : Int32), iv (5 : Int32), rv b3, .unset] [(.int (102 : Int32)), (.int (5 : Int32)), (.ref b3)])) _
      obtain ⟨cl625, Ar625, qq625, S625, M625, H625, G625⟩ := id (V54)
      have hin625 : ¬ ((5 : Int32) < 0 ∨ cl625.slots.size ≤ ((5 : Int32)).toNatClampNeg) := inb_of S625 ⟨by decide, by decide⟩
      obtain ⟨T625, h625, X625, e625, W625, st625⟩ := stB X53 hx hZ e53 Ar625 (j := (5 : Int32)) hin625 (g := (mkF m 197 #[iv i0, iv i1, .val (.long i2), .second, .val (.long i3), .second, iv (0 : Int32), iv (5 : Int32), rv b3, .unset] [(.int (102 : Int32)), (.int (5 : Int32)), (.ref b3)])) rfl rfl (hb hby at_197)
      refine own_via (fun t k => st625 t k) ?_
      have V626 : Arv Z h625 b3 k2 .byte (12 : Int32) [(.int (y7.toInt8.toInt32)), (.int (y11.toInt8.toInt32)), (.int (y15.toInt8.toInt32)), (.int (y19.toInt8.toInt32)), (.int (y23.toInt8.toInt32)), (.int (102 : Int32)), (.int (y31.toInt8.toInt32)), (.int (y35.toInt8.toInt32)), (.int (y39.toInt8.toInt32)), (.int (y43.toInt8.toInt32)), (.int (y47.toInt8.toInt32)), (.int (y51.toInt8.toInt32))] (.int (0 : Int32)) := Arv.set Ar625 qq625 S625 M625 H625 G625 (by decide) W625 5 rfl (Nat.le_of_ble_eq_true rfl)
      have N625 := Fr.snoc X625 N53 g4
      show own_Goes p e below (T625.setTop (mkF m 198 #[iv i0, iv i1, .val (.long i2), .second, .val (.long i3), .second, iv (0 : Int32), iv (5 : Int32), rv b3, .unset] [])) _
      refine own_via (fun t k => XS.aload X625.here hx rfl (hb hby at_198) rfl rfl (XS.iload X625.here hx rfl (hb hby at_200) rfl (XS.iconst X625.here hx rfl (hb hby at_202) (XS.iadd X625.here hx rfl (hb hby at_203) rfl (XS.bipush X625.here hx rfl (hb hby at_204) k))))) ?_
      show own_Goes p e below (T625.setTop (mkF m 206 #[iv i0, iv i1, .val (.long i2), .second, .val (.long i3), .second, iv (0 : Int32), iv (5 : Int32), rv b3, .unset] [(.int (97 : Int32)), (.int (6 : Int32)), (.ref b3)])) _
      obtain ⟨cl627, Ar627, qq627, S627, M627, H627, G627⟩ := id (V626)
      have hin627 : ¬ ((6 : Int32) < 0 ∨ cl627.slots.size ≤ ((6 : Int32)).toNatClampNeg) := inb_of S627 ⟨by decide, by decide⟩
      obtain ⟨T627, h627, X627, e627, W627, st627⟩ := stB X625 hx hZ e625 Ar627 (j := (6 : Int32)) hin627 (g := (mkF m 206 #[iv i0, iv i1, .val (.long i2), .second, .val (.long i3), .second, iv (0 : Int32), iv (5 : Int32), rv b3, .unset] [(.int (97 : Int32)), (.int (6 : Int32)), (.ref b3)])) rfl rfl (hb hby at_206)
      refine own_via (fun t k => st627 t k) ?_
      have V628 : Arv Z h627 b3 k2 .byte (12 : Int32) [(.int (y7.toInt8.toInt32)), (.int (y11.toInt8.toInt32)), (.int (y15.toInt8.toInt32)), (.int (y19.toInt8.toInt32)), (.int (y23.toInt8.toInt32)), (.int (102 : Int32)), (.int (97 : Int32)), (.int (y35.toInt8.toInt32)), (.int (y39.toInt8.toInt32)), (.int (y43.toInt8.toInt32)), (.int (y47.toInt8.toInt32)), (.int (y51.toInt8.toInt32))] (.int (0 : Int32)) := Arv.set Ar627 qq627 S627 M627 H627 G627 (by decide) W627 6 rfl (Nat.le_of_ble_eq_true rfl)
      have N627 := Fr.snoc X627 N625 g4
      show own_Goes p e below (T627.setTop (mkF m 207 #[iv i0, iv i1, .val (.long i2), .second, .val (.long i3), .second, iv (0 : Int32), iv (5 : Int32), rv b3, .unset] [])) _
      refine own_via (fun t k => XS.aload X627.here hx rfl (hb hby at_207) rfl rfl (XS.iload X627.here hx rfl (hb hby at_209) rfl (XS.iconst X627.here hx rfl (hb hby at_211) (XS.iadd X627.here hx rfl (hb hby at_212) rfl (XS.bipush X627.here hx rfl (hb hby at_213) k))))) ?_
      show own_Goes p e below (T627.setTop (mkF m 215 #[iv i0, iv i1, .val (.long i2), .second, .val (.long i3), .second, iv (0 : Int32), iv (5 : Int32), rv b3, .unset] [(.int (108 : Int32)), (.int (7 : Int32)), (.ref b3)])) _
      obtain ⟨cl629, Ar629, qq629, S629, M629, H629, G629⟩ := id (V628)
      have hin629 : ¬ ((7 : Int32) < 0 ∨ cl629.slots.size ≤ ((7 : Int32)).toNatClampNeg) := inb_of S629 ⟨by decide, by decide⟩
      obtain ⟨T629, h629, X629, e629, W629, st629⟩ := stB X627 hx hZ e627 Ar629 (j := (7 : Int32)) hin629 (g := (mkF m 215 #[iv i0, iv i1, .val (.long i2), .second, .val (.long i3), .second, iv (0 : Int32), iv (5 : Int32), rv b3, .unset] [(.int (108 : Int32)), (.int (7 : Int32)), (.ref b3)])) rfl rfl (hb hby at_215)
      refine own_via (fun t k => st629 t k) ?_
      have V630 : Arv Z h629 b3 k2 .byte (12 : Int32) [(.int (y7.toInt8.toInt32)), (.int (y11.toInt8.toInt32)), (.int (y15.toInt8.toInt32)), (.int (y19.toInt8.toInt32)), (.int (y23.toInt8.toInt32)), (.int (102 : Int32)), (.int (97 : Int32)), (.int (108 : Int32)), (.int (y39.toInt8.toInt32)), (.int (y43.toInt8.toInt32)), (.int (y47.toInt8.toInt32)), (.int (y51.toInt8.toInt32))] (.int (0 : Int32)) := Arv.set Ar629 qq629 S629 M629 H629 G629 (by decide) W629 7 rfl (Nat.le_of_ble_eq_true rfl)
      have N629 := Fr.snoc X629 N627 g4
      show own_Goes p e below (T629.setTop (mkF m 216 #[iv i0, iv i1, .val (.long i2), .second, .val (.long i3), .second, iv (0 : Int32), iv (5 : Int32), rv b3, .unset] [])) _
      refine own_via (fun t k => XS.aload X629.here hx rfl (hb hby at_216) rfl rfl (XS.iload X629.here hx rfl (hb hby at_218) rfl (XS.iconst X629.here hx rfl (hb hby at_220) (XS.iadd X629.here hx rfl (hb hby at_221) rfl (XS.bipush X629.here hx rfl (hb hby at_222) k))))) ?_
      show own_Goes p e below (T629.setTop (mkF m 224 #[iv i0, iv i1, .val (.long i2), .second, .val (.long i3), .second, iv (0 : Int32), iv (5 : Int32), rv b3, .unset] [(.int (115 : Int32)), (.int (8 : Int32)), (.ref b3)])) _
      obtain ⟨cl631, Ar631, qq631, S631, M631, H631, G631⟩ := id (V630)
      have hin631 : ¬ ((8 : Int32) < 0 ∨ cl631.slots.size ≤ ((8 : Int32)).toNatClampNeg) := inb_of S631 ⟨by decide, by decide⟩
      obtain ⟨T631, h631, X631, e631, W631, st631⟩ := stB X629 hx hZ e629 Ar631 (j := (8 : Int32)) hin631 (g := (mkF m 224 #[iv i0, iv i1, .val (.long i2), .second, .val (.long i3), .second, iv (0 : Int32), iv (5 : Int32), rv b3, .unset] [(.int (115 : Int32)), (.int (8 : Int32)), (.ref b3)])) rfl rfl (hb hby at_224)
      refine own_via (fun t k => st631 t k) ?_
      have V632 : Arv Z h631 b3 k2 .byte (12 : Int32) [(.int (y7.toInt8.toInt32)), (.int (y11.toInt8.toInt32)), (.int (y15.toInt8.toInt32)), (.int (y19.toInt8.toInt32)), (.int (y23.toInt8.toInt32)), (.int (102 : Int32)), (.int (97 : Int32)), (.int (108 : Int32)), (.int (115 : Int32)), (.int (y43.toInt8.toInt32)), (.int (y47.toInt8.toInt32)), (.int (y51.toInt8.toInt32))] (.int (0 : Int32)) := Arv.set Ar631 qq631 S631 M631 H631 G631 (by decide) W631 8 rfl (Nat.le_of_ble_eq_true rfl)
      have N631 := Fr.snoc X631 N629 g4
      show own_Goes p e below (T631.setTop (mkF m 225 #[iv i0, iv i1, .val (.long i2), .second, .val (.long i3), .second, iv (0 : Int32), iv (5 : Int32), rv b3, .unset] [])) _
      refine own_via (fun t k => XS.aload X631.here hx rfl (hb hby at_225) rfl rfl (XS.iload X631.here hx rfl (hb hby at_227) rfl (XS.iconst X631.here hx rfl (hb hby at_229) (XS.iadd X631.here hx rfl (hb hby at_230) rfl (XS.bipush X631.here hx rfl (hb hby at_231) k))))) ?_
      show own_Goes p e below (T631.setTop (mkF m 233 #[iv i0, iv i1, .val (.long i2), .second, .val (.long i3), .second, iv (0 : Int32), iv (5 : Int32), rv b3, .unset] [(.int (101 : Int32)), (.int (9 : Int32)), (.ref b3)])) _
      obtain ⟨cl633, Ar633, qq633, S633, M633, H633, G633⟩ := id (V632)
      have hin633 : ¬ ((9 : Int32) < 0 ∨ cl633.slots.size ≤ ((9 : Int32)).toNatClampNeg) := inb_of S633 ⟨by decide, by decide⟩
      obtain ⟨T633, h633, X633, e633, W633, st633⟩ := stB X631 hx hZ e631 Ar633 (j := (9 : Int32)) hin633 (g := (mkF m 233 #[iv i0, iv i1, .val (.long i2), .second, .val (.long i3), .second, iv (0 : Int32), iv (5 : Int32), rv b3, .unset] [(.int (101 : Int32)), (.int (9 : Int32)), (.ref b3)])) rfl rfl (hb hby at_233)
      refine own_via (fun t k => st633 t k) ?_
      have V634 : Arv Z h633 b3 k2 .byte (12 : Int32) [(.int (y7.toInt8.toInt32)), (.int (y11.toInt8.toInt32)), (.int (y15.toInt8.toInt32)), (.int (y19.toInt8.toInt32)), (.int (y23.toInt8.toInt32)), (.int (102 : Int32)), (.int (97 : Int32)), (.int (108 : Int32)), (.int (115 : Int32)), (.int (101 : Int32)), (.int (y47.toInt8.toInt32)), (.int (y51.toInt8.toInt32))] (.int (0 : Int32)) := Arv.set Ar633 qq633 S633 M633 H633 G633 (by decide) W633 9 rfl (Nat.le_of_ble_eq_true rfl)
      have N633 := Fr.snoc X633 N631 g4
      show own_Goes p e below (T633.setTop (mkF m 234 #[iv i0, iv i1, .val (.long i2), .second, .val (.long i3), .second, iv (0 : Int32), iv (5 : Int32), rv b3, .unset] [])) _
      obtain ⟨T635, h635, X635, e635, E635, A635, D635, -, st635⟩ := newO X633 hx hZ hown (wd hw 1 rfl) (wd hw 2 rfl) (wd hw 3 rfl) e633 (g := (mkF m 234 #[iv i0, iv i1, .val (.long i2), .second, .val (.long i3), .second, iv (0 : Int32), iv (5 : Int32), rv b3, .unset] [])) rfl (hb hby at_234) (by decide) (by decide)
      obtain ⟨b636, q635⟩ : ∃ z, z = h633.size := ⟨_, rfl⟩
      rw [← q635] at A635 D635 st635
      refine own_via (fun t k => st635 t k) ?_
      have E638 : Exa Z h633 b3 "[B" := (((((((((((((((((a2x.wr W9).wr W13).wr W17).wr W21).wr W25).wr W29).wr W33).wr W37).wr W41).wr W45).wr W49).wr W53).wr W625).wr W627).wr W629).wr W631).wr W633)
      have N637 : b3 ≠ b636 := Nat.ne_of_lt (Nat.lt_of_lt_of_le E638.lt (Nat.le_of_eq q635.symm))
      have O640 : Old Z n0 h633 := ((((((((((((((((((O0.ext E2).wr W9 g4).wr W13 g4).wr W17 g4).wr W21 g4).wr W25 g4).wr W29 g4).wr W33 g4).wr W37 g4).wr W41 g4).wr W45 g4).wr W49 g4).wr W53 g4).wr W625 g4).wr W627 g4).wr W629 g4).wr W631 g4).wr W633 g4)
      have g639 : n0 ≤ b636 := Nat.le_trans (own_old O640) (Nat.le_of_eq q635.symm)
      have Z642 : h0.size ≤ h633.size := (Nat.le_trans (Nat.le_trans (Nat.le_trans (Nat.le_trans (Nat.le_trans (Nat.le_trans (Nat.le_trans (Nat.le_trans (Nat.le_trans (Nat.le_trans (Nat.le_trans (Nat.le_trans (Nat.le_trans (Nat.le_trans (Nat.le_trans (Nat.le_trans (Nat.le_trans (Nat.le_trans (Nat.le_refl _) E2.1) (Nat.le_of_eq W9.size.symm)) (Nat.le_of_eq W13.size.symm)) (Nat.le_of_eq W17.size.symm)) (Nat.le_of_eq W21.size.symm)) (Nat.le_of_eq W25.size.symm)) (Nat.le_of_eq W29.size.symm)) (Nat.le_of_eq W33.size.symm)) (Nat.le_of_eq W37.size.symm)) (Nat.le_of_eq W41.size.symm)) (Nat.le_of_eq W45.size.symm)) (Nat.le_of_eq W49.size.symm)) (Nat.le_of_eq W53.size.symm)) (Nat.le_of_eq W625.size.symm)) (Nat.le_of_eq W627.size.symm)) (Nat.le_of_eq W629.size.symm)) (Nat.le_of_eq W631.size.symm)) (Nat.le_of_eq W633.size.symm))
      have B641 : h0.size ≤ b636 := Nat.le_trans Z642 (Nat.le_of_eq q635.symm)
      have F643 : Fld Z h635 b636 zs1 "kept" zs3 .null := D635 (Or.inr (wd hw 13 rfl)) (ty := (.array (.object zs2))) (by decide)
      have F644 : Fld Z h635 b636 zs1 "chunks" "[[I" .null := D635 (Or.inl (wd hw 17 rfl)) (ty := (.array (.array .int))) (by decide)
      have F645 : Fld Z h635 b636 zs1 "text" "[B" .null := D635 (Or.inr (wd hw 19 rfl)) (ty := (.array .byte)) (by decide)
      have F646 : Fld Z h635 b636 zs1 "first" "[I" .null := D635 (Or.inl (wd hw 26 rfl)) (ty := (.array .int)) (by decide)
      show own_Goes p e below (T635.setTop (mkF m 237 #[iv i0, iv i1, .val (.long i2), .second, .val (.long i3), .second, iv (0 : Int32), iv (5 : Int32), rv b3, .unset] [(.ref b636)])) _
      refine own_via (fun t k => XS.dup X635.here hx rfl (hb hby at_237) rfl rfl (XS.aload X635.here hx rfl (hb hby at_238) rfl rfl k)) ?_
      have V648 : Arv Z h635 b3 k2 .byte (12 : Int32) [(.int (y7.toInt8.toInt32)), (.int (y11.toInt8.toInt32)), (.int (y15.toInt8.toInt32)), (.int (y19.toInt8.toInt32)), (.int (y23.toInt8.toInt32)), (.int (102 : Int32)), (.int (97 : Int32)), (.int (108 : Int32)), (.int (115 : Int32)), (.int (101 : Int32)), (.int (y47.toInt8.toInt32)), (.int (y51.toInt8.toInt32))] (.int (0 : Int32)) := (V634.ext E635)
      have l649 : own_Len Z h635 b3 .byte (12 : Int32) := ⟨_, _, _, V648⟩
      have O650 : Old Z n0 h635 := (O640.ext E635)
      obtain ⟨_, T647, _, X647, hQ647, st647⟩ := own_ci X635 hx hZ hown (wd hw 4 rfl) (wd hw 5 rfl) (wd hw 6 rfl) (wd hw 3 rfl) rfl (by decide) (rm2 l Z a0 hw [] b636 b3 h635 n0 O650 F643 A635 g639 F644 F645 l649 N637 F646) e635 (g := (mkF m 240 #[iv i0, iv i1, .val (.long i2), .second, .val (.long i3), .second, iv (0 : Int32), iv (5 : Int32), rv b3, .unset] [(.ref b3), (.ref b636), (.ref b636)])) rfl (by rw [hml]; rfl) (rest := [(.ref b636)]) (W := 1) (lenOf pd_2 rfl) rfl (by show 2 * 0 + _ ≤ _; exact Nat.le_of_eq rfl) (hb hby at_240) (by decide) (by decide) (by decide) (by decide)
      obtain ⟨h647, e647⟩ : ∃ z, T647.heap = z := ⟨_, rfl⟩
      rw [e647] at hQ647
      obtain ⟨rfl, Nq647, K647, ex651, fx652⟩ := hQ647
      have N647 := Fr.app N633 Nq647
      refine own_via (fun t k => st647 t (XS.astore X647.here hx rfl (hb hby at_243) rfl rfl (l' := #[iv i0, iv i1, .val (.long i2), .second, .val (.long i3), .second, iv (0 : Int32), iv (5 : Int32), rv b3, rv b636]) rfl (XS.aload X647.here hx rfl (hb hby at_245) rfl rfl (XS.iload X647.here hx rfl (hb hby at_247) rfl k)))) ?_
      show own_Goes p e below (T647.setTop (mkF m 249 #[iv i0, iv i1, .val (.long i2), .second, .val (.long i3), .second, iv (0 : Int32), iv (5 : Int32), rv b3, rv b636] [(.int (5 : Int32)), (.ref b636)])) _
      have V704 : Arv Z h647 b3 k2 .byte (12 : Int32) [(.int (y7.toInt8.toInt32)), (.int (y11.toInt8.toInt32)), (.int (y15.toInt8.toInt32)), (.int (y19.toInt8.toInt32)), (.int (y23.toInt8.toInt32)), (.int (102 : Int32)), (.int (97 : Int32)), (.int (108 : Int32)), (.int (115 : Int32)), (.int (101 : Int32)), (.int (y47.toInt8.toInt32)), (.int (y51.toInt8.toInt32))] (.int (0 : Int32)) := (V648.keep K647 (ninS N637 nin0))
      have O705 : Old Z n0 h647 := (O650.keep K647 (allS g639 all0))
      obtain ⟨_, T653, _, X653, hQ653, st653⟩ := own_cv X647 hx hZ hown (wd hw 28 rfl) (wd hw 29 rfl) (wd hw 31 rfl) (wd hw 30 rfl) (wd hw 32 rfl) (wd hw 3 rfl) (by decide) (rm8 l Z a0 hw [] b636 b3 k2 (y7.toInt8.toInt32) (y11.toInt8.toInt32) (y15.toInt8.toInt32) (y19.toInt8.toInt32) (y23.toInt8.toInt32) (97 : Int32) (108 : Int32) (115 : Int32) (101 : Int32) (y47.toInt8.toInt32) (y51.toInt8.toInt32) h647 n0 O705 fx652 V704) e647 ex651 (g := (mkF m 249 #[iv i0, iv i1, .val (.long i2), .second, .val (.long i3), .second, iv (0 : Int32), iv (5 : Int32), rv b3, rv b636] [(.int (5 : Int32)), (.ref b636)])) rfl (by rw [hml]; rfl) (rest := []) (W := 0) (lenOf pd_3 rfl) rfl (by show 2 * 0 + _ ≤ _; exact Nat.le_of_eq rfl) (hb hby at_249) (by decide) (by decide) (by decide) (by decide)
      obtain ⟨rfl, Nq653, hh706⟩ := hQ653
      have N653 := Fr.app N647 Nq653
      refine own_via (fun t k => st653 t (XS.iload X653.here hx rfl (hb hby at_252) rfl (XS.icmpNo X653.here hx rfl (hb hby at_254) rfl (teq (by decide : (0 : Int32) = (0 : Int32))).2 (XS.iconst X653.here hx rfl (hb hby at_257) (XS.goto X653.here hx rfl (pc0 := 258) (pc' := 262) rfl (hb hby at_258) (by decide) (by decide) k))))) ?_
      show own_Goes p e below (T653.setTop (mkF m 262 #[iv i0, iv i1, .val (.long i2), .second, .val (.long i3), .second, iv (0 : Int32), iv (5 : Int32), rv b3, rv b636] [(.int (1 : Int32))])) _
      obtain ⟨fs, hr, hrun, hended, hW, hsame⟩ := X653.leave (v := some (.int (1 : Int32))) (fun h => by rw [Bd.returns] at h; cases h)
      refine own_end (t := T653.setFrames fs) ?_ ⟨_, hrun, hended, _, _, rfl, ?_, ⟨_, rfl⟩, hW, hsame.mono (by decide) (by decide)⟩
      · exact retN X653 hx (t := .boolean) Bd.returns (by simp) (hb hby at_262) hr
      · exact ⟨rfl, N653⟩
    · have qs707 := qs
      rw [qs]
      show own_Goes p e below (T53.setTop (mkF m 149 #[iv i0, iv i1, .val (.long i2), .second, .val (.long i3), .second, iv (0 : Int32), iv (6 : Int32), rv b3, .unset] [])) _
      refine own_via (fun t k => XS.iload X53.here hx rfl (hb hby at_149) rfl (XS.ifYes X53.here hx rfl (pc0 := 151) (pc' := 191) rfl (hb hby at_151) rfl ((if0 _ _).trans (teq (by decide : (0 : Int32) = (0 : Int32))).1) (by decide) (by decide) (XS.aload X53.here hx rfl (hb hby at_191) rfl rfl (XS.iload X53.here hx rfl (hb hby at_193) rfl (XS.bipush X53.here hx rfl (hb hby at_195) k))))) ?_
      show own_Goes p e below (T53.setTop (mkF m 197 #[iv i0, iv i1, .val (.long i2), .second, .val (.long i3), .second, iv (0 : Int32), iv (6 : Int32), rv b3, .unset] [(.int (102 : Int32)), (.int (6 : Int32)), (.ref b3)])) _
      obtain ⟨cl708, Ar708, qq708, S708, M708, H708, G708⟩ := id (V54)
      have hin708 : ¬ ((6 : Int32) < 0 ∨ cl708.slots.size ≤ ((6 : Int32)).toNatClampNeg) := inb_of S708 ⟨by decide, by decide⟩
      obtain ⟨T708, h708, X708, e708, W708, st708⟩ := stB X53 hx hZ e53 Ar708 (j := (6 : Int32)) hin708 (g := (mkF m 197 #[iv i0, iv i1, .val (.long i2), .second, .val (.long i3), .second, iv (0 : Int32), iv (6 : Int32), rv b3, .unset] [(.int (102 : Int32)), (.int (6 : Int32)), (.ref b3)])) rfl rfl (hb hby at_197)
      refine own_via (fun t k => st708 t k) ?_
      have V709 : Arv Z h708 b3 k2 .byte (12 : Int32) [(.int (y7.toInt8.toInt32)), (.int (y11.toInt8.toInt32)), (.int (y15.toInt8.toInt32)), (.int (y19.toInt8.toInt32)), (.int (y23.toInt8.toInt32)), (.int (y27.toInt8.toInt32)), (.int (102 : Int32)), (.int (y35.toInt8.toInt32)), (.int (y39.toInt8.toInt32)), (.int (y43.toInt8.toInt32)), (.int (y47.toInt8.toInt32)), (.int (y51.toInt8.toInt32))] (.int (0 : Int32)) := Arv.set Ar708 qq708 S708 M708 H708 G708 (by decide) W708 6 rfl (Nat.le_of_ble_eq_true rfl)
      have N708 := Fr.snoc X708 N53 g4
      show own_Goes p e below (T708.setTop (mkF m 198 #[iv i0, iv i1, .val (.long i2), .second, .val (.long i3), .second, iv (0 : Int32), iv (6 : Int32), rv b3, .unset] [])) _
      refine own_via (fun t k => XS.aload X708.here hx rfl (hb hby at_198) rfl rfl (XS.iload X708.here hx rfl (hb hby at_200) rfl (XS.iconst X708.here hx rfl (hb hby at_202) (XS.iadd X708.here hx rfl (hb hby at_203) rfl (XS.bipush X708.here hx rfl (hb hby at_204) k))))) ?_
      show own_Goes p e below (T708.setTop (mkF m 206 #[iv i0, iv i1, .val (.long i2), .second, .val (.long i3), .second, iv (0 : Int32), iv (6 : Int32), rv b3, .unset] [(.int (97 : Int32)), (.int (7 : Int32)), (.ref b3)])) _
      obtain ⟨cl710, Ar710, qq710, S710, M710, H710, G710⟩ := id (V709)
      have hin710 : ¬ ((7 : Int32) < 0 ∨ cl710.slots.size ≤ ((7 : Int32)).toNatClampNeg) := inb_of S710 ⟨by decide, by decide⟩
      obtain ⟨T710, h710, X710, e710, W710, st710⟩ := stB X708 hx hZ e708 Ar710 (j := (7 : Int32)) hin710 (g := (mkF m 206 #[iv i0, iv i1, .val (.long i2), .second, .val (.long i3), .second, iv (0 : Int32), iv (6 : Int32), rv b3, .unset] [(.int (97 : Int32)), (.int (7 : Int32)), (.ref b3)])) rfl rfl (hb hby at_206)
      refine own_via (fun t k => st710 t k) ?_
      have V711 : Arv Z h710 b3 k2 .byte (12 : Int32) [(.int (y7.toInt8.toInt32)), (.int (y11.toInt8.toInt32)), (.int (y15.toInt8.toInt32)), (.int (y19.toInt8.toInt32)), (.int (y23.toInt8.toInt32)), (.int (y27.toInt8.toInt32)), (.int (102 : Int32)), (.int (97 : Int32)), (.int (y39.toInt8.toInt32)), (.int (y43.toInt8.toInt32)), (.int (y47.toInt8.toInt32)), (.int (y51.toInt8.toInt32))] (.int (0 : Int32)) := Arv.set Ar710 qq710 S710 M710 H710 G710 (by decide) W710 7 rfl (Nat.le_of_ble_eq_true rfl)
      have N710 := Fr.snoc X710 N708 g4
      show own_Goes p e below (T710.setTop (mkF m 207 #[iv i0, iv i1, .val (.long i2), .second, .val (.long i3), .second, iv (0 : Int32), iv (6 : Int32), rv b3, .unset] [])) _
      refine own_via (fun t k => XS.aload X710.here hx rfl (hb hby at_207) rfl rfl (XS.iload X710.here hx rfl (hb hby at_209) rfl (XS.iconst X710.here hx rfl (hb hby at_211) (XS.iadd X710.here hx rfl (hb hby at_212) rfl (XS.bipush X710.here hx rfl (hb hby at_213) k))))) ?_
      show own_Goes p e below (T710.setTop (mkF m 215 #[iv i0, iv i1, .val (.long i2), .second, .val (.long i3), .second, iv (0 : Int32), iv (6 : Int32), rv b3, .unset] [(.int (108 : Int32)), (.int (8 : Int32)), (.ref b3)])) _
      obtain ⟨cl712, Ar712, qq712, S712, M712, H712, G712⟩ := id (V711)
      have hin712 : ¬ ((8 : Int32) < 0 ∨ cl712.slots.size ≤ ((8 : Int32)).toNatClampNeg) := inb_of S712 ⟨by decide, by decide⟩
      obtain ⟨T712, h712, X712, e712, W712, st712⟩ := stB X710 hx hZ e710 Ar712 (j := (8 : Int32)) hin712 (g := (mkF m 215 #[iv i0, iv i1, .val (.long i2), .second, .val (.long i3), .second, iv (0 : Int32), iv (6 : Int32), rv b3, .unset] [(.int (108 : Int32)), (.int (8 : Int32)), (.ref b3)])) rfl rfl (hb hby at_215)
      refine own_via (fun t k => st712 t k) ?_
      have V713 : Arv Z h712 b3 k2 .byte (12 : Int32) [(.int (y7.toInt8.toInt32)), (.int (y11.toInt8.toInt32)), (.int (y15.toInt8.toInt32)), (.int (y19.toInt8.toInt32)), (.int (y23.toInt8.toInt32)), (.int (y27.toInt8.toInt32)), (.int (102 : Int32)), (.int (97 : Int32)), (.int (108 : Int32)), (.int (y43.toInt8.toInt32)), (.int (y47.toInt8.toInt32)), (.int (y51.toInt8.toInt32))] (.int (0 : Int32)) := Arv.set Ar712 qq712 S712 M712 H712 G712 (by decide) W712 8 rfl (Nat.le_of_ble_eq_true rfl)
      have N712 := Fr.snoc X712 N710 g4
      show own_Goes p e below (T712.setTop (mkF m 216 #[iv i0, iv i1, .val (.long i2), .second, .val (.long i3), .second, iv (0 : Int32), iv (6 : Int32), rv b3, .unset] [])) _
      refine own_via (fun t k => XS.aload X712.here hx rfl (hb hby at_216) rfl rfl (XS.iload X712.here hx rfl (hb hby at_218) rfl (XS.iconst X712.here hx rfl (hb hby at_220) (XS.iadd X712.here hx rfl (hb hby at_221) rfl (XS.bipush X712.here hx rfl (hb hby at_222) k))))) ?_
      show own_Goes p e below (T712.setTop (mkF m 224 #[iv i0, iv i1, .val (.long i2), .second, .val (.long i3), .second, iv (0 : Int32), iv (6 : Int32), rv b3, .unset] [(.int (115 : Int32)), (.int (9 : Int32)), (.ref b3)])) _
      obtain ⟨cl714, Ar714, qq714, S714, M714, H714, G714⟩ := id (V713)
      have hin714 : ¬ ((9 : Int32) < 0 ∨ cl714.slots.size ≤ ((9 : Int32)).toNatClampNeg) := inb_of S714 ⟨by decide, by decide⟩
      obtain ⟨T714, h714, X714, e714, W714, st714⟩ := stB X712 hx hZ e712 Ar714 (j := (9 : Int32)) hin714 (g := (mkF m 224 #[iv i0, iv i1, .val (.long i2), .second, .val (.long i3), .second, iv (0 : Int32), iv (6 : Int32), rv b3, .unset] [(.int (115 : Int32)), (.int (9 : Int32)), (.ref b3)])) rfl rfl (hb hby at_224)
      refine own_via (fun t k => st714 t k) ?_
      have V715 : Arv Z h714 b3 k2 .byte (12 : Int32) [(.int (y7.toInt8.toInt32)), (.int (y11.toInt8.toInt32)), (.int (y15.toInt8.toInt32)), (.int (y19.toInt8.toInt32)), (.int (y23.toInt8.toInt32)), (.int (y27.toInt8.toInt32)), (.int (102 : Int32)), (.int (97 : Int32)), (.int (108 : Int32)), (.int (115 : Int32)), (.int (y47.toInt8.toInt32)), (.int (y51.toInt8.toInt32))] (.int (0 : Int32)) := Arv.set Ar714 qq714 S714 M714 H714 G714 (by decide) W714 9 rfl (Nat.le_of_ble_eq_true rfl)
      have N714 := Fr.snoc X714 N712 g4
      show own_Goes p e below (T714.setTop (mkF m 225 #[iv i0, iv i1, .val (.long i2), .second, .val (.long i3), .second, iv (0 : Int32), iv (6 : Int32), rv b3, .unset] [])) _
      refine own_via (fun t k => XS.aload X714.here hx rfl (hb hby at_225) rfl rfl (XS.iload X714.here hx rfl (hb hby at_227) rfl (XS.iconst X714.here hx rfl (hb hby at_229) (XS.iadd X714.here hx rfl (hb hby at_230) rfl (XS.bipush X714.here hx rfl (hb hby at_231) k))))) ?_
      show own_Goes p e below (T714.setTop (mkF m 233 #[iv i0, iv i1, .val (.long i2), .second, .val (.long i3), .second, iv (0 : Int32), iv (6 : Int32), rv b3, .unset] [(.int (101 : Int32)), (.int (10 : Int32)), (.ref b3)])) _
      obtain ⟨cl716, Ar716, qq716, S716, M716, H716, G716⟩ := id (V715)
      have hin716 : ¬ ((10 : Int32) < 0 ∨ cl716.slots.size ≤ ((10 : Int32)).toNatClampNeg) := inb_of S716 ⟨by decide, by decide⟩
      obtain ⟨T716, h716, X716, e716, W716, st716⟩ := stB X714 hx hZ e714 Ar716 (j := (10 : Int32)) hin716 (g := (mkF m 233 #[iv i0, iv i1, .val (.long i2), .second, .val (.long i3), .second, iv (0 : Int32), iv (6 : Int32), rv b3, .unset] [(.int (101 : Int32)), (.int (10 : Int32)), (.ref b3)])) rfl rfl (hb hby at_233)
      refine own_via (fun t k => st716 t k) ?_
      have V717 : Arv Z h716 b3 k2 .byte (12 : Int32) [(.int (y7.toInt8.toInt32)), (.int (y11.toInt8.toInt32)), (.int (y15.toInt8.toInt32)), (.int (y19.toInt8.toInt32)), (.int (y23.toInt8.toInt32)), (.int (y27.toInt8.toInt32)), (.int (102 : Int32)), (.int (97 : Int32)), (.int (108 : Int32)), (.int (115 : Int32)), (.int (101 : Int32)), (.int (y51.toInt8.toInt32))] (.int (0 : Int32)) := Arv.set Ar716 qq716 S716 M716 H716 G716 (by decide) W716 10 rfl (Nat.le_of_ble_eq_true rfl)
      have N716 := Fr.snoc X716 N714 g4
      show own_Goes p e below (T716.setTop (mkF m 234 #[iv i0, iv i1, .val (.long i2), .second, .val (.long i3), .second, iv (0 : Int32), iv (6 : Int32), rv b3, .unset] [])) _
      obtain ⟨T718, h718, X718, e718, E718, A718, D718, -, st718⟩ := newO X716 hx hZ hown (wd hw 1 rfl) (wd hw 2 rfl) (wd hw 3 rfl) e716 (g := (mkF m 234 #[iv i0, iv i1, .val (.long i2), .second, .val (.long i3), .second, iv (0 : Int32), iv (6 : Int32), rv b3, .unset] [])) rfl (hb hby at_234) (by decide) (by decide)
      obtain ⟨b719, q718⟩ : ∃ z, z = h716.size := ⟨_, rfl⟩
      rw [← q718] at A718 D718 st718
      refine own_via (fun t k => st718 t k) ?_
      have E721 : Exa Z h716 b3 "[B" := (((((((((((((((((a2x.wr W9).wr W13).wr W17).wr W21).wr W25).wr W29).wr W33).wr W37).wr W41).wr W45).wr W49).wr W53).wr W708).wr W710).wr W712).wr W714).wr W716)
      have N720 : b3 ≠ b719 := Nat.ne_of_lt (Nat.lt_of_lt_of_le E721.lt (Nat.le_of_eq q718.symm))
      have O723 : Old Z n0 h716 := ((((((((((((((((((O0.ext E2).wr W9 g4).wr W13 g4).wr W17 g4).wr W21 g4).wr W25 g4).wr W29 g4).wr W33 g4).wr W37 g4).wr W41 g4).wr W45 g4).wr W49 g4).wr W53 g4).wr W708 g4).wr W710 g4).wr W712 g4).wr W714 g4).wr W716 g4)
      have g722 : n0 ≤ b719 := Nat.le_trans (own_old O723) (Nat.le_of_eq q718.symm)
      have Z725 : h0.size ≤ h716.size := (Nat.le_trans (Nat.le_trans (Nat.le_trans (Nat.le_trans (Nat.le_trans (Nat.le_trans (Nat.le_trans (Nat.le_trans (Nat.le_trans (Nat.le_trans (Nat.le_trans (Nat.le_trans (Nat.le_trans (Nat.le_trans (Nat.le_trans (Nat.le_trans (Nat.le_trans (Nat.le_trans (Nat.le_refl _) E2.1) (Nat.le_of_eq W9.size.symm)) (Nat.le_of_eq W13.size.symm)) (Nat.le_of_eq W17.size.symm)) (Nat.le_of_eq W21.size.symm)) (Nat.le_of_eq W25.size.symm)) (Nat.le_of_eq W29.size.symm)) (Nat.le_of_eq W33.size.symm)) (Nat.le_of_eq W37.size.symm)) (Nat.le_of_eq W41.size.symm)) (Nat.le_of_eq W45.size.symm)) (Nat.le_of_eq W49.size.symm)) (Nat.le_of_eq W53.size.symm)) (Nat.le_of_eq W708.size.symm)) (Nat.le_of_eq W710.size.symm)) (Nat.le_of_eq W712.size.symm)) (Nat.le_of_eq W714.size.symm)) (Nat.le_of_eq W716.size.symm))
      have B724 : h0.size ≤ b719 := Nat.le_trans Z725 (Nat.le_of_eq q718.symm)
      have F726 : Fld Z h718 b719 zs1 "kept" zs3 .null := D718 (Or.inr (wd hw 13 rfl)) (ty := (.array (.object zs2))) (by decide)
      have F727 : Fld Z h718 b719 zs1 "chunks" "[[I" .null := D718 (Or.inl (wd hw 17 rfl)) (ty := (.array (.array .int))) (by decide)
      have F728 : Fld Z h718 b719 zs1 "text" "[B" .null := D718 (Or.inr (wd hw 19 rfl)) (ty := (.array .byte)) (by decide)
      have F729 : Fld Z h718 b719 zs1 "first" "[I" .null := D718 (Or.inl (wd hw 26 rfl)) (ty := (.array .int)) (by decide)
      show own_Goes p e below (T718.setTop (mkF m 237 #[iv i0, iv i1, .val (.long i2), .second, .val (.long i3), .second, iv (0 : Int32), iv (6 : Int32), rv b3, .unset] [(.ref b719)])) _
      refine own_via (fun t k => XS.dup X718.here hx rfl (hb hby at_237) rfl rfl (XS.aload X718.here hx rfl (hb hby at_238) rfl rfl k)) ?_
      have V731 : Arv Z h718 b3 k2 .byte (12 : Int32) [(.int (y7.toInt8.toInt32)), (.int (y11.toInt8.toInt32)), (.int (y15.toInt8.toInt32)), (.int (y19.toInt8.toInt32)), (.int (y23.toInt8.toInt32)), (.int (y27.toInt8.toInt32)), (.int (102 : Int32)), (.int (97 : Int32)), (.int (108 : Int32)), (.int (115 : Int32)), (.int (101 : Int32)), (.int (y51.toInt8.toInt32))] (.int (0 : Int32)) := (V717.ext E718)
      have l732 : own_Len Z h718 b3 .byte (12 : Int32) := ⟨_, _, _, V731⟩
      have O733 : Old Z n0 h718 := (O723.ext E718)
      obtain ⟨_, T730, _, X730, hQ730, st730⟩ := own_ci X718 hx hZ hown (wd hw 4 rfl) (wd hw 5 rfl) (wd hw 6 rfl) (wd hw 3 rfl) rfl (by decide) (rm2 l Z a0 hw [] b719 b3 h718 n0 O733 F726 A718 g722 F727 F728 l732 N720 F729) e718 (g := (mkF m 240 #[iv i0, iv i1, .val (.long i2), .second, .val (.long i3), .second, iv (0 : Int32), iv (6 : Int32), rv b3, .unset] [(.ref b3), (.ref b719), (.ref b719)])) rfl (by rw [hml]; rfl) (rest := [(.ref b719)]) (W := 1) (lenOf pd_2 rfl) rfl (by show 2 * 0 + _ ≤ _; exact Nat.le_of_eq rfl) (hb hby at_240) (by decide) (by decide) (by decide) (by decide)
      obtain ⟨h730, e730⟩ : ∃ z, T730.heap = z := ⟨_, rfl⟩
      rw [e730] at hQ730
      obtain ⟨rfl, Nq730, K730, ex734, fx735⟩ := hQ730
      have N730 := Fr.app N716 Nq730
      refine own_via (fun t k => st730 t (XS.astore X730.here hx rfl (hb hby at_243) rfl rfl (l' := #[iv i0, iv i1, .val (.long i2), .second, .val (.long i3), .second, iv (0 : Int32), iv (6 : Int32), rv b3, rv b719]) rfl (XS.aload X730.here hx rfl (hb hby at_245) rfl rfl (XS.iload X730.here hx rfl (hb hby at_247) rfl k)))) ?_
      show own_Goes p e below (T730.setTop (mkF m 249 #[iv i0, iv i1, .val (.long i2), .second, .val (.long i3), .second, iv (0 : Int32), iv (6 : Int32), rv b3, rv b719] [(.int (6 : Int32)), (.ref b719)])) _
      have V787 : Arv Z h730 b3 k2 .byte (12 : Int32) [(.int (y7.toInt8.toInt32)), (.int (y11.toInt8.toInt32)), (.int (y15.toInt8.toInt32)), (.int (y19.toInt8.toInt32)), (.int (y23.toInt8.toInt32)), (.int (y27.toInt8.toInt32)), (.int (102 : Int32)), (.int (97 : Int32)), (.int (108 : Int32)), (.int (115 : Int32)), (.int (101 : Int32)), (.int (y51.toInt8.toInt32))] (.int (0 : Int32)) := (V731.keep K730 (ninS N720 nin0))
      have O788 : Old Z n0 h730 := (O733.keep K730 (allS g722 all0))
      obtain ⟨_, T736, _, X736, hQ736, st736⟩ := own_cv X730 hx hZ hown (wd hw 28 rfl) (wd hw 29 rfl) (wd hw 31 rfl) (wd hw 30 rfl) (wd hw 32 rfl) (wd hw 3 rfl) (by decide) (rm9 l Z a0 hw [] b719 b3 k2 (y7.toInt8.toInt32) (y11.toInt8.toInt32) (y15.toInt8.toInt32) (y19.toInt8.toInt32) (y23.toInt8.toInt32) (y27.toInt8.toInt32) (97 : Int32) (108 : Int32) (115 : Int32) (101 : Int32) (y51.toInt8.toInt32) h730 n0 O788 fx735 V787) e730 ex734 (g := (mkF m 249 #[iv i0, iv i1, .val (.long i2), .second, .val (.long i3), .second, iv (0 : Int32), iv (6 : Int32), rv b3, rv b719] [(.int (6 : Int32)), (.ref b719)])) rfl (by rw [hml]; rfl) (rest := []) (W := 0) (lenOf pd_3 rfl) rfl (by show 2 * 0 + _ ≤ _; exact Nat.le_of_eq rfl) (hb hby at_249) (by decide) (by decide) (by decide) (by decide)
      obtain ⟨rfl, Nq736, hh789⟩ := hQ736
      have N736 := Fr.app N730 Nq736
      refine own_via (fun t k => st736 t (XS.iload X736.here hx rfl (hb hby at_252) rfl (XS.icmpNo X736.here hx rfl (hb hby at_254) rfl (teq (by decide : (0 : Int32) = (0 : Int32))).2 (XS.iconst X736.here hx rfl (hb hby at_257) (XS.goto X736.here hx rfl (pc0 := 258) (pc' := 262) rfl (hb hby at_258) (by decide) (by decide) k))))) ?_
      show own_Goes p e below (T736.setTop (mkF m 262 #[iv i0, iv i1, .val (.long i2), .second, .val (.long i3), .second, iv (0 : Int32), iv (6 : Int32), rv b3, rv b719] [(.int (1 : Int32))])) _
      obtain ⟨fs, hr, hrun, hended, hW, hsame⟩ := X736.leave (v := some (.int (1 : Int32))) (fun h => by rw [Bd.returns] at h; cases h)
      refine own_end (t := T736.setFrames fs) ?_ ⟨_, hrun, hended, _, _, rfl, ?_, ⟨_, rfl⟩, hW, hsame.mono (by decide) (by decide)⟩
      · exact retN X736 hx (t := .boolean) Bd.returns (by simp) (hb hby at_262) hr
      · exact ⟨rfl, N736⟩
    · have qs790 := qs
      rw [qs]
      show own_Goes p e below (T53.setTop (mkF m 149 #[iv i0, iv i1, .val (.long i2), .second, .val (.long i3), .second, iv (0 : Int32), iv (7 : Int32), rv b3, .unset] [])) _
      refine own_via (fun t k => XS.iload X53.here hx rfl (hb hby at_149) rfl (XS.ifYes X53.here hx rfl (pc0 := 151) (pc' := 191) rfl (hb hby at_151) rfl ((if0 _ _).trans (teq (by decide : (0 : Int32) = (0 : Int32))).1) (by decide) (by decide) (XS.aload X53.here hx rfl (hb hby at_191) rfl rfl (XS.iload X53.here hx rfl (hb hby at_193) rfl (XS.bipush X53.here hx rfl (hb hby at_195) k))))) ?_
      show own_Goes p e below (T53.setTop (mkF m 197 #[iv i0, iv i1, .val (.long i2), .second, .val (.long i3), .second, iv (0 : Int32), iv (7 : Int32), rv b3, .unset] [(.int (102 : Int32)), (.int (7 : Int32)), (.ref b3)])) _
      obtain ⟨cl791, Ar791, qq791, S791, M791, H791, G791⟩ := id (V54)
      have hin791 : ¬ ((7 : Int32) < 0 ∨ cl791.slots.size ≤ ((7 : Int32)).toNatClampNeg) := inb_of S791 ⟨by decide, by decide⟩
      obtain ⟨T791, h791, X791, e791, W791, st791⟩ := stB X53 hx hZ e53 Ar791 (j := (7 : Int32)) hin791 (g := (mkF m 197 #[iv i0, iv i1, .val (.long i2), .second, .val (.long i3), .second, iv (0 : Int32), iv (7 : Int32), rv b3, .unset] [(.int (102 : Int32)), (.int (7 : Int32)), (.ref b3)])) rfl rfl (hb hby at_197)
      refine own_via (fun t k => st791 t k) ?_
      have V792 : Arv Z h791 b3 k2 .byte (12 : Int32) [(.int (y7.toInt8.toInt32)), (.int (y11.toInt8.toInt32)), (.int (y15.toInt8.toInt32)), (.int (y19.toInt8.toInt32)), (.int (y23.toInt8.toInt32)), (.int (y27.toInt8.toInt32)), (.int (y31.toInt8.toInt32)), (.int (102 : Int32)), (.int (y39.toInt8.toInt32)), (.int (y43.toInt8.toInt32)), (.int (y47.toInt8.toInt32)), (.int (y51.toInt8.toInt32))] (.int (0 : Int32)) := Arv.set Ar791 qq791 S791 M791 H791 G791 (by decide) W791 7 rfl (Nat.le_of_ble_eq_true rfl)
      have N791 := Fr.snoc X791 N53 g4
      show own_Goes p e below (T791.setTop (mkF m 198 #[iv i0, iv i1, .val (.long i2), .second, .val (.long i3), .second, iv (0 : Int32), iv (7 : Int32), rv b3, .unset] [])) _
      refine own_via (fun t k => XS.aload X791.here hx rfl (hb hby at_198) rfl rfl (XS.iload X791.here hx rfl (hb hby at_200) rfl (XS.iconst X791.here hx rfl (hb hby at_202) (XS.iadd X791.here hx rfl (hb hby at_203) rfl (XS.bipush X791.here hx rfl (hb hby at_204) k))))) ?_
      show own_Goes p e below (T791.setTop (mkF m 206 #[iv i0, iv i1, .val (.long i2), .second, .val (.long i3), .second, iv (0 : Int32), iv (7 : Int32), rv b3, .unset] [(.int (97 : Int32)), (.int (8 : Int32)), (.ref b3)])) _
      obtain ⟨cl793, Ar793, qq793, S793, M793, H793, G793⟩ := id (V792)
      have hin793 : ¬ ((8 : Int32) < 0 ∨ cl793.slots.size ≤ ((8 : Int32)).toNatClampNeg) := inb_of S793 ⟨by decide, by decide⟩
      obtain ⟨T793, h793, X793, e793, W793, st793⟩ := stB X791 hx hZ e791 Ar793 (j := (8 : Int32)) hin793 (g := (mkF m 206 #[iv i0, iv i1, .val (.long i2), .second, .val (.long i3), .second, iv (0 : Int32), iv (7 : Int32), rv b3, .unset] [(.int (97 : Int32)), (.int (8 : Int32)), (.ref b3)])) rfl rfl (hb hby at_206)
      refine own_via (fun t k => st793 t k) ?_
      have V794 : Arv Z h793 b3 k2 .byte (12 : Int32) [(.int (y7.toInt8.toInt32)), (.int (y11.toInt8.toInt32)), (.int (y15.toInt8.toInt32)), (.int (y19.toInt8.toInt32)), (.int (y23.toInt8.toInt32)), (.int (y27.toInt8.toInt32)), (.int (y31.toInt8.toInt32)), (.int (102 : Int32)), (.int (97 : Int32)), (.int (y43.toInt8.toInt32)), (.int (y47.toInt8.toInt32)), (.int (y51.toInt8.toInt32))] (.int (0 : Int32)) := Arv.set Ar793 qq793 S793 M793 H793 G793 (by decide) W793 8 rfl (Nat.le_of_ble_eq_true rfl)
      have N793 := Fr.snoc X793 N791 g4
      show own_Goes p e below (T793.setTop (mkF m 207 #[iv i0, iv i1, .val (.long i2), .second, .val (.long i3), .second, iv (0 : Int32), iv (7 : Int32), rv b3, .unset] [])) _
      refine own_via (fun t k => XS.aload X793.here hx rfl (hb hby at_207) rfl rfl (XS.iload X793.here hx rfl (hb hby at_209) rfl (XS.iconst X793.here hx rfl (hb hby at_211) (XS.iadd X793.here hx rfl (hb hby at_212) rfl (XS.bipush X793.here hx rfl (hb hby at_213) k))))) ?_
      show own_Goes p e below (T793.setTop (mkF m 215 #[iv i0, iv i1, .val (.long i2), .second, .val (.long i3), .second, iv (0 : Int32), iv (7 : Int32), rv b3, .unset] [(.int (108 : Int32)), (.int (9 : Int32)), (.ref b3)])) _
      obtain ⟨cl795, Ar795, qq795, S795, M795, H795, G795⟩ := id (V794)
      have hin795 : ¬ ((9 : Int32) < 0 ∨ cl795.slots.size ≤ ((9 : Int32)).toNatClampNeg) := inb_of S795 ⟨by decide, by decide⟩
      obtain ⟨T795, h795, X795, e795, W795, st795⟩ := stB X793 hx hZ e793 Ar795 (j := (9 : Int32)) hin795 (g := (mkF m 215 #[iv i0, iv i1, .val (.long i2), .second, .val (.long i3), .second, iv (0 : Int32), iv (7 : Int32), rv b3, .unset] [(.int (108 : Int32)), (.int (9 : Int32)), (.ref b3)])) rfl rfl (hb hby at_215)
      refine own_via (fun t k => st795 t k) ?_
      have V796 : Arv Z h795 b3 k2 .byte (12 : Int32) [(.int (y7.toInt8.toInt32)), (.int (y11.toInt8.toInt32)), (.int (y15.toInt8.toInt32)), (.int (y19.toInt8.toInt32)), (.int (y23.toInt8.toInt32)), (.int (y27.toInt8.toInt32)), (.int (y31.toInt8.toInt32)), (.int (102 : Int32)), (.int (97 : Int32)), (.int (108 : Int32)), (.int (y47.toInt8.toInt32)), (.int (y51.toInt8.toInt32))] (.int (0 : Int32)) := Arv.set Ar795 qq795 S795 M795 H795 G795 (by decide) W795 9 rfl (Nat.le_of_ble_eq_true rfl)
      have N795 := Fr.snoc X795 N793 g4
      show own_Goes p e below (T795.setTop (mkF m 216 #[iv i0, iv i1, .val (.long i2), .second, .val (.long i3), .second, iv (0 : Int32), iv (7 : Int32), rv b3, .unset] [])) _
      refine own_via (fun t k => XS.aload X795.here hx rfl (hb hby at_216) rfl rfl (XS.iload X795.here hx rfl (hb hby at_218) rfl (XS.iconst X795.here hx rfl (hb hby at_220) (XS.iadd X795.here hx rfl (hb hby at_221) rfl (XS.bipush X795.here hx rfl (hb hby at_222) k))))) ?_
      show own_Goes p e below (T795.setTop (mkF m 224 #[iv i0, iv i1, .val (.long i2), .second, .val (.long i3), .second, iv (0 : Int32), iv (7 : Int32), rv b3, .unset] [(.int (115 : Int32)), (.int (10 : Int32)), (.ref b3)])) _
      obtain ⟨cl797, Ar797, qq797, S797, M797, H797, G797⟩ := id (V796)
      have hin797 : ¬ ((10 : Int32) < 0 ∨ cl797.slots.size ≤ ((10 : Int32)).toNatClampNeg) := inb_of S797 ⟨by decide, by decide⟩
      obtain ⟨T797, h797, X797, e797, W797, st797⟩ := stB X795 hx hZ e795 Ar797 (j := (10 : Int32)) hin797 (g := (mkF m 224 #[iv i0, iv i1, .val (.long i2), .second, .val (.long i3), .second, iv (0 : Int32), iv (7 : Int32), rv b3, .unset] [(.int (115 : Int32)), (.int (10 : Int32)), (.ref b3)])) rfl rfl (hb hby at_224)
      refine own_via (fun t k => st797 t k) ?_
      have V798 : Arv Z h797 b3 k2 .byte (12 : Int32) [(.int (y7.toInt8.toInt32)), (.int (y11.toInt8.toInt32)), (.int (y15.toInt8.toInt32)), (.int (y19.toInt8.toInt32)), (.int (y23.toInt8.toInt32)), (.int (y27.toInt8.toInt32)), (.int (y31.toInt8.toInt32)), (.int (102 : Int32)), (.int (97 : Int32)), (.int (108 : Int32)), (.int (115 : Int32)), (.int (y51.toInt8.toInt32))] (.int (0 : Int32)) := Arv.set Ar797 qq797 S797 M797 H797 G797 (by decide) W797 10 rfl (Nat.le_of_ble_eq_true rfl)
      have N797 := Fr.snoc X797 N795 g4
      show own_Goes p e below (T797.setTop (mkF m 225 #[iv i0, iv i1, .val (.long i2), .second, .val (.long i3), .second, iv (0 : Int32), iv (7 : Int32), rv b3, .unset] [])) _
      refine own_via (fun t k => XS.aload X797.here hx rfl (hb hby at_225) rfl rfl (XS.iload X797.here hx rfl (hb hby at_227) rfl (XS.iconst X797.here hx rfl (hb hby at_229) (XS.iadd X797.here hx rfl (hb hby at_230) rfl (XS.bipush X797.here hx rfl (hb hby at_231) k))))) ?_
      show own_Goes p e below (T797.setTop (mkF m 233 #[iv i0, iv i1, .val (.long i2), .second, .val (.long i3), .second, iv (0 : Int32), iv (7 : Int32), rv b3, .unset] [(.int (101 : Int32)), (.int (11 : Int32)), (.ref b3)])) _
      obtain ⟨cl799, Ar799, qq799, S799, M799, H799, G799⟩ := id (V798)
      have hin799 : ¬ ((11 : Int32) < 0 ∨ cl799.slots.size ≤ ((11 : Int32)).toNatClampNeg) := inb_of S799 ⟨by decide, by decide⟩
      obtain ⟨T799, h799, X799, e799, W799, st799⟩ := stB X797 hx hZ e797 Ar799 (j := (11 : Int32)) hin799 (g := (mkF m 233 #[iv i0, iv i1, .val (.long i2), .second, .val (.long i3), .second, iv (0 : Int32), iv (7 : Int32), rv b3, .unset] [(.int (101 : Int32)), (.int (11 : Int32)), (.ref b3)])) rfl rfl (hb hby at_233)
      refine own_via (fun t k => st799 t k) ?_
      have V800 : Arv Z h799 b3 k2 .byte (12 : Int32) [(.int (y7.toInt8.toInt32)), (.int (y11.toInt8.toInt32)), (.int (y15.toInt8.toInt32)), (.int (y19.toInt8.toInt32)), (.int (y23.toInt8.toInt32)), (.int (y27.toInt8.toInt32)), (.int (y31.toInt8.toInt32)), (.int (102 : Int32)), (.int (97 : Int32)), (.int (108 : Int32)), (.int (115 : Int32)), (.int (101 : Int32))] (.int (0 : Int32)) := Arv.set Ar799 qq799 S799 M799 H799 G799 (by decide) W799 11 rfl (Nat.le_of_ble_eq_true rfl)
      have N799 := Fr.snoc X799 N797 g4
      show own_Goes p e below (T799.setTop (mkF m 234 #[iv i0, iv i1, .val (.long i2), .second, .val (.long i3), .second, iv (0 : Int32), iv (7 : Int32), rv b3, .unset] [])) _
      obtain ⟨T801, h801, X801, e801, E801, A801, D801, -, st801⟩ := newO X799 hx hZ hown (wd hw 1 rfl) (wd hw 2 rfl) (wd hw 3 rfl) e799 (g := (mkF m 234 #[iv i0, iv i1, .val (.long i2), .second, .val (.long i3), .second, iv (0 : Int32), iv (7 : Int32), rv b3, .unset] [])) rfl (hb hby at_234) (by decide) (by decide)
      obtain ⟨b802, q801⟩ : ∃ z, z = h799.size := ⟨_, rfl⟩
      rw [← q801] at A801 D801 st801
      refine own_via (fun t k => st801 t k) ?_
      have E804 : Exa Z h799 b3 "[B" := (((((((((((((((((a2x.wr W9).wr W13).wr W17).wr W21).wr W25).wr W29).wr W33).wr W37).wr W41).wr W45).wr W49).wr W53).wr W791).wr W793).wr W795).wr W797).wr W799)
      have N803 : b3 ≠ b802 := Nat.ne_of_lt (Nat.lt_of_lt_of_le E804.lt (Nat.le_of_eq q801.symm))
      have O806 : Old Z n0 h799 := ((((((((((((((((((O0.ext E2).wr W9 g4).wr W13 g4).wr W17 g4).wr W21 g4).wr W25 g4).wr W29 g4).wr W33 g4).wr W37 g4).wr W41 g4).wr W45 g4).wr W49 g4).wr W53 g4).wr W791 g4).wr W793 g4).wr W795 g4).wr W797 g4).wr W799 g4)
      have g805 : n0 ≤ b802 := Nat.le_trans (own_old O806) (Nat.le_of_eq q801.symm)
      have Z808 : h0.size ≤ h799.size := (Nat.le_trans (Nat.le_trans (Nat.le_trans (Nat.le_trans (Nat.le_trans (Nat.le_trans (Nat.le_trans (Nat.le_trans (Nat.le_trans (Nat.le_trans (Nat.le_trans (Nat.le_trans (Nat.le_trans (Nat.le_trans (Nat.le_trans (Nat.le_trans (Nat.le_trans (Nat.le_trans (Nat.le_refl _) E2.1) (Nat.le_of_eq W9.size.symm)) (Nat.le_of_eq W13.size.symm)) (Nat.le_of_eq W17.size.symm)) (Nat.le_of_eq W21.size.symm)) (Nat.le_of_eq W25.size.symm)) (Nat.le_of_eq W29.size.symm)) (Nat.le_of_eq W33.size.symm)) (Nat.le_of_eq W37.size.symm)) (Nat.le_of_eq W41.size.symm)) (Nat.le_of_eq W45.size.symm)) (Nat.le_of_eq W49.size.symm)) (Nat.le_of_eq W53.size.symm)) (Nat.le_of_eq W791.size.symm)) (Nat.le_of_eq W793.size.symm)) (Nat.le_of_eq W795.size.symm)) (Nat.le_of_eq W797.size.symm)) (Nat.le_of_eq W799.size.symm))
      have B807 : h0.size ≤ b802 := Nat.le_trans Z808 (Nat.le_of_eq q801.symm)
      have F809 : Fld Z h801 b802 zs1 "kept" zs3 .null := D801 (Or.inr (wd hw 13 rfl)) (ty := (.array (.object zs2))) (by decide)
      have F810 : Fld Z h801 b802 zs1 "chunks" "[[I" .null := D801 (Or.inl (wd hw 17 rfl)) (ty := (.array (.array .int))) (by decide)
      have F811 : Fld Z h801 b802 zs1 "text" "[B" .null := D801 (Or.inr (wd hw 19 rfl)) (ty := (.array .byte)) (by decide)
      have F812 : Fld Z h801 b802 zs1 "first" "[I" .null := D801 (Or.inl (wd hw 26 rfl)) (ty := (.array .int)) (by decide)
      show own_Goes p e below (T801.setTop (mkF m 237 #[iv i0, iv i1, .val (.long i2), .second, .val (.long i3), .second, iv (0 : Int32), iv (7 : Int32), rv b3, .unset] [(.ref b802)])) _
      refine own_via (fun t k => XS.dup X801.here hx rfl (hb hby at_237) rfl rfl (XS.aload X801.here hx rfl (hb hby at_238) rfl rfl k)) ?_
      have V814 : Arv Z h801 b3 k2 .byte (12 : Int32) [(.int (y7.toInt8.toInt32)), (.int (y11.toInt8.toInt32)), (.int (y15.toInt8.toInt32)), (.int (y19.toInt8.toInt32)), (.int (y23.toInt8.toInt32)), (.int (y27.toInt8.toInt32)), (.int (y31.toInt8.toInt32)), (.int (102 : Int32)), (.int (97 : Int32)), (.int (108 : Int32)), (.int (115 : Int32)), (.int (101 : Int32))] (.int (0 : Int32)) := (V800.ext E801)
      have l815 : own_Len Z h801 b3 .byte (12 : Int32) := ⟨_, _, _, V814⟩
      have O816 : Old Z n0 h801 := (O806.ext E801)
      obtain ⟨_, T813, _, X813, hQ813, st813⟩ := own_ci X801 hx hZ hown (wd hw 4 rfl) (wd hw 5 rfl) (wd hw 6 rfl) (wd hw 3 rfl) rfl (by decide) (rm2 l Z a0 hw [] b802 b3 h801 n0 O816 F809 A801 g805 F810 F811 l815 N803 F812) e801 (g := (mkF m 240 #[iv i0, iv i1, .val (.long i2), .second, .val (.long i3), .second, iv (0 : Int32), iv (7 : Int32), rv b3, .unset] [(.ref b3), (.ref b802), (.ref b802)])) rfl (by rw [hml]; rfl) (rest := [(.ref b802)]) (W := 1) (lenOf pd_2 rfl) rfl (by show 2 * 0 + _ ≤ _; exact Nat.le_of_eq rfl) (hb hby at_240) (by decide) (by decide) (by decide) (by decide)
      obtain ⟨h813, e813⟩ : ∃ z, T813.heap = z := ⟨_, rfl⟩
      rw [e813] at hQ813
      obtain ⟨rfl, Nq813, K813, ex817, fx818⟩ := hQ813
      have N813 := Fr.app N799 Nq813
      refine own_via (fun t k => st813 t (XS.astore X813.here hx rfl (hb hby at_243) rfl rfl (l' := #[iv i0, iv i1, .val (.long i2), .second, .val (.long i3), .second, iv (0 : Int32), iv (7 : Int32), rv b3, rv b802]) rfl (XS.aload X813.here hx rfl (hb hby at_245) rfl rfl (XS.iload X813.here hx rfl (hb hby at_247) rfl k)))) ?_
      show own_Goes p e below (T813.setTop (mkF m 249 #[iv i0, iv i1, .val (.long i2), .second, .val (.long i3), .second, iv (0 : Int32), iv (7 : Int32), rv b3, rv b802] [(.int (7 : Int32)), (.ref b802)])) _
      have V870 : Arv Z h813 b3 k2 .byte (12 : Int32) [(.int (y7.toInt8.toInt32)), (.int (y11.toInt8.toInt32)), (.int (y15.toInt8.toInt32)), (.int (y19.toInt8.toInt32)), (.int (y23.toInt8.toInt32)), (.int (y27.toInt8.toInt32)), (.int (y31.toInt8.toInt32)), (.int (102 : Int32)), (.int (97 : Int32)), (.int (108 : Int32)), (.int (115 : Int32)), (.int (101 : Int32))] (.int (0 : Int32)) := (V814.keep K813 (ninS N803 nin0))
      have O871 : Old Z n0 h813 := (O816.keep K813 (allS g805 all0))
      obtain ⟨_, T819, _, X819, hQ819, st819⟩ := own_cv X813 hx hZ hown (wd hw 28 rfl) (wd hw 29 rfl) (wd hw 31 rfl) (wd hw 30 rfl) (wd hw 32 rfl) (wd hw 3 rfl) (by decide) (rm10 l Z a0 hw [] b802 b3 k2 (y7.toInt8.toInt32) (y11.toInt8.toInt32) (y15.toInt8.toInt32) (y19.toInt8.toInt32) (y23.toInt8.toInt32) (y27.toInt8.toInt32) (y31.toInt8.toInt32) (97 : Int32) (108 : Int32) (115 : Int32) (101 : Int32) h813 n0 O871 fx818 V870) e813 ex817 (g := (mkF m 249 #[iv i0, iv i1, .val (.long i2), .second, .val (.long i3), .second, iv (0 : Int32), iv (7 : Int32), rv b3, rv b802] [(.int (7 : Int32)), (.ref b802)])) rfl (by rw [hml]; rfl) (rest := []) (W := 0) (lenOf pd_3 rfl) rfl (by show 2 * 0 + _ ≤ _; exact Nat.le_of_eq rfl) (hb hby at_249) (by decide) (by decide) (by decide) (by decide)
      obtain ⟨rfl, Nq819, hh872⟩ := hQ819
      have N819 := Fr.app N813 Nq819
      refine own_via (fun t k => st819 t (XS.iload X819.here hx rfl (hb hby at_252) rfl (XS.icmpNo X819.here hx rfl (hb hby at_254) rfl (teq (by decide : (0 : Int32) = (0 : Int32))).2 (XS.iconst X819.here hx rfl (hb hby at_257) (XS.goto X819.here hx rfl (pc0 := 258) (pc' := 262) rfl (hb hby at_258) (by decide) (by decide) k))))) ?_
      show own_Goes p e below (T819.setTop (mkF m 262 #[iv i0, iv i1, .val (.long i2), .second, .val (.long i3), .second, iv (0 : Int32), iv (7 : Int32), rv b3, rv b802] [(.int (1 : Int32))])) _
      obtain ⟨fs, hr, hrun, hended, hW, hsame⟩ := X819.leave (v := some (.int (1 : Int32))) (fun h => by rw [Bd.returns] at h; cases h)
      refine own_end (t := T819.setFrames fs) ?_ ⟨_, hrun, hended, _, _, rfl, ?_, ⟨_, rfl⟩, hW, hsame.mono (by decide) (by decide)⟩
      · exact retN X819 hx (t := .boolean) Bd.returns (by simp) (hb hby at_262) hr
      · exact ⟨rfl, N819⟩
  · refine own_via (fun t k => XS.ifNo X0.here hx rfl (hb hby at_3) rfl ((if0 _ _).trans (feq hc1).1) (XS.iconst X0.here hx rfl (hb hby at_6) (XS.goto X0.here hx rfl (pc0 := 7) (pc' := 11) rfl (hb hby at_7) (by decide) (by decide) (XS.istore X0.here hx rfl (hb hby at_11) rfl (l' := #[iv i0, iv i1, .val (.long i2), .second, .val (.long i3), .second, iv (1 : Int32), .unset, .unset, .unset]) rfl (XS.iloadN X0.here hx rfl (hb hby at_13) rfl (XS.bipush X0.here hx rfl (hb hby at_14) (XS.iand X0.here hx rfl (hb hby at_16) rfl (XS.istore X0.here hx rfl (hb hby at_17) rfl (l' := #[iv i0, iv i1, .val (.long i2), .second, .val (.long i3), .second, iv (1 : Int32), iv (i1 &&& (7 : Int32)), .unset, .unset]) rfl (XS.bipush X0.here hx rfl (hb hby at_19) k))))))))) ?_
    show own_Goes p e below (s₁.setTop (mkF m 21 #[iv i0, iv i1, .val (.long i2), .second, .val (.long i3), .second, iv (1 : Int32), iv (i1 &&& (7 : Int32)), .unset, .unset] [(.int (12 : Int32))])) _
    obtain ⟨T873, h873, k873, X873, e873, E873, A873, a873x, st873⟩ := newPE X0 hx hZ (wd hw 0 rfl) e0 (g := (mkF m 21 #[iv i0, iv i1, .val (.long i2), .second, .val (.long i3), .second, iv (1 : Int32), iv (i1 &&& (7 : Int32)), .unset, .unset] [(.int (12 : Int32))])) rfl (hb hby at_21) rfl (by decide) (cap := 12) (by decide) (by decide) (by decide) (by decide) (ad := "[B") (by decide)
    obtain ⟨b874, q873⟩ : ∃ z, z = h0.size := ⟨_, rfl⟩
    rw [← q873] at A873 st873 a873x
    refine own_via (fun t k => st873 t k) ?_
    have g875 : n0 ≤ b874 := Nat.le_trans (own_old O0) (Nat.le_of_eq q873.symm)
    have B876 : h0.size ≤ b874 := Nat.le_trans (Nat.le_refl _) (Nat.le_of_eq q873.symm)
    have V877 : Arv Z h873 b874 k873 .byte (12 : Int32) [] (.int (0 : Int32)) := Arv.new A873 (by decide)
    show own_Goes p e below (T873.setTop (mkF m 23 #[iv i0, iv i1, .val (.long i2), .second, .val (.long i3), .second, iv (1 : Int32), iv (i1 &&& (7 : Int32)), .unset, .unset] [(.ref b874)])) _
    refine own_via (fun t k => XS.astore X873.here hx rfl (hb hby at_23) rfl rfl (l' := #[iv i0, iv i1, .val (.long i2), .second, .val (.long i3), .second, iv (1 : Int32), iv (i1 &&& (7 : Int32)), rv b874, .unset]) rfl (XS.aload X873.here hx rfl (hb hby at_25) rfl rfl (XS.iconst X873.here hx rfl (hb hby at_27) (XS.lloadN X873.here hx rfl (hb hby at_28) rfl (XS.l2i X873.here hx rfl (hb hby at_29) rfl (XS.i2b X873.here hx rfl (hb hby at_30) rfl k)))))) ?_
    show own_Goes p e below (T873.setTop (mkF m 31 #[iv i0, iv i1, .val (.long i2), .second, .val (.long i3), .second, iv (1 : Int32), iv (i1 &&& (7 : Int32)), rv b874, .unset] [(.int ((i2.toInt32).toInt8.toInt32)), (.int (0 : Int32)), (.ref b874)])) _
    obtain ⟨y878, hy878⟩ : ∃ z, z = ((i2.toInt32).toInt8.toInt32) := ⟨_, rfl⟩
    rw [← hy878]
    show own_Goes p e below (T873.setTop (mkF m 31 #[iv i0, iv i1, .val (.long i2), .second, .val (.long i3), .second, iv (1 : Int32), iv (i1 &&& (7 : Int32)), rv b874, .unset] [(.int y878), (.int (0 : Int32)), (.ref b874)])) _
    have V879 : Arv Z h873 b874 k873 .byte (12 : Int32) [(.int (0 : Int32))] (.int (0 : Int32)) := V877.pad (pad_rep [] (.int (0 : Int32)) 1)
    obtain ⟨cl880, Ar880, qq880, S880, M880, H880, G880⟩ := id (V879)
    have hin880 : ¬ ((0 : Int32) < 0 ∨ cl880.slots.size ≤ ((0 : Int32)).toNatClampNeg) := inb_of S880 ⟨by decide, by decide⟩
    obtain ⟨T880, h880, X880, e880, W880, st880⟩ := stB X873 hx hZ e873 Ar880 (j := (0 : Int32)) hin880 (g := (mkF m 31 #[iv i0, iv i1, .val (.long i2), .second, .val (.long i3), .second, iv (1 : Int32), iv (i1 &&& (7 : Int32)), rv b874, .unset] [(.int y878), (.int (0 : Int32)), (.ref b874)])) rfl rfl (hb hby at_31)
    refine own_via (fun t k => st880 t k) ?_
    have V881 : Arv Z h880 b874 k873 .byte (12 : Int32) [(.int (y878.toInt8.toInt32))] (.int (0 : Int32)) := Arv.set Ar880 qq880 S880 M880 H880 G880 (fits_nar_byte _) W880 0 rfl (Nat.le_of_ble_eq_true rfl)
    have N880 := Fr.snoc X880 N0 g875
    show own_Goes p e below (T880.setTop (mkF m 32 #[iv i0, iv i1, .val (.long i2), .second, .val (.long i3), .second, iv (1 : Int32), iv (i1 &&& (7 : Int32)), rv b874, .unset] [])) _
    refine own_via (fun t k => XS.aload X880.here hx rfl (hb hby at_32) rfl rfl (XS.iconst X880.here hx rfl (hb hby at_34) (XS.lloadN X880.here hx rfl (hb hby at_35) rfl (XS.bipush X880.here hx rfl (hb hby at_36) (XS.lushr X880.here hx rfl (hb hby at_38) rfl (XS.l2i X880.here hx rfl (hb hby at_39) rfl (XS.i2b X880.here hx rfl (hb hby at_40) rfl k))))))) ?_
    show own_Goes p e below (T880.setTop (mkF m 41 #[iv i0, iv i1, .val (.long i2), .second, .val (.long i3), .second, iv (1 : Int32), iv (i1 &&& (7 : Int32)), rv b874, .unset] [(.int ((((i2.toUInt64 >>> ((8 : Int32) &&& 0x3f).toInt64.toUInt64).toInt64).toInt32).toInt8.toInt32)), (.int (1 : Int32)), (.ref b874)])) _
    obtain ⟨y882, hy882⟩ : ∃ z, z = ((((i2.toUInt64 >>> ((8 : Int32) &&& 0x3f).toInt64.toUInt64).toInt64).toInt32).toInt8.toInt32) := ⟨_, rfl⟩
    rw [← hy882]
    show own_Goes p e below (T880.setTop (mkF m 41 #[iv i0, iv i1, .val (.long i2), .second, .val (.long i3), .second, iv (1 : Int32), iv (i1 &&& (7 : Int32)), rv b874, .unset] [(.int y882), (.int (1 : Int32)), (.ref b874)])) _
    have V883 : Arv Z h880 b874 k873 .byte (12 : Int32) [(.int (y878.toInt8.toInt32)), (.int (0 : Int32))] (.int (0 : Int32)) := V881.pad (pad_rep [(.int (y878.toInt8.toInt32))] (.int (0 : Int32)) 1)
    obtain ⟨cl884, Ar884, qq884, S884, M884, H884, G884⟩ := id (V883)
    have hin884 : ¬ ((1 : Int32) < 0 ∨ cl884.slots.size ≤ ((1 : Int32)).toNatClampNeg) := inb_of S884 ⟨by decide, by decide⟩
    obtain ⟨T884, h884, X884, e884, W884, st884⟩ := stB X880 hx hZ e880 Ar884 (j := (1 : Int32)) hin884 (g := (mkF m 41 #[iv i0, iv i1, .val (.long i2), .second, .val (.long i3), .second, iv (1 : Int32), iv (i1 &&& (7 : Int32)), rv b874, .unset] [(.int y882), (.int (1 : Int32)), (.ref b874)])) rfl rfl (hb hby at_41)
    refine own_via (fun t k => st884 t k) ?_
    have V885 : Arv Z h884 b874 k873 .byte (12 : Int32) [(.int (y878.toInt8.toInt32)), (.int (y882.toInt8.toInt32))] (.int (0 : Int32)) := Arv.set Ar884 qq884 S884 M884 H884 G884 (fits_nar_byte _) W884 1 rfl (Nat.le_of_ble_eq_true rfl)
    have N884 := Fr.snoc X884 N880 g875
    show own_Goes p e below (T884.setTop (mkF m 42 #[iv i0, iv i1, .val (.long i2), .second, .val (.long i3), .second, iv (1 : Int32), iv (i1 &&& (7 : Int32)), rv b874, .unset] [])) _
    refine own_via (fun t k => XS.aload X884.here hx rfl (hb hby at_42) rfl rfl (XS.iconst X884.here hx rfl (hb hby at_44) (XS.lloadN X884.here hx rfl (hb hby at_45) rfl (XS.bipush X884.here hx rfl (hb hby at_46) (XS.lushr X884.here hx rfl (hb hby at_48) rfl (XS.l2i X884.here hx rfl (hb hby at_49) rfl (XS.i2b X884.here hx rfl (hb hby at_50) rfl k))))))) ?_
    show own_Goes p e below (T884.setTop (mkF m 51 #[iv i0, iv i1, .val (.long i2), .second, .val (.long i3), .second, iv (1 : Int32), iv (i1 &&& (7 : Int32)), rv b874, .unset] [(.int ((((i2.toUInt64 >>> ((16 : Int32) &&& 0x3f).toInt64.toUInt64).toInt64).toInt32).toInt8.toInt32)), (.int (2 : Int32)), (.ref b874)])) _
    obtain ⟨y886, hy886⟩ : ∃ z, z = ((((i2.toUInt64 >>> ((16 : Int32) &&& 0x3f).toInt64.toUInt64).toInt64).toInt32).toInt8.toInt32) := ⟨_, rfl⟩
    rw [← hy886]
    show own_Goes p e below (T884.setTop (mkF m 51 #[iv i0, iv i1, .val (.long i2), .second, .val (.long i3), .second, iv (1 : Int32), iv (i1 &&& (7 : Int32)), rv b874, .unset] [(.int y886), (.int (2 : Int32)), (.ref b874)])) _
    have V887 : Arv Z h884 b874 k873 .byte (12 : Int32) [(.int (y878.toInt8.toInt32)), (.int (y882.toInt8.toInt32)), (.int (0 : Int32))] (.int (0 : Int32)) := V885.pad (pad_rep [(.int (y878.toInt8.toInt32)), (.int (y882.toInt8.toInt32))] (.int (0 : Int32)) 1)
    obtain ⟨cl888, Ar888, qq888, S888, M888, H888, G888⟩ := id (V887)
    have hin888 : ¬ ((2 : Int32) < 0 ∨ cl888.slots.size ≤ ((2 : Int32)).toNatClampNeg) := inb_of S888 ⟨by decide, by decide⟩
    obtain ⟨T888, h888, X888, e888, W888, st888⟩ := stB X884 hx hZ e884 Ar888 (j := (2 : Int32)) hin888 (g := (mkF m 51 #[iv i0, iv i1, .val (.long i2), .second, .val (.long i3), .second, iv (1 : Int32), iv (i1 &&& (7 : Int32)), rv b874, .unset] [(.int y886), (.int (2 : Int32)), (.ref b874)])) rfl rfl (hb hby at_51)
    refine own_via (fun t k => st888 t k) ?_
    have V889 : Arv Z h888 b874 k873 .byte (12 : Int32) [(.int (y878.toInt8.toInt32)), (.int (y882.toInt8.toInt32)), (.int (y886.toInt8.toInt32))] (.int (0 : Int32)) := Arv.set Ar888 qq888 S888 M888 H888 G888 (fits_nar_byte _) W888 2 rfl (Nat.le_of_ble_eq_true rfl)
    have N888 := Fr.snoc X888 N884 g875
    show own_Goes p e below (T888.setTop (mkF m 52 #[iv i0, iv i1, .val (.long i2), .second, .val (.long i3), .second, iv (1 : Int32), iv (i1 &&& (7 : Int32)), rv b874, .unset] [])) _
    refine own_via (fun t k => XS.aload X888.here hx rfl (hb hby at_52) rfl rfl (XS.iconst X888.here hx rfl (hb hby at_54) (XS.lloadN X888.here hx rfl (hb hby at_55) rfl (XS.bipush X888.here hx rfl (hb hby at_56) (XS.lushr X888.here hx rfl (hb hby at_58) rfl (XS.l2i X888.here hx rfl (hb hby at_59) rfl (XS.i2b X888.here hx rfl (hb hby at_60) rfl k))))))) ?_
    show own_Goes p e below (T888.setTop (mkF m 61 #[iv i0, iv i1, .val (.long i2), .second, .val (.long i3), .second, iv (1 : Int32), iv (i1 &&& (7 : Int32)), rv b874, .unset] [(.int ((((i2.toUInt64 >>> ((24 : Int32) &&& 0x3f).toInt64.toUInt64).toInt64).toInt32).toInt8.toInt32)), (.int (3 : Int32)), (.ref b874)])) _
    obtain ⟨y890, hy890⟩ : ∃ z, z = ((((i2.toUInt64 >>> ((24 : Int32) &&& 0x3f).toInt64.toUInt64).toInt64).toInt32).toInt8.toInt32) := ⟨_, rfl⟩
    rw [← hy890]
    show own_Goes p e below (T888.setTop (mkF m 61 #[iv i0, iv i1, .val (.long i2), .second, .val (.long i3), .second, iv (1 : Int32), iv (i1 &&& (7 : Int32)), rv b874, .unset] [(.int y890), (.int (3 : Int32)), (.ref b874)])) _
    have V891 : Arv Z h888 b874 k873 .byte (12 : Int32) [(.int (y878.toInt8.toInt32)), (.int (y882.toInt8.toInt32)), (.int (y886.toInt8.toInt32)), (.int (0 : Int32))] (.int (0 : Int32)) := V889.pad (pad_rep [(.int (y878.toInt8.toInt32)), (.int (y882.toInt8.toInt32)), (.int (y886.toInt8.toInt32))] (.int (0 : Int32)) 1)
    obtain ⟨cl892, Ar892, qq892, S892, M892, H892, G892⟩ := id (V891)
    have hin892 : ¬ ((3 : Int32) < 0 ∨ cl892.slots.size ≤ ((3 : Int32)).toNatClampNeg) := inb_of S892 ⟨by decide, by decide⟩
    obtain ⟨T892, h892, X892, e892, W892, st892⟩ := stB X888 hx hZ e888 Ar892 (j := (3 : Int32)) hin892 (g := (mkF m 61 #[iv i0, iv i1, .val (.long i2), .second, .val (.long i3), .second, iv (1 : Int32), iv (i1 &&& (7 : Int32)), rv b874, .unset] [(.int y890), (.int (3 : Int32)), (.ref b874)])) rfl rfl (hb hby at_61)
    refine own_via (fun t k => st892 t k) ?_
    have V893 : Arv Z h892 b874 k873 .byte (12 : Int32) [(.int (y878.toInt8.toInt32)), (.int (y882.toInt8.toInt32)), (.int (y886.toInt8.toInt32)), (.int (y890.toInt8.toInt32))] (.int (0 : Int32)) := Arv.set Ar892 qq892 S892 M892 H892 G892 (fits_nar_byte _) W892 3 rfl (Nat.le_of_ble_eq_true rfl)
    have N892 := Fr.snoc X892 N888 g875
    show own_Goes p e below (T892.setTop (mkF m 62 #[iv i0, iv i1, .val (.long i2), .second, .val (.long i3), .second, iv (1 : Int32), iv (i1 &&& (7 : Int32)), rv b874, .unset] [])) _
    refine own_via (fun t k => XS.aload X892.here hx rfl (hb hby at_62) rfl rfl (XS.iconst X892.here hx rfl (hb hby at_64) (XS.lloadN X892.here hx rfl (hb hby at_65) rfl (XS.bipush X892.here hx rfl (hb hby at_66) (XS.lushr X892.here hx rfl (hb hby at_68) rfl (XS.l2i X892.here hx rfl (hb hby at_69) rfl (XS.i2b X892.here hx rfl (hb hby at_70) rfl k))))))) ?_
    show own_Goes p e below (T892.setTop (mkF m 71 #[iv i0, iv i1, .val (.long i2), .second, .val (.long i3), .second, iv (1 : Int32), iv (i1 &&& (7 : Int32)), rv b874, .unset] [(.int ((((i2.toUInt64 >>> ((32 : Int32) &&& 0x3f).toInt64.toUInt64).toInt64).toInt32).toInt8.toInt32)), (.int (4 : Int32)), (.ref b874)])) _
    obtain ⟨y894, hy894⟩ : ∃ z, z = ((((i2.toUInt64 >>> ((32 : Int32) &&& 0x3f).toInt64.toUInt64).toInt64).toInt32).toInt8.toInt32) := ⟨_, rfl⟩
    rw [← hy894]
    show own_Goes p e below (T892.setTop (mkF m 71 #[iv i0, iv i1, .val (.long i2), .second, .val (.long i3), .second, iv (1 : Int32), iv (i1 &&& (7 : Int32)), rv b874, .unset] [(.int y894), (.int (4 : Int32)), (.ref b874)])) _
    have V895 : Arv Z h892 b874 k873 .byte (12 : Int32) [(.int (y878.toInt8.toInt32)), (.int (y882.toInt8.toInt32)), (.int (y886.toInt8.toInt32)), (.int (y890.toInt8.toInt32)), (.int (0 : Int32))] (.int (0 : Int32)) := V893.pad (pad_rep [(.int (y878.toInt8.toInt32)), (.int (y882.toInt8.toInt32)), (.int (y886.toInt8.toInt32)), (.int (y890.toInt8.toInt32))] (.int (0 : Int32)) 1)
    obtain ⟨cl896, Ar896, qq896, S896, M896, H896, G896⟩ := id (V895)
    have hin896 : ¬ ((4 : Int32) < 0 ∨ cl896.slots.size ≤ ((4 : Int32)).toNatClampNeg) := inb_of S896 ⟨by decide, by decide⟩
    obtain ⟨T896, h896, X896, e896, W896, st896⟩ := stB X892 hx hZ e892 Ar896 (j := (4 : Int32)) hin896 (g := (mkF m 71 #[iv i0, iv i1, .val (.long i2), .second, .val (.long i3), .second, iv (1 : Int32), iv (i1 &&& (7 : Int32)), rv b874, .unset] [(.int y894), (.int (4 : Int32)), (.ref b874)])) rfl rfl (hb hby at_71)
    refine own_via (fun t k => st896 t k) ?_
    have V897 : Arv Z h896 b874 k873 .byte (12 : Int32) [(.int (y878.toInt8.toInt32)), (.int (y882.toInt8.toInt32)), (.int (y886.toInt8.toInt32)), (.int (y890.toInt8.toInt32)), (.int (y894.toInt8.toInt32))] (.int (0 : Int32)) := Arv.set Ar896 qq896 S896 M896 H896 G896 (fits_nar_byte _) W896 4 rfl (Nat.le_of_ble_eq_true rfl)
    have N896 := Fr.snoc X896 N892 g875
    show own_Goes p e below (T896.setTop (mkF m 72 #[iv i0, iv i1, .val (.long i2), .second, .val (.long i3), .second, iv (1 : Int32), iv (i1 &&& (7 : Int32)), rv b874, .unset] [])) _
    refine own_via (fun t k => XS.aload X896.here hx rfl (hb hby at_72) rfl rfl (XS.iconst X896.here hx rfl (hb hby at_74) (XS.lloadN X896.here hx rfl (hb hby at_75) rfl (XS.bipush X896.here hx rfl (hb hby at_76) (XS.lushr X896.here hx rfl (hb hby at_78) rfl (XS.l2i X896.here hx rfl (hb hby at_79) rfl (XS.i2b X896.here hx rfl (hb hby at_80) rfl k))))))) ?_
    show own_Goes p e below (T896.setTop (mkF m 81 #[iv i0, iv i1, .val (.long i2), .second, .val (.long i3), .second, iv (1 : Int32), iv (i1 &&& (7 : Int32)), rv b874, .unset] [(.int ((((i2.toUInt64 >>> ((40 : Int32) &&& 0x3f).toInt64.toUInt64).toInt64).toInt32).toInt8.toInt32)), (.int (5 : Int32)), (.ref b874)])) _
    obtain ⟨y898, hy898⟩ : ∃ z, z = ((((i2.toUInt64 >>> ((40 : Int32) &&& 0x3f).toInt64.toUInt64).toInt64).toInt32).toInt8.toInt32) := ⟨_, rfl⟩
    rw [← hy898]
    show own_Goes p e below (T896.setTop (mkF m 81 #[iv i0, iv i1, .val (.long i2), .second, .val (.long i3), .second, iv (1 : Int32), iv (i1 &&& (7 : Int32)), rv b874, .unset] [(.int y898), (.int (5 : Int32)), (.ref b874)])) _
    have V899 : Arv Z h896 b874 k873 .byte (12 : Int32) [(.int (y878.toInt8.toInt32)), (.int (y882.toInt8.toInt32)), (.int (y886.toInt8.toInt32)), (.int (y890.toInt8.toInt32)), (.int (y894.toInt8.toInt32)), (.int (0 : Int32))] (.int (0 : Int32)) := V897.pad (pad_rep [(.int (y878.toInt8.toInt32)), (.int (y882.toInt8.toInt32)), (.int (y886.toInt8.toInt32)), (.int (y890.toInt8.toInt32)), (.int (y894.toInt8.toInt32))] (.int (0 : Int32)) 1)
    obtain ⟨cl900, Ar900, qq900, S900, M900, H900, G900⟩ := id (V899)
    have hin900 : ¬ ((5 : Int32) < 0 ∨ cl900.slots.size ≤ ((5 : Int32)).toNatClampNeg) := inb_of S900 ⟨by decide, by decide⟩
    obtain ⟨T900, h900, X900, e900, W900, st900⟩ := stB X896 hx hZ e896 Ar900 (j := (5 : Int32)) hin900 (g := (mkF m 81 #[iv i0, iv i1, .val (.long i2), .second, .val (.long i3), .second, iv (1 : Int32), iv (i1 &&& (7 : Int32)), rv b874, .unset] [(.int y898), (.int (5 : Int32)), (.ref b874)])) rfl rfl (hb hby at_81)
    refine own_via (fun t k => st900 t k) ?_
    have V901 : Arv Z h900 b874 k873 .byte (12 : Int32) [(.int (y878.toInt8.toInt32)), (.int (y882.toInt8.toInt32)), (.int (y886.toInt8.toInt32)), (.int (y890.toInt8.toInt32)), (.int (y894.toInt8.toInt32)), (.int (y898.toInt8.toInt32))] (.int (0 : Int32)) := Arv.set Ar900 qq900 S900 M900 H900 G900 (fits_nar_byte _) W900 5 rfl (Nat.le_of_ble_eq_true rfl)
    have N900 := Fr.snoc X900 N896 g875
    show own_Goes p e below (T900.setTop (mkF m 82 #[iv i0, iv i1, .val (.long i2), .second, .val (.long i3), .second, iv (1 : Int32), iv (i1 &&& (7 : Int32)), rv b874, .unset] [])) _
    refine own_via (fun t k => XS.aload X900.here hx rfl (hb hby at_82) rfl rfl (XS.bipush X900.here hx rfl (hb hby at_84) (XS.lloadN X900.here hx rfl (hb hby at_86) rfl (XS.bipush X900.here hx rfl (hb hby at_87) (XS.lushr X900.here hx rfl (hb hby at_89) rfl (XS.l2i X900.here hx rfl (hb hby at_90) rfl (XS.i2b X900.here hx rfl (hb hby at_91) rfl k))))))) ?_
    show own_Goes p e below (T900.setTop (mkF m 92 #[iv i0, iv i1, .val (.long i2), .second, .val (.long i3), .second, iv (1 : Int32), iv (i1 &&& (7 : Int32)), rv b874, .unset] [(.int ((((i2.toUInt64 >>> ((48 : Int32) &&& 0x3f).toInt64.toUInt64).toInt64).toInt32).toInt8.toInt32)), (.int (6 : Int32)), (.ref b874)])) _
    obtain ⟨y902, hy902⟩ : ∃ z, z = ((((i2.toUInt64 >>> ((48 : Int32) &&& 0x3f).toInt64.toUInt64).toInt64).toInt32).toInt8.toInt32) := ⟨_, rfl⟩
    rw [← hy902]
    show own_Goes p e below (T900.setTop (mkF m 92 #[iv i0, iv i1, .val (.long i2), .second, .val (.long i3), .second, iv (1 : Int32), iv (i1 &&& (7 : Int32)), rv b874, .unset] [(.int y902), (.int (6 : Int32)), (.ref b874)])) _
    have V903 : Arv Z h900 b874 k873 .byte (12 : Int32) [(.int (y878.toInt8.toInt32)), (.int (y882.toInt8.toInt32)), (.int (y886.toInt8.toInt32)), (.int (y890.toInt8.toInt32)), (.int (y894.toInt8.toInt32)), (.int (y898.toInt8.toInt32)), (.int (0 : Int32))] (.int (0 : Int32)) := V901.pad (pad_rep [(.int (y878.toInt8.toInt32)), (.int (y882.toInt8.toInt32)), (.int (y886.toInt8.toInt32)), (.int (y890.toInt8.toInt32)), (.int (y894.toInt8.toInt32)), (.int (y898.toInt8.toInt32))] (.int (0 : Int32)) 1)
    obtain ⟨cl904, Ar904, qq904, S904, M904, H904, G904⟩ := id (V903)
    have hin904 : ¬ ((6 : Int32) < 0 ∨ cl904.slots.size ≤ ((6 : Int32)).toNatClampNeg) := inb_of S904 ⟨by decide, by decide⟩
    obtain ⟨T904, h904, X904, e904, W904, st904⟩ := stB X900 hx hZ e900 Ar904 (j := (6 : Int32)) hin904 (g := (mkF m 92 #[iv i0, iv i1, .val (.long i2), .second, .val (.long i3), .second, iv (1 : Int32), iv (i1 &&& (7 : Int32)), rv b874, .unset] [(.int y902), (.int (6 : Int32)), (.ref b874)])) rfl rfl (hb hby at_92)
    refine own_via (fun t k => st904 t k) ?_
    have V905 : Arv Z h904 b874 k873 .byte (12 : Int32) [(.int (y878.toInt8.toInt32)), (.int (y882.toInt8.toInt32)), (.int (y886.toInt8.toInt32)), (.int (y890.toInt8.toInt32)), (.int (y894.toInt8.toInt32)), (.int (y898.toInt8.toInt32)), (.int (y902.toInt8.toInt32))] (.int (0 : Int32)) := Arv.set Ar904 qq904 S904 M904 H904 G904 (fits_nar_byte _) W904 6 rfl (Nat.le_of_ble_eq_true rfl)
    have N904 := Fr.snoc X904 N900 g875
    show own_Goes p e below (T904.setTop (mkF m 93 #[iv i0, iv i1, .val (.long i2), .second, .val (.long i3), .second, iv (1 : Int32), iv (i1 &&& (7 : Int32)), rv b874, .unset] [])) _
    refine own_via (fun t k => XS.aload X904.here hx rfl (hb hby at_93) rfl rfl (XS.bipush X904.here hx rfl (hb hby at_95) (XS.lloadN X904.here hx rfl (hb hby at_97) rfl (XS.bipush X904.here hx rfl (hb hby at_98) (XS.lushr X904.here hx rfl (hb hby at_100) rfl (XS.l2i X904.here hx rfl (hb hby at_101) rfl (XS.i2b X904.here hx rfl (hb hby at_102) rfl k))))))) ?_
    show own_Goes p e below (T904.setTop (mkF m 103 #[iv i0, iv i1, .val (.long i2), .second, .val (.long i3), .second, iv (1 : Int32), iv (i1 &&& (7 : Int32)), rv b874, .unset] [(.int ((((i2.toUInt64 >>> ((56 : Int32) &&& 0x3f).toInt64.toUInt64).toInt64).toInt32).toInt8.toInt32)), (.int (7 : Int32)), (.ref b874)])) _
    obtain ⟨y906, hy906⟩ : ∃ z, z = ((((i2.toUInt64 >>> ((56 : Int32) &&& 0x3f).toInt64.toUInt64).toInt64).toInt32).toInt8.toInt32) := ⟨_, rfl⟩
    rw [← hy906]
    show own_Goes p e below (T904.setTop (mkF m 103 #[iv i0, iv i1, .val (.long i2), .second, .val (.long i3), .second, iv (1 : Int32), iv (i1 &&& (7 : Int32)), rv b874, .unset] [(.int y906), (.int (7 : Int32)), (.ref b874)])) _
    have V907 : Arv Z h904 b874 k873 .byte (12 : Int32) [(.int (y878.toInt8.toInt32)), (.int (y882.toInt8.toInt32)), (.int (y886.toInt8.toInt32)), (.int (y890.toInt8.toInt32)), (.int (y894.toInt8.toInt32)), (.int (y898.toInt8.toInt32)), (.int (y902.toInt8.toInt32)), (.int (0 : Int32))] (.int (0 : Int32)) := V905.pad (pad_rep [(.int (y878.toInt8.toInt32)), (.int (y882.toInt8.toInt32)), (.int (y886.toInt8.toInt32)), (.int (y890.toInt8.toInt32)), (.int (y894.toInt8.toInt32)), (.int (y898.toInt8.toInt32)), (.int (y902.toInt8.toInt32))] (.int (0 : Int32)) 1)
    obtain ⟨cl908, Ar908, qq908, S908, M908, H908, G908⟩ := id (V907)
    have hin908 : ¬ ((7 : Int32) < 0 ∨ cl908.slots.size ≤ ((7 : Int32)).toNatClampNeg) := inb_of S908 ⟨by decide, by decide⟩
    obtain ⟨T908, h908, X908, e908, W908, st908⟩ := stB X904 hx hZ e904 Ar908 (j := (7 : Int32)) hin908 (g := (mkF m 103 #[iv i0, iv i1, .val (.long i2), .second, .val (.long i3), .second, iv (1 : Int32), iv (i1 &&& (7 : Int32)), rv b874, .unset] [(.int y906), (.int (7 : Int32)), (.ref b874)])) rfl rfl (hb hby at_103)
    refine own_via (fun t k => st908 t k) ?_
    have V909 : Arv Z h908 b874 k873 .byte (12 : Int32) [(.int (y878.toInt8.toInt32)), (.int (y882.toInt8.toInt32)), (.int (y886.toInt8.toInt32)), (.int (y890.toInt8.toInt32)), (.int (y894.toInt8.toInt32)), (.int (y898.toInt8.toInt32)), (.int (y902.toInt8.toInt32)), (.int (y906.toInt8.toInt32))] (.int (0 : Int32)) := Arv.set Ar908 qq908 S908 M908 H908 G908 (fits_nar_byte _) W908 7 rfl (Nat.le_of_ble_eq_true rfl)
    have N908 := Fr.snoc X908 N904 g875
    show own_Goes p e below (T908.setTop (mkF m 104 #[iv i0, iv i1, .val (.long i2), .second, .val (.long i3), .second, iv (1 : Int32), iv (i1 &&& (7 : Int32)), rv b874, .unset] [])) _
    refine own_via (fun t k => XS.aload X908.here hx rfl (hb hby at_104) rfl rfl (XS.bipush X908.here hx rfl (hb hby at_106) (XS.lload X908.here hx rfl (hb hby at_108) rfl (XS.l2i X908.here hx rfl (hb hby at_110) rfl (XS.i2b X908.here hx rfl (hb hby at_111) rfl k))))) ?_
    show own_Goes p e below (T908.setTop (mkF m 112 #[iv i0, iv i1, .val (.long i2), .second, .val (.long i3), .second, iv (1 : Int32), iv (i1 &&& (7 : Int32)), rv b874, .unset] [(.int ((i3.toInt32).toInt8.toInt32)), (.int (8 : Int32)), (.ref b874)])) _
    obtain ⟨y910, hy910⟩ : ∃ z, z = ((i3.toInt32).toInt8.toInt32) := ⟨_, rfl⟩
    rw [← hy910]
    show own_Goes p e below (T908.setTop (mkF m 112 #[iv i0, iv i1, .val (.long i2), .second, .val (.long i3), .second, iv (1 : Int32), iv (i1 &&& (7 : Int32)), rv b874, .unset] [(.int y910), (.int (8 : Int32)), (.ref b874)])) _
    have V911 : Arv Z h908 b874 k873 .byte (12 : Int32) [(.int (y878.toInt8.toInt32)), (.int (y882.toInt8.toInt32)), (.int (y886.toInt8.toInt32)), (.int (y890.toInt8.toInt32)), (.int (y894.toInt8.toInt32)), (.int (y898.toInt8.toInt32)), (.int (y902.toInt8.toInt32)), (.int (y906.toInt8.toInt32)), (.int (0 : Int32))] (.int (0 : Int32)) := V909.pad (pad_rep [(.int (y878.toInt8.toInt32)), (.int (y882.toInt8.toInt32)), (.int (y886.toInt8.toInt32)), (.int (y890.toInt8.toInt32)), (.int (y894.toInt8.toInt32)), (.int (y898.toInt8.toInt32)), (.int (y902.toInt8.toInt32)), (.int (y906.toInt8.toInt32))] (.int (0 : Int32)) 1)
    obtain ⟨cl912, Ar912, qq912, S912, M912, H912, G912⟩ := id (V911)
    have hin912 : ¬ ((8 : Int32) < 0 ∨ cl912.slots.size ≤ ((8 : Int32)).toNatClampNeg) := inb_of S912 ⟨by decide, by decide⟩
    obtain ⟨T912, h912, X912, e912, W912, st912⟩ := stB X908 hx hZ e908 Ar912 (j := (8 : Int32)) hin912 (g := (mkF m 112 #[iv i0, iv i1, .val (.long i2), .second, .val (.long i3), .second, iv (1 : Int32), iv (i1 &&& (7 : Int32)), rv b874, .unset] [(.int y910), (.int (8 : Int32)), (.ref b874)])) rfl rfl (hb hby at_112)
    refine own_via (fun t k => st912 t k) ?_
    have V913 : Arv Z h912 b874 k873 .byte (12 : Int32) [(.int (y878.toInt8.toInt32)), (.int (y882.toInt8.toInt32)), (.int (y886.toInt8.toInt32)), (.int (y890.toInt8.toInt32)), (.int (y894.toInt8.toInt32)), (.int (y898.toInt8.toInt32)), (.int (y902.toInt8.toInt32)), (.int (y906.toInt8.toInt32)), (.int (y910.toInt8.toInt32))] (.int (0 : Int32)) := Arv.set Ar912 qq912 S912 M912 H912 G912 (fits_nar_byte _) W912 8 rfl (Nat.le_of_ble_eq_true rfl)
    have N912 := Fr.snoc X912 N908 g875
    show own_Goes p e below (T912.setTop (mkF m 113 #[iv i0, iv i1, .val (.long i2), .second, .val (.long i3), .second, iv (1 : Int32), iv (i1 &&& (7 : Int32)), rv b874, .unset] [])) _
    refine own_via (fun t k => XS.aload X912.here hx rfl (hb hby at_113) rfl rfl (XS.bipush X912.here hx rfl (hb hby at_115) (XS.lload X912.here hx rfl (hb hby at_117) rfl (XS.bipush X912.here hx rfl (hb hby at_119) (XS.lushr X912.here hx rfl (hb hby at_121) rfl (XS.l2i X912.here hx rfl (hb hby at_122) rfl (XS.i2b X912.here hx rfl (hb hby at_123) rfl k))))))) ?_
    show own_Goes p e below (T912.setTop (mkF m 124 #[iv i0, iv i1, .val (.long i2), .second, .val (.long i3), .second, iv (1 : Int32), iv (i1 &&& (7 : Int32)), rv b874, .unset] [(.int ((((i3.toUInt64 >>> ((8 : Int32) &&& 0x3f).toInt64.toUInt64).toInt64).toInt32).toInt8.toInt32)), (.int (9 : Int32)), (.ref b874)])) _
    obtain ⟨y914, hy914⟩ : ∃ z, z = ((((i3.toUInt64 >>> ((8 : Int32) &&& 0x3f).toInt64.toUInt64).toInt64).toInt32).toInt8.toInt32) := ⟨_, rfl⟩
    rw [← hy914]
    show own_Goes p e below (T912.setTop (mkF m 124 #[iv i0, iv i1, .val (.long i2), .second, .val (.long i3), .second, iv (1 : Int32), iv (i1 &&& (7 : Int32)), rv b874, .unset] [(.int y914), (.int (9 : Int32)), (.ref b874)])) _
    have V915 : Arv Z h912 b874 k873 .byte (12 : Int32) [(.int (y878.toInt8.toInt32)), (.int (y882.toInt8.toInt32)), (.int (y886.toInt8.toInt32)), (.int (y890.toInt8.toInt32)), (.int (y894.toInt8.toInt32)), (.int (y898.toInt8.toInt32)), (.int (y902.toInt8.toInt32)), (.int (y906.toInt8.toInt32)), (.int (y910.toInt8.toInt32)), (.int (0 : Int32))] (.int (0 : Int32)) := V913.pad (pad_rep [(.int (y878.toInt8.toInt32)), (.int (y882.toInt8.toInt32)), (.int (y886.toInt8.toInt32)), (.int (y890.toInt8.toInt32)), (.int (y894.toInt8.toInt32)), (.int (y898.toInt8.toInt32)), (.int (y902.toInt8.toInt32)), (.int (y906.toInt8.toInt32)), (.int (y910.toInt8.toInt32))] (.int (0 : Int32)) 1)
    obtain ⟨cl916, Ar916, qq916, S916, M916, H916, G916⟩ := id (V915)
    have hin916 : ¬ ((9 : Int32) < 0 ∨ cl916.slots.size ≤ ((9 : Int32)).toNatClampNeg) := inb_of S916 ⟨by decide, by decide⟩
    obtain ⟨T916, h916, X916, e916, W916, st916⟩ := stB X912 hx hZ e912 Ar916 (j := (9 : Int32)) hin916 (g := (mkF m 124 #[iv i0, iv i1, .val (.long i2), .second, .val (.long i3), .second, iv (1 : Int32), iv (i1 &&& (7 : Int32)), rv b874, .unset] [(.int y914), (.int (9 : Int32)), (.ref b874)])) rfl rfl (hb hby at_124)
    refine own_via (fun t k => st916 t k) ?_
    have V917 : Arv Z h916 b874 k873 .byte (12 : Int32) [(.int (y878.toInt8.toInt32)), (.int (y882.toInt8.toInt32)), (.int (y886.toInt8.toInt32)), (.int (y890.toInt8.toInt32)), (.int (y894.toInt8.toInt32)), (.int (y898.toInt8.toInt32)), (.int (y902.toInt8.toInt32)), (.int (y906.toInt8.toInt32)), (.int (y910.toInt8.toInt32)), (.int (y914.toInt8.toInt32))] (.int (0 : Int32)) := Arv.set Ar916 qq916 S916 M916 H916 G916 (fits_nar_byte _) W916 9 rfl (Nat.le_of_ble_eq_true rfl)
    have N916 := Fr.snoc X916 N912 g875
    show own_Goes p e below (T916.setTop (mkF m 125 #[iv i0, iv i1, .val (.long i2), .second, .val (.long i3), .second, iv (1 : Int32), iv (i1 &&& (7 : Int32)), rv b874, .unset] [])) _
    refine own_via (fun t k => XS.aload X916.here hx rfl (hb hby at_125) rfl rfl (XS.bipush X916.here hx rfl (hb hby at_127) (XS.lload X916.here hx rfl (hb hby at_129) rfl (XS.bipush X916.here hx rfl (hb hby at_131) (XS.lushr X916.here hx rfl (hb hby at_133) rfl (XS.l2i X916.here hx rfl (hb hby at_134) rfl (XS.i2b X916.here hx rfl (hb hby at_135) rfl k))))))) ?_
    show own_Goes p e below (T916.setTop (mkF m 136 #[iv i0, iv i1, .val (.long i2), .second, .val (.long i3), .second, iv (1 : Int32), iv (i1 &&& (7 : Int32)), rv b874, .unset] [(.int ((((i3.toUInt64 >>> ((16 : Int32) &&& 0x3f).toInt64.toUInt64).toInt64).toInt32).toInt8.toInt32)), (.int (10 : Int32)), (.ref b874)])) _
    obtain ⟨y918, hy918⟩ : ∃ z, z = ((((i3.toUInt64 >>> ((16 : Int32) &&& 0x3f).toInt64.toUInt64).toInt64).toInt32).toInt8.toInt32) := ⟨_, rfl⟩
    rw [← hy918]
    show own_Goes p e below (T916.setTop (mkF m 136 #[iv i0, iv i1, .val (.long i2), .second, .val (.long i3), .second, iv (1 : Int32), iv (i1 &&& (7 : Int32)), rv b874, .unset] [(.int y918), (.int (10 : Int32)), (.ref b874)])) _
    have V919 : Arv Z h916 b874 k873 .byte (12 : Int32) [(.int (y878.toInt8.toInt32)), (.int (y882.toInt8.toInt32)), (.int (y886.toInt8.toInt32)), (.int (y890.toInt8.toInt32)), (.int (y894.toInt8.toInt32)), (.int (y898.toInt8.toInt32)), (.int (y902.toInt8.toInt32)), (.int (y906.toInt8.toInt32)), (.int (y910.toInt8.toInt32)), (.int (y914.toInt8.toInt32)), (.int (0 : Int32))] (.int (0 : Int32)) := V917.pad (pad_rep [(.int (y878.toInt8.toInt32)), (.int (y882.toInt8.toInt32)), (.int (y886.toInt8.toInt32)), (.int (y890.toInt8.toInt32)), (.int (y894.toInt8.toInt32)), (.int (y898.toInt8.toInt32)), (.int (y902.toInt8.toInt32)), (.int (y906.toInt8.toInt32)), (.int (y910.toInt8.toInt32)), (.int (y914.toInt8.toInt32))] (.int (0 : Int32)) 1)
    obtain ⟨cl920, Ar920, qq920, S920, M920, H920, G920⟩ := id (V919)
    have hin920 : ¬ ((10 : Int32) < 0 ∨ cl920.slots.size ≤ ((10 : Int32)).toNatClampNeg) := inb_of S920 ⟨by decide, by decide⟩
    obtain ⟨T920, h920, X920, e920, W920, st920⟩ := stB X916 hx hZ e916 Ar920 (j := (10 : Int32)) hin920 (g := (mkF m 136 #[iv i0, iv i1, .val (.long i2), .second, .val (.long i3), .second, iv (1 : Int32), iv (i1 &&& (7 : Int32)), rv b874, .unset] [(.int y918), (.int (10 : Int32)), (.ref b874)])) rfl rfl (hb hby at_136)
    refine own_via (fun t k => st920 t k) ?_
    have V921 : Arv Z h920 b874 k873 .byte (12 : Int32) [(.int (y878.toInt8.toInt32)), (.int (y882.toInt8.toInt32)), (.int (y886.toInt8.toInt32)), (.int (y890.toInt8.toInt32)), (.int (y894.toInt8.toInt32)), (.int (y898.toInt8.toInt32)), (.int (y902.toInt8.toInt32)), (.int (y906.toInt8.toInt32)), (.int (y910.toInt8.toInt32)), (.int (y914.toInt8.toInt32)), (.int (y918.toInt8.toInt32))] (.int (0 : Int32)) := Arv.set Ar920 qq920 S920 M920 H920 G920 (fits_nar_byte _) W920 10 rfl (Nat.le_of_ble_eq_true rfl)
    have N920 := Fr.snoc X920 N916 g875
    show own_Goes p e below (T920.setTop (mkF m 137 #[iv i0, iv i1, .val (.long i2), .second, .val (.long i3), .second, iv (1 : Int32), iv (i1 &&& (7 : Int32)), rv b874, .unset] [])) _
    refine own_via (fun t k => XS.aload X920.here hx rfl (hb hby at_137) rfl rfl (XS.bipush X920.here hx rfl (hb hby at_139) (XS.lload X920.here hx rfl (hb hby at_141) rfl (XS.bipush X920.here hx rfl (hb hby at_143) (XS.lushr X920.here hx rfl (hb hby at_145) rfl (XS.l2i X920.here hx rfl (hb hby at_146) rfl (XS.i2b X920.here hx rfl (hb hby at_147) rfl k))))))) ?_
    show own_Goes p e below (T920.setTop (mkF m 148 #[iv i0, iv i1, .val (.long i2), .second, .val (.long i3), .second, iv (1 : Int32), iv (i1 &&& (7 : Int32)), rv b874, .unset] [(.int ((((i3.toUInt64 >>> ((24 : Int32) &&& 0x3f).toInt64.toUInt64).toInt64).toInt32).toInt8.toInt32)), (.int (11 : Int32)), (.ref b874)])) _
    obtain ⟨y922, hy922⟩ : ∃ z, z = ((((i3.toUInt64 >>> ((24 : Int32) &&& 0x3f).toInt64.toUInt64).toInt64).toInt32).toInt8.toInt32) := ⟨_, rfl⟩
    rw [← hy922]
    show own_Goes p e below (T920.setTop (mkF m 148 #[iv i0, iv i1, .val (.long i2), .second, .val (.long i3), .second, iv (1 : Int32), iv (i1 &&& (7 : Int32)), rv b874, .unset] [(.int y922), (.int (11 : Int32)), (.ref b874)])) _
    have V923 : Arv Z h920 b874 k873 .byte (12 : Int32) [(.int (y878.toInt8.toInt32)), (.int (y882.toInt8.toInt32)), (.int (y886.toInt8.toInt32)), (.int (y890.toInt8.toInt32)), (.int (y894.toInt8.toInt32)), (.int (y898.toInt8.toInt32)), (.int (y902.toInt8.toInt32)), (.int (y906.toInt8.toInt32)), (.int (y910.toInt8.toInt32)), (.int (y914.toInt8.toInt32)), (.int (y918.toInt8.toInt32)), (.int (0 : Int32))] (.int (0 : Int32)) := V921.pad (pad_rep [(.int (y878.toInt8.toInt32)), (.int (y882.toInt8.toInt32)), (.int (y886.toInt8.toInt32)), (.int (y890.toInt8.toInt32)), (.int (y894.toInt8.toInt32)), (.int (y898.toInt8.toInt32)), (.int (y902.toInt8.toInt32)), (.int (y906.toInt8.toInt32)), (.int (y910.toInt8.toInt32)), (.int (y914.toInt8.toInt32)), (.int (y918.toInt8.toInt32))] (.int (0 : Int32)) 1)
    obtain ⟨cl924, Ar924, qq924, S924, M924, H924, G924⟩ := id (V923)
    have hin924 : ¬ ((11 : Int32) < 0 ∨ cl924.slots.size ≤ ((11 : Int32)).toNatClampNeg) := inb_of S924 ⟨by decide, by decide⟩
    obtain ⟨T924, h924, X924, e924, W924, st924⟩ := stB X920 hx hZ e920 Ar924 (j := (11 : Int32)) hin924 (g := (mkF m 148 #[iv i0, iv i1, .val (.long i2), .second, .val (.long i3), .second, iv (1 : Int32), iv (i1 &&& (7 : Int32)), rv b874, .unset] [(.int y922), (.int (11 : Int32)), (.ref b874)])) rfl rfl (hb hby at_148)
    refine own_via (fun t k => st924 t k) ?_
    have V925 : Arv Z h924 b874 k873 .byte (12 : Int32) [(.int (y878.toInt8.toInt32)), (.int (y882.toInt8.toInt32)), (.int (y886.toInt8.toInt32)), (.int (y890.toInt8.toInt32)), (.int (y894.toInt8.toInt32)), (.int (y898.toInt8.toInt32)), (.int (y902.toInt8.toInt32)), (.int (y906.toInt8.toInt32)), (.int (y910.toInt8.toInt32)), (.int (y914.toInt8.toInt32)), (.int (y918.toInt8.toInt32)), (.int (y922.toInt8.toInt32))] (.int (0 : Int32)) := Arv.set Ar924 qq924 S924 M924 H924 G924 (fits_nar_byte _) W924 11 rfl (Nat.le_of_ble_eq_true rfl)
    have N924 := Fr.snoc X924 N920 g875
    show own_Goes p e below (T924.setTop (mkF m 149 #[iv i0, iv i1, .val (.long i2), .second, .val (.long i3), .second, iv (1 : Int32), iv (i1 &&& (7 : Int32)), rv b874, .unset] [])) _
    rcases own_and_7 i1 with qs | qs | qs | qs | qs | qs | qs | qs
    · have qs926 := qs
      rw [qs]
      show own_Goes p e below (T924.setTop (mkF m 149 #[iv i0, iv i1, .val (.long i2), .second, .val (.long i3), .second, iv (1 : Int32), iv (0 : Int32), rv b874, .unset] [])) _
      refine own_via (fun t k => XS.iload X924.here hx rfl (hb hby at_149) rfl (XS.ifNo X924.here hx rfl (hb hby at_151) rfl ((if0 _ _).trans (feq (by decide : ¬ ((1 : Int32) = (0 : Int32)))).1) (XS.aload X924.here hx rfl (hb hby at_154) rfl rfl (XS.iload X924.here hx rfl (hb hby at_156) rfl (XS.bipush X924.here hx rfl (hb hby at_158) k))))) ?_
      show own_Goes p e below (T924.setTop (mkF m 160 #[iv i0, iv i1, .val (.long i2), .second, .val (.long i3), .second, iv (1 : Int32), iv (0 : Int32), rv b874, .unset] [(.int (116 : Int32)), (.int (0 : Int32)), (.ref b874)])) _
      obtain ⟨cl927, Ar927, qq927, S927, M927, H927, G927⟩ := id (V925)
      have hin927 : ¬ ((0 : Int32) < 0 ∨ cl927.slots.size ≤ ((0 : Int32)).toNatClampNeg) := inb_of S927 ⟨by decide, by decide⟩
      obtain ⟨T927, h927, X927, e927, W927, st927⟩ := stB X924 hx hZ e924 Ar927 (j := (0 : Int32)) hin927 (g := (mkF m 160 #[iv i0, iv i1, .val (.long i2), .second, .val (.long i3), .second, iv (1 : Int32), iv (0 : Int32), rv b874, .unset] [(.int (116 : Int32)), (.int (0 : Int32)), (.ref b874)])) rfl rfl (hb hby at_160)
      refine own_via (fun t k => st927 t k) ?_
      have V928 : Arv Z h927 b874 k873 .byte (12 : Int32) [(.int (116 : Int32)), (.int (y882.toInt8.toInt32)), (.int (y886.toInt8.toInt32)), (.int (y890.toInt8.toInt32)), (.int (y894.toInt8.toInt32)), (.int (y898.toInt8.toInt32)), (.int (y902.toInt8.toInt32)), (.int (y906.toInt8.toInt32)), (.int (y910.toInt8.toInt32)), (.int (y914.toInt8.toInt32)), (.int (y918.toInt8.toInt32)), (.int (y922.toInt8.toInt32))] (.int (0 : Int32)) := Arv.set Ar927 qq927 S927 M927 H927 G927 (by decide) W927 0 rfl (Nat.le_of_ble_eq_true rfl)
      have N927 := Fr.snoc X927 N924 g875
      show own_Goes p e below (T927.setTop (mkF m 161 #[iv i0, iv i1, .val (.long i2), .second, .val (.long i3), .second, iv (1 : Int32), iv (0 : Int32), rv b874, .unset] [])) _
      refine own_via (fun t k => XS.aload X927.here hx rfl (hb hby at_161) rfl rfl (XS.iload X927.here hx rfl (hb hby at_163) rfl (XS.iconst X927.here hx rfl (hb hby at_165) (XS.iadd X927.here hx rfl (hb hby at_166) rfl (XS.bipush X927.here hx rfl (hb hby at_167) k))))) ?_
      show own_Goes p e below (T927.setTop (mkF m 169 #[iv i0, iv i1, .val (.long i2), .second, .val (.long i3), .second, iv (1 : Int32), iv (0 : Int32), rv b874, .unset] [(.int (114 : Int32)), (.int (1 : Int32)), (.ref b874)])) _
      obtain ⟨cl929, Ar929, qq929, S929, M929, H929, G929⟩ := id (V928)
      have hin929 : ¬ ((1 : Int32) < 0 ∨ cl929.slots.size ≤ ((1 : Int32)).toNatClampNeg) := inb_of S929 ⟨by decide, by decide⟩
      obtain ⟨T929, h929, X929, e929, W929, st929⟩ := stB X927 hx hZ e927 Ar929 (j := (1 : Int32)) hin929 (g := (mkF m 169 #[iv i0, iv i1, .val (.long i2), .second, .val (.long i3), .second, iv (1 : Int32), iv (0 : Int32), rv b874, .unset] [(.int (114 : Int32)), (.int (1 : Int32)), (.ref b874)])) rfl rfl (hb hby at_169)
      refine own_via (fun t k => st929 t k) ?_
      have V930 : Arv Z h929 b874 k873 .byte (12 : Int32) [(.int (116 : Int32)), (.int (114 : Int32)), (.int (y886.toInt8.toInt32)), (.int (y890.toInt8.toInt32)), (.int (y894.toInt8.toInt32)), (.int (y898.toInt8.toInt32)), (.int (y902.toInt8.toInt32)), (.int (y906.toInt8.toInt32)), (.int (y910.toInt8.toInt32)), (.int (y914.toInt8.toInt32)), (.int (y918.toInt8.toInt32)), (.int (y922.toInt8.toInt32))] (.int (0 : Int32)) := Arv.set Ar929 qq929 S929 M929 H929 G929 (by decide) W929 1 rfl (Nat.le_of_ble_eq_true rfl)
      have N929 := Fr.snoc X929 N927 g875
      show own_Goes p e below (T929.setTop (mkF m 170 #[iv i0, iv i1, .val (.long i2), .second, .val (.long i3), .second, iv (1 : Int32), iv (0 : Int32), rv b874, .unset] [])) _
      refine own_via (fun t k => XS.aload X929.here hx rfl (hb hby at_170) rfl rfl (XS.iload X929.here hx rfl (hb hby at_172) rfl (XS.iconst X929.here hx rfl (hb hby at_174) (XS.iadd X929.here hx rfl (hb hby at_175) rfl (XS.bipush X929.here hx rfl (hb hby at_176) k))))) ?_
      show own_Goes p e below (T929.setTop (mkF m 178 #[iv i0, iv i1, .val (.long i2), .second, .val (.long i3), .second, iv (1 : Int32), iv (0 : Int32), rv b874, .unset] [(.int (117 : Int32)), (.int (2 : Int32)), (.ref b874)])) _
      obtain ⟨cl931, Ar931, qq931, S931, M931, H931, G931⟩ := id (V930)
      have hin931 : ¬ ((2 : Int32) < 0 ∨ cl931.slots.size ≤ ((2 : Int32)).toNatClampNeg) := inb_of S931 ⟨by decide, by decide⟩
      obtain ⟨T931, h931, X931, e931, W931, st931⟩ := stB X929 hx hZ e929 Ar931 (j := (2 : Int32)) hin931 (g := (mkF m 178 #[iv i0, iv i1, .val (.long i2), .second, .val (.long i3), .second, iv (1 : Int32), iv (0 : Int32), rv b874, .unset] [(.int (117 : Int32)), (.int (2 : Int32)), (.ref b874)])) rfl rfl (hb hby at_178)
      refine own_via (fun t k => st931 t k) ?_
      have V932 : Arv Z h931 b874 k873 .byte (12 : Int32) [(.int (116 : Int32)), (.int (114 : Int32)), (.int (117 : Int32)), (.int (y890.toInt8.toInt32)), (.int (y894.toInt8.toInt32)), (.int (y898.toInt8.toInt32)), (.int (y902.toInt8.toInt32)), (.int (y906.toInt8.toInt32)), (.int (y910.toInt8.toInt32)), (.int (y914.toInt8.toInt32)), (.int (y918.toInt8.toInt32)), (.int (y922.toInt8.toInt32))] (.int (0 : Int32)) := Arv.set Ar931 qq931 S931 M931 H931 G931 (by decide) W931 2 rfl (Nat.le_of_ble_eq_true rfl)
      have N931 := Fr.snoc X931 N929 g875
      show own_Goes p e below (T931.setTop (mkF m 179 #[iv i0, iv i1, .val (.long i2), .second, .val (.long i3), .second, iv (1 : Int32), iv (0 : Int32), rv b874, .unset] [])) _
      refine own_via (fun t k => XS.aload X931.here hx rfl (hb hby at_179) rfl rfl (XS.iload X931.here hx rfl (hb hby at_181) rfl (XS.iconst X931.here hx rfl (hb hby at_183) (XS.iadd X931.here hx rfl (hb hby at_184) rfl (XS.bipush X931.here hx rfl (hb hby at_185) k))))) ?_
      show own_Goes p e below (T931.setTop (mkF m 187 #[iv i0, iv i1, .val (.long i2), .second, .val (.long i3), .second, iv (1 : Int32), iv (0 : Int32), rv b874, .unset] [(.int (101 : Int32)), (.int (3 : Int32)), (.ref b874)])) _
      obtain ⟨cl933, Ar933, qq933, S933, M933, H933, G933⟩ := id (V932)
      have hin933 : ¬ ((3 : Int32) < 0 ∨ cl933.slots.size ≤ ((3 : Int32)).toNatClampNeg) := inb_of S933 ⟨by decide, by decide⟩
      obtain ⟨T933, h933, X933, e933, W933, st933⟩ := stB X931 hx hZ e931 Ar933 (j := (3 : Int32)) hin933 (g := (mkF m 187 #[iv i0, iv i1, .val (.long i2), .second, .val (.long i3), .second, iv (1 : Int32), iv (0 : Int32), rv b874, .unset] [(.int (101 : Int32)), (.int (3 : Int32)), (.ref b874)])) rfl rfl (hb hby at_187)
      refine own_via (fun t k => st933 t k) ?_
      have V934 : Arv Z h933 b874 k873 .byte (12 : Int32) [(.int (116 : Int32)), (.int (114 : Int32)), (.int (117 : Int32)), (.int (101 : Int32)), (.int (y894.toInt8.toInt32)), (.int (y898.toInt8.toInt32)), (.int (y902.toInt8.toInt32)), (.int (y906.toInt8.toInt32)), (.int (y910.toInt8.toInt32)), (.int (y914.toInt8.toInt32)), (.int (y918.toInt8.toInt32)), (.int (y922.toInt8.toInt32))] (.int (0 : Int32)) := Arv.set Ar933 qq933 S933 M933 H933 G933 (by decide) W933 3 rfl (Nat.le_of_ble_eq_true rfl)
      have N933 := Fr.snoc X933 N931 g875
      show own_Goes p e below (T933.setTop (mkF m 188 #[iv i0, iv i1, .val (.long i2), .second, .val (.long i3), .second, iv (1 : Int32), iv (0 : Int32), rv b874, .unset] [])) _
      refine own_via (fun t k => XS.goto X933.here hx rfl (pc0 := 188) (pc' := 234) rfl (hb hby at_188) (by decide) (by decide) k) ?_
      obtain ⟨T935, h935, X935, e935, E935, A935, D935, -, st935⟩ := newO X933 hx hZ hown (wd hw 1 rfl) (wd hw 2 rfl) (wd hw 3 rfl) e933 (g := (mkF m 234 #[iv i0, iv i1, .val (.long i2), .second, .val (.long i3), .second, iv (1 : Int32), iv (0 : Int32), rv b874, .unset] [])) rfl (hb hby at_234) (by decide) (by decide)
      obtain ⟨b936, q935⟩ : ∃ z, z = h933.size := ⟨_, rfl⟩
      rw [← q935] at A935 D935 st935
      refine own_via (fun t k => st935 t k) ?_
      have E938 : Exa Z h933 b874 "[B" := ((((((((((((((((a873x.wr W880).wr W884).wr W888).wr W892).wr W896).wr W900).wr W904).wr W908).wr W912).wr W916).wr W920).wr W924).wr W927).wr W929).wr W931).wr W933)
      have N937 : b874 ≠ b936 := Nat.ne_of_lt (Nat.lt_of_lt_of_le E938.lt (Nat.le_of_eq q935.symm))
      have O940 : Old Z n0 h933 := (((((((((((((((((O0.ext E873).wr W880 g875).wr W884 g875).wr W888 g875).wr W892 g875).wr W896 g875).wr W900 g875).wr W904 g875).wr W908 g875).wr W912 g875).wr W916 g875).wr W920 g875).wr W924 g875).wr W927 g875).wr W929 g875).wr W931 g875).wr W933 g875)
      have g939 : n0 ≤ b936 := Nat.le_trans (own_old O940) (Nat.le_of_eq q935.symm)
      have Z942 : h0.size ≤ h933.size := (Nat.le_trans (Nat.le_trans (Nat.le_trans (Nat.le_trans (Nat.le_trans (Nat.le_trans (Nat.le_trans (Nat.le_trans (Nat.le_trans (Nat.le_trans (Nat.le_trans (Nat.le_trans (Nat.le_trans (Nat.le_trans (Nat.le_trans (Nat.le_trans (Nat.le_trans (Nat.le_refl _) E873.1) (Nat.le_of_eq W880.size.symm)) (Nat.le_of_eq W884.size.symm)) (Nat.le_of_eq W888.size.symm)) (Nat.le_of_eq W892.size.symm)) (Nat.le_of_eq W896.size.symm)) (Nat.le_of_eq W900.size.symm)) (Nat.le_of_eq W904.size.symm)) (Nat.le_of_eq W908.size.symm)) (Nat.le_of_eq W912.size.symm)) (Nat.le_of_eq W916.size.symm)) (Nat.le_of_eq W920.size.symm)) (Nat.le_of_eq W924.size.symm)) (Nat.le_of_eq W927.size.symm)) (Nat.le_of_eq W929.size.symm)) (Nat.le_of_eq W931.size.symm)) (Nat.le_of_eq W933.size.symm))
      have B941 : h0.size ≤ b936 := Nat.le_trans Z942 (Nat.le_of_eq q935.symm)
      have F943 : Fld Z h935 b936 zs1 "kept" zs3 .null := D935 (Or.inr (wd hw 13 rfl)) (ty := (.array (.object zs2))) (by decide)
      have F944 : Fld Z h935 b936 zs1 "chunks" "[[I" .null := D935 (Or.inl (wd hw 17 rfl)) (ty := (.array (.array .int))) (by decide)
      have F945 : Fld Z h935 b936 zs1 "text" "[B" .null := D935 (Or.inr (wd hw 19 rfl)) (ty := (.array .byte)) (by decide)
      have F946 : Fld Z h935 b936 zs1 "first" "[I" .null := D935 (Or.inl (wd hw 26 rfl)) (ty := (.array .int)) (by decide)
      show own_Goes p e below (T935.setTop (mkF m 237 #[iv i0, iv i1, .val (.long i2), .second, .val (.long i3), .second, iv (1 : Int32), iv (0 : Int32), rv b874, .unset] [(.ref b936)])) _
      refine own_via (fun t k => XS.dup X935.here hx rfl (hb hby at_237) rfl rfl (XS.aload X935.here hx rfl (hb hby at_238) rfl rfl k)) ?_
      have V948 : Arv Z h935 b874 k873 .byte (12 : Int32) [(.int (116 : Int32)), (.int (114 : Int32)), (.int (117 : Int32)), (.int (101 : Int32)), (.int (y894.toInt8.toInt32)), (.int (y898.toInt8.toInt32)), (.int (y902.toInt8.toInt32)), (.int (y906.toInt8.toInt32)), (.int (y910.toInt8.toInt32)), (.int (y914.toInt8.toInt32)), (.int (y918.toInt8.toInt32)), (.int (y922.toInt8.toInt32))] (.int (0 : Int32)) := (V934.ext E935)
      have l949 : own_Len Z h935 b874 .byte (12 : Int32) := ⟨_, _, _, V948⟩
      have O950 : Old Z n0 h935 := (O940.ext E935)
      obtain ⟨_, T947, _, X947, hQ947, st947⟩ := own_ci X935 hx hZ hown (wd hw 4 rfl) (wd hw 5 rfl) (wd hw 6 rfl) (wd hw 3 rfl) rfl (by decide) (rm2 l Z a0 hw [] b936 b874 h935 n0 O950 F943 A935 g939 F944 F945 l949 N937 F946) e935 (g := (mkF m 240 #[iv i0, iv i1, .val (.long i2), .second, .val (.long i3), .second, iv (1 : Int32), iv (0 : Int32), rv b874, .unset] [(.ref b874), (.ref b936), (.ref b936)])) rfl (by rw [hml]; rfl) (rest := [(.ref b936)]) (W := 1) (lenOf pd_2 rfl) rfl (by show 2 * 0 + _ ≤ _; exact Nat.le_of_eq rfl) (hb hby at_240) (by decide) (by decide) (by decide) (by decide)
      obtain ⟨h947, e947⟩ : ∃ z, T947.heap = z := ⟨_, rfl⟩
      rw [e947] at hQ947
      obtain ⟨rfl, Nq947, K947, ex951, fx952⟩ := hQ947
      have N947 := Fr.app N933 Nq947
      refine own_via (fun t k => st947 t (XS.astore X947.here hx rfl (hb hby at_243) rfl rfl (l' := #[iv i0, iv i1, .val (.long i2), .second, .val (.long i3), .second, iv (1 : Int32), iv (0 : Int32), rv b874, rv b936]) rfl (XS.aload X947.here hx rfl (hb hby at_245) rfl rfl (XS.iload X947.here hx rfl (hb hby at_247) rfl k)))) ?_
      show own_Goes p e below (T947.setTop (mkF m 249 #[iv i0, iv i1, .val (.long i2), .second, .val (.long i3), .second, iv (1 : Int32), iv (0 : Int32), rv b874, rv b936] [(.int (0 : Int32)), (.ref b936)])) _
      have V1004 : Arv Z h947 b874 k873 .byte (12 : Int32) [(.int (116 : Int32)), (.int (114 : Int32)), (.int (117 : Int32)), (.int (101 : Int32)), (.int (y894.toInt8.toInt32)), (.int (y898.toInt8.toInt32)), (.int (y902.toInt8.toInt32)), (.int (y906.toInt8.toInt32)), (.int (y910.toInt8.toInt32)), (.int (y914.toInt8.toInt32)), (.int (y918.toInt8.toInt32)), (.int (y922.toInt8.toInt32))] (.int (0 : Int32)) := (V948.keep K947 (ninS N937 nin0))
      have O1005 : Old Z n0 h947 := (O950.keep K947 (allS g939 all0))
      obtain ⟨_, T953, _, X953, hQ953, st953⟩ := own_cv X947 hx hZ hown (wd hw 28 rfl) (wd hw 29 rfl) (wd hw 31 rfl) (wd hw 30 rfl) (wd hw 32 rfl) (wd hw 3 rfl) (by decide) (rm11 l Z a0 hw [] b936 b874 k873 (114 : Int32) (117 : Int32) (101 : Int32) (y894.toInt8.toInt32) (y898.toInt8.toInt32) (y902.toInt8.toInt32) (y906.toInt8.toInt32) (y910.toInt8.toInt32) (y914.toInt8.toInt32) (y918.toInt8.toInt32) (y922.toInt8.toInt32) h947 n0 O1005 fx952 V1004) e947 ex951 (g := (mkF m 249 #[iv i0, iv i1, .val (.long i2), .second, .val (.long i3), .second, iv (1 : Int32), iv (0 : Int32), rv b874, rv b936] [(.int (0 : Int32)), (.ref b936)])) rfl (by rw [hml]; rfl) (rest := []) (W := 0) (lenOf pd_3 rfl) rfl (by show 2 * 0 + _ ≤ _; exact Nat.le_of_eq rfl) (hb hby at_249) (by decide) (by decide) (by decide) (by decide)
      obtain ⟨rfl, Nq953, hh1006⟩ := hQ953
      have N953 := Fr.app N947 Nq953
      refine own_via (fun t k => st953 t (XS.iload X953.here hx rfl (hb hby at_252) rfl (XS.icmpNo X953.here hx rfl (hb hby at_254) rfl (teq (by decide : (1 : Int32) = (1 : Int32))).2 (XS.iconst X953.here hx rfl (hb hby at_257) (XS.goto X953.here hx rfl (pc0 := 258) (pc' := 262) rfl (hb hby at_258) (by decide) (by decide) k))))) ?_
      show own_Goes p e below (T953.setTop (mkF m 262 #[iv i0, iv i1, .val (.long i2), .second, .val (.long i3), .second, iv (1 : Int32), iv (0 : Int32), rv b874, rv b936] [(.int (1 : Int32))])) _
      obtain ⟨fs, hr, hrun, hended, hW, hsame⟩ := X953.leave (v := some (.int (1 : Int32))) (fun h => by rw [Bd.returns] at h; cases h)
      refine own_end (t := T953.setFrames fs) ?_ ⟨_, hrun, hended, _, _, rfl, ?_, ⟨_, rfl⟩, hW, hsame.mono (by decide) (by decide)⟩
      · exact retN X953 hx (t := .boolean) Bd.returns (by simp) (hb hby at_262) hr
      · exact ⟨rfl, N953⟩
    · have qs1007 := qs
      rw [qs]
      show own_Goes p e below (T924.setTop (mkF m 149 #[iv i0, iv i1, .val (.long i2), .second, .val (.long i3), .second, iv (1 : Int32), iv (1 : Int32), rv b874, .unset] [])) _
      refine own_via (fun t k => XS.iload X924.here hx rfl (hb hby at_149) rfl (XS.ifNo X924.here hx rfl (hb hby at_151) rfl ((if0 _ _).trans (feq (by decide : ¬ ((1 : Int32) = (0 : Int32)))).1) (XS.aload X924.here hx rfl (hb hby at_154) rfl rfl (XS.iload X924.here hx rfl (hb hby at_156) rfl (XS.bipush X924.here hx rfl (hb hby at_158) k))))) ?_
      show own_Goes p e below (T924.setTop (mkF m 160 #[iv i0, iv i1, .val (.long i2), .second, .val (.long i3), .second, iv (1 : Int32), iv (1 : Int32), rv b874, .unset] [(.int (116 : Int32)), (.int (1 : Int32)), (.ref b874)])) _
      obtain ⟨cl1008, Ar1008, qq1008, S1008, M1008, H1008, G1008⟩ := id (V925)
      have hin1008 : ¬ ((1 : Int32) < 0 ∨ cl1008.slots.size ≤ ((1 : Int32)).toNatClampNeg) := inb_of S1008 ⟨by decide, by decide⟩
      obtain ⟨T1008, h1008, X1008, e1008, W1008, st1008⟩ := stB X924 hx hZ e924 Ar1008 (j := (1 : Int32)) hin1008 (g := (mkF m 160 #[iv i0, iv i1, .val (.long i2), .second, .val (.long i3), .second, iv (1 : Int32), iv (1 : Int32), rv b874, .unset] [(.int (116 : Int32)), (.int (1 : Int32)), (.ref b874)])) rfl rfl (hb hby at_160)
      refine own_via (fun t k => st1008 t k) ?_
      have V1009 : Arv Z h1008 b874 k873 .byte (12 : Int32) [(.int (y878.toInt8.toInt32)), (.int (116 : Int32)), (.int (y886.toInt8.toInt32)), (.int (y890.toInt8.toInt32)), (.int (y894.toInt8.toInt32)), (.int (y898.toInt8.toInt32)), (.int (y902.toInt8.toInt32)), (.int (y906.toInt8.toInt32)), (.int (y910.toInt8.toInt32)), (.int (y914.toInt8.toInt32)), (.int (y918.toInt8.toInt32)), (.int (y922.toInt8.toInt32))] (.int (0 : Int32)) := Arv.set Ar1008 qq1008 S1008 M1008 H1008 G1008 (by decide) W1008 1 rfl (Nat.le_of_ble_eq_true rfl)
      have N1008 := Fr.snoc X1008 N924 g875
      show own_Goes p e below (T1008.setTop (mkF m 161 #[iv i0, iv i1, .val (.long i2), .second, .val (.long i3), .second, iv (1 : Int32), iv (1 : Int32), rv b874, .unset] [])) _
      refine own_via (fun t k => XS.aload X1008.here hx rfl (hb hby at_161) rfl rfl (XS.iload X1008.here hx rfl (hb hby at_163) rfl (XS.iconst X1008.here hx rfl (hb hby at_165) (XS.iadd X1008.here hx rfl (hb hby at_166) rfl (XS.bipush X1008.here hx rfl (hb hby at_167) k))))) ?_
      show own_Goes p e below (T1008.setTop (mkF m 169 #[iv i0, iv i1, .val (.long i2), .second, .val (.long i3), .second, iv (1 : Int32), iv (1 : Int32), rv b874, .unset] [(.int (114 : Int32)), (.int (2 : Int32)), (.ref b874)])) _
      obtain ⟨cl1010, Ar1010, qq1010, S1010, M1010, H1010, G1010⟩ := id (V1009)
      have hin1010 : ¬ ((2 : Int32) < 0 ∨ cl1010.slots.size ≤ ((2 : Int32)).toNatClampNeg) := inb_of S1010 ⟨by decide, by decide⟩
      obtain ⟨T1010, h1010, X1010, e1010, W1010, st1010⟩ := stB X1008 hx hZ e1008 Ar1010 (j := (2 : Int32)) hin1010 (g := (mkF m 169 #[iv i0, iv i1, .val (.long i2), .second, .val (.long i3), .second, iv (1 : Int32), iv (1 : Int32), rv b874, .unset] [(.int (114 : Int32)), (.int (2 : Int32)), (.ref b874)])) rfl rfl (hb hby at_169)
      refine own_via (fun t k => st1010 t k) ?_
      have V1011 : Arv Z h1010 b874 k873 .byte (12 : Int32) [(.int (y878.toInt8.toInt32)), (.int (116 : Int32)), (.int (114 : Int32)), (.int (y890.toInt8.toInt32)), (.int (y894.toInt8.toInt32)), (.int (y898.toInt8.toInt32)), (.int (y902.toInt8.toInt32)), (.int (y906.toInt8.toInt32)), (.int (y910.toInt8.toInt32)), (.int (y914.toInt8.toInt32)), (.int (y918.toInt8.toInt32)), (.int (y922.toInt8.toInt32))] (.int (0 : Int32)) := Arv.set Ar1010 qq1010 S1010 M1010 H1010 G1010 (by decide) W1010 2 rfl (Nat.le_of_ble_eq_true rfl)
      have N1010 := Fr.snoc X1010 N1008 g875
      show own_Goes p e below (T1010.setTop (mkF m 170 #[iv i0, iv i1, .val (.long i2), .second, .val (.long i3), .second, iv (1 : Int32), iv (1 : Int32), rv b874, .unset] [])) _
      refine own_via (fun t k => XS.aload X1010.here hx rfl (hb hby at_170) rfl rfl (XS.iload X1010.here hx rfl (hb hby at_172) rfl (XS.iconst X1010.here hx rfl (hb hby at_174) (XS.iadd X1010.here hx rfl (hb hby at_175) rfl (XS.bipush X1010.here hx rfl (hb hby at_176) k))))) ?_
      show own_Goes p e below (T1010.setTop (mkF m 178 #[iv i0, iv i1, .val (.long i2), .second, .val (.long i3), .second, iv (1 : Int32), iv (1 : Int32), rv b874, .unset] [(.int (117 : Int32)), (.int (3 : Int32)), (.ref b874)])) _
      obtain ⟨cl1012, Ar1012, qq1012, S1012, M1012, H1012, G1012⟩ := id (V1011)
      have hin1012 : ¬ ((3 : Int32) < 0 ∨ cl1012.slots.size ≤ ((3 : Int32)).toNatClampNeg) := inb_of S1012 ⟨by decide, by decide⟩
      obtain ⟨T1012, h1012, X1012, e1012, W1012, st1012⟩ := stB X1010 hx hZ e1010 Ar1012 (j := (3 : Int32)) hin1012 (g := (mkF m 178 #[iv i0, iv i1, .val (.long i2), .second, .val (.long i3), .second, iv (1 : Int32), iv (1 : Int32), rv b874, .unset] [(.int (117 : Int32)), (.int (3 : Int32)), (.ref b874)])) rfl rfl (hb hby at_178)
      refine own_via (fun t k => st1012 t k) ?_
      have V1013 : Arv Z h1012 b874 k873 .byte (12 : Int32) [(.int (y878.toInt8.toInt32)), (.int (116 : Int32)), (.int (114 : Int32)), (.int (117 : Int32)), (.int (y894.toInt8.toInt32)), (.int (y898.toInt8.toInt32)), (.int (y902.toInt8.toInt32)), (.int (y906.toInt8.toInt32)), (.int (y910.toInt8.toInt32)), (.int (y914.toInt8.toInt32)), (.int (y918.toInt8.toInt32)), (.int (y922.toInt8.toInt32))] (.int (0 : Int32)) := Arv.set Ar1012 qq1012 S1012 M1012 H1012 G1012 (by decide) W1012 3 rfl (Nat.le_of_ble_eq_true rfl)
      have N1012 := Fr.snoc X1012 N1010 g875
      show own_Goes p e below (T1012.setTop (mkF m 179 #[iv i0, iv i1, .val (.long i2), .second, .val (.long i3), .second, iv (1 : Int32), iv (1 : Int32), rv b874, .unset] [])) _
      refine own_via (fun t k => XS.aload X1012.here hx rfl (hb hby at_179) rfl rfl (XS.iload X1012.here hx rfl (hb hby at_181) rfl (XS.iconst X1012.here hx rfl (hb hby at_183) (XS.iadd X1012.here hx rfl (hb hby at_184) rfl (XS.bipush X1012.here hx rfl (hb hby at_185) k))))) ?_
      show own_Goes p e below (T1012.setTop (mkF m 187 #[iv i0, iv i1, .val (.long i2), .second, .val (.long i3), .second, iv (1 : Int32), iv (1 : Int32), rv b874, .unset] [(.int (101 : Int32)), (.int (4 : Int32)), (.ref b874)])) _
      obtain ⟨cl1014, Ar1014, qq1014, S1014, M1014, H1014, G1014⟩ := id (V1013)
      have hin1014 : ¬ ((4 : Int32) < 0 ∨ cl1014.slots.size ≤ ((4 : Int32)).toNatClampNeg) := inb_of S1014 ⟨by decide, by decide⟩
      obtain ⟨T1014, h1014, X1014, e1014, W1014, st1014⟩ := stB X1012 hx hZ e1012 Ar1014 (j := (4 : Int32)) hin1014 (g := (mkF m 187 #[iv i0, iv i1, .val (.long i2), .second, .val (.long i3), .second, iv (1 : Int32), iv (1 : Int32), rv b874, .unset] [(.int (101 : Int32)), (.int (4 : Int32)), (.ref b874)])) rfl rfl (hb hby at_187)
      refine own_via (fun t k => st1014 t k) ?_
      have V1015 : Arv Z h1014 b874 k873 .byte (12 : Int32) [(.int (y878.toInt8.toInt32)), (.int (116 : Int32)), (.int (114 : Int32)), (.int (117 : Int32)), (.int (101 : Int32)), (.int (y898.toInt8.toInt32)), (.int (y902.toInt8.toInt32)), (.int (y906.toInt8.toInt32)), (.int (y910.toInt8.toInt32)), (.int (y914.toInt8.toInt32)), (.int (y918.toInt8.toInt32)), (.int (y922.toInt8.toInt32))] (.int (0 : Int32)) := Arv.set Ar1014 qq1014 S1014 M1014 H1014 G1014 (by decide) W1014 4 rfl (Nat.le_of_ble_eq_true rfl)
      have N1014 := Fr.snoc X1014 N1012 g875
      show own_Goes p e below (T1014.setTop (mkF m 188 #[iv i0, iv i1, .val (.long i2), .second, .val (.long i3), .second, iv (1 : Int32), iv (1 : Int32), rv b874, .unset] [])) _
      refine own_via (fun t k => XS.goto X1014.here hx rfl (pc0 := 188) (pc' := 234) rfl (hb hby at_188) (by decide) (by decide) k) ?_
      obtain ⟨T1016, h1016, X1016, e1016, E1016, A1016, D1016, -, st1016⟩ := newO X1014 hx hZ hown (wd hw 1 rfl) (wd hw 2 rfl) (wd hw 3 rfl) e1014 (g := (mkF m 234 #[iv i0, iv i1, .val (.long i2), .second, .val (.long i3), .second, iv (1 : Int32), iv (1 : Int32), rv b874, .unset] [])) rfl (hb hby at_234) (by decide) (by decide)
      obtain ⟨b1017, q1016⟩ : ∃ z, z = h1014.size := ⟨_, rfl⟩
      rw [← q1016] at A1016 D1016 st1016
      refine own_via (fun t k => st1016 t k) ?_
      have E1019 : Exa Z h1014 b874 "[B" := ((((((((((((((((a873x.wr W880).wr W884).wr W888).wr W892).wr W896).wr W900).wr W904).wr W908).wr W912).wr W916).wr W920).wr W924).wr W1008).wr W1010).wr W1012).wr W1014)
      have N1018 : b874 ≠ b1017 := Nat.ne_of_lt (Nat.lt_of_lt_of_le E1019.lt (Nat.le_of_eq q1016.symm))
      have O1021 : Old Z n0 h1014 := (((((((((((((((((O0.ext E873).wr W880 g875).wr W884 g875).wr W888 g875).wr W892 g875).wr W896 g875).wr W900 g875).wr W904 g875).wr W908 g875).wr W912 g875).wr W916 g875).wr W920 g875).wr W924 g875).wr W1008 g875).wr W1010 g875).wr W1012 g875).wr W1014 g875)
      have g1020 : n0 ≤ b1017 := Nat.le_trans (own_old O1021) (Nat.le_of_eq q1016.symm)
      have Z1023 : h0.size ≤ h1014.size := (Nat.le_trans (Nat.le_trans (Nat.le_trans (Nat.le_trans (Nat.le_trans (Nat.le_trans (Nat.le_trans (Nat.le_trans (Nat.le_trans (Nat.le_trans (Nat.le_trans (Nat.le_trans (Nat.le_trans (Nat.le_trans (Nat.le_trans (Nat.le_trans (Nat.le_trans (Nat.le_refl _) E873.1) (Nat.le_of_eq W880.size.symm)) (Nat.le_of_eq W884.size.symm)) (Nat.le_of_eq W888.size.symm)) (Nat.le_of_eq W892.size.symm)) (Nat.le_of_eq W896.size.symm)) (Nat.le_of_eq W900.size.symm)) (Nat.le_of_eq W904.size.symm)) (Nat.le_of_eq W908.size.symm)) (Nat.le_of_eq W912.size.symm)) (Nat.le_of_eq W916.size.symm)) (Nat.le_of_eq W920.size.symm)) (Nat.le_of_eq W924.size.symm)) (Nat.le_of_eq W1008.size.symm)) (Nat.le_of_eq W1010.size.symm)) (Nat.le_of_eq W1012.size.symm)) (Nat.le_of_eq W1014.size.symm))
      have B1022 : h0.size ≤ b1017 := Nat.le_trans Z1023 (Nat.le_of_eq q1016.symm)
      have F1024 : Fld Z h1016 b1017 zs1 "kept" zs3 .null := D1016 (Or.inr (wd hw 13 rfl)) (ty := (.array (.object zs2))) (by decide)
      have F1025 : Fld Z h1016 b1017 zs1 "chunks" "[[I" .null := D1016 (Or.inl (wd hw 17 rfl)) (ty := (.array (.array .int))) (by decide)
      have F1026 : Fld Z h1016 b1017 zs1 "text" "[B" .null := D1016 (Or.inr (wd hw 19 rfl)) (ty := (.array .byte)) (by decide)
      have F1027 : Fld Z h1016 b1017 zs1 "first" "[I" .null := D1016 (Or.inl (wd hw 26 rfl)) (ty := (.array .int)) (by decide)
      show own_Goes p e below (T1016.setTop (mkF m 237 #[iv i0, iv i1, .val (.long i2), .second, .val (.long i3), .second, iv (1 : Int32), iv (1 : Int32), rv b874, .unset] [(.ref b1017)])) _
      refine own_via (fun t k => XS.dup X1016.here hx rfl (hb hby at_237) rfl rfl (XS.aload X1016.here hx rfl (hb hby at_238) rfl rfl k)) ?_
      have V1029 : Arv Z h1016 b874 k873 .byte (12 : Int32) [(.int (y878.toInt8.toInt32)), (.int (116 : Int32)), (.int (114 : Int32)), (.int (117 : Int32)), (.int (101 : Int32)), (.int (y898.toInt8.toInt32)), (.int (y902.toInt8.toInt32)), (.int (y906.toInt8.toInt32)), (.int (y910.toInt8.toInt32)), (.int (y914.toInt8.toInt32)), (.int (y918.toInt8.toInt32)), (.int (y922.toInt8.toInt32))] (.int (0 : Int32)) := (V1015.ext E1016)
      have l1030 : own_Len Z h1016 b874 .byte (12 : Int32) := ⟨_, _, _, V1029⟩
      have O1031 : Old Z n0 h1016 := (O1021.ext E1016)
      obtain ⟨_, T1028, _, X1028, hQ1028, st1028⟩ := own_ci X1016 hx hZ hown (wd hw 4 rfl) (wd hw 5 rfl) (wd hw 6 rfl) (wd hw 3 rfl) rfl (by decide) (rm2 l Z a0 hw [] b1017 b874 h1016 n0 O1031 F1024 A1016 g1020 F1025 F1026 l1030 N1018 F1027) e1016 (g := (mkF m 240 #[iv i0, iv i1, .val (.long i2), .second, .val (.long i3), .second, iv (1 : Int32), iv (1 : Int32), rv b874, .unset] [(.ref b874), (.ref b1017), (.ref b1017)])) rfl (by rw [hml]; rfl) (rest := [(.ref b1017)]) (W := 1) (lenOf pd_2 rfl) rfl (by show 2 * 0 + _ ≤ _; exact Nat.le_of_eq rfl) (hb hby at_240) (by decide) (by decide) (by decide) (by decide)
      obtain ⟨h1028, e1028⟩ : ∃ z, T1028.heap = z := ⟨_, rfl⟩
      rw [e1028] at hQ1028
      obtain ⟨rfl, Nq1028, K1028, ex1032, fx1033⟩ := hQ1028
      have N1028 := Fr.app N1014 Nq1028
      refine own_via (fun t k => st1028 t (XS.astore X1028.here hx rfl (hb hby at_243) rfl rfl (l' := #[iv i0, iv i1, .val (.long i2), .second, .val (.long i3), .second, iv (1 : Int32), iv (1 : Int32), rv b874, rv b1017]) rfl (XS.aload X1028.here hx rfl (hb hby at_245) rfl rfl (XS.iload X1028.here hx rfl (hb hby at_247) rfl k)))) ?_
      show own_Goes p e below (T1028.setTop (mkF m 249 #[iv i0, iv i1, .val (.long i2), .second, .val (.long i3), .second, iv (1 : Int32), iv (1 : Int32), rv b874, rv b1017] [(.int (1 : Int32)), (.ref b1017)])) _
      have V1085 : Arv Z h1028 b874 k873 .byte (12 : Int32) [(.int (y878.toInt8.toInt32)), (.int (116 : Int32)), (.int (114 : Int32)), (.int (117 : Int32)), (.int (101 : Int32)), (.int (y898.toInt8.toInt32)), (.int (y902.toInt8.toInt32)), (.int (y906.toInt8.toInt32)), (.int (y910.toInt8.toInt32)), (.int (y914.toInt8.toInt32)), (.int (y918.toInt8.toInt32)), (.int (y922.toInt8.toInt32))] (.int (0 : Int32)) := (V1029.keep K1028 (ninS N1018 nin0))
      have O1086 : Old Z n0 h1028 := (O1031.keep K1028 (allS g1020 all0))
      obtain ⟨_, T1034, _, X1034, hQ1034, st1034⟩ := own_cv X1028 hx hZ hown (wd hw 28 rfl) (wd hw 29 rfl) (wd hw 31 rfl) (wd hw 30 rfl) (wd hw 32 rfl) (wd hw 3 rfl) (by decide) (rm12 l Z a0 hw [] b1017 b874 k873 (y878.toInt8.toInt32) (114 : Int32) (117 : Int32) (101 : Int32) (y898.toInt8.toInt32) (y902.toInt8.toInt32) (y906.toInt8.toInt32) (y910.toInt8.toInt32) (y914.toInt8.toInt32) (y918.toInt8.toInt32) (y922.toInt8.toInt32) h1028 n0 O1086 fx1033 V1085) e1028 ex1032 (g := (mkF m 249 #[iv i0, iv i1, .val (.long i2), .second, .val (.long i3), .second, iv (1 : Int32), iv (1 : Int32), rv b874, rv b1017] [(.int (1 : Int32)), (.ref b1017)])) rfl (by rw [hml]; rfl) (rest := []) (W := 0) (lenOf pd_3 rfl) rfl (by show 2 * 0 + _ ≤ _; exact Nat.le_of_eq rfl) (hb hby at_249) (by decide) (by decide) (by decide) (by decide)
      obtain ⟨rfl, Nq1034, hh1087⟩ := hQ1034
      have N1034 := Fr.app N1028 Nq1034
      refine own_via (fun t k => st1034 t (XS.iload X1034.here hx rfl (hb hby at_252) rfl (XS.icmpNo X1034.here hx rfl (hb hby at_254) rfl (teq (by decide : (1 : Int32) = (1 : Int32))).2 (XS.iconst X1034.here hx rfl (hb hby at_257) (XS.goto X1034.here hx rfl (pc0 := 258) (pc' := 262) rfl (hb hby at_258) (by decide) (by decide) k))))) ?_
      show own_Goes p e below (T1034.setTop (mkF m 262 #[iv i0, iv i1, .val (.long i2), .second, .val (.long i3), .second, iv (1 : Int32), iv (1 : Int32), rv b874, rv b1017] [(.int (1 : Int32))])) _
      obtain ⟨fs, hr, hrun, hended, hW, hsame⟩ := X1034.leave (v := some (.int (1 : Int32))) (fun h => by rw [Bd.returns] at h; cases h)
      refine own_end (t := T1034.setFrames fs) ?_ ⟨_, hrun, hended, _, _, rfl, ?_, ⟨_, rfl⟩, hW, hsame.mono (by decide) (by decide)⟩
      · exact retN X1034 hx (t := .boolean) Bd.returns (by simp) (hb hby at_262) hr
      · exact ⟨rfl, N1034⟩
    · have qs1088 := qs
      rw [qs]
      show own_Goes p e below (T924.setTop (mkF m 149 #[iv i0, iv i1, .val (.long i2), .second, .val (.long i3), .second, iv (1 : Int32), iv (2 : Int32), rv b874, .unset] [])) _
      refine own_via (fun t k => XS.iload X924.here hx rfl (hb hby at_149) rfl (XS.ifNo X924.here hx rfl (hb hby at_151) rfl ((if0 _ _).trans (feq (by decide : ¬ ((1 : Int32) = (0 : Int32)))).1) (XS.aload X924.here hx rfl (hb hby at_154) rfl rfl (XS.iload X924.here hx rfl (hb hby at_156) rfl (XS.bipush X924.here hx rfl (hb hby at_158) k))))) ?_
      show own_Goes p e below (T924.setTop (mkF m 160 #[iv i0, iv i1, .val (.long i2), .second, .val (.long i3), .second, iv (1 : Int32), iv (2 : Int32), rv b874, .unset] [(.int (116 : Int32)), (.int (2 : Int32)), (.ref b874)])) _
      obtain ⟨cl1089, Ar1089, qq1089, S1089, M1089, H1089, G1089⟩ := id (V925)
      have hin1089 : ¬ ((2 : Int32) < 0 ∨ cl1089.slots.size ≤ ((2 : Int32)).toNatClampNeg) := inb_of S1089 ⟨by decide, by decide⟩
      obtain ⟨T1089, h1089, X1089, e1089, W1089, st1089⟩ := stB X924 hx hZ e924 Ar1089 (j := (2 : Int32)) hin1089 (g := (mkF m 160 #[iv i0, iv i1, .val (.long i2), .second, .val (.long i3), .second, iv (1 : Int32), iv (2 : Int32), rv b874, .unset] [(.int (116 : Int32)), (.int (2 : Int32)), (.ref b874)])) rfl rfl (hb hby at_160)
      refine own_via (fun t k => st1089 t k) ?_
      have V1090 : Arv Z h1089 b874 k873 .byte (12 : Int32) [(.int (y878.toInt8.toInt32)), (.int (y882.toInt8.toInt32)), (.int (116 : Int32)), (.int (y890.toInt8.toInt32)), (.int (y894.toInt8.toInt32)), (.int (y898.toInt8.toInt32)), (.int (y902.toInt8.toInt32)), (.int (y906.toInt8.toInt32)), (.int (y910.toInt8.toInt32)), (.int (y914.toInt8.toInt32)), (.int (y918.toInt8.toInt32)), (.int (y922.toInt8.toInt32))] (.int (0 : Int32)) := Arv.set Ar1089 qq1089 S1089 M1089 H1089 G1089 (by decide) W1089 2 rfl (Nat.le_of_ble_eq_true rfl)
      have N1089 := Fr.snoc X1089 N924 g875
      show own_Goes p e below (T1089.setTop (mkF m 161 #[iv i0, iv i1, .val (.long i2), .second, .val (.long i3), .second, iv (1 : Int32), iv (2 : Int32), rv b874, .unset] [])) _
      refine own_via (fun t k => XS.aload X1089.here hx rfl (hb hby at_161) rfl rfl (XS.iload X1089.here hx rfl (hb hby at_163) rfl (XS.iconst X1089.here hx rfl (hb hby at_165) (XS.iadd X1089.here hx rfl (hb hby at_166) rfl (XS.bipush X1089.here hx rfl (hb hby at_167) k))))) ?_
      show own_Goes p e below (T1089.setTop (mkF m 169 #[iv i0, iv i1, .val (.long i2), .second, .val (.long i3), .second, iv (1 : Int32), iv (2 : Int32), rv b874, .unset] [(.int (114 : Int32)), (.int (3 : Int32)), (.ref b874)])) _
      obtain ⟨cl1091, Ar1091, qq1091, S1091, M1091, H1091, G1091⟩ := id (V1090)
      have hin1091 : ¬ ((3 : Int32) < 0 ∨ cl1091.slots.size ≤ ((3 : Int32)).toNatClampNeg) := inb_of S1091 ⟨by decide, by decide⟩
      obtain ⟨T1091, h1091, X1091, e1091, W1091, st1091⟩ := stB X1089 hx hZ e1089 Ar1091 (j := (3 : Int32)) hin1091 (g := (mkF m 169 #[iv i0, iv i1, .val (.long i2), .second, .val (.long i3), .second, iv (1 : Int32), iv (2 : Int32), rv b874, .unset] [(.int (114 : Int32)), (.int (3 : Int32)), (.ref b874)])) rfl rfl (hb hby at_169)
      refine own_via (fun t k => st1091 t k) ?_
      have V1092 : Arv Z h1091 b874 k873 .byte (12 : Int32) [(.int (y878.toInt8.toInt32)), (.int (y882.toInt8.toInt32)), (.int (116 : Int32)), (.int (114 : Int32)), (.int (y894.toInt8.toInt32)), (.int (y898.toInt8.toInt32)), (.int (y902.toInt8.toInt32)), (.int (y906.toInt8.toInt32)), (.int (y910.toInt8.toInt32)), (.int (y914.toInt8.toInt32)), (.int (y918.toInt8.toInt32)), (.int (y922.toInt8.toInt32))] (.int (0 : Int32)) := Arv.set Ar1091 qq1091 S1091 M1091 H1091 G1091 (by decide) W1091 3 rfl (Nat.le_of_ble_eq_true rfl)
      have N1091 := Fr.snoc X1091 N1089 g875
      show own_Goes p e below (T1091.setTop (mkF m 170 #[iv i0, iv i1, .val (.long i2), .second, .val (.long i3), .second, iv (1 : Int32), iv (2 : Int32), rv b874, .unset] [])) _
      refine own_via (fun t k => XS.aload X1091.here hx rfl (hb hby at_170) rfl rfl (XS.iload X1091.here hx rfl (hb hby at_172) rfl (XS.iconst X1091.here hx rfl (hb hby at_174) (XS.iadd X1091.here hx rfl (hb hby at_175) rfl (XS.bipush X1091.here hx rfl (hb hby at_176) k))))) ?_
      show own_Goes p e below (T1091.setTop (mkF m 178 #[iv i0, iv i1, .val (.long i2), .second, .val (.long i3), .second, iv (1 : Int32), iv (2 : Int32), rv b874, .unset] [(.int (117 : Int32)), (.int (4 : Int32)), (.ref b874)])) _
      obtain ⟨cl1093, Ar1093, qq1093, S1093, M1093, H1093, G1093⟩ := id (V1092)
      have hin1093 : ¬ ((4 : Int32) < 0 ∨ cl1093.slots.size ≤ ((4 : Int32)).toNatClampNeg) := inb_of S1093 ⟨by decide, by decide⟩
      obtain ⟨T1093, h1093, X1093, e1093, W1093, st1093⟩ := stB X1091 hx hZ e1091 Ar1093 (j := (4 : Int32)) hin1093 (g := (mkF m 178 #[iv i0, iv i1, .val (.long i2), .second, .val (.long i3), .second, iv (1 : Int32), iv (2 : Int32), rv b874, .unset] [(.int (117 : Int32)), (.int (4 : Int32)), (.ref b874)])) rfl rfl (hb hby at_178)
      refine own_via (fun t k => st1093 t k) ?_
      have V1094 : Arv Z h1093 b874 k873 .byte (12 : Int32) [(.int (y878.toInt8.toInt32)), (.int (y882.toInt8.toInt32)), (.int (116 : Int32)), (.int (114 : Int32)), (.int (117 : Int32)), (.int (y898.toInt8.toInt32)), (.int (y902.toInt8.toInt32)), (.int (y906.toInt8.toInt32)), (.int (y910.toInt8.toInt32)), (.int (y914.toInt8.toInt32)), (.int (y918.toInt8.toInt32)), (.int (y922.toInt8.toInt32))] (.int (0 : Int32)) := Arv.set Ar1093 qq1093 S1093 M1093 H1093 G1093 (by decide) W1093 4 rfl (Nat.le_of_ble_eq_true rfl)
      have N1093 := Fr.snoc X1093 N1091 g875
      show own_Goes p e below (T1093.setTop (mkF m 179 #[iv i0, iv i1, .val (.long i2), .second, .val (.long i3), .second, iv (1 : Int32), iv (2 : Int32), rv b874, .unset] [])) _
      refine own_via (fun t k => XS.aload X1093.here hx rfl (hb hby at_179) rfl rfl (XS.iload X1093.here hx rfl (hb hby at_181) rfl (XS.iconst X1093.here hx rfl (hb hby at_183) (XS.iadd X1093.here hx rfl (hb hby at_184) rfl (XS.bipush X1093.here hx rfl (hb hby at_185) k))))) ?_
      show own_Goes p e below (T1093.setTop (mkF m 187 #[iv i0, iv i1, .val (.long i2), .second, .val (.long i3), .second, iv (1 : Int32), iv (2 : Int32), rv b874, .unset] [(.int (101 : Int32)), (.int (5 : Int32)), (.ref b874)])) _
      obtain ⟨cl1095, Ar1095, qq1095, S1095, M1095, H1095, G1095⟩ := id (V1094)
      have hin1095 : ¬ ((5 : Int32) < 0 ∨ cl1095.slots.size ≤ ((5 : Int32)).toNatClampNeg) := inb_of S1095 ⟨by decide, by decide⟩
      obtain ⟨T1095, h1095, X1095, e1095, W1095, st1095⟩ := stB X1093 hx hZ e1093 Ar1095 (j := (5 : Int32)) hin1095 (g := (mkF m 187 #[iv i0, iv i1, .val (.long i2), .second, .val (.long i3), .second, iv (1 : Int32), iv (2 : Int32), rv b874, .unset] [(.int (101 : Int32)), (.int (5 : Int32)), (.ref b874)])) rfl rfl (hb hby at_187)
      refine own_via (fun t k => st1095 t k) ?_
      have V1096 : Arv Z h1095 b874 k873 .byte (12 : Int32) [(.int (y878.toInt8.toInt32)), (.int (y882.toInt8.toInt32)), (.int (116 : Int32)), (.int (114 : Int32)), (.int (117 : Int32)), (.int (101 : Int32)), (.int (y902.toInt8.toInt32)), (.int (y906.toInt8.toInt32)), (.int (y910.toInt8.toInt32)), (.int (y914.toInt8.toInt32)), (.int (y918.toInt8.toInt32)), (.int (y922.toInt8.toInt32))] (.int (0 : Int32)) := Arv.set Ar1095 qq1095 S1095 M1095 H1095 G1095 (by decide) W1095 5 rfl (Nat.le_of_ble_eq_true rfl)
      have N1095 := Fr.snoc X1095 N1093 g875
      show own_Goes p e below (T1095.setTop (mkF m 188 #[iv i0, iv i1, .val (.long i2), .second, .val (.long i3), .second, iv (1 : Int32), iv (2 : Int32), rv b874, .unset] [])) _
      refine own_via (fun t k => XS.goto X1095.here hx rfl (pc0 := 188) (pc' := 234) rfl (hb hby at_188) (by decide) (by decide) k) ?_
      obtain ⟨T1097, h1097, X1097, e1097, E1097, A1097, D1097, -, st1097⟩ := newO X1095 hx hZ hown (wd hw 1 rfl) (wd hw 2 rfl) (wd hw 3 rfl) e1095 (g := (mkF m 234 #[iv i0, iv i1, .val (.long i2), .second, .val (.long i3), .second, iv (1 : Int32), iv (2 : Int32), rv b874, .unset] [])) rfl (hb hby at_234) (by decide) (by decide)
      obtain ⟨b1098, q1097⟩ : ∃ z, z = h1095.size := ⟨_, rfl⟩
      rw [← q1097] at A1097 D1097 st1097
      refine own_via (fun t k => st1097 t k) ?_
      have E1100 : Exa Z h1095 b874 "[B" := ((((((((((((((((a873x.wr W880).wr W884).wr W888).wr W892).wr W896).wr W900).wr W904).wr W908).wr W912).wr W916).wr W920).wr W924).wr W1089).wr W1091).wr W1093).wr W1095)
      have N1099 : b874 ≠ b1098 := Nat.ne_of_lt (Nat.lt_of_lt_of_le E1100.lt (Nat.le_of_eq q1097.symm))
      have O1102 : Old Z n0 h1095 := (((((((((((((((((O0.ext E873).wr W880 g875).wr W884 g875).wr W888 g875).wr W892 g875).wr W896 g875).wr W900 g875).wr W904 g875).wr W908 g875).wr W912 g875).wr W916 g875).wr W920 g875).wr W924 g875).wr W1089 g875).wr W1091 g875).wr W1093 g875).wr W1095 g875)
      have g1101 : n0 ≤ b1098 := Nat.le_trans (own_old O1102) (Nat.le_of_eq q1097.symm)
      have Z1104 : h0.size ≤ h1095.size := (Nat.le_trans (Nat.le_trans (Nat.le_trans (Nat.le_trans (Nat.le_trans (Nat.le_trans (Nat.le_trans (Nat.le_trans (Nat.le_trans (Nat.le_trans (Nat.le_trans (Nat.le_trans (Nat.le_trans (Nat.le_trans (Nat.le_trans (Nat.le_trans (Nat.le_trans (Nat.le_refl _) E873.1) (Nat.le_of_eq W880.size.symm)) (Nat.le_of_eq W884.size.symm)) (Nat.le_of_eq W888.size.symm)) (Nat.le_of_eq W892.size.symm)) (Nat.le_of_eq W896.size.symm)) (Nat.le_of_eq W900.size.symm)) (Nat.le_of_eq W904.size.symm)) (Nat.le_of_eq W908.size.symm)) (Nat.le_of_eq W912.size.symm)) (Nat.le_of_eq W916.size.symm)) (Nat.le_of_eq W920.size.symm)) (Nat.le_of_eq W924.size.symm)) (Nat.le_of_eq W1089.size.symm)) (Nat.le_of_eq W1091.size.symm)) (Nat.le_of_eq W1093.size.symm)) (Nat.le_of_eq W1095.size.symm))
      have B1103 : h0.size ≤ b1098 := Nat.le_trans Z1104 (Nat.le_of_eq q1097.symm)
      have F1105 : Fld Z h1097 b1098 zs1 "kept" zs3 .null := D1097 (Or.inr (wd hw 13 rfl)) (ty := (.array (.object zs2))) (by decide)
      have F1106 : Fld Z h1097 b1098 zs1 "chunks" "[[I" .null := D1097 (Or.inl (wd hw 17 rfl)) (ty := (.array (.array .int))) (by decide)
      have F1107 : Fld Z h1097 b1098 zs1 "text" "[B" .null := D1097 (Or.inr (wd hw 19 rfl)) (ty := (.array .byte)) (by decide)
      have F1108 : Fld Z h1097 b1098 zs1 "first" "[I" .null := D1097 (Or.inl (wd hw 26 rfl)) (ty := (.array .int)) (by decide)
      show own_Goes p e below (T1097.setTop (mkF m 237 #[iv i0, iv i1, .val (.long i2), .second, .val (.long i3), .second, iv (1 : Int32), iv (2 : Int32), rv b874, .unset] [(.ref b1098)])) _
      refine own_via (fun t k => XS.dup X1097.here hx rfl (hb hby at_237) rfl rfl (XS.aload X1097.here hx rfl (hb hby at_238) rfl rfl k)) ?_
      have V1110 : Arv Z h1097 b874 k873 .byte (12 : Int32) [(.int (y878.toInt8.toInt32)), (.int (y882.toInt8.toInt32)), (.int (116 : Int32)), (.int (114 : Int32)), (.int (117 : Int32)), (.int (101 : Int32)), (.int (y902.toInt8.toInt32)), (.int (y906.toInt8.toInt32)), (.int (y910.toInt8.toInt32)), (.int (y914.toInt8.toInt32)), (.int (y918.toInt8.toInt32)), (.int (y922.toInt8.toInt32))] (.int (0 : Int32)) := (V1096.ext E1097)
      have l1111 : own_Len Z h1097 b874 .byte (12 : Int32) := ⟨_, _, _, V1110⟩
      have O1112 : Old Z n0 h1097 := (O1102.ext E1097)
      obtain ⟨_, T1109, _, X1109, hQ1109, st1109⟩ := own_ci X1097 hx hZ hown (wd hw 4 rfl) (wd hw 5 rfl) (wd hw 6 rfl) (wd hw 3 rfl) rfl (by decide) (rm2 l Z a0 hw [] b1098 b874 h1097 n0 O1112 F1105 A1097 g1101 F1106 F1107 l1111 N1099 F1108) e1097 (g := (mkF m 240 #[iv i0, iv i1, .val (.long i2), .second, .val (.long i3), .second, iv (1 : Int32), iv (2 : Int32), rv b874, .unset] [(.ref b874), (.ref b1098), (.ref b1098)])) rfl (by rw [hml]; rfl) (rest := [(.ref b1098)]) (W := 1) (lenOf pd_2 rfl) rfl (by show 2 * 0 + _ ≤ _; exact Nat.le_of_eq rfl) (hb hby at_240) (by decide) (by decide) (by decide) (by decide)
      obtain ⟨h1109, e1109⟩ : ∃ z, T1109.heap = z := ⟨_, rfl⟩
      rw [e1109] at hQ1109
      obtain ⟨rfl, Nq1109, K1109, ex1113, fx1114⟩ := hQ1109
      have N1109 := Fr.app N1095 Nq1109
      refine own_via (fun t k => st1109 t (XS.astore X1109.here hx rfl (hb hby at_243) rfl rfl (l' := #[iv i0, iv i1, .val (.long i2), .second, .val (.long i3), .second, iv (1 : Int32), iv (2 : Int32), rv b874, rv b1098]) rfl (XS.aload X1109.here hx rfl (hb hby at_245) rfl rfl (XS.iload X1109.here hx rfl (hb hby at_247) rfl k)))) ?_
      show own_Goes p e below (T1109.setTop (mkF m 249 #[iv i0, iv i1, .val (.long i2), .second, .val (.long i3), .second, iv (1 : Int32), iv (2 : Int32), rv b874, rv b1098] [(.int (2 : Int32)), (.ref b1098)])) _
      have V1166 : Arv Z h1109 b874 k873 .byte (12 : Int32) [(.int (y878.toInt8.toInt32)), (.int (y882.toInt8.toInt32)), (.int (116 : Int32)), (.int (114 : Int32)), (.int (117 : Int32)), (.int (101 : Int32)), (.int (y902.toInt8.toInt32)), (.int (y906.toInt8.toInt32)), (.int (y910.toInt8.toInt32)), (.int (y914.toInt8.toInt32)), (.int (y918.toInt8.toInt32)), (.int (y922.toInt8.toInt32))] (.int (0 : Int32)) := (V1110.keep K1109 (ninS N1099 nin0))
      have O1167 : Old Z n0 h1109 := (O1112.keep K1109 (allS g1101 all0))
      obtain ⟨_, T1115, _, X1115, hQ1115, st1115⟩ := own_cv X1109 hx hZ hown (wd hw 28 rfl) (wd hw 29 rfl) (wd hw 31 rfl) (wd hw 30 rfl) (wd hw 32 rfl) (wd hw 3 rfl) (by decide) (rm13 l Z a0 hw [] b1098 b874 k873 (y878.toInt8.toInt32) (y882.toInt8.toInt32) (114 : Int32) (117 : Int32) (101 : Int32) (y902.toInt8.toInt32) (y906.toInt8.toInt32) (y910.toInt8.toInt32) (y914.toInt8.toInt32) (y918.toInt8.toInt32) (y922.toInt8.toInt32) h1109 n0 O1167 fx1114 V1166) e1109 ex1113 (g := (mkF m 249 #[iv i0, iv i1, .val (.long i2), .second, .val (.long i3), .second, iv (1 : Int32), iv (2 : Int32), rv b874, rv b1098] [(.int (2 : Int32)), (.ref b1098)])) rfl (by rw [hml]; rfl) (rest := []) (W := 0) (lenOf pd_3 rfl) rfl (by show 2 * 0 + _ ≤ _; exact Nat.le_of_eq rfl) (hb hby at_249) (by decide) (by decide) (by decide) (by decide)
      obtain ⟨rfl, Nq1115, hh1168⟩ := hQ1115
      have N1115 := Fr.app N1109 Nq1115
      refine own_via (fun t k => st1115 t (XS.iload X1115.here hx rfl (hb hby at_252) rfl (XS.icmpNo X1115.here hx rfl (hb hby at_254) rfl (teq (by decide : (1 : Int32) = (1 : Int32))).2 (XS.iconst X1115.here hx rfl (hb hby at_257) (XS.goto X1115.here hx rfl (pc0 := 258) (pc' := 262) rfl (hb hby at_258) (by decide) (by decide) k))))) ?_
      show own_Goes p e below (T1115.setTop (mkF m 262 #[iv i0, iv i1, .val (.long i2), .second, .val (.long i3), .second, iv (1 : Int32), iv (2 : Int32), rv b874, rv b1098] [(.int (1 : Int32))])) _
      obtain ⟨fs, hr, hrun, hended, hW, hsame⟩ := X1115.leave (v := some (.int (1 : Int32))) (fun h => by rw [Bd.returns] at h; cases h)
      refine own_end (t := T1115.setFrames fs) ?_ ⟨_, hrun, hended, _, _, rfl, ?_, ⟨_, rfl⟩, hW, hsame.mono (by decide) (by decide)⟩
      · exact retN X1115 hx (t := .boolean) Bd.returns (by simp) (hb hby at_262) hr
      · exact ⟨rfl, N1115⟩
    · have qs1169 := qs
      rw [qs]
      show own_Goes p e below (T924.setTop (mkF m 149 #[iv i0, iv i1, .val (.long i2), .second, .val (.long i3), .second, iv (1 : Int32), iv (3 : Int32), rv b874, .unset] [])) _
      refine own_via (fun t k => XS.iload X924.here hx rfl (hb hby at_149) rfl (XS.ifNo X924.here hx rfl (hb hby at_151) rfl ((if0 _ _).trans (feq (by decide : ¬ ((1 : Int32) = (0 : Int32)))).1) (XS.aload X924.here hx rfl (hb hby at_154) rfl rfl (XS.iload X924.here hx rfl (hb hby at_156) rfl (XS.bipush X924.here hx rfl (hb hby at_158) k))))) ?_
      show own_Goes p e below (T924.setTop (mkF m 160 #[iv i0, iv i1, .val (.long i2), .second, .val (.long i3), .second, iv (1 : Int32), iv (3 : Int32), rv b874, .unset] [(.int (116 : Int32)), (.int (3 : Int32)), (.ref b874)])) _
      obtain ⟨cl1170, Ar1170, qq1170, S1170, M1170, H1170, G1170⟩ := id (V925)
      have hin1170 : ¬ ((3 : Int32) < 0 ∨ cl1170.slots.size ≤ ((3 : Int32)).toNatClampNeg) := inb_of S1170 ⟨by decide, by decide⟩
      obtain ⟨T1170, h1170, X1170, e1170, W1170, st1170⟩ := stB X924 hx hZ e924 Ar1170 (j := (3 : Int32)) hin1170 (g := (mkF m 160 #[iv i0, iv i1, .val (.long i2), .second, .val (.long i3), .second, iv (1 : Int32), iv (3 : Int32), rv b874, .unset] [(.int (116 : Int32)), (.int (3 : Int32)), (.ref b874)])) rfl rfl (hb hby at_160)
      refine own_via (fun t k => st1170 t k) ?_
      have V1171 : Arv Z h1170 b874 k873 .byte (12 : Int32) [(.int (y878.toInt8.toInt32)), (.int (y882.toInt8.toInt32)), (.int (y886.toInt8.toInt32)), (.int (116 : Int32)), (.int (y894.toInt8.toInt32)), (.int (y898.toInt8.toInt32)), (.int (y902.toInt8.toInt32)), (.int (y906.toInt8.toInt32)), (.int (y910.toInt8.toInt32)), (.int (y914.toInt8.toInt32)), (.int (y918.toInt8.toInt32)), (.int (y922.toInt8.toInt32))] (.int (0 : Int32)) := Arv.set Ar1170 qq1170 S1170 M1170 H1170 G1170 (by decide) W1170 3 rfl (Nat.le_of_ble_eq_true rfl)
      have N1170 := Fr.snoc X1170 N924 g875
      show own_Goes p e below (T1170.setTop (mkF m 161 #[iv i0, iv i1, .val (.long i2), .second, .val (.long i3), .second, iv (1 : Int32), iv (3 : Int32), rv b874, .unset] [])) _
      refine own_via (fun t k => XS.aload X1170.here hx rfl (hb hby at_161) rfl rfl (XS.iload X1170.here hx rfl (hb hby at_163) rfl (XS.iconst X1170.here hx rfl (hb hby at_165) (XS.iadd X1170.here hx rfl (hb hby at_166) rfl (XS.bipush X1170.here hx rfl (hb hby at_167) k))))) ?_
      show own_Goes p e below (T1170.setTop (mkF m 169 #[iv i0, iv i1, .val (.long i2), .second, .val (.long i3), .second, iv (1 : Int32), iv (3 : Int32), rv b874, .unset] [(.int (114 : Int32)), (.int (4 : Int32)), (.ref b874)])) _
      obtain ⟨cl1172, Ar1172, qq1172, S1172, M1172, H1172, G1172⟩ := id (V1171)
      have hin1172 : ¬ ((4 : Int32) < 0 ∨ cl1172.slots.size ≤ ((4 : Int32)).toNatClampNeg) := inb_of S1172 ⟨by decide, by decide⟩
      obtain ⟨T1172, h1172, X1172, e1172, W1172, st1172⟩ := stB X1170 hx hZ e1170 Ar1172 (j := (4 : Int32)) hin1172 (g := (mkF m 169 #[iv i0, iv i1, .val (.long i2), .second, .val (.long i3), .second, iv (1 : Int32), iv (3 : Int32), rv b874, .unset] [(.int (114 : Int32)), (.int (4 : Int32)), (.ref b874)])) rfl rfl (hb hby at_169)
      refine own_via (fun t k => st1172 t k) ?_
      have V1173 : Arv Z h1172 b874 k873 .byte (12 : Int32) [(.int (y878.toInt8.toInt32)), (.int (y882.toInt8.toInt32)), (.int (y886.toInt8.toInt32)), (.int (116 : Int32)), (.int (114 : Int32)), (.int (y898.toInt8.toInt32)), (.int (y902.toInt8.toInt32)), (.int (y906.toInt8.toInt32)), (.int (y910.toInt8.toInt32)), (.int (y914.toInt8.toInt32)), (.int (y918.toInt8.toInt32)), (.int (y922.toInt8.toInt32))] (.int (0 : Int32)) := Arv.set Ar1172 qq1172 S1172 M1172 H1172 G1172 (by decide) W1172 4 rfl (Nat.le_of_ble_eq_true rfl)
      have N1172 := Fr.snoc X1172 N1170 g875
      show own_Goes p e below (T1172.setTop (mkF m 170 #[iv i0, iv i1, .val (.long i2), .second, .val (.long i3), .second, iv (1 : Int32), iv (3 : Int32), rv b874, .unset] [])) _
      refine own_via (fun t k => XS.aload X1172.here hx rfl (hb hby at_170) rfl rfl (XS.iload X1172.here hx rfl (hb hby at_172) rfl (XS.iconst X1172.here hx rfl (hb hby at_174) (XS.iadd X1172.here hx rfl (hb hby at_175) rfl (XS.bipush X1172.here hx rfl (hb hby at_176) k))))) ?_
      show own_Goes p e below (T1172.setTop (mkF m 178 #[iv i0, iv i1, .val (.long i2), .second, .val (.long i3), .second, iv (1 : Int32), iv (3 : Int32), rv b874, .unset] [(.int (117 : Int32)), (.int (5 : Int32)), (.ref b874)])) _
      obtain ⟨cl1174, Ar1174, qq1174, S1174, M1174, H1174, G1174⟩ := id (V1173)
      have hin1174 : ¬ ((5 : Int32) < 0 ∨ cl1174.slots.size ≤ ((5 : Int32)).toNatClampNeg) := inb_of S1174 ⟨by decide, by decide⟩
      obtain ⟨T1174, h1174, X1174, e1174, W1174, st1174⟩ := stB X1172 hx hZ e1172 Ar1174 (j := (5 : Int32)) hin1174 (g := (mkF m 178 #[iv i0, iv i1, .val (.long i2), .second, .val (.long i3), .second, iv (1 : Int32), iv (3 : Int32), rv b874, .unset] [(.int (117 : Int32)), (.int (5 : Int32)), (.ref b874)])) rfl rfl (hb hby at_178)
      refine own_via (fun t k => st1174 t k) ?_
      have V1175 : Arv Z h1174 b874 k873 .byte (12 : Int32) [(.int (y878.toInt8.toInt32)), (.int (y882.toInt8.toInt32)), (.int (y886.toInt8.toInt32)), (.int (116 : Int32)), (.int (114 : Int32)), (.int (117 : Int32)), (.int (y902.toInt8.toInt32)), (.int (y906.toInt8.toInt32)), (.int (y910.toInt8.toInt32)), (.int (y914.toInt8.toInt32)), (.int (y918.toInt8.toInt32)), (.int (y922.toInt8.toInt32))] (.int (0 : Int32)) := Arv.set Ar1174 qq1174 S1174 M1174 H1174 G1174 (by decide) W1174 5 rfl (Nat.le_of_ble_eq_true rfl)
      have N1174 := Fr.snoc X1174 N1172 g875
      show own_Goes p e below (T1174.setTop (mkF m 179 #[iv i0, iv i1, .val (.long i2), .second, .val (.long i3), .second, iv (1 : Int32), iv (3 : Int32), rv b874, .unset] [])) _
      refine own_via (fun t k => XS.aload X1174.here hx rfl (hb hby at_179) rfl rfl (XS.iload X1174.here hx rfl (hb hby at_181) rfl (XS.iconst X1174.here hx rfl (hb hby at_183) (XS.iadd X1174.here hx rfl (hb hby at_184) rfl (XS.bipush X1174.here hx rfl (hb hby at_185) k))))) ?_
      show own_Goes p e below (T1174.setTop (mkF m 187 #[iv i0, iv i1, .val (.long i2), .second, .val (.long i3), .second, iv (1 : Int32), iv (3 : Int32), rv b874, .unset] [(.int (101 : Int32)), (.int (6 : Int32)), (.ref b874)])) _
      obtain ⟨cl1176, Ar1176, qq1176, S1176, M1176, H1176, G1176⟩ := id (V1175)
      have hin1176 : ¬ ((6 : Int32) < 0 ∨ cl1176.slots.size ≤ ((6 : Int32)).toNatClampNeg) := inb_of S1176 ⟨by decide, by decide⟩
      obtain ⟨T1176, h1176, X1176, e1176, W1176, st1176⟩ := stB X1174 hx hZ e1174 Ar1176 (j := (6 : Int32)) hin1176 (g := (mkF m 187 #[iv i0, iv i1, .val (.long i2), .second, .val (.long i3), .second, iv (1 : Int32), iv (3 : Int32), rv b874, .unset] [(.int (101 : Int32)), (.int (6 : Int32)), (.ref b874)])) rfl rfl (hb hby at_187)
      refine own_via (fun t k => st1176 t k) ?_
      have V1177 : Arv Z h1176 b874 k873 .byte (12 : Int32) [(.int (y878.toInt8.toInt32)), (.int (y882.toInt8.toInt32)), (.int (y886.toInt8.toInt32)), (.int (116 : Int32)), (.int (114 : Int32)), (.int (117 : Int32)), (.int (101 : Int32)), (.int (y906.toInt8.toInt32)), (.int (y910.toInt8.toInt32)), (.int (y914.toInt8.toInt32)), (.int (y918.toInt8.toInt32)), (.int (y922.toInt8.toInt32))] (.int (0 : Int32)) := Arv.set Ar1176 qq1176 S1176 M1176 H1176 G1176 (by decide) W1176 6 rfl (Nat.le_of_ble_eq_true rfl)
      have N1176 := Fr.snoc X1176 N1174 g875
      show own_Goes p e below (T1176.setTop (mkF m 188 #[iv i0, iv i1, .val (.long i2), .second, .val (.long i3), .second, iv (1 : Int32), iv (3 : Int32), rv b874, .unset] [])) _
      refine own_via (fun t k => XS.goto X1176.here hx rfl (pc0 := 188) (pc' := 234) rfl (hb hby at_188) (by decide) (by decide) k) ?_
      obtain ⟨T1178, h1178, X1178, e1178, E1178, A1178, D1178, -, st1178⟩ := newO X1176 hx hZ hown (wd hw 1 rfl) (wd hw 2 rfl) (wd hw 3 rfl) e1176 (g := (mkF m 234 #[iv i0, iv i1, .val (.long i2), .second, .val (.long i3), .second, iv (1 : Int32), iv (3 : Int32), rv b874, .unset] [])) rfl (hb hby at_234) (by decide) (by decide)
      obtain ⟨b1179, q1178⟩ : ∃ z, z = h1176.size := ⟨_, rfl⟩
      rw [← q1178] at A1178 D1178 st1178
      refine own_via (fun t k => st1178 t k) ?_
      have E1181 : Exa Z h1176 b874 "[B" := ((((((((((((((((a873x.wr W880).wr W884).wr W888).wr W892).wr W896).wr W900).wr W904).wr W908).wr W912).wr W916).wr W920).wr W924).wr W1170).wr W1172).wr W1174).wr W1176)
      have N1180 : b874 ≠ b1179 := Nat.ne_of_lt (Nat.lt_of_lt_of_le E1181.lt (Nat.le_of_eq q1178.symm))
      have O1183 : Old Z n0 h1176 := (((((((((((((((((O0.ext E873).wr W880 g875).wr W884 g875).wr W888 g875).wr W892 g875).wr W896 g875).wr W900 g875).wr W904 g875).wr W908 g875).wr W912 g875).wr W916 g875).wr W920 g875).wr W924 g875).wr W1170 g875).wr W1172 g875).wr W1174 g875).wr W1176 g875)
      have g1182 : n0 ≤ b1179 := Nat.le_trans (own_old O1183) (Nat.le_of_eq q1178.symm)
      have Z1185 : h0.size ≤ h1176.size := (Nat.le_trans (Nat.le_trans (Nat.le_trans (Nat.le_trans (Nat.le_trans (Nat.le_trans (Nat.le_trans (Nat.le_trans (Nat.le_trans (Nat.le_trans (Nat.le_trans (Nat.le_trans (Nat.le_trans (Nat.le_trans (Nat.le_trans (Nat.le_trans (Nat.le_trans (Nat.le_refl _) E873.1) (Nat.le_of_eq W880.size.symm)) (Nat.le_of_eq W884.size.symm)) (Nat.le_of_eq W888.size.symm)) (Nat.le_of_eq W892.size.symm)) (Nat.le_of_eq W896.size.symm)) (Nat.le_of_eq W900.size.symm)) (Nat.le_of_eq W904.size.symm)) (Nat.le_of_eq W908.size.symm)) (Nat.le_of_eq W912.size.symm)) (Nat.le_of_eq W916.size.symm)) (Nat.le_of_eq W920.size.symm)) (Nat.le_of_eq W924.size.symm)) (Nat.le_of_eq W1170.size.symm)) (Nat.le_of_eq W1172.size.symm)) (Nat.le_of_eq W1174.size.symm)) (Nat.le_of_eq W1176.size.symm))
      have B1184 : h0.size ≤ b1179 := Nat.le_trans Z1185 (Nat.le_of_eq q1178.symm)
      have F1186 : Fld Z h1178 b1179 zs1 "kept" zs3 .null := D1178 (Or.inr (wd hw 13 rfl)) (ty := (.array (.object zs2))) (by decide)
      have F1187 : Fld Z h1178 b1179 zs1 "chunks" "[[I" .null := D1178 (Or.inl (wd hw 17 rfl)) (ty := (.array (.array .int))) (by decide)
      have F1188 : Fld Z h1178 b1179 zs1 "text" "[B" .null := D1178 (Or.inr (wd hw 19 rfl)) (ty := (.array .byte)) (by decide)
      have F1189 : Fld Z h1178 b1179 zs1 "first" "[I" .null := D1178 (Or.inl (wd hw 26 rfl)) (ty := (.array .int)) (by decide)
      show own_Goes p e below (T1178.setTop (mkF m 237 #[iv i0, iv i1, .val (.long i2), .second, .val (.long i3), .second, iv (1 : Int32), iv (3 : Int32), rv b874, .unset] [(.ref b1179)])) _
      refine own_via (fun t k => XS.dup X1178.here hx rfl (hb hby at_237) rfl rfl (XS.aload X1178.here hx rfl (hb hby at_238) rfl rfl k)) ?_
      have V1191 : Arv Z h1178 b874 k873 .byte (12 : Int32) [(.int (y878.toInt8.toInt32)), (.int (y882.toInt8.toInt32)), (.int (y886.toInt8.toInt32)), (.int (116 : Int32)), (.int (114 : Int32)), (.int (117 : Int32)), (.int (101 : Int32)), (.int (y906.toInt8.toInt32)), (.int (y910.toInt8.toInt32)), (.int (y914.toInt8.toInt32)), (.int (y918.toInt8.toInt32)), (.int (y922.toInt8.toInt32))] (.int (0 : Int32)) := (V1177.ext E1178)
      have l1192 : own_Len Z h1178 b874 .byte (12 : Int32) := ⟨_, _, _, V1191⟩
      have O1193 : Old Z n0 h1178 := (O1183.ext E1178)
      obtain ⟨_, T1190, _, X1190, hQ1190, st1190⟩ := own_ci X1178 hx hZ hown (wd hw 4 rfl) (wd hw 5 rfl) (wd hw 6 rfl) (wd hw 3 rfl) rfl (by decide) (rm2 l Z a0 hw [] b1179 b874 h1178 n0 O1193 F1186 A1178 g1182 F1187 F1188 l1192 N1180 F1189) e1178 (g := (mkF m 240 #[iv i0, iv i1, .val (.long i2), .second, .val (.long i3), .second, iv (1 : Int32), iv (3 : Int32), rv b874, .unset] [(.ref b874), (.ref b1179), (.ref b1179)])) rfl (by rw [hml]; rfl) (rest := [(.ref b1179)]) (W := 1) (lenOf pd_2 rfl) rfl (by show 2 * 0 + _ ≤ _; exact Nat.le_of_eq rfl) (hb hby at_240) (by decide) (by decide) (by decide) (by decide)
      obtain ⟨h1190, e1190⟩ : ∃ z, T1190.heap = z := ⟨_, rfl⟩
      rw [e1190] at hQ1190
      obtain ⟨rfl, Nq1190, K1190, ex1194, fx1195⟩ := hQ1190
      have N1190 := Fr.app N1176 Nq1190
      refine own_via (fun t k => st1190 t (XS.astore X1190.here hx rfl (hb hby at_243) rfl rfl (l' := #[iv i0, iv i1, .val (.long i2), .second, .val (.long i3), .second, iv (1 : Int32), iv (3 : Int32), rv b874, rv b1179]) rfl (XS.aload X1190.here hx rfl (hb hby at_245) rfl rfl (XS.iload X1190.here hx rfl (hb hby at_247) rfl k)))) ?_
      show own_Goes p e below (T1190.setTop (mkF m 249 #[iv i0, iv i1, .val (.long i2), .second, .val (.long i3), .second, iv (1 : Int32), iv (3 : Int32), rv b874, rv b1179] [(.int (3 : Int32)), (.ref b1179)])) _
      have V1247 : Arv Z h1190 b874 k873 .byte (12 : Int32) [(.int (y878.toInt8.toInt32)), (.int (y882.toInt8.toInt32)), (.int (y886.toInt8.toInt32)), (.int (116 : Int32)), (.int (114 : Int32)), (.int (117 : Int32)), (.int (101 : Int32)), (.int (y906.toInt8.toInt32)), (.int (y910.toInt8.toInt32)), (.int (y914.toInt8.toInt32)), (.int (y918.toInt8.toInt32)), (.int (y922.toInt8.toInt32))] (.int (0 : Int32)) := (V1191.keep K1190 (ninS N1180 nin0))
      have O1248 : Old Z n0 h1190 := (O1193.keep K1190 (allS g1182 all0))
      obtain ⟨_, T1196, _, X1196, hQ1196, st1196⟩ := own_cv X1190 hx hZ hown (wd hw 28 rfl) (wd hw 29 rfl) (wd hw 31 rfl) (wd hw 30 rfl) (wd hw 32 rfl) (wd hw 3 rfl) (by decide) (rm14 l Z a0 hw [] b1179 b874 k873 (y878.toInt8.toInt32) (y882.toInt8.toInt32) (y886.toInt8.toInt32) (114 : Int32) (117 : Int32) (101 : Int32) (y906.toInt8.toInt32) (y910.toInt8.toInt32) (y914.toInt8.toInt32) (y918.toInt8.toInt32) (y922.toInt8.toInt32) h1190 n0 O1248 fx1195 V1247) e1190 ex1194 (g := (mkF m 249 #[iv i0, iv i1, .val (.long i2), .second, .val (.long i3), .second, iv (1 : Int32), iv (3 : Int32), rv b874, rv b1179] [(.int (3 : Int32)), (.ref b1179)])) rfl (by rw [hml]; rfl) (rest := []) (W := 0) (lenOf pd_3 rfl) rfl (by show 2 * 0 + _ ≤ _; exact Nat.le_of_eq rfl) (hb hby at_249) (by decide) (by decide) (by decide) (by decide)
      obtain ⟨rfl, Nq1196, hh1249⟩ := hQ1196
      have N1196 := Fr.app N1190 Nq1196
      refine own_via (fun t k => st1196 t (XS.iload X1196.here hx rfl (hb hby at_252) rfl (XS.icmpNo X1196.here hx rfl (hb hby at_254) rfl (teq (by decide : (1 : Int32) = (1 : Int32))).2 (XS.iconst X1196.here hx rfl (hb hby at_257) (XS.goto X1196.here hx rfl (pc0 := 258) (pc' := 262) rfl (hb hby at_258) (by decide) (by decide) k))))) ?_
      show own_Goes p e below (T1196.setTop (mkF m 262 #[iv i0, iv i1, .val (.long i2), .second, .val (.long i3), .second, iv (1 : Int32), iv (3 : Int32), rv b874, rv b1179] [(.int (1 : Int32))])) _
      obtain ⟨fs, hr, hrun, hended, hW, hsame⟩ := X1196.leave (v := some (.int (1 : Int32))) (fun h => by rw [Bd.returns] at h; cases h)
      refine own_end (t := T1196.setFrames fs) ?_ ⟨_, hrun, hended, _, _, rfl, ?_, ⟨_, rfl⟩, hW, hsame.mono (by decide) (by decide)⟩
      · exact retN X1196 hx (t := .boolean) Bd.returns (by simp) (hb hby at_262) hr
      · exact ⟨rfl, N1196⟩
    · have qs1250 := qs
      rw [qs]
      show own_Goes p e below (T924.setTop (mkF m 149 #[iv i0, iv i1, .val (.long i2), .second, .val (.long i3), .second, iv (1 : Int32), iv (4 : Int32), rv b874, .unset] [])) _
      refine own_via (fun t k => XS.iload X924.here hx rfl (hb hby at_149) rfl (XS.ifNo X924.here hx rfl (hb hby at_151) rfl ((if0 _ _).trans (feq (by decide : ¬ ((1 : Int32) = (0 : Int32)))).1) (XS.aload X924.here hx rfl (hb hby at_154) rfl rfl (XS.iload X924.here hx rfl (hb hby at_156) rfl (XS.bipush X924.here hx rfl (hb hby at_158) k))))) ?_
      show own_Goes p e below (T924.setTop (mkF m 160 #[iv i0, iv i1, .val (.long i2), .second, .val (.long i3), .second, iv (1 : Int32), iv (4 : Int32), rv b874, .unset] [(.int (116 : Int32)), (.int (4 : Int32)), (.ref b874)])) _
      obtain ⟨cl1251, Ar1251, qq1251, S1251, M1251, H1251, G1251⟩ := id (V925)
      have hin1251 : ¬ ((4 : Int32) < 0 ∨ cl1251.slots.size ≤ ((4 : Int32)).toNatClampNeg) := inb_of S1251 ⟨by decide, by decide⟩
      obtain ⟨T1251, h1251, X1251, e1251, W1251, st1251⟩ := stB X924 hx hZ e924 Ar1251 (j := (4 : Int32)) hin1251 (g := (mkF m 160 #[iv i0, iv i1, .val (.long i2), .second, .val (.long i3), .second, iv (1 : Int32), iv (4 : Int32), rv b874, .unset] [(.int (116 : Int32)), (.int (4 : Int32)), (.ref b874)])) rfl rfl (hb hby at_160)
      refine own_via (fun t k => st1251 t k) ?_
      have V1252 : Arv Z h1251 b874 k873 .byte (12 : Int32) [(.int (y878.toInt8.toInt32)), (.int (y882.toInt8.toInt32)), (.int (y886.toInt8.toInt32)), (.int (y890.toInt8.toInt32)), (.int (116 : Int32)), (.int (y898.toInt8.toInt32)), (.int (y902.toInt8.toInt32)), (.int (y906.toInt8.toInt32)), (.int (y910.toInt8.toInt32)), (.int (y914.toInt8.toInt32)), (.int (y918.toInt8.toInt32)), (.int (y922.toInt8.toInt32))] (.int (0 : Int32)) := Arv.set Ar1251 qq1251 S1251 M1251 H1251 G1251 (by decide) W1251 4 rfl (Nat.le_of_ble_eq_true rfl)
      have N1251 := Fr.snoc X1251 N924 g875
      show own_Goes p e below (T1251.setTop (mkF m 161 #[iv i0, iv i1, .val (.long i2), .second, .val (.long i3), .second, iv (1 : Int32), iv (4 : Int32), rv b874, .unset] [])) _
      refine own_via (fun t k => XS.aload X1251.here hx rfl (hb hby at_161) rfl rfl (XS.iload X1251.here hx rfl (hb hby at_163) rfl (XS.iconst X1251.here hx rfl (hb hby at_165) (XS.iadd X1251.here hx rfl (hb hby at_166) rfl (XS.bipush X1251.here hx rfl (hb hby at_167) k))))) ?_
      show own_Goes p e below (T1251.setTop (mkF m 169 #[iv i0, iv i1, .val (.long i2), .second, .val (.long i3), .second, iv (1 : Int32), iv (4 : Int32), rv b874, .unset] [(.int (114 : Int32)), (.int (5 : Int32)), (.ref b874)])) _
      obtain ⟨cl1253, Ar1253, qq1253, S1253, M1253, H1253, G1253⟩ := id (V1252)
      have hin1253 : ¬ ((5 : Int32) < 0 ∨ cl1253.slots.size ≤ ((5 : Int32)).toNatClampNeg) := inb_of S1253 ⟨by decide, by decide⟩
      obtain ⟨T1253, h1253, X1253, e1253, W1253, st1253⟩ := stB X1251 hx hZ e1251 Ar1253 (j := (5 : Int32)) hin1253 (g := (mkF m 169 #[iv i0, iv i1, .val (.long i2), .second, .val (.long i3), .second, iv (1 : Int32), iv (4 : Int32), rv b874, .unset] [(.int (114 : Int32)), (.int (5 : Int32)), (.ref b874)])) rfl rfl (hb hby at_169)
      refine own_via (fun t k => st1253 t k) ?_
      have V1254 : Arv Z h1253 b874 k873 .byte (12 : Int32) [(.int (y878.toInt8.toInt32)), (.int (y882.toInt8.toInt32)), (.int (y886.toInt8.toInt32)), (.int (y890.toInt8.toInt32)), (.int (116 : Int32)), (.int (114 : Int32)), (.int (y902.toInt8.toInt32)), (.int (y906.toInt8.toInt32)), (.int (y910.toInt8.toInt32)), (.int (y914.toInt8.toInt32)), (.int (y918.toInt8.toInt32)), (.int (y922.toInt8.toInt32))] (.int (0 : Int32)) := Arv.set Ar1253 qq1253 S1253 M1253 H1253 G1253 (by decide) W1253 5 rfl (Nat.le_of_ble_eq_true rfl)
      have N1253 := Fr.snoc X1253 N1251 g875
      show own_Goes p e below (T1253.setTop (mkF m 170 #[iv i0, iv i1, .val (.long i2), .second, .val (.long i3), .second, iv (1 : Int32), iv (4 : Int32), rv b874, .unset] [])) _
      refine own_via (fun t k => XS.aload X1253.here hx rfl (hb hby at_170) rfl rfl (XS.iload X1253.here hx rfl (hb hby at_172) rfl (XS.iconst X1253.here hx rfl (hb hby at_174) (XS.iadd X1253.here hx rfl (hb hby at_175) rfl (XS.bipush X1253.here hx rfl (hb hby at_176) k))))) ?_
      show own_Goes p e below (T1253.setTop (mkF m 178 #[iv i0, iv i1, .val (.long i2), .second, .val (.long i3), .second, iv (1 : Int32), iv (4 : Int32), rv b874, .unset] [(.int (117 : Int32)), (.int (6 : Int32)), (.ref b874)])) _
      obtain ⟨cl1255, Ar1255, qq1255, S1255, M1255, H1255, G1255⟩ := id (V1254)
      have hin1255 : ¬ ((6 : Int32) < 0 ∨ cl1255.slots.size ≤ ((6 : Int32)).toNatClampNeg) := inb_of S1255 ⟨by decide, by decide⟩
      obtain ⟨T1255, h1255, X1255, e1255, W1255, st1255⟩ := stB X1253 hx hZ e1253 Ar1255 (j := (6 : Int32)) hin1255 (g := (mkF m 178 #[iv i0, iv i1, .val (.long i2), .second, .val (.long i3), .second, iv (1 : Int32), iv (4 : Int32), rv b874, .unset] [(.int (117 : Int32)), (.int (6 : Int32)), (.ref b874)])) rfl rfl (hb hby at_178)
      refine own_via (fun t k => st1255 t k) ?_
      have V1256 : Arv Z h1255 b874 k873 .byte (12 : Int32) [(.int (y878.toInt8.toInt32)), (.int (y882.toInt8.toInt32)), (.int (y886.toInt8.toInt32)), (.int (y890.toInt8.toInt32)), (.int (116 : Int32)), (.int (114 : Int32)), (.int (117 : Int32)), (.int (y906.toInt8.toInt32)), (.int (y910.toInt8.toInt32)), (.int (y914.toInt8.toInt32)), (.int (y918.toInt8.toInt32)), (.int (y922.toInt8.toInt32))] (.int (0 : Int32)) := Arv.set Ar1255 qq1255 S1255 M1255 H1255 G1255 (by decide) W1255 6 rfl (Nat.le_of_ble_eq_true rfl)
      have N1255 := Fr.snoc X1255 N1253 g875
      show own_Goes p e below (T1255.setTop (mkF m 179 #[iv i0, iv i1, .val (.long i2), .second, .val (.long i3), .second, iv (1 : Int32), iv (4 : Int32), rv b874, .unset] [])) _
      refine own_via (fun t k => XS.aload X1255.here hx rfl (hb hby at_179) rfl rfl (XS.iload X1255.here hx rfl (hb hby at_181) rfl (XS.iconst X1255.here hx rfl (hb hby at_183) (XS.iadd X1255.here hx rfl (hb hby at_184) rfl (XS.bipush X1255.here hx rfl (hb hby at_185) k))))) ?_
      show own_Goes p e below (T1255.setTop (mkF m 187 #[iv i0, iv i1, .val (.long i2), .second, .val (.long i3), .second, iv (1 : Int32), iv (4 : Int32), rv b874, .unset] [(.int (101 : Int32)), (.int (7 : Int32)), (.ref b874)])) _
      obtain ⟨cl1257, Ar1257, qq1257, S1257, M1257, H1257, G1257⟩ := id (V1256)
      have hin1257 : ¬ ((7 : Int32) < 0 ∨ cl1257.slots.size ≤ ((7 : Int32)).toNatClampNeg) := inb_of S1257 ⟨by decide, by decide⟩
      obtain ⟨T1257, h1257, X1257, e1257, W1257, st1257⟩ := stB X1255 hx hZ e1255 Ar1257 (j := (7 : Int32)) hin1257 (g := (mkF m 187 #[iv i0, iv i1, .val (.long i2), .second, .val (.long i3), .second, iv (1 : Int32), iv (4 : Int32), rv b874, .unset] [(.int (101 : Int32)), (.int (7 : Int32)), (.ref b874)])) rfl rfl (hb hby at_187)
      refine own_via (fun t k => st1257 t k) ?_
      have V1258 : Arv Z h1257 b874 k873 .byte (12 : Int32) [(.int (y878.toInt8.toInt32)), (.int (y882.toInt8.toInt32)), (.int (y886.toInt8.toInt32)), (.int (y890.toInt8.toInt32)), (.int (116 : Int32)), (.int (114 : Int32)), (.int (117 : Int32)), (.int (101 : Int32)), (.int (y910.toInt8.toInt32)), (.int (y914.toInt8.toInt32)), (.int (y918.toInt8.toInt32)), (.int (y922.toInt8.toInt32))] (.int (0 : Int32)) := Arv.set Ar1257 qq1257 S1257 M1257 H1257 G1257 (by decide) W1257 7 rfl (Nat.le_of_ble_eq_true rfl)
      have N1257 := Fr.snoc X1257 N1255 g875
      show own_Goes p e below (T1257.setTop (mkF m 188 #[iv i0, iv i1, .val (.long i2), .second, .val (.long i3), .second, iv (1 : Int32), iv (4 : Int32), rv b874, .unset] [])) _
      refine own_via (fun t k => XS.goto X1257.here hx rfl (pc0 := 188) (pc' := 234) rfl (hb hby at_188) (by decide) (by decide) k) ?_
      obtain ⟨T1259, h1259, X1259, e1259, E1259, A1259, D1259, -, st1259⟩ := newO X1257 hx hZ hown (wd hw 1 rfl) (wd hw 2 rfl) (wd hw 3 rfl) e1257 (g := (mkF m 234 #[iv i0, iv i1, .val (.long i2), .second, .val (.long i3), .second, iv (1 : Int32), iv (4 : Int32), rv b874, .unset] [])) rfl (hb hby at_234) (by decide) (by decide)
      obtain ⟨b1260, q1259⟩ : ∃ z, z = h1257.size := ⟨_, rfl⟩
      rw [← q1259] at A1259 D1259 st1259
      refine own_via (fun t k => st1259 t k) ?_
      have E1262 : Exa Z h1257 b874 "[B" := ((((((((((((((((a873x.wr W880).wr W884).wr W888).wr W892).wr W896).wr W900).wr W904).wr W908).wr W912).wr W916).wr W920).wr W924).wr W1251).wr W1253).wr W1255).wr W1257)
      have N1261 : b874 ≠ b1260 := Nat.ne_of_lt (Nat.lt_of_lt_of_le E1262.lt (Nat.le_of_eq q1259.symm))
      have O1264 : Old Z n0 h1257 := (((((((((((((((((O0.ext E873).wr W880 g875).wr W884 g875).wr W888 g875).wr W892 g875).wr W896 g875).wr W900 g875).wr W904 g875).wr W908 g875).wr W912 g875).wr W916 g875).wr W920 g875).wr W924 g875).wr W1251 g875).wr W1253 g875).wr W1255 g875).wr W1257 g875)
      have g1263 : n0 ≤ b1260 := Nat.le_trans (own_old O1264) (Nat.le_of_eq q1259.symm)
      have Z1266 : h0.size ≤ h1257.size := (Nat.le_trans (Nat.le_trans (Nat.le_trans (Nat.le_trans (Nat.le_trans (Nat.le_trans (Nat.le_trans (Nat.le_trans (Nat.le_trans (Nat.le_trans (Nat.le_trans (Nat.le_trans (Nat.le_trans (Nat.le_trans (Nat.le_trans (Nat.le_trans (Nat.le_trans (Nat.le_refl _) E873.1) (Nat.le_of_eq W880.size.symm)) (Nat.le_of_eq W884.size.symm)) (Nat.le_of_eq W888.size.symm)) (Nat.le_of_eq W892.size.symm)) (Nat.le_of_eq W896.size.symm)) (Nat.le_of_eq W900.size.symm)) (Nat.le_of_eq W904.size.symm)) (Nat.le_of_eq W908.size.symm)) (Nat.le_of_eq W912.size.symm)) (Nat.le_of_eq W916.size.symm)) (Nat.le_of_eq W920.size.symm)) (Nat.le_of_eq W924.size.symm)) (Nat.le_of_eq W1251.size.symm)) (Nat.le_of_eq W1253.size.symm)) (Nat.le_of_eq W1255.size.symm)) (Nat.le_of_eq W1257.size.symm))
      have B1265 : h0.size ≤ b1260 := Nat.le_trans Z1266 (Nat.le_of_eq q1259.symm)
      have F1267 : Fld Z h1259 b1260 zs1 "kept" zs3 .null := D1259 (Or.inr (wd hw 13 rfl)) (ty := (.array (.object zs2))) (by decide)
      have F1268 : Fld Z h1259 b1260 zs1 "chunks" "[[I" .null := D1259 (Or.inl (wd hw 17 rfl)) (ty := (.array (.array .int))) (by decide)
      have F1269 : Fld Z h1259 b1260 zs1 "text" "[B" .null := D1259 (Or.inr (wd hw 19 rfl)) (ty := (.array .byte)) (by decide)
      have F1270 : Fld Z h1259 b1260 zs1 "first" "[I" .null := D1259 (Or.inl (wd hw 26 rfl)) (ty := (.array .int)) (by decide)
      show own_Goes p e below (T1259.setTop (mkF m 237 #[iv i0, iv i1, .val (.long i2), .second, .val (.long i3), .second, iv (1 : Int32), iv (4 : Int32), rv b874, .unset] [(.ref b1260)])) _
      refine own_via (fun t k => XS.dup X1259.here hx rfl (hb hby at_237) rfl rfl (XS.aload X1259.here hx rfl (hb hby at_238) rfl rfl k)) ?_
      have V1272 : Arv Z h1259 b874 k873 .byte (12 : Int32) [(.int (y878.toInt8.toInt32)), (.int (y882.toInt8.toInt32)), (.int (y886.toInt8.toInt32)), (.int (y890.toInt8.toInt32)), (.int (116 : Int32)), (.int (114 : Int32)), (.int (117 : Int32)), (.int (101 : Int32)), (.int (y910.toInt8.toInt32)), (.int (y914.toInt8.toInt32)), (.int (y918.toInt8.toInt32)), (.int (y922.toInt8.toInt32))] (.int (0 : Int32)) := (V1258.ext E1259)
      have l1273 : own_Len Z h1259 b874 .byte (12 : Int32) := ⟨_, _, _, V1272⟩
      have O1274 : Old Z n0 h1259 := (O1264.ext E1259)
      obtain ⟨_, T1271, _, X1271, hQ1271, st1271⟩ := own_ci X1259 hx hZ hown (wd hw 4 rfl) (wd hw 5 rfl) (wd hw 6 rfl) (wd hw 3 rfl) rfl (by decide) (rm2 l Z a0 hw [] b1260 b874 h1259 n0 O1274 F1267 A1259 g1263 F1268 F1269 l1273 N1261 F1270) e1259 (g := (mkF m 240 #[iv i0, iv i1, .val (.long i2), .second, .val (.long i3), .second, iv (1 : Int32), iv (4 : Int32), rv b874, .unset] [(.ref b874), (.ref b1260), (.ref b1260)])) rfl (by rw [hml]; rfl) (rest := [(.ref b1260)]) (W := 1) (lenOf pd_2 rfl) rfl (by show 2 * 0 + _ ≤ _; exact Nat.le_of_eq rfl) (hb hby at_240) (by decide) (by decide) (by decide) (by decide)
      obtain ⟨h1271, e1271⟩ : ∃ z, T1271.heap = z := ⟨_, rfl⟩
      rw [e1271] at hQ1271
      obtain ⟨rfl, Nq1271, K1271, ex1275, fx1276⟩ := hQ1271
      have N1271 := Fr.app N1257 Nq1271
      refine own_via (fun t k => st1271 t (XS.astore X1271.here hx rfl (hb hby at_243) rfl rfl (l' := #[iv i0, iv i1, .val (.long i2), .second, .val (.long i3), .second, iv (1 : Int32), iv (4 : Int32), rv b874, rv b1260]) rfl (XS.aload X1271.here hx rfl (hb hby at_245) rfl rfl (XS.iload X1271.here hx rfl (hb hby at_247) rfl k)))) ?_
      show own_Goes p e below (T1271.setTop (mkF m 249 #[iv i0, iv i1, .val (.long i2), .second, .val (.long i3), .second, iv (1 : Int32), iv (4 : Int32), rv b874, rv b1260] [(.int (4 : Int32)), (.ref b1260)])) _
      have V1328 : Arv Z h1271 b874 k873 .byte (12 : Int32) [(.int (y878.toInt8.toInt32)), (.int (y882.toInt8.toInt32)), (.int (y886.toInt8.toInt32)), (.int (y890.toInt8.toInt32)), (.int (116 : Int32)), (.int (114 : Int32)), (.int (117 : Int32)), (.int (101 : Int32)), (.int (y910.toInt8.toInt32)), (.int (y914.toInt8.toInt32)), (.int (y918.toInt8.toInt32)), (.int (y922.toInt8.toInt32))] (.int (0 : Int32)) := (V1272.keep K1271 (ninS N1261 nin0))
      have O1329 : Old Z n0 h1271 := (O1274.keep K1271 (allS g1263 all0))
      obtain ⟨_, T1277, _, X1277, hQ1277, st1277⟩ := own_cv X1271 hx hZ hown (wd hw 28 rfl) (wd hw 29 rfl) (wd hw 31 rfl) (wd hw 30 rfl) (wd hw 32 rfl) (wd hw 3 rfl) (by decide) (rm15 l Z a0 hw [] b1260 b874 k873 (y878.toInt8.toInt32) (y882.toInt8.toInt32) (y886.toInt8.toInt32) (y890.toInt8.toInt32) (114 : Int32) (117 : Int32) (101 : Int32) (y910.toInt8.toInt32) (y914.toInt8.toInt32) (y918.toInt8.toInt32) (y922.toInt8.toInt32) h1271 n0 O1329 fx1276 V1328) e1271 ex1275 (g := (mkF m 249 #[iv i0, iv i1, .val (.long i2), .second, .val (.long i3), .second, iv (1 : Int32), iv (4 : Int32), rv b874, rv b1260] [(.int (4 : Int32)), (.ref b1260)])) rfl (by rw [hml]; rfl) (rest := []) (W := 0) (lenOf pd_3 rfl) rfl (by show 2 * 0 + _ ≤ _; exact Nat.le_of_eq rfl) (hb hby at_249) (by decide) (by decide) (by decide) (by decide)
      obtain ⟨rfl, Nq1277, hh1330⟩ := hQ1277
      have N1277 := Fr.app N1271 Nq1277
      refine own_via (fun t k => st1277 t (XS.iload X1277.here hx rfl (hb hby at_252) rfl (XS.icmpNo X1277.here hx rfl (hb hby at_254) rfl (teq (by decide : (1 : Int32) = (1 : Int32))).2 (XS.iconst X1277.here hx rfl (hb hby at_257) (XS.goto X1277.here hx rfl (pc0 := 258) (pc' := 262) rfl (hb hby at_258) (by decide) (by decide) k))))) ?_
      show own_Goes p e below (T1277.setTop (mkF m 262 #[iv i0, iv i1, .val (.long i2), .second, .val (.long i3), .second, iv (1 : Int32), iv (4 : Int32), rv b874, rv b1260] [(.int (1 : Int32))])) _
      obtain ⟨fs, hr, hrun, hended, hW, hsame⟩ := X1277.leave (v := some (.int (1 : Int32))) (fun h => by rw [Bd.returns] at h; cases h)
      refine own_end (t := T1277.setFrames fs) ?_ ⟨_, hrun, hended, _, _, rfl, ?_, ⟨_, rfl⟩, hW, hsame.mono (by decide) (by decide)⟩
      · exact retN X1277 hx (t := .boolean) Bd.returns (by simp) (hb hby at_262) hr
      · exact ⟨rfl, N1277⟩
    · have qs1331 := qs
      rw [qs]
      show own_Goes p e below (T924.setTop (mkF m 149 #[iv i0, iv i1, .val (.long i2), .second, .val (.long i3), .second, iv (1 : Int32), iv (5 : Int32), rv b874, .unset] [])) _
      refine own_via (fun t k => XS.iload X924.here hx rfl (hb hby at_149) rfl (XS.ifNo X924.here hx rfl (hb hby at_151) rfl ((if0 _ _).trans (feq (by decide : ¬ ((1 : Int32) = (0 : Int32)))).1) (XS.aload X924.here hx rfl (hb hby at_154) rfl rfl (XS.iload X924.here hx rfl (hb hby at_156) rfl (XS.bipush X924.here hx rfl (hb hby at_158) k))))) ?_
      show own_Goes p e below (T924.setTop (mkF m 160 #[iv i0, iv i1, .val (.long i2), .second, .val (.long i3), .second, iv (1 : Int32), iv (5 : Int32), rv b874, .unset] [(.int (116 : Int32)), (.int (5 : Int32)), (.ref b874)])) _
      obtain ⟨cl1332, Ar1332, qq1332, S1332, M1332, H1332, G1332⟩ := id (V925)
      have hin1332 : ¬ ((5 : Int32) < 0 ∨ cl1332.slots.size ≤ ((5 : Int32)).toNatClampNeg) := inb_of S1332 ⟨by decide, by decide⟩
      obtain ⟨T1332, h1332, X1332, e1332, W1332, st1332⟩ := stB X924 hx hZ e924 Ar1332 (j := (5 : Int32)) hin1332 (g := (mkF m 160 #[iv i0, iv i1, .val (.long i2), .second, .val (.long i3), .second, iv (1 : Int32), iv (5 : Int32), rv b874, .unset] [(.int (116 : Int32)), (.int (5 : Int32)), (.ref b874)])) rfl rfl (hb hby at_160)
      refine own_via (fun t k => st1332 t k) ?_
      have V1333 : Arv Z h1332 b874 k873 .byte (12 : Int32) [(.int (y878.toInt8.toInt32)), (.int (y882.toInt8.toInt32)), (.int (y886.toInt8.toInt32)), (.int (y890.toInt8.toInt32)), (.int (y894.toInt8.toInt32)), (.int (116 : Int32)), (.int (y902.toInt8.toInt32)), (.int (y906.toInt8.toInt32)), (.int (y910.toInt8.toInt32)), (.int (y914.toInt8.toInt32)), (.int (y918.toInt8.toInt32)), (.int (y922.toInt8.toInt32))] (.int (0 : Int32)) := Arv.set Ar1332 qq1332 S1332 M1332 H1332 G1332 (by decide) W1332 5 rfl (Nat.le_of_ble_eq_true rfl)
      have N1332 := Fr.snoc X1332 N924 g875
      show own_Goes p e below (T1332.setTop (mkF m 161 #[iv i0, iv i1, .val (.long i2), .second, .val (.long i3), .second, iv (1 : Int32), iv (5 : Int32), rv b874, .unset] [])) _
      refine own_via (fun t k => XS.aload X1332.here hx rfl (hb hby at_161) rfl rfl (XS.iload X1332.here hx rfl (hb hby at_163) rfl (XS.iconst X1332.here hx rfl (hb hby at_165) (XS.iadd X1332.here hx rfl (hb hby at_166) rfl (XS.bipush X1332.here hx rfl (hb hby at_167) k))))) ?_
      show own_Goes p e below (T1332.setTop (mkF m 169 #[iv i0, iv i1, .val (.long i2), .second, .val (.long i3), .second, iv (1 : Int32), iv (5 : Int32), rv b874, .unset] [(.int (114 : Int32)), (.int (6 : Int32)), (.ref b874)])) _
      obtain ⟨cl1334, Ar1334, qq1334, S1334, M1334, H1334, G1334⟩ := id (V1333)
      have hin1334 : ¬ ((6 : Int32) < 0 ∨ cl1334.slots.size ≤ ((6 : Int32)).toNatClampNeg) := inb_of S1334 ⟨by decide, by decide⟩
      obtain ⟨T1334, h1334, X1334, e1334, W1334, st1334⟩ := stB X1332 hx hZ e1332 Ar1334 (j := (6 : Int32)) hin1334 (g := (mkF m 169 #[iv i0, iv i1, .val (.long i2), .second, .val (.long i3), .second, iv (1 : Int32), iv (5 : Int32), rv b874, .unset] [(.int (114 : Int32)), (.int (6 : Int32)), (.ref b874)])) rfl rfl (hb hby at_169)
      refine own_via (fun t k => st1334 t k) ?_
      have V1335 : Arv Z h1334 b874 k873 .byte (12 : Int32) [(.int (y878.toInt8.toInt32)), (.int (y882.toInt8.toInt32)), (.int (y886.toInt8.toInt32)), (.int (y890.toInt8.toInt32)), (.int (y894.toInt8.toInt32)), (.int (116 : Int32)), (.int (114 : Int32)), (.int (y906.toInt8.toInt32)), (.int (y910.toInt8.toInt32)), (.int (y914.toInt8.toInt32)), (.int (y918.toInt8.toInt32)), (.int (y922.toInt8.toInt32))] (.int (0 : Int32)) := Arv.set Ar1334 qq1334 S1334 M1334 H1334 G1334 (by decide) W1334 6 rfl (Nat.le_of_ble_eq_true rfl)
      have N1334 := Fr.snoc X1334 N1332 g875
      show own_Goes p e below (T1334.setTop (mkF m 170 #[iv i0, iv i1, .val (.long i2), .second, .val (.long i3), .second, iv (1 : Int32), iv (5 : Int32), rv b874, .unset] [])) _
      refine own_via (fun t k => XS.aload X1334.here hx rfl (hb hby at_170) rfl rfl (XS.iload X1334.here hx rfl (hb hby at_172) rfl (XS.iconst X1334.here hx rfl (hb hby at_174) (XS.iadd X1334.here hx rfl (hb hby at_175) rfl (XS.bipush X1334.here hx rfl (hb hby at_176) k))))) ?_
      show own_Goes p e below (T1334.setTop (mkF m 178 #[iv i0, iv i1, .val (.long i2), .second, .val (.long i3), .second, iv (1 : Int32), iv (5 : Int32), rv b874, .unset] [(.int (117 : Int32)), (.int (7 : Int32)), (.ref b874)])) _
      obtain ⟨cl1336, Ar1336, qq1336, S1336, M1336, H1336, G1336⟩ := id (V1335)
      have hin1336 : ¬ ((7 : Int32) < 0 ∨ cl1336.slots.size ≤ ((7 : Int32)).toNatClampNeg) := inb_of S1336 ⟨by decide, by decide⟩
      obtain ⟨T1336, h1336, X1336, e1336, W1336, st1336⟩ := stB X1334 hx hZ e1334 Ar1336 (j := (7 : Int32)) hin1336 (g := (mkF m 178 #[iv i0, iv i1, .val (.long i2), .second, .val (.long i3), .second, iv (1 : Int32), iv (5 : Int32), rv b874, .unset] [(.int (117 : Int32)), (.int (7 : Int32)), (.ref b874)])) rfl rfl (hb hby at_178)
      refine own_via (fun t k => st1336 t k) ?_
      have V1337 : Arv Z h1336 b874 k873 .byte (12 : Int32) [(.int (y878.toInt8.toInt32)), (.int (y882.toInt8.toInt32)), (.int (y886.toInt8.toInt32)), (.int (y890.toInt8.toInt32)), (.int (y894.toInt8.toInt32)), (.int (116 : Int32)), (.int (114 : Int32)), (.int (117 : Int32)), (.int (y910.toInt8.toInt32)), (.int (y914.toInt8.toInt32)), (.int (y918.toInt8.toInt32)), (.int (y922.toInt8.toInt32))] (.int (0 : Int32)) := Arv.set Ar1336 qq1336 S1336 M1336 H1336 G1336 (by decide) W1336 7 rfl (Nat.le_of_ble_eq_true rfl)
      have N1336 := Fr.snoc X1336 N1334 g875
      show own_Goes p e below (T1336.setTop (mkF m 179 #[iv i0, iv i1, .val (.long i2), .second, .val (.long i3), .second, iv (1 : Int32), iv (5 : Int32), rv b874, .unset] [])) _
      refine own_via (fun t k => XS.aload X1336.here hx rfl (hb hby at_179) rfl rfl (XS.iload X1336.here hx rfl (hb hby at_181) rfl (XS.iconst X1336.here hx rfl (hb hby at_183) (XS.iadd X1336.here hx rfl (hb hby at_184) rfl (XS.bipush X1336.here hx rfl (hb hby at_185) k))))) ?_
      show own_Goes p e below (T1336.setTop (mkF m 187 #[iv i0, iv i1, .val (.long i2), .second, .val (.long i3), .second, iv (1 : Int32), iv (5 : Int32), rv b874, .unset] [(.int (101 : Int32)), (.int (8 : Int32)), (.ref b874)])) _
      obtain ⟨cl1338, Ar1338, qq1338, S1338, M1338, H1338, G1338⟩ := id (V1337)
      have hin1338 : ¬ ((8 : Int32) < 0 ∨ cl1338.slots.size ≤ ((8 : Int32)).toNatClampNeg) := inb_of S1338 ⟨by decide, by decide⟩
      obtain ⟨T1338, h1338, X1338, e1338, W1338, st1338⟩ := stB X1336 hx hZ e1336 Ar1338 (j := (8 : Int32)) hin1338 (g := (mkF m 187 #[iv i0, iv i1, .val (.long i2), .second, .val (.long i3), .second, iv (1 : Int32), iv (5 : Int32), rv b874, .unset] [(.int (101 : Int32)), (.int (8 : Int32)), (.ref b874)])) rfl rfl (hb hby at_187)
      refine own_via (fun t k => st1338 t k) ?_
      have V1339 : Arv Z h1338 b874 k873 .byte (12 : Int32) [(.int (y878.toInt8.toInt32)), (.int (y882.toInt8.toInt32)), (.int (y886.toInt8.toInt32)), (.int (y890.toInt8.toInt32)), (.int (y894.toInt8.toInt32)), (.int (116 : Int32)), (.int (114 : Int32)), (.int (117 : Int32)), (.int (101 : Int32)), (.int (y914.toInt8.toInt32)), (.int (y918.toInt8.toInt32)), (.int (y922.toInt8.toInt32))] (.int (0 : Int32)) := Arv.set Ar1338 qq1338 S1338 M1338 H1338 G1338 (by decide) W1338 8 rfl (Nat.le_of_ble_eq_true rfl)
      have N1338 := Fr.snoc X1338 N1336 g875
      show own_Goes p e below (T1338.setTop (mkF m 188 #[iv i0, iv i1, .val (.long i2), .second, .val (.long i3), .second, iv (1 : Int32), iv (5 : Int32), rv b874, .unset] [])) _
      refine own_via (fun t k => XS.goto X1338.here hx rfl (pc0 := 188) (pc' := 234) rfl (hb hby at_188) (by decide) (by decide) k) ?_
      obtain ⟨T1340, h1340, X1340, e1340, E1340, A1340, D1340, -, st1340⟩ := newO X1338 hx hZ hown (wd hw 1 rfl) (wd hw 2 rfl) (wd hw 3 rfl) e1338 (g := (mkF m 234 #[iv i0, iv i1, .val (.long i2), .second, .val (.long i3), .second, iv (1 : Int32), iv (5 : Int32), rv b874, .unset] [])) rfl (hb hby at_234) (by decide) (by decide)
      obtain ⟨b1341, q1340⟩ : ∃ z, z = h1338.size := ⟨_, rfl⟩
      rw [← q1340] at A1340 D1340 st1340
      refine own_via (fun t k => st1340 t k) ?_
      have E1343 : Exa Z h1338 b874 "[B" := ((((((((((((((((a873x.wr W880).wr W884).wr W888).wr W892).wr W896).wr W900).wr W904).wr W908).wr W912).wr W916).wr W920).wr W924).wr W1332).wr W1334).wr W1336).wr W1338)
      have N1342 : b874 ≠ b1341 := Nat.ne_of_lt (Nat.lt_of_lt_of_le E1343.lt (Nat.le_of_eq q1340.symm))
      have O1345 : Old Z n0 h1338 := (((((((((((((((((O0.ext E873).wr W880 g875).wr W884 g875).wr W888 g875).wr W892 g875).wr W896 g875).wr W900 g875).wr W904 g875).wr W908 g875).wr W912 g875).wr W916 g875).wr W920 g875).wr W924 g875).wr W1332 g875).wr W1334 g875).wr W1336 g875).wr W1338 g875)
      have g1344 : n0 ≤ b1341 := Nat.le_trans (own_old O1345) (Nat.le_of_eq q1340.symm)
      have Z1347 : h0.size ≤ h1338.size := (Nat.le_trans (Nat.le_trans (Nat.le_trans (Nat.le_trans (Nat.le_trans (Nat.le_trans (Nat.le_trans (Nat.le_trans (Nat.le_trans (Nat.le_trans (Nat.le_trans (Nat.le_trans (Nat.le_trans (Nat.le_trans (Nat.le_trans (Nat.le_trans (Nat.le_trans (Nat.le_refl _) E873.1) (Nat.le_of_eq W880.size.symm)) (Nat.le_of_eq W884.size.symm)) (Nat.le_of_eq W888.size.symm)) (Nat.le_of_eq W892.size.symm)) (Nat.le_of_eq W896.size.symm)) (Nat.le_of_eq W900.size.symm)) (Nat.le_of_eq W904.size.symm)) (Nat.le_of_eq W908.size.symm)) (Nat.le_of_eq W912.size.symm)) (Nat.le_of_eq W916.size.symm)) (Nat.le_of_eq W920.size.symm)) (Nat.le_of_eq W924.size.symm)) (Nat.le_of_eq W1332.size.symm)) (Nat.le_of_eq W1334.size.symm)) (Nat.le_of_eq W1336.size.symm)) (Nat.le_of_eq W1338.size.symm))
      have B1346 : h0.size ≤ b1341 := Nat.le_trans Z1347 (Nat.le_of_eq q1340.symm)
      have F1348 : Fld Z h1340 b1341 zs1 "kept" zs3 .null := D1340 (Or.inr (wd hw 13 rfl)) (ty := (.array (.object zs2))) (by decide)
      have F1349 : Fld Z h1340 b1341 zs1 "chunks" "[[I" .null := D1340 (Or.inl (wd hw 17 rfl)) (ty := (.array (.array .int))) (by decide)
      have F1350 : Fld Z h1340 b1341 zs1 "text" "[B" .null := D1340 (Or.inr (wd hw 19 rfl)) (ty := (.array .byte)) (by decide)
      have F1351 : Fld Z h1340 b1341 zs1 "first" "[I" .null := D1340 (Or.inl (wd hw 26 rfl)) (ty := (.array .int)) (by decide)
      show own_Goes p e below (T1340.setTop (mkF m 237 #[iv i0, iv i1, .val (.long i2), .second, .val (.long i3), .second, iv (1 : Int32), iv (5 : Int32), rv b874, .unset] [(.ref b1341)])) _
      refine own_via (fun t k => XS.dup X1340.here hx rfl (hb hby at_237) rfl rfl (XS.aload X1340.here hx rfl (hb hby at_238) rfl rfl k)) ?_
      have V1353 : Arv Z h1340 b874 k873 .byte (12 : Int32) [(.int (y878.toInt8.toInt32)), (.int (y882.toInt8.toInt32)), (.int (y886.toInt8.toInt32)), (.int (y890.toInt8.toInt32)), (.int (y894.toInt8.toInt32)), (.int (116 : Int32)), (.int (114 : Int32)), (.int (117 : Int32)), (.int (101 : Int32)), (.int (y914.toInt8.toInt32)), (.int (y918.toInt8.toInt32)), (.int (y922.toInt8.toInt32))] (.int (0 : Int32)) := (V1339.ext E1340)
      have l1354 : own_Len Z h1340 b874 .byte (12 : Int32) := ⟨_, _, _, V1353⟩
      have O1355 : Old Z n0 h1340 := (O1345.ext E1340)
      obtain ⟨_, T1352, _, X1352, hQ1352, st1352⟩ := own_ci X1340 hx hZ hown (wd hw 4 rfl) (wd hw 5 rfl) (wd hw 6 rfl) (wd hw 3 rfl) rfl (by decide) (rm2 l Z a0 hw [] b1341 b874 h1340 n0 O1355 F1348 A1340 g1344 F1349 F1350 l1354 N1342 F1351) e1340 (g := (mkF m 240 #[iv i0, iv i1, .val (.long i2), .second, .val (.long i3), .second, iv (1 : Int32), iv (5 : Int32), rv b874, .unset] [(.ref b874), (.ref b1341), (.ref b1341)])) rfl (by rw [hml]; rfl) (rest := [(.ref b1341)]) (W := 1) (lenOf pd_2 rfl) rfl (by show 2 * 0 + _ ≤ _; exact Nat.le_of_eq rfl) (hb hby at_240) (by decide) (by decide) (by decide) (by decide)
      obtain ⟨h1352, e1352⟩ : ∃ z, T1352.heap = z := ⟨_, rfl⟩
      rw [e1352] at hQ1352
      obtain ⟨rfl, Nq1352, K1352, ex1356, fx1357⟩ := hQ1352
      have N1352 := Fr.app N1338 Nq1352
      refine own_via (fun t k => st1352 t (XS.astore X1352.here hx rfl (hb hby at_243) rfl rfl (l' := #[iv i0, iv i1, .val (.long i2), .second, .val (.long i3), .second, iv (1 : Int32), iv (5 : Int32), rv b874, rv b1341]) rfl (XS.aload X1352.here hx rfl (hb hby at_245) rfl rfl (XS.iload X1352.here hx rfl (hb hby at_247) rfl k)))) ?_
      show own_Goes p e below (T1352.setTop (mkF m 249 #[iv i0, iv i1, .val (.long i2), .second, .val (.long i3), .second, iv (1 : Int32), iv (5 : Int32), rv b874, rv b1341] [(.int (5 : Int32)), (.ref b1341)])) _
      have V1409 : Arv Z h1352 b874 k873 .byte (12 : Int32) [(.int (y878.toInt8.toInt32)), (.int (y882.toInt8.toInt32)), (.int (y886.toInt8.toInt32)), (.int (y890.toInt8.toInt32)), (.int (y894.toInt8.toInt32)), (.int (116 : Int32)), (.int (114 : Int32)), (.int (117 : Int32)), (.int (101 : Int32)), (.int (y914.toInt8.toInt32)), (.int (y918.toInt8.toInt32)), (.int (y922.toInt8.toInt32))] (.int (0 : Int32)) := (V1353.keep K1352 (ninS N1342 nin0))
      have O1410 : Old Z n0 h1352 := (O1355.keep K1352 (allS g1344 all0))
      obtain ⟨_, T1358, _, X1358, hQ1358, st1358⟩ := own_cv X1352 hx hZ hown (wd hw 28 rfl) (wd hw 29 rfl) (wd hw 31 rfl) (wd hw 30 rfl) (wd hw 32 rfl) (wd hw 3 rfl) (by decide) (rm16 l Z a0 hw [] b1341 b874 k873 (y878.toInt8.toInt32) (y882.toInt8.toInt32) (y886.toInt8.toInt32) (y890.toInt8.toInt32) (y894.toInt8.toInt32) (114 : Int32) (117 : Int32) (101 : Int32) (y914.toInt8.toInt32) (y918.toInt8.toInt32) (y922.toInt8.toInt32) h1352 n0 O1410 fx1357 V1409) e1352 ex1356 (g := (mkF m 249 #[iv i0, iv i1, .val (.long i2), .second, .val (.long i3), .second, iv (1 : Int32), iv (5 : Int32), rv b874, rv b1341] [(.int (5 : Int32)), (.ref b1341)])) rfl (by rw [hml]; rfl) (rest := []) (W := 0) (lenOf pd_3 rfl) rfl (by show 2 * 0 + _ ≤ _; exact Nat.le_of_eq rfl) (hb hby at_249) (by decide) (by decide) (by decide) (by decide)
      obtain ⟨rfl, Nq1358, hh1411⟩ := hQ1358
      have N1358 := Fr.app N1352 Nq1358
      refine own_via (fun t k => st1358 t (XS.iload X1358.here hx rfl (hb hby at_252) rfl (XS.icmpNo X1358.here hx rfl (hb hby at_254) rfl (teq (by decide : (1 : Int32) = (1 : Int32))).2 (XS.iconst X1358.here hx rfl (hb hby at_257) (XS.goto X1358.here hx rfl (pc0 := 258) (pc' := 262) rfl (hb hby at_258) (by decide) (by decide) k))))) ?_
      show own_Goes p e below (T1358.setTop (mkF m 262 #[iv i0, iv i1, .val (.long i2), .second, .val (.long i3), .second, iv (1 : Int32), iv (5 : Int32), rv b874, rv b1341] [(.int (1 : Int32))])) _
      obtain ⟨fs, hr, hrun, hended, hW, hsame⟩ := X1358.leave (v := some (.int (1 : Int32))) (fun h => by rw [Bd.returns] at h; cases h)
      refine own_end (t := T1358.setFrames fs) ?_ ⟨_, hrun, hended, _, _, rfl, ?_, ⟨_, rfl⟩, hW, hsame.mono (by decide) (by decide)⟩
      · exact retN X1358 hx (t := .boolean) Bd.returns (by simp) (hb hby at_262) hr
      · exact ⟨rfl, N1358⟩
    · have qs1412 := qs
      rw [qs]
      show own_Goes p e below (T924.setTop (mkF m 149 #[iv i0, iv i1, .val (.long i2), .second, .val (.long i3), .second, iv (1 : Int32), iv (6 : Int32), rv b874, .unset] [])) _
      refine own_via (fun t k => XS.iload X924.here hx rfl (hb hby at_149) rfl (XS.ifNo X924.here hx rfl (hb hby at_151) rfl ((if0 _ _).trans (feq (by decide : ¬ ((1 : Int32) = (0 : Int32)))).1) (XS.aload X924.here hx rfl (hb hby at_154) rfl rfl (XS.iload X924.here hx rfl (hb hby at_156) rfl (XS.bipush X924.here hx rfl (hb hby at_158) k))))) ?_
      show own_Goes p e below (T924.setTop (mkF m 160 #[iv i0, iv i1, .val (.long i2), .second, .val (.long i3), .second, iv (1 : Int32), iv (6 : Int32), rv b874, .unset] [(.int (116 : Int32)), (.int (6 : Int32)), (.ref b874)])) _
      obtain ⟨cl1413, Ar1413, qq1413, S1413, M1413, H1413, G1413⟩ := id (V925)
      have hin1413 : ¬ ((6 : Int32) < 0 ∨ cl1413.slots.size ≤ ((6 : Int32)).toNatClampNeg) := inb_of S1413 ⟨by decide, by decide⟩
      obtain ⟨T1413, h1413, X1413, e1413, W1413, st1413⟩ := stB X924 hx hZ e924 Ar1413 (j := (6 : Int32)) hin1413 (g := (mkF m 160 #[iv i0, iv i1, .val (.long i2), .second, .val (.long i3), .second, iv (1 : Int32), iv (6 : Int32), rv b874, .unset] [(.int (116 : Int32)), (.int (6 : Int32)), (.ref b874)])) rfl rfl (hb hby at_160)
      refine own_via (fun t k => st1413 t k) ?_
      have V1414 : Arv Z h1413 b874 k873 .byte (12 : Int32) [(.int (y878.toInt8.toInt32)), (.int (y882.toInt8.toInt32)), (.int (y886.toInt8.toInt32)), (.int (y890.toInt8.toInt32)), (.int (y894.toInt8.toInt32)), (.int (y898.toInt8.toInt32)), (.int (116 : Int32)), (.int (y906.toInt8.toInt32)), (.int (y910.toInt8.toInt32)), (.int (y914.toInt8.toInt32)), (.int (y918.toInt8.toInt32)), (.int (y922.toInt8.toInt32))] (.int (0 : Int32)) := Arv.set Ar1413 qq1413 S1413 M1413 H1413 G1413 (by decide) W1413 6 rfl (Nat.le_of_ble_eq_true rfl)
      have N1413 := Fr.snoc X1413 N924 g875
      show own_Goes p e below (T1413.setTop (mkF m 161 #[iv i0, iv i1, .val (.long i2), .second, .val (.long i3), .second, iv (1 : Int32), iv (6 : Int32), rv b874, .unset] [])) _
      refine own_via (fun t k => XS.aload X1413.here hx rfl (hb hby at_161) rfl rfl (XS.iload X1413.here hx rfl (hb hby at_163) rfl (XS.iconst X1413.here hx rfl (hb hby at_165) (XS.iadd X1413.here hx rfl (hb hby at_166) rfl (XS.bipush X1413.here hx rfl (hb hby at_167) k))))) ?_
      show own_Goes p e below (T1413.setTop (mkF m 169 #[iv i0, iv i1, .val (.long i2), .second, .val (.long i3), .second, iv (1 : Int32), iv (6 : Int32), rv b874, .unset] [(.int (114 : Int32)), (.int (7 : Int32)), (.ref b874)])) _
      obtain ⟨cl1415, Ar1415, qq1415, S1415, M1415, H1415, G1415⟩ := id (V1414)
      have hin1415 : ¬ ((7 : Int32) < 0 ∨ cl1415.slots.size ≤ ((7 : Int32)).toNatClampNeg) := inb_of S1415 ⟨by decide, by decide⟩
      obtain ⟨T1415, h1415, X1415, e1415, W1415, st1415⟩ := stB X1413 hx hZ e1413 Ar1415 (j := (7 : Int32)) hin1415 (g := (mkF m 169 #[iv i0, iv i1, .val (.long i2), .second, .val (.long i3), .second, iv (1 : Int32), iv (6 : Int32), rv b874, .unset] [(.int (114 : Int32)), (.int (7 : Int32)), (.ref b874)])) rfl rfl (hb hby at_169)
      refine own_via (fun t k => st1415 t k) ?_
      have V1416 : Arv Z h1415 b874 k873 .byte (12 : Int32) [(.int (y878.toInt8.toInt32)), (.int (y882.toInt8.toInt32)), (.int (y886.toInt8.toInt32)), (.int (y890.toInt8.toInt32)), (.int (y894.toInt8.toInt32)), (.int (y898.toInt8.toInt32)), (.int (116 : Int32)), (.int (114 : Int32)), (.int (y910.toInt8.toInt32)), (.int (y914.toInt8.toInt32)), (.int (y918.toInt8.toInt32)), (.int (y922.toInt8.toInt32))] (.int (0 : Int32)) := Arv.set Ar1415 qq1415 S1415 M1415 H1415 G1415 (by decide) W1415 7 rfl (Nat.le_of_ble_eq_true rfl)
      have N1415 := Fr.snoc X1415 N1413 g875
      show own_Goes p e below (T1415.setTop (mkF m 170 #[iv i0, iv i1, .val (.long i2), .second, .val (.long i3), .second, iv (1 : Int32), iv (6 : Int32), rv b874, .unset] [])) _
      refine own_via (fun t k => XS.aload X1415.here hx rfl (hb hby at_170) rfl rfl (XS.iload X1415.here hx rfl (hb hby at_172) rfl (XS.iconst X1415.here hx rfl (hb hby at_174) (XS.iadd X1415.here hx rfl (hb hby at_175) rfl (XS.bipush X1415.here hx rfl (hb hby at_176) k))))) ?_
      show own_Goes p e below (T1415.setTop (mkF m 178 #[iv i0, iv i1, .val (.long i2), .second, .val (.long i3), .second, iv (1 : Int32), iv (6 : Int32), rv b874, .unset] [(.int (117 : Int32)), (.int (8 : Int32)), (.ref b874)])) _
      obtain ⟨cl1417, Ar1417, qq1417, S1417, M1417, H1417, G1417⟩ := id (V1416)
      have hin1417 : ¬ ((8 : Int32) < 0 ∨ cl1417.slots.size ≤ ((8 : Int32)).toNatClampNeg) := inb_of S1417 ⟨by decide, by decide⟩
      obtain ⟨T1417, h1417, X1417, e1417, W1417, st1417⟩ := stB X1415 hx hZ e1415 Ar1417 (j := (8 : Int32)) hin1417 (g := (mkF m 178 #[iv i0, iv i1, .val (.long i2), .second, .val (.long i3), .second, iv (1 : Int32), iv (6 : Int32), rv b874, .unset] [(.int (117 : Int32)), (.int (8 : Int32)), (.ref b874)])) rfl rfl (hb hby at_178)
      refine own_via (fun t k => st1417 t k) ?_
      have V1418 : Arv Z h1417 b874 k873 .byte (12 : Int32) [(.int (y878.toInt8.toInt32)), (.int (y882.toInt8.toInt32)), (.int (y886.toInt8.toInt32)), (.int (y890.toInt8.toInt32)), (.int (y894.toInt8.toInt32)), (.int (y898.toInt8.toInt32)), (.int (116 : Int32)), (.int (114 : Int32)), (.int (117 : Int32)), (.int (y914.toInt8.toInt32)), (.int (y918.toInt8.toInt32)), (.int (y922.toInt8.toInt32))] (.int (0 : Int32)) := Arv.set Ar1417 qq1417 S1417 M1417 H1417 G1417 (by decide) W1417 8 rfl (Nat.le_of_ble_eq_true rfl)
      have N1417 := Fr.snoc X1417 N1415 g875
      show own_Goes p e below (T1417.setTop (mkF m 179 #[iv i0, iv i1, .val (.long i2), .second, .val (.long i3), .second, iv (1 : Int32), iv (6 : Int32), rv b874, .unset] [])) _
      refine own_via (fun t k => XS.aload X1417.here hx rfl (hb hby at_179) rfl rfl (XS.iload X1417.here hx rfl (hb hby at_181) rfl (XS.iconst X1417.here hx rfl (hb hby at_183) (XS.iadd X1417.here hx rfl (hb hby at_184) rfl (XS.bipush X1417.here hx rfl (hb hby at_185) k))))) ?_
      show own_Goes p e below (T1417.setTop (mkF m 187 #[iv i0, iv i1, .val (.long i2), .second, .val (.long i3), .second, iv (1 : Int32), iv (6 : Int32), rv b874, .unset] [(.int (101 : Int32)), (.int (9 : Int32)), (.ref b874)])) _
      obtain ⟨cl1419, Ar1419, qq1419, S1419, M1419, H1419, G1419⟩ := id (V1418)
      have hin1419 : ¬ ((9 : Int32) < 0 ∨ cl1419.slots.size ≤ ((9 : Int32)).toNatClampNeg) := inb_of S1419 ⟨by decide, by decide⟩
      obtain ⟨T1419, h1419, X1419, e1419, W1419, st1419⟩ := stB X1417 hx hZ e1417 Ar1419 (j := (9 : Int32)) hin1419 (g := (mkF m 187 #[iv i0, iv i1, .val (.long i2), .second, .val (.long i3), .second, iv (1 : Int32), iv (6 : Int32), rv b874, .unset] [(.int (101 : Int32)), (.int (9 : Int32)), (.ref b874)])) rfl rfl (hb hby at_187)
      refine own_via (fun t k => st1419 t k) ?_
      have V1420 : Arv Z h1419 b874 k873 .byte (12 : Int32) [(.int (y878.toInt8.toInt32)), (.int (y882.toInt8.toInt32)), (.int (y886.toInt8.toInt32)), (.int (y890.toInt8.toInt32)), (.int (y894.toInt8.toInt32)), (.int (y898.toInt8.toInt32)), (.int (116 : Int32)), (.int (114 : Int32)), (.int (117 : Int32)), (.int (101 : Int32)), (.int (y918.toInt8.toInt32)), (.int (y922.toInt8.toInt32))] (.int (0 : Int32)) := Arv.set Ar1419 qq1419 S1419 M1419 H1419 G1419 (by decide) W1419 9 rfl (Nat.le_of_ble_eq_true rfl)
      have N1419 := Fr.snoc X1419 N1417 g875
      show own_Goes p e below (T1419.setTop (mkF m 188 #[iv i0, iv i1, .val (.long i2), .second, .val (.long i3), .second, iv (1 : Int32), iv (6 : Int32), rv b874, .unset] [])) _
      refine own_via (fun t k => XS.goto X1419.here hx rfl (pc0 := 188) (pc' := 234) rfl (hb hby at_188) (by decide) (by decide) k) ?_
      obtain ⟨T1421, h1421, X1421, e1421, E1421, A1421, D1421, -, st1421⟩ := newO X1419 hx hZ hown (wd hw 1 rfl) (wd hw 2 rfl) (wd hw 3 rfl) e1419 (g := (mkF m 234 #[iv i0, iv i1, .val (.long i2), .second, .val (.long i3), .second, iv (1 : Int32), iv (6 : Int32), rv b874, .unset] [])) rfl (hb hby at_234) (by decide) (by decide)
      obtain ⟨b1422, q1421⟩ : ∃ z, z = h1419.size := ⟨_, rfl⟩
      rw [← q1421] at A1421 D1421 st1421
      refine own_via (fun t k => st1421 t k) ?_
      have E1424 : Exa Z h1419 b874 "[B" := ((((((((((((((((a873x.wr W880).wr W884).wr W888).wr W892).wr W896).wr W900).wr W904).wr W908).wr W912).wr W916).wr W920).wr W924).wr W1413).wr W1415).wr W1417).wr W1419)
      have N1423 : b874 ≠ b1422 := Nat.ne_of_lt (Nat.lt_of_lt_of_le E1424.lt (Nat.le_of_eq q1421.symm))
      have O1426 : Old Z n0 h1419 := (((((((((((((((((O0.ext E873).wr W880 g875).wr W884 g875).wr W888 g875).wr W892 g875).wr W896 g875).wr W900 g875).wr W904 g875).wr W908 g875).wr W912 g875).wr W916 g875).wr W920 g875).wr W924 g875).wr W1413 g875).wr W1415 g875).wr W1417 g875).wr W1419 g875)
      have g1425 : n0 ≤ b1422 := Nat.le_trans (own_old O1426) (Nat.le_of_eq q1421.symm)
      have Z1428 : h0.size ≤ h1419.size := (Nat.le_trans (Nat.le_trans (Nat.le_trans (Nat.le_trans (Nat.le_trans (Nat.le_trans (Nat.le_trans (Nat.le_trans (Nat.le_trans (Nat.le_trans (Nat.le_trans (Nat.le_trans (Nat.le_trans (Nat.le_trans (Nat.le_trans (Nat.le_trans (Nat.le_trans (Nat.le_refl _) E873.1) (Nat.le_of_eq W880.size.symm)) (Nat.le_of_eq W884.size.symm)) (Nat.le_of_eq W888.size.symm)) (Nat.le_of_eq W892.size.symm)) (Nat.le_of_eq W896.size.symm)) (Nat.le_of_eq W900.size.symm)) (Nat.le_of_eq W904.size.symm)) (Nat.le_of_eq W908.size.symm)) (Nat.le_of_eq W912.size.symm)) (Nat.le_of_eq W916.size.symm)) (Nat.le_of_eq W920.size.symm)) (Nat.le_of_eq W924.size.symm)) (Nat.le_of_eq W1413.size.symm)) (Nat.le_of_eq W1415.size.symm)) (Nat.le_of_eq W1417.size.symm)) (Nat.le_of_eq W1419.size.symm))
      have B1427 : h0.size ≤ b1422 := Nat.le_trans Z1428 (Nat.le_of_eq q1421.symm)
      have F1429 : Fld Z h1421 b1422 zs1 "kept" zs3 .null := D1421 (Or.inr (wd hw 13 rfl)) (ty := (.array (.object zs2))) (by decide)
      have F1430 : Fld Z h1421 b1422 zs1 "chunks" "[[I" .null := D1421 (Or.inl (wd hw 17 rfl)) (ty := (.array (.array .int))) (by decide)
      have F1431 : Fld Z h1421 b1422 zs1 "text" "[B" .null := D1421 (Or.inr (wd hw 19 rfl)) (ty := (.array .byte)) (by decide)
      have F1432 : Fld Z h1421 b1422 zs1 "first" "[I" .null := D1421 (Or.inl (wd hw 26 rfl)) (ty := (.array .int)) (by decide)
      show own_Goes p e below (T1421.setTop (mkF m 237 #[iv i0, iv i1, .val (.long i2), .second, .val (.long i3), .second, iv (1 : Int32), iv (6 : Int32), rv b874, .unset] [(.ref b1422)])) _
      refine own_via (fun t k => XS.dup X1421.here hx rfl (hb hby at_237) rfl rfl (XS.aload X1421.here hx rfl (hb hby at_238) rfl rfl k)) ?_
      have V1434 : Arv Z h1421 b874 k873 .byte (12 : Int32) [(.int (y878.toInt8.toInt32)), (.int (y882.toInt8.toInt32)), (.int (y886.toInt8.toInt32)), (.int (y890.toInt8.toInt32)), (.int (y894.toInt8.toInt32)), (.int (y898.toInt8.toInt32)), (.int (116 : Int32)), (.int (114 : Int32)), (.int (117 : Int32)), (.int (101 : Int32)), (.int (y918.toInt8.toInt32)), (.int (y922.toInt8.toInt32))] (.int (0 : Int32)) := (V1420.ext E1421)
      have l1435 : own_Len Z h1421 b874 .byte (12 : Int32) := ⟨_, _, _, V1434⟩
      have O1436 : Old Z n0 h1421 := (O1426.ext E1421)
      obtain ⟨_, T1433, _, X1433, hQ1433, st1433⟩ := own_ci X1421 hx hZ hown (wd hw 4 rfl) (wd hw 5 rfl) (wd hw 6 rfl) (wd hw 3 rfl) rfl (by decide) (rm2 l Z a0 hw [] b1422 b874 h1421 n0 O1436 F1429 A1421 g1425 F1430 F1431 l1435 N1423 F1432) e1421 (g := (mkF m 240 #[iv i0, iv i1, .val (.long i2), .second, .val (.long i3), .second, iv (1 : Int32), iv (6 : Int32), rv b874, .unset] [(.ref b874), (.ref b1422), (.ref b1422)])) rfl (by rw [hml]; rfl) (rest := [(.ref b1422)]) (W := 1) (lenOf pd_2 rfl) rfl (by show 2 * 0 + _ ≤ _; exact Nat.le_of_eq rfl) (hb hby at_240) (by decide) (by decide) (by decide) (by decide)
      obtain ⟨h1433, e1433⟩ : ∃ z, T1433.heap = z := ⟨_, rfl⟩
      rw [e1433] at hQ1433
      obtain ⟨rfl, Nq1433, K1433, ex1437, fx1438⟩ := hQ1433
      have N1433 := Fr.app N1419 Nq1433
      refine own_via (fun t k => st1433 t (XS.astore X1433.here hx rfl (hb hby at_243) rfl rfl (l' := #[iv i0, iv i1, .val (.long i2), .second, .val (.long i3), .second, iv (1 : Int32), iv (6 : Int32), rv b874, rv b1422]) rfl (XS.aload X1433.here hx rfl (hb hby at_245) rfl rfl (XS.iload X1433.here hx rfl (hb hby at_247) rfl k)))) ?_
      show own_Goes p e below (T1433.setTop (mkF m 249 #[iv i0, iv i1, .val (.long i2), .second, .val (.long i3), .second, iv (1 : Int32), iv (6 : Int32), rv b874, rv b1422] [(.int (6 : Int32)), (.ref b1422)])) _
      have V1490 : Arv Z h1433 b874 k873 .byte (12 : Int32) [(.int (y878.toInt8.toInt32)), (.int (y882.toInt8.toInt32)), (.int (y886.toInt8.toInt32)), (.int (y890.toInt8.toInt32)), (.int (y894.toInt8.toInt32)), (.int (y898.toInt8.toInt32)), (.int (116 : Int32)), (.int (114 : Int32)), (.int (117 : Int32)), (.int (101 : Int32)), (.int (y918.toInt8.toInt32)), (.int (y922.toInt8.toInt32))] (.int (0 : Int32)) := (V1434.keep K1433 (ninS N1423 nin0))
      have O1491 : Old Z n0 h1433 := (O1436.keep K1433 (allS g1425 all0))
      obtain ⟨_, T1439, _, X1439, hQ1439, st1439⟩ := own_cv X1433 hx hZ hown (wd hw 28 rfl) (wd hw 29 rfl) (wd hw 31 rfl) (wd hw 30 rfl) (wd hw 32 rfl) (wd hw 3 rfl) (by decide) (rm17 l Z a0 hw [] b1422 b874 k873 (y878.toInt8.toInt32) (y882.toInt8.toInt32) (y886.toInt8.toInt32) (y890.toInt8.toInt32) (y894.toInt8.toInt32) (y898.toInt8.toInt32) (114 : Int32) (117 : Int32) (101 : Int32) (y918.toInt8.toInt32) (y922.toInt8.toInt32) h1433 n0 O1491 fx1438 V1490) e1433 ex1437 (g := (mkF m 249 #[iv i0, iv i1, .val (.long i2), .second, .val (.long i3), .second, iv (1 : Int32), iv (6 : Int32), rv b874, rv b1422] [(.int (6 : Int32)), (.ref b1422)])) rfl (by rw [hml]; rfl) (rest := []) (W := 0) (lenOf pd_3 rfl) rfl (by show 2 * 0 + _ ≤ _; exact Nat.le_of_eq rfl) (hb hby at_249) (by decide) (by decide) (by decide) (by decide)
      obtain ⟨rfl, Nq1439, hh1492⟩ := hQ1439
      have N1439 := Fr.app N1433 Nq1439
      refine own_via (fun t k => st1439 t (XS.iload X1439.here hx rfl (hb hby at_252) rfl (XS.icmpNo X1439.here hx rfl (hb hby at_254) rfl (teq (by decide : (1 : Int32) = (1 : Int32))).2 (XS.iconst X1439.here hx rfl (hb hby at_257) (XS.goto X1439.here hx rfl (pc0 := 258) (pc' := 262) rfl (hb hby at_258) (by decide) (by decide) k))))) ?_
      show own_Goes p e below (T1439.setTop (mkF m 262 #[iv i0, iv i1, .val (.long i2), .second, .val (.long i3), .second, iv (1 : Int32), iv (6 : Int32), rv b874, rv b1422] [(.int (1 : Int32))])) _
      obtain ⟨fs, hr, hrun, hended, hW, hsame⟩ := X1439.leave (v := some (.int (1 : Int32))) (fun h => by rw [Bd.returns] at h; cases h)
      refine own_end (t := T1439.setFrames fs) ?_ ⟨_, hrun, hended, _, _, rfl, ?_, ⟨_, rfl⟩, hW, hsame.mono (by decide) (by decide)⟩
      · exact retN X1439 hx (t := .boolean) Bd.returns (by simp) (hb hby at_262) hr
      · exact ⟨rfl, N1439⟩
    · have qs1493 := qs
      rw [qs]
      show own_Goes p e below (T924.setTop (mkF m 149 #[iv i0, iv i1, .val (.long i2), .second, .val (.long i3), .second, iv (1 : Int32), iv (7 : Int32), rv b874, .unset] [])) _
      refine own_via (fun t k => XS.iload X924.here hx rfl (hb hby at_149) rfl (XS.ifNo X924.here hx rfl (hb hby at_151) rfl ((if0 _ _).trans (feq (by decide : ¬ ((1 : Int32) = (0 : Int32)))).1) (XS.aload X924.here hx rfl (hb hby at_154) rfl rfl (XS.iload X924.here hx rfl (hb hby at_156) rfl (XS.bipush X924.here hx rfl (hb hby at_158) k))))) ?_
      show own_Goes p e below (T924.setTop (mkF m 160 #[iv i0, iv i1, .val (.long i2), .second, .val (.long i3), .second, iv (1 : Int32), iv (7 : Int32), rv b874, .unset] [(.int (116 : Int32)), (.int (7 : Int32)), (.ref b874)])) _
      obtain ⟨cl1494, Ar1494, qq1494, S1494, M1494, H1494, G1494⟩ := id (V925)
      have hin1494 : ¬ ((7 : Int32) < 0 ∨ cl1494.slots.size ≤ ((7 : Int32)).toNatClampNeg) := inb_of S1494 ⟨by decide, by decide⟩
      obtain ⟨T1494, h1494, X1494, e1494, W1494, st1494⟩ := stB X924 hx hZ e924 Ar1494 (j := (7 : Int32)) hin1494 (g := (mkF m 160 #[iv i0, iv i1, .val (.long i2), .second, .val (.long i3), .second, iv (1 : Int32), iv (7 : Int32), rv b874, .unset] [(.int (116 : Int32)), (.int (7 : Int32)), (.ref b874)])) rfl rfl (hb hby at_160)
      refine own_via (fun t k => st1494 t k) ?_
      have V1495 : Arv Z h1494 b874 k873 .byte (12 : Int32) [(.int (y878.toInt8.toInt32)), (.int (y882.toInt8.toInt32)), (.int (y886.toInt8.toInt32)), (.int (y890.toInt8.toInt32)), (.int (y894.toInt8.toInt32)), (.int (y898.toInt8.toInt32)), (.int (y902.toInt8.toInt32)), (.int (116 : Int32)), (.int (y910.toInt8.toInt32)), (.int (y914.toInt8.toInt32)), (.int (y918.toInt8.toInt32)), (.int (y922.toInt8.toInt32))] (.int (0 : Int32)) := Arv.set Ar1494 qq1494 S1494 M1494 H1494 G1494 (by decide) W1494 7 rfl (Nat.le_of_ble_eq_true rfl)
      have N1494 := Fr.snoc X1494 N924 g875
      show own_Goes p e below (T1494.setTop (mkF m 161 #[iv i0, iv i1, .val (.long i2), .second, .val (.long i3), .second, iv (1 : Int32), iv (7 : Int32), rv b874, .unset] [])) _
      refine own_via (fun t k => XS.aload X1494.here hx rfl (hb hby at_161) rfl rfl (XS.iload X1494.here hx rfl (hb hby at_163) rfl (XS.iconst X1494.here hx rfl (hb hby at_165) (XS.iadd X1494.here hx rfl (hb hby at_166) rfl (XS.bipush X1494.here hx rfl (hb hby at_167) k))))) ?_
      show own_Goes p e below (T1494.setTop (mkF m 169 #[iv i0, iv i1, .val (.long i2), .second, .val (.long i3), .second, iv (1 : Int32), iv (7 : Int32), rv b874, .unset] [(.int (114 : Int32)), (.int (8 : Int32)), (.ref b874)])) _
      obtain ⟨cl1496, Ar1496, qq1496, S1496, M1496, H1496, G1496⟩ := id (V1495)
      have hin1496 : ¬ ((8 : Int32) < 0 ∨ cl1496.slots.size ≤ ((8 : Int32)).toNatClampNeg) := inb_of S1496 ⟨by decide, by decide⟩
      obtain ⟨T1496, h1496, X1496, e1496, W1496, st1496⟩ := stB X1494 hx hZ e1494 Ar1496 (j := (8 : Int32)) hin1496 (g := (mkF m 169 #[iv i0, iv i1, .val (.long i2), .second, .val (.long i3), .second, iv (1 : Int32), iv (7 : Int32), rv b874, .unset] [(.int (114 : Int32)), (.int (8 : Int32)), (.ref b874)])) rfl rfl (hb hby at_169)
      refine own_via (fun t k => st1496 t k) ?_
      have V1497 : Arv Z h1496 b874 k873 .byte (12 : Int32) [(.int (y878.toInt8.toInt32)), (.int (y882.toInt8.toInt32)), (.int (y886.toInt8.toInt32)), (.int (y890.toInt8.toInt32)), (.int (y894.toInt8.toInt32)), (.int (y898.toInt8.toInt32)), (.int (y902.toInt8.toInt32)), (.int (116 : Int32)), (.int (114 : Int32)), (.int (y914.toInt8.toInt32)), (.int (y918.toInt8.toInt32)), (.int (y922.toInt8.toInt32))] (.int (0 : Int32)) := Arv.set Ar1496 qq1496 S1496 M1496 H1496 G1496 (by decide) W1496 8 rfl (Nat.le_of_ble_eq_true rfl)
      have N1496 := Fr.snoc X1496 N1494 g875
      show own_Goes p e below (T1496.setTop (mkF m 170 #[iv i0, iv i1, .val (.long i2), .second, .val (.long i3), .second, iv (1 : Int32), iv (7 : Int32), rv b874, .unset] [])) _
      refine own_via (fun t k => XS.aload X1496.here hx rfl (hb hby at_170) rfl rfl (XS.iload X1496.here hx rfl (hb hby at_172) rfl (XS.iconst X1496.here hx rfl (hb hby at_174) (XS.iadd X1496.here hx rfl (hb hby at_175) rfl (XS.bipush X1496.here hx rfl (hb hby at_176) k))))) ?_
      show own_Goes p e below (T1496.setTop (mkF m 178 #[iv i0, iv i1, .val (.long i2), .second, .val (.long i3), .second, iv (1 : Int32), iv (7 : Int32), rv b874, .unset] [(.int (117 : Int32)), (.int (9 : Int32)), (.ref b874)])) _
      obtain ⟨cl1498, Ar1498, qq1498, S1498, M1498, H1498, G1498⟩ := id (V1497)
      have hin1498 : ¬ ((9 : Int32) < 0 ∨ cl1498.slots.size ≤ ((9 : Int32)).toNatClampNeg) := inb_of S1498 ⟨by decide, by decide⟩
      obtain ⟨T1498, h1498, X1498, e1498, W1498, st1498⟩ := stB X1496 hx hZ e1496 Ar1498 (j := (9 : Int32)) hin1498 (g := (mkF m 178 #[iv i0, iv i1, .val (.long i2), .second, .val (.long i3), .second, iv (1 : Int32), iv (7 : Int32), rv b874, .unset] [(.int (117 : Int32)), (.int (9 : Int32)), (.ref b874)])) rfl rfl (hb hby at_178)
      refine own_via (fun t k => st1498 t k) ?_
      have V1499 : Arv Z h1498 b874 k873 .byte (12 : Int32) [(.int (y878.toInt8.toInt32)), (.int (y882.toInt8.toInt32)), (.int (y886.toInt8.toInt32)), (.int (y890.toInt8.toInt32)), (.int (y894.toInt8.toInt32)), (.int (y898.toInt8.toInt32)), (.int (y902.toInt8.toInt32)), (.int (116 : Int32)), (.int (114 : Int32)), (.int (117 : Int32)), (.int (y918.toInt8.toInt32)), (.int (y922.toInt8.toInt32))] (.int (0 : Int32)) := Arv.set Ar1498 qq1498 S1498 M1498 H1498 G1498 (by decide) W1498 9 rfl (Nat.le_of_ble_eq_true rfl)
      have N1498 := Fr.snoc X1498 N1496 g875
      show own_Goes p e below (T1498.setTop (mkF m 179 #[iv i0, iv i1, .val (.long i2), .second, .val (.long i3), .second, iv (1 : Int32), iv (7 : Int32), rv b874, .unset] [])) _
      refine own_via (fun t k => XS.aload X1498.here hx rfl (hb hby at_179) rfl rfl (XS.iload X1498.here hx rfl (hb hby at_181) rfl (XS.iconst X1498.here hx rfl (hb hby at_183) (XS.iadd X1498.here hx rfl (hb hby at_184) rfl (XS.bipush X1498.here hx rfl (hb hby at_185) k))))) ?_
      show own_Goes p e below (T1498.setTop (mkF m 187 #[iv i0, iv i1, .val (.long i2), .second, .val (.long i3), .second, iv (1 : Int32), iv (7 : Int32), rv b874, .unset] [(.int (101 : Int32)), (.int (10 : Int32)), (.ref b874)])) _
      obtain ⟨cl1500, Ar1500, qq1500, S1500, M1500, H1500, G1500⟩ := id (V1499)
      have hin1500 : ¬ ((10 : Int32) < 0 ∨ cl1500.slots.size ≤ ((10 : Int32)).toNatClampNeg) := inb_of S1500 ⟨by decide, by decide⟩
      obtain ⟨T1500, h1500, X1500, e1500, W1500, st1500⟩ := stB X1498 hx hZ e1498 Ar1500 (j := (10 : Int32)) hin1500 (g := (mkF m 187 #[iv i0, iv i1, .val (.long i2), .second, .val (.long i3), .second, iv (1 : Int32), iv (7 : Int32), rv b874, .unset] [(.int (101 : Int32)), (.int (10 : Int32)), (.ref b874)])) rfl rfl (hb hby at_187)
      refine own_via (fun t k => st1500 t k) ?_
      have V1501 : Arv Z h1500 b874 k873 .byte (12 : Int32) [(.int (y878.toInt8.toInt32)), (.int (y882.toInt8.toInt32)), (.int (y886.toInt8.toInt32)), (.int (y890.toInt8.toInt32)), (.int (y894.toInt8.toInt32)), (.int (y898.toInt8.toInt32)), (.int (y902.toInt8.toInt32)), (.int (116 : Int32)), (.int (114 : Int32)), (.int (117 : Int32)), (.int (101 : Int32)), (.int (y922.toInt8.toInt32))] (.int (0 : Int32)) := Arv.set Ar1500 qq1500 S1500 M1500 H1500 G1500 (by decide) W1500 10 rfl (Nat.le_of_ble_eq_true rfl)
      have N1500 := Fr.snoc X1500 N1498 g875
      show own_Goes p e below (T1500.setTop (mkF m 188 #[iv i0, iv i1, .val (.long i2), .second, .val (.long i3), .second, iv (1 : Int32), iv (7 : Int32), rv b874, .unset] [])) _
      refine own_via (fun t k => XS.goto X1500.here hx rfl (pc0 := 188) (pc' := 234) rfl (hb hby at_188) (by decide) (by decide) k) ?_
      obtain ⟨T1502, h1502, X1502, e1502, E1502, A1502, D1502, -, st1502⟩ := newO X1500 hx hZ hown (wd hw 1 rfl) (wd hw 2 rfl) (wd hw 3 rfl) e1500 (g := (mkF m 234 #[iv i0, iv i1, .val (.long i2), .second, .val (.long i3), .second, iv (1 : Int32), iv (7 : Int32), rv b874, .unset] [])) rfl (hb hby at_234) (by decide) (by decide)
      obtain ⟨b1503, q1502⟩ : ∃ z, z = h1500.size := ⟨_, rfl⟩
      rw [← q1502] at A1502 D1502 st1502
      refine own_via (fun t k => st1502 t k) ?_
      have E1505 : Exa Z h1500 b874 "[B" := ((((((((((((((((a873x.wr W880).wr W884).wr W888).wr W892).wr W896).wr W900).wr W904).wr W908).wr W912).wr W916).wr W920).wr W924).wr W1494).wr W1496).wr W1498).wr W1500)
      have N1504 : b874 ≠ b1503 := Nat.ne_of_lt (Nat.lt_of_lt_of_le E1505.lt (Nat.le_of_eq q1502.symm))
      have O1507 : Old Z n0 h1500 := (((((((((((((((((O0.ext E873).wr W880 g875).wr W884 g875).wr W888 g875).wr W892 g875).wr W896 g875).wr W900 g875).wr W904 g875).wr W908 g875).wr W912 g875).wr W916 g875).wr W920 g875).wr W924 g875).wr W1494 g875).wr W1496 g875).wr W1498 g875).wr W1500 g875)
      have g1506 : n0 ≤ b1503 := Nat.le_trans (own_old O1507) (Nat.le_of_eq q1502.symm)
      have Z1509 : h0.size ≤ h1500.size := (Nat.le_trans (Nat.le_trans (Nat.le_trans (Nat.le_trans (Nat.le_trans (Nat.le_trans (Nat.le_trans (Nat.le_trans (Nat.le_trans (Nat.le_trans (Nat.le_trans (Nat.le_trans (Nat.le_trans (Nat.le_trans (Nat.le_trans (Nat.le_trans (Nat.le_trans (Nat.le_refl _) E873.1) (Nat.le_of_eq W880.size.symm)) (Nat.le_of_eq W884.size.symm)) (Nat.le_of_eq W888.size.symm)) (Nat.le_of_eq W892.size.symm)) (Nat.le_of_eq W896.size.symm)) (Nat.le_of_eq W900.size.symm)) (Nat.le_of_eq W904.size.symm)) (Nat.le_of_eq W908.size.symm)) (Nat.le_of_eq W912.size.symm)) (Nat.le_of_eq W916.size.symm)) (Nat.le_of_eq W920.size.symm)) (Nat.le_of_eq W924.size.symm)) (Nat.le_of_eq W1494.size.symm)) (Nat.le_of_eq W1496.size.symm)) (Nat.le_of_eq W1498.size.symm)) (Nat.le_of_eq W1500.size.symm))
      have B1508 : h0.size ≤ b1503 := Nat.le_trans Z1509 (Nat.le_of_eq q1502.symm)
      have F1510 : Fld Z h1502 b1503 zs1 "kept" zs3 .null := D1502 (Or.inr (wd hw 13 rfl)) (ty := (.array (.object zs2))) (by decide)
      have F1511 : Fld Z h1502 b1503 zs1 "chunks" "[[I" .null := D1502 (Or.inl (wd hw 17 rfl)) (ty := (.array (.array .int))) (by decide)
      have F1512 : Fld Z h1502 b1503 zs1 "text" "[B" .null := D1502 (Or.inr (wd hw 19 rfl)) (ty := (.array .byte)) (by decide)
      have F1513 : Fld Z h1502 b1503 zs1 "first" "[I" .null := D1502 (Or.inl (wd hw 26 rfl)) (ty := (.array .int)) (by decide)
      show own_Goes p e below (T1502.setTop (mkF m 237 #[iv i0, iv i1, .val (.long i2), .second, .val (.long i3), .second, iv (1 : Int32), iv (7 : Int32), rv b874, .unset] [(.ref b1503)])) _
      refine own_via (fun t k => XS.dup X1502.here hx rfl (hb hby at_237) rfl rfl (XS.aload X1502.here hx rfl (hb hby at_238) rfl rfl k)) ?_
      have V1515 : Arv Z h1502 b874 k873 .byte (12 : Int32) [(.int (y878.toInt8.toInt32)), (.int (y882.toInt8.toInt32)), (.int (y886.toInt8.toInt32)), (.int (y890.toInt8.toInt32)), (.int (y894.toInt8.toInt32)), (.int (y898.toInt8.toInt32)), (.int (y902.toInt8.toInt32)), (.int (116 : Int32)), (.int (114 : Int32)), (.int (117 : Int32)), (.int (101 : Int32)), (.int (y922.toInt8.toInt32))] (.int (0 : Int32)) := (V1501.ext E1502)
      have l1516 : own_Len Z h1502 b874 .byte (12 : Int32) := ⟨_, _, _, V1515⟩
      have O1517 : Old Z n0 h1502 := (O1507.ext E1502)
      obtain ⟨_, T1514, _, X1514, hQ1514, st1514⟩ := own_ci X1502 hx hZ hown (wd hw 4 rfl) (wd hw 5 rfl) (wd hw 6 rfl) (wd hw 3 rfl) rfl (by decide) (rm2 l Z a0 hw [] b1503 b874 h1502 n0 O1517 F1510 A1502 g1506 F1511 F1512 l1516 N1504 F1513) e1502 (g := (mkF m 240 #[iv i0, iv i1, .val (.long i2), .second, .val (.long i3), .second, iv (1 : Int32), iv (7 : Int32), rv b874, .unset] [(.ref b874), (.ref b1503), (.ref b1503)])) rfl (by rw [hml]; rfl) (rest := [(.ref b1503)]) (W := 1) (lenOf pd_2 rfl) rfl (by show 2 * 0 + _ ≤ _; exact Nat.le_of_eq rfl) (hb hby at_240) (by decide) (by decide) (by decide) (by decide)
      obtain ⟨h1514, e1514⟩ : ∃ z, T1514.heap = z := ⟨_, rfl⟩
      rw [e1514] at hQ1514
      obtain ⟨rfl, Nq1514, K1514, ex1518, fx1519⟩ := hQ1514
      have N1514 := Fr.app N1500 Nq1514
      refine own_via (fun t k => st1514 t (XS.astore X1514.here hx rfl (hb hby at_243) rfl rfl (l' := #[iv i0, iv i1, .val (.long i2), .second, .val (.long i3), .second, iv (1 : Int32), iv (7 : Int32), rv b874, rv b1503]) rfl (XS.aload X1514.here hx rfl (hb hby at_245) rfl rfl (XS.iload X1514.here hx rfl (hb hby at_247) rfl k)))) ?_
      show own_Goes p e below (T1514.setTop (mkF m 249 #[iv i0, iv i1, .val (.long i2), .second, .val (.long i3), .second, iv (1 : Int32), iv (7 : Int32), rv b874, rv b1503] [(.int (7 : Int32)), (.ref b1503)])) _
      have V1571 : Arv Z h1514 b874 k873 .byte (12 : Int32) [(.int (y878.toInt8.toInt32)), (.int (y882.toInt8.toInt32)), (.int (y886.toInt8.toInt32)), (.int (y890.toInt8.toInt32)), (.int (y894.toInt8.toInt32)), (.int (y898.toInt8.toInt32)), (.int (y902.toInt8.toInt32)), (.int (116 : Int32)), (.int (114 : Int32)), (.int (117 : Int32)), (.int (101 : Int32)), (.int (y922.toInt8.toInt32))] (.int (0 : Int32)) := (V1515.keep K1514 (ninS N1504 nin0))
      have O1572 : Old Z n0 h1514 := (O1517.keep K1514 (allS g1506 all0))
      obtain ⟨_, T1520, _, X1520, hQ1520, st1520⟩ := own_cv X1514 hx hZ hown (wd hw 28 rfl) (wd hw 29 rfl) (wd hw 31 rfl) (wd hw 30 rfl) (wd hw 32 rfl) (wd hw 3 rfl) (by decide) (rm18 l Z a0 hw [] b1503 b874 k873 (y878.toInt8.toInt32) (y882.toInt8.toInt32) (y886.toInt8.toInt32) (y890.toInt8.toInt32) (y894.toInt8.toInt32) (y898.toInt8.toInt32) (y902.toInt8.toInt32) (114 : Int32) (117 : Int32) (101 : Int32) (y922.toInt8.toInt32) h1514 n0 O1572 fx1519 V1571) e1514 ex1518 (g := (mkF m 249 #[iv i0, iv i1, .val (.long i2), .second, .val (.long i3), .second, iv (1 : Int32), iv (7 : Int32), rv b874, rv b1503] [(.int (7 : Int32)), (.ref b1503)])) rfl (by rw [hml]; rfl) (rest := []) (W := 0) (lenOf pd_3 rfl) rfl (by show 2 * 0 + _ ≤ _; exact Nat.le_of_eq rfl) (hb hby at_249) (by decide) (by decide) (by decide) (by decide)
      obtain ⟨rfl, Nq1520, hh1573⟩ := hQ1520
      have N1520 := Fr.app N1514 Nq1520
      refine own_via (fun t k => st1520 t (XS.iload X1520.here hx rfl (hb hby at_252) rfl (XS.icmpNo X1520.here hx rfl (hb hby at_254) rfl (teq (by decide : (1 : Int32) = (1 : Int32))).2 (XS.iconst X1520.here hx rfl (hb hby at_257) (XS.goto X1520.here hx rfl (pc0 := 258) (pc' := 262) rfl (hb hby at_258) (by decide) (by decide) k))))) ?_
      show own_Goes p e below (T1520.setTop (mkF m 262 #[iv i0, iv i1, .val (.long i2), .second, .val (.long i3), .second, iv (1 : Int32), iv (7 : Int32), rv b874, rv b1503] [(.int (1 : Int32))])) _
      obtain ⟨fs, hr, hrun, hended, hW, hsame⟩ := X1520.leave (v := some (.int (1 : Int32))) (fun h => by rw [Bd.returns] at h; cases h)
      refine own_end (t := T1520.setFrames fs) ?_ ⟨_, hrun, hended, _, _, rfl, ?_, ⟨_, rfl⟩, hW, hsame.mono (by decide) (by decide)⟩
      · exact retN X1520 hx (t := .boolean) Bd.returns (by simp) (hb hby at_262) hr
      · exact ⟨rfl, N1520⟩
set_option maxRecDepth 65536 in
set_option maxHeartbeats 40000000 in
theorem comes_1 {Post : Tables → Env → Array Value → State → Outcome → State → Prop} (hpost : ∀ tb e args s v u, (limb_1_1.after args s (.returned v) u = true ∧ limb_1_2.after args s (.returned v) u = true ∧ True) → FrameEnd s (.returned v) u (Jvm.fieldLocs frame_1_writes args s ++ Jvm.arrayLocs frame_1_arrays args s ++ Jvm.staticLocs frame_1_statics s) 24 320 → Post tb e args s (.returned v) u) :
    ArmFor flags0 classFile x code maxLocals ret World_1 tables_1 room_1 Calls_1 rest_1 Pre_1 Post := by
  intro l hfl _ _ p e ha hc hk s m args below hf hA hF happ hP
  obtain ⟨hcalls, hrest, hpre⟩ := hP
  obtain ⟨-, -, -, hnamed, -, -, -, hat⟩ := (Spec.applies_iff hf).mp happ
  obtain ⟨hg, hn⟩ := and_e (Cond.before_iff.mp (show (Jvm.Cond.and given_1 narrow_1).before args s = true from hpre))
  obtain ⟨g1574, g1575⟩ := and_e hg
  obtain ⟨g1576, g1577⟩ := and_e g1575
  obtain ⟨g1578, g1579⟩ := and_e g1577
  obtain ⟨g1580, g1581⟩ := and_e g1579
  obtain ⟨w0, w1, w2, w3, rfl⟩ : ∃ w0 w1 w2 w3 : Value, args = #[w0, w1, w2, w3] := by
    have hs : args.size = 4 := by simpa [Cond.value, given_1] using g1574
    obtain ⟨L⟩ := args
    match L, hs with
    | [w0, w1, w2, w3], _ => exact ⟨w0, w1, w2, w3, rfl⟩
  have hw := fun d (hd : d ∈ tables_1) => atoms_spec (ws := Jvm.Cond.code x code maxLocals ret :: tables_1) hat d (List.mem_cons_of_mem _ hd)
  have hfit : Fit s := fun {y c} hc i hi => by
    obtain ⟨ha, rfl⟩ := Array.getElem?_eq_some_iff.mp hc
    have q := List.all_eq_true.mp ((Array.all_eq_true_iff_forall_mem.mp hF) _ (Array.getElem_mem ha)) i (List.mem_range.mpr hi)
    simpa [Array.getElem?_eq_getElem hi] using q
  obtain ⟨i0, ei0⟩ := is_v g1576
  obtain rfl : w0 = (.int i0) := Option.some.inj ei0
  obtain ⟨i1, ei1⟩ := is_v g1578
  obtain rfl : w1 = (.int i1) := Option.some.inj ei1
  obtain ⟨i2, ei2⟩ := isL_v g1580
  obtain rfl : w2 = (.long i2) := Option.some.inj ei2
  obtain ⟨i3, ei3⟩ := isL_v g1581
  obtain rfl : w3 = (.long i3) := Option.some.inj ei3
  obtain ⟨n, o, h1, h2, h3, _, L, rfl, ⟨rfl, N⟩, hq⟩ := rm0 l s _ hw tables_1 i0 i1 i2 i3 s.heap s.heap.size (Old.start s)  p e ha hc hk s m _ below hf ((Spec.applies_iff_loose hf).mp happ).1 ⟨rfl, State.Warmed39.refl s, rfl⟩ trivial
  refine ⟨n, _, h1, h2, h3, hpost _ _ _ _ _ _ ⟨Cond.after_iff.mpr rfl, Cond.after_iff.mpr (eq_i res_at (Term.int_eval (1)) rfl), trivial⟩ ⟨hq.1, hq.2.1, (hq.2.2.sift fun y hy => Or.inr (N y hy)).mono (by decide) (by decide)⟩⟩
theorem main_1_1 : Claimed_1_1 := comes_1 fun _ _ _ _ _ _ h hF => ⟨h.1, hF⟩
theorem main_1_2 : Claimed_1_2 := comes_1 fun _ _ _ _ _ _ h hF => ⟨h.2.1, hF⟩
end Jvm.Pilot.@@N@@
namespace Jvm.Pilot.@@N@@
open Jvm Jvm.ClassFile Sem Op Lib Jvm.Free Jvm.Stand Jvm.Pilot.@@N@@.Jvm.D
/-! MADE BY PROGRAM (witnessworld.py) out of the Statement's table words and the real class files: 12 classes; the members and pool entries that the words name. The judged class is class 1, her method 1. -/
namespace start1
open Jvm.ClassFile
def u (s : String) : CpInfo := .utf8 (stringToUtf16 s)
/-- a pool by its gaps: so many unusable entries, then the entry; so many at the end -/
def gap : Nat → List CpInfo → List CpInfo
  | 0, r => r
  | n + 1, r => .unusable :: gap n r
def poolList (es : List (Nat × CpInfo)) (last : Nat) : List CpInfo := es.foldr (fun e r => gap e.1 (e.2 :: r)) (gap last [])
def pool (es : List (Nat × CpInfo)) (last : Nat) : Array CpInfo := ⟨poolList es last⟩
def fileOf (pool : Array CpInfo) (this : Nat) (attrs : Array Attribute := #[]) (ms : Array MethodInfo := #[]) (fl : Nat := 33) (sup : Nat := 0) (ifs : Array Nat := #[]) (fds : Array FieldInfo := #[]) : ClassFile where
  minorVersion := 0
  majorVersion := 65
  constantPool := pool
  accessFlags := fl
  thisClass := this
  superClass := sup
  interfaces := ifs
  fields := fds
  methods := ms
  attributes := attrs
def plain (name : String) (sup : Option ClassId) : Class where
  name := name
  kind := .ordinary
  loader := none
  accessFlags := 33
  super := sup
  interfaces := #[]
  cf := none
  fields := #[]
  methods := #[]
  instanceTypes := #[]
  staticTypes := #[]
  resolved := #[]
  callSites := []
  init := .initialized
  statics := none
  mirror := none

def pool0 : Array CpInfo := pool [(5, u "<init>"), (0, u "()V"), (1, .class_ 10), (1, u "java/lang/Object")] 113

def k0c0 : Code := { maxStack := 0, maxLocals := 1, code := object_method_1_code, exceptionTable := #[], attributes := #[] }
def k0m0 : Method := { name := "<init>", desc := "()V", sig := { parameters := [], returnType := none }, accessFlags := 1, code := some k0c0 }
/-- java/lang/Object -/
def k0 : Class := { plain "java/lang/Object" none with
  accessFlags := 33
  interfaces := #[]
  cf := some (fileOf pool0 8 #[] #[{ accessFlags := 1, nameIndex := 5, descriptorIndex := 6, attributes := #[] }] 33 0 #[] #[])
  fields := #[]
  methods := #[k0m0]
  instanceTypes := #[]
  staticTypes := #[]
  resolved := Array.replicate 124 none
  statics := none }

def pool1 : Array CpInfo := pool [(2, .class_ 4), (1, u "java/lang/Object"), (0, u "<init>"), (0, u "()V"), (0, .class_ 8), (0, u "com/example/kempt_envelope/kemptenvelope/JsonTape"), (0, .methodref 7 10), (0, .nameAndType 5 11), (0, u "([B)V"), (0, .methodref 7 13), (0, .nameAndType 14 15), (0, u "bool"), (0, u "(I)Z"), (0, .class_ 17), (0, u "com/example/kempt_envelope/kemptenvelope/JsonTapeBoolPinLaw"), (2, u "law"), (0, u "(IIJJ)Z")] 5

def k1m0 : Method := { name := "<init>", desc := "()V", sig := { parameters := [], returnType := none }, accessFlags := 1, code := none }
def k1c1 : Code := { maxStack := 5, maxLocals := 10, code := code, exceptionTable := #[], attributes := #[] }
def k1m1 : Method := { name := "law", desc := "(IIJJ)Z", sig := { parameters := [.int, .int, .long, .long], returnType := some .boolean }, accessFlags := 9, code := some k1c1 }
/-- com/example/kempt_envelope/kemptenvelope/JsonTapeBoolPinLaw -/
def k1 : Class := { plain "com/example/kempt_envelope/kemptenvelope/JsonTapeBoolPinLaw" (some 0) with
  accessFlags := 49
  interfaces := #[]
  cf := some (fileOf pool1 16 #[] #[{ accessFlags := 1, nameIndex := 5, descriptorIndex := 6, attributes := #[] }, { accessFlags := 9, nameIndex := 20, descriptorIndex := 21, attributes := #[] }] 49 2 #[] #[])
  fields := #[]
  methods := #[k1m0, k1m1]
  instanceTypes := #[]
  staticTypes := #[]
  resolved := Array.replicate 27 none
  statics := none }

def pool2 : Array CpInfo := pool [(1, .class_ 2), (0, u "com/example/kempt_envelope/kemptenvelope/JsonTape"), (0, .methodref 4 5), (0, .class_ 6), (0, .nameAndType 7 8), (0, u "java/lang/Object"), (0, u "<init>"), (0, u "()V"), (0, .class_ 10), (0, u "com/example/kempt_envelope/kemptenvelope/JsonTape$Decoded"), (0, .fieldref 1 12), (0, .nameAndType 13 14), (0, u "kept"), (0, u "[Lcom/example/kempt_envelope/kemptenvelope/JsonTape$Decoded;"), (0, .class_ 16), (0, u "[I"), (0, .fieldref 1 18), (0, .nameAndType 19 20), (0, u "chunks"), (0, u "[[I"), (0, .fieldref 1 22), (0, .nameAndType 23 24), (0, u "text"), (0, u "[B"), (0, .methodref 26 27), (0, .class_ 28), (0, .nameAndType 29 30), (0, u "java/lang/Math"), (0, u "min"), (0, u "(II)I"), (0, .fieldref 1 32), (0, .nameAndType 33 16), (0, u "first"), (2, u "length"), (0, u "I"), (23, u "lineBreaks"), (0, u "Z"), (35, u "Ljava/lang/String;"), (17, u "NAMES"), (0, u "[Ljava/lang/String;"), (83, u "CONTAINER"), (2, u "NAME"), (1, u "CHUNK_BITS"), (1, u "CHUNK"), (1, u "ESCAPES"), (0, u "ESCAPED"), (0, u "KEPT_BITS"), (1, u "KEPT_LENGTH"), (1, u "DECODED"), (1, u "NAMES_BITS"), (1, u "NAME_LENGTH"), (1, u "([B)V"), (16, u "(I)Z"), (2, u "bool")] 9

def k2c0 : Code := { maxStack := 4, maxLocals := 2, code := prog_17_method_1_code, exceptionTable := #[], attributes := #[] }
def k2m0 : Method := { name := "<init>", desc := "([B)V", sig := { parameters := [(.array .byte)], returnType := none }, accessFlags := 0, code := some k2c0 }
def k2c1 : Code := { maxStack := 2, maxLocals := 2, code := prog_17_method_22_code, exceptionTable := #[], attributes := #[] }
def k2m1 : Method := { name := "bool", desc := "(I)Z", sig := { parameters := [.int], returnType := some .boolean }, accessFlags := 0, code := some k2c1 }
/-- com/example/kempt_envelope/kemptenvelope/JsonTape -/
def k2 : Class := { plain "com/example/kempt_envelope/kemptenvelope/JsonTape" (some 0) with
  accessFlags := 48
  interfaces := #[]
  cf := some (fileOf pool2 1 #[.nestMembers #[9]] #[{ accessFlags := 0, nameIndex := 7, descriptorIndex := 222, attributes := #[] }, { accessFlags := 0, nameIndex := 242, descriptorIndex := 239, attributes := #[] }] 48 4 #[] #[{ accessFlags := 26, nameIndex := 201, descriptorIndex := 37, attributes := #[] }, { accessFlags := 26, nameIndex := 204, descriptorIndex := 37, attributes := #[] }, { accessFlags := 26, nameIndex := 206, descriptorIndex := 37, attributes := #[] }, { accessFlags := 26, nameIndex := 208, descriptorIndex := 37, attributes := #[] }, { accessFlags := 24, nameIndex := 210, descriptorIndex := 98, attributes := #[] }, { accessFlags := 26, nameIndex := 211, descriptorIndex := 98, attributes := #[] }, { accessFlags := 26, nameIndex := 212, descriptorIndex := 37, attributes := #[] }, { accessFlags := 26, nameIndex := 214, descriptorIndex := 37, attributes := #[] }, { accessFlags := 26, nameIndex := 216, descriptorIndex := 37, attributes := #[] }, { accessFlags := 26, nameIndex := 218, descriptorIndex := 37, attributes := #[] }, { accessFlags := 26, nameIndex := 220, descriptorIndex := 37, attributes := #[] }, { accessFlags := 26, nameIndex := 116, descriptorIndex := 117, attributes := #[] }, { accessFlags := 18, nameIndex := 23, descriptorIndex := 24, attributes := #[] }, { accessFlags := 18, nameIndex := 13, descriptorIndex := 14, attributes := #[] }, { accessFlags := 2, nameIndex := 19, descriptorIndex := 20, attributes := #[] }, { accessFlags := 2, nameIndex := 33, descriptorIndex := 16, attributes := #[] }, { accessFlags := 2, nameIndex := 36, descriptorIndex := 37, attributes := #[] }, { accessFlags := 2, nameIndex := 61, descriptorIndex := 62, attributes := #[] }])
  fields := #[{ name := "CONTAINER", type := .int, accessFlags := 26, slot := 0, constantValue := 0 }, { name := "NAME", type := .int, accessFlags := 26, slot := 1, constantValue := 0 }, { name := "CHUNK_BITS", type := .int, accessFlags := 26, slot := 2, constantValue := 0 }, { name := "CHUNK", type := .int, accessFlags := 26, slot := 3, constantValue := 0 }, { name := "ESCAPES", type := (.object "java/lang/String"), accessFlags := 24, slot := 4, constantValue := 0 }, { name := "ESCAPED", type := (.object "java/lang/String"), accessFlags := 26, slot := 5, constantValue := 0 }, { name := "KEPT_BITS", type := .int, accessFlags := 26, slot := 6, constantValue := 0 }, { name := "KEPT_LENGTH", type := .int, accessFlags := 26, slot := 7, constantValue := 0 }, { name := "DECODED", type := .int, accessFlags := 26, slot := 8, constantValue := 0 }, { name := "NAMES_BITS", type := .int, accessFlags := 26, slot := 9, constantValue := 0 }, { name := "NAME_LENGTH", type := .int, accessFlags := 26, slot := 10, constantValue := 0 }, { name := "NAMES", type := (.array (.object "java/lang/String")), accessFlags := 26, slot := 11, constantValue := 0 }, { name := "text", type := (.array .byte), accessFlags := 18, slot := 0, constantValue := 0 }, { name := "kept", type := (.array (.object "com/example/kempt_envelope/kemptenvelope/JsonTape$Decoded")), accessFlags := 18, slot := 1, constantValue := 0 }, { name := "chunks", type := (.array (.array .int)), accessFlags := 2, slot := 2, constantValue := 0 }, { name := "first", type := (.array .int), accessFlags := 2, slot := 3, constantValue := 0 }, { name := "length", type := .int, accessFlags := 2, slot := 4, constantValue := 0 }, { name := "lineBreaks", type := .boolean, accessFlags := 2, slot := 5, constantValue := 0 }]
  methods := #[k2m0, k2m1]
  instanceTypes := #[(.array .byte), (.array (.object "com/example/kempt_envelope/kemptenvelope/JsonTape$Decoded")), (.array (.array .int)), (.array .int), .int, .boolean]
  staticTypes := #[.int, .int, .int, .int, (.object "java/lang/String"), (.object "java/lang/String"), .int, .int, .int, .int, .int, (.array (.object "java/lang/String"))]
  resolved := Array.replicate 252 none
  statics := none }

def pool3 : Array CpInfo := pool [(2, .class_ 4), (1, u "java/lang/Object"), (3, .class_ 10), (1, u "com/example/kempt_envelope/kemptenvelope/JsonTape$Decoded"), (0, u "entry"), (0, u "I"), (2, u "text"), (0, u "Ljava/lang/String;"), (6, .class_ 24), (0, u "com/example/kempt_envelope/kemptenvelope/JsonTape")] 2

/-- com/example/kempt_envelope/kemptenvelope/JsonTape$Decoded -/
def k3 : Class := { plain "com/example/kempt_envelope/kemptenvelope/JsonTape$Decoded" (some 0) with
  accessFlags := 48
  interfaces := #[]
  cf := some (fileOf pool3 8 #[.nestHost 23] #[] 48 2 #[] #[{ accessFlags := 18, nameIndex := 11, descriptorIndex := 12, attributes := #[] }, { accessFlags := 18, nameIndex := 15, descriptorIndex := 16, attributes := #[] }])
  fields := #[{ name := "entry", type := .int, accessFlags := 18, slot := 0, constantValue := 0 }, { name := "text", type := (.object "java/lang/String"), accessFlags := 18, slot := 1, constantValue := 0 }]
  methods := #[]
  instanceTypes := #[.int, (.object "java/lang/String")]
  staticTypes := #[]
  resolved := Array.replicate 27 none
  statics := none }

def pool4 : Array CpInfo := pool [(1, .class_ 2), (0, u "java/lang/Math"), (1, .class_ 6), (1, u "java/lang/Object"), (0, u "<init>"), (0, u "()V"), (89, .class_ 100), (1, u "java/lang/Math$RandomNumberGeneratorHolder"), (71, u "negativeZeroFloatBits"), (0, u "J"), (2, u "negativeZeroDoubleBits"), (24, u "min"), (43, u "$assertionsDisabled"), (0, u "Z"), (88, u "(II)I"), (2, u "twoToTheDoubleScaleDown"), (0, u "D"), (4, u "twoToTheDoubleScaleUp"), (9, u "E"), (3, u "PI"), (2, u "TAU"), (2, u "DEGREES_TO_RADIANS"), (0, u "RADIANS_TO_DEGREES")] 94

def k4m0 : Method := { name := "<init>", desc := "()V", sig := { parameters := [], returnType := none }, accessFlags := 2, code := none }
def k4c1 : Code := { maxStack := 2, maxLocals := 2, code := jdk_29_method_69_code, exceptionTable := #[], attributes := #[] }
def k4m1 : Method := { name := "min", desc := "(II)I", sig := { parameters := [.int, .int], returnType := some .int }, accessFlags := 9, code := some k4c1 }
/-- java/lang/Math -/
def k4 : Class := { plain "java/lang/Math" (some 0) with
  accessFlags := 49
  interfaces := #[]
  cf := some (fileOf pool4 1 #[.nestMembers #[98]] #[{ accessFlags := 2, nameIndex := 7, descriptorIndex := 8, attributes := #[] }, { accessFlags := 9, nameIndex := 201, descriptorIndex := 335, attributes := #[] }] 49 4 #[] #[{ accessFlags := 25, nameIndex := 354, descriptorIndex := 339, attributes := #[] }, { accessFlags := 25, nameIndex := 358, descriptorIndex := 339, attributes := #[] }, { accessFlags := 25, nameIndex := 361, descriptorIndex := 339, attributes := #[] }, { accessFlags := 26, nameIndex := 364, descriptorIndex := 339, attributes := #[] }, { accessFlags := 26, nameIndex := 365, descriptorIndex := 339, attributes := #[] }, { accessFlags := 26, nameIndex := 172, descriptorIndex := 173, attributes := #[] }, { accessFlags := 26, nameIndex := 176, descriptorIndex := 173, attributes := #[] }, { accessFlags := 8, nameIndex := 344, descriptorIndex := 339, attributes := #[] }, { accessFlags := 8, nameIndex := 338, descriptorIndex := 339, attributes := #[] }, { accessFlags := 4120, nameIndex := 245, descriptorIndex := 246, attributes := #[] }])
  fields := #[{ name := "E", type := .double, accessFlags := 25, slot := 0, constantValue := 0 }, { name := "PI", type := .double, accessFlags := 25, slot := 1, constantValue := 0 }, { name := "TAU", type := .double, accessFlags := 25, slot := 2, constantValue := 0 }, { name := "DEGREES_TO_RADIANS", type := .double, accessFlags := 26, slot := 3, constantValue := 0 }, { name := "RADIANS_TO_DEGREES", type := .double, accessFlags := 26, slot := 4, constantValue := 0 }, { name := "negativeZeroFloatBits", type := .long, accessFlags := 26, slot := 5, constantValue := 0 }, { name := "negativeZeroDoubleBits", type := .long, accessFlags := 26, slot := 6, constantValue := 0 }, { name := "twoToTheDoubleScaleUp", type := .double, accessFlags := 8, slot := 7, constantValue := 0 }, { name := "twoToTheDoubleScaleDown", type := .double, accessFlags := 8, slot := 8, constantValue := 0 }, { name := "$assertionsDisabled", type := .boolean, accessFlags := 4120, slot := 9, constantValue := 0 }]
  methods := #[k4m0, k4m1]
  instanceTypes := #[]
  staticTypes := #[.double, .double, .double, .double, .double, .long, .long, .double, .double, .boolean]
  resolved := Array.replicate 460 none
  statics := none }

def pool5 : Array CpInfo := pool [(1, u "java/lang/Cloneable"), (0, .class_ 1), (0, u "java/lang/Object"), (0, .class_ 3)] 3

/-- java/lang/Cloneable -/
def k5 : Class := { plain "java/lang/Cloneable" (some 0) with
  accessFlags := 1537
  interfaces := #[]
  cf := some (fileOf pool5 2 #[] #[] 1537 4 #[] #[])
  fields := #[]
  methods := #[]
  instanceTypes := #[]
  staticTypes := #[]
  resolved := Array.replicate 8 none
  statics := none }

def pool6 : Array CpInfo := pool [(1, u "java/io/Serializable"), (0, .class_ 1), (0, u "java/lang/Object"), (0, .class_ 3)] 3

/-- java/io/Serializable -/
def k6 : Class := { plain "java/io/Serializable" (some 0) with
  accessFlags := 1537
  interfaces := #[]
  cf := some (fileOf pool6 2 #[] #[] 1537 4 #[] #[])
  fields := #[]
  methods := #[]
  instanceTypes := #[]
  staticTypes := #[]
  resolved := Array.replicate 8 none
  statics := none }

/-- the primitive byte -/
def k7 : Class := { plain "byte" none with kind := .primitive 'B', accessFlags := 0x411 }
/-- [B -/
def k8 : Class := { plain "[B" (some 0) with kind := .array 7 .byte, interfaces := #[5, 6], accessFlags := 1041 }

/-- the primitive int -/
def k9 : Class := { plain "int" none with kind := .primitive 'I', accessFlags := 0x411 }
/-- [I -/
def k10 : Class := { plain "[I" (some 0) with kind := .array 9 .int, interfaces := #[5, 6], accessFlags := 1041 }

/-- [Lcom/example/kempt_envelope/kemptenvelope/JsonTape$Decoded; -/
def k11 : Class := { plain "[Lcom/example/kempt_envelope/kemptenvelope/JsonTape$Decoded;" (some 0) with kind := .array 3 (.object "com/example/kempt_envelope/kemptenvelope/JsonTape$Decoded"), interfaces := #[5, 6], accessFlags := 1041 }

/-- [[I -/
def k12 : Class := { plain "[[I" (some 0) with kind := .array 10 (.array .int), interfaces := #[5, 6], accessFlags := 1041 }
def heap : Heap := #[]
def classes : Array Class := #[k0, k1, k2, k3, k4, k5, k6, k7, k8, k9, k10, k11, k12]
def interned : List (Array UInt16 × Addr) := []
def slotsUsed : Nat := 0
def theMethod : MethodId := ⟨1, 1⟩
def args0 : Array Value := #[.int 5, .int 5, .long 5, .long 5]
def aboutOver (below : List Frame) : State where
  vm := { classes := classes, interned := interned.toArray }
  heap := heap
  slotsUsed := slotsUsed
  threads := #[{ frames := .invoking theMethod args0 :: below }]
def below0 : List Frame := [.native { method := ⟨0, 0⟩, args := #[] }]
def about1 : State := aboutOver below0
def p0 : Program := .bare "" "" ""
def e0 : Env := launch0.env 0 0 0
theorem w_frames : about1.frames = Frame.invoking theMethod args0 :: below0 := rfl
set_option maxRecDepth 65536 in
theorem w_args : argsFit about1.vm theMethod args0 = true := by decide +kernel
set_option maxRecDepth 65536 in
theorem w_heap : heapFits about1 = true := by decide +kernel
set_option maxRecDepth 65536 in
theorem w_runnable : about1.curStatus? = some .runnable := by decide +kernel
set_option maxRecDepth 65536 in
theorem w_alone : about1.alone = true := by decide +kernel
set_option maxRecDepth 65536 in
theorem w_named : about1.methodNamed? x = some theMethod := by decide +kernel
set_option maxRecDepth 65536 in
theorem w_hears : about1.hears theMethod below0 = true := by decide +kernel
set_option maxRecDepth 65536 in
theorem w_ripe : about1.ripe theMethod args0 below0 = true := by decide +kernel
theorem w_running : about1.status = .running := rfl
set_option maxRecDepth 65536 in
theorem w_room : about1.hasRoom e0.platform room_1 = true :=
  launch0.hasRoom_least _ room_1 (by decide +kernel) (by decide +kernel) (by decide +kernel) (by decide +kernel) (by decide +kernel) (by decide +kernel)
theorem allAtoms_all (ts : List Jvm.Cond) (a : Array Jvm.Value) (st : Jvm.State) : (allAtoms ts).before a st = ts.all (fun c => c.before a st) := by
  induction ts with
  | nil => rfl
  | cons c t ih =>
    show (Jvm.Cond.and c (allAtoms t)).before a st = _
    rw [Jvm.Cond.before_and, ih, List.all_cons]
def words1 : List Jvm.Cond := Jvm.Cond.code x code maxLocals ret :: tables_1
/-- a 'code' word, met by the world's own term for the bytes: nothing is compared byte by byte -/
theorem code_word {y : MethodName} {bytes : ByteArray} {mx : Nat} {rt : Option FieldType} {a : Array Value} {s : State} {m : MethodId} {meth : Method} {c : Code} (h1 : s.methodNamed? y = some m) (h2 : s.vm.method? m = some meth) (h3 : meth.code = some c) (h4 : c.code = bytes)
    (h5 : (c.maxLocals == mx && c.exceptionTable.isEmpty && decide (c.maxStack ≤ mostOperands) && decide (meth.sig.returnType = rt) && !meth.locks && decide (parseMethodDescriptor y.desc = some meth.sig)) = true) : (Jvm.Cond.code y bytes mx rt).before a s = true := by
  simp only [Bool.and_eq_true, beq_iff_eq, Bool.not_eq_true', decide_eq_true_eq] at h5
  obtain ⟨⟨⟨⟨⟨g1, g2⟩, g3⟩, g4⟩, g5⟩, g6⟩ := h5
  simp [Cond.before, Cond.holds, Cond.value, h1, h2, h3, h4, g1, g2, g3, g4, g5, g6]
def isCode : Jvm.Cond → Bool
  | .code _ _ _ _ => true
  | _ => false
theorem all_split {L : List Jvm.Cond} {P : Jvm.Cond → Bool} (h1 : L.all (fun c => isCode c || P c) = true) (h2 : ∀ c ∈ L.filter isCode, P c = true) : L.all P = true := by
  refine List.all_eq_true.mpr fun c hc => ?_
  have h := List.all_eq_true.mp h1 c hc
  rcases Bool.eq_false_or_eq_true (isCode c) with hi | hi
  · exact h2 c (List.mem_filter.mpr ⟨hc, hi⟩)
  · simpa [hi] using h
set_option maxRecDepth 65536 in
theorem w_c0 : (Jvm.Cond.code x code maxLocals ret).before args0 about1 = true := code_word (m := ⟨1, 1⟩) (meth := k1m1) (c := k1c1) (by decide +kernel) rfl rfl rfl (by decide +kernel)
set_option maxRecDepth 65536 in
theorem w_c1 : (Jvm.Cond.code ({ cls := "com/example/kempt_envelope/kemptenvelope/JsonTape", name := "<init>", desc := "([B)V" } : Jvm.MethodName) prog_17_method_1_code (2 : Nat) (Option.none : Option Jvm.ClassFile.FieldType)).before args0 about1 = true := code_word (m := ⟨2, 0⟩) (meth := k2m0) (c := k2c0) (by decide +kernel) rfl rfl rfl (by decide +kernel)
set_option maxRecDepth 65536 in
theorem w_c2 : (Jvm.Cond.code ({ cls := "java/lang/Object", name := "<init>", desc := "()V" } : Jvm.MethodName) object_method_1_code (1 : Nat) (Option.none : Option Jvm.ClassFile.FieldType)).before args0 about1 = true := code_word (m := ⟨0, 0⟩) (meth := k0m0) (c := k0c0) (by decide +kernel) rfl rfl rfl (by decide +kernel)
set_option maxRecDepth 65536 in
theorem w_c3 : (Jvm.Cond.code ({ cls := "java/lang/Math", name := "min", desc := "(II)I" } : Jvm.MethodName) jdk_29_method_69_code (2 : Nat) (Option.some Jvm.ClassFile.FieldType.int)).before args0 about1 = true := code_word (m := ⟨4, 1⟩) (meth := k4m1) (c := k4c1) (by decide +kernel) rfl rfl rfl (by decide +kernel)
set_option maxRecDepth 65536 in
theorem w_c4 : (Jvm.Cond.code ({ cls := "com/example/kempt_envelope/kemptenvelope/JsonTape", name := "bool", desc := "(I)Z" } : Jvm.MethodName) prog_17_method_22_code (2 : Nat) (Option.some Jvm.ClassFile.FieldType.boolean)).before args0 about1 = true := code_word (m := ⟨2, 1⟩) (meth := k2m1) (c := k2c1) (by decide +kernel) rfl rfl rfl (by decide +kernel)
def codes1 : List Jvm.Cond := [Jvm.Cond.code x code maxLocals ret, Jvm.Cond.code ({ cls := "com/example/kempt_envelope/kemptenvelope/JsonTape", name := "<init>", desc := "([B)V" } : Jvm.MethodName) prog_17_method_1_code (2 : Nat) (Option.none : Option Jvm.ClassFile.FieldType), Jvm.Cond.code ({ cls := "java/lang/Object", name := "<init>", desc := "()V" } : Jvm.MethodName) object_method_1_code (1 : Nat) (Option.none : Option Jvm.ClassFile.FieldType), Jvm.Cond.code ({ cls := "java/lang/Math", name := "min", desc := "(II)I" } : Jvm.MethodName) jdk_29_method_69_code (2 : Nat) (Option.some Jvm.ClassFile.FieldType.int), Jvm.Cond.code ({ cls := "com/example/kempt_envelope/kemptenvelope/JsonTape", name := "bool", desc := "(I)Z" } : Jvm.MethodName) prog_17_method_22_code (2 : Nat) (Option.some Jvm.ClassFile.FieldType.boolean)]
set_option maxRecDepth 65536 in
theorem codes_eq : words1.filter isCode = codes1 := rfl
theorem w_codes : ∀ c ∈ words1.filter isCode, c.before args0 about1 = true := by
  rw [codes_eq]
  intro c hc
  simp only [codes1, List.mem_cons, List.not_mem_nil, or_false] at hc
  rcases hc with rfl | rfl | rfl | rfl | rfl
  · exact w_c0
  · exact w_c1
  · exact w_c2
  · exact w_c3
  · exact w_c4
set_option maxRecDepth 65536 in
theorem w_t1 : (words1.take 24).all (fun c => isCode c || c.before args0 about1) = true := by decide +kernel
set_option maxRecDepth 65536 in
theorem w_t2 : (words1.drop 24).all (fun c => isCode c || c.before args0 about1) = true := by decide +kernel
theorem w_tables : (allAtoms (Jvm.Cond.code x code maxLocals ret :: tables_1)).before args0 about1 = true := by
  rw [allAtoms_all]
  show words1.all (fun c => c.before args0 about1) = true
  refine all_split ?_ w_codes
  rw [← List.take_append_drop 24 words1, List.all_append, w_t1, w_t2]
  rfl
set_option maxRecDepth 65536 in
theorem w_case : (Jvm.Cond.and given_1 narrow_1).before args0 about1 = true := by decide +kernel
theorem w_applies : (headSpec (Jvm.Cond.code x code maxLocals ret :: tables_1) room_1).applies x e0.platform about1 = true :=
  (Spec.applies_iff w_frames).mpr ⟨w_running, w_runnable, w_alone, w_named, w_hears, w_ripe, w_room, w_tables⟩
theorem atStart : AtStart classFile x code maxLocals ret World_1 tables_1 room_1 Calls_1 rest_1 Pre_1 launch0 p0 e0 about1 theMethod args0 below0 :=
  ⟨lists_1, trivial, launch0.admits_env _ _ _, launch0.least_env, fairChoices_fair.cas, fairChoices_fair.clock, w_frames, w_args, w_heap, w_applies, trivial, trivial, w_case⟩
end start1
theorem witness_1 : WitnessClaimed_1 := ⟨start1.p0, start1.e0, start1.about1, start1.theMethod, start1.args0, start1.below0, start1.atStart⟩
end Jvm.Pilot.@@N@@
